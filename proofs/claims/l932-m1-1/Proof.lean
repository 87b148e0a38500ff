import JvmDerived
import JvmDerived.Pilot.@@N@@Statement
import JvmDerived.Pilot.@@N@@Code
set_option linter.unusedVariables false
set_option linter.unusedSimpArgs false
namespace Jvm.RoadKit
open Sem ClassFile Op Lib Jvm.Stand Jvm.Free Jvm.LawKit
section New
variable {p : Program} {l : Launch} {e : Env} {R : Room} {s : State} {m : MethodId} {args : Array Value} {below : List Frame} {meth : Method} {c : Code} {T : State} {locs : List Loc} {cells slots : Nat}
theorem retI (X : Stand p l e R s m args below meth c T locs cells slots) (hx : p.tables.exec = Jvm.exec) {pc : Nat} {Ls : Array Slot} {z : Int32} {rest : List Value} (hret : meth.sig.returnType = some .int) (hd : decode c.code pc = .ok (.ireturn, 1)) {fs : List Frame}
  (hl : ∀ (f : JFrame) (acts : List Action), f.method = m → f.locked = none → f.entered = [] → (doReturn e (T.setTop f) acts (some (.int z))).1 = T.setFrames fs) : Steps p.tables e below (T.setTop (mkF m pc Ls (.int z :: rest))) (T.setFrames fs) := by
 have hm' : T.vm.method? m = some meth := X.method'
 have hn : narrow .int (.int z) = .int z := rfl
 show Steps p.tables e below (T.setTop { method := m, pc := pc, locals := Ls, stack := _ :: rest, locked := none }) _
 jvm_step X.here [X.here.top, hx, hd, hm', hret, hn]
 first | (intro acts; rw [hl _ acts rfl rfl rfl]) | rw [hl _ _ rfl rfl rfl]
 exact Steps.refl _
theorem retD (X : Stand p l e R s m args below meth c T locs cells slots) (hx : p.tables.exec = Jvm.exec) {pc : Nat} {Ls : Array Slot} {z : UInt64} {rest : List Value} (hret : meth.sig.returnType = some .double) (hd : decode c.code pc = .ok (.dreturn, 1)) {fs : List Frame}
  (hl : ∀ (f : JFrame) (acts : List Action), f.method = m → f.locked = none → f.entered = [] → (doReturn e (T.setTop f) acts (some (.double z))).1 = T.setFrames fs) : Steps p.tables e below (T.setTop (mkF m pc Ls (.double z :: rest))) (T.setFrames fs) := by
 have hm' : T.vm.method? m = some meth := X.method'
 have hn : narrow .double (.double z) = .double z := rfl
 show Steps p.tables e below (T.setTop { method := m, pc := pc, locals := Ls, stack := _ :: rest, locked := none }) _
 jvm_step X.here [X.here.top, hx, hd, hm', hret, hn]
 first | (intro acts; rw [hl _ acts rfl rfl rfl]) | rw [hl _ _ rfl rfl rfl]
 exact Steps.refl _
end New
end Jvm.RoadKit
namespace Jvm.Pilot.@@N@@
open Jvm Jvm.ClassFile Sem Op Lib Jvm.Free Jvm.Stand Jvm.LawKit Jvm.RoadKit Bundle Jvm.Pilot.@@N@@.Jvm.D
theorem ninL {x y : Addr} (q : x < y) : x ∉ [y] := ninS (Nat.ne_of_lt q) nin0
theorem ninG {x y : Addr} (q : y < x) : x ∉ [y] := ninS (Nat.ne_of_gt q) nin0
abbrev Rm (a b c d : Nat) : Room := { frames := a, cells := b, slots := c, locals := d }
abbrev HW (Z : State) (a0 : Array Value) : Prop := ∀ d ∈ tables_1, d.before a0 Z = true
theorem wd {Z : State} {a0 : Array Value} (hw : HW Z a0) (i : Nat) {d : Jvm.Cond} (h : tables_1[i]? = some d) : d.before a0 Z = true := hw _ (List.mem_of_getElem? h)
theorem mi (i : Nat) {d : Jvm.Cond} (h : tables_1[i]? = some d) : d ∈ tables_1 := List.mem_of_getElem? h
abbrev sRQ : String := "com/example/frugal_weir/frugalweir/replay/RecordQueue"
abbrev sRA : String := "com/example/frugal_weir/frugalweir/replay/RecentActivity"
abbrev sBK : String := "com/example/frugal_weir/frugalweir/replay/RecordQueue$Block"
abbrev dBK : String := "Lcom/example/frugal_weir/frugalweir/replay/RecordQueue$Block;"
abbrev sAQ : String := "java/util/ArrayDeque"
abbrev dRQ : String := "Lcom/example/frugal_weir/frugalweir/replay/RecordQueue;"
theorem own_selP {s : State} {args : Array Value} {y z : MethodName} (hz : (Cond.selects z.cls z z).before args s = true) (e : z.cls = y.cls) (hpriv : s.PrivateAt y) (hinst : (Cond.instanceMethod y).before args s = true) (hy : y.cls ≠ "java/lang/invoke/MethodHandle" ∧ y.cls ≠ "java/lang/invoke/VarHandle") : (Cond.selects y.cls y y).before args s = true := by
 obtain ⟨c2, r2, m2, q1, q2, q3, q4, kP, hkP, hkPi⟩ := Cond.selects_spec hz
 exact selects_self_of_private (by rw [← e]; exact findClass_of_methodNamed q3) hkP hkPi hpriv hinst hy
theorem own_getFR {p : Program} {l : Launch} {e : Env} {R : Room} {s : State} {m : MethodId} {args : Array Value} {below : List Frame} {meth : Method} {c : Code} {T : State} {locs : List Loc} {cells slots : Nat} {Z : State} {a0 : Array Value} {h : Heap}
  (X : Stand p l e R s m args below meth c T locs cells slots) (hx : p.tables.exec = Jvm.exec) (hZ : Z.Warmed39 s.vm) {own O n d : String} {index : Nat} (hown : s.vm.findClass own = some m.cls) (w : (Cond.fieldRef own index O n d).before a0 Z = true)
  (eT : T.heap = h) {a : Addr} {v : Value} (F : Fld Z h a O n d v) {g : JFrame} (hg : g.method = m) {rest : List Value} (hs : g.stack = .ref a :: rest) (hd : decode c.code g.pc = .ok (.getfield index, 3)) :
  ∃ T', Stand p l e R s m args below meth c T' locs cells slots ∧ T'.heap = h ∧ ∀ target, Steps p.tables e below (T'.setTop { g with pc := g.pc + 3, stack := v :: rest }) target → Steps p.tables e below (T.setTop g) target := by
 obtain ⟨cell, cf, k, i, f, h1, h2, h3, h4, -, -, h7⟩ := F
 have hU : Z.Warmed39 T.vm := wtrans hZ X.warmed
 have w2 : (Cond.fieldRef own index O n d).before a0 (Z.setVm T.vm) = true := Cond.fieldRef_warmed39 hU w
 have hown2 : (Z.setVm T.vm).vm.findClass own = some m.cls := by
  show T.vm.findClass own = some m.cls
  rw [X.warmed.alike.findClass]; exact hown
 obtain ⟨c2, k2, i2, f2, q1, q2⟩ := Cond.fieldRef_spec hown2 w2
 obtain ⟨k3, q3, -⟩ := State.fieldFound?_setVm (s := Z) hU.alike h2
 have q4 := q3.symm.trans q1
 simp only [Option.some.injEq, Prod.mk.injEq] at q4
 obtain ⟨rfl, -, -, rfl⟩ := q4
 exact ⟨T, X, eT, fun target kt => (X.getfieldR hx hg q2 h3 hs (by rw [eT]; exact h1) h4 h7 hd (Steps.refl _)).trans kt⟩
def own_B (K : Int) (x : Int64) : Prop := -K ≤ x.toInt ∧ x.toInt ≤ K
theorem own_d0 : FP.dconst0 = FP.l2d 0 := by decide +kernel
theorem own_k10 : (4621819117588971520 : UInt64) = FP.l2d 10 := by decide +kernel
theorem own_k100 : (4636737291354636288 : UInt64) = FP.l2d 100 := by decide +kernel
def own_min (x y : Int32) : Int32 := if y < x then y else x
def own_max (x y : Int32) : Int32 := if x < y then y else x
def own_inst (x : Int32) : Int32 := if x = 0 then 50 else if x = 1 then 65 else 95
def own_upd (f : Nat → Int64) (i : Nat) (v : Int64) : Nat → Int64 := fun j => if j = i then v else f j
def own_L (f : Nat → Int64) : List Value := (List.range 128).map fun i => .long (f i)
def own_D (g : Nat → Int64) : List Value := (List.range 128).map fun i => .double (FP.l2d (g i))
theorem own_Lget (f : Nat → Int64) {i : Nat} (h : i < 128) (d : Value) : (own_L f).getD i d = .long (f i) := by simp [own_L, List.getD, h]
theorem own_Dget (f : Nat → Int64) {i : Nat} (h : i < 128) (d : Value) : (own_D f).getD i d = .double (FP.l2d (f i)) := by simp [own_D, List.getD, h]
theorem own_Llen (f : Nat → Int64) : (own_L f).length = 128 := by simp [own_L]
theorem own_Dlen (f : Nat → Int64) : (own_D f).length = 128 := by simp [own_D]
theorem own_Lset (f : Nat → Int64) (i : Nat) (v : Int64) : (own_L f).set i (.long v) = own_L (own_upd f i v) := by
 apply List.ext_getElem
 ·simp [own_L]
 ·intro k h1 h2
  rw [List.getElem_set]
  simp only [own_L, own_upd, List.getElem_map, List.getElem_range]
  by_cases q : i = k
  ·subst q; simp
  ·rw [if_neg q, if_neg (fun z => q z.symm)]
theorem own_Dset (f : Nat → Int64) (i : Nat) (v : Int64) : (own_D f).set i (.double (FP.l2d v)) = own_D (own_upd f i v) := by
 apply List.ext_getElem
 ·simp [own_D]
 ·intro k h1 h2
  rw [List.getElem_set]
  simp only [own_D, own_upd, List.getElem_map, List.getElem_range]
  by_cases q : i = k
  ·subst q; simp
  ·rw [if_neg q, if_neg (fun z => q z.symm)]
theorem own_add {a b : Int64} {A B : Int} (ha : own_B A a) (hb : own_B B b) (hA : A < 9007199254740992) (hB : B < 9007199254740992) : FP.dadd (FP.l2d a) (FP.l2d b) = FP.l2d (a + b) := by
 obtain ⟨a1, a2⟩ := ha; obtain ⟨b1, b2⟩ := hb
 exact dadd_w ⟨by omega, by omega⟩ ⟨by omega, by omega⟩
theorem own_sub {a b : Int64} {A B : Int} (ha : own_B A a) (hb : own_B B b) (hA : A < 9007199254740992) (hB : B < 9007199254740992) : FP.dsub (FP.l2d a) (FP.l2d b) = FP.l2d (a - b) := by
 obtain ⟨a1, a2⟩ := ha; obtain ⟨b1, b2⟩ := hb
 exact dsub_w ⟨by omega, by omega⟩ ⟨by omega, by omega⟩
theorem own_cmpw {a b : Int64} {A B : Int} (ha : own_B A a) (hb : own_B B b) (hA : A < 9007199254740992) (hB : B < 9007199254740992) (o : CmpOp) : cmpValue (FP.dcmp (FP.l2d a) (FP.l2d b)) o = lcmpW a b := by
 obtain ⟨a1, a2⟩ := ha; obtain ⟨b1, b2⟩ := hb
 exact dcmpV_w ⟨by omega, by omega⟩ ⟨by omega, by omega⟩ o
theorem own_pn {pl : Int32} (h0 : ¬ pl < 0) (h1 : ¬ (127 : Int32) < pl) : pl.toNatClampNeg < 128 := by
 have := nat_of h0
 rw [Int32.lt_iff_toInt_lt] at h1
 have e : (127 : Int32).toInt = 127 := by decide
 omega
theorem own_cp (vs : List Value) (dv : Value) (N : Nat) (hN : N ≤ 128) (hz : ∀ i, N ≤ i → vs.getD i dv = dv) : ∀ i, vs.getD i dv = ((List.replicate 128 dv).take (0 : Int32).toNatClampNeg ++ ((List.range N).map fun j => vs.getD ((0 : Int32).toNatClampNeg + j) dv) ++ (List.replicate 128 dv).drop ((0 : Int32).toNatClampNeg + N)).getD i dv := fun i => by
 have e0 : (0 : Int32).toNatClampNeg = 0 := by decide
 rw [e0]
 simp only [List.take_zero, List.nil_append, Nat.zero_add]
 by_cases q : i < N
 ·have h1 : i < ((List.range N).map fun j => vs.getD j dv).length := by simpa using q
  rw [List.getD_eq_getElem?_getD (l := _ ++ _), List.getElem?_append_left h1]
  simp [q]
 ·have h1 : ((List.range N).map fun j => vs.getD j dv).length ≤ i := by simp; omega
  rw [List.getD_eq_getElem?_getD (l := _ ++ _), List.getElem?_append_right h1, hz i (by omega)]
  simp only [List.drop_replicate]
  by_cases q2 : i - N < 128 - N <;> simp [List.getElem?_replicate, q2]
theorem own_Lz {f : Nat → Int64} {N : Nat} (hz : ∀ i, N ≤ i → f i = 0) : ∀ i, N ≤ i → (own_L f).getD i (.long 0) = .long 0 := fun i hi => by
 by_cases q : i < 128
 ·rw [own_Lget f q, hz i hi]
 ·simp [own_L, List.getD, q]
theorem own_Dz {f : Nat → Int64} {N : Nat} (hz : ∀ i, N ≤ i → f i = 0) : ∀ i, N ≤ i → (own_D f).getD i (.double (FP.l2d 0)) = .double (FP.l2d 0) := fun i hi => by
 by_cases q : i < 128
 ·rw [own_Dget f q, hz i hi]
 ·simp [own_D, List.getD, q]
theorem own_ltnat {x y : Int32} (h0 : ¬ x < 0) (h : x < y) : x.toNatClampNeg < y.toNatClampNeg := by
 have e : (0 : Int32).toInt = 0 := by decide
 rw [Int32.lt_iff_toInt_lt] at h h0
 have h1 := nat_of (j := x) (by rw [Int32.lt_iff_toInt_lt]; omega)
 have h2 := nat_of (j := y) (by rw [Int32.lt_iff_toInt_lt]; omega)
 omega
theorem own_lenat {x : Int32} {k : Int32} {K : Nat} (hk : k.toNatClampNeg = K) (hk0 : ¬ k < 0) (h : ¬ k < x) : x.toNatClampNeg ≤ K := by
 by_cases h0 : x < 0
 ·have e : (0 : Int32).toInt = 0 := by decide
  rw [Int32.lt_iff_toInt_lt] at h0
  have : x.toNatClampNeg = 0 := by
   show x.toInt.toNat = 0
   omega
  omega
 ·have h1 := nat_of h0
  have h2 := nat_of hk0
  rw [Int32.lt_iff_toInt_lt] at h
  omega
theorem own_rm {pl n : Int32} (hp0 : ¬ pl < 0) (hp1 : ¬ (63 : Int32) < pl) (hn0 : ¬ n < 16) (hn1 : ¬ (64 : Int32) < n) (hge : ¬ pl < n) : n < own_max (pl + 1) (n * 2) ∧ pl < own_max (pl + 1) (n * 2) ∧ ¬ (128 : Int32) < own_max (pl + 1) (n * 2) ∧ ¬ own_max (pl + 1) (n * 2) < 0 ∧ (n = 16 → ¬ (64 : Int32) < own_max (pl + 1) (n * 2)) := by
 have e0 : (0 : Int32).toInt = 0 := by decide
 have e1 : (63 : Int32).toInt = 63 := by decide
 have e2 : (64 : Int32).toInt = 64 := by decide
 have e3 : (16 : Int32).toInt = 16 := by decide
 have e4 : (128 : Int32).toInt = 128 := by decide
 have e5 : (1 : Int32).toInt = 1 := by decide
 have e6 : (2 : Int32).toInt = 2 := by decide
 simp only [Int32.lt_iff_toInt_lt, e0, e1, e2, e3] at hp0 hp1 hn0 hn1 hge
 have a1 : (pl + 1).toInt = pl.toInt + 1 := by rw [Int32.toInt_add, e5]; exact Int.bmod_eq_of_le (by omega) (by omega)
 have a2 : (n * 2).toInt = n.toInt * 2 := by rw [Int32.toInt_mul, e6]; exact Int.bmod_eq_of_le (by omega) (by omega)
 have hn16 : n = 16 → n.toInt = 16 := fun q => by rw [q]; exact e3
 unfold own_max
 by_cases q : pl + 1 < n * 2
 ·rw [if_pos q]
  simp only [Int32.lt_iff_toInt_lt, a1, a2, e0, e4, e2] at q ⊢
  refine ⟨by omega, by omega, by omega, by omega, fun z => ?_⟩
  have := hn16 z; omega
 ·rw [if_neg q]
  simp only [Int32.lt_iff_toInt_lt, a1, a2, e0, e4, e2] at q ⊢
  refine ⟨by omega, by omega, by omega, by omega, fun z => ?_⟩
  omega
theorem own_minl {x y : Int32} (h : x < y) : own_min x y = x := by
 unfold own_min; rw [if_neg]
 rw [Int32.lt_iff_toInt_lt] at h ⊢; omega
theorem own_nelt {x y : Int32} (h : x < y) : ¬ y = x := fun q => by
 subst q; rw [Int32.lt_iff_toInt_lt] at h; omega
def own_lat (cc ss : Int64) : UInt64 := if cc = 0 then FP.l2d 0 else FP.ddiv (FP.l2d ss) (FP.l2d cc)
theorem own_divNN {cc ss : Int64} (h : ¬ cc = 0) : Jvm.Free.Fl.NoNaN64 (FP.ddiv (FP.l2d ss) (FP.l2d cc)) := Jvm.Free.Fl.ddiv_out (Jvm.Free.Fl.l2d_fin ss).noNaN (Jvm.Free.Fl.l2d_fin cc) (Jvm.Free.Fl.l2d_nz h)
theorem own_subB {a b : Int64} {A B : Int} (ha : own_B A a) (hb : own_B B b) (h : A + B < 9007199254740992) : own_B (A + B) (a - b) := by
 obtain ⟨a1, a2⟩ := ha; obtain ⟨b1, b2⟩ := hb
 have e : (a - b).toInt = a.toInt - b.toInt := FP.Core.int64_sub (by omega) (by omega)
 unfold own_B; rw [e]; omega
theorem own_addB {a b : Int64} {A B : Int} (ha : own_B A a) (hb : own_B B b) (h : A + B < 9007199254740992) : own_B (A + B) (a + b) := by
 obtain ⟨a1, a2⟩ := ha; obtain ⟨b1, b2⟩ := hb
 have e : (a + b).toInt = a.toInt + b.toInt := FP.Core.int64_add (by omega) (by omega)
 unfold own_B; rw [e]; omega
theorem own_Bm {K K' : Int} {x : Int64} (h : own_B K x) (hk : K ≤ K') : own_B K' x := by unfold own_B at *; omega
theorem own_updB {f : Nat → Int64} {i : Nat} {v : Int64} {K : Int} (hf : ∀ j, own_B K (f j)) (hv : own_B K v) : ∀ j, own_B K (own_upd f i v j) := fun j => by
 unfold own_upd; split
 ·exact hv
 ·exact hf j
theorem own_updz {f : Nat → Int64} {i N N' : Nat} {v : Int64} (hz : ∀ j, N ≤ j → f j = 0) (hi : i < N') (hN : N ≤ N') : ∀ j, N' ≤ j → own_upd f i v j = 0 := fun j hj => by
 unfold own_upd; rw [if_neg (by omega)]; exact hz j (by omega)
theorem own_padR (d : Value) : ∀ i, (List.replicate 128 d).getD i d = ([] : List Value).getD i d := fun i => by
 rw [List.getD_eq_getElem?_getD]
 by_cases q : i < 128
 ·rw [List.getElem?_replicate, if_pos q]; rfl
 ·rw [List.getElem?_replicate, if_neg q]; rfl
theorem own_63 (x : Int32) : ¬ (x &&& (63 : Int32)) < 0 ∧ ¬ (63 : Int32) < (x &&& (63 : Int32)) := by
 have h := c_and x 63 (by decide)
 have e : (63 : Int32).toInt = 63 := by decide
 have e0 : (0 : Int32).toInt = 0 := by decide
 rw [Int32.lt_iff_toInt_lt, Int32.lt_iff_toInt_lt]
 omega
theorem own_latB (x : Int32) : own_B 2147483648 (x &&& (2147483647 : Int32)).toInt64 := by
 have h := c_and x 2147483647 (by decide)
 have e : (2147483647 : Int32).toInt = 2147483647 := by decide
 unfold own_B
 rw [Int32.toInt_toInt64]
 omega
theorem own_rem3 (x : Int32) : (x &&& (3 : Int32)) % (3 : Int32) = 0 ∨ (x &&& (3 : Int32)) % (3 : Int32) = 1 ∨ (x &&& (3 : Int32)) % (3 : Int32) = 2 := by
 have h1 := c_and x 3 (by decide)
 have h2 := (c_irem (x &&& 3) 3 3 (by decide)).1 h1.1
 have e : ∀ k : Int32, ((x &&& (3 : Int32)) % (3 : Int32)).toInt = k.toInt → (x &&& (3 : Int32)) % (3 : Int32) = k := fun k q => Int32.toInt_inj.mp q
 have c : ((x &&& (3 : Int32)) % (3 : Int32)).toInt = 0 ∨ ((x &&& (3 : Int32)) % (3 : Int32)).toInt = 1 ∨ ((x &&& (3 : Int32)) % (3 : Int32)).toInt = 2 := by omega
 rcases c with c | c | c
 ·exact Or.inl (e 0 (by rw [c]; decide))
 ·exact Or.inr (Or.inl (e 1 (by rw [c]; decide)))
 ·exact Or.inr (Or.inr (e 2 (by rw [c]; decide)))
theorem own_and3 (p : Int32) : p &&& (3 : Int32) = 0 ∨ p &&& (3 : Int32) = 1 ∨ p &&& (3 : Int32) = 2 ∨ p &&& (3 : Int32) = 3 := by
 have h := c_mask p 3 2 (by decide) (by decide)
 have h2 : 0 ≤ (p &&& (3 : Int32)).toInt ∧ (p &&& (3 : Int32)).toInt < 4 := by rw [h]; omega
 have e : ∀ k : Int32, (p &&& (3 : Int32)).toInt = k.toInt → p &&& (3 : Int32) = k := fun k q => Int32.toInt_inj.mp q
 have c : (p &&& (3 : Int32)).toInt = 0 ∨ (p &&& (3 : Int32)).toInt = 1 ∨ (p &&& (3 : Int32)).toInt = 2 ∨ (p &&& (3 : Int32)).toInt = 3 := by omega
 rcases c with c | c | c | c
 ·exact Or.inl (e 0 (by rw [c]; decide))
 ·exact Or.inr (Or.inl (e 1 (by rw [c]; decide)))
 ·exact Or.inr (Or.inr (Or.inl (e 2 (by rw [c]; decide))))
 ·exact Or.inr (Or.inr (Or.inr (e 3 (by rw [c]; decide))))
def own_old (x : Int32) : Int32 := if x = 0 then -1000 else if x = 1 then 45 else if x = 2 then 60 else 75
theorem own_instB (x : Int32) : own_B 1000 (own_inst x).toInt64 := by
 unfold own_inst own_B
 split
 ·decide
 ·split <;> decide
theorem own_itB (x : Int32) : own_B 1000 (own_old x + (10 : Int32)).toInt64 ∧ (own_old x + (10 : Int32)).toInt64 < 100 := by
 unfold own_old own_B
 split
 ·decide
 ·split
  ·decide
  ·split <;> decide
/-- which (t1, t2) there are -/
theorem own_tt {x y : Int32} (hx : x = 0 ∨ x = 1 ∨ x = 2) (hy : y = 0 ∨ y = 1 ∨ y = 2) : (own_inst x = 50 ∧ own_inst (own_min 2 (x + y)) = 50) ∨ (own_inst x = 50 ∧ own_inst (own_min 2 (x + y)) = 65) ∨ (own_inst x = 50 ∧ own_inst (own_min 2 (x + y)) = 95) ∨ (own_inst x = 65 ∧ own_inst (own_min 2 (x + y)) = 65) ∨ (own_inst x = 65 ∧ own_inst (own_min 2 (x + y)) = 95) ∨ (own_inst x = 95 ∧ own_inst (own_min 2 (x + y)) = 95) := by
 rcases hx with rfl | rfl | rfl <;> rcases hy with rfl | rfl | rfl <;> decide
def own_c (pl ask ol t : Int32) (c : Int64) : Int64 := if pl = ask ∧ ol < t then c + 1 else c
def own_s (pl ask ol t la : Int32) (s : Int64) : Int64 := if pl = ask ∧ ol < t then s + la.toInt64 else s
theorem own_latNN (cc ss : Int64) : Jvm.Free.Fl.NoNaN64 (own_lat cc ss) := by
 unfold own_lat; split
 ·exact (Jvm.Free.Fl.l2d_fin _).noNaN
 ·rename_i h; exact own_divNN h
theorem own_eqlat {a b c d : Int64} (h1 : a = c) (h2 : b = d) (o : CmpOp) : cmpValue (FP.dcmp (own_lat a b) (own_lat c d)) o = 0 := by
 subst h1 h2; exact dcmpV_self (own_latNN _ _) o
theorem own_nat_inj {x y : Int32} (hx : ¬ x < 0) (hy : ¬ y < 0) : x.toNatClampNeg = y.toNatClampNeg ↔ x = y := by
 constructor
 ·intro h
  have h1 := nat_of hx
  have h2 := nat_of hy
  exact Int32.toInt_inj.mp (by omega)
 ·rintro rfl; rfl
theorem dMN_0 : decode jdk_29_method_69_code 0 = .ok (.iload_n 0, 1) := by decide +kernel
theorem dMN_1 : decode jdk_29_method_69_code 1 = .ok (.iload_n 1, 1) := by decide +kernel
theorem dMN_2 : decode jdk_29_method_69_code 2 = .ok (.if_icmp .gt 7, 3) := by decide +kernel
theorem dMN_9 : decode jdk_29_method_69_code 9 = .ok (.iload_n 1, 1) := by decide +kernel
theorem dMN_10 : decode jdk_29_method_69_code 10 = .ok (.ireturn, 1) := by decide +kernel
theorem dMN_5 : decode jdk_29_method_69_code 5 = .ok (.iload_n 0, 1) := by decide +kernel
theorem dMN_6 : decode jdk_29_method_69_code 6 = .ok (.goto 4, 3) := by decide +kernel
theorem ef_MN (m : MethodId) (x0 : Int32) (x1 : Int32) : entryFrame m #[(.int x0), (.int x1)] 2 = mkF m 0 #[.val (.int x0), .val (.int x1)] [] := by first | (simp [entryFrame, mkF, argsToLocals, Value.category]; done) | rfl
def QMN (Z : State) (ia : Int32) (ib : Int32) (h0 : Heap) (n0 : Nat) (v : Option Value) (h : Heap) (L : List Loc) : Prop := v = some (.int (own_min ia ib)) ∧ Fr n0 L ∧ h = h0
set_option maxRecDepth 65536 in
set_option maxHeartbeats 40000000 in
theorem rmMN (l : Launch) (Z : State) (a0 : Array Value) (hw : HW Z a0) (ws : List Jvm.Cond) (ia : Int32) (ib : Int32) (h0 : Heap) (n0 : Nat) (Z0 : n0 ≤ h0.size) :
  MetFree l (⟨"java/lang/Math", "min", "(II)I"⟩ : MethodName) (head1 (Jvm.Cond.code (⟨"java/lang/Math", "min", "(II)I"⟩ : MethodName) jdk_29_method_69_code 2 (some .int) :: ws) (Rm 0 0 0 0)) (fun a U => a = #[(.int ia), (.int ib)] ∧ Z.Warmed39 U.vm ∧ U.heap = h0) (fun _ _ _ _ _ => True) (fun _ U o U' => ∃ v L, o = .returned v ∧ QMN Z ia ib h0 n0 v U'.heap L ∧ FrameEnd U o U' L (Rm 0 0 0 0).cells (Rm 0 0 0 0).slots) := by
 refine MetFree.of_bodySF (Jvm.Free.JP.mathPlain rfl (by decide +kernel)) hisR ?_
 intro p e s m args below meth c s₁ Bd hml0 hP hK
 obtain ⟨rfl, hZ, hh⟩ := hP
 have hx := Bd.exec
 have hby := Bd.bytes
 have hml : c.maxLocals = 2 := hml0
 have hown : s.vm.findClass "java/lang/Math" = some m.cls := findClass_of_methodNamed Bd.named
 have hnm := (name_of_methodNamed Bd.named Bd.method).1
 have X0 : Stand p l e (Rm 0 0 0 0) s m #[(.int ia), (.int ib)] below meth c s₁ [] 0 0 := Stand.of_body Bd
 have e0 : s₁.heap = h0 := by rw [← hh, Bd.state]; rfl
 have N0 := Fr.nil n0
 have K0 : Keep h0 h0 [] := Keep.refl h0 []
 have pre0 : ∀ t, Steps p.tables e below (s₁.setTop (mkF m 0 #[.val (.int ia), .val (.int ib)] [])) t → Steps p.tables e below (s₁.setTop (entryFrame m #[(.int ia), (.int ib)] 2)) t := fun t k => castTop (ef_MN m ia ib) k
 have R1 : ∀ t, Steps p.tables e below (s₁.setTop (mkF m 2 #[.val (.int ia), .val (.int ib)] [(.int ib), (.int ia)])) t → Steps p.tables e below (s₁.setTop (entryFrame m #[(.int ia), (.int ib)] 2)) t := by
  intro t kt
  refine pre0 _ ?_
  show Steps _ _ _ (s₁.setTop (mkF m 0 #[.val (.int ia), .val (.int ib)] [])) _
  refine XS.iloadN X0.here hx rfl (hb hby dMN_0) rfl ?_
  refine XS.iloadN X0.here hx rfl (hb hby dMN_1) rfl ?_
  show Steps _ _ _ (s₁.setTop (mkF m 2 #[.val (.int ia), .val (.int ib)] [(.int ib), (.int ia)])) _
  exact kt
 by_cases hq : ib < ia
 ·
  obtain ⟨fs, hr, hrun, hended, hW, hsame⟩ := X0.leave (v := some (.int ib)) (fun h => by rw [Bd.returns] at h; cases h)
  refine ⟨_, _, ?_, hrun, hended, _, _, rfl, ?_, ⟨_, rfl⟩, hW, hsame.mono (by decide) (by decide)⟩
  ·refine R1 _ ?_
   show Steps _ _ _ (s₁.setTop (mkF m 2 #[.val (.int ia), .val (.int ib)] [(.int ib), (.int ia)])) _
   refine XS.icmpYes X0.here hx rfl (pc0 := 2) (pc' := 9) rfl (hb hby dMN_2) rfl (tlt hq).2.2.1 (by decide) (by decide) ?_
   refine XS.iloadN X0.here hx rfl (hb hby dMN_9) rfl ?_
   show Steps _ _ _ (s₁.setTop (mkF m 10 #[.val (.int ia), .val (.int ib)] [(.int ib)])) _
   exact retI X0 hx Bd.returns (hb hby dMN_10) hr
  ·show QMN Z ia ib h0 n0 _ s₁.heap _
   rw [e0]
   exact ⟨by rw [own_min, if_pos hq], N0, rfl⟩
 ·
  obtain ⟨fs, hr, hrun, hended, hW, hsame⟩ := X0.leave (v := some (.int ia)) (fun h => by rw [Bd.returns] at h; cases h)
  refine ⟨_, _, ?_, hrun, hended, _, _, rfl, ?_, ⟨_, rfl⟩, hW, hsame.mono (by decide) (by decide)⟩
  ·refine R1 _ ?_
   show Steps _ _ _ (s₁.setTop (mkF m 2 #[.val (.int ia), .val (.int ib)] [(.int ib), (.int ia)])) _
   refine XS.icmpNo X0.here hx rfl (hb hby dMN_2) rfl (flt hq).2.2.1 ?_
   refine XS.iloadN X0.here hx rfl (hb hby dMN_5) rfl ?_
   refine XS.goto X0.here hx rfl (pc0 := 6) (pc' := 10) rfl (hb hby dMN_6) (by decide) (by decide) ?_
   show Steps _ _ _ (s₁.setTop (mkF m 10 #[.val (.int ia), .val (.int ib)] [(.int ia)])) _
   exact retI X0 hx Bd.returns (hb hby dMN_10) hr
  ·show QMN Z ia ib h0 n0 _ s₁.heap _
   rw [e0]
   exact ⟨by rw [own_min, if_neg hq], N0, rfl⟩
theorem dMX_0 : decode jdk_29_method_65_code 0 = .ok (.iload_n 0, 1) := by decide +kernel
theorem dMX_1 : decode jdk_29_method_65_code 1 = .ok (.iload_n 1, 1) := by decide +kernel
theorem dMX_2 : decode jdk_29_method_65_code 2 = .ok (.if_icmp .lt 7, 3) := by decide +kernel
theorem dMX_9 : decode jdk_29_method_65_code 9 = .ok (.iload_n 1, 1) := by decide +kernel
theorem dMX_10 : decode jdk_29_method_65_code 10 = .ok (.ireturn, 1) := by decide +kernel
theorem dMX_5 : decode jdk_29_method_65_code 5 = .ok (.iload_n 0, 1) := by decide +kernel
theorem dMX_6 : decode jdk_29_method_65_code 6 = .ok (.goto 4, 3) := by decide +kernel
theorem ef_MX (m : MethodId) (x0 : Int32) (x1 : Int32) : entryFrame m #[(.int x0), (.int x1)] 2 = mkF m 0 #[.val (.int x0), .val (.int x1)] [] := by first | (simp [entryFrame, mkF, argsToLocals, Value.category]; done) | rfl
def QMX (Z : State) (ia : Int32) (ib : Int32) (h0 : Heap) (n0 : Nat) (v : Option Value) (h : Heap) (L : List Loc) : Prop := v = some (.int (own_max ia ib)) ∧ Fr n0 L ∧ h = h0
set_option maxRecDepth 65536 in
set_option maxHeartbeats 40000000 in
theorem rmMX (l : Launch) (Z : State) (a0 : Array Value) (hw : HW Z a0) (ws : List Jvm.Cond) (ia : Int32) (ib : Int32) (h0 : Heap) (n0 : Nat) (Z0 : n0 ≤ h0.size) :
  MetFree l (⟨"java/lang/Math", "max", "(II)I"⟩ : MethodName) (head1 (Jvm.Cond.code (⟨"java/lang/Math", "max", "(II)I"⟩ : MethodName) jdk_29_method_65_code 2 (some .int) :: ws) (Rm 0 0 0 0)) (fun a U => a = #[(.int ia), (.int ib)] ∧ Z.Warmed39 U.vm ∧ U.heap = h0) (fun _ _ _ _ _ => True) (fun _ U o U' => ∃ v L, o = .returned v ∧ QMX Z ia ib h0 n0 v U'.heap L ∧ FrameEnd U o U' L (Rm 0 0 0 0).cells (Rm 0 0 0 0).slots) := by
 refine MetFree.of_bodySF (Jvm.Free.JP.mathPlain rfl (by decide +kernel)) hisR ?_
 intro p e s m args below meth c s₁ Bd hml0 hP hK
 obtain ⟨rfl, hZ, hh⟩ := hP
 have hx := Bd.exec
 have hby := Bd.bytes
 have hml : c.maxLocals = 2 := hml0
 have hown : s.vm.findClass "java/lang/Math" = some m.cls := findClass_of_methodNamed Bd.named
 have hnm := (name_of_methodNamed Bd.named Bd.method).1
 have X0 : Stand p l e (Rm 0 0 0 0) s m #[(.int ia), (.int ib)] below meth c s₁ [] 0 0 := Stand.of_body Bd
 have e0 : s₁.heap = h0 := by rw [← hh, Bd.state]; rfl
 have N0 := Fr.nil n0
 have K0 : Keep h0 h0 [] := Keep.refl h0 []
 have pre0 : ∀ t, Steps p.tables e below (s₁.setTop (mkF m 0 #[.val (.int ia), .val (.int ib)] [])) t → Steps p.tables e below (s₁.setTop (entryFrame m #[(.int ia), (.int ib)] 2)) t := fun t k => castTop (ef_MX m ia ib) k
 have R2 : ∀ t, Steps p.tables e below (s₁.setTop (mkF m 2 #[.val (.int ia), .val (.int ib)] [(.int ib), (.int ia)])) t → Steps p.tables e below (s₁.setTop (entryFrame m #[(.int ia), (.int ib)] 2)) t := by
  intro t kt
  refine pre0 _ ?_
  show Steps _ _ _ (s₁.setTop (mkF m 0 #[.val (.int ia), .val (.int ib)] [])) _
  refine XS.iloadN X0.here hx rfl (hb hby dMX_0) rfl ?_
  refine XS.iloadN X0.here hx rfl (hb hby dMX_1) rfl ?_
  show Steps _ _ _ (s₁.setTop (mkF m 2 #[.val (.int ia), .val (.int ib)] [(.int ib), (.int ia)])) _
  exact kt
 by_cases hq : ia < ib
 ·
  obtain ⟨fs, hr, hrun, hended, hW, hsame⟩ := X0.leave (v := some (.int ib)) (fun h => by rw [Bd.returns] at h; cases h)
  refine ⟨_, _, ?_, hrun, hended, _, _, rfl, ?_, ⟨_, rfl⟩, hW, hsame.mono (by decide) (by decide)⟩
  ·refine R2 _ ?_
   show Steps _ _ _ (s₁.setTop (mkF m 2 #[.val (.int ia), .val (.int ib)] [(.int ib), (.int ia)])) _
   refine XS.icmpYes X0.here hx rfl (pc0 := 2) (pc' := 9) rfl (hb hby dMX_2) rfl (tlt hq).1 (by decide) (by decide) ?_
   refine XS.iloadN X0.here hx rfl (hb hby dMX_9) rfl ?_
   show Steps _ _ _ (s₁.setTop (mkF m 10 #[.val (.int ia), .val (.int ib)] [(.int ib)])) _
   exact retI X0 hx Bd.returns (hb hby dMX_10) hr
  ·show QMX Z ia ib h0 n0 _ s₁.heap _
   rw [e0]
   exact ⟨by rw [own_max, if_pos hq], N0, rfl⟩
 ·
  obtain ⟨fs, hr, hrun, hended, hW, hsame⟩ := X0.leave (v := some (.int ia)) (fun h => by rw [Bd.returns] at h; cases h)
  refine ⟨_, _, ?_, hrun, hended, _, _, rfl, ?_, ⟨_, rfl⟩, hW, hsame.mono (by decide) (by decide)⟩
  ·refine R2 _ ?_
   show Steps _ _ _ (s₁.setTop (mkF m 2 #[.val (.int ia), .val (.int ib)] [(.int ib), (.int ia)])) _
   refine XS.icmpNo X0.here hx rfl (hb hby dMX_2) rfl (flt hq).1 ?_
   refine XS.iloadN X0.here hx rfl (hb hby dMX_5) rfl ?_
   refine XS.goto X0.here hx rfl (pc0 := 6) (pc' := 10) rfl (hb hby dMX_6) (by decide) (by decide) ?_
   show Steps _ _ _ (s₁.setTop (mkF m 10 #[.val (.int ia), .val (.int ib)] [(.int ia)])) _
   exact retI X0 hx Bd.returns (hb hby dMX_10) hr
  ·show QMX Z ia ib h0 n0 _ s₁.heap _
   rw [e0]
   exact ⟨by rw [own_max, if_neg hq], N0, rfl⟩
theorem dINS_0 : decode method_3_code 0 = .ok (.iload_n 0, 1) := by decide +kernel
theorem dINS_1 : decode method_3_code 1 = .ok (.ifCond .ne 8, 3) := by decide +kernel
theorem dINS_4 : decode method_3_code 4 = .ok (.bipush 50, 2) := by decide +kernel
theorem dINS_6 : decode method_3_code 6 = .ok (.goto 15, 3) := by decide +kernel
theorem dINS_21 : decode method_3_code 21 = .ok (.ireturn, 1) := by decide +kernel
theorem dINS_9 : decode method_3_code 9 = .ok (.iload_n 0, 1) := by decide +kernel
theorem dINS_10 : decode method_3_code 10 = .ok (.iconst 1, 1) := by decide +kernel
theorem dINS_11 : decode method_3_code 11 = .ok (.if_icmp .ne 8, 3) := by decide +kernel
theorem dINS_14 : decode method_3_code 14 = .ok (.bipush 65, 2) := by decide +kernel
theorem dINS_16 : decode method_3_code 16 = .ok (.goto 5, 3) := by decide +kernel
theorem dINS_19 : decode method_3_code 19 = .ok (.bipush 95, 2) := by decide +kernel
theorem pn_com_example_frugal_weir_frugalweir_replay_RecentActivityExecutorLatencyPinLaw : plainName "com/example/frugal_weir/frugalweir/replay/RecentActivityExecutorLatencyPinLaw" = true := by first | (simp [plainName, overriddenIn]; done) | decide +kernel
theorem ef_INS (m : MethodId) (x0 : Int32) : entryFrame m #[(.int x0)] 1 = mkF m 0 #[.val (.int x0)] [] := by first | (simp [entryFrame, mkF, argsToLocals, Value.category]; done) | rfl
def QINS (Z : State) (ia : Int32) (h0 : Heap) (n0 : Nat) (v : Option Value) (h : Heap) (L : List Loc) : Prop := v = some (.int (own_inst ia)) ∧ Fr n0 L ∧ h = h0
set_option maxRecDepth 65536 in
set_option maxHeartbeats 40000000 in
theorem rmINS (l : Launch) (Z : State) (a0 : Array Value) (hw : HW Z a0) (ws : List Jvm.Cond) (ia : Int32) (h0 : Heap) (n0 : Nat) (Z0 : n0 ≤ h0.size) :
  MetFree l (⟨"com/example/frugal_weir/frugalweir/replay/RecentActivityExecutorLatencyPinLaw", "instant", "(I)I"⟩ : MethodName) (head1 (Jvm.Cond.code (⟨"com/example/frugal_weir/frugalweir/replay/RecentActivityExecutorLatencyPinLaw", "instant", "(I)I"⟩ : MethodName) method_3_code 1 (some .int) :: ws) (Rm 0 0 0 0)) (fun a U => a = #[(.int ia)] ∧ Z.Warmed39 U.vm ∧ U.heap = h0) (fun _ _ _ _ _ => True) (fun _ U o U' => ∃ v L, o = .returned v ∧ QINS Z ia h0 n0 v U'.heap L ∧ FrameEnd U o U' L (Rm 0 0 0 0).cells (Rm 0 0 0 0).slots) := by
 refine MetFree.of_bodySF (plainFor_of_name pn_com_example_frugal_weir_frugalweir_replay_RecentActivityExecutorLatencyPinLaw) hisR ?_
 intro p e s m args below meth c s₁ Bd hml0 hP hK
 obtain ⟨rfl, hZ, hh⟩ := hP
 have hx := Bd.exec
 have hby := Bd.bytes
 have hml : c.maxLocals = 1 := hml0
 have hown : s.vm.findClass "com/example/frugal_weir/frugalweir/replay/RecentActivityExecutorLatencyPinLaw" = some m.cls := findClass_of_methodNamed Bd.named
 have hnm := (name_of_methodNamed Bd.named Bd.method).1
 have X0 : Stand p l e (Rm 0 0 0 0) s m #[(.int ia)] below meth c s₁ [] 0 0 := Stand.of_body Bd
 have e0 : s₁.heap = h0 := by rw [← hh, Bd.state]; rfl
 have N0 := Fr.nil n0
 have K0 : Keep h0 h0 [] := Keep.refl h0 []
 have pre0 : ∀ t, Steps p.tables e below (s₁.setTop (mkF m 0 #[.val (.int ia)] [])) t → Steps p.tables e below (s₁.setTop (entryFrame m #[(.int ia)] 1)) t := fun t k => castTop (ef_INS m ia) k
 have R3 : ∀ t, Steps p.tables e below (s₁.setTop (mkF m 1 #[.val (.int ia)] [(.int ia)])) t → Steps p.tables e below (s₁.setTop (entryFrame m #[(.int ia)] 1)) t := by
  intro t kt
  refine pre0 _ ?_
  show Steps _ _ _ (s₁.setTop (mkF m 0 #[.val (.int ia)] [])) _
  refine XS.iloadN X0.here hx rfl (hb hby dINS_0) rfl ?_
  show Steps _ _ _ (s₁.setTop (mkF m 1 #[.val (.int ia)] [(.int ia)])) _
  exact kt
 by_cases h0c : ia = 0
 ·
  obtain ⟨fs, hr, hrun, hended, hW, hsame⟩ := X0.leave (v := some (.int (50 : Int32))) (fun h => by rw [Bd.returns] at h; cases h)
  refine ⟨_, _, ?_, hrun, hended, _, _, rfl, ?_, ⟨_, rfl⟩, hW, hsame.mono (by decide) (by decide)⟩
  ·refine R3 _ ?_
   show Steps _ _ _ (s₁.setTop (mkF m 1 #[.val (.int ia)] [(.int ia)])) _
   refine XS.ifNo X0.here hx rfl (hb hby dINS_1) rfl ((if0 _ _).trans (teq h0c).2) ?_
   refine XS.bipush X0.here hx rfl (hb hby dINS_4) ?_
   refine XS.goto X0.here hx rfl (pc0 := 6) (pc' := 21) rfl (hb hby dINS_6) (by decide) (by decide) ?_
   show Steps _ _ _ (s₁.setTop (mkF m 21 #[.val (.int ia)] [(.int (50 : Int32))])) _
   exact retI X0 hx Bd.returns (hb hby dINS_21) hr
  ·show QINS Z ia h0 n0 _ s₁.heap _
   rw [e0]
   exact ⟨by rw [own_inst, if_pos h0c], N0, rfl⟩
 ·
  have R4 : ∀ t, Steps p.tables e below (s₁.setTop (mkF m 11 #[.val (.int ia)] [(.int (1 : Int32)), (.int ia)])) t → Steps p.tables e below (s₁.setTop (entryFrame m #[(.int ia)] 1)) t := by
   intro t kt
   refine R3 _ ?_
   show Steps _ _ _ (s₁.setTop (mkF m 1 #[.val (.int ia)] [(.int ia)])) _
   refine XS.ifYes X0.here hx rfl (pc0 := 1) (pc' := 9) rfl (hb hby dINS_1) rfl ((if0 _ _).trans (feq h0c).2) (by decide) (by decide) ?_
   refine XS.iloadN X0.here hx rfl (hb hby dINS_9) rfl ?_
   refine XS.iconst X0.here hx rfl (hb hby dINS_10) ?_
   show Steps _ _ _ (s₁.setTop (mkF m 11 #[.val (.int ia)] [(.int (1 : Int32)), (.int ia)])) _
   exact kt
  by_cases h1c : ia = 1
  ·
   obtain ⟨fs, hr, hrun, hended, hW, hsame⟩ := X0.leave (v := some (.int (65 : Int32))) (fun h => by rw [Bd.returns] at h; cases h)
   refine ⟨_, _, ?_, hrun, hended, _, _, rfl, ?_, ⟨_, rfl⟩, hW, hsame.mono (by decide) (by decide)⟩
   ·refine R4 _ ?_
    show Steps _ _ _ (s₁.setTop (mkF m 11 #[.val (.int ia)] [(.int (1 : Int32)), (.int ia)])) _
    refine XS.icmpNo X0.here hx rfl (hb hby dINS_11) rfl (teq h1c).2 ?_
    refine XS.bipush X0.here hx rfl (hb hby dINS_14) ?_
    refine XS.goto X0.here hx rfl (pc0 := 16) (pc' := 21) rfl (hb hby dINS_16) (by decide) (by decide) ?_
    show Steps _ _ _ (s₁.setTop (mkF m 21 #[.val (.int ia)] [(.int (65 : Int32))])) _
    exact retI X0 hx Bd.returns (hb hby dINS_21) hr
   ·show QINS Z ia h0 n0 _ s₁.heap _
    rw [e0]
    exact ⟨by rw [own_inst, if_neg h0c, if_pos h1c], N0, rfl⟩
  ·
   obtain ⟨fs, hr, hrun, hended, hW, hsame⟩ := X0.leave (v := some (.int (95 : Int32))) (fun h => by rw [Bd.returns] at h; cases h)
   refine ⟨_, _, ?_, hrun, hended, _, _, rfl, ?_, ⟨_, rfl⟩, hW, hsame.mono (by decide) (by decide)⟩
   ·refine R4 _ ?_
    show Steps _ _ _ (s₁.setTop (mkF m 11 #[.val (.int ia)] [(.int (1 : Int32)), (.int ia)])) _
    refine XS.icmpYes X0.here hx rfl (pc0 := 11) (pc' := 19) rfl (hb hby dINS_11) rfl (feq h1c).2 (by decide) (by decide) ?_
    refine XS.bipush X0.here hx rfl (hb hby dINS_19) ?_
    show Steps _ _ _ (s₁.setTop (mkF m 21 #[.val (.int ia)] [(.int (95 : Int32))])) _
    exact retI X0 hx Bd.returns (hb hby dINS_21) hr
   ·show QINS Z ia h0 n0 _ s₁.heap _
    rw [e0]
    exact ⟨by rw [own_inst, if_neg h0c, if_neg h1c], N0, rfl⟩
theorem dAC_0 : decode jdk_22_method_1_code 0 = .ok (.aload_n 0, 1) := by decide +kernel
theorem dAC_1 : decode jdk_22_method_1_code 1 = .ok (.invokespecial 1, 3) := by decide +kernel
theorem dAC_4 : decode jdk_22_method_1_code 4 = .ok (.return_, 1) := by decide +kernel
theorem pn_java_util_AbstractCollection : plainName "java/util/AbstractCollection" = true := by first | (simp [plainName, overriddenIn]; done) | decide +kernel
theorem ef_AC (m : MethodId) (x0 : Addr) : entryFrame m #[(.ref x0)] 1 = mkF m 0 #[.val (.ref x0)] [] := by first | (simp [entryFrame, mkF, argsToLocals, Value.category]; done) | rfl
def QAC (Z : State) (th : Addr) (h0 : Heap) (n0 : Nat) (v : Option Value) (h : Heap) (L : List Loc) : Prop := v = none ∧ Fr n0 L ∧ h = h0
set_option maxRecDepth 65536 in
set_option maxHeartbeats 40000000 in
theorem rmAC (l : Launch) (Z : State) (a0 : Array Value) (hw : HW Z a0) (ws : List Jvm.Cond) (th : Addr) (h0 : Heap) (n0 : Nat) (Z0 : n0 ≤ h0.size) :
  MetFree l (⟨"java/util/AbstractCollection", "<init>", "()V"⟩ : MethodName) (head1 (Jvm.Cond.code (⟨"java/util/AbstractCollection", "<init>", "()V"⟩ : MethodName) jdk_22_method_1_code 1 none :: ws) (Rm 1 0 0 12)) (fun a U => a = #[(.ref th)] ∧ Z.Warmed39 U.vm ∧ U.heap = h0) (fun _ _ _ _ _ => True) (fun _ U o U' => ∃ v L, o = .returned v ∧ QAC Z th h0 n0 v U'.heap L ∧ FrameEnd U o U' L (Rm 1 0 0 12).cells (Rm 1 0 0 12).slots) := by
 refine MetFree.of_bodySF (plainFor_of_name pn_java_util_AbstractCollection) hisR ?_
 intro p e s m args below meth c s₁ Bd hml0 hP hK
 obtain ⟨rfl, hZ, hh⟩ := hP
 have hx := Bd.exec
 have hby := Bd.bytes
 have hml : c.maxLocals = 1 := hml0
 have hown : s.vm.findClass "java/util/AbstractCollection" = some m.cls := findClass_of_methodNamed Bd.named
 have hnm := (name_of_methodNamed Bd.named Bd.method).1
 have X0 : Stand p l e (Rm 1 0 0 12) s m #[(.ref th)] below meth c s₁ [] 0 0 := Stand.of_body Bd
 have e0 : s₁.heap = h0 := by rw [← hh, Bd.state]; rfl
 have N0 := Fr.nil n0
 have K0 : Keep h0 h0 [] := Keep.refl h0 []
 have pre0 : ∀ t, Steps p.tables e below (s₁.setTop (mkF m 0 #[.val (.ref th)] [])) t → Steps p.tables e below (s₁.setTop (entryFrame m #[(.ref th)] 1)) t := fun t k => castTop (ef_AC m th) k
 obtain ⟨T5, X5, e5, st5⟩ := initO X0 hx hZ hown (wd hw 45 rfl) (wd hw 18 rfl) (wd hw 19 rfl) e0 (g := (mkF m 1 #[.val (.ref th)] [(.ref th)])) rfl (by rw [hml]; rfl) rfl (hb hby dAC_1) (by decide) (W := 0) (by show 2 * 0 + _ ≤ _; exact Nat.le_of_eq rfl) (by decide)
 obtain ⟨fs, hr, hrun, hended, hW, hsame⟩ := X5.leave (v := none) (fun _ => rfl)
 refine ⟨_, _, ?_, hrun, hended, _, _, rfl, ?_, ⟨_, rfl⟩, hW, hsame.mono (by decide) (by decide)⟩
 ·refine pre0 _ ?_
  show Steps _ _ _ (s₁.setTop (mkF m 0 #[.val (.ref th)] [])) _
  refine XS.aloadN X0.here hx rfl (hb hby dAC_0) rfl rfl ?_
  refine st5 _ ?_
  show Steps _ _ _ (T5.setTop (mkF m 4 #[.val (.ref th)] [])) _
  exact X5.returnOut hx Bd.returns (hb hby dAC_4) hr
 ·show QAC Z th h0 n0 _ T5.heap _
  rw [e5]
  exact ⟨rfl, N0, rfl⟩
theorem dAD_0 : decode jdk_21_method_3_code 0 = .ok (.aload_n 0, 1) := by decide +kernel
theorem dAD_1 : decode jdk_21_method_3_code 1 = .ok (.invokespecial 42, 3) := by decide +kernel
theorem pd_1 : parseMethodDescriptor "()V" = some ⟨[], none⟩ := by decide +kernel
theorem dAD_4 : decode jdk_21_method_3_code 4 = .ok (.aload_n 0, 1) := by decide +kernel
theorem dAD_5 : decode jdk_21_method_3_code 5 = .ok (.bipush 17, 2) := by decide +kernel
theorem dAD_7 : decode jdk_21_method_3_code 7 = .ok (.anewarray 47, 3) := by decide +kernel
theorem dAD_10 : decode jdk_21_method_3_code 10 = .ok (.putfield 3, 3) := by decide +kernel
theorem dAD_13 : decode jdk_21_method_3_code 13 = .ok (.return_, 1) := by decide +kernel
theorem sn0 {Z : State} {a0 : Array Value} (hw : HW Z a0) : Jvm.RoadKit.slotOf Z sAQ "head" "I" ≠ Jvm.RoadKit.slotOf Z sAQ "elements" "[Ljava/lang/Object;" := slot_ne (a0 := a0) (C := sAQ) (Or.inl (wd hw 119 rfl)) (Or.inl (wd hw 49 rfl)) (by decide) (t := .int) (t' := (.array (.object "java/lang/Object"))) (by decide) (by decide)
theorem sn1 {Z : State} {a0 : Array Value} (hw : HW Z a0) : Jvm.RoadKit.slotOf Z sAQ "tail" "I" ≠ Jvm.RoadKit.slotOf Z sAQ "elements" "[Ljava/lang/Object;" := slot_ne (a0 := a0) (C := sAQ) (Or.inl (wd hw 116 rfl)) (Or.inl (wd hw 49 rfl)) (by decide) (t := .int) (t' := (.array (.object "java/lang/Object"))) (by decide) (by decide)
theorem pn_java_util_ArrayDeque : plainName sAQ = true := by first | (simp [plainName, overriddenIn]; done) | decide +kernel
theorem ef_AD (m : MethodId) (x0 : Addr) : entryFrame m #[(.ref x0)] 1 = mkF m 0 #[.val (.ref x0)] [] := by first | (simp [entryFrame, mkF, argsToLocals, Value.category]; done) | rfl
def QAD (Z : State) (th : Addr) (h0 : Heap) (n0 : Nat) (v : Option Value) (h : Heap) (L : List Loc) : Prop := v = none ∧ Fr n0 L ∧ Keep h0 h [th] ∧ Exa Z h th sAQ ∧ Fld Z h th sAQ "head" "I" (.int (0 : Int32)) ∧ Fld Z h th sAQ "tail" "I" (.int (0 : Int32)) ∧ ∃ (es : Addr) (kes : ClassId), Fld Z h th sAQ "elements" "[Ljava/lang/Object;" (.ref es) ∧ Arv Z h es kes (.object "java/lang/Object") (17 : Int32) [] .null ∧ Ovr Z kes "java/lang/Object" ∧ h0.size ≤ es
set_option maxRecDepth 65536 in
set_option maxHeartbeats 40000000 in
theorem rmAD (l : Launch) (Z : State) (a0 : Array Value) (hw : HW Z a0) (ws : List Jvm.Cond) (th : Addr) (h0 : Heap) (n0 : Nat) (Z0 : n0 ≤ h0.size) (E_th : Exa Z h0 th sAQ) (F_th_elements : Fld Z h0 th sAQ "elements" "[Ljava/lang/Object;" .null) (F_th_head : Fld Z h0 th sAQ "head" "I" (.int (0 : Int32))) (F_th_tail : Fld Z h0 th sAQ "tail" "I" (.int (0 : Int32))) (g_th : n0 ≤ th) :
  MetFree l (⟨sAQ, "<init>", "()V"⟩ : MethodName) (head1 (Jvm.Cond.code (⟨sAQ, "<init>", "()V"⟩ : MethodName) jdk_21_method_3_code 1 none :: ws) (Rm 2 1 17 24)) (fun a U => a = #[(.ref th)] ∧ Z.Warmed39 U.vm ∧ U.heap = h0) (fun _ _ _ _ _ => True) (fun _ U o U' => ∃ v L, o = .returned v ∧ QAD Z th h0 n0 v U'.heap L ∧ FrameEnd U o U' L (Rm 2 1 17 24).cells (Rm 2 1 17 24).slots) := by
 refine MetFree.of_bodySF (plainFor_of_name pn_java_util_ArrayDeque) hisR ?_
 intro p e s m args below meth c s₁ Bd hml0 hP hK
 obtain ⟨rfl, hZ, hh⟩ := hP
 have hx := Bd.exec
 have hby := Bd.bytes
 have hml : c.maxLocals = 1 := hml0
 have hown : s.vm.findClass sAQ = some m.cls := findClass_of_methodNamed Bd.named
 have hnm := (name_of_methodNamed Bd.named Bd.method).1
 have X0 : Stand p l e (Rm 2 1 17 24) s m #[(.ref th)] below meth c s₁ [] 0 0 := Stand.of_body Bd
 have e0 : s₁.heap = h0 := by rw [← hh, Bd.state]; rfl
 have N0 := Fr.nil n0
 have K0 := Keep.refl h0 [th]
 have pre0 : ∀ t, Steps p.tables e below (s₁.setTop (mkF m 0 #[.val (.ref th)] [])) t → Steps p.tables e below (s₁.setTop (entryFrame m #[(.ref th)] 1)) t := fun t k => castTop (ef_AD m th) k
 obtain ⟨_, _, ⟨T6, L6, k6, n6⟩, -, X6, ⟨Lc6, hQ6, l6, y6, z6⟩, st6⟩ := X0.specialBack hx (y := (⟨"java/util/AbstractCollection", "<init>", "()V"⟩ : MethodName)) rfl hown (mvT hZ (wd hw 39 rfl)) (mvT hZ (wd hw 40 rfl)) (mvT hZ (wd hw 44 rfl)) (by decide) (backOf (W := 0) (rmAC l Z a0 hw [] th h0 n0 (Nat.le_trans Z0 K0.1) ) hZ (wd hw 44 rfl) (wd hw 43 rfl) (by decide) (by decide)) (g := (mkF m 1 #[.val (.ref th)] [(.ref th)])) rfl (by rw [hml]; rfl) (Steps.refl _) (a := th) (argsL := []) (rest := []) (lenOf pd_1 rfl) rfl (by show 2 * 0 + _ ≤ _; exact Nat.le_of_eq rfl) (hb hby dAD_1) (fun _ _ => ⟨rfl, e0, (by decide : 0 + 0 ≤ _), (by decide : 0 + 0 ≤ _)⟩)
 dsimp only [Pt.U, Pt.locs, Pt.cells, Pt.slots] at X6 l6 y6 z6 st6 hQ6
 rw [l6, y6, z6] at X6
 obtain ⟨hv6, Nq6, eq6⟩ := hQ6
 rw [hv6] at st6
 have N6 := Fr.app N0 Nq6
 obtain ⟨T7, h7, k7, X7, e7, E7, A7, O7, st7⟩ := newR X6 hx hZ hown (wd hw 46 rfl) (wd hw 47 rfl) eq6 (g := (mkF m 7 #[.val (.ref th)] [(.int (17 : Int32)), (.ref th)])) rfl (hb hby dAD_7) rfl (by decide) (cap := 17) (by decide) (by decide) (by decide) (by decide)
 obtain ⟨b7, g7⟩ : ∃ z, z = h0.size := ⟨_, rfl⟩
 rw [← g7] at A7 st7
 have lt_th_b7 : th < b7 := Nat.lt_of_lt_of_le E_th.lt (Nat.le_of_eq g7.symm)
 have g_b7 : n0 ≤ b7 := Nat.le_trans (Nat.le_trans Z0 K0.1) (Nat.le_of_eq g7.symm)
 have sz_b7 : h0.size ≤ b7 := Nat.le_trans K0.1 (Nat.le_of_eq g7.symm)
 have K7 : Keep h0 h7 [th] := K0.ext E7
 have V7 : Arv Z h7 b7 k7 (.object "java/lang/Object") (17 : Int32) [] .null := Arv.new A7 (by decide)
 have f8 := E_th.ext E7
 have f9 := F_th_elements.ext E7
 obtain ⟨T10, h10, X10, e10, W10, st10⟩ := putF X7 hx hZ hown (host := "") (Or.inl (wd hw 48 rfl)) Via.refl e7 f9 f8 (Or.inl (wd hw 49 rfl)) (wd hw 34 rfl) (ty := (.array (.object "java/lang/Object"))) (by decide) rfl rfl (g := (mkF m 10 #[.val (.ref th)] [(.ref b7), (.ref th)])) rfl rfl (hb hby dAD_10)
 have Fw10 := f9.same W10
 have K10 : Keep h0 h10 [th] := K7.wr W10 (Or.inl (List.mem_of_getElem? (i := 0) rfl))
 have N10 := Fr.snoc X10 N6 g_th
 have f11 := f8.wr W10
 have f13 := (F_th_head.ext E7).other W10 (Or.inr (sn0 hw))
 have f15 := (F_th_tail.ext E7).other W10 (Or.inr (sn1 hw))
 have f16 := V7.other W10 (Nat.ne_of_gt lt_th_b7)
 obtain ⟨fs, hr, hrun, hended, hW, hsame⟩ := X10.leave (v := none) (fun _ => rfl)
 refine ⟨_, _, ?_, hrun, hended, _, _, rfl, ?_, ⟨_, rfl⟩, hW, hsame.mono (by decide) (by decide)⟩
 ·refine pre0 _ ?_
  show Steps _ _ _ (s₁.setTop (mkF m 0 #[.val (.ref th)] [])) _
  refine XS.aloadN X0.here hx rfl (hb hby dAD_0) rfl rfl ?_
  refine st6.trans ?_
  show Steps _ _ _ (T6.setTop (mkF m 4 #[.val (.ref th)] [])) _
  refine XS.aloadN X6.here hx rfl (hb hby dAD_4) rfl rfl ?_
  refine XS.bipush X6.here hx rfl (hb hby dAD_5) ?_
  show Steps _ _ _ (T6.setTop (mkF m 7 #[.val (.ref th)] [(.int (17 : Int32)), (.ref th)])) _
  refine st7 _ ?_
  refine st10 _ ?_
  show Steps _ _ _ (T10.setTop (mkF m 13 #[.val (.ref th)] [])) _
  exact X10.returnOut hx Bd.returns (hb hby dAD_13) hr
 ·show QAD Z th h0 n0 _ T10.heap _
  rw [e10]
  exact ⟨rfl, N10, K10, f11, f13, f15, b7, k7, Fw10, f16, O7, sz_b7⟩
theorem dRQ_0 : decode prog_65_method_1_code 0 = .ok (.aload_n 0, 1) := by decide +kernel
theorem dRQ_1 : decode prog_65_method_1_code 1 = .ok (.invokespecial 1, 3) := by decide +kernel
theorem dRQ_4 : decode prog_65_method_1_code 4 = .ok (.aload_n 0, 1) := by decide +kernel
theorem dRQ_5 : decode prog_65_method_1_code 5 = .ok (.new 7, 3) := by decide +kernel
theorem dRQ_8 : decode prog_65_method_1_code 8 = .ok (.dup, 1) := by decide +kernel
theorem dRQ_9 : decode prog_65_method_1_code 9 = .ok (.invokespecial 9, 3) := by decide +kernel
theorem dRQ_12 : decode prog_65_method_1_code 12 = .ok (.putfield 10, 3) := by decide +kernel
theorem dRQ_15 : decode prog_65_method_1_code 15 = .ok (.aload_n 0, 1) := by decide +kernel
theorem dRQ_16 : decode prog_65_method_1_code 16 = .ok (.iload_n 1, 1) := by decide +kernel
theorem dRQ_17 : decode prog_65_method_1_code 17 = .ok (.putfield 16, 3) := by decide +kernel
theorem sn2 {Z : State} {a0 : Array Value} (hw : HW Z a0) : Jvm.RoadKit.slotOf Z sRQ "intFields" "I" ≠ Jvm.RoadKit.slotOf Z sRQ "blocks" "Ljava/util/ArrayDeque;" := slot_ne (a0 := a0) (C := sRQ) (Or.inr (wd hw 53 rfl)) (Or.inr (wd hw 51 rfl)) (by decide) (t := .int) (t' := (.object sAQ)) (by decide) (by decide)
theorem dRQ_20 : decode prog_65_method_1_code 20 = .ok (.aload_n 0, 1) := by decide +kernel
theorem dRQ_21 : decode prog_65_method_1_code 21 = .ok (.iload_n 2, 1) := by decide +kernel
theorem dRQ_22 : decode prog_65_method_1_code 22 = .ok (.putfield 20, 3) := by decide +kernel
theorem sn3 {Z : State} {a0 : Array Value} (hw : HW Z a0) : Jvm.RoadKit.slotOf Z sRQ "doubleFields" "I" ≠ Jvm.RoadKit.slotOf Z sRQ "blocks" "Ljava/util/ArrayDeque;" := slot_ne (a0 := a0) (C := sRQ) (Or.inr (wd hw 55 rfl)) (Or.inr (wd hw 51 rfl)) (by decide) (t := .int) (t' := (.object sAQ)) (by decide) (by decide)
theorem sn4 {Z : State} {a0 : Array Value} (hw : HW Z a0) : Jvm.RoadKit.slotOf Z sRQ "doubleFields" "I" ≠ Jvm.RoadKit.slotOf Z sRQ "intFields" "I" := slot_ne (a0 := a0) (C := sRQ) (Or.inr (wd hw 55 rfl)) (Or.inr (wd hw 53 rfl)) (by decide) (t := .int) (t' := .int) (by decide) (by decide)
theorem dRQ_25 : decode prog_65_method_1_code 25 = .ok (.return_, 1) := by decide +kernel
theorem sn5 {Z : State} {a0 : Array Value} (hw : HW Z a0) : Jvm.RoadKit.slotOf Z sRQ "intFields" "I" ≠ Jvm.RoadKit.slotOf Z sRQ "doubleFields" "I" := slot_ne (a0 := a0) (C := sRQ) (Or.inr (wd hw 53 rfl)) (Or.inr (wd hw 55 rfl)) (by decide) (t := .int) (t' := .int) (by decide) (by decide)
theorem sn6 {Z : State} {a0 : Array Value} (hw : HW Z a0) : Jvm.RoadKit.slotOf Z sRQ "first" dBK ≠ Jvm.RoadKit.slotOf Z sRQ "blocks" "Ljava/util/ArrayDeque;" := slot_ne (a0 := a0) (C := sRQ) (Or.inl (wd hw 126 rfl)) (Or.inr (wd hw 51 rfl)) (by decide) (t := (.object sBK)) (t' := (.object sAQ)) (by decide) (by decide)
theorem sn7 {Z : State} {a0 : Array Value} (hw : HW Z a0) : Jvm.RoadKit.slotOf Z sRQ "first" dBK ≠ Jvm.RoadKit.slotOf Z sRQ "intFields" "I" := slot_ne (a0 := a0) (C := sRQ) (Or.inl (wd hw 126 rfl)) (Or.inr (wd hw 53 rfl)) (by decide) (t := (.object sBK)) (t' := .int) (by decide) (by decide)
theorem sn8 {Z : State} {a0 : Array Value} (hw : HW Z a0) : Jvm.RoadKit.slotOf Z sRQ "first" dBK ≠ Jvm.RoadKit.slotOf Z sRQ "doubleFields" "I" := slot_ne (a0 := a0) (C := sRQ) (Or.inl (wd hw 126 rfl)) (Or.inr (wd hw 55 rfl)) (by decide) (t := (.object sBK)) (t' := .int) (by decide) (by decide)
theorem sn9 {Z : State} {a0 : Array Value} (hw : HW Z a0) : Jvm.RoadKit.slotOf Z sRQ "last" dBK ≠ Jvm.RoadKit.slotOf Z sRQ "blocks" "Ljava/util/ArrayDeque;" := slot_ne (a0 := a0) (C := sRQ) (Or.inl (wd hw 79 rfl)) (Or.inr (wd hw 51 rfl)) (by decide) (t := (.object sBK)) (t' := (.object sAQ)) (by decide) (by decide)
theorem sn10 {Z : State} {a0 : Array Value} (hw : HW Z a0) : Jvm.RoadKit.slotOf Z sRQ "last" dBK ≠ Jvm.RoadKit.slotOf Z sRQ "intFields" "I" := slot_ne (a0 := a0) (C := sRQ) (Or.inl (wd hw 79 rfl)) (Or.inr (wd hw 53 rfl)) (by decide) (t := (.object sBK)) (t' := .int) (by decide) (by decide)
theorem sn11 {Z : State} {a0 : Array Value} (hw : HW Z a0) : Jvm.RoadKit.slotOf Z sRQ "last" dBK ≠ Jvm.RoadKit.slotOf Z sRQ "doubleFields" "I" := slot_ne (a0 := a0) (C := sRQ) (Or.inl (wd hw 79 rfl)) (Or.inr (wd hw 55 rfl)) (by decide) (t := (.object sBK)) (t' := .int) (by decide) (by decide)
theorem sn12 {Z : State} {a0 : Array Value} (hw : HW Z a0) : Jvm.RoadKit.slotOf Z sRQ "spare" dBK ≠ Jvm.RoadKit.slotOf Z sRQ "blocks" "Ljava/util/ArrayDeque;" := slot_ne (a0 := a0) (C := sRQ) (Or.inl (wd hw 91 rfl)) (Or.inr (wd hw 51 rfl)) (by decide) (t := (.object sBK)) (t' := (.object sAQ)) (by decide) (by decide)
theorem sn13 {Z : State} {a0 : Array Value} (hw : HW Z a0) : Jvm.RoadKit.slotOf Z sRQ "spare" dBK ≠ Jvm.RoadKit.slotOf Z sRQ "intFields" "I" := slot_ne (a0 := a0) (C := sRQ) (Or.inl (wd hw 91 rfl)) (Or.inr (wd hw 53 rfl)) (by decide) (t := (.object sBK)) (t' := .int) (by decide) (by decide)
theorem sn14 {Z : State} {a0 : Array Value} (hw : HW Z a0) : Jvm.RoadKit.slotOf Z sRQ "spare" dBK ≠ Jvm.RoadKit.slotOf Z sRQ "doubleFields" "I" := slot_ne (a0 := a0) (C := sRQ) (Or.inl (wd hw 91 rfl)) (Or.inr (wd hw 55 rfl)) (by decide) (t := (.object sBK)) (t' := .int) (by decide) (by decide)
theorem sn15 {Z : State} {a0 : Array Value} (hw : HW Z a0) : Jvm.RoadKit.slotOf Z sRQ "head" "I" ≠ Jvm.RoadKit.slotOf Z sRQ "blocks" "Ljava/util/ArrayDeque;" := slot_ne (a0 := a0) (C := sRQ) (Or.inl (wd hw 174 rfl)) (Or.inr (wd hw 51 rfl)) (by decide) (t := .int) (t' := (.object sAQ)) (by decide) (by decide)
theorem sn16 {Z : State} {a0 : Array Value} (hw : HW Z a0) : Jvm.RoadKit.slotOf Z sRQ "head" "I" ≠ Jvm.RoadKit.slotOf Z sRQ "intFields" "I" := slot_ne (a0 := a0) (C := sRQ) (Or.inl (wd hw 174 rfl)) (Or.inr (wd hw 53 rfl)) (by decide) (t := .int) (t' := .int) (by decide) (by decide)
theorem sn17 {Z : State} {a0 : Array Value} (hw : HW Z a0) : Jvm.RoadKit.slotOf Z sRQ "head" "I" ≠ Jvm.RoadKit.slotOf Z sRQ "doubleFields" "I" := slot_ne (a0 := a0) (C := sRQ) (Or.inl (wd hw 174 rfl)) (Or.inr (wd hw 55 rfl)) (by decide) (t := .int) (t' := .int) (by decide) (by decide)
theorem sn18 {Z : State} {a0 : Array Value} (hw : HW Z a0) : Jvm.RoadKit.slotOf Z sRQ "end" "I" ≠ Jvm.RoadKit.slotOf Z sRQ "blocks" "Ljava/util/ArrayDeque;" := slot_ne (a0 := a0) (C := sRQ) (Or.inl (wd hw 124 rfl)) (Or.inr (wd hw 51 rfl)) (by decide) (t := .int) (t' := (.object sAQ)) (by decide) (by decide)
theorem sn19 {Z : State} {a0 : Array Value} (hw : HW Z a0) : Jvm.RoadKit.slotOf Z sRQ "end" "I" ≠ Jvm.RoadKit.slotOf Z sRQ "intFields" "I" := slot_ne (a0 := a0) (C := sRQ) (Or.inl (wd hw 124 rfl)) (Or.inr (wd hw 53 rfl)) (by decide) (t := .int) (t' := .int) (by decide) (by decide)
theorem sn20 {Z : State} {a0 : Array Value} (hw : HW Z a0) : Jvm.RoadKit.slotOf Z sRQ "end" "I" ≠ Jvm.RoadKit.slotOf Z sRQ "doubleFields" "I" := slot_ne (a0 := a0) (C := sRQ) (Or.inl (wd hw 124 rfl)) (Or.inr (wd hw 55 rfl)) (by decide) (t := .int) (t' := .int) (by decide) (by decide)
theorem sn21 {Z : State} {a0 : Array Value} (hw : HW Z a0) : Jvm.RoadKit.slotOf Z sRQ "size" "I" ≠ Jvm.RoadKit.slotOf Z sRQ "blocks" "Ljava/util/ArrayDeque;" := slot_ne (a0 := a0) (C := sRQ) (Or.inl (wd hw 81 rfl)) (Or.inr (wd hw 51 rfl)) (by decide) (t := .int) (t' := (.object sAQ)) (by decide) (by decide)
theorem sn22 {Z : State} {a0 : Array Value} (hw : HW Z a0) : Jvm.RoadKit.slotOf Z sRQ "size" "I" ≠ Jvm.RoadKit.slotOf Z sRQ "intFields" "I" := slot_ne (a0 := a0) (C := sRQ) (Or.inl (wd hw 81 rfl)) (Or.inr (wd hw 53 rfl)) (by decide) (t := .int) (t' := .int) (by decide) (by decide)
theorem sn23 {Z : State} {a0 : Array Value} (hw : HW Z a0) : Jvm.RoadKit.slotOf Z sRQ "size" "I" ≠ Jvm.RoadKit.slotOf Z sRQ "doubleFields" "I" := slot_ne (a0 := a0) (C := sRQ) (Or.inl (wd hw 81 rfl)) (Or.inr (wd hw 55 rfl)) (by decide) (t := .int) (t' := .int) (by decide) (by decide)
theorem sn24 {Z : State} {a0 : Array Value} (hw : HW Z a0) : Jvm.RoadKit.slotOf Z sRQ "blocks" "Ljava/util/ArrayDeque;" ≠ Jvm.RoadKit.slotOf Z sRQ "intFields" "I" := slot_ne (a0 := a0) (C := sRQ) (Or.inr (wd hw 51 rfl)) (Or.inr (wd hw 53 rfl)) (by decide) (t := (.object sAQ)) (t' := .int) (by decide) (by decide)
theorem sn25 {Z : State} {a0 : Array Value} (hw : HW Z a0) : Jvm.RoadKit.slotOf Z sRQ "blocks" "Ljava/util/ArrayDeque;" ≠ Jvm.RoadKit.slotOf Z sRQ "doubleFields" "I" := slot_ne (a0 := a0) (C := sRQ) (Or.inr (wd hw 51 rfl)) (Or.inr (wd hw 55 rfl)) (by decide) (t := (.object sAQ)) (t' := .int) (by decide) (by decide)
theorem pn_com_example_frugal_weir_frugalweir_replay_RecordQueue : plainName sRQ = true := by first | (simp [plainName, overriddenIn]; done) | decide +kernel
theorem ef_RQ (m : MethodId) (x0 : Addr) (x2 : Int32) : entryFrame m #[(.ref x0), (.int (1 : Int32)), (.int x2)] 3 = mkF m 0 #[.val (.ref x0), .val (.int (1 : Int32)), .val (.int x2)] [] := by first | (simp [entryFrame, mkF, argsToLocals, Value.category]; done) | rfl
def QRQ (Z : State) (th : Addr) (df : Int32) (h0 : Heap) (n0 : Nat) (v : Option Value) (h : Heap) (L : List Loc) : Prop := v = none ∧ Fr n0 L ∧ Keep h0 h [th] ∧ Exa Z h th sRQ ∧ Fld Z h th sRQ "intFields" "I" (.int (1 : Int32)) ∧ Fld Z h th sRQ "doubleFields" "I" (.int df) ∧ Fld Z h th sRQ "first" dBK .null ∧ Fld Z h th sRQ "last" dBK .null ∧ Fld Z h th sRQ "spare" dBK .null ∧ Fld Z h th sRQ "head" "I" (.int (0 : Int32)) ∧ Fld Z h th sRQ "end" "I" (.int (0 : Int32)) ∧ Fld Z h th sRQ "size" "I" (.int (0 : Int32)) ∧ ∃ (dq es : Addr) (kes : ClassId), Fld Z h th sRQ "blocks" "Ljava/util/ArrayDeque;" (.ref dq) ∧ Exa Z h dq sAQ ∧ Fld Z h dq sAQ "head" "I" (.int (0 : Int32)) ∧ Fld Z h dq sAQ "tail" "I" (.int (0 : Int32)) ∧ Fld Z h dq sAQ "elements" "[Ljava/lang/Object;" (.ref es) ∧ Arv Z h es kes (.object "java/lang/Object") (17 : Int32) [] .null ∧ Ovr Z kes "java/lang/Object" ∧ h0.size ≤ dq ∧ dq < es
set_option maxRecDepth 65536 in
set_option maxHeartbeats 40000000 in
theorem rmRQ (l : Launch) (Z : State) (a0 : Array Value) (hw : HW Z a0) (ws : List Jvm.Cond) (th : Addr) (df : Int32) (h0 : Heap) (n0 : Nat) (Z0 : n0 ≤ h0.size) (E_th : Exa Z h0 th sRQ) (F_th_intFields : Fld Z h0 th sRQ "intFields" "I" (.int (0 : Int32))) (F_th_doubleFields : Fld Z h0 th sRQ "doubleFields" "I" (.int (0 : Int32))) (F_th_blocks : Fld Z h0 th sRQ "blocks" "Ljava/util/ArrayDeque;" .null) (F_th_first : Fld Z h0 th sRQ "first" dBK .null) (F_th_last : Fld Z h0 th sRQ "last" dBK .null) (F_th_spare : Fld Z h0 th sRQ "spare" dBK .null) (F_th_head : Fld Z h0 th sRQ "head" "I" (.int (0 : Int32))) (F_th_end : Fld Z h0 th sRQ "end" "I" (.int (0 : Int32))) (F_th_size : Fld Z h0 th sRQ "size" "I" (.int (0 : Int32))) (g_th : n0 ≤ th) :
  MetFree l (⟨sRQ, "<init>", "(II)V"⟩ : MethodName) (head1 (Jvm.Cond.code (⟨sRQ, "<init>", "(II)V"⟩ : MethodName) prog_65_method_1_code 3 none :: ws) (Rm 3 2 20 38)) (fun a U => a = #[(.ref th), (.int (1 : Int32)), (.int df)] ∧ Z.Warmed39 U.vm ∧ U.heap = h0) (fun _ _ _ _ _ => True) (fun _ U o U' => ∃ v L, o = .returned v ∧ QRQ Z th df h0 n0 v U'.heap L ∧ FrameEnd U o U' L (Rm 3 2 20 38).cells (Rm 3 2 20 38).slots) := by
 refine MetFree.of_bodySF (plainFor_of_name pn_com_example_frugal_weir_frugalweir_replay_RecordQueue) hisR ?_
 intro p e s m args below meth c s₁ Bd hml0 hP hK
 obtain ⟨rfl, hZ, hh⟩ := hP
 have hx := Bd.exec
 have hby := Bd.bytes
 have hml : c.maxLocals = 3 := hml0
 have hown : s.vm.findClass sRQ = some m.cls := findClass_of_methodNamed Bd.named
 have hnm := (name_of_methodNamed Bd.named Bd.method).1
 have X0 : Stand p l e (Rm 3 2 20 38) s m #[(.ref th), (.int (1 : Int32)), (.int df)] below meth c s₁ [] 0 0 := Stand.of_body Bd
 have e0 : s₁.heap = h0 := by rw [← hh, Bd.state]; rfl
 have N0 := Fr.nil n0
 have K0 := Keep.refl h0 [th]
 have pre0 : ∀ t, Steps p.tables e below (s₁.setTop (mkF m 0 #[.val (.ref th), .val (.int (1 : Int32)), .val (.int df)] [])) t → Steps p.tables e below (s₁.setTop (entryFrame m #[(.ref th), (.int (1 : Int32)), (.int df)] 3)) t := fun t k => castTop (ef_RQ m th df) k
 obtain ⟨T17, X17, e17, st17⟩ := initO X0 hx hZ hown (wd hw 32 rfl) (wd hw 18 rfl) (wd hw 19 rfl) e0 (g := (mkF m 1 #[.val (.ref th), .val (.int (1 : Int32)), .val (.int df)] [(.ref th)])) rfl (by rw [hml]; rfl) rfl (hb hby dRQ_1) (by decide) (W := 0) (by show 2 * 0 + _ ≤ _; exact Nat.le_of_eq rfl) (by decide)
 obtain ⟨T18, h18, X18, e18, E18, A18, D18, -, st18⟩ := newO X17 hx hZ hown (wd hw 33 rfl) (wd hw 34 rfl) (wd hw 35 rfl) e17 (g := (mkF m 5 #[.val (.ref th), .val (.int (1 : Int32)), .val (.int df)] [(.ref th)])) rfl (hb hby dRQ_5) (by decide) (by decide)
 obtain ⟨b18, g18⟩ : ∃ z, z = h0.size := ⟨_, rfl⟩
 rw [← g18] at A18 D18 st18
 have lt_th_b18 : th < b18 := Nat.lt_of_lt_of_le E_th.lt (Nat.le_of_eq g18.symm)
 have g_b18 : n0 ≤ b18 := Nat.le_trans (Nat.le_trans Z0 K0.1) (Nat.le_of_eq g18.symm)
 have sz_b18 : h0.size ≤ b18 := Nat.le_trans K0.1 (Nat.le_of_eq g18.symm)
 have K18 : Keep h0 h18 [th] := K0.ext E18
 have F18_elements : Fld Z h18 b18 sAQ "elements" "[Ljava/lang/Object;" .null := D18 (Or.inl (wd hw 49 rfl)) (ty := (.array (.object "java/lang/Object"))) (by decide)
 have F18_tail : Fld Z h18 b18 sAQ "tail" "I" (.int (0 : Int32)) := D18 (Or.inl (wd hw 116 rfl)) (ty := .int) (by decide)
 have F18_head : Fld Z h18 b18 sAQ "head" "I" (.int (0 : Int32)) := D18 (Or.inl (wd hw 119 rfl)) (ty := .int) (by decide)
 have f20 := E_th.ext E18
 obtain ⟨_, _, ⟨T19, L19, k19, n19⟩, -, X19, ⟨Lc19, hQ19, l19, y19, z19⟩, st19⟩ := X18.specialBack hx (y := (⟨sAQ, "<init>", "()V"⟩ : MethodName)) rfl hown (mvT hZ (wd hw 36 rfl)) (mvT hZ (wd hw 37 rfl)) (mvT hZ (wd hw 38 rfl)) (by decide) (backOf (W := 2) (rmAD l Z a0 hw [] b18 h18 n0 (Nat.le_trans Z0 K18.1) A18 F18_elements F18_head F18_tail g_b18) hZ (wd hw 38 rfl) (wd hw 35 rfl) (by decide) (by decide)) (g := (mkF m 9 #[.val (.ref th), .val (.int (1 : Int32)), .val (.int df)] [(.ref b18), (.ref b18), (.ref th)])) rfl (by rw [hml]; rfl) (Steps.refl _) (a := b18) (argsL := []) (rest := [(.ref b18), (.ref th)]) (lenOf pd_1 rfl) rfl (by show 2 * 0 + _ ≤ _; exact Nat.le_of_eq rfl) (hb hby dRQ_9) (fun _ _ => ⟨rfl, e18, (by decide : 1 + 1 ≤ _), (by decide : 3 + 17 ≤ _)⟩)
 dsimp only [Pt.U, Pt.locs, Pt.cells, Pt.slots] at X19 l19 y19 z19 st19 hQ19
 rw [l19, y19, z19] at X19
 obtain ⟨hv19, Nq19, Kc19, Ex19, Fh19, Ft19, es19, kes19, Fe19, Ve19, Oe19, sq19⟩ := hQ19
 rw [hv19] at st19
 have K19 : Keep h0 T19.heap [th] := K18.trans Kc19 (allS (P := fun x => x ∈ [th] ∨ h0.size ≤ x) (Or.inr sz_b18) all0)
 have lt_th_es19 : th < es19 := Nat.lt_of_lt_of_le f20.lt sq19
 have lt_b18_es19 : b18 < es19 := Nat.lt_of_lt_of_le A18.lt sq19
 have sz_es19 : h0.size ≤ es19 := Nat.le_trans K18.1 sq19
 have g_es19 : n0 ≤ es19 := Nat.le_trans Z0 sz_es19
 have N19 := Fr.app N0 Nq19
 have f21 := f20.keep Kc19
 have f23 := (F_th_blocks.ext E18).keep Kc19 (ninL lt_th_b18)
 obtain ⟨T24, h24, X24, e24, W24, st24⟩ := putF X19 hx hZ hown (host := "") (Or.inl (wd hw 50 rfl)) Via.refl rfl f23 f21 (Or.inr ⟨(wd hw 51 rfl), rfl, hnm⟩) (wd hw 27 rfl) (ty := (.object sAQ)) (by decide) rfl rfl (g := (mkF m 12 #[.val (.ref th), .val (.int (1 : Int32)), .val (.int df)] [(.ref b18), (.ref th)])) rfl rfl (hb hby dRQ_12)
 have Fw24 := f23.same W24
 have K24 : Keep h0 h24 [th] := K19.wr W24 (Or.inl (List.mem_of_getElem? (i := 0) rfl))
 have N24 := Fr.snoc X24 N19 g_th
 have f25 := f21.wr W24
 have f28 := ((F_th_intFields.ext E18).keep Kc19 (ninL lt_th_b18)).other W24 (Or.inr (sn2 hw))
 obtain ⟨T29, h29, X29, e29, W29, st29⟩ := putF X24 hx hZ hown (host := "") (Or.inl (wd hw 52 rfl)) Via.refl e24 f28 f25 (Or.inr ⟨(wd hw 53 rfl), rfl, hnm⟩) (wd hw 27 rfl) (ty := .int) (by decide) rfl rfl (g := (mkF m 17 #[.val (.ref th), .val (.int (1 : Int32)), .val (.int df)] [(.int (1 : Int32)), (.ref th)])) rfl rfl (hb hby dRQ_17)
 have Fw29 := f28.same W29
 have K29 : Keep h0 h29 [th] := K24.wr W29 (Or.inl (List.mem_of_getElem? (i := 0) rfl))
 have N29 := Fr.snoc X29 N24 g_th
 have f30 := f25.wr W29
 have f34 := (((F_th_doubleFields.ext E18).keep Kc19 (ninL lt_th_b18)).other W24 (Or.inr (sn3 hw))).other W29 (Or.inr (sn4 hw))
 obtain ⟨T35, h35, X35, e35, W35, st35⟩ := putF X29 hx hZ hown (host := "") (Or.inl (wd hw 54 rfl)) Via.refl e29 f34 f30 (Or.inr ⟨(wd hw 55 rfl), rfl, hnm⟩) (wd hw 27 rfl) (ty := .int) (by decide) rfl rfl (g := (mkF m 22 #[.val (.ref th), .val (.int (1 : Int32)), .val (.int df)] [(.int df), (.ref th)])) rfl rfl (hb hby dRQ_22)
 have Fw35 := f34.same W35
 have K35 : Keep h0 h35 [th] := K29.wr W35 (Or.inl (List.mem_of_getElem? (i := 0) rfl))
 have N35 := Fr.snoc X35 N29 g_th
 have f36 := f30.wr W35
 have f37 := Fw29.other W35 (Or.inr (sn5 hw))
 have f42 := ((((F_th_first.ext E18).keep Kc19 (ninL lt_th_b18)).other W24 (Or.inr (sn6 hw))).other W29 (Or.inr (sn7 hw))).other W35 (Or.inr (sn8 hw))
 have f47 := ((((F_th_last.ext E18).keep Kc19 (ninL lt_th_b18)).other W24 (Or.inr (sn9 hw))).other W29 (Or.inr (sn10 hw))).other W35 (Or.inr (sn11 hw))
 have f52 := ((((F_th_spare.ext E18).keep Kc19 (ninL lt_th_b18)).other W24 (Or.inr (sn12 hw))).other W29 (Or.inr (sn13 hw))).other W35 (Or.inr (sn14 hw))
 have f57 := ((((F_th_head.ext E18).keep Kc19 (ninL lt_th_b18)).other W24 (Or.inr (sn15 hw))).other W29 (Or.inr (sn16 hw))).other W35 (Or.inr (sn17 hw))
 have f62 := ((((F_th_end.ext E18).keep Kc19 (ninL lt_th_b18)).other W24 (Or.inr (sn18 hw))).other W29 (Or.inr (sn19 hw))).other W35 (Or.inr (sn20 hw))
 have f67 := ((((F_th_size.ext E18).keep Kc19 (ninL lt_th_b18)).other W24 (Or.inr (sn21 hw))).other W29 (Or.inr (sn22 hw))).other W35 (Or.inr (sn23 hw))
 have f69 := (Fw24.other W29 (Or.inr (sn24 hw))).other W35 (Or.inr (sn25 hw))
 have f72 := ((Ex19.wr W24).wr W29).wr W35
 have f75 := ((Fh19.other W24 (Or.inl (Nat.ne_of_gt lt_th_b18))).other W29 (Or.inl (Nat.ne_of_gt lt_th_b18))).other W35 (Or.inl (Nat.ne_of_gt lt_th_b18))
 have f78 := ((Ft19.other W24 (Or.inl (Nat.ne_of_gt lt_th_b18))).other W29 (Or.inl (Nat.ne_of_gt lt_th_b18))).other W35 (Or.inl (Nat.ne_of_gt lt_th_b18))
 have f81 := ((Fe19.other W24 (Or.inl (Nat.ne_of_gt lt_th_b18))).other W29 (Or.inl (Nat.ne_of_gt lt_th_b18))).other W35 (Or.inl (Nat.ne_of_gt lt_th_b18))
 have f84 := ((Ve19.other W24 (Nat.ne_of_gt lt_th_es19)).other W29 (Nat.ne_of_gt lt_th_es19)).other W35 (Nat.ne_of_gt lt_th_es19)
 obtain ⟨fs, hr, hrun, hended, hW, hsame⟩ := X35.leave (v := none) (fun _ => rfl)
 refine ⟨_, _, ?_, hrun, hended, _, _, rfl, ?_, ⟨_, rfl⟩, hW, hsame.mono (by decide) (by decide)⟩
 ·refine pre0 _ ?_
  show Steps _ _ _ (s₁.setTop (mkF m 0 #[.val (.ref th), .val (.int (1 : Int32)), .val (.int df)] [])) _
  refine XS.aloadN X0.here hx rfl (hb hby dRQ_0) rfl rfl ?_
  refine st17 _ ?_
  refine XS.aloadN X17.here hx rfl (hb hby dRQ_4) rfl rfl ?_
  show Steps _ _ _ (T17.setTop (mkF m 5 #[.val (.ref th), .val (.int (1 : Int32)), .val (.int df)] [(.ref th)])) _
  refine st18 _ ?_
  refine XS.dup X18.here hx rfl (hb hby dRQ_8) rfl rfl ?_
  refine st19.trans ?_
  show Steps _ _ _ (T19.setTop (mkF m 12 #[.val (.ref th), .val (.int (1 : Int32)), .val (.int df)] [(.ref b18), (.ref th)])) _
  refine st24 _ ?_
  refine XS.aloadN X24.here hx rfl (hb hby dRQ_15) rfl rfl ?_
  refine XS.iloadN X24.here hx rfl (hb hby dRQ_16) rfl ?_
  refine st29 _ ?_
  show Steps _ _ _ (T29.setTop (mkF m 20 #[.val (.ref th), .val (.int (1 : Int32)), .val (.int df)] [])) _
  refine XS.aloadN X29.here hx rfl (hb hby dRQ_20) rfl rfl ?_
  refine XS.iloadN X29.here hx rfl (hb hby dRQ_21) rfl ?_
  refine st35 _ ?_
  show Steps _ _ _ (T35.setTop (mkF m 25 #[.val (.ref th), .val (.int (1 : Int32)), .val (.int df)] [])) _
  exact X35.returnOut hx Bd.returns (hb hby dRQ_25) hr
 ·show QRQ Z th df h0 n0 _ T35.heap _
  rw [e35]
  exact ⟨rfl, N35, K35, f36, f37, Fw35, f42, f47, f52, f57, f62, f67, b18, es19, kes19, f69, f72, f75, f78, f81, f84, Oe19, sz_b18, lt_b18_es19⟩
def own_S0 (Z : State) (h : Heap) (n0 : Nat) (A ec el qa q : Addr) (kec kel : ClassId) (n : Int32) (f g : Nat → Int64) : Prop := Exa Z h A sRA ∧ Fld Z h A sRA "window" "D" (.double (FP.l2d 10)) ∧ Fld Z h A sRA "asksBefore" "D" (.double (FP.l2d 100)) ∧ Fld Z h A sRA "keptUntil" "D" (.double (FP.l2d 90)) ∧ Fld Z h A sRA "executorCompleted" "[J" (.ref ec) ∧ Fld Z h A sRA "executorLatencySum" "[D" (.ref el) ∧ Fld Z h A sRA "arrivalEvents" dRQ (.ref qa) ∧ Fld Z h A sRA "completionEvents" dRQ (.ref q) ∧ Exa Z h qa sRQ ∧ Fld Z h qa sRQ "size" "I" (.int (0 : Int32)) ∧ Arv Z h ec kec .long n (own_L f) (.long 0) ∧ Arv Z h el kel .double n (own_D g) (.double (FP.l2d 0)) ∧ ∃ (dq es : Addr) (kes : ClassId), Exa Z h q sRQ ∧ Fld Z h q sRQ "intFields" "I" (.int (1 : Int32)) ∧ Fld Z h q sRQ "doubleFields" "I" (.int (2 : Int32)) ∧ Fld Z h q sRQ "blocks" "Ljava/util/ArrayDeque;" (.ref dq) ∧ Fld Z h q sRQ "first" dBK .null ∧ Fld Z h q sRQ "last" dBK .null ∧ Fld Z h q sRQ "spare" dBK .null ∧ Fld Z h q sRQ "head" "I" (.int (0 : Int32)) ∧ Fld Z h q sRQ "end" "I" (.int (0 : Int32)) ∧ Fld Z h q sRQ "size" "I" (.int (0 : Int32)) ∧ Exa Z h dq sAQ ∧ Fld Z h dq sAQ "head" "I" (.int (0 : Int32)) ∧ Fld Z h dq sAQ "tail" "I" (.int (0 : Int32)) ∧ Fld Z h dq sAQ "elements" "[Ljava/lang/Object;" (.ref es) ∧ Arv Z h es kes (.object "java/lang/Object") (17 : Int32) [] .null ∧ Ovr Z kes "java/lang/Object" ∧ A < qa ∧ qa < q ∧ q < dq ∧ dq < es ∧ ec ≠ A ∧ ec ≠ qa ∧ ec ≠ q ∧ ec ≠ dq ∧ ec ≠ es ∧ el ≠ A ∧ el ≠ qa ∧ el ≠ q ∧ el ≠ dq ∧ el ≠ es ∧ ec ≠ el ∧ n0 ≤ A ∧ n0 ≤ ec ∧ n0 ≤ el ∧ n0 ≤ q ∧ n0 ≤ dq ∧ n0 ≤ es
def own_S1 (Z : State) (h : Heap) (n0 : Nat) (A ec el qa q : Addr) (kec kel : ClassId) (n : Int32) (f g : Nat → Int64) (p1 : Int32) (t1 l1 : Int64) : Prop := Exa Z h A sRA ∧ Fld Z h A sRA "window" "D" (.double (FP.l2d 10)) ∧ Fld Z h A sRA "asksBefore" "D" (.double (FP.l2d 100)) ∧ Fld Z h A sRA "keptUntil" "D" (.double (FP.l2d 90)) ∧ Fld Z h A sRA "executorCompleted" "[J" (.ref ec) ∧ Fld Z h A sRA "executorLatencySum" "[D" (.ref el) ∧ Fld Z h A sRA "arrivalEvents" dRQ (.ref qa) ∧ Fld Z h A sRA "completionEvents" dRQ (.ref q) ∧ Exa Z h qa sRQ ∧ Fld Z h qa sRQ "size" "I" (.int (0 : Int32)) ∧ Arv Z h ec kec .long n (own_L f) (.long 0) ∧ Arv Z h el kel .double n (own_D g) (.double (FP.l2d 0)) ∧ ∃ (b bi i0 bd d0 d1 : Addr) (kbi ki kbd kd : ClassId), Exa Z h q sRQ ∧ Fld Z h q sRQ "first" dBK (.ref b) ∧ Fld Z h q sRQ "last" dBK (.ref b) ∧ Fld Z h q sRQ "head" "I" (.int (0 : Int32)) ∧ Fld Z h q sRQ "end" "I" (.int (1 : Int32)) ∧ Fld Z h q sRQ "size" "I" (.int (1 : Int32)) ∧ Exa Z h b sBK ∧ Fld Z h b sBK "capacity" "I" (.int (16 : Int32)) ∧ Fld Z h b sBK "ints" "[[I" (.ref bi) ∧ Fld Z h b sBK "doubles" "[[D" (.ref bd) ∧ Arv Z h bi kbi (.array .int) (1 : Int32) [(.ref i0)] .null ∧ Arv Z h bd kbd (.array .double) (2 : Int32) [(.ref d0), (.ref d1)] .null ∧ Arv Z h i0 ki .int (16 : Int32) [(.int p1), (.int (0 : Int32))] (.int (0 : Int32)) ∧ Arv Z h d0 kd .double (16 : Int32) [(.double (FP.l2d t1)), (.double (FP.l2d 0))] (.double (FP.l2d 0)) ∧ Arv Z h d1 kd .double (16 : Int32) [(.double (FP.l2d l1)), (.double (FP.l2d 0))] (.double (FP.l2d 0)) ∧ A < qa ∧ qa < q ∧ q < b ∧ b < bi ∧ bi < i0 ∧ i0 < bd ∧ bd < d0 ∧ d0 < d1 ∧ ec ≠ A ∧ ec ≠ qa ∧ ec ≠ q ∧ ec ≠ b ∧ ec ≠ bi ∧ ec ≠ i0 ∧ ec ≠ bd ∧ ec ≠ d0 ∧ ec ≠ d1 ∧ el ≠ A ∧ el ≠ qa ∧ el ≠ q ∧ el ≠ b ∧ el ≠ bi ∧ el ≠ i0 ∧ el ≠ bd ∧ el ≠ d0 ∧ el ≠ d1 ∧ ec ≠ el ∧ n0 ≤ A ∧ n0 ≤ ec ∧ n0 ≤ el ∧ n0 ≤ q ∧ n0 ≤ b ∧ n0 ≤ bi ∧ n0 ≤ i0 ∧ n0 ≤ bd ∧ n0 ≤ d0 ∧ n0 ≤ d1
def own_S2 (Z : State) (h : Heap) (n0 : Nat) (A ec el qa q : Addr) (kec kel : ClassId) (n : Int32) (f g : Nat → Int64) (p1 : Int32) (t1 l1 : Int64) (p2 : Int32) (t2 l2 : Int64) : Prop := Exa Z h A sRA ∧ Fld Z h A sRA "window" "D" (.double (FP.l2d 10)) ∧ Fld Z h A sRA "asksBefore" "D" (.double (FP.l2d 100)) ∧ Fld Z h A sRA "keptUntil" "D" (.double (FP.l2d 90)) ∧ Fld Z h A sRA "executorCompleted" "[J" (.ref ec) ∧ Fld Z h A sRA "executorLatencySum" "[D" (.ref el) ∧ Fld Z h A sRA "arrivalEvents" dRQ (.ref qa) ∧ Fld Z h A sRA "completionEvents" dRQ (.ref q) ∧ Exa Z h qa sRQ ∧ Fld Z h qa sRQ "size" "I" (.int (0 : Int32)) ∧ Arv Z h ec kec .long n (own_L f) (.long 0) ∧ Arv Z h el kel .double n (own_D g) (.double (FP.l2d 0)) ∧ ∃ (b bi i0 bd d0 d1 : Addr) (kbi ki kbd kd : ClassId), Exa Z h q sRQ ∧ Fld Z h q sRQ "first" dBK (.ref b) ∧ Fld Z h q sRQ "last" dBK (.ref b) ∧ Fld Z h q sRQ "head" "I" (.int (0 : Int32)) ∧ Fld Z h q sRQ "end" "I" (.int (2 : Int32)) ∧ Fld Z h q sRQ "size" "I" (.int (2 : Int32)) ∧ Exa Z h b sBK ∧ Fld Z h b sBK "capacity" "I" (.int (16 : Int32)) ∧ Fld Z h b sBK "ints" "[[I" (.ref bi) ∧ Fld Z h b sBK "doubles" "[[D" (.ref bd) ∧ Arv Z h bi kbi (.array .int) (1 : Int32) [(.ref i0)] .null ∧ Arv Z h bd kbd (.array .double) (2 : Int32) [(.ref d0), (.ref d1)] .null ∧ Arv Z h i0 ki .int (16 : Int32) [(.int p1), (.int p2)] (.int (0 : Int32)) ∧ Arv Z h d0 kd .double (16 : Int32) [(.double (FP.l2d t1)), (.double (FP.l2d t2))] (.double (FP.l2d 0)) ∧ Arv Z h d1 kd .double (16 : Int32) [(.double (FP.l2d l1)), (.double (FP.l2d l2))] (.double (FP.l2d 0)) ∧ A < qa ∧ qa < q ∧ q < b ∧ b < bi ∧ bi < i0 ∧ i0 < bd ∧ bd < d0 ∧ d0 < d1 ∧ ec ≠ A ∧ ec ≠ qa ∧ ec ≠ q ∧ ec ≠ b ∧ ec ≠ bi ∧ ec ≠ i0 ∧ ec ≠ bd ∧ ec ≠ d0 ∧ ec ≠ d1 ∧ el ≠ A ∧ el ≠ qa ∧ el ≠ q ∧ el ≠ b ∧ el ≠ bi ∧ el ≠ i0 ∧ el ≠ bd ∧ el ≠ d0 ∧ el ≠ d1 ∧ ec ≠ el ∧ n0 ≤ A ∧ n0 ≤ ec ∧ n0 ≤ el ∧ n0 ≤ q ∧ n0 ≤ b ∧ n0 ≤ bi ∧ n0 ≤ i0 ∧ n0 ≤ bd ∧ n0 ≤ d0 ∧ n0 ≤ d1
theorem own_padL (k : Nat) : ∀ i, (own_L (fun _ => 0)).getD i (.long (0 : Int64)) = ((List.replicate k (.long (0 : Int64)) : List Value)).getD i (.long (0 : Int64)) := fun i => by
 have h : ((List.replicate k (.long (0 : Int64)) : List Value)).getD i (.long (0 : Int64)) = .long 0 := by
  by_cases q : i < k <;> simp [List.getD, q]
 rw [h]
 by_cases q : i < 128
 ·exact own_Lget _ q _
 ·simp [own_L, List.getD, q]
theorem own_padD (k : Nat) : ∀ i, (own_D (fun _ => 0)).getD i (.double (FP.l2d 0)) = ((List.replicate k (.double (FP.l2d 0)) : List Value)).getD i (.double (FP.l2d 0)) := fun i => by
 have h : ((List.replicate k (.double (FP.l2d 0)) : List Value)).getD i (.double (FP.l2d 0)) = .double (FP.l2d 0) := by
  by_cases q : i < k <;> simp [List.getD, q]
 rw [h]
 by_cases q : i < 128
 ·exact own_Dget _ q _
 ·simp [own_D, List.getD, q]
theorem dRA_0 : decode prog_63_method_1_code 0 = .ok (.aload_n 0, 1) := by decide +kernel
theorem dRA_1 : decode prog_63_method_1_code 1 = .ok (.invokespecial 1, 3) := by decide +kernel
theorem dRA_4 : decode prog_63_method_1_code 4 = .ok (.aload_n 0, 1) := by decide +kernel
theorem dRA_5 : decode prog_63_method_1_code 5 = .ok (.bipush 16, 2) := by decide +kernel
theorem dRA_7 : decode prog_63_method_1_code 7 = .ok (.newarray .long, 2) := by decide +kernel
theorem dRA_9 : decode prog_63_method_1_code 9 = .ok (.putfield 7, 3) := by decide +kernel
theorem dRA_12 : decode prog_63_method_1_code 12 = .ok (.aload_n 0, 1) := by decide +kernel
theorem dRA_13 : decode prog_63_method_1_code 13 = .ok (.bipush 16, 2) := by decide +kernel
theorem dRA_15 : decode prog_63_method_1_code 15 = .ok (.newarray .double, 2) := by decide +kernel
theorem dRA_17 : decode prog_63_method_1_code 17 = .ok (.putfield 13, 3) := by decide +kernel
theorem sn26 {Z : State} {a0 : Array Value} (hw : HW Z a0) : Jvm.RoadKit.slotOf Z sRA "executorLatencySum" "[D" ≠ Jvm.RoadKit.slotOf Z sRA "executorCompleted" "[J" := slot_ne (a0 := a0) (C := sRA) (Or.inl (wd hw 25 rfl)) (Or.inl (wd hw 22 rfl)) (by decide) (t := (.array .double)) (t' := (.array .long)) (by decide) (by decide)
theorem dRA_20 : decode prog_63_method_1_code 20 = .ok (.aload_n 0, 1) := by decide +kernel
theorem dRA_21 : decode prog_63_method_1_code 21 = .ok (.new 17, 3) := by decide +kernel
theorem dRA_24 : decode prog_63_method_1_code 24 = .ok (.dup, 1) := by decide +kernel
theorem dRA_25 : decode prog_63_method_1_code 25 = .ok (.iconst 1, 1) := by decide +kernel
theorem dRA_26 : decode prog_63_method_1_code 26 = .ok (.iconst 1, 1) := by decide +kernel
theorem dRA_27 : decode prog_63_method_1_code 27 = .ok (.invokespecial 19, 3) := by decide +kernel
theorem pd_2 : parseMethodDescriptor "(II)V" = some ⟨[.int, .int], none⟩ := by decide +kernel
theorem dRA_30 : decode prog_63_method_1_code 30 = .ok (.putfield 22, 3) := by decide +kernel
theorem sn27 {Z : State} {a0 : Array Value} (hw : HW Z a0) : Jvm.RoadKit.slotOf Z sRA "arrivalEvents" dRQ ≠ Jvm.RoadKit.slotOf Z sRA "executorCompleted" "[J" := slot_ne (a0 := a0) (C := sRA) (Or.inr (wd hw 57 rfl)) (Or.inl (wd hw 22 rfl)) (by decide) (t := (.object sRQ)) (t' := (.array .long)) (by decide) (by decide)
theorem sn28 {Z : State} {a0 : Array Value} (hw : HW Z a0) : Jvm.RoadKit.slotOf Z sRA "arrivalEvents" dRQ ≠ Jvm.RoadKit.slotOf Z sRA "executorLatencySum" "[D" := slot_ne (a0 := a0) (C := sRA) (Or.inr (wd hw 57 rfl)) (Or.inl (wd hw 25 rfl)) (by decide) (t := (.object sRQ)) (t' := (.array .double)) (by decide) (by decide)
theorem dRA_33 : decode prog_63_method_1_code 33 = .ok (.aload_n 0, 1) := by decide +kernel
theorem dRA_34 : decode prog_63_method_1_code 34 = .ok (.new 17, 3) := by decide +kernel
theorem dRA_37 : decode prog_63_method_1_code 37 = .ok (.dup, 1) := by decide +kernel
theorem dRA_38 : decode prog_63_method_1_code 38 = .ok (.iconst 1, 1) := by decide +kernel
theorem dRA_39 : decode prog_63_method_1_code 39 = .ok (.iconst 2, 1) := by decide +kernel
theorem dRA_40 : decode prog_63_method_1_code 40 = .ok (.invokespecial 19, 3) := by decide +kernel
theorem dRA_43 : decode prog_63_method_1_code 43 = .ok (.putfield 26, 3) := by decide +kernel
theorem sn29 {Z : State} {a0 : Array Value} (hw : HW Z a0) : Jvm.RoadKit.slotOf Z sRA "completionEvents" dRQ ≠ Jvm.RoadKit.slotOf Z sRA "executorCompleted" "[J" := slot_ne (a0 := a0) (C := sRA) (Or.inr (wd hw 59 rfl)) (Or.inl (wd hw 22 rfl)) (by decide) (t := (.object sRQ)) (t' := (.array .long)) (by decide) (by decide)
theorem sn30 {Z : State} {a0 : Array Value} (hw : HW Z a0) : Jvm.RoadKit.slotOf Z sRA "completionEvents" dRQ ≠ Jvm.RoadKit.slotOf Z sRA "executorLatencySum" "[D" := slot_ne (a0 := a0) (C := sRA) (Or.inr (wd hw 59 rfl)) (Or.inl (wd hw 25 rfl)) (by decide) (t := (.object sRQ)) (t' := (.array .double)) (by decide) (by decide)
theorem sn31 {Z : State} {a0 : Array Value} (hw : HW Z a0) : Jvm.RoadKit.slotOf Z sRA "completionEvents" dRQ ≠ Jvm.RoadKit.slotOf Z sRA "arrivalEvents" dRQ := slot_ne (a0 := a0) (C := sRA) (Or.inr (wd hw 59 rfl)) (Or.inr (wd hw 57 rfl)) (by decide) (t := (.object sRQ)) (t' := (.object sRQ)) (by decide) (by decide)
theorem dRA_46 : decode prog_63_method_1_code 46 = .ok (.aload_n 0, 1) := by decide +kernel
theorem dRA_47 : decode prog_63_method_1_code 47 = .ok (.dload_n 2, 1) := by decide +kernel
theorem dRA_48 : decode prog_63_method_1_code 48 = .ok (.putfield 29, 3) := by decide +kernel
theorem sn32 {Z : State} {a0 : Array Value} (hw : HW Z a0) : Jvm.RoadKit.slotOf Z sRA "window" "D" ≠ Jvm.RoadKit.slotOf Z sRA "executorCompleted" "[J" := slot_ne (a0 := a0) (C := sRA) (Or.inr (wd hw 61 rfl)) (Or.inl (wd hw 22 rfl)) (by decide) (t := .double) (t' := (.array .long)) (by decide) (by decide)
theorem sn33 {Z : State} {a0 : Array Value} (hw : HW Z a0) : Jvm.RoadKit.slotOf Z sRA "window" "D" ≠ Jvm.RoadKit.slotOf Z sRA "executorLatencySum" "[D" := slot_ne (a0 := a0) (C := sRA) (Or.inr (wd hw 61 rfl)) (Or.inl (wd hw 25 rfl)) (by decide) (t := .double) (t' := (.array .double)) (by decide) (by decide)
theorem sn34 {Z : State} {a0 : Array Value} (hw : HW Z a0) : Jvm.RoadKit.slotOf Z sRA "window" "D" ≠ Jvm.RoadKit.slotOf Z sRA "arrivalEvents" dRQ := slot_ne (a0 := a0) (C := sRA) (Or.inr (wd hw 61 rfl)) (Or.inr (wd hw 57 rfl)) (by decide) (t := .double) (t' := (.object sRQ)) (by decide) (by decide)
theorem sn35 {Z : State} {a0 : Array Value} (hw : HW Z a0) : Jvm.RoadKit.slotOf Z sRA "window" "D" ≠ Jvm.RoadKit.slotOf Z sRA "completionEvents" dRQ := slot_ne (a0 := a0) (C := sRA) (Or.inr (wd hw 61 rfl)) (Or.inr (wd hw 59 rfl)) (by decide) (t := .double) (t' := (.object sRQ)) (by decide) (by decide)
theorem dRA_51 : decode prog_63_method_1_code 51 = .ok (.aload_n 0, 1) := by decide +kernel
theorem dRA_52 : decode prog_63_method_1_code 52 = .ok (.dload 4, 2) := by decide +kernel
theorem dRA_54 : decode prog_63_method_1_code 54 = .ok (.putfield 33, 3) := by decide +kernel
theorem sn36 {Z : State} {a0 : Array Value} (hw : HW Z a0) : Jvm.RoadKit.slotOf Z sRA "asksBefore" "D" ≠ Jvm.RoadKit.slotOf Z sRA "executorCompleted" "[J" := slot_ne (a0 := a0) (C := sRA) (Or.inr (wd hw 63 rfl)) (Or.inl (wd hw 22 rfl)) (by decide) (t := .double) (t' := (.array .long)) (by decide) (by decide)
theorem sn37 {Z : State} {a0 : Array Value} (hw : HW Z a0) : Jvm.RoadKit.slotOf Z sRA "asksBefore" "D" ≠ Jvm.RoadKit.slotOf Z sRA "executorLatencySum" "[D" := slot_ne (a0 := a0) (C := sRA) (Or.inr (wd hw 63 rfl)) (Or.inl (wd hw 25 rfl)) (by decide) (t := .double) (t' := (.array .double)) (by decide) (by decide)
theorem sn38 {Z : State} {a0 : Array Value} (hw : HW Z a0) : Jvm.RoadKit.slotOf Z sRA "asksBefore" "D" ≠ Jvm.RoadKit.slotOf Z sRA "arrivalEvents" dRQ := slot_ne (a0 := a0) (C := sRA) (Or.inr (wd hw 63 rfl)) (Or.inr (wd hw 57 rfl)) (by decide) (t := .double) (t' := (.object sRQ)) (by decide) (by decide)
theorem sn39 {Z : State} {a0 : Array Value} (hw : HW Z a0) : Jvm.RoadKit.slotOf Z sRA "asksBefore" "D" ≠ Jvm.RoadKit.slotOf Z sRA "completionEvents" dRQ := slot_ne (a0 := a0) (C := sRA) (Or.inr (wd hw 63 rfl)) (Or.inr (wd hw 59 rfl)) (by decide) (t := .double) (t' := (.object sRQ)) (by decide) (by decide)
theorem sn40 {Z : State} {a0 : Array Value} (hw : HW Z a0) : Jvm.RoadKit.slotOf Z sRA "asksBefore" "D" ≠ Jvm.RoadKit.slotOf Z sRA "window" "D" := slot_ne (a0 := a0) (C := sRA) (Or.inr (wd hw 63 rfl)) (Or.inr (wd hw 61 rfl)) (by decide) (t := .double) (t' := .double) (by decide) (by decide)
theorem dRA_57 : decode prog_63_method_1_code 57 = .ok (.aload_n 0, 1) := by decide +kernel
theorem dRA_58 : decode prog_63_method_1_code 58 = .ok (.dload 4, 2) := by decide +kernel
theorem dRA_60 : decode prog_63_method_1_code 60 = .ok (.dload_n 2, 1) := by decide +kernel
theorem dRA_61 : decode prog_63_method_1_code 61 = .ok (.dsub, 1) := by decide +kernel
theorem dRA_62 : decode prog_63_method_1_code 62 = .ok (.putfield 36, 3) := by decide +kernel
theorem sn41 {Z : State} {a0 : Array Value} (hw : HW Z a0) : Jvm.RoadKit.slotOf Z sRA "keptUntil" "D" ≠ Jvm.RoadKit.slotOf Z sRA "executorCompleted" "[J" := slot_ne (a0 := a0) (C := sRA) (Or.inr (wd hw 65 rfl)) (Or.inl (wd hw 22 rfl)) (by decide) (t := .double) (t' := (.array .long)) (by decide) (by decide)
theorem sn42 {Z : State} {a0 : Array Value} (hw : HW Z a0) : Jvm.RoadKit.slotOf Z sRA "keptUntil" "D" ≠ Jvm.RoadKit.slotOf Z sRA "executorLatencySum" "[D" := slot_ne (a0 := a0) (C := sRA) (Or.inr (wd hw 65 rfl)) (Or.inl (wd hw 25 rfl)) (by decide) (t := .double) (t' := (.array .double)) (by decide) (by decide)
theorem sn43 {Z : State} {a0 : Array Value} (hw : HW Z a0) : Jvm.RoadKit.slotOf Z sRA "keptUntil" "D" ≠ Jvm.RoadKit.slotOf Z sRA "arrivalEvents" dRQ := slot_ne (a0 := a0) (C := sRA) (Or.inr (wd hw 65 rfl)) (Or.inr (wd hw 57 rfl)) (by decide) (t := .double) (t' := (.object sRQ)) (by decide) (by decide)
theorem sn44 {Z : State} {a0 : Array Value} (hw : HW Z a0) : Jvm.RoadKit.slotOf Z sRA "keptUntil" "D" ≠ Jvm.RoadKit.slotOf Z sRA "completionEvents" dRQ := slot_ne (a0 := a0) (C := sRA) (Or.inr (wd hw 65 rfl)) (Or.inr (wd hw 59 rfl)) (by decide) (t := .double) (t' := (.object sRQ)) (by decide) (by decide)
theorem sn45 {Z : State} {a0 : Array Value} (hw : HW Z a0) : Jvm.RoadKit.slotOf Z sRA "keptUntil" "D" ≠ Jvm.RoadKit.slotOf Z sRA "window" "D" := slot_ne (a0 := a0) (C := sRA) (Or.inr (wd hw 65 rfl)) (Or.inr (wd hw 61 rfl)) (by decide) (t := .double) (t' := .double) (by decide) (by decide)
theorem sn46 {Z : State} {a0 : Array Value} (hw : HW Z a0) : Jvm.RoadKit.slotOf Z sRA "keptUntil" "D" ≠ Jvm.RoadKit.slotOf Z sRA "asksBefore" "D" := slot_ne (a0 := a0) (C := sRA) (Or.inr (wd hw 65 rfl)) (Or.inr (wd hw 63 rfl)) (by decide) (t := .double) (t' := .double) (by decide) (by decide)
theorem dRA_65 : decode prog_63_method_1_code 65 = .ok (.aload_n 0, 1) := by decide +kernel
theorem dRA_66 : decode prog_63_method_1_code 66 = .ok (.iload_n 1, 1) := by decide +kernel
theorem dRA_67 : decode prog_63_method_1_code 67 = .ok (.newarray .long, 2) := by decide +kernel
theorem dRA_69 : decode prog_63_method_1_code 69 = .ok (.putfield 39, 3) := by decide +kernel
theorem sn47 {Z : State} {a0 : Array Value} (hw : HW Z a0) : Jvm.RoadKit.slotOf Z sRA "keyArrivals" "[J" ≠ Jvm.RoadKit.slotOf Z sRA "executorCompleted" "[J" := slot_ne (a0 := a0) (C := sRA) (Or.inr (wd hw 67 rfl)) (Or.inl (wd hw 22 rfl)) (by decide) (t := (.array .long)) (t' := (.array .long)) (by decide) (by decide)
theorem sn48 {Z : State} {a0 : Array Value} (hw : HW Z a0) : Jvm.RoadKit.slotOf Z sRA "keyArrivals" "[J" ≠ Jvm.RoadKit.slotOf Z sRA "executorLatencySum" "[D" := slot_ne (a0 := a0) (C := sRA) (Or.inr (wd hw 67 rfl)) (Or.inl (wd hw 25 rfl)) (by decide) (t := (.array .long)) (t' := (.array .double)) (by decide) (by decide)
theorem sn49 {Z : State} {a0 : Array Value} (hw : HW Z a0) : Jvm.RoadKit.slotOf Z sRA "keyArrivals" "[J" ≠ Jvm.RoadKit.slotOf Z sRA "arrivalEvents" dRQ := slot_ne (a0 := a0) (C := sRA) (Or.inr (wd hw 67 rfl)) (Or.inr (wd hw 57 rfl)) (by decide) (t := (.array .long)) (t' := (.object sRQ)) (by decide) (by decide)
theorem sn50 {Z : State} {a0 : Array Value} (hw : HW Z a0) : Jvm.RoadKit.slotOf Z sRA "keyArrivals" "[J" ≠ Jvm.RoadKit.slotOf Z sRA "completionEvents" dRQ := slot_ne (a0 := a0) (C := sRA) (Or.inr (wd hw 67 rfl)) (Or.inr (wd hw 59 rfl)) (by decide) (t := (.array .long)) (t' := (.object sRQ)) (by decide) (by decide)
theorem sn51 {Z : State} {a0 : Array Value} (hw : HW Z a0) : Jvm.RoadKit.slotOf Z sRA "keyArrivals" "[J" ≠ Jvm.RoadKit.slotOf Z sRA "window" "D" := slot_ne (a0 := a0) (C := sRA) (Or.inr (wd hw 67 rfl)) (Or.inr (wd hw 61 rfl)) (by decide) (t := (.array .long)) (t' := .double) (by decide) (by decide)
theorem sn52 {Z : State} {a0 : Array Value} (hw : HW Z a0) : Jvm.RoadKit.slotOf Z sRA "keyArrivals" "[J" ≠ Jvm.RoadKit.slotOf Z sRA "asksBefore" "D" := slot_ne (a0 := a0) (C := sRA) (Or.inr (wd hw 67 rfl)) (Or.inr (wd hw 63 rfl)) (by decide) (t := (.array .long)) (t' := .double) (by decide) (by decide)
theorem sn53 {Z : State} {a0 : Array Value} (hw : HW Z a0) : Jvm.RoadKit.slotOf Z sRA "keyArrivals" "[J" ≠ Jvm.RoadKit.slotOf Z sRA "keptUntil" "D" := slot_ne (a0 := a0) (C := sRA) (Or.inr (wd hw 67 rfl)) (Or.inr (wd hw 65 rfl)) (by decide) (t := (.array .long)) (t' := .double) (by decide) (by decide)
theorem dRA_72 : decode prog_63_method_1_code 72 = .ok (.return_, 1) := by decide +kernel
theorem sn54 {Z : State} {a0 : Array Value} (hw : HW Z a0) : Jvm.RoadKit.slotOf Z sRA "window" "D" ≠ Jvm.RoadKit.slotOf Z sRA "asksBefore" "D" := slot_ne (a0 := a0) (C := sRA) (Or.inr (wd hw 61 rfl)) (Or.inr (wd hw 63 rfl)) (by decide) (t := .double) (t' := .double) (by decide) (by decide)
theorem sn55 {Z : State} {a0 : Array Value} (hw : HW Z a0) : Jvm.RoadKit.slotOf Z sRA "window" "D" ≠ Jvm.RoadKit.slotOf Z sRA "keptUntil" "D" := slot_ne (a0 := a0) (C := sRA) (Or.inr (wd hw 61 rfl)) (Or.inr (wd hw 65 rfl)) (by decide) (t := .double) (t' := .double) (by decide) (by decide)
theorem sn56 {Z : State} {a0 : Array Value} (hw : HW Z a0) : Jvm.RoadKit.slotOf Z sRA "window" "D" ≠ Jvm.RoadKit.slotOf Z sRA "keyArrivals" "[J" := slot_ne (a0 := a0) (C := sRA) (Or.inr (wd hw 61 rfl)) (Or.inr (wd hw 67 rfl)) (by decide) (t := .double) (t' := (.array .long)) (by decide) (by decide)
theorem sn57 {Z : State} {a0 : Array Value} (hw : HW Z a0) : Jvm.RoadKit.slotOf Z sRA "asksBefore" "D" ≠ Jvm.RoadKit.slotOf Z sRA "keptUntil" "D" := slot_ne (a0 := a0) (C := sRA) (Or.inr (wd hw 63 rfl)) (Or.inr (wd hw 65 rfl)) (by decide) (t := .double) (t' := .double) (by decide) (by decide)
theorem sn58 {Z : State} {a0 : Array Value} (hw : HW Z a0) : Jvm.RoadKit.slotOf Z sRA "asksBefore" "D" ≠ Jvm.RoadKit.slotOf Z sRA "keyArrivals" "[J" := slot_ne (a0 := a0) (C := sRA) (Or.inr (wd hw 63 rfl)) (Or.inr (wd hw 67 rfl)) (by decide) (t := .double) (t' := (.array .long)) (by decide) (by decide)
theorem sn59 {Z : State} {a0 : Array Value} (hw : HW Z a0) : Jvm.RoadKit.slotOf Z sRA "keptUntil" "D" ≠ Jvm.RoadKit.slotOf Z sRA "keyArrivals" "[J" := slot_ne (a0 := a0) (C := sRA) (Or.inr (wd hw 65 rfl)) (Or.inr (wd hw 67 rfl)) (by decide) (t := .double) (t' := (.array .long)) (by decide) (by decide)
theorem sn60 {Z : State} {a0 : Array Value} (hw : HW Z a0) : Jvm.RoadKit.slotOf Z sRA "executorCompleted" "[J" ≠ Jvm.RoadKit.slotOf Z sRA "executorLatencySum" "[D" := slot_ne (a0 := a0) (C := sRA) (Or.inl (wd hw 22 rfl)) (Or.inl (wd hw 25 rfl)) (by decide) (t := (.array .long)) (t' := (.array .double)) (by decide) (by decide)
theorem sn61 {Z : State} {a0 : Array Value} (hw : HW Z a0) : Jvm.RoadKit.slotOf Z sRA "executorCompleted" "[J" ≠ Jvm.RoadKit.slotOf Z sRA "arrivalEvents" dRQ := slot_ne (a0 := a0) (C := sRA) (Or.inl (wd hw 22 rfl)) (Or.inr (wd hw 57 rfl)) (by decide) (t := (.array .long)) (t' := (.object sRQ)) (by decide) (by decide)
theorem sn62 {Z : State} {a0 : Array Value} (hw : HW Z a0) : Jvm.RoadKit.slotOf Z sRA "executorCompleted" "[J" ≠ Jvm.RoadKit.slotOf Z sRA "completionEvents" dRQ := slot_ne (a0 := a0) (C := sRA) (Or.inl (wd hw 22 rfl)) (Or.inr (wd hw 59 rfl)) (by decide) (t := (.array .long)) (t' := (.object sRQ)) (by decide) (by decide)
theorem sn63 {Z : State} {a0 : Array Value} (hw : HW Z a0) : Jvm.RoadKit.slotOf Z sRA "executorCompleted" "[J" ≠ Jvm.RoadKit.slotOf Z sRA "window" "D" := slot_ne (a0 := a0) (C := sRA) (Or.inl (wd hw 22 rfl)) (Or.inr (wd hw 61 rfl)) (by decide) (t := (.array .long)) (t' := .double) (by decide) (by decide)
theorem sn64 {Z : State} {a0 : Array Value} (hw : HW Z a0) : Jvm.RoadKit.slotOf Z sRA "executorCompleted" "[J" ≠ Jvm.RoadKit.slotOf Z sRA "asksBefore" "D" := slot_ne (a0 := a0) (C := sRA) (Or.inl (wd hw 22 rfl)) (Or.inr (wd hw 63 rfl)) (by decide) (t := (.array .long)) (t' := .double) (by decide) (by decide)
theorem sn65 {Z : State} {a0 : Array Value} (hw : HW Z a0) : Jvm.RoadKit.slotOf Z sRA "executorCompleted" "[J" ≠ Jvm.RoadKit.slotOf Z sRA "keptUntil" "D" := slot_ne (a0 := a0) (C := sRA) (Or.inl (wd hw 22 rfl)) (Or.inr (wd hw 65 rfl)) (by decide) (t := (.array .long)) (t' := .double) (by decide) (by decide)
theorem sn66 {Z : State} {a0 : Array Value} (hw : HW Z a0) : Jvm.RoadKit.slotOf Z sRA "executorCompleted" "[J" ≠ Jvm.RoadKit.slotOf Z sRA "keyArrivals" "[J" := slot_ne (a0 := a0) (C := sRA) (Or.inl (wd hw 22 rfl)) (Or.inr (wd hw 67 rfl)) (by decide) (t := (.array .long)) (t' := (.array .long)) (by decide) (by decide)
theorem sn67 {Z : State} {a0 : Array Value} (hw : HW Z a0) : Jvm.RoadKit.slotOf Z sRA "executorLatencySum" "[D" ≠ Jvm.RoadKit.slotOf Z sRA "arrivalEvents" dRQ := slot_ne (a0 := a0) (C := sRA) (Or.inl (wd hw 25 rfl)) (Or.inr (wd hw 57 rfl)) (by decide) (t := (.array .double)) (t' := (.object sRQ)) (by decide) (by decide)
theorem sn68 {Z : State} {a0 : Array Value} (hw : HW Z a0) : Jvm.RoadKit.slotOf Z sRA "executorLatencySum" "[D" ≠ Jvm.RoadKit.slotOf Z sRA "completionEvents" dRQ := slot_ne (a0 := a0) (C := sRA) (Or.inl (wd hw 25 rfl)) (Or.inr (wd hw 59 rfl)) (by decide) (t := (.array .double)) (t' := (.object sRQ)) (by decide) (by decide)
theorem sn69 {Z : State} {a0 : Array Value} (hw : HW Z a0) : Jvm.RoadKit.slotOf Z sRA "executorLatencySum" "[D" ≠ Jvm.RoadKit.slotOf Z sRA "window" "D" := slot_ne (a0 := a0) (C := sRA) (Or.inl (wd hw 25 rfl)) (Or.inr (wd hw 61 rfl)) (by decide) (t := (.array .double)) (t' := .double) (by decide) (by decide)
theorem sn70 {Z : State} {a0 : Array Value} (hw : HW Z a0) : Jvm.RoadKit.slotOf Z sRA "executorLatencySum" "[D" ≠ Jvm.RoadKit.slotOf Z sRA "asksBefore" "D" := slot_ne (a0 := a0) (C := sRA) (Or.inl (wd hw 25 rfl)) (Or.inr (wd hw 63 rfl)) (by decide) (t := (.array .double)) (t' := .double) (by decide) (by decide)
theorem sn71 {Z : State} {a0 : Array Value} (hw : HW Z a0) : Jvm.RoadKit.slotOf Z sRA "executorLatencySum" "[D" ≠ Jvm.RoadKit.slotOf Z sRA "keptUntil" "D" := slot_ne (a0 := a0) (C := sRA) (Or.inl (wd hw 25 rfl)) (Or.inr (wd hw 65 rfl)) (by decide) (t := (.array .double)) (t' := .double) (by decide) (by decide)
theorem sn72 {Z : State} {a0 : Array Value} (hw : HW Z a0) : Jvm.RoadKit.slotOf Z sRA "executorLatencySum" "[D" ≠ Jvm.RoadKit.slotOf Z sRA "keyArrivals" "[J" := slot_ne (a0 := a0) (C := sRA) (Or.inl (wd hw 25 rfl)) (Or.inr (wd hw 67 rfl)) (by decide) (t := (.array .double)) (t' := (.array .long)) (by decide) (by decide)
theorem sn73 {Z : State} {a0 : Array Value} (hw : HW Z a0) : Jvm.RoadKit.slotOf Z sRA "arrivalEvents" dRQ ≠ Jvm.RoadKit.slotOf Z sRA "completionEvents" dRQ := slot_ne (a0 := a0) (C := sRA) (Or.inr (wd hw 57 rfl)) (Or.inr (wd hw 59 rfl)) (by decide) (t := (.object sRQ)) (t' := (.object sRQ)) (by decide) (by decide)
theorem sn74 {Z : State} {a0 : Array Value} (hw : HW Z a0) : Jvm.RoadKit.slotOf Z sRA "arrivalEvents" dRQ ≠ Jvm.RoadKit.slotOf Z sRA "window" "D" := slot_ne (a0 := a0) (C := sRA) (Or.inr (wd hw 57 rfl)) (Or.inr (wd hw 61 rfl)) (by decide) (t := (.object sRQ)) (t' := .double) (by decide) (by decide)
theorem sn75 {Z : State} {a0 : Array Value} (hw : HW Z a0) : Jvm.RoadKit.slotOf Z sRA "arrivalEvents" dRQ ≠ Jvm.RoadKit.slotOf Z sRA "asksBefore" "D" := slot_ne (a0 := a0) (C := sRA) (Or.inr (wd hw 57 rfl)) (Or.inr (wd hw 63 rfl)) (by decide) (t := (.object sRQ)) (t' := .double) (by decide) (by decide)
theorem sn76 {Z : State} {a0 : Array Value} (hw : HW Z a0) : Jvm.RoadKit.slotOf Z sRA "arrivalEvents" dRQ ≠ Jvm.RoadKit.slotOf Z sRA "keptUntil" "D" := slot_ne (a0 := a0) (C := sRA) (Or.inr (wd hw 57 rfl)) (Or.inr (wd hw 65 rfl)) (by decide) (t := (.object sRQ)) (t' := .double) (by decide) (by decide)
theorem sn77 {Z : State} {a0 : Array Value} (hw : HW Z a0) : Jvm.RoadKit.slotOf Z sRA "arrivalEvents" dRQ ≠ Jvm.RoadKit.slotOf Z sRA "keyArrivals" "[J" := slot_ne (a0 := a0) (C := sRA) (Or.inr (wd hw 57 rfl)) (Or.inr (wd hw 67 rfl)) (by decide) (t := (.object sRQ)) (t' := (.array .long)) (by decide) (by decide)
theorem sn78 {Z : State} {a0 : Array Value} (hw : HW Z a0) : Jvm.RoadKit.slotOf Z sRA "completionEvents" dRQ ≠ Jvm.RoadKit.slotOf Z sRA "window" "D" := slot_ne (a0 := a0) (C := sRA) (Or.inr (wd hw 59 rfl)) (Or.inr (wd hw 61 rfl)) (by decide) (t := (.object sRQ)) (t' := .double) (by decide) (by decide)
theorem sn79 {Z : State} {a0 : Array Value} (hw : HW Z a0) : Jvm.RoadKit.slotOf Z sRA "completionEvents" dRQ ≠ Jvm.RoadKit.slotOf Z sRA "asksBefore" "D" := slot_ne (a0 := a0) (C := sRA) (Or.inr (wd hw 59 rfl)) (Or.inr (wd hw 63 rfl)) (by decide) (t := (.object sRQ)) (t' := .double) (by decide) (by decide)
theorem sn80 {Z : State} {a0 : Array Value} (hw : HW Z a0) : Jvm.RoadKit.slotOf Z sRA "completionEvents" dRQ ≠ Jvm.RoadKit.slotOf Z sRA "keptUntil" "D" := slot_ne (a0 := a0) (C := sRA) (Or.inr (wd hw 59 rfl)) (Or.inr (wd hw 65 rfl)) (by decide) (t := (.object sRQ)) (t' := .double) (by decide) (by decide)
theorem sn81 {Z : State} {a0 : Array Value} (hw : HW Z a0) : Jvm.RoadKit.slotOf Z sRA "completionEvents" dRQ ≠ Jvm.RoadKit.slotOf Z sRA "keyArrivals" "[J" := slot_ne (a0 := a0) (C := sRA) (Or.inr (wd hw 59 rfl)) (Or.inr (wd hw 67 rfl)) (by decide) (t := (.object sRQ)) (t' := (.array .long)) (by decide) (by decide)
theorem pn_com_example_frugal_weir_frugalweir_replay_RecentActivity : plainName sRA = true := by first | (simp [plainName, overriddenIn]; done) | decide +kernel
theorem ef_RA (m : MethodId) (x0 : Addr) (x2 : UInt64) (x3 : UInt64) : entryFrame m #[(.ref x0), (.int (1 : Int32)), (.double x2), (.double x3)] 6 = mkF m 0 #[.val (.ref x0), .val (.int (1 : Int32)), .val (.double x2), .second, .val (.double x3), .second] [] := by first | (simp [entryFrame, mkF, argsToLocals, Value.category]; done) | rfl
def QRA (Z : State) (A : Addr) (h0 : Heap) (n0 : Nat) (v : Option Value) (h : Heap) (L : List Loc) : Prop := v = none ∧ Fr n0 L ∧ Keep h0 h [A] ∧ ∃ (ec el qa q : Addr) (kec kel : ClassId), own_S0 Z h n0 A ec el qa q kec kel (16 : Int32) (fun _ => 0) (fun _ => 0)
set_option maxRecDepth 65536 in
set_option maxHeartbeats 40000000 in
theorem rmRA (l : Launch) (Z : State) (a0 : Array Value) (hw : HW Z a0) (ws : List Jvm.Cond) (A : Addr) (h0 : Heap) (n0 : Nat) (Z0 : n0 ≤ h0.size) (E_A : Exa Z h0 A sRA) (F_A_window : Fld Z h0 A sRA "window" "D" (.double (FP.l2d 0))) (F_A_asksBefore : Fld Z h0 A sRA "asksBefore" "D" (.double (FP.l2d 0))) (F_A_keptUntil : Fld Z h0 A sRA "keptUntil" "D" (.double (FP.l2d 0))) (F_A_keyArrivals : Fld Z h0 A sRA "keyArrivals" "[J" .null) (F_A_executorCompleted : Fld Z h0 A sRA "executorCompleted" "[J" .null) (F_A_executorLatencySum : Fld Z h0 A sRA "executorLatencySum" "[D" .null) (F_A_arrivalEvents : Fld Z h0 A sRA "arrivalEvents" dRQ .null) (F_A_completionEvents : Fld Z h0 A sRA "completionEvents" dRQ .null) (g_A : n0 ≤ A) :
  MetFree l (⟨sRA, "<init>", "(IDD)V"⟩ : MethodName) (head1 (Jvm.Cond.code (⟨sRA, "<init>", "(IDD)V"⟩ : MethodName) prog_63_method_1_code 6 none :: ws) (Rm 4 9 91 54)) (fun a U => a = #[(.ref A), (.int (1 : Int32)), (.double (FP.l2d 10)), (.double (FP.l2d 100))] ∧ Z.Warmed39 U.vm ∧ U.heap = h0) (fun _ _ _ _ _ => True) (fun _ U o U' => ∃ v L, o = .returned v ∧ QRA Z A h0 n0 v U'.heap L ∧ FrameEnd U o U' L (Rm 4 9 91 54).cells (Rm 4 9 91 54).slots) := by
 refine MetFree.of_bodySF (plainFor_of_name pn_com_example_frugal_weir_frugalweir_replay_RecentActivity) hisR ?_
 intro p e s m args below meth c s₁ Bd hml0 hP hK
 obtain ⟨rfl, hZ, hh⟩ := hP
 have hx := Bd.exec
 have hby := Bd.bytes
 have hml : c.maxLocals = 6 := hml0
 have hown : s.vm.findClass sRA = some m.cls := findClass_of_methodNamed Bd.named
 have hnm := (name_of_methodNamed Bd.named Bd.method).1
 have X0 : Stand p l e (Rm 4 9 91 54) s m #[(.ref A), (.int (1 : Int32)), (.double (FP.l2d 10)), (.double (FP.l2d 100))] below meth c s₁ [] 0 0 := Stand.of_body Bd
 have e0 : s₁.heap = h0 := by rw [← hh, Bd.state]; rfl
 have N0 := Fr.nil n0
 have K0 := Keep.refl h0 [A]
 have pre0 : ∀ t, Steps p.tables e below (s₁.setTop (mkF m 0 #[.val (.ref A), .val (.int (1 : Int32)), .val (.double (FP.l2d 10)), .second, .val (.double (FP.l2d 100)), .second] [])) t → Steps p.tables e below (s₁.setTop (entryFrame m #[(.ref A), (.int (1 : Int32)), (.double (FP.l2d 10)), (.double (FP.l2d 100))] 6)) t := fun t k => castTop (ef_RA m A (FP.l2d 10) (FP.l2d 100)) k
 obtain ⟨T85, X85, e85, st85⟩ := initO X0 hx hZ hown (wd hw 17 rfl) (wd hw 18 rfl) (wd hw 19 rfl) e0 (g := (mkF m 1 #[.val (.ref A), .val (.int (1 : Int32)), .val (.double (FP.l2d 10)), .second, .val (.double (FP.l2d 100)), .second] [(.ref A)])) rfl (by rw [hml]; rfl) rfl (hb hby dRA_1) (by decide) (W := 0) (by show 2 * 0 + _ ≤ _; exact Nat.le_of_eq rfl) (by decide)
 obtain ⟨T86, h86, k86, X86, e86, E86, A86, st86⟩ := newP X85 hx hZ (wd hw 20 rfl) e85 (g := (mkF m 7 #[.val (.ref A), .val (.int (1 : Int32)), .val (.double (FP.l2d 10)), .second, .val (.double (FP.l2d 100)), .second] [(.int (16 : Int32)), (.ref A)])) rfl (hb hby dRA_7) rfl (by decide) (cap := 16) (by decide) (by decide) (by decide) (by decide)
 obtain ⟨b86, g86⟩ : ∃ z, z = h0.size := ⟨_, rfl⟩
 rw [← g86] at A86 st86
 have lt_A_b86 : A < b86 := Nat.lt_of_lt_of_le E_A.lt (Nat.le_of_eq g86.symm)
 have g_b86 : n0 ≤ b86 := Nat.le_trans (Nat.le_trans Z0 K0.1) (Nat.le_of_eq g86.symm)
 have sz_b86 : h0.size ≤ b86 := Nat.le_trans K0.1 (Nat.le_of_eq g86.symm)
 have K86 : Keep h0 h86 [A] := K0.ext E86
 have V86 : Arv Z h86 b86 k86 .long (16 : Int32) [(.long (0 : Int64)), (.long (0 : Int64)), (.long (0 : Int64)), (.long (0 : Int64)), (.long (0 : Int64)), (.long (0 : Int64)), (.long (0 : Int64)), (.long (0 : Int64)), (.long (0 : Int64)), (.long (0 : Int64)), (.long (0 : Int64)), (.long (0 : Int64)), (.long (0 : Int64)), (.long (0 : Int64)), (.long (0 : Int64)), (.long (0 : Int64))] (.long (0 : Int64)) := (Arv.new A86 (by decide)).pad (pad_rep [] (.long (0 : Int64)) 16)
 have f87 := E_A.ext E86
 have f88 := F_A_executorCompleted.ext E86
 obtain ⟨T89, h89, X89, e89, W89, st89⟩ := putF X86 hx hZ hown (host := "") (Or.inl (wd hw 21 rfl)) Via.refl e86 f88 f87 (Or.inl (wd hw 22 rfl)) (wd hw 10 rfl) (ty := (.array .long)) (by decide) rfl rfl (g := (mkF m 9 #[.val (.ref A), .val (.int (1 : Int32)), .val (.double (FP.l2d 10)), .second, .val (.double (FP.l2d 100)), .second] [(.ref b86), (.ref A)])) rfl rfl (hb hby dRA_9)
 have Fw89 := f88.same W89
 have K89 : Keep h0 h89 [A] := K86.wr W89 (Or.inl (List.mem_of_getElem? (i := 0) rfl))
 have N89 := Fr.snoc X89 N0 g_A
 obtain ⟨T90, h90, k90, X90, e90, E90, A90, st90⟩ := newP X89 hx hZ (wd hw 23 rfl) e89 (g := (mkF m 15 #[.val (.ref A), .val (.int (1 : Int32)), .val (.double (FP.l2d 10)), .second, .val (.double (FP.l2d 100)), .second] [(.int (16 : Int32)), (.ref A)])) rfl (hb hby dRA_15) rfl (by decide) (cap := 16) (by decide) (by decide) (by decide) (by decide)
 obtain ⟨b90, g90⟩ : ∃ z, z = h89.size := ⟨_, rfl⟩
 rw [← g90] at A90 st90
 have f91 := f87.wr W89
 have lt_A_b90 : A < b90 := Nat.lt_of_lt_of_le f91.lt (Nat.le_of_eq g90.symm)
 have f92 := V86.other W89 (Nat.ne_of_gt lt_A_b86)
 have lt_b86_b90 : b86 < b90 := Nat.lt_of_lt_of_le f92.lt (Nat.le_of_eq g90.symm)
 have g_b90 : n0 ≤ b90 := Nat.le_trans (Nat.le_trans Z0 K89.1) (Nat.le_of_eq g90.symm)
 have sz_b90 : h0.size ≤ b90 := Nat.le_trans K89.1 (Nat.le_of_eq g90.symm)
 have K90 : Keep h0 h90 [A] := K89.ext E90
 have V90 : Arv Z h90 b90 k90 .double (16 : Int32) [(.double (FP.l2d 0)), (.double (FP.l2d 0)), (.double (FP.l2d 0)), (.double (FP.l2d 0)), (.double (FP.l2d 0)), (.double (FP.l2d 0)), (.double (FP.l2d 0)), (.double (FP.l2d 0)), (.double (FP.l2d 0)), (.double (FP.l2d 0)), (.double (FP.l2d 0)), (.double (FP.l2d 0)), (.double (FP.l2d 0)), (.double (FP.l2d 0)), (.double (FP.l2d 0)), (.double (FP.l2d 0))] (.double (FP.l2d 0)) := (Arv.newD A90 (by decide)).pad (pad_rep [] (.double (FP.l2d 0)) 16)
 have f93 := f91.ext E90
 have f96 := ((F_A_executorLatencySum.ext E86).other W89 (Or.inr (sn26 hw))).ext E90
 obtain ⟨T97, h97, X97, e97, W97, st97⟩ := putF X90 hx hZ hown (host := "") (Or.inl (wd hw 24 rfl)) Via.refl e90 f96 f93 (Or.inl (wd hw 25 rfl)) (wd hw 10 rfl) (ty := (.array .double)) (by decide) rfl rfl (g := (mkF m 17 #[.val (.ref A), .val (.int (1 : Int32)), .val (.double (FP.l2d 10)), .second, .val (.double (FP.l2d 100)), .second] [(.ref b90), (.ref A)])) rfl rfl (hb hby dRA_17)
 have Fw97 := f96.same W97
 have K97 : Keep h0 h97 [A] := K90.wr W97 (Or.inl (List.mem_of_getElem? (i := 0) rfl))
 have N97 := Fr.snoc X97 N89 g_A
 obtain ⟨T98, h98, X98, e98, E98, A98, D98, -, st98⟩ := newO X97 hx hZ hown (wd hw 26 rfl) (wd hw 27 rfl) (wd hw 28 rfl) e97 (g := (mkF m 21 #[.val (.ref A), .val (.int (1 : Int32)), .val (.double (FP.l2d 10)), .second, .val (.double (FP.l2d 100)), .second] [(.ref A)])) rfl (hb hby dRA_21) (by decide) (by decide)
 obtain ⟨b98, g98⟩ : ∃ z, z = h97.size := ⟨_, rfl⟩
 rw [← g98] at A98 D98 st98
 have f99 := f93.wr W97
 have lt_A_b98 : A < b98 := Nat.lt_of_lt_of_le f99.lt (Nat.le_of_eq g98.symm)
 have f101 := (f92.ext E90).other W97 (Nat.ne_of_gt lt_A_b86)
 have lt_b86_b98 : b86 < b98 := Nat.lt_of_lt_of_le f101.lt (Nat.le_of_eq g98.symm)
 have f102 := V90.other W97 (Nat.ne_of_gt lt_A_b90)
 have lt_b90_b98 : b90 < b98 := Nat.lt_of_lt_of_le f102.lt (Nat.le_of_eq g98.symm)
 have g_b98 : n0 ≤ b98 := Nat.le_trans (Nat.le_trans Z0 K97.1) (Nat.le_of_eq g98.symm)
 have sz_b98 : h0.size ≤ b98 := Nat.le_trans K97.1 (Nat.le_of_eq g98.symm)
 have K98 : Keep h0 h98 [A] := K97.ext E98
 have F98_blocks : Fld Z h98 b98 sRQ "blocks" "Ljava/util/ArrayDeque;" .null := D98 (Or.inr (wd hw 51 rfl)) (ty := (.object sAQ)) (by decide)
 have F98_intFields : Fld Z h98 b98 sRQ "intFields" "I" (.int (0 : Int32)) := D98 (Or.inr (wd hw 53 rfl)) (ty := .int) (by decide)
 have F98_doubleFields : Fld Z h98 b98 sRQ "doubleFields" "I" (.int (0 : Int32)) := D98 (Or.inr (wd hw 55 rfl)) (ty := .int) (by decide)
 have F98_last : Fld Z h98 b98 sRQ "last" dBK .null := D98 (Or.inl (wd hw 79 rfl)) (ty := (.object sBK)) (by decide)
 have F98_size : Fld Z h98 b98 sRQ "size" "I" (.int (0 : Int32)) := D98 (Or.inl (wd hw 81 rfl)) (ty := .int) (by decide)
 have F98_spare : Fld Z h98 b98 sRQ "spare" dBK .null := D98 (Or.inl (wd hw 91 rfl)) (ty := (.object sBK)) (by decide)
 have F98_end : Fld Z h98 b98 sRQ "end" "I" (.int (0 : Int32)) := D98 (Or.inl (wd hw 124 rfl)) (ty := .int) (by decide)
 have F98_first : Fld Z h98 b98 sRQ "first" dBK .null := D98 (Or.inl (wd hw 126 rfl)) (ty := (.object sBK)) (by decide)
 have F98_head : Fld Z h98 b98 sRQ "head" "I" (.int (0 : Int32)) := D98 (Or.inl (wd hw 174 rfl)) (ty := .int) (by decide)
 have f104 := f99.ext E98
 have f105 := f101.ext E98
 have f106 := f102.ext E98
 obtain ⟨_, _, ⟨T103, L103, k103, n103⟩, -, X103, ⟨Lc103, hQ103, l103, y103, z103⟩, st103⟩ := X98.specialBack hx (y := (⟨sRQ, "<init>", "(II)V"⟩ : MethodName)) rfl hown (mvT hZ (wd hw 29 rfl)) (mvT hZ (wd hw 30 rfl)) (mvT hZ (wd hw 31 rfl)) (by decide) (backOf (W := 2) (rmRQ l Z a0 hw [] b98 (1 : Int32) h98 n0 (Nat.le_trans Z0 K98.1) A98 F98_intFields F98_doubleFields F98_blocks F98_first F98_last F98_spare F98_head F98_end F98_size g_b98) hZ (wd hw 31 rfl) (wd hw 28 rfl) (by decide) (by decide)) (g := (mkF m 27 #[.val (.ref A), .val (.int (1 : Int32)), .val (.double (FP.l2d 10)), .second, .val (.double (FP.l2d 100)), .second] [(.int (1 : Int32)), (.int (1 : Int32)), (.ref b98), (.ref b98), (.ref A)])) rfl (by rw [hml]; rfl) (Steps.refl _) (a := b98) (argsL := [(.int (1 : Int32)), (.int (1 : Int32))]) (rest := [(.ref b98), (.ref A)]) (lenOf pd_2 rfl) rfl (by show 2 * 0 + _ ≤ _; exact Nat.le_of_eq rfl) (hb hby dRA_27) (fun _ _ => ⟨rfl, e98, (by decide : 3 + 2 ≤ _), (by decide : 41 + 20 ≤ _)⟩)
 dsimp only [Pt.U, Pt.locs, Pt.cells, Pt.slots] at X103 l103 y103 z103 st103 hQ103
 rw [l103, y103, z103] at X103
 obtain ⟨hv103, Nq103, Kc103, Ex103, FintFields103, FdoubleFields103, Ffirst103, Flast103, Fspare103, Fhead103, Fend103, Fsize103, dq103, es103, kes103, Fb103, Eq103, Fqh103, Fqt103, Fqe103, Ve103, Oe103, sq103, lq103⟩ := hQ103
 rw [hv103] at st103
 have K103 : Keep h0 T103.heap [A] := K98.trans Kc103 (allS (P := fun x => x ∈ [A] ∨ h0.size ≤ x) (Or.inr sz_b98) all0)
 have lt_A_dq103 : A < dq103 := Nat.lt_of_lt_of_le f104.lt sq103
 have lt_b86_dq103 : b86 < dq103 := Nat.lt_of_lt_of_le f105.lt sq103
 have lt_b90_dq103 : b90 < dq103 := Nat.lt_of_lt_of_le f106.lt sq103
 have lt_b98_dq103 : b98 < dq103 := Nat.lt_of_lt_of_le A98.lt sq103
 have lt_A_es103 : A < es103 := Nat.lt_trans lt_A_dq103 lq103
 have lt_b86_es103 : b86 < es103 := Nat.lt_trans lt_b86_dq103 lq103
 have lt_b90_es103 : b90 < es103 := Nat.lt_trans lt_b90_dq103 lq103
 have lt_b98_es103 : b98 < es103 := Nat.lt_trans lt_b98_dq103 lq103
 have lt_dq103_es103 : dq103 < es103 := lq103
 have sz_dq103 : h0.size ≤ dq103 := Nat.le_trans K98.1 sq103
 have sz_es103 : h0.size ≤ es103 := Nat.le_of_lt (Nat.lt_of_le_of_lt sz_dq103 lq103)
 have g_dq103 : n0 ≤ dq103 := Nat.le_trans Z0 sz_dq103
 have g_es103 : n0 ≤ es103 := Nat.le_trans Z0 sz_es103
 have N103 := Fr.app N97 Nq103
 have f107 := f104.keep Kc103
 have f113 := (((((F_A_arrivalEvents.ext E86).other W89 (Or.inr (sn27 hw))).ext E90).other W97 (Or.inr (sn28 hw))).ext E98).keep Kc103 (ninL lt_A_b98)
 obtain ⟨T114, h114, X114, e114, W114, st114⟩ := putF X103 hx hZ hown (host := "") (Or.inl (wd hw 56 rfl)) Via.refl rfl f113 f107 (Or.inr ⟨(wd hw 57 rfl), rfl, hnm⟩) (wd hw 10 rfl) (ty := (.object sRQ)) (by decide) rfl rfl (g := (mkF m 30 #[.val (.ref A), .val (.int (1 : Int32)), .val (.double (FP.l2d 10)), .second, .val (.double (FP.l2d 100)), .second] [(.ref b98), (.ref A)])) rfl rfl (hb hby dRA_30)
 have Fw114 := f113.same W114
 have K114 : Keep h0 h114 [A] := K103.wr W114 (Or.inl (List.mem_of_getElem? (i := 0) rfl))
 have N114 := Fr.snoc X114 N103 g_A
 obtain ⟨T115, h115, X115, e115, E115, A115, D115, -, st115⟩ := newO X114 hx hZ hown (wd hw 26 rfl) (wd hw 27 rfl) (wd hw 28 rfl) e114 (g := (mkF m 34 #[.val (.ref A), .val (.int (1 : Int32)), .val (.double (FP.l2d 10)), .second, .val (.double (FP.l2d 100)), .second] [(.ref A)])) rfl (hb hby dRA_34) (by decide) (by decide)
 obtain ⟨b115, g115⟩ : ∃ z, z = h114.size := ⟨_, rfl⟩
 rw [← g115] at A115 D115 st115
 have f116 := f107.wr W114
 have lt_A_b115 : A < b115 := Nat.lt_of_lt_of_le f116.lt (Nat.le_of_eq g115.symm)
 have f118 := (f105.keep Kc103 (ninL lt_b86_b98)).other W114 (Nat.ne_of_gt lt_A_b86)
 have lt_b86_b115 : b86 < b115 := Nat.lt_of_lt_of_le f118.lt (Nat.le_of_eq g115.symm)
 have f120 := (f106.keep Kc103 (ninL lt_b90_b98)).other W114 (Nat.ne_of_gt lt_A_b90)
 have lt_b90_b115 : b90 < b115 := Nat.lt_of_lt_of_le f120.lt (Nat.le_of_eq g115.symm)
 have f121 := Ex103.wr W114
 have lt_b98_b115 : b98 < b115 := Nat.lt_of_lt_of_le f121.lt (Nat.le_of_eq g115.symm)
 have f122 := Eq103.wr W114
 have lt_dq103_b115 : dq103 < b115 := Nat.lt_of_lt_of_le f122.lt (Nat.le_of_eq g115.symm)
 have f123 := Ve103.other W114 (Nat.ne_of_gt lt_A_es103)
 have lt_es103_b115 : es103 < b115 := Nat.lt_of_lt_of_le f123.lt (Nat.le_of_eq g115.symm)
 have g_b115 : n0 ≤ b115 := Nat.le_trans (Nat.le_trans Z0 K114.1) (Nat.le_of_eq g115.symm)
 have sz_b115 : h0.size ≤ b115 := Nat.le_trans K114.1 (Nat.le_of_eq g115.symm)
 have K115 : Keep h0 h115 [A] := K114.ext E115
 have F115_blocks : Fld Z h115 b115 sRQ "blocks" "Ljava/util/ArrayDeque;" .null := D115 (Or.inr (wd hw 51 rfl)) (ty := (.object sAQ)) (by decide)
 have F115_intFields : Fld Z h115 b115 sRQ "intFields" "I" (.int (0 : Int32)) := D115 (Or.inr (wd hw 53 rfl)) (ty := .int) (by decide)
 have F115_doubleFields : Fld Z h115 b115 sRQ "doubleFields" "I" (.int (0 : Int32)) := D115 (Or.inr (wd hw 55 rfl)) (ty := .int) (by decide)
 have F115_last : Fld Z h115 b115 sRQ "last" dBK .null := D115 (Or.inl (wd hw 79 rfl)) (ty := (.object sBK)) (by decide)
 have F115_size : Fld Z h115 b115 sRQ "size" "I" (.int (0 : Int32)) := D115 (Or.inl (wd hw 81 rfl)) (ty := .int) (by decide)
 have F115_spare : Fld Z h115 b115 sRQ "spare" dBK .null := D115 (Or.inl (wd hw 91 rfl)) (ty := (.object sBK)) (by decide)
 have F115_end : Fld Z h115 b115 sRQ "end" "I" (.int (0 : Int32)) := D115 (Or.inl (wd hw 124 rfl)) (ty := .int) (by decide)
 have F115_first : Fld Z h115 b115 sRQ "first" dBK .null := D115 (Or.inl (wd hw 126 rfl)) (ty := (.object sBK)) (by decide)
 have F115_head : Fld Z h115 b115 sRQ "head" "I" (.int (0 : Int32)) := D115 (Or.inl (wd hw 174 rfl)) (ty := .int) (by decide)
 have f125 := f116.ext E115
 have f126 := f118.ext E115
 have f127 := f120.ext E115
 have f128 := f121.ext E115
 have f129 := f122.ext E115
 have f130 := f123.ext E115
 obtain ⟨_, _, ⟨T124, L124, k124, n124⟩, -, X124, ⟨Lc124, hQ124, l124, y124, z124⟩, st124⟩ := X115.specialBack hx (y := (⟨sRQ, "<init>", "(II)V"⟩ : MethodName)) rfl hown (mvT hZ (wd hw 29 rfl)) (mvT hZ (wd hw 30 rfl)) (mvT hZ (wd hw 31 rfl)) (by decide) (backOf (W := 2) (rmRQ l Z a0 hw [] b115 (2 : Int32) h115 n0 (Nat.le_trans Z0 K115.1) A115 F115_intFields F115_doubleFields F115_blocks F115_first F115_last F115_spare F115_head F115_end F115_size g_b115) hZ (wd hw 31 rfl) (wd hw 28 rfl) (by decide) (by decide)) (g := (mkF m 40 #[.val (.ref A), .val (.int (1 : Int32)), .val (.double (FP.l2d 10)), .second, .val (.double (FP.l2d 100)), .second] [(.int (2 : Int32)), (.int (1 : Int32)), (.ref b115), (.ref b115), (.ref A)])) rfl (by rw [hml]; rfl) (Steps.refl _) (a := b115) (argsL := [(.int (1 : Int32)), (.int (2 : Int32))]) (rest := [(.ref b115), (.ref A)]) (lenOf pd_2 rfl) rfl (by show 2 * 0 + _ ≤ _; exact Nat.le_of_eq rfl) (hb hby dRA_40) (fun _ _ => ⟨rfl, e115, (by decide : 6 + 2 ≤ _), (by decide : 70 + 20 ≤ _)⟩)
 dsimp only [Pt.U, Pt.locs, Pt.cells, Pt.slots] at X124 l124 y124 z124 st124 hQ124
 rw [l124, y124, z124] at X124
 obtain ⟨hv124, Nq124, Kc124, Ex124, FintFields124, FdoubleFields124, Ffirst124, Flast124, Fspare124, Fhead124, Fend124, Fsize124, dq124, es124, kes124, Fb124, Eq124, Fqh124, Fqt124, Fqe124, Ve124, Oe124, sq124, lq124⟩ := hQ124
 rw [hv124] at st124
 have K124 : Keep h0 T124.heap [A] := K115.trans Kc124 (allS (P := fun x => x ∈ [A] ∨ h0.size ≤ x) (Or.inr sz_b115) all0)
 have lt_A_dq124 : A < dq124 := Nat.lt_of_lt_of_le f125.lt sq124
 have lt_b86_dq124 : b86 < dq124 := Nat.lt_of_lt_of_le f126.lt sq124
 have lt_b90_dq124 : b90 < dq124 := Nat.lt_of_lt_of_le f127.lt sq124
 have lt_b98_dq124 : b98 < dq124 := Nat.lt_of_lt_of_le f128.lt sq124
 have lt_dq103_dq124 : dq103 < dq124 := Nat.lt_of_lt_of_le f129.lt sq124
 have lt_es103_dq124 : es103 < dq124 := Nat.lt_of_lt_of_le f130.lt sq124
 have lt_b115_dq124 : b115 < dq124 := Nat.lt_of_lt_of_le A115.lt sq124
 have lt_A_es124 : A < es124 := Nat.lt_trans lt_A_dq124 lq124
 have lt_b86_es124 : b86 < es124 := Nat.lt_trans lt_b86_dq124 lq124
 have lt_b90_es124 : b90 < es124 := Nat.lt_trans lt_b90_dq124 lq124
 have lt_b98_es124 : b98 < es124 := Nat.lt_trans lt_b98_dq124 lq124
 have lt_dq103_es124 : dq103 < es124 := Nat.lt_trans lt_dq103_dq124 lq124
 have lt_es103_es124 : es103 < es124 := Nat.lt_trans lt_es103_dq124 lq124
 have lt_b115_es124 : b115 < es124 := Nat.lt_trans lt_b115_dq124 lq124
 have lt_dq124_es124 : dq124 < es124 := lq124
 have sz_dq124 : h0.size ≤ dq124 := Nat.le_trans K115.1 sq124
 have sz_es124 : h0.size ≤ es124 := Nat.le_of_lt (Nat.lt_of_le_of_lt sz_dq124 lq124)
 have g_dq124 : n0 ≤ dq124 := Nat.le_trans Z0 sz_dq124
 have g_es124 : n0 ≤ es124 := Nat.le_trans Z0 sz_es124
 have N124 := Fr.app N114 Nq124
 have f131 := f125.keep Kc124
 have f140 := ((((((((F_A_completionEvents.ext E86).other W89 (Or.inr (sn29 hw))).ext E90).other W97 (Or.inr (sn30 hw))).ext E98).keep Kc103 (ninL lt_A_b98)).other W114 (Or.inr (sn31 hw))).ext E115).keep Kc124 (ninL lt_A_b115)
 obtain ⟨T141, h141, X141, e141, W141, st141⟩ := putF X124 hx hZ hown (host := "") (Or.inl (wd hw 58 rfl)) Via.refl rfl f140 f131 (Or.inr ⟨(wd hw 59 rfl), rfl, hnm⟩) (wd hw 10 rfl) (ty := (.object sRQ)) (by decide) rfl rfl (g := (mkF m 43 #[.val (.ref A), .val (.int (1 : Int32)), .val (.double (FP.l2d 10)), .second, .val (.double (FP.l2d 100)), .second] [(.ref b115), (.ref A)])) rfl rfl (hb hby dRA_43)
 have Fw141 := f140.same W141
 have K141 : Keep h0 h141 [A] := K124.wr W141 (Or.inl (List.mem_of_getElem? (i := 0) rfl))
 have N141 := Fr.snoc X141 N124 g_A
 have f142 := f131.wr W141
 have f152 := (((((((((F_A_window.ext E86).other W89 (Or.inr (sn32 hw))).ext E90).other W97 (Or.inr (sn33 hw))).ext E98).keep Kc103 (ninL lt_A_b98)).other W114 (Or.inr (sn34 hw))).ext E115).keep Kc124 (ninL lt_A_b115)).other W141 (Or.inr (sn35 hw))
 obtain ⟨T153, h153, X153, e153, W153, st153⟩ := putF X141 hx hZ hown (host := "") (Or.inl (wd hw 60 rfl)) Via.refl e141 f152 f142 (Or.inr ⟨(wd hw 61 rfl), rfl, hnm⟩) (wd hw 10 rfl) (ty := .double) (by decide) rfl rfl (g := (mkF m 48 #[.val (.ref A), .val (.int (1 : Int32)), .val (.double (FP.l2d 10)), .second, .val (.double (FP.l2d 100)), .second] [(.double (FP.l2d 10)), (.ref A)])) rfl rfl (hb hby dRA_48)
 have Fw153 := f152.same W153
 have K153 : Keep h0 h153 [A] := K141.wr W153 (Or.inl (List.mem_of_getElem? (i := 0) rfl))
 have N153 := Fr.snoc X153 N141 g_A
 have f154 := f142.wr W153
 have f165 := ((((((((((F_A_asksBefore.ext E86).other W89 (Or.inr (sn36 hw))).ext E90).other W97 (Or.inr (sn37 hw))).ext E98).keep Kc103 (ninL lt_A_b98)).other W114 (Or.inr (sn38 hw))).ext E115).keep Kc124 (ninL lt_A_b115)).other W141 (Or.inr (sn39 hw))).other W153 (Or.inr (sn40 hw))
 obtain ⟨T166, h166, X166, e166, W166, st166⟩ := putF X153 hx hZ hown (host := "") (Or.inl (wd hw 62 rfl)) Via.refl e153 f165 f154 (Or.inr ⟨(wd hw 63 rfl), rfl, hnm⟩) (wd hw 10 rfl) (ty := .double) (by decide) rfl rfl (g := (mkF m 54 #[.val (.ref A), .val (.int (1 : Int32)), .val (.double (FP.l2d 10)), .second, .val (.double (FP.l2d 100)), .second] [(.double (FP.l2d 100)), (.ref A)])) rfl rfl (hb hby dRA_54)
 have Fw166 := f165.same W166
 have K166 : Keep h0 h166 [A] := K153.wr W166 (Or.inl (List.mem_of_getElem? (i := 0) rfl))
 have N166 := Fr.snoc X166 N153 g_A
 have f167 := f154.wr W166
 have f179 := (((((((((((F_A_keptUntil.ext E86).other W89 (Or.inr (sn41 hw))).ext E90).other W97 (Or.inr (sn42 hw))).ext E98).keep Kc103 (ninL lt_A_b98)).other W114 (Or.inr (sn43 hw))).ext E115).keep Kc124 (ninL lt_A_b115)).other W141 (Or.inr (sn44 hw))).other W153 (Or.inr (sn45 hw))).other W166 (Or.inr (sn46 hw))
 obtain ⟨T180, h180, X180, e180, W180, st180⟩ := putF X166 hx hZ hown (host := "") (Or.inl (wd hw 64 rfl)) Via.refl e166 f179 f167 (Or.inr ⟨(wd hw 65 rfl), rfl, hnm⟩) (wd hw 10 rfl) (ty := .double) (by decide) rfl rfl (g := (mkF m 62 #[.val (.ref A), .val (.int (1 : Int32)), .val (.double (FP.l2d 10)), .second, .val (.double (FP.l2d 100)), .second] [(.double (FP.l2d 90)), (.ref A)])) rfl rfl (hb hby dRA_62)
 have Fw180 := f179.same W180
 have K180 : Keep h0 h180 [A] := K166.wr W180 (Or.inl (List.mem_of_getElem? (i := 0) rfl))
 have N180 := Fr.snoc X180 N166 g_A
 obtain ⟨T181, h181, k181, X181, e181, E181, A181, st181⟩ := newP X180 hx hZ (wd hw 20 rfl) e180 (g := (mkF m 67 #[.val (.ref A), .val (.int (1 : Int32)), .val (.double (FP.l2d 10)), .second, .val (.double (FP.l2d 100)), .second] [(.int (1 : Int32)), (.ref A)])) rfl (hb hby dRA_67) rfl (by decide) (cap := 1) (by decide) (by decide) (by decide) (by decide)
 obtain ⟨b181, g181⟩ : ∃ z, z = h180.size := ⟨_, rfl⟩
 rw [← g181] at A181 st181
 have f182 := f167.wr W180
 have lt_A_b181 : A < b181 := Nat.lt_of_lt_of_le f182.lt (Nat.le_of_eq g181.symm)
 have f187 := ((((f126.keep Kc124 (ninL lt_b86_b115)).other W141 (Nat.ne_of_gt lt_A_b86)).other W153 (Nat.ne_of_gt lt_A_b86)).other W166 (Nat.ne_of_gt lt_A_b86)).other W180 (Nat.ne_of_gt lt_A_b86)
 have lt_b86_b181 : b86 < b181 := Nat.lt_of_lt_of_le f187.lt (Nat.le_of_eq g181.symm)
 have f192 := ((((f127.keep Kc124 (ninL lt_b90_b115)).other W141 (Nat.ne_of_gt lt_A_b90)).other W153 (Nat.ne_of_gt lt_A_b90)).other W166 (Nat.ne_of_gt lt_A_b90)).other W180 (Nat.ne_of_gt lt_A_b90)
 have lt_b90_b181 : b90 < b181 := Nat.lt_of_lt_of_le f192.lt (Nat.le_of_eq g181.symm)
 have f197 := ((((f128.keep Kc124).wr W141).wr W153).wr W166).wr W180
 have lt_b98_b181 : b98 < b181 := Nat.lt_of_lt_of_le f197.lt (Nat.le_of_eq g181.symm)
 have f202 := ((((f129.keep Kc124).wr W141).wr W153).wr W166).wr W180
 have lt_dq103_b181 : dq103 < b181 := Nat.lt_of_lt_of_le f202.lt (Nat.le_of_eq g181.symm)
 have f207 := ((((f130.keep Kc124 (ninL lt_es103_b115)).other W141 (Nat.ne_of_gt lt_A_es103)).other W153 (Nat.ne_of_gt lt_A_es103)).other W166 (Nat.ne_of_gt lt_A_es103)).other W180 (Nat.ne_of_gt lt_A_es103)
 have lt_es103_b181 : es103 < b181 := Nat.lt_of_lt_of_le f207.lt (Nat.le_of_eq g181.symm)
 have f211 := (((Ex124.wr W141).wr W153).wr W166).wr W180
 have lt_b115_b181 : b115 < b181 := Nat.lt_of_lt_of_le f211.lt (Nat.le_of_eq g181.symm)
 have f215 := (((Eq124.wr W141).wr W153).wr W166).wr W180
 have lt_dq124_b181 : dq124 < b181 := Nat.lt_of_lt_of_le f215.lt (Nat.le_of_eq g181.symm)
 have f219 := (((Ve124.other W141 (Nat.ne_of_gt lt_A_es124)).other W153 (Nat.ne_of_gt lt_A_es124)).other W166 (Nat.ne_of_gt lt_A_es124)).other W180 (Nat.ne_of_gt lt_A_es124)
 have lt_es124_b181 : es124 < b181 := Nat.lt_of_lt_of_le f219.lt (Nat.le_of_eq g181.symm)
 have g_b181 : n0 ≤ b181 := Nat.le_trans (Nat.le_trans Z0 K180.1) (Nat.le_of_eq g181.symm)
 have sz_b181 : h0.size ≤ b181 := Nat.le_trans K180.1 (Nat.le_of_eq g181.symm)
 have K181 : Keep h0 h181 [A] := K180.ext E181
 have V181 : Arv Z h181 b181 k181 .long (1 : Int32) [(.long (0 : Int64))] (.long (0 : Int64)) := (Arv.new A181 (by decide)).pad (pad_rep [] (.long (0 : Int64)) 1)
 have f220 := f182.ext E181
 have f234 := (((((((((((((F_A_keyArrivals.ext E86).other W89 (Or.inr (sn47 hw))).ext E90).other W97 (Or.inr (sn48 hw))).ext E98).keep Kc103 (ninL lt_A_b98)).other W114 (Or.inr (sn49 hw))).ext E115).keep Kc124 (ninL lt_A_b115)).other W141 (Or.inr (sn50 hw))).other W153 (Or.inr (sn51 hw))).other W166 (Or.inr (sn52 hw))).other W180 (Or.inr (sn53 hw))).ext E181
 obtain ⟨T235, h235, X235, e235, W235, st235⟩ := putF X181 hx hZ hown (host := "") (Or.inl (wd hw 66 rfl)) Via.refl e181 f234 f220 (Or.inr ⟨(wd hw 67 rfl), rfl, hnm⟩) (wd hw 10 rfl) (ty := (.array .long)) (by decide) rfl rfl (g := (mkF m 69 #[.val (.ref A), .val (.int (1 : Int32)), .val (.double (FP.l2d 10)), .second, .val (.double (FP.l2d 100)), .second] [(.ref b181), (.ref A)])) rfl rfl (hb hby dRA_69)
 have Fw235 := f234.same W235
 have K235 : Keep h0 h235 [A] := K181.wr W235 (Or.inl (List.mem_of_getElem? (i := 0) rfl))
 have N235 := Fr.snoc X235 N180 g_A
 have f237 := (f187.ext E181).other W235 (Nat.ne_of_gt lt_A_b86)
 have VL := f237.pad (own_padL 16)
 have f239 := (f192.ext E181).other W235 (Nat.ne_of_gt lt_A_b90)
 have VD := f239.pad (own_padD 16)
 have f240 := f220.wr W235
 have f244 := (((Fw153.other W166 (Or.inr (sn54 hw))).other W180 (Or.inr (sn55 hw))).ext E181).other W235 (Or.inr (sn56 hw))
 have f247 := ((Fw166.other W180 (Or.inr (sn57 hw))).ext E181).other W235 (Or.inr (sn58 hw))
 have f249 := (Fw180.ext E181).other W235 (Or.inr (sn59 hw))
 have f262 := ((((((((((((Fw89.ext E90).other W97 (Or.inr (sn60 hw))).ext E98).keep Kc103 (ninL lt_A_b98)).other W114 (Or.inr (sn61 hw))).ext E115).keep Kc124 (ninL lt_A_b115)).other W141 (Or.inr (sn62 hw))).other W153 (Or.inr (sn63 hw))).other W166 (Or.inr (sn64 hw))).other W180 (Or.inr (sn65 hw))).ext E181).other W235 (Or.inr (sn66 hw))
 have f273 := ((((((((((Fw97.ext E98).keep Kc103 (ninL lt_A_b98)).other W114 (Or.inr (sn67 hw))).ext E115).keep Kc124 (ninL lt_A_b115)).other W141 (Or.inr (sn68 hw))).other W153 (Or.inr (sn69 hw))).other W166 (Or.inr (sn70 hw))).other W180 (Or.inr (sn71 hw))).ext E181).other W235 (Or.inr (sn72 hw))
 have f281 := (((((((Fw114.ext E115).keep Kc124 (ninL lt_A_b115)).other W141 (Or.inr (sn73 hw))).other W153 (Or.inr (sn74 hw))).other W166 (Or.inr (sn75 hw))).other W180 (Or.inr (sn76 hw))).ext E181).other W235 (Or.inr (sn77 hw))
 have f286 := ((((Fw141.other W153 (Or.inr (sn78 hw))).other W166 (Or.inr (sn79 hw))).other W180 (Or.inr (sn80 hw))).ext E181).other W235 (Or.inr (sn81 hw))
 have f288 := (f197.ext E181).wr W235
 have f297 := ((((((((Fsize103.other W114 (Or.inl (Nat.ne_of_gt lt_A_b98))).ext E115).keep Kc124 (ninL lt_b98_b115)).other W141 (Or.inl (Nat.ne_of_gt lt_A_b98))).other W153 (Or.inl (Nat.ne_of_gt lt_A_b98))).other W166 (Or.inl (Nat.ne_of_gt lt_A_b98))).other W180 (Or.inl (Nat.ne_of_gt lt_A_b98))).ext E181).other W235 (Or.inl (Nat.ne_of_gt lt_A_b98))
 have f299 := (f211.ext E181).wr W235
 have f305 := (((((FintFields124.other W141 (Or.inl (Nat.ne_of_gt lt_A_b115))).other W153 (Or.inl (Nat.ne_of_gt lt_A_b115))).other W166 (Or.inl (Nat.ne_of_gt lt_A_b115))).other W180 (Or.inl (Nat.ne_of_gt lt_A_b115))).ext E181).other W235 (Or.inl (Nat.ne_of_gt lt_A_b115))
 have f311 := (((((FdoubleFields124.other W141 (Or.inl (Nat.ne_of_gt lt_A_b115))).other W153 (Or.inl (Nat.ne_of_gt lt_A_b115))).other W166 (Or.inl (Nat.ne_of_gt lt_A_b115))).other W180 (Or.inl (Nat.ne_of_gt lt_A_b115))).ext E181).other W235 (Or.inl (Nat.ne_of_gt lt_A_b115))
 have f317 := (((((Fb124.other W141 (Or.inl (Nat.ne_of_gt lt_A_b115))).other W153 (Or.inl (Nat.ne_of_gt lt_A_b115))).other W166 (Or.inl (Nat.ne_of_gt lt_A_b115))).other W180 (Or.inl (Nat.ne_of_gt lt_A_b115))).ext E181).other W235 (Or.inl (Nat.ne_of_gt lt_A_b115))
 have f323 := (((((Ffirst124.other W141 (Or.inl (Nat.ne_of_gt lt_A_b115))).other W153 (Or.inl (Nat.ne_of_gt lt_A_b115))).other W166 (Or.inl (Nat.ne_of_gt lt_A_b115))).other W180 (Or.inl (Nat.ne_of_gt lt_A_b115))).ext E181).other W235 (Or.inl (Nat.ne_of_gt lt_A_b115))
 have f329 := (((((Flast124.other W141 (Or.inl (Nat.ne_of_gt lt_A_b115))).other W153 (Or.inl (Nat.ne_of_gt lt_A_b115))).other W166 (Or.inl (Nat.ne_of_gt lt_A_b115))).other W180 (Or.inl (Nat.ne_of_gt lt_A_b115))).ext E181).other W235 (Or.inl (Nat.ne_of_gt lt_A_b115))
 have f335 := (((((Fspare124.other W141 (Or.inl (Nat.ne_of_gt lt_A_b115))).other W153 (Or.inl (Nat.ne_of_gt lt_A_b115))).other W166 (Or.inl (Nat.ne_of_gt lt_A_b115))).other W180 (Or.inl (Nat.ne_of_gt lt_A_b115))).ext E181).other W235 (Or.inl (Nat.ne_of_gt lt_A_b115))
 have f341 := (((((Fhead124.other W141 (Or.inl (Nat.ne_of_gt lt_A_b115))).other W153 (Or.inl (Nat.ne_of_gt lt_A_b115))).other W166 (Or.inl (Nat.ne_of_gt lt_A_b115))).other W180 (Or.inl (Nat.ne_of_gt lt_A_b115))).ext E181).other W235 (Or.inl (Nat.ne_of_gt lt_A_b115))
 have f347 := (((((Fend124.other W141 (Or.inl (Nat.ne_of_gt lt_A_b115))).other W153 (Or.inl (Nat.ne_of_gt lt_A_b115))).other W166 (Or.inl (Nat.ne_of_gt lt_A_b115))).other W180 (Or.inl (Nat.ne_of_gt lt_A_b115))).ext E181).other W235 (Or.inl (Nat.ne_of_gt lt_A_b115))
 have f353 := (((((Fsize124.other W141 (Or.inl (Nat.ne_of_gt lt_A_b115))).other W153 (Or.inl (Nat.ne_of_gt lt_A_b115))).other W166 (Or.inl (Nat.ne_of_gt lt_A_b115))).other W180 (Or.inl (Nat.ne_of_gt lt_A_b115))).ext E181).other W235 (Or.inl (Nat.ne_of_gt lt_A_b115))
 have f355 := (f215.ext E181).wr W235
 have f361 := (((((Fqh124.other W141 (Or.inl (Nat.ne_of_gt lt_A_dq124))).other W153 (Or.inl (Nat.ne_of_gt lt_A_dq124))).other W166 (Or.inl (Nat.ne_of_gt lt_A_dq124))).other W180 (Or.inl (Nat.ne_of_gt lt_A_dq124))).ext E181).other W235 (Or.inl (Nat.ne_of_gt lt_A_dq124))
 have f367 := (((((Fqt124.other W141 (Or.inl (Nat.ne_of_gt lt_A_dq124))).other W153 (Or.inl (Nat.ne_of_gt lt_A_dq124))).other W166 (Or.inl (Nat.ne_of_gt lt_A_dq124))).other W180 (Or.inl (Nat.ne_of_gt lt_A_dq124))).ext E181).other W235 (Or.inl (Nat.ne_of_gt lt_A_dq124))
 have f373 := (((((Fqe124.other W141 (Or.inl (Nat.ne_of_gt lt_A_dq124))).other W153 (Or.inl (Nat.ne_of_gt lt_A_dq124))).other W166 (Or.inl (Nat.ne_of_gt lt_A_dq124))).other W180 (Or.inl (Nat.ne_of_gt lt_A_dq124))).ext E181).other W235 (Or.inl (Nat.ne_of_gt lt_A_dq124))
 have f375 := (f219.ext E181).other W235 (Nat.ne_of_gt lt_A_es124)
 obtain ⟨fs, hr, hrun, hended, hW, hsame⟩ := X235.leave (v := none) (fun _ => rfl)
 refine ⟨_, _, ?_, hrun, hended, _, _, rfl, ?_, ⟨_, rfl⟩, hW, hsame.mono (by decide) (by decide)⟩
 ·refine pre0 _ ?_
  show Steps _ _ _ (s₁.setTop (mkF m 0 #[.val (.ref A), .val (.int (1 : Int32)), .val (.double (FP.l2d 10)), .second, .val (.double (FP.l2d 100)), .second] [])) _
  refine XS.aloadN X0.here hx rfl (hb hby dRA_0) rfl rfl ?_
  refine st85 _ ?_
  refine XS.aloadN X85.here hx rfl (hb hby dRA_4) rfl rfl ?_
  refine XS.bipush X85.here hx rfl (hb hby dRA_5) ?_
  show Steps _ _ _ (T85.setTop (mkF m 7 #[.val (.ref A), .val (.int (1 : Int32)), .val (.double (FP.l2d 10)), .second, .val (.double (FP.l2d 100)), .second] [(.int (16 : Int32)), (.ref A)])) _
  refine st86 _ ?_
  refine st89 _ ?_
  refine XS.aloadN X89.here hx rfl (hb hby dRA_12) rfl rfl ?_
  refine XS.bipush X89.here hx rfl (hb hby dRA_13) ?_
  show Steps _ _ _ (T89.setTop (mkF m 15 #[.val (.ref A), .val (.int (1 : Int32)), .val (.double (FP.l2d 10)), .second, .val (.double (FP.l2d 100)), .second] [(.int (16 : Int32)), (.ref A)])) _
  refine st90 _ ?_
  refine st97 _ ?_
  refine XS.aloadN X97.here hx rfl (hb hby dRA_20) rfl rfl ?_
  show Steps _ _ _ (T97.setTop (mkF m 21 #[.val (.ref A), .val (.int (1 : Int32)), .val (.double (FP.l2d 10)), .second, .val (.double (FP.l2d 100)), .second] [(.ref A)])) _
  refine st98 _ ?_
  refine XS.dup X98.here hx rfl (hb hby dRA_24) rfl rfl ?_
  refine XS.iconst X98.here hx rfl (hb hby dRA_25) ?_
  refine XS.iconst X98.here hx rfl (hb hby dRA_26) ?_
  refine st103.trans ?_
  show Steps _ _ _ (T103.setTop (mkF m 30 #[.val (.ref A), .val (.int (1 : Int32)), .val (.double (FP.l2d 10)), .second, .val (.double (FP.l2d 100)), .second] [(.ref b98), (.ref A)])) _
  refine st114 _ ?_
  refine XS.aloadN X114.here hx rfl (hb hby dRA_33) rfl rfl ?_
  show Steps _ _ _ (T114.setTop (mkF m 34 #[.val (.ref A), .val (.int (1 : Int32)), .val (.double (FP.l2d 10)), .second, .val (.double (FP.l2d 100)), .second] [(.ref A)])) _
  refine st115 _ ?_
  refine XS.dup X115.here hx rfl (hb hby dRA_37) rfl rfl ?_
  refine XS.iconst X115.here hx rfl (hb hby dRA_38) ?_
  refine XS.iconst X115.here hx rfl (hb hby dRA_39) ?_
  refine st124.trans ?_
  show Steps _ _ _ (T124.setTop (mkF m 43 #[.val (.ref A), .val (.int (1 : Int32)), .val (.double (FP.l2d 10)), .second, .val (.double (FP.l2d 100)), .second] [(.ref b115), (.ref A)])) _
  refine st141 _ ?_
  refine XS.aloadN X141.here hx rfl (hb hby dRA_46) rfl rfl ?_
  refine XS.dloadN X141.here hx rfl (hb hby dRA_47) rfl ?_
  refine st153 _ ?_
  show Steps _ _ _ (T153.setTop (mkF m 51 #[.val (.ref A), .val (.int (1 : Int32)), .val (.double (FP.l2d 10)), .second, .val (.double (FP.l2d 100)), .second] [])) _
  refine XS.aloadN X153.here hx rfl (hb hby dRA_51) rfl rfl ?_
  refine XS.dload X153.here hx rfl (hb hby dRA_52) rfl ?_
  refine st166 _ ?_
  refine XS.aloadN X166.here hx rfl (hb hby dRA_57) rfl rfl ?_
  show Steps _ _ _ (T166.setTop (mkF m 58 #[.val (.ref A), .val (.int (1 : Int32)), .val (.double (FP.l2d 10)), .second, .val (.double (FP.l2d 100)), .second] [(.ref A)])) _
  refine XS.dload X166.here hx rfl (hb hby dRA_58) rfl ?_
  refine XS.dloadN X166.here hx rfl (hb hby dRA_60) rfl ?_
  refine XS.dsubS X166.here hx rfl (hb hby dRA_61) rfl (v := (FP.l2d 90)) (by decide +kernel) (by decide +kernel) ?_
  refine st180 _ ?_
  show Steps _ _ _ (T180.setTop (mkF m 65 #[.val (.ref A), .val (.int (1 : Int32)), .val (.double (FP.l2d 10)), .second, .val (.double (FP.l2d 100)), .second] [])) _
  refine XS.aloadN X180.here hx rfl (hb hby dRA_65) rfl rfl ?_
  refine XS.iloadN X180.here hx rfl (hb hby dRA_66) rfl ?_
  show Steps _ _ _ (T180.setTop (mkF m 67 #[.val (.ref A), .val (.int (1 : Int32)), .val (.double (FP.l2d 10)), .second, .val (.double (FP.l2d 100)), .second] [(.int (1 : Int32)), (.ref A)])) _
  refine st181 _ ?_
  refine st235 _ ?_
  show Steps _ _ _ (T235.setTop (mkF m 72 #[.val (.ref A), .val (.int (1 : Int32)), .val (.double (FP.l2d 10)), .second, .val (.double (FP.l2d 100)), .second] [])) _
  exact X235.returnOut hx Bd.returns (hb hby dRA_72) hr
 ·show QRA Z A h0 n0 _ T235.heap _
  rw [e235]
  exact ⟨rfl, N235, K235, b86, b90, b98, b115, k86, k90, f240, f244, f247, f249, f262, f273, f281, f286, f288, f297, VL, VD, dq124, es124, kes124, f299, f305, f311, f317, f323, f329, f335, f341, f347, f353, f355, f361, f367, f373, f375, Oe124, lt_A_b98, lt_b98_b115, lt_b115_dq124, lt_dq124_es124, (Nat.ne_of_gt lt_A_b86), (Nat.ne_of_lt lt_b86_b98), (Nat.ne_of_lt lt_b86_b115), (Nat.ne_of_lt lt_b86_dq124), (Nat.ne_of_lt lt_b86_es124), (Nat.ne_of_gt lt_A_b90), (Nat.ne_of_lt lt_b90_b98), (Nat.ne_of_lt lt_b90_b115), (Nat.ne_of_lt lt_b90_dq124), (Nat.ne_of_lt lt_b90_es124), (Nat.ne_of_lt lt_b86_b90), g_A, g_b86, g_b90, g_b115, g_dq124, g_es124⟩
theorem dBK_0 : decode prog_66_method_1_code 0 = .ok (.aload_n 0, 1) := by decide +kernel
theorem dBK_1 : decode prog_66_method_1_code 1 = .ok (.invokespecial 1, 3) := by decide +kernel
theorem dBK_4 : decode prog_66_method_1_code 4 = .ok (.aload_n 0, 1) := by decide +kernel
theorem dBK_5 : decode prog_66_method_1_code 5 = .ok (.iload_n 3, 1) := by decide +kernel
theorem dBK_6 : decode prog_66_method_1_code 6 = .ok (.putfield 7, 3) := by decide +kernel
theorem dBK_9 : decode prog_66_method_1_code 9 = .ok (.aload_n 0, 1) := by decide +kernel
theorem dBK_10 : decode prog_66_method_1_code 10 = .ok (.iload_n 1, 1) := by decide +kernel
theorem dBK_11 : decode prog_66_method_1_code 11 = .ok (.iload_n 3, 1) := by decide +kernel
theorem dBK_12 : decode prog_66_method_1_code 12 = .ok (.multianewarray 13 2, 4) := by decide +kernel
theorem dBK_16 : decode prog_66_method_1_code 16 = .ok (.putfield 15, 3) := by decide +kernel
theorem sn82 {Z : State} {a0 : Array Value} (hw : HW Z a0) : Jvm.RoadKit.slotOf Z sBK "ints" "[[I" ≠ Jvm.RoadKit.slotOf Z sBK "capacity" "I" := slot_ne (a0 := a0) (C := sBK) (Or.inr (wd hw 105 rfl)) (Or.inr (wd hw 100 rfl)) (by decide) (t := (.array (.array .int))) (t' := .int) (by decide) (by decide)
theorem dBK_19 : decode prog_66_method_1_code 19 = .ok (.aload_n 0, 1) := by decide +kernel
theorem dBK_20 : decode prog_66_method_1_code 20 = .ok (.iload_n 2, 1) := by decide +kernel
theorem dBK_21 : decode prog_66_method_1_code 21 = .ok (.iload_n 3, 1) := by decide +kernel
theorem dBK_22 : decode prog_66_method_1_code 22 = .ok (.multianewarray 18 2, 4) := by decide +kernel
theorem dBK_26 : decode prog_66_method_1_code 26 = .ok (.putfield 20, 3) := by decide +kernel
theorem sn83 {Z : State} {a0 : Array Value} (hw : HW Z a0) : Jvm.RoadKit.slotOf Z sBK "doubles" "[[D" ≠ Jvm.RoadKit.slotOf Z sBK "capacity" "I" := slot_ne (a0 := a0) (C := sBK) (Or.inr (wd hw 109 rfl)) (Or.inr (wd hw 100 rfl)) (by decide) (t := (.array (.array .double))) (t' := .int) (by decide) (by decide)
theorem sn84 {Z : State} {a0 : Array Value} (hw : HW Z a0) : Jvm.RoadKit.slotOf Z sBK "doubles" "[[D" ≠ Jvm.RoadKit.slotOf Z sBK "ints" "[[I" := slot_ne (a0 := a0) (C := sBK) (Or.inr (wd hw 109 rfl)) (Or.inr (wd hw 105 rfl)) (by decide) (t := (.array (.array .double))) (t' := (.array (.array .int))) (by decide) (by decide)
theorem dBK_29 : decode prog_66_method_1_code 29 = .ok (.return_, 1) := by decide +kernel
theorem sn85 {Z : State} {a0 : Array Value} (hw : HW Z a0) : Jvm.RoadKit.slotOf Z sBK "capacity" "I" ≠ Jvm.RoadKit.slotOf Z sBK "ints" "[[I" := slot_ne (a0 := a0) (C := sBK) (Or.inr (wd hw 100 rfl)) (Or.inr (wd hw 105 rfl)) (by decide) (t := .int) (t' := (.array (.array .int))) (by decide) (by decide)
theorem sn86 {Z : State} {a0 : Array Value} (hw : HW Z a0) : Jvm.RoadKit.slotOf Z sBK "capacity" "I" ≠ Jvm.RoadKit.slotOf Z sBK "doubles" "[[D" := slot_ne (a0 := a0) (C := sBK) (Or.inr (wd hw 100 rfl)) (Or.inr (wd hw 109 rfl)) (by decide) (t := .int) (t' := (.array (.array .double))) (by decide) (by decide)
theorem sn87 {Z : State} {a0 : Array Value} (hw : HW Z a0) : Jvm.RoadKit.slotOf Z sBK "ints" "[[I" ≠ Jvm.RoadKit.slotOf Z sBK "doubles" "[[D" := slot_ne (a0 := a0) (C := sBK) (Or.inr (wd hw 105 rfl)) (Or.inr (wd hw 109 rfl)) (by decide) (t := (.array (.array .int))) (t' := (.array (.array .double))) (by decide) (by decide)
theorem pn_com_example_frugal_weir_frugalweir_replay_RecordQueue_Block : plainName sBK = true := by first | (simp [plainName, overriddenIn]; done) | decide +kernel
theorem ef_BK (m : MethodId) (x0 : Addr) : entryFrame m #[(.ref x0), (.int (1 : Int32)), (.int (2 : Int32)), (.int (16 : Int32))] 4 = mkF m 0 #[.val (.ref x0), .val (.int (1 : Int32)), .val (.int (2 : Int32)), .val (.int (16 : Int32))] [] := by first | (simp [entryFrame, mkF, argsToLocals, Value.category]; done) | rfl
def QBK (Z : State) (th : Addr) (h0 : Heap) (n0 : Nat) (v : Option Value) (h : Heap) (L : List Loc) : Prop := v = none ∧ Fr n0 L ∧ Keep h0 h [th] ∧ ∃ (bi i0 bd d0 d1 : Addr) (kbi ki kbd kd : ClassId), Exa Z h th sBK ∧ Fld Z h th sBK "capacity" "I" (.int (16 : Int32)) ∧ Fld Z h th sBK "ints" "[[I" (.ref bi) ∧ Fld Z h th sBK "doubles" "[[D" (.ref bd) ∧ Arv Z h bi kbi (.array .int) (1 : Int32) [(.ref i0)] .null ∧ Arv Z h bd kbd (.array .double) (2 : Int32) [(.ref d0), (.ref d1)] .null ∧ Arv Z h i0 ki .int (16 : Int32) [(.int (0 : Int32)), (.int (0 : Int32))] (.int (0 : Int32)) ∧ Arv Z h d0 kd .double (16 : Int32) [(.double (FP.l2d 0)), (.double (FP.l2d 0))] (.double (FP.l2d 0)) ∧ Arv Z h d1 kd .double (16 : Int32) [(.double (FP.l2d 0)), (.double (FP.l2d 0))] (.double (FP.l2d 0)) ∧ h0.size ≤ bi ∧ bi < i0 ∧ i0 < bd ∧ bd < d0 ∧ d0 < d1
set_option maxRecDepth 65536 in
set_option maxHeartbeats 40000000 in
theorem rmBK (l : Launch) (Z : State) (a0 : Array Value) (hw : HW Z a0) (ws : List Jvm.Cond) (th : Addr) (h0 : Heap) (n0 : Nat) (Z0 : n0 ≤ h0.size) (E_th : Exa Z h0 th sBK) (F_th_capacity : Fld Z h0 th sBK "capacity" "I" (.int (0 : Int32))) (F_th_ints : Fld Z h0 th sBK "ints" "[[I" .null) (F_th_doubles : Fld Z h0 th sBK "doubles" "[[D" .null) (g_th : n0 ≤ th) :
  MetFree l (⟨sBK, "<init>", "(III)V"⟩ : MethodName) (head1 (Jvm.Cond.code (⟨sBK, "<init>", "(III)V"⟩ : MethodName) prog_66_method_1_code 4 none :: ws) (Rm 1 5 51 12)) (fun a U => a = #[(.ref th), (.int (1 : Int32)), (.int (2 : Int32)), (.int (16 : Int32))] ∧ Z.Warmed39 U.vm ∧ U.heap = h0) (fun _ _ _ _ _ => True) (fun _ U o U' => ∃ v L, o = .returned v ∧ QBK Z th h0 n0 v U'.heap L ∧ FrameEnd U o U' L (Rm 1 5 51 12).cells (Rm 1 5 51 12).slots) := by
 refine MetFree.of_bodySF (plainFor_of_name pn_com_example_frugal_weir_frugalweir_replay_RecordQueue_Block) hisR ?_
 intro p e s m args below meth c s₁ Bd hml0 hP hK
 obtain ⟨rfl, hZ, hh⟩ := hP
 have hx := Bd.exec
 have hby := Bd.bytes
 have hml : c.maxLocals = 4 := hml0
 have hown : s.vm.findClass sBK = some m.cls := findClass_of_methodNamed Bd.named
 have hnm := (name_of_methodNamed Bd.named Bd.method).1
 have X0 : Stand p l e (Rm 1 5 51 12) s m #[(.ref th), (.int (1 : Int32)), (.int (2 : Int32)), (.int (16 : Int32))] below meth c s₁ [] 0 0 := Stand.of_body Bd
 have e0 : s₁.heap = h0 := by rw [← hh, Bd.state]; rfl
 have N0 := Fr.nil n0
 have K0 := Keep.refl h0 [th]
 have pre0 : ∀ t, Steps p.tables e below (s₁.setTop (mkF m 0 #[.val (.ref th), .val (.int (1 : Int32)), .val (.int (2 : Int32)), .val (.int (16 : Int32))] [])) t → Steps p.tables e below (s₁.setTop (entryFrame m #[(.ref th), (.int (1 : Int32)), (.int (2 : Int32)), (.int (16 : Int32))] 4)) t := fun t k => castTop (ef_BK m th) k
 obtain ⟨T376, X376, e376, st376⟩ := initO X0 hx hZ hown (wd hw 98 rfl) (wd hw 18 rfl) (wd hw 19 rfl) e0 (g := (mkF m 1 #[.val (.ref th), .val (.int (1 : Int32)), .val (.int (2 : Int32)), .val (.int (16 : Int32))] [(.ref th)])) rfl (by rw [hml]; rfl) rfl (hb hby dBK_1) (by decide) (W := 0) (by show 2 * 0 + _ ≤ _; exact Nat.le_of_eq rfl) (by decide)
 obtain ⟨T377, h377, X377, e377, W377, st377⟩ := putF X376 hx hZ hown (host := "") (Or.inl (wd hw 99 rfl)) Via.refl e376 F_th_capacity E_th (Or.inr ⟨(wd hw 100 rfl), rfl, hnm⟩) (wd hw 93 rfl) (ty := .int) (by decide) rfl rfl (g := (mkF m 6 #[.val (.ref th), .val (.int (1 : Int32)), .val (.int (2 : Int32)), .val (.int (16 : Int32))] [(.int (16 : Int32)), (.ref th)])) rfl rfl (hb hby dBK_6)
 have Fw377 := F_th_capacity.same W377
 have K377 : Keep h0 h377 [th] := K0.wr W377 (Or.inl (List.mem_of_getElem? (i := 0) rfl))
 have N377 := Fr.snoc X377 N0 g_th
 obtain ⟨T378, h378, cA378, cp378, X378, e378, E378, V378, -, -, hx378, st378⟩ := gridM X377 hx hZ hown (C := "[I") (ad := "[[I") (ty := .int) rfl rfl (wd hw 101 rfl) (wd hw 102 rfl) (wd hw 103 rfl) e377 (g := (mkF m 12 #[.val (.ref th), .val (.int (1 : Int32)), .val (.int (2 : Int32)), .val (.int (16 : Int32))] [(.int (16 : Int32)), (.int (1 : Int32)), (.ref th)])) rfl (hb hby dBK_12) (n := (1 : Int32)) (k := (16 : Int32)) rfl (by decide) (by decide) (xs := [h377.size + 1 + 0]) (N := 1) rfl rfl (cap := 16) (by decide) (by decide) (by decide) rfl rfl (by decide) (by decide)
 obtain ⟨b378, g378⟩ : ∃ z, z = h377.size := ⟨_, rfl⟩
 obtain ⟨b378_0, g378_0⟩ : ∃ z, z = h377.size + 1 + 0 := ⟨_, rfl⟩
 rw [← g378_0] at V378 hx378
 rw [← g378] at V378 st378
 have f379 := E_th.wr W377
 have lt_th_b378 : th < b378 := Nat.lt_of_lt_of_le f379.lt (Nat.le_of_eq g378.symm)
 have g_b378 : n0 ≤ b378 := Nat.le_trans (Nat.le_trans Z0 K377.1) (Nat.le_of_eq g378.symm)
 have sz_b378 : h0.size ≤ b378 := Nat.le_trans K377.1 (Nat.le_of_eq g378.symm)
 have lt_b378_b378_0 : b378 < b378_0 := by omega
 have lt_th_b378_0 : th < b378_0 := Nat.lt_trans lt_th_b378 lt_b378_b378_0
 have g_b378_0 : n0 ≤ b378_0 := Nat.le_trans g_b378 (Nat.le_of_lt lt_b378_b378_0)
 have sz_b378_0 : h0.size ≤ b378_0 := Nat.le_trans sz_b378 (Nat.le_of_lt lt_b378_b378_0)
 have K378 : Keep h0 h378 [th] := K377.ext E378
 have V378_0 : Arv Z h378 b378_0 cp378 .int (16 : Int32) [(.int (0 : Int32)), (.int (0 : Int32))] (.int (0 : Int32)) := (Arv.new (hx378 0 b378_0 rfl).1 (by decide)).pad (pad_rep [] (.int (0 : Int32)) 2)
 have f380 := f379.ext E378
 have f382 := (F_th_ints.other W377 (Or.inr (sn82 hw))).ext E378
 obtain ⟨T383, h383, X383, e383, W383, st383⟩ := putF X378 hx hZ hown (host := "") (Or.inl (wd hw 104 rfl)) Via.refl e378 f382 f380 (Or.inr ⟨(wd hw 105 rfl), rfl, hnm⟩) (wd hw 93 rfl) (ty := (.array (.array .int))) (by decide) rfl rfl (g := (mkF m 16 #[.val (.ref th), .val (.int (1 : Int32)), .val (.int (2 : Int32)), .val (.int (16 : Int32))] [(.ref b378), (.ref th)])) rfl rfl (hb hby dBK_16)
 have Fw383 := f382.same W383
 have K383 : Keep h0 h383 [th] := K378.wr W383 (Or.inl (List.mem_of_getElem? (i := 0) rfl))
 have N383 := Fr.snoc X383 N377 g_th
 obtain ⟨T384, h384, cA384, cp384, X384, e384, E384, V384, -, -, hx384, st384⟩ := gridM X383 hx hZ hown (C := "[D") (ad := "[[D") (ty := .double) rfl rfl (wd hw 106 rfl) (wd hw 107 rfl) (wd hw 23 rfl) e383 (g := (mkF m 22 #[.val (.ref th), .val (.int (1 : Int32)), .val (.int (2 : Int32)), .val (.int (16 : Int32))] [(.int (16 : Int32)), (.int (2 : Int32)), (.ref th)])) rfl (hb hby dBK_22) (n := (2 : Int32)) (k := (16 : Int32)) rfl (by decide) (by decide) (xs := [h383.size + 1 + 0, h383.size + 1 + 1]) (N := 2) rfl rfl (cap := 16) (by decide) (by decide) (by decide) rfl rfl (by decide) (by decide)
 obtain ⟨b384, g384⟩ : ∃ z, z = h383.size := ⟨_, rfl⟩
 obtain ⟨b384_0, g384_0⟩ : ∃ z, z = h383.size + 1 + 0 := ⟨_, rfl⟩
 obtain ⟨b384_1, g384_1⟩ : ∃ z, z = h383.size + 1 + 1 := ⟨_, rfl⟩
 rw [← g384_1, ← g384_0] at V384 hx384
 rw [← g384] at V384 st384
 have f385 := f380.wr W383
 have lt_th_b384 : th < b384 := Nat.lt_of_lt_of_le f385.lt (Nat.le_of_eq g384.symm)
 have f386 := V378.other W383 (Nat.ne_of_gt lt_th_b378)
 have lt_b378_b384 : b378 < b384 := Nat.lt_of_lt_of_le f386.lt (Nat.le_of_eq g384.symm)
 have f387 := V378_0.other W383 (Nat.ne_of_gt lt_th_b378_0)
 have lt_b378_0_b384 : b378_0 < b384 := Nat.lt_of_lt_of_le f387.lt (Nat.le_of_eq g384.symm)
 have g_b384 : n0 ≤ b384 := Nat.le_trans (Nat.le_trans Z0 K383.1) (Nat.le_of_eq g384.symm)
 have sz_b384 : h0.size ≤ b384 := Nat.le_trans K383.1 (Nat.le_of_eq g384.symm)
 have lt_b384_b384_0 : b384 < b384_0 := by omega
 have lt_th_b384_0 : th < b384_0 := Nat.lt_trans lt_th_b384 lt_b384_b384_0
 have lt_b378_b384_0 : b378 < b384_0 := Nat.lt_trans lt_b378_b384 lt_b384_b384_0
 have lt_b378_0_b384_0 : b378_0 < b384_0 := Nat.lt_trans lt_b378_0_b384 lt_b384_b384_0
 have g_b384_0 : n0 ≤ b384_0 := Nat.le_trans g_b384 (Nat.le_of_lt lt_b384_b384_0)
 have sz_b384_0 : h0.size ≤ b384_0 := Nat.le_trans sz_b384 (Nat.le_of_lt lt_b384_b384_0)
 have lt_b384_0_b384_1 : b384_0 < b384_1 := by omega
 have lt_b384_b384_1 : b384 < b384_1 := by omega
 have lt_th_b384_1 : th < b384_1 := Nat.lt_trans lt_th_b384 lt_b384_b384_1
 have lt_b378_b384_1 : b378 < b384_1 := Nat.lt_trans lt_b378_b384 lt_b384_b384_1
 have lt_b378_0_b384_1 : b378_0 < b384_1 := Nat.lt_trans lt_b378_0_b384 lt_b384_b384_1
 have g_b384_1 : n0 ≤ b384_1 := Nat.le_trans g_b384 (Nat.le_of_lt lt_b384_b384_1)
 have sz_b384_1 : h0.size ≤ b384_1 := Nat.le_trans sz_b384 (Nat.le_of_lt lt_b384_b384_1)
 have K384 : Keep h0 h384 [th] := K383.ext E384
 have V384_0 : Arv Z h384 b384_0 cp384 .double (16 : Int32) [(.double (FP.l2d 0)), (.double (FP.l2d 0))] (.double (FP.l2d 0)) := (Arv.newD (hx384 0 b384_0 rfl).1 (by decide)).pad (pad_rep [] (.double (FP.l2d 0)) 2)
 have V384_1 : Arv Z h384 b384_1 cp384 .double (16 : Int32) [(.double (FP.l2d 0)), (.double (FP.l2d 0))] (.double (FP.l2d 0)) := (Arv.newD (hx384 1 b384_1 rfl).1 (by decide)).pad (pad_rep [] (.double (FP.l2d 0)) 2)
 have f388 := f385.ext E384
 have f392 := (((F_th_doubles.other W377 (Or.inr (sn83 hw))).ext E378).other W383 (Or.inr (sn84 hw))).ext E384
 obtain ⟨T393, h393, X393, e393, W393, st393⟩ := putF X384 hx hZ hown (host := "") (Or.inl (wd hw 108 rfl)) Via.refl e384 f392 f388 (Or.inr ⟨(wd hw 109 rfl), rfl, hnm⟩) (wd hw 93 rfl) (ty := (.array (.array .double))) (by decide) rfl rfl (g := (mkF m 26 #[.val (.ref th), .val (.int (1 : Int32)), .val (.int (2 : Int32)), .val (.int (16 : Int32))] [(.ref b384), (.ref th)])) rfl rfl (hb hby dBK_26)
 have Fw393 := f392.same W393
 have K393 : Keep h0 h393 [th] := K384.wr W393 (Or.inl (List.mem_of_getElem? (i := 0) rfl))
 have N393 := Fr.snoc X393 N383 g_th
 have f394 := f388.wr W393
 have f398 := (((Fw377.ext E378).other W383 (Or.inr (sn85 hw))).ext E384).other W393 (Or.inr (sn86 hw))
 have f400 := (Fw383.ext E384).other W393 (Or.inr (sn87 hw))
 have f402 := (f386.ext E384).other W393 (Nat.ne_of_gt lt_th_b378)
 have f403 := V384.other W393 (Nat.ne_of_gt lt_th_b384)
 have f405 := (f387.ext E384).other W393 (Nat.ne_of_gt lt_th_b378_0)
 have f406 := V384_0.other W393 (Nat.ne_of_gt lt_th_b384_0)
 have f407 := V384_1.other W393 (Nat.ne_of_gt lt_th_b384_1)
 obtain ⟨fs, hr, hrun, hended, hW, hsame⟩ := X393.leave (v := none) (fun _ => rfl)
 refine ⟨_, _, ?_, hrun, hended, _, _, rfl, ?_, ⟨_, rfl⟩, hW, hsame.mono (by decide) (by decide)⟩
 ·refine pre0 _ ?_
  show Steps _ _ _ (s₁.setTop (mkF m 0 #[.val (.ref th), .val (.int (1 : Int32)), .val (.int (2 : Int32)), .val (.int (16 : Int32))] [])) _
  refine XS.aloadN X0.here hx rfl (hb hby dBK_0) rfl rfl ?_
  refine st376 _ ?_
  refine XS.aloadN X376.here hx rfl (hb hby dBK_4) rfl rfl ?_
  refine XS.iloadN X376.here hx rfl (hb hby dBK_5) rfl ?_
  refine st377 _ ?_
  show Steps _ _ _ (T377.setTop (mkF m 9 #[.val (.ref th), .val (.int (1 : Int32)), .val (.int (2 : Int32)), .val (.int (16 : Int32))] [])) _
  refine XS.aloadN X377.here hx rfl (hb hby dBK_9) rfl rfl ?_
  refine XS.iloadN X377.here hx rfl (hb hby dBK_10) rfl ?_
  refine XS.iloadN X377.here hx rfl (hb hby dBK_11) rfl ?_
  show Steps _ _ _ (T377.setTop (mkF m 12 #[.val (.ref th), .val (.int (1 : Int32)), .val (.int (2 : Int32)), .val (.int (16 : Int32))] [(.int (16 : Int32)), (.int (1 : Int32)), (.ref th)])) _
  refine st378 _ ?_
  refine st383 _ ?_
  refine XS.aloadN X383.here hx rfl (hb hby dBK_19) rfl rfl ?_
  refine XS.iloadN X383.here hx rfl (hb hby dBK_20) rfl ?_
  show Steps _ _ _ (T383.setTop (mkF m 21 #[.val (.ref th), .val (.int (1 : Int32)), .val (.int (2 : Int32)), .val (.int (16 : Int32))] [(.int (2 : Int32)), (.ref th)])) _
  refine XS.iloadN X383.here hx rfl (hb hby dBK_21) rfl ?_
  show Steps _ _ _ (T383.setTop (mkF m 22 #[.val (.ref th), .val (.int (1 : Int32)), .val (.int (2 : Int32)), .val (.int (16 : Int32))] [(.int (16 : Int32)), (.int (2 : Int32)), (.ref th)])) _
  refine st384 _ ?_
  refine st393 _ ?_
  show Steps _ _ _ (T393.setTop (mkF m 29 #[.val (.ref th), .val (.int (1 : Int32)), .val (.int (2 : Int32)), .val (.int (16 : Int32))] [])) _
  exact X393.returnOut hx Bd.returns (hb hby dBK_29) hr
 ·show QBK Z th h0 n0 _ T393.heap _
  rw [e393]
  exact ⟨rfl, N393, K393, b378, b378_0, b384, b384_0, b384_1, cA378, cp378, cA384, cp384, f394, f398, f400, Fw393, f402, f403, f405, f406, f407, sz_b378, lt_b378_b378_0, lt_b378_0_b384, lt_b384_b384_0, lt_b384_0_b384_1⟩
theorem dBL_0 : decode prog_65_method_10_code 0 = .ok (.aload_n 0, 1) := by decide +kernel
theorem dBL_1 : decode prog_65_method_10_code 1 = .ok (.getfield 73, 3) := by decide +kernel
theorem dBL_4 : decode prog_65_method_10_code 4 = .ok (.ifnull 27, 3) := by decide +kernel
theorem dBL_31 : decode prog_65_method_10_code 31 = .ok (.new 34, 3) := by decide +kernel
theorem dBL_34 : decode prog_65_method_10_code 34 = .ok (.dup, 1) := by decide +kernel
theorem dBL_35 : decode prog_65_method_10_code 35 = .ok (.aload_n 0, 1) := by decide +kernel
theorem dBL_36 : decode prog_65_method_10_code 36 = .ok (.getfield 16, 3) := by decide +kernel
theorem dBL_39 : decode prog_65_method_10_code 39 = .ok (.aload_n 0, 1) := by decide +kernel
theorem dBL_40 : decode prog_65_method_10_code 40 = .ok (.getfield 20, 3) := by decide +kernel
theorem dBL_43 : decode prog_65_method_10_code 43 = .ok (.iload_n 1, 1) := by decide +kernel
theorem dBL_44 : decode prog_65_method_10_code 44 = .ok (.invokespecial 79, 3) := by decide +kernel
theorem pd_3 : parseMethodDescriptor "(III)V" = some ⟨[.int, .int, .int], none⟩ := by decide +kernel
theorem dBL_47 : decode prog_65_method_10_code 47 = .ok (.astore_n 2, 1) := by decide +kernel
theorem dBL_48 : decode prog_65_method_10_code 48 = .ok (.aload_n 2, 1) := by decide +kernel
theorem dBL_49 : decode prog_65_method_10_code 49 = .ok (.areturn, 1) := by decide +kernel
theorem ef_BL (m : MethodId) (x0 : Addr) : entryFrame m #[(.ref x0), (.int (16 : Int32))] 3 = mkF m 0 #[.val (.ref x0), .val (.int (16 : Int32)), .unset] [] := by first | (simp [entryFrame, mkF, argsToLocals, Value.category]; done) | rfl
def QBL (Z : State) (q : Addr) (h0 : Heap) (n0 : Nat) (v : Option Value) (h : Heap) (L : List Loc) : Prop := ∃ b : Addr, v = some (.ref b) ∧ Fr n0 L ∧ Keep h0 h [] ∧ ∃ (bi i0 bd d0 d1 : Addr) (kbi ki kbd kd : ClassId), Exa Z h b sBK ∧ Fld Z h b sBK "capacity" "I" (.int (16 : Int32)) ∧ Fld Z h b sBK "ints" "[[I" (.ref bi) ∧ Fld Z h b sBK "doubles" "[[D" (.ref bd) ∧ Arv Z h bi kbi (.array .int) (1 : Int32) [(.ref i0)] .null ∧ Arv Z h bd kbd (.array .double) (2 : Int32) [(.ref d0), (.ref d1)] .null ∧ Arv Z h i0 ki .int (16 : Int32) [(.int (0 : Int32)), (.int (0 : Int32))] (.int (0 : Int32)) ∧ Arv Z h d0 kd .double (16 : Int32) [(.double (FP.l2d 0)), (.double (FP.l2d 0))] (.double (FP.l2d 0)) ∧ Arv Z h d1 kd .double (16 : Int32) [(.double (FP.l2d 0)), (.double (FP.l2d 0))] (.double (FP.l2d 0)) ∧ h0.size ≤ b ∧ b < bi ∧ bi < i0 ∧ i0 < bd ∧ bd < d0 ∧ d0 < d1
set_option maxRecDepth 65536 in
set_option maxHeartbeats 40000000 in
theorem rmBL (l : Launch) (Z : State) (a0 : Array Value) (hw : HW Z a0) (ws : List Jvm.Cond) (q : Addr) (h0 : Heap) (n0 : Nat) (Z0 : n0 ≤ h0.size) (E_q : Exa Z h0 q sRQ) (F_q_spare : Fld Z h0 q sRQ "spare" dBK .null) (F_q_intFields : Fld Z h0 q sRQ "intFields" "I" (.int (1 : Int32))) (F_q_doubleFields : Fld Z h0 q sRQ "doubleFields" "I" (.int (2 : Int32))) :
  MetFree l (⟨sRQ, "block", "(I)Lcom/example/frugal_weir/frugalweir/replay/RecordQueue$Block;"⟩ : MethodName) (head1 (Jvm.Cond.code (⟨sRQ, "block", "(I)Lcom/example/frugal_weir/frugalweir/replay/RecordQueue$Block;"⟩ : MethodName) prog_65_method_10_code 3 (some (.object sBK)) :: ws) (Rm 2 6 54 28)) (fun a U => a = #[(.ref q), (.int (16 : Int32))] ∧ Z.Warmed39 U.vm ∧ U.heap = h0) (fun _ _ _ _ _ => True) (fun _ U o U' => ∃ v L, o = .returned v ∧ QBL Z q h0 n0 v U'.heap L ∧ FrameEnd U o U' L (Rm 2 6 54 28).cells (Rm 2 6 54 28).slots) := by
 refine MetFree.of_bodySF (plainFor_of_name pn_com_example_frugal_weir_frugalweir_replay_RecordQueue) hisR ?_
 intro p e s m args below meth c s₁ Bd hml0 hP hK
 obtain ⟨rfl, hZ, hh⟩ := hP
 have hx := Bd.exec
 have hby := Bd.bytes
 have hml : c.maxLocals = 3 := hml0
 have hown : s.vm.findClass sRQ = some m.cls := findClass_of_methodNamed Bd.named
 have hnm := (name_of_methodNamed Bd.named Bd.method).1
 have X0 : Stand p l e (Rm 2 6 54 28) s m #[(.ref q), (.int (16 : Int32))] below meth c s₁ [] 0 0 := Stand.of_body Bd
 have e0 : s₁.heap = h0 := by rw [← hh, Bd.state]; rfl
 have N0 := Fr.nil n0
 have K0 : Keep h0 h0 [] := Keep.refl h0 []
 have pre0 : ∀ t, Steps p.tables e below (s₁.setTop (mkF m 0 #[.val (.ref q), .val (.int (16 : Int32)), .unset] [])) t → Steps p.tables e below (s₁.setTop (entryFrame m #[(.ref q), (.int (16 : Int32))] 3)) t := fun t k => castTop (ef_BL m q) k
 obtain ⟨T408, X408, e408, st408⟩ := getF X0 hx hZ hown (host := "") (Or.inl (wd hw 90 rfl)) Via.refl e0 F_q_spare (g := (mkF m 1 #[.val (.ref q), .val (.int (16 : Int32)), .unset] [(.ref q)])) rfl rfl (hb hby dBL_1)
 obtain ⟨T409, h409, X409, e409, E409, A409, D409, -, st409⟩ := newO X408 hx hZ hown (wd hw 92 rfl) (wd hw 93 rfl) (wd hw 94 rfl) e408 (g := (mkF m 31 #[.val (.ref q), .val (.int (16 : Int32)), .unset] [])) rfl (hb hby dBL_31) (by decide) (by decide)
 obtain ⟨b409, g409⟩ : ∃ z, z = h0.size := ⟨_, rfl⟩
 rw [← g409] at A409 D409 st409
 have lt_q_b409 : q < b409 := Nat.lt_of_lt_of_le E_q.lt (Nat.le_of_eq g409.symm)
 have g_b409 : n0 ≤ b409 := Nat.le_trans (Nat.le_trans Z0 K0.1) (Nat.le_of_eq g409.symm)
 have sz_b409 : h0.size ≤ b409 := Nat.le_trans K0.1 (Nat.le_of_eq g409.symm)
 have K409 : Keep h0 h409 [] := K0.ext E409
 have F409_capacity : Fld Z h409 b409 sBK "capacity" "I" (.int (0 : Int32)) := D409 (Or.inr (wd hw 100 rfl)) (ty := .int) (by decide)
 have F409_ints : Fld Z h409 b409 sBK "ints" "[[I" .null := D409 (Or.inr (wd hw 105 rfl)) (ty := (.array (.array .int))) (by decide)
 have F409_doubles : Fld Z h409 b409 sBK "doubles" "[[D" .null := D409 (Or.inr (wd hw 109 rfl)) (ty := (.array (.array .double))) (by decide)
 have f410 := F_q_intFields.ext E409
 obtain ⟨T411, X411, e411, st411⟩ := getF X409 hx hZ hown (host := "") (Or.inl (wd hw 52 rfl)) Via.refl e409 f410 (g := (mkF m 36 #[.val (.ref q), .val (.int (16 : Int32)), .unset] [(.ref q), (.ref b409), (.ref b409)])) rfl rfl (hb hby dBL_36)
 have f412 := F_q_doubleFields.ext E409
 obtain ⟨T413, X413, e413, st413⟩ := getF X411 hx hZ hown (host := "") (Or.inl (wd hw 54 rfl)) Via.refl e411 f412 (g := (mkF m 40 #[.val (.ref q), .val (.int (16 : Int32)), .unset] [(.ref q), (.int (1 : Int32)), (.ref b409), (.ref b409)])) rfl rfl (hb hby dBL_40)
 have f415 := E_q.ext E409
 obtain ⟨_, _, ⟨T414, L414, k414, n414⟩, -, X414, ⟨Lc414, hQ414, l414, y414, z414⟩, st414⟩ := X413.specialBack hx (y := (⟨sBK, "<init>", "(III)V"⟩ : MethodName)) rfl hown (mvT hZ (wd hw 95 rfl)) (mvT hZ (wd hw 96 rfl)) (mvT hZ (wd hw 97 rfl)) (by decide) (backOf (W := 1) (rmBK l Z a0 hw [] b409 h409 n0 (Nat.le_trans Z0 K409.1) A409 F409_capacity F409_ints F409_doubles g_b409) hZ (wd hw 97 rfl) (wd hw 94 rfl) (by decide) (by decide)) (g := (mkF m 44 #[.val (.ref q), .val (.int (16 : Int32)), .unset] [(.int (16 : Int32)), (.int (2 : Int32)), (.int (1 : Int32)), (.ref b409), (.ref b409)])) rfl (by rw [hml]; rfl) (Steps.refl _) (a := b409) (argsL := [(.int (1 : Int32)), (.int (2 : Int32)), (.int (16 : Int32))]) (rest := [(.ref b409)]) (lenOf pd_3 rfl) rfl (by show 2 * 0 + _ ≤ _; exact Nat.le_of_eq rfl) (hb hby dBL_44) (fun _ _ => ⟨rfl, e413, (by decide : 1 + 5 ≤ _), (by decide : 3 + 51 ≤ _)⟩)
 dsimp only [Pt.U, Pt.locs, Pt.cells, Pt.slots] at X414 l414 y414 z414 st414 hQ414
 rw [l414, y414, z414] at X414
 obtain ⟨hv414, Nq414, Kc414, bi, i0, bd, d0, d1, kbi, ki, kbd, kd, Eb414, Fbc414, Fbi414, Fbd414, Vbi414, Vbd414, Vi0414, Vd0414, Vd1414, sq414, c1414, c2414, c3414, c4414⟩ := hQ414
 rw [hv414] at st414
 have K414 : Keep h0 T414.heap [] := K409.trans Kc414 (allS (P := fun x => x ∈ [] ∨ h0.size ≤ x) (Or.inr sz_b409) all0)
 have lt_q_bi : q < bi := Nat.lt_of_lt_of_le f415.lt sq414
 have lt_q_i0 : q < i0 := Nat.lt_trans lt_q_bi c1414
 have lt_q_bd : q < bd := Nat.lt_trans lt_q_i0 c2414
 have lt_q_d0 : q < d0 := Nat.lt_trans lt_q_bd c3414
 have lt_q_d1 : q < d1 := Nat.lt_trans lt_q_d0 c4414
 have lt_b409_bi : b409 < bi := Nat.lt_of_lt_of_le A409.lt sq414
 have lt_b409_i0 : b409 < i0 := Nat.lt_trans lt_b409_bi c1414
 have lt_b409_bd : b409 < bd := Nat.lt_trans lt_b409_i0 c2414
 have lt_b409_d0 : b409 < d0 := Nat.lt_trans lt_b409_bd c3414
 have lt_b409_d1 : b409 < d1 := Nat.lt_trans lt_b409_d0 c4414
 have lt_bi_i0 : bi < i0 := c1414
 have lt_bi_bd : bi < bd := Nat.lt_trans lt_bi_i0 c2414
 have lt_bi_d0 : bi < d0 := Nat.lt_trans lt_bi_bd c3414
 have lt_bi_d1 : bi < d1 := Nat.lt_trans lt_bi_d0 c4414
 have sz_bi : h0.size ≤ bi := Nat.le_trans K409.1 sq414
 have g_bi : n0 ≤ bi := Nat.le_trans Z0 sz_bi
 have lt_i0_bd : i0 < bd := c2414
 have lt_i0_d0 : i0 < d0 := Nat.lt_trans lt_i0_bd c3414
 have lt_i0_d1 : i0 < d1 := Nat.lt_trans lt_i0_d0 c4414
 have sz_i0 : h0.size ≤ i0 := Nat.le_of_lt (Nat.lt_of_le_of_lt sz_bi c1414)
 have g_i0 : n0 ≤ i0 := Nat.le_trans Z0 sz_i0
 have lt_bd_d0 : bd < d0 := c3414
 have lt_bd_d1 : bd < d1 := Nat.lt_trans lt_bd_d0 c4414
 have sz_bd : h0.size ≤ bd := Nat.le_of_lt (Nat.lt_of_le_of_lt sz_i0 c2414)
 have g_bd : n0 ≤ bd := Nat.le_trans Z0 sz_bd
 have lt_d0_d1 : d0 < d1 := c4414
 have sz_d0 : h0.size ≤ d0 := Nat.le_of_lt (Nat.lt_of_le_of_lt sz_bd c3414)
 have g_d0 : n0 ≤ d0 := Nat.le_trans Z0 sz_d0
 have sz_d1 : h0.size ≤ d1 := Nat.le_of_lt (Nat.lt_of_le_of_lt sz_d0 c4414)
 have g_d1 : n0 ≤ d1 := Nat.le_trans Z0 sz_d1
 have N414 := Fr.app N0 Nq414
 obtain ⟨fs, hr, hrun, hended, hW, hsame⟩ := X414.leave (v := some (.ref b409)) (fun h => by rw [Bd.returns] at h; cases h)
 refine ⟨_, _, ?_, hrun, hended, _, _, rfl, ?_, ⟨_, rfl⟩, hW, hsame.mono (by decide) (by decide)⟩
 ·refine pre0 _ ?_
  show Steps _ _ _ (s₁.setTop (mkF m 0 #[.val (.ref q), .val (.int (16 : Int32)), .unset] [])) _
  refine XS.aloadN X0.here hx rfl (hb hby dBL_0) rfl rfl ?_
  refine st408 _ ?_
  refine XS.ifnullYes X408.here hx rfl (pc0 := 4) (pc' := 31) rfl (hb hby dBL_4) rfl (by decide) (by decide) ?_
  show Steps _ _ _ (T408.setTop (mkF m 31 #[.val (.ref q), .val (.int (16 : Int32)), .unset] [])) _
  refine st409 _ ?_
  refine XS.dup X409.here hx rfl (hb hby dBL_34) rfl rfl ?_
  refine XS.aloadN X409.here hx rfl (hb hby dBL_35) rfl rfl ?_
  refine st411 _ ?_
  show Steps _ _ _ (T411.setTop (mkF m 39 #[.val (.ref q), .val (.int (16 : Int32)), .unset] [(.int (1 : Int32)), (.ref b409), (.ref b409)])) _
  refine XS.aloadN X411.here hx rfl (hb hby dBL_39) rfl rfl ?_
  refine st413 _ ?_
  refine XS.iloadN X413.here hx rfl (hb hby dBL_43) rfl ?_
  refine st414.trans ?_
  show Steps _ _ _ (T414.setTop (mkF m 47 #[.val (.ref q), .val (.int (16 : Int32)), .unset] [(.ref b409)])) _
  refine XS.astoreN X414.here hx rfl (hb hby dBL_47) rfl rfl (l' := #[.val (.ref q), .val (.int (16 : Int32)), .val (.ref b409)]) rfl ?_
  refine XS.aloadN X414.here hx rfl (hb hby dBL_48) rfl rfl ?_
  show Steps _ _ _ (T414.setTop (mkF m 49 #[.val (.ref q), .val (.int (16 : Int32)), .val (.ref b409)] [(.ref b409)])) _
  jvm_step X414.here [X414.here.top, hx, (hb hby dBL_49), X414.method', Bd.returns, Value.isRef, FieldType.isReference]
  first | (intro acts; rw [hr _ acts rfl rfl rfl]) | rw [hr _ _ rfl rfl rfl]
  exact Steps.refl _
 ·show QBL Z q h0 n0 _ T414.heap _
  exact ⟨b409, rfl, N414, K414, bi, i0, bd, d0, d1, kbi, ki, kbd, kd, Eb414, Fbc414, Fbi414, Fbd414, Vbi414, Vbd414, Vi0414, Vd0414, Vd1414, sz_b409, lt_b409_bi, lt_bi_i0, lt_i0_bd, lt_bd_d0, lt_d0_d1⟩
theorem dNC_0 : decode jdk_21_method_6_code 0 = .ok (.iinc 0 1, 3) := by decide +kernel
theorem dNC_3 : decode jdk_21_method_6_code 3 = .ok (.iload_n 0, 1) := by decide +kernel
theorem dNC_4 : decode jdk_21_method_6_code 4 = .ok (.iload_n 1, 1) := by decide +kernel
theorem dNC_5 : decode jdk_21_method_6_code 5 = .ok (.if_icmp .lt 5, 3) := by decide +kernel
theorem dNC_10 : decode jdk_21_method_6_code 10 = .ok (.iload_n 0, 1) := by decide +kernel
theorem dNC_11 : decode jdk_21_method_6_code 11 = .ok (.ireturn, 1) := by decide +kernel
theorem ef_NC (m : MethodId)  : entryFrame m #[(.int (0 : Int32)), (.int (17 : Int32))] 2 = mkF m 0 #[.val (.int (0 : Int32)), .val (.int (17 : Int32))] [] := by first | (simp [entryFrame, mkF, argsToLocals, Value.category]; done) | rfl
def QNC (Z : State)  (h0 : Heap) (n0 : Nat) (v : Option Value) (h : Heap) (L : List Loc) : Prop := v = some (.int (1 : Int32)) ∧ Fr n0 L ∧ h = h0
set_option maxRecDepth 65536 in
set_option maxHeartbeats 40000000 in
theorem rmNC (l : Launch) (Z : State) (a0 : Array Value) (hw : HW Z a0) (ws : List Jvm.Cond)  (h0 : Heap) (n0 : Nat) (Z0 : n0 ≤ h0.size) :
  MetFree l (⟨sAQ, "inc", "(II)I"⟩ : MethodName) (head1 (Jvm.Cond.code (⟨sAQ, "inc", "(II)I"⟩ : MethodName) jdk_21_method_6_code 2 (some .int) :: ws) (Rm 0 0 0 0)) (fun a U => a = #[(.int (0 : Int32)), (.int (17 : Int32))] ∧ Z.Warmed39 U.vm ∧ U.heap = h0) (fun _ _ _ _ _ => True) (fun _ U o U' => ∃ v L, o = .returned v ∧ QNC Z  h0 n0 v U'.heap L ∧ FrameEnd U o U' L (Rm 0 0 0 0).cells (Rm 0 0 0 0).slots) := by
 refine MetFree.of_bodySF (plainFor_of_name pn_java_util_ArrayDeque) hisR ?_
 intro p e s m args below meth c s₁ Bd hml0 hP hK
 obtain ⟨rfl, hZ, hh⟩ := hP
 have hx := Bd.exec
 have hby := Bd.bytes
 have hml : c.maxLocals = 2 := hml0
 have hown : s.vm.findClass sAQ = some m.cls := findClass_of_methodNamed Bd.named
 have hnm := (name_of_methodNamed Bd.named Bd.method).1
 have X0 : Stand p l e (Rm 0 0 0 0) s m #[(.int (0 : Int32)), (.int (17 : Int32))] below meth c s₁ [] 0 0 := Stand.of_body Bd
 have e0 : s₁.heap = h0 := by rw [← hh, Bd.state]; rfl
 have N0 := Fr.nil n0
 have K0 : Keep h0 h0 [] := Keep.refl h0 []
 have pre0 : ∀ t, Steps p.tables e below (s₁.setTop (mkF m 0 #[.val (.int (0 : Int32)), .val (.int (17 : Int32))] [])) t → Steps p.tables e below (s₁.setTop (entryFrame m #[(.int (0 : Int32)), (.int (17 : Int32))] 2)) t := fun t k => castTop (ef_NC m ) k
 obtain ⟨fs, hr, hrun, hended, hW, hsame⟩ := X0.leave (v := some (.int (1 : Int32))) (fun h => by rw [Bd.returns] at h; cases h)
 refine ⟨_, _, ?_, hrun, hended, _, _, rfl, ?_, ⟨_, rfl⟩, hW, hsame.mono (by decide) (by decide)⟩
 ·refine pre0 _ ?_
  show Steps _ _ _ (s₁.setTop (mkF m 0 #[.val (.int (0 : Int32)), .val (.int (17 : Int32))] [])) _
  refine XS.iinc X0.here hx rfl (hb hby dNC_0) rfl (l' := #[.val (.int (1 : Int32)), .val (.int (17 : Int32))]) rfl ?_
  refine XS.iloadN X0.here hx rfl (hb hby dNC_3) rfl ?_
  refine XS.iloadN X0.here hx rfl (hb hby dNC_4) rfl ?_
  refine XS.icmpYes X0.here hx rfl (pc0 := 5) (pc' := 10) rfl (hb hby dNC_5) rfl (by decide) (by decide) (by decide) ?_
  show Steps _ _ _ (s₁.setTop (mkF m 10 #[.val (.int (1 : Int32)), .val (.int (17 : Int32))] [])) _
  refine XS.iloadN X0.here hx rfl (hb hby dNC_10) rfl ?_
  show Steps _ _ _ (s₁.setTop (mkF m 11 #[.val (.int (1 : Int32)), .val (.int (17 : Int32))] [(.int (1 : Int32))])) _
  exact retI X0 hx Bd.returns (hb hby dNC_11) hr
 ·show QNC Z  h0 n0 _ s₁.heap _
  rw [e0]
  exact ⟨rfl, N0, rfl⟩
theorem own_aset {Z : State} {h h' : Heap} {a : Addr} {k : ClassId} {C : String} {z : Int32} {sl : Nat} {x : Addr} {vs : List Value} (V : Arv Z h a k (.object C) z vs .null) (W : Wr h h' a sl (.ref x)) : ∃ vs', Arv Z h' a k (.object C) z vs' .null := by
 obtain ⟨c, Ar, q, S, N, H, G⟩ := V
 refine ⟨(c.setSlot sl (.ref x)).slots.toList, c.setSlot sl (.ref x), Ar.same W, q, by rw [sz_set]; exact S, N, fun i hi => ?_, fun i hi => ?_⟩
 ·simp [List.getD, Array.getElem?_toList, Array.getElem?_eq_getElem hi]
 ·have hi' : i < (c.setSlot sl (.ref x)).slots.toList.length := by simpa using hi
  have e : (c.setSlot sl (.ref x)).slots.toList.getD i .null = (c.setSlot sl (.ref x)).slots[i] := by simp [List.getD, hi]
  rw [e]
  have hc : i < c.slots.size := by rw [sz_set] at hi; exact hi
  have hg := G i hc
  have hh := H i hc
  by_cases q2 : sl = i
  ·subst q2; simp [Cell.setSlot, fits]
  ·have e2 : (c.setSlot sl (.ref x)).slots[i]? = c.slots[i]? := by simp [Cell.setSlot, Array.getElem?_setIfInBounds_ne q2]
   have e3 := e2.trans hh
   rw [Array.getElem?_eq_getElem hi] at e3
   rw [Option.some.inj e3]; exact hg
theorem dDA_0 : decode jdk_21_method_13_code 0 = .ok (.aload_n 1, 1) := by decide +kernel
theorem dDA_1 : decode jdk_21_method_13_code 1 = .ok (.ifnonnull 11, 3) := by decide +kernel
theorem dDA_12 : decode jdk_21_method_13_code 12 = .ok (.aload_n 0, 1) := by decide +kernel
theorem dDA_13 : decode jdk_21_method_13_code 13 = .ok (.getfield 3, 3) := by decide +kernel
theorem dDA_16 : decode jdk_21_method_13_code 16 = .ok (.astore_n 2, 1) := by decide +kernel
theorem dDA_17 : decode jdk_21_method_13_code 17 = .ok (.aload_n 2, 1) := by decide +kernel
theorem dDA_18 : decode jdk_21_method_13_code 18 = .ok (.aload_n 0, 1) := by decide +kernel
theorem dDA_19 : decode jdk_21_method_13_code 19 = .ok (.getfield 20, 3) := by decide +kernel
theorem dDA_22 : decode jdk_21_method_13_code 22 = .ok (.aload_n 1, 1) := by decide +kernel
theorem dDA_23 : decode jdk_21_method_13_code 23 = .ok (.aastore, 1) := by decide +kernel
theorem dDA_24 : decode jdk_21_method_13_code 24 = .ok (.aload_n 0, 1) := by decide +kernel
theorem dDA_25 : decode jdk_21_method_13_code 25 = .ok (.getfield 24, 3) := by decide +kernel
theorem dDA_28 : decode jdk_21_method_13_code 28 = .ok (.aload_n 0, 1) := by decide +kernel
theorem dDA_29 : decode jdk_21_method_13_code 29 = .ok (.aload_n 0, 1) := by decide +kernel
theorem dDA_30 : decode jdk_21_method_13_code 30 = .ok (.getfield 20, 3) := by decide +kernel
theorem dDA_33 : decode jdk_21_method_13_code 33 = .ok (.aload_n 2, 1) := by decide +kernel
theorem dDA_34 : decode jdk_21_method_13_code 34 = .ok (.arraylength, 1) := by decide +kernel
theorem dDA_35 : decode jdk_21_method_13_code 35 = .ok (.invokestatic 74, 3) := by decide +kernel
theorem pd_4 : parseMethodDescriptor "(II)I" = some ⟨[.int, .int], some .int⟩ := by decide +kernel
theorem dDA_38 : decode jdk_21_method_13_code 38 = .ok (.dup_x1, 1) := by decide +kernel
theorem dDA_39 : decode jdk_21_method_13_code 39 = .ok (.putfield 20, 3) := by decide +kernel
theorem dDA_42 : decode jdk_21_method_13_code 42 = .ok (.if_icmp .ne 8, 3) := by decide +kernel
theorem dDA_50 : decode jdk_21_method_13_code 50 = .ok (.return_, 1) := by decide +kernel
theorem ef_DA (m : MethodId) (x0 : Addr) (x1 : Addr) : entryFrame m #[(.ref x0), (.ref x1)] 3 = mkF m 0 #[.val (.ref x0), .val (.ref x1), .unset] [] := by first | (simp [entryFrame, mkF, argsToLocals, Value.category]; done) | rfl
def QDA (Z : State) (dq : Addr) (b : Addr) (es : Addr) (kes : ClassId) (h0 : Heap) (n0 : Nat) (v : Option Value) (h : Heap) (L : List Loc) : Prop := v = none ∧ Fr n0 L ∧ Keep h0 h [dq, es]
set_option maxRecDepth 65536 in
set_option maxHeartbeats 40000000 in
theorem rmDA (l : Launch) (Z : State) (a0 : Array Value) (hw : HW Z a0) (ws : List Jvm.Cond) (dq : Addr) (b : Addr) (es : Addr) (kes : ClassId) (h0 : Heap) (n0 : Nat) (Z0 : n0 ≤ h0.size) (E_dq : Exa Z h0 dq sAQ) (F_dq_head : Fld Z h0 dq sAQ "head" "I" (.int (0 : Int32))) (F_dq_tail : Fld Z h0 dq sAQ "tail" "I" (.int (0 : Int32))) (F_dq_elements : Fld Z h0 dq sAQ "elements" "[Ljava/lang/Object;" (.ref es)) (V_es : Arv Z h0 es kes (.object "java/lang/Object") (17 : Int32) [] .null) (O_es : Ovr Z kes "java/lang/Object") (E_b : Exa Z h0 b sBK) (ne_dq_es : dq ≠ es) (g_dq : n0 ≤ dq) (g_es : n0 ≤ es) :
  MetFree l (⟨sAQ, "addLast", "(Ljava/lang/Object;)V"⟩ : MethodName) (head1 (Jvm.Cond.code (⟨sAQ, "addLast", "(Ljava/lang/Object;)V"⟩ : MethodName) jdk_21_method_13_code 3 none :: ws) (Rm 1 0 0 15)) (fun a U => a = #[(.ref dq), (.ref b)] ∧ Z.Warmed39 U.vm ∧ U.heap = h0) (fun _ _ _ _ _ => True) (fun _ U o U' => ∃ v L, o = .returned v ∧ QDA Z dq b es kes h0 n0 v U'.heap L ∧ FrameEnd U o U' L (Rm 1 0 0 15).cells (Rm 1 0 0 15).slots) := by
 refine MetFree.of_bodySF (plainFor_of_name pn_java_util_ArrayDeque) hisR ?_
 intro p e s m args below meth c s₁ Bd hml0 hP hK
 obtain ⟨rfl, hZ, hh⟩ := hP
 have hx := Bd.exec
 have hby := Bd.bytes
 have hml : c.maxLocals = 3 := hml0
 have hown : s.vm.findClass sAQ = some m.cls := findClass_of_methodNamed Bd.named
 have hnm := (name_of_methodNamed Bd.named Bd.method).1
 have X0 : Stand p l e (Rm 1 0 0 15) s m #[(.ref dq), (.ref b)] below meth c s₁ [] 0 0 := Stand.of_body Bd
 have e0 : s₁.heap = h0 := by rw [← hh, Bd.state]; rfl
 have N0 := Fr.nil n0
 have K0 := Keep.refl h0 [dq, es]
 have pre0 : ∀ t, Steps p.tables e below (s₁.setTop (mkF m 0 #[.val (.ref dq), .val (.ref b), .unset] [])) t → Steps p.tables e below (s₁.setTop (entryFrame m #[(.ref dq), (.ref b)] 3)) t := fun t k => castTop (ef_DA m dq b) k
 obtain ⟨T416, X416, e416, st416⟩ := getF X0 hx hZ hown (host := "") (Or.inl (wd hw 48 rfl)) Via.refl e0 F_dq_elements (g := (mkF m 13 #[.val (.ref dq), .val (.ref b), .unset] [(.ref dq)])) rfl rfl (hb hby dDA_13)
 obtain ⟨T417, X417, e417, st417⟩ := getF X416 hx hZ hown (host := "") (Or.inl (wd hw 115 rfl)) Via.refl e416 F_dq_tail (g := (mkF m 19 #[.val (.ref dq), .val (.ref b), .val (.ref es)] [(.ref dq), (.ref es)])) rfl rfl (hb hby dDA_19)
 obtain ⟨cl418, Ar418, q418, S418, N418, H418, G418⟩ := id V_es
 have hin418 : ¬ ((0 : Int32) < 0 ∨ cl418.slots.size ≤ ((0 : Int32)).toNatClampNeg) := inb_of S418 ⟨by decide, by decide⟩
 obtain ⟨T419, h419, X419, e419, W419, st419⟩ := stR X417 hx hZ e417 Ar418 (j := (0 : Int32)) hin418 rfl (Sto.ofV Ar418 q418 O_es (Ins.of_exa E_b (wd hw 117 rfl))) (g := (mkF m 23 #[.val (.ref dq), .val (.ref b), .val (.ref es)] [(.ref b), (.int (0 : Int32)), (.ref es)])) rfl rfl (hb hby dDA_23)
 have K419 : Keep h0 h419 [dq, es] := K0.wr W419 (Or.inl (List.mem_of_getElem? (i := 1) rfl))
 have N419F := Fr.snoc X419 N0 g_es
 obtain ⟨vsx, Vx⟩ : ∃ vs, Arv Z h419 es kes (.object "java/lang/Object") (17 : Int32) vs .null := own_aset V_es W419
 have f420 := F_dq_head.other W419 (Or.inl ne_dq_es)
 obtain ⟨T421, X421, e421, st421⟩ := getF X419 hx hZ hown (host := "") (Or.inl (wd hw 118 rfl)) Via.refl e419 f420 (g := (mkF m 25 #[.val (.ref dq), .val (.ref b), .val (.ref es)] [(.ref dq)])) rfl rfl (hb hby dDA_25)
 have f422 := F_dq_tail.other W419 (Or.inl ne_dq_es)
 obtain ⟨T423, X423, e423, st423⟩ := getF X421 hx hZ hown (host := "") (Or.inl (wd hw 115 rfl)) Via.refl e421 f422 (g := (mkF m 30 #[.val (.ref dq), .val (.ref b), .val (.ref es)] [(.ref dq), (.ref dq), (.int (0 : Int32))])) rfl rfl (hb hby dDA_30)
 obtain ⟨cl424, Ar424, -, S424, N424, -, -⟩ := id Vx
 obtain ⟨_, _, ⟨T425, L425, k425, n425⟩, -, X425, ⟨Lc425, hQ425, l425, y425, z425⟩, st425⟩ := Jvm.LawKit.callS X423 hx (y := (⟨sAQ, "inc", "(II)I"⟩ : MethodName)) hown (mvT hZ (wd hw 120 rfl)) (mvT hZ (wd hw 121 rfl)) (mvT hZ (wd hw 35 rfl)) (mvT hZ (wd hw 122 rfl)) (by decide) (backOf (W := 2) (rmNC l Z a0 hw []  h419 n0 (Nat.le_trans Z0 K419.1) ) hZ (wd hw 122 rfl) (wd hw 35 rfl) (by decide) (by decide)) (g := (mkF m 35 #[.val (.ref dq), .val (.ref b), .val (.ref es)] [(.int (17 : Int32)), (.int (0 : Int32)), (.ref dq), (.int (0 : Int32))])) rfl (by rw [hml]; rfl) (argsL := [(.int (0 : Int32)), (.int (17 : Int32))]) (rest := [(.ref dq), (.int (0 : Int32))]) (lenOf pd_4 rfl) rfl (by show 2 * 0 + _ ≤ _; exact Nat.le_of_eq rfl) (hb hby dDA_35) (fun _ _ => ⟨rfl, e423, (by decide : 0 + 0 ≤ _), (by decide : 0 + 0 ≤ _)⟩)
 dsimp only [Pt.U, Pt.locs, Pt.cells, Pt.slots] at X425 l425 y425 z425 st425 hQ425
 rw [l425, y425, z425] at X425
 obtain ⟨hv425, Nq425, eq425⟩ := hQ425
 rw [hv425] at st425
 have N425 := Fr.app N419F Nq425
 have f426 := E_dq.wr W419
 obtain ⟨T427, h427, X427, e427, W427, st427⟩ := putF X425 hx hZ hown (host := "") (Or.inl (wd hw 115 rfl)) Via.refl eq425 f422 f426 (Or.inl (wd hw 116 rfl)) (wd hw 34 rfl) (ty := .int) (by decide) rfl rfl (g := (mkF m 39 #[.val (.ref dq), .val (.ref b), .val (.ref es)] [(.int (1 : Int32)), (.ref dq), (.int (1 : Int32)), (.int (0 : Int32))])) rfl rfl (hb hby dDA_39)
 have Fw427 := f422.same W427
 have K427 : Keep h0 h427 [dq, es] := K419.wr W427 (Or.inl (List.mem_of_getElem? (i := 0) rfl))
 have N427 := Fr.snoc X427 N425 g_dq
 obtain ⟨fs, hr, hrun, hended, hW, hsame⟩ := X427.leave (v := none) (fun _ => rfl)
 refine ⟨_, _, ?_, hrun, hended, _, _, rfl, ?_, ⟨_, rfl⟩, hW, hsame.mono (by decide) (by decide)⟩
 ·refine pre0 _ ?_
  show Steps _ _ _ (s₁.setTop (mkF m 0 #[.val (.ref dq), .val (.ref b), .unset] [])) _
  refine XS.aloadN X0.here hx rfl (hb hby dDA_0) rfl rfl ?_
  refine XS.ifnonnullYes X0.here hx rfl (pc0 := 1) (pc' := 12) rfl (hb hby dDA_1) rfl (by decide) (by decide) ?_
  refine XS.aloadN X0.here hx rfl (hb hby dDA_12) rfl rfl ?_
  refine st416 _ ?_
  show Steps _ _ _ (T416.setTop (mkF m 16 #[.val (.ref dq), .val (.ref b), .unset] [(.ref es)])) _
  refine XS.astoreN X416.here hx rfl (hb hby dDA_16) rfl rfl (l' := #[.val (.ref dq), .val (.ref b), .val (.ref es)]) rfl ?_
  refine XS.aloadN X416.here hx rfl (hb hby dDA_17) rfl rfl ?_
  refine XS.aloadN X416.here hx rfl (hb hby dDA_18) rfl rfl ?_
  refine st417 _ ?_
  show Steps _ _ _ (T417.setTop (mkF m 22 #[.val (.ref dq), .val (.ref b), .val (.ref es)] [(.int (0 : Int32)), (.ref es)])) _
  refine XS.aloadN X417.here hx rfl (hb hby dDA_22) rfl rfl ?_
  show Steps _ _ _ (T417.setTop (mkF m 23 #[.val (.ref dq), .val (.ref b), .val (.ref es)] [(.ref b), (.int (0 : Int32)), (.ref es)])) _
  refine st419 _ ?_
  refine XS.aloadN X419.here hx rfl (hb hby dDA_24) rfl rfl ?_
  refine st421 _ ?_
  refine XS.aloadN X421.here hx rfl (hb hby dDA_28) rfl rfl ?_
  show Steps _ _ _ (T421.setTop (mkF m 29 #[.val (.ref dq), .val (.ref b), .val (.ref es)] [(.ref dq), (.int (0 : Int32))])) _
  refine XS.aloadN X421.here hx rfl (hb hby dDA_29) rfl rfl ?_
  refine st423 _ ?_
  refine XS.aloadN X423.here hx rfl (hb hby dDA_33) rfl rfl ?_
  show Steps _ _ _ (T423.setTop (mkF m 34 #[.val (.ref dq), .val (.ref b), .val (.ref es)] [(.ref es), (.int (0 : Int32)), (.ref dq), (.int (0 : Int32))])) _
  refine X423.arraylength hx (by rw [e423]; exact Ar424.1) (State.isArrayOf_alike hZ.alike Ar424.2.1) (g := (mkF m 34 #[.val (.ref dq), .val (.ref b), .val (.ref es)] [(.ref es), (.int (0 : Int32)), (.ref dq), (.int (0 : Int32))])) rfl rfl (hb hby dDA_34) _ ?_
  rw [len_of S424 N424]
  refine st425 _ ?_
  show Steps _ _ _ (T425.setTop (mkF m 38 #[.val (.ref dq), .val (.ref b), .val (.ref es)] [(.int (1 : Int32)), (.ref dq), (.int (0 : Int32))])) _
  refine XS.dupX1 X425.here hx rfl (hb hby dDA_38) rfl rfl rfl ?_
  refine st427 _ ?_
  refine XS.icmpYes X427.here hx rfl (pc0 := 42) (pc' := 50) rfl (hb hby dDA_42) rfl (by decide) (by decide) (by decide) ?_
  show Steps _ _ _ (T427.setTop (mkF m 50 #[.val (.ref dq), .val (.ref b), .val (.ref es)] [])) _
  exact X427.returnOut hx Bd.returns (hb hby dDA_50) hr
 ·show QDA Z dq b es kes h0 n0 _ T427.heap _
  rw [e427]
  exact ⟨rfl, N427, K427⟩
theorem dAL_0 : decode prog_65_method_4_code 0 = .ok (.aload_n 0, 1) := by decide +kernel
theorem dAL_1 : decode prog_65_method_4_code 1 = .ok (.getfield 26, 3) := by decide +kernel
theorem dAL_4 : decode prog_65_method_4_code 4 = .ok (.ifnull 17, 3) := by decide +kernel
theorem dAL_21 : decode prog_65_method_4_code 21 = .ok (.aload_n 0, 1) := by decide +kernel
theorem dAL_22 : decode prog_65_method_4_code 22 = .ok (.aload_n 0, 1) := by decide +kernel
theorem dAL_23 : decode prog_65_method_4_code 23 = .ok (.sipush 4096, 3) := by decide +kernel
theorem dAL_26 : decode prog_65_method_4_code 26 = .ok (.bipush 16, 2) := by decide +kernel
theorem dAL_28 : decode prog_65_method_4_code 28 = .ok (.aload_n 0, 1) := by decide +kernel
theorem dAL_29 : decode prog_65_method_4_code 29 = .ok (.getfield 23, 3) := by decide +kernel
theorem dAL_32 : decode prog_65_method_4_code 32 = .ok (.invokestatic 38, 3) := by decide +kernel
theorem dAL_35 : decode prog_65_method_4_code 35 = .ok (.invokestatic 44, 3) := by decide +kernel
theorem dAL_38 : decode prog_65_method_4_code 38 = .ok (.invokevirtual 47, 3) := by decide +kernel
theorem pd_5 : parseMethodDescriptor "(I)Lcom/example/frugal_weir/frugalweir/replay/RecordQueue$Block;" = some ⟨[.int], some (.object sBK)⟩ := by decide +kernel
theorem dAL_41 : decode prog_65_method_4_code 41 = .ok (.putfield 26, 3) := by decide +kernel
theorem dAL_44 : decode prog_65_method_4_code 44 = .ok (.aload_n 0, 1) := by decide +kernel
theorem dAL_45 : decode prog_65_method_4_code 45 = .ok (.getfield 10, 3) := by decide +kernel
theorem sn88 {Z : State} {a0 : Array Value} (hw : HW Z a0) : Jvm.RoadKit.slotOf Z sRQ "blocks" "Ljava/util/ArrayDeque;" ≠ Jvm.RoadKit.slotOf Z sRQ "last" dBK := slot_ne (a0 := a0) (C := sRQ) (Or.inr (wd hw 51 rfl)) (Or.inl (wd hw 79 rfl)) (by decide) (t := (.object sAQ)) (t' := (.object sBK)) (by decide) (by decide)
theorem dAL_48 : decode prog_65_method_4_code 48 = .ok (.aload_n 0, 1) := by decide +kernel
theorem dAL_49 : decode prog_65_method_4_code 49 = .ok (.getfield 26, 3) := by decide +kernel
theorem dAL_52 : decode prog_65_method_4_code 52 = .ok (.invokevirtual 51, 3) := by decide +kernel
theorem pd_6 : parseMethodDescriptor "(Ljava/lang/Object;)V" = some ⟨[(.object "java/lang/Object")], none⟩ := by decide +kernel
theorem dAL_55 : decode prog_65_method_4_code 55 = .ok (.aload_n 0, 1) := by decide +kernel
theorem dAL_56 : decode prog_65_method_4_code 56 = .ok (.iconst 0, 1) := by decide +kernel
theorem dAL_57 : decode prog_65_method_4_code 57 = .ok (.putfield 30, 3) := by decide +kernel
theorem sn89 {Z : State} {a0 : Array Value} (hw : HW Z a0) : Jvm.RoadKit.slotOf Z sRQ "end" "I" ≠ Jvm.RoadKit.slotOf Z sRQ "last" dBK := slot_ne (a0 := a0) (C := sRQ) (Or.inl (wd hw 124 rfl)) (Or.inl (wd hw 79 rfl)) (by decide) (t := .int) (t' := (.object sBK)) (by decide) (by decide)
theorem dAL_60 : decode prog_65_method_4_code 60 = .ok (.aload_n 0, 1) := by decide +kernel
theorem dAL_61 : decode prog_65_method_4_code 61 = .ok (.getfield 55, 3) := by decide +kernel
theorem sn90 {Z : State} {a0 : Array Value} (hw : HW Z a0) : Jvm.RoadKit.slotOf Z sRQ "first" dBK ≠ Jvm.RoadKit.slotOf Z sRQ "last" dBK := slot_ne (a0 := a0) (C := sRQ) (Or.inl (wd hw 126 rfl)) (Or.inl (wd hw 79 rfl)) (by decide) (t := (.object sBK)) (t' := (.object sBK)) (by decide) (by decide)
theorem sn91 {Z : State} {a0 : Array Value} (hw : HW Z a0) : Jvm.RoadKit.slotOf Z sRQ "first" dBK ≠ Jvm.RoadKit.slotOf Z sRQ "end" "I" := slot_ne (a0 := a0) (C := sRQ) (Or.inl (wd hw 126 rfl)) (Or.inl (wd hw 124 rfl)) (by decide) (t := (.object sBK)) (t' := .int) (by decide) (by decide)
theorem dAL_64 : decode prog_65_method_4_code 64 = .ok (.ifnonnull 11, 3) := by decide +kernel
theorem dAL_67 : decode prog_65_method_4_code 67 = .ok (.aload_n 0, 1) := by decide +kernel
theorem dAL_68 : decode prog_65_method_4_code 68 = .ok (.aload_n 0, 1) := by decide +kernel
theorem dAL_69 : decode prog_65_method_4_code 69 = .ok (.getfield 26, 3) := by decide +kernel
theorem sn92 {Z : State} {a0 : Array Value} (hw : HW Z a0) : Jvm.RoadKit.slotOf Z sRQ "last" dBK ≠ Jvm.RoadKit.slotOf Z sRQ "end" "I" := slot_ne (a0 := a0) (C := sRQ) (Or.inl (wd hw 79 rfl)) (Or.inl (wd hw 124 rfl)) (by decide) (t := (.object sBK)) (t' := .int) (by decide) (by decide)
theorem dAL_72 : decode prog_65_method_4_code 72 = .ok (.putfield 55, 3) := by decide +kernel
theorem dAL_75 : decode prog_65_method_4_code 75 = .ok (.aload_n 0, 1) := by decide +kernel
theorem dAL_76 : decode prog_65_method_4_code 76 = .ok (.dup, 1) := by decide +kernel
theorem dAL_77 : decode prog_65_method_4_code 77 = .ok (.getfield 30, 3) := by decide +kernel
theorem sn93 {Z : State} {a0 : Array Value} (hw : HW Z a0) : Jvm.RoadKit.slotOf Z sRQ "end" "I" ≠ Jvm.RoadKit.slotOf Z sRQ "first" dBK := slot_ne (a0 := a0) (C := sRQ) (Or.inl (wd hw 124 rfl)) (Or.inl (wd hw 126 rfl)) (by decide) (t := .int) (t' := (.object sBK)) (by decide) (by decide)
theorem dAL_80 : decode prog_65_method_4_code 80 = .ok (.iconst 1, 1) := by decide +kernel
theorem dAL_81 : decode prog_65_method_4_code 81 = .ok (.iadd, 1) := by decide +kernel
theorem dAL_82 : decode prog_65_method_4_code 82 = .ok (.putfield 30, 3) := by decide +kernel
theorem dAL_85 : decode prog_65_method_4_code 85 = .ok (.aload_n 0, 1) := by decide +kernel
theorem dAL_86 : decode prog_65_method_4_code 86 = .ok (.dup, 1) := by decide +kernel
theorem dAL_87 : decode prog_65_method_4_code 87 = .ok (.getfield 23, 3) := by decide +kernel
theorem sn94 {Z : State} {a0 : Array Value} (hw : HW Z a0) : Jvm.RoadKit.slotOf Z sRQ "size" "I" ≠ Jvm.RoadKit.slotOf Z sRQ "last" dBK := slot_ne (a0 := a0) (C := sRQ) (Or.inl (wd hw 81 rfl)) (Or.inl (wd hw 79 rfl)) (by decide) (t := .int) (t' := (.object sBK)) (by decide) (by decide)
theorem sn95 {Z : State} {a0 : Array Value} (hw : HW Z a0) : Jvm.RoadKit.slotOf Z sRQ "size" "I" ≠ Jvm.RoadKit.slotOf Z sRQ "end" "I" := slot_ne (a0 := a0) (C := sRQ) (Or.inl (wd hw 81 rfl)) (Or.inl (wd hw 124 rfl)) (by decide) (t := .int) (t' := .int) (by decide) (by decide)
theorem sn96 {Z : State} {a0 : Array Value} (hw : HW Z a0) : Jvm.RoadKit.slotOf Z sRQ "size" "I" ≠ Jvm.RoadKit.slotOf Z sRQ "first" dBK := slot_ne (a0 := a0) (C := sRQ) (Or.inl (wd hw 81 rfl)) (Or.inl (wd hw 126 rfl)) (by decide) (t := .int) (t' := (.object sBK)) (by decide) (by decide)
theorem dAL_90 : decode prog_65_method_4_code 90 = .ok (.iconst 1, 1) := by decide +kernel
theorem dAL_91 : decode prog_65_method_4_code 91 = .ok (.iadd, 1) := by decide +kernel
theorem dAL_92 : decode prog_65_method_4_code 92 = .ok (.putfield 23, 3) := by decide +kernel
theorem dAL_95 : decode prog_65_method_4_code 95 = .ok (.return_, 1) := by decide +kernel
theorem sn97 {Z : State} {a0 : Array Value} (hw : HW Z a0) : Jvm.RoadKit.slotOf Z sRQ "first" dBK ≠ Jvm.RoadKit.slotOf Z sRQ "size" "I" := slot_ne (a0 := a0) (C := sRQ) (Or.inl (wd hw 126 rfl)) (Or.inl (wd hw 81 rfl)) (by decide) (t := (.object sBK)) (t' := .int) (by decide) (by decide)
theorem sn98 {Z : State} {a0 : Array Value} (hw : HW Z a0) : Jvm.RoadKit.slotOf Z sRQ "last" dBK ≠ Jvm.RoadKit.slotOf Z sRQ "first" dBK := slot_ne (a0 := a0) (C := sRQ) (Or.inl (wd hw 79 rfl)) (Or.inl (wd hw 126 rfl)) (by decide) (t := (.object sBK)) (t' := (.object sBK)) (by decide) (by decide)
theorem sn99 {Z : State} {a0 : Array Value} (hw : HW Z a0) : Jvm.RoadKit.slotOf Z sRQ "last" dBK ≠ Jvm.RoadKit.slotOf Z sRQ "size" "I" := slot_ne (a0 := a0) (C := sRQ) (Or.inl (wd hw 79 rfl)) (Or.inl (wd hw 81 rfl)) (by decide) (t := (.object sBK)) (t' := .int) (by decide) (by decide)
theorem sn100 {Z : State} {a0 : Array Value} (hw : HW Z a0) : Jvm.RoadKit.slotOf Z sRQ "head" "I" ≠ Jvm.RoadKit.slotOf Z sRQ "last" dBK := slot_ne (a0 := a0) (C := sRQ) (Or.inl (wd hw 174 rfl)) (Or.inl (wd hw 79 rfl)) (by decide) (t := .int) (t' := (.object sBK)) (by decide) (by decide)
theorem sn101 {Z : State} {a0 : Array Value} (hw : HW Z a0) : Jvm.RoadKit.slotOf Z sRQ "head" "I" ≠ Jvm.RoadKit.slotOf Z sRQ "end" "I" := slot_ne (a0 := a0) (C := sRQ) (Or.inl (wd hw 174 rfl)) (Or.inl (wd hw 124 rfl)) (by decide) (t := .int) (t' := .int) (by decide) (by decide)
theorem sn102 {Z : State} {a0 : Array Value} (hw : HW Z a0) : Jvm.RoadKit.slotOf Z sRQ "head" "I" ≠ Jvm.RoadKit.slotOf Z sRQ "first" dBK := slot_ne (a0 := a0) (C := sRQ) (Or.inl (wd hw 174 rfl)) (Or.inl (wd hw 126 rfl)) (by decide) (t := .int) (t' := (.object sBK)) (by decide) (by decide)
theorem sn103 {Z : State} {a0 : Array Value} (hw : HW Z a0) : Jvm.RoadKit.slotOf Z sRQ "head" "I" ≠ Jvm.RoadKit.slotOf Z sRQ "size" "I" := slot_ne (a0 := a0) (C := sRQ) (Or.inl (wd hw 174 rfl)) (Or.inl (wd hw 81 rfl)) (by decide) (t := .int) (t' := .int) (by decide) (by decide)
theorem sn104 {Z : State} {a0 : Array Value} (hw : HW Z a0) : Jvm.RoadKit.slotOf Z sRQ "end" "I" ≠ Jvm.RoadKit.slotOf Z sRQ "size" "I" := slot_ne (a0 := a0) (C := sRQ) (Or.inl (wd hw 124 rfl)) (Or.inl (wd hw 81 rfl)) (by decide) (t := .int) (t' := .int) (by decide) (by decide)
theorem ef_AL0 (m : MethodId) (x0 : Addr) : entryFrame m #[(.ref x0)] 1 = mkF m 0 #[.val (.ref x0)] [] := by first | (simp [entryFrame, mkF, argsToLocals, Value.category]; done) | rfl
def QAL0 (Z : State) (q : Addr) (dq : Addr) (es : Addr) (kes : ClassId) (h0 : Heap) (n0 : Nat) (v : Option Value) (h : Heap) (L : List Loc) : Prop := v = none ∧ Fr n0 L ∧ Keep h0 h [q, dq, es] ∧ ∃ (b bi i0 bd d0 d1 : Addr) (kbi ki kbd kd : ClassId), Exa Z h q sRQ ∧ Fld Z h q sRQ "first" dBK (.ref b) ∧ Fld Z h q sRQ "last" dBK (.ref b) ∧ Fld Z h q sRQ "head" "I" (.int (0 : Int32)) ∧ Fld Z h q sRQ "end" "I" (.int (1 : Int32)) ∧ Fld Z h q sRQ "size" "I" (.int (1 : Int32)) ∧ Exa Z h b sBK ∧ Fld Z h b sBK "capacity" "I" (.int (16 : Int32)) ∧ Fld Z h b sBK "ints" "[[I" (.ref bi) ∧ Fld Z h b sBK "doubles" "[[D" (.ref bd) ∧ Arv Z h bi kbi (.array .int) (1 : Int32) [(.ref i0)] .null ∧ Arv Z h bd kbd (.array .double) (2 : Int32) [(.ref d0), (.ref d1)] .null ∧ Arv Z h i0 ki .int (16 : Int32) [(.int (0 : Int32)), (.int (0 : Int32))] (.int (0 : Int32)) ∧ Arv Z h d0 kd .double (16 : Int32) [(.double (FP.l2d 0)), (.double (FP.l2d 0))] (.double (FP.l2d 0)) ∧ Arv Z h d1 kd .double (16 : Int32) [(.double (FP.l2d 0)), (.double (FP.l2d 0))] (.double (FP.l2d 0)) ∧ h0.size ≤ b ∧ b < bi ∧ bi < i0 ∧ i0 < bd ∧ bd < d0 ∧ d0 < d1
set_option maxRecDepth 65536 in
set_option maxHeartbeats 40000000 in
theorem rmAL0 (l : Launch) (Z : State) (a0 : Array Value) (hw : HW Z a0) (ws : List Jvm.Cond) (q : Addr) (dq : Addr) (es : Addr) (kes : ClassId) (h0 : Heap) (n0 : Nat) (Z0 : n0 ≤ h0.size) (E_q : Exa Z h0 q sRQ) (F_q_intFields : Fld Z h0 q sRQ "intFields" "I" (.int (1 : Int32))) (F_q_doubleFields : Fld Z h0 q sRQ "doubleFields" "I" (.int (2 : Int32))) (F_q_blocks : Fld Z h0 q sRQ "blocks" "Ljava/util/ArrayDeque;" (.ref dq)) (F_q_first : Fld Z h0 q sRQ "first" dBK .null) (F_q_last : Fld Z h0 q sRQ "last" dBK .null) (F_q_spare : Fld Z h0 q sRQ "spare" dBK .null) (F_q_head : Fld Z h0 q sRQ "head" "I" (.int (0 : Int32))) (F_q_end : Fld Z h0 q sRQ "end" "I" (.int (0 : Int32))) (F_q_size : Fld Z h0 q sRQ "size" "I" (.int (0 : Int32))) (E_dq : Exa Z h0 dq sAQ) (F_dq_head : Fld Z h0 dq sAQ "head" "I" (.int (0 : Int32))) (F_dq_tail : Fld Z h0 dq sAQ "tail" "I" (.int (0 : Int32))) (F_dq_elements : Fld Z h0 dq sAQ "elements" "[Ljava/lang/Object;" (.ref es)) (V_es : Arv Z h0 es kes (.object "java/lang/Object") (17 : Int32) [] .null) (O_es : Ovr Z kes "java/lang/Object") (c_q_dq : q < dq) (c_dq_es : dq < es) (g_q : n0 ≤ q) (g_dq : n0 ≤ dq) (g_es : n0 ≤ es) :
  MetFree l (⟨sRQ, "addLast", "()V"⟩ : MethodName) (head1 (Jvm.Cond.code (⟨sRQ, "addLast", "()V"⟩ : MethodName) prog_65_method_4_code 1 none :: ws) (Rm 3 6 54 43)) (fun a U => a = #[(.ref q)] ∧ Z.Warmed39 U.vm ∧ U.heap = h0) (fun _ _ _ _ _ => True) (fun _ U o U' => ∃ v L, o = .returned v ∧ QAL0 Z q dq es kes h0 n0 v U'.heap L ∧ FrameEnd U o U' L (Rm 3 6 54 43).cells (Rm 3 6 54 43).slots) := by
 refine MetFree.of_bodySF (plainFor_of_name pn_com_example_frugal_weir_frugalweir_replay_RecordQueue) hisR ?_
 intro p e s m args below meth c s₁ Bd hml0 hP hK
 obtain ⟨rfl, hZ, hh⟩ := hP
 have hx := Bd.exec
 have hby := Bd.bytes
 have hml : c.maxLocals = 1 := hml0
 have hown : s.vm.findClass sRQ = some m.cls := findClass_of_methodNamed Bd.named
 have hnm := (name_of_methodNamed Bd.named Bd.method).1
 have X0 : Stand p l e (Rm 3 6 54 43) s m #[(.ref q)] below meth c s₁ [] 0 0 := Stand.of_body Bd
 have e0 : s₁.heap = h0 := by rw [← hh, Bd.state]; rfl
 have N0 := Fr.nil n0
 have K0 := Keep.refl h0 [q, dq, es]
 have pre0 : ∀ t, Steps p.tables e below (s₁.setTop (mkF m 0 #[.val (.ref q)] [])) t → Steps p.tables e below (s₁.setTop (entryFrame m #[(.ref q)] 1)) t := fun t k => castTop (ef_AL0 m q) k
 have ne_q_dq : q ≠ dq := Nat.ne_of_lt c_q_dq
 have ne_q_es : q ≠ es := Nat.ne_of_lt (Nat.lt_trans c_q_dq c_dq_es)
 have ne_dq_es : dq ≠ es := Nat.ne_of_lt c_dq_es
 obtain ⟨T428, X428, e428, st428⟩ := getF X0 hx hZ hown (host := "") (Or.inl (wd hw 78 rfl)) Via.refl e0 F_q_last (g := (mkF m 1 #[.val (.ref q)] [(.ref q)])) rfl rfl (hb hby dAL_1)
 obtain ⟨T429, X429, e429, st429⟩ := getF X428 hx hZ hown (host := "") (Or.inl (wd hw 80 rfl)) Via.refl e428 F_q_size (g := (mkF m 29 #[.val (.ref q)] [(.ref q), (.int (16 : Int32)), (.int (4096 : Int32)), (.ref q), (.ref q)])) rfl rfl (hb hby dAL_29)
 obtain ⟨_, _, ⟨T430, L430, k430, n430⟩, -, X430, ⟨Lc430, hQ430, l430, y430, z430⟩, st430⟩ := Jvm.LawKit.callS X429 hx (y := (⟨"java/lang/Math", "max", "(II)I"⟩ : MethodName)) hown (mvT hZ (wd hw 82 rfl)) (mvT hZ (wd hw 83 rfl)) (mvT hZ (wd hw 3 rfl)) (mvT hZ (wd hw 84 rfl)) (by decide) (backOf (W := 3) (rmMX l Z a0 hw [] (16 : Int32) (0 : Int32) h0 n0 (Nat.le_trans Z0 K0.1) ) hZ (wd hw 84 rfl) (wd hw 3 rfl) (by decide) (by decide)) (g := (mkF m 32 #[.val (.ref q)] [(.int (0 : Int32)), (.int (16 : Int32)), (.int (4096 : Int32)), (.ref q), (.ref q)])) rfl (by rw [hml]; rfl) (argsL := [(.int (16 : Int32)), (.int (0 : Int32))]) (rest := [(.int (4096 : Int32)), (.ref q), (.ref q)]) (lenOf pd_4 rfl) rfl (by show 2 * 0 + _ ≤ _; exact Nat.le_of_eq rfl) (hb hby dAL_32) (fun _ _ => ⟨rfl, e429, (by decide : 0 + 0 ≤ _), (by decide : 0 + 0 ≤ _)⟩)
 dsimp only [Pt.U, Pt.locs, Pt.cells, Pt.slots] at X430 l430 y430 z430 st430 hQ430
 rw [l430, y430, z430] at X430
 obtain ⟨hv430, Nq430, eq430⟩ := hQ430
 rw [hv430] at st430
 have N430 := Fr.app N0 Nq430
 rw [show own_max (16 : Int32) (0 : Int32) = 16 from by decide] at st430
 obtain ⟨_, _, ⟨T431, L431, k431, n431⟩, -, X431, ⟨Lc431, hQ431, l431, y431, z431⟩, st431⟩ := Jvm.LawKit.callS X430 hx (y := (⟨"java/lang/Math", "min", "(II)I"⟩ : MethodName)) hown (mvT hZ (wd hw 85 rfl)) (mvT hZ (wd hw 2 rfl)) (mvT hZ (wd hw 3 rfl)) (mvT hZ (wd hw 4 rfl)) (by decide) (backOf (W := 2) (rmMN l Z a0 hw [] (4096 : Int32) (16 : Int32) h0 n0 (Nat.le_trans Z0 K0.1) ) hZ (wd hw 4 rfl) (wd hw 3 rfl) (by decide) (by decide)) (g := (mkF m 35 #[.val (.ref q)] [(.int (16 : Int32)), (.int (4096 : Int32)), (.ref q), (.ref q)])) rfl (by rw [hml]; rfl) (argsL := [(.int (4096 : Int32)), (.int (16 : Int32))]) (rest := [(.ref q), (.ref q)]) (lenOf pd_4 rfl) rfl (by show 2 * 0 + _ ≤ _; exact Nat.le_of_eq rfl) (hb hby dAL_35) (fun _ _ => ⟨rfl, eq430, (by decide : 0 + 0 ≤ _), (by decide : 0 + 0 ≤ _)⟩)
 dsimp only [Pt.U, Pt.locs, Pt.cells, Pt.slots] at X431 l431 y431 z431 st431 hQ431
 rw [l431, y431, z431] at X431
 obtain ⟨hv431, Nq431, eq431⟩ := hQ431
 rw [hv431] at st431
 have N431 := Fr.app N430 Nq431
 rw [show own_min (4096 : Int32) (16 : Int32) = 16 from by decide] at st431
 obtain ⟨cq432, q432, q432'⟩ := E_q.cell
 obtain ⟨_, _, ⟨T432, L432, k432, n432⟩, -, X432, ⟨Lc432, hQ432, l432, y432, z432⟩, st432⟩ := X431.privateBack hx (y := (⟨sRQ, "block", "(I)Lcom/example/frugal_weir/frugalweir/replay/RecordQueue$Block;"⟩ : MethodName)) hown (mvT hZ (wd hw 86 rfl)) (mvT hZ (wd hw 87 rfl)) (own_selP (y := (⟨sRQ, "block", "(I)Lcom/example/frugal_weir/frugalweir/replay/RecordQueue$Block;"⟩ : MethodName)) (z := (⟨sRQ, "addLast", "()V"⟩ : MethodName)) (mvT hZ (wd hw 76 rfl)) rfl (Cond.privateMethod_at (mvP hZ (wd hw 88 rfl) (args := #[]))) (mvT hZ (wd hw 87 rfl)) (by decide)) (Cond.privateMethod_at (mvP hZ (wd hw 88 rfl) (args := #[]))) (mvT hZ (wd hw 89 rfl)) (by decide) (backOf (W := 1) (rmBL l Z a0 hw [] q h0 n0 (Nat.le_trans Z0 K0.1) E_q F_q_spare F_q_intFields F_q_doubleFields) hZ (wd hw 89 rfl) (wd hw 28 rfl) (by decide) (by decide)) (g := (mkF m 38 #[.val (.ref q)] [(.int (16 : Int32)), (.ref q), (.ref q)])) rfl (by rw [hml]; rfl) (Steps.refl _) (a := q) (by rw [eq431]; exact q432) q432' (argsL := [(.int (16 : Int32))]) (rest := [(.ref q)]) (lenOf pd_5 rfl) rfl (by show 2 * 0 + _ ≤ _; exact Nat.le_of_eq rfl) (hb hby dAL_38) (fun _ _ => ⟨rfl, eq431, (by decide : 0 + 6 ≤ _), (by decide : 0 + 54 ≤ _)⟩)
 dsimp only [Pt.U, Pt.locs, Pt.cells, Pt.slots] at X432 l432 y432 z432 st432 hQ432
 rw [l432, y432, z432] at X432
 obtain ⟨b, hv432, Nq432, Kc432, bi, i0, bd, d0, d1, kbi, ki, kbd, kd, Eb432, Fbc432, Fbi432, Fbd432, Vbi432, Vbd432, Vi0432, Vd0432, Vd1432, sq432, c0432, c1432, c2432, c3432, c4432⟩ := hQ432
 rw [hv432] at st432
 have K432 : Keep h0 T432.heap [q, dq, es] := K0.trans Kc432 all0
 have lt_q_b : q < b := Nat.lt_of_lt_of_le E_q.lt sq432
 have lt_q_bi : q < bi := Nat.lt_trans lt_q_b c0432
 have lt_q_i0 : q < i0 := Nat.lt_trans lt_q_bi c1432
 have lt_q_bd : q < bd := Nat.lt_trans lt_q_i0 c2432
 have lt_q_d0 : q < d0 := Nat.lt_trans lt_q_bd c3432
 have lt_q_d1 : q < d1 := Nat.lt_trans lt_q_d0 c4432
 have lt_dq_b : dq < b := Nat.lt_of_lt_of_le E_dq.lt sq432
 have lt_dq_bi : dq < bi := Nat.lt_trans lt_dq_b c0432
 have lt_dq_i0 : dq < i0 := Nat.lt_trans lt_dq_bi c1432
 have lt_dq_bd : dq < bd := Nat.lt_trans lt_dq_i0 c2432
 have lt_dq_d0 : dq < d0 := Nat.lt_trans lt_dq_bd c3432
 have lt_dq_d1 : dq < d1 := Nat.lt_trans lt_dq_d0 c4432
 have lt_es_b : es < b := Nat.lt_of_lt_of_le V_es.lt sq432
 have lt_es_bi : es < bi := Nat.lt_trans lt_es_b c0432
 have lt_es_i0 : es < i0 := Nat.lt_trans lt_es_bi c1432
 have lt_es_bd : es < bd := Nat.lt_trans lt_es_i0 c2432
 have lt_es_d0 : es < d0 := Nat.lt_trans lt_es_bd c3432
 have lt_es_d1 : es < d1 := Nat.lt_trans lt_es_d0 c4432
 have lt_b_bi : b < bi := c0432
 have lt_b_i0 : b < i0 := Nat.lt_trans lt_b_bi c1432
 have lt_b_bd : b < bd := Nat.lt_trans lt_b_i0 c2432
 have lt_b_d0 : b < d0 := Nat.lt_trans lt_b_bd c3432
 have lt_b_d1 : b < d1 := Nat.lt_trans lt_b_d0 c4432
 have sz_b : h0.size ≤ b := Nat.le_trans K0.1 sq432
 have g_b : n0 ≤ b := Nat.le_trans Z0 sz_b
 have lt_bi_i0 : bi < i0 := c1432
 have lt_bi_bd : bi < bd := Nat.lt_trans lt_bi_i0 c2432
 have lt_bi_d0 : bi < d0 := Nat.lt_trans lt_bi_bd c3432
 have lt_bi_d1 : bi < d1 := Nat.lt_trans lt_bi_d0 c4432
 have sz_bi : h0.size ≤ bi := Nat.le_of_lt (Nat.lt_of_le_of_lt sz_b c0432)
 have g_bi : n0 ≤ bi := Nat.le_trans Z0 sz_bi
 have lt_i0_bd : i0 < bd := c2432
 have lt_i0_d0 : i0 < d0 := Nat.lt_trans lt_i0_bd c3432
 have lt_i0_d1 : i0 < d1 := Nat.lt_trans lt_i0_d0 c4432
 have sz_i0 : h0.size ≤ i0 := Nat.le_of_lt (Nat.lt_of_le_of_lt sz_bi c1432)
 have g_i0 : n0 ≤ i0 := Nat.le_trans Z0 sz_i0
 have lt_bd_d0 : bd < d0 := c3432
 have lt_bd_d1 : bd < d1 := Nat.lt_trans lt_bd_d0 c4432
 have sz_bd : h0.size ≤ bd := Nat.le_of_lt (Nat.lt_of_le_of_lt sz_i0 c2432)
 have g_bd : n0 ≤ bd := Nat.le_trans Z0 sz_bd
 have lt_d0_d1 : d0 < d1 := c4432
 have sz_d0 : h0.size ≤ d0 := Nat.le_of_lt (Nat.lt_of_le_of_lt sz_bd c3432)
 have g_d0 : n0 ≤ d0 := Nat.le_trans Z0 sz_d0
 have sz_d1 : h0.size ≤ d1 := Nat.le_of_lt (Nat.lt_of_le_of_lt sz_d0 c4432)
 have g_d1 : n0 ≤ d1 := Nat.le_trans Z0 sz_d1
 have N432 := Fr.app N431 Nq432
 have f433 := E_q.keep Kc432
 have f434 := F_q_last.keep Kc432 nin0
 obtain ⟨T435, h435, X435, e435, W435, st435⟩ := putF X432 hx hZ hown (host := "") (Or.inl (wd hw 78 rfl)) Via.refl rfl f434 f433 (Or.inl (wd hw 79 rfl)) (wd hw 27 rfl) (ty := (.object sBK)) (by decide) rfl rfl (g := (mkF m 41 #[.val (.ref q)] [(.ref b), (.ref q)])) rfl rfl (hb hby dAL_41)
 have Fw435 := f434.same W435
 have K435 : Keep h0 h435 [q, dq, es] := K432.wr W435 (Or.inl (List.mem_of_getElem? (i := 0) rfl))
 have N435 := Fr.snoc X435 N432 g_q
 have f437 := (F_q_blocks.keep Kc432 nin0).other W435 (Or.inr (sn88 hw))
 obtain ⟨T438, X438, e438, st438⟩ := getF X435 hx hZ hown (host := "") (Or.inl (wd hw 50 rfl)) Via.refl e435 f437 (g := (mkF m 45 #[.val (.ref q)] [(.ref q)])) rfl rfl (hb hby dAL_45)
 obtain ⟨T439, X439, e439, st439⟩ := getF X438 hx hZ hown (host := "") (Or.inl (wd hw 78 rfl)) Via.refl e438 Fw435 (g := (mkF m 49 #[.val (.ref q)] [(.ref q), (.ref dq)])) rfl rfl (hb hby dAL_49)
 have f442 := (E_dq.keep Kc432).wr W435
 have f444 := (F_dq_head.keep Kc432 nin0).other W435 (Or.inl (Ne.symm ne_q_dq))
 have f446 := (F_dq_tail.keep Kc432 nin0).other W435 (Or.inl (Ne.symm ne_q_dq))
 have f448 := (F_dq_elements.keep Kc432 nin0).other W435 (Or.inl (Ne.symm ne_q_dq))
 have f450 := (V_es.keep Kc432 nin0).other W435 (Ne.symm ne_q_es)
 have f451 := Eb432.wr W435
 obtain ⟨cq440, kq440, q440a, q440b, q440c⟩ := isOf hZ e439 f442
 obtain ⟨_, _, ⟨T440, L440, k440, n440⟩, -, X440, ⟨Lc440, hQ440, l440, y440, z440⟩, st440⟩ := X439.virtualBack hx (y := (⟨sAQ, "addLast", "(Ljava/lang/Object;)V"⟩ : MethodName)) (z := (⟨sAQ, "addLast", "(Ljava/lang/Object;)V"⟩ : MethodName)) hown (mvT hZ (wd hw 110 rfl)) (mvT hZ (wd hw 111 rfl)) (notFace_of_selects (args := #[]) (mvT hZ (wd hw 113 rfl))) (mvT hZ (wd hw 113 rfl)) (mvT hZ (wd hw 112 rfl)) (by decide) (backOf (W := 0) (rmDA l Z a0 hw [] dq b es kes h435 n0 (Nat.le_trans Z0 K435.1) f442 f444 f446 f448 f450 O_es f451 ne_dq_es g_dq g_es) hZ (wd hw 114 rfl) (wd hw 35 rfl) (by decide) (by decide)) q440a q440c (g := (mkF m 52 #[.val (.ref q)] [(.ref b), (.ref dq)])) rfl (by rw [hml]; rfl) (Steps.refl _) (argsL := [(.ref b)]) (rest := []) (lenOf pd_6 rfl) rfl (by show 2 * 0 + _ ≤ _; exact Nat.le_of_eq rfl) (hb hby dAL_52) (fun _ _ => ⟨rfl, e439, (by decide : 6 + 0 ≤ _), (by decide : 54 + 0 ≤ _)⟩)
 dsimp only [Pt.U, Pt.locs, Pt.cells, Pt.slots] at X440 l440 y440 z440 st440 hQ440
 rw [l440, y440, z440] at X440
 obtain ⟨hv440, Nq440, Kc440⟩ := hQ440
 rw [hv440] at st440
 have K440 : Keep h0 T440.heap [q, dq, es] := K435.trans Kc440 (allS (P := fun x => x ∈ [q, dq, es] ∨ h0.size ≤ x) (Or.inl (List.mem_of_getElem? (i := 1) rfl)) (allS (P := fun x => x ∈ [q, dq, es] ∨ h0.size ≤ x) (Or.inl (List.mem_of_getElem? (i := 2) rfl)) all0))
 have N440 := Fr.app N435 Nq440
 have f453 := (f433.wr W435).keep Kc440
 have f456 := ((F_q_end.keep Kc432 nin0).other W435 (Or.inr (sn89 hw))).keep Kc440 (ninS ne_q_dq (ninS ne_q_es nin0))
 obtain ⟨T457, h457, X457, e457, W457, st457⟩ := putF X440 hx hZ hown (host := "") (Or.inl (wd hw 123 rfl)) Via.refl rfl f456 f453 (Or.inl (wd hw 124 rfl)) (wd hw 27 rfl) (ty := .int) (by decide) rfl rfl (g := (mkF m 57 #[.val (.ref q)] [(.int (0 : Int32)), (.ref q)])) rfl rfl (hb hby dAL_57)
 have Fw457 := f456.same W457
 have K457 : Keep h0 h457 [q, dq, es] := K440.wr W457 (Or.inl (List.mem_of_getElem? (i := 0) rfl))
 have N457 := Fr.snoc X457 N440 g_q
 have f461 := (((F_q_first.keep Kc432 nin0).other W435 (Or.inr (sn90 hw))).keep Kc440 (ninS ne_q_dq (ninS ne_q_es nin0))).other W457 (Or.inr (sn91 hw))
 obtain ⟨T462, X462, e462, st462⟩ := getF X457 hx hZ hown (host := "") (Or.inl (wd hw 125 rfl)) Via.refl e457 f461 (g := (mkF m 61 #[.val (.ref q)] [(.ref q)])) rfl rfl (hb hby dAL_61)
 have f464 := (Fw435.keep Kc440 (ninS ne_q_dq (ninS ne_q_es nin0))).other W457 (Or.inr (sn92 hw))
 obtain ⟨T465, X465, e465, st465⟩ := getF X462 hx hZ hown (host := "") (Or.inl (wd hw 78 rfl)) Via.refl e462 f464 (g := (mkF m 69 #[.val (.ref q)] [(.ref q), (.ref q)])) rfl rfl (hb hby dAL_69)
 have f466 := f453.wr W457
 obtain ⟨T467, h467, X467, e467, W467, st467⟩ := putF X465 hx hZ hown (host := "") (Or.inl (wd hw 125 rfl)) Via.refl e465 f461 f466 (Or.inl (wd hw 126 rfl)) (wd hw 27 rfl) (ty := (.object sBK)) (by decide) rfl rfl (g := (mkF m 72 #[.val (.ref q)] [(.ref b), (.ref q)])) rfl rfl (hb hby dAL_72)
 have Fw467 := f461.same W467
 have K467 : Keep h0 h467 [q, dq, es] := K457.wr W467 (Or.inl (List.mem_of_getElem? (i := 0) rfl))
 have N467 := Fr.snoc X467 N457 g_q
 have f468 := Fw457.other W467 (Or.inr (sn93 hw))
 obtain ⟨T469, X469, e469, st469⟩ := getF X467 hx hZ hown (host := "") (Or.inl (wd hw 123 rfl)) Via.refl e467 f468 (g := (mkF m 77 #[.val (.ref q)] [(.ref q), (.ref q)])) rfl rfl (hb hby dAL_77)
 have f470 := f466.wr W467
 obtain ⟨T471, h471, X471, e471, W471, st471⟩ := putF X469 hx hZ hown (host := "") (Or.inl (wd hw 123 rfl)) Via.refl e469 f468 f470 (Or.inl (wd hw 124 rfl)) (wd hw 27 rfl) (ty := .int) (by decide) rfl rfl (g := (mkF m 82 #[.val (.ref q)] [(.int (1 : Int32)), (.ref q)])) rfl rfl (hb hby dAL_82)
 have Fw471 := f468.same W471
 have K471 : Keep h0 h471 [q, dq, es] := K467.wr W471 (Or.inl (List.mem_of_getElem? (i := 0) rfl))
 have N471 := Fr.snoc X471 N467 g_q
 have f477 := (((((F_q_size.keep Kc432 nin0).other W435 (Or.inr (sn94 hw))).keep Kc440 (ninS ne_q_dq (ninS ne_q_es nin0))).other W457 (Or.inr (sn95 hw))).other W467 (Or.inr (sn96 hw))).other W471 (Or.inr (sn95 hw))
 obtain ⟨T478, X478, e478, st478⟩ := getF X471 hx hZ hown (host := "") (Or.inl (wd hw 80 rfl)) Via.refl e471 f477 (g := (mkF m 87 #[.val (.ref q)] [(.ref q), (.ref q)])) rfl rfl (hb hby dAL_87)
 have f479 := f470.wr W471
 obtain ⟨T480, h480, X480, e480, W480, st480⟩ := putF X478 hx hZ hown (host := "") (Or.inl (wd hw 80 rfl)) Via.refl e478 f477 f479 (Or.inl (wd hw 81 rfl)) (wd hw 27 rfl) (ty := .int) (by decide) rfl rfl (g := (mkF m 92 #[.val (.ref q)] [(.int (1 : Int32)), (.ref q)])) rfl rfl (hb hby dAL_92)
 have Fw480 := f477.same W480
 have K480 : Keep h0 h480 [q, dq, es] := K471.wr W480 (Or.inl (List.mem_of_getElem? (i := 0) rfl))
 have N480 := Fr.snoc X480 N471 g_q
 have f481 := f479.wr W480
 have f483 := (Fw467.other W471 (Or.inr (sn91 hw))).other W480 (Or.inr (sn97 hw))
 have f486 := ((f464.other W467 (Or.inr (sn98 hw))).other W471 (Or.inr (sn92 hw))).other W480 (Or.inr (sn99 hw))
 have f493 := ((((((F_q_head.keep Kc432 nin0).other W435 (Or.inr (sn100 hw))).keep Kc440 (ninS ne_q_dq (ninS ne_q_es nin0))).other W457 (Or.inr (sn101 hw))).other W467 (Or.inr (sn102 hw))).other W471 (Or.inr (sn101 hw))).other W480 (Or.inr (sn103 hw))
 have f494 := Fw471.other W480 (Or.inr (sn104 hw))
 have f499 := ((((f451.keep Kc440).wr W457).wr W467).wr W471).wr W480
 have f505 := (((((Fbc432.other W435 (Or.inl (Nat.ne_of_gt lt_q_b))).keep Kc440 (ninS (Nat.ne_of_gt lt_dq_b) (ninG lt_es_b))).other W457 (Or.inl (Nat.ne_of_gt lt_q_b))).other W467 (Or.inl (Nat.ne_of_gt lt_q_b))).other W471 (Or.inl (Nat.ne_of_gt lt_q_b))).other W480 (Or.inl (Nat.ne_of_gt lt_q_b))
 have f511 := (((((Fbi432.other W435 (Or.inl (Nat.ne_of_gt lt_q_b))).keep Kc440 (ninS (Nat.ne_of_gt lt_dq_b) (ninG lt_es_b))).other W457 (Or.inl (Nat.ne_of_gt lt_q_b))).other W467 (Or.inl (Nat.ne_of_gt lt_q_b))).other W471 (Or.inl (Nat.ne_of_gt lt_q_b))).other W480 (Or.inl (Nat.ne_of_gt lt_q_b))
 have f517 := (((((Fbd432.other W435 (Or.inl (Nat.ne_of_gt lt_q_b))).keep Kc440 (ninS (Nat.ne_of_gt lt_dq_b) (ninG lt_es_b))).other W457 (Or.inl (Nat.ne_of_gt lt_q_b))).other W467 (Or.inl (Nat.ne_of_gt lt_q_b))).other W471 (Or.inl (Nat.ne_of_gt lt_q_b))).other W480 (Or.inl (Nat.ne_of_gt lt_q_b))
 have f523 := (((((Vbi432.other W435 (Nat.ne_of_gt lt_q_bi)).keep Kc440 (ninS (Nat.ne_of_gt lt_dq_bi) (ninG lt_es_bi))).other W457 (Nat.ne_of_gt lt_q_bi)).other W467 (Nat.ne_of_gt lt_q_bi)).other W471 (Nat.ne_of_gt lt_q_bi)).other W480 (Nat.ne_of_gt lt_q_bi)
 have f529 := (((((Vbd432.other W435 (Nat.ne_of_gt lt_q_bd)).keep Kc440 (ninS (Nat.ne_of_gt lt_dq_bd) (ninG lt_es_bd))).other W457 (Nat.ne_of_gt lt_q_bd)).other W467 (Nat.ne_of_gt lt_q_bd)).other W471 (Nat.ne_of_gt lt_q_bd)).other W480 (Nat.ne_of_gt lt_q_bd)
 have f535 := (((((Vi0432.other W435 (Nat.ne_of_gt lt_q_i0)).keep Kc440 (ninS (Nat.ne_of_gt lt_dq_i0) (ninG lt_es_i0))).other W457 (Nat.ne_of_gt lt_q_i0)).other W467 (Nat.ne_of_gt lt_q_i0)).other W471 (Nat.ne_of_gt lt_q_i0)).other W480 (Nat.ne_of_gt lt_q_i0)
 have f541 := (((((Vd0432.other W435 (Nat.ne_of_gt lt_q_d0)).keep Kc440 (ninS (Nat.ne_of_gt lt_dq_d0) (ninG lt_es_d0))).other W457 (Nat.ne_of_gt lt_q_d0)).other W467 (Nat.ne_of_gt lt_q_d0)).other W471 (Nat.ne_of_gt lt_q_d0)).other W480 (Nat.ne_of_gt lt_q_d0)
 have f547 := (((((Vd1432.other W435 (Nat.ne_of_gt lt_q_d1)).keep Kc440 (ninS (Nat.ne_of_gt lt_dq_d1) (ninG lt_es_d1))).other W457 (Nat.ne_of_gt lt_q_d1)).other W467 (Nat.ne_of_gt lt_q_d1)).other W471 (Nat.ne_of_gt lt_q_d1)).other W480 (Nat.ne_of_gt lt_q_d1)
 obtain ⟨fs, hr, hrun, hended, hW, hsame⟩ := X480.leave (v := none) (fun _ => rfl)
 refine ⟨_, _, ?_, hrun, hended, _, _, rfl, ?_, ⟨_, rfl⟩, hW, hsame.mono (by decide) (by decide)⟩
 ·refine pre0 _ ?_
  show Steps _ _ _ (s₁.setTop (mkF m 0 #[.val (.ref q)] [])) _
  refine XS.aloadN X0.here hx rfl (hb hby dAL_0) rfl rfl ?_
  refine st428 _ ?_
  refine XS.ifnullYes X428.here hx rfl (pc0 := 4) (pc' := 21) rfl (hb hby dAL_4) rfl (by decide) (by decide) ?_
  refine XS.aloadN X428.here hx rfl (hb hby dAL_21) rfl rfl ?_
  show Steps _ _ _ (T428.setTop (mkF m 22 #[.val (.ref q)] [(.ref q)])) _
  refine XS.aloadN X428.here hx rfl (hb hby dAL_22) rfl rfl ?_
  refine XS.sipush X428.here hx rfl (hb hby dAL_23) ?_
  refine XS.bipush X428.here hx rfl (hb hby dAL_26) ?_
  refine XS.aloadN X428.here hx rfl (hb hby dAL_28) rfl rfl ?_
  refine st429 _ ?_
  refine st430 _ ?_
  show Steps _ _ _ (T430.setTop (mkF m 35 #[.val (.ref q)] [(.int (16 : Int32)), (.int (4096 : Int32)), (.ref q), (.ref q)])) _
  refine st431 _ ?_
  show Steps _ _ _ (T431.setTop (mkF m 38 #[.val (.ref q)] [(.int (16 : Int32)), (.ref q), (.ref q)])) _
  refine st432.trans ?_
  show Steps _ _ _ (T432.setTop (mkF m 41 #[.val (.ref q)] [(.ref b), (.ref q)])) _
  refine st435 _ ?_
  refine XS.aloadN X435.here hx rfl (hb hby dAL_44) rfl rfl ?_
  refine st438 _ ?_
  refine XS.aloadN X438.here hx rfl (hb hby dAL_48) rfl rfl ?_
  refine st439 _ ?_
  refine st440.trans ?_
  show Steps _ _ _ (T440.setTop (mkF m 55 #[.val (.ref q)] [])) _
  refine XS.aloadN X440.here hx rfl (hb hby dAL_55) rfl rfl ?_
  refine XS.iconst X440.here hx rfl (hb hby dAL_56) ?_
  refine st457 _ ?_
  refine XS.aloadN X457.here hx rfl (hb hby dAL_60) rfl rfl ?_
  refine st462 _ ?_
  show Steps _ _ _ (T462.setTop (mkF m 64 #[.val (.ref q)] [.null])) _
  refine XS.ifnonnullNo X462.here hx rfl (hb hby dAL_64) rfl ?_
  refine XS.aloadN X462.here hx rfl (hb hby dAL_67) rfl rfl ?_
  refine XS.aloadN X462.here hx rfl (hb hby dAL_68) rfl rfl ?_
  refine st465 _ ?_
  refine st467 _ ?_
  show Steps _ _ _ (T467.setTop (mkF m 75 #[.val (.ref q)] [])) _
  refine XS.aloadN X467.here hx rfl (hb hby dAL_75) rfl rfl ?_
  refine XS.dup X467.here hx rfl (hb hby dAL_76) rfl rfl ?_
  refine st469 _ ?_
  refine XS.iconst X469.here hx rfl (hb hby dAL_80) ?_
  show Steps _ _ _ (T469.setTop (mkF m 81 #[.val (.ref q)] [(.int (1 : Int32)), (.int (0 : Int32)), (.ref q)])) _
  refine XS.iadd X469.here hx rfl (hb hby dAL_81) rfl ?_
  refine st471 _ ?_
  refine XS.aloadN X471.here hx rfl (hb hby dAL_85) rfl rfl ?_
  refine XS.dup X471.here hx rfl (hb hby dAL_86) rfl rfl ?_
  refine st478 _ ?_
  show Steps _ _ _ (T478.setTop (mkF m 90 #[.val (.ref q)] [(.int (0 : Int32)), (.ref q)])) _
  refine XS.iconst X478.here hx rfl (hb hby dAL_90) ?_
  refine XS.iadd X478.here hx rfl (hb hby dAL_91) rfl ?_
  refine st480 _ ?_
  show Steps _ _ _ (T480.setTop (mkF m 95 #[.val (.ref q)] [])) _
  exact X480.returnOut hx Bd.returns (hb hby dAL_95) hr
 ·show QAL0 Z q dq es kes h0 n0 _ T480.heap _
  rw [e480]
  exact ⟨rfl, N480, K480, b, bi, i0, bd, d0, d1, kbi, ki, kbd, kd, f481, f483, f486, f493, f494, Fw480, f499, f505, f511, f517, f523, f529, f535, f541, f547, sz_b, lt_b_bi, lt_bi_i0, lt_i0_bd, lt_bd_d0, lt_d0_d1⟩
theorem dAL_7 : decode prog_65_method_4_code 7 = .ok (.aload_n 0, 1) := by decide +kernel
theorem dAL_8 : decode prog_65_method_4_code 8 = .ok (.getfield 30, 3) := by decide +kernel
theorem dAL_11 : decode prog_65_method_4_code 11 = .ok (.aload_n 0, 1) := by decide +kernel
theorem dAL_12 : decode prog_65_method_4_code 12 = .ok (.getfield 26, 3) := by decide +kernel
theorem dAL_15 : decode prog_65_method_4_code 15 = .ok (.getfield 33, 3) := by decide +kernel
theorem dAL_18 : decode prog_65_method_4_code 18 = .ok (.if_icmp .ne 57, 3) := by decide +kernel
theorem ef_AL1 (m : MethodId) (x0 : Addr) : entryFrame m #[(.ref x0)] 1 = mkF m 0 #[.val (.ref x0)] [] := by first | (simp [entryFrame, mkF, argsToLocals, Value.category]; done) | rfl
def QAL1 (Z : State) (q : Addr) (b : Addr) (h0 : Heap) (n0 : Nat) (v : Option Value) (h : Heap) (L : List Loc) : Prop := v = none ∧ Fr n0 L ∧ Keep h0 h [q] ∧ Exa Z h q sRQ ∧ Fld Z h q sRQ "first" dBK (.ref b) ∧ Fld Z h q sRQ "last" dBK (.ref b) ∧ Fld Z h q sRQ "head" "I" (.int (0 : Int32)) ∧ Fld Z h q sRQ "end" "I" (.int (2 : Int32)) ∧ Fld Z h q sRQ "size" "I" (.int (2 : Int32))
set_option maxRecDepth 65536 in
set_option maxHeartbeats 40000000 in
theorem rmAL1 (l : Launch) (Z : State) (a0 : Array Value) (hw : HW Z a0) (ws : List Jvm.Cond) (q : Addr) (b : Addr) (h0 : Heap) (n0 : Nat) (Z0 : n0 ≤ h0.size) (E_q : Exa Z h0 q sRQ) (F_q_first : Fld Z h0 q sRQ "first" dBK (.ref b)) (F_q_last : Fld Z h0 q sRQ "last" dBK (.ref b)) (F_q_head : Fld Z h0 q sRQ "head" "I" (.int (0 : Int32))) (F_q_end : Fld Z h0 q sRQ "end" "I" (.int (1 : Int32))) (F_q_size : Fld Z h0 q sRQ "size" "I" (.int (1 : Int32))) (F_b_capacity : Fld Z h0 b sBK "capacity" "I" (.int (16 : Int32))) (ne_q_b : q ≠ b) (g_q : n0 ≤ q) :
  MetFree l (⟨sRQ, "addLast", "()V"⟩ : MethodName) (head1 (Jvm.Cond.code (⟨sRQ, "addLast", "()V"⟩ : MethodName) prog_65_method_4_code 1 none :: ws) (Rm 0 0 0 0)) (fun a U => a = #[(.ref q)] ∧ Z.Warmed39 U.vm ∧ U.heap = h0) (fun _ _ _ _ _ => True) (fun _ U o U' => ∃ v L, o = .returned v ∧ QAL1 Z q b h0 n0 v U'.heap L ∧ FrameEnd U o U' L (Rm 0 0 0 0).cells (Rm 0 0 0 0).slots) := by
 refine MetFree.of_bodySF (plainFor_of_name pn_com_example_frugal_weir_frugalweir_replay_RecordQueue) hisR ?_
 intro p e s m args below meth c s₁ Bd hml0 hP hK
 obtain ⟨rfl, hZ, hh⟩ := hP
 have hx := Bd.exec
 have hby := Bd.bytes
 have hml : c.maxLocals = 1 := hml0
 have hown : s.vm.findClass sRQ = some m.cls := findClass_of_methodNamed Bd.named
 have hnm := (name_of_methodNamed Bd.named Bd.method).1
 have X0 : Stand p l e (Rm 0 0 0 0) s m #[(.ref q)] below meth c s₁ [] 0 0 := Stand.of_body Bd
 have e0 : s₁.heap = h0 := by rw [← hh, Bd.state]; rfl
 have N0 := Fr.nil n0
 have K0 := Keep.refl h0 [q]
 have pre0 : ∀ t, Steps p.tables e below (s₁.setTop (mkF m 0 #[.val (.ref q)] [])) t → Steps p.tables e below (s₁.setTop (entryFrame m #[(.ref q)] 1)) t := fun t k => castTop (ef_AL1 m q) k
 obtain ⟨T548, X548, e548, st548⟩ := getF X0 hx hZ hown (host := "") (Or.inl (wd hw 78 rfl)) Via.refl e0 F_q_last (g := (mkF m 1 #[.val (.ref q)] [(.ref q)])) rfl rfl (hb hby dAL_1)
 obtain ⟨T549, X549, e549, st549⟩ := getF X548 hx hZ hown (host := "") (Or.inl (wd hw 123 rfl)) Via.refl e548 F_q_end (g := (mkF m 8 #[.val (.ref q)] [(.ref q)])) rfl rfl (hb hby dAL_8)
 obtain ⟨T550, X550, e550, st550⟩ := getF X549 hx hZ hown (host := "") (Or.inl (wd hw 78 rfl)) Via.refl e549 F_q_last (g := (mkF m 12 #[.val (.ref q)] [(.ref q), (.int (1 : Int32))])) rfl rfl (hb hby dAL_12)
 obtain ⟨T551, X551, e551, st551⟩ := own_getFR X550 hx hZ hown (wd hw 139 rfl) e550 F_b_capacity (g := (mkF m 15 #[.val (.ref q)] [(.ref b), (.int (1 : Int32))])) rfl rfl (hb hby dAL_15)
 obtain ⟨T552, X552, e552, st552⟩ := getF X551 hx hZ hown (host := "") (Or.inl (wd hw 123 rfl)) Via.refl e551 F_q_end (g := (mkF m 77 #[.val (.ref q)] [(.ref q), (.ref q)])) rfl rfl (hb hby dAL_77)
 obtain ⟨T553, h553, X553, e553, W553, st553⟩ := putF X552 hx hZ hown (host := "") (Or.inl (wd hw 123 rfl)) Via.refl e552 F_q_end E_q (Or.inl (wd hw 124 rfl)) (wd hw 27 rfl) (ty := .int) (by decide) rfl rfl (g := (mkF m 82 #[.val (.ref q)] [(.int (2 : Int32)), (.ref q)])) rfl rfl (hb hby dAL_82)
 have Fw553 := F_q_end.same W553
 have K553 : Keep h0 h553 [q] := K0.wr W553 (Or.inl (List.mem_of_getElem? (i := 0) rfl))
 have N553 := Fr.snoc X553 N0 g_q
 have f554 := F_q_size.other W553 (Or.inr (sn95 hw))
 obtain ⟨T555, X555, e555, st555⟩ := getF X553 hx hZ hown (host := "") (Or.inl (wd hw 80 rfl)) Via.refl e553 f554 (g := (mkF m 87 #[.val (.ref q)] [(.ref q), (.ref q)])) rfl rfl (hb hby dAL_87)
 have f556 := E_q.wr W553
 obtain ⟨T557, h557, X557, e557, W557, st557⟩ := putF X555 hx hZ hown (host := "") (Or.inl (wd hw 80 rfl)) Via.refl e555 f554 f556 (Or.inl (wd hw 81 rfl)) (wd hw 27 rfl) (ty := .int) (by decide) rfl rfl (g := (mkF m 92 #[.val (.ref q)] [(.int (2 : Int32)), (.ref q)])) rfl rfl (hb hby dAL_92)
 have Fw557 := f554.same W557
 have K557 : Keep h0 h557 [q] := K553.wr W557 (Or.inl (List.mem_of_getElem? (i := 0) rfl))
 have N557 := Fr.snoc X557 N553 g_q
 have f558 := f556.wr W557
 have f560 := (F_q_first.other W553 (Or.inr (sn91 hw))).other W557 (Or.inr (sn97 hw))
 have f562 := (F_q_last.other W553 (Or.inr (sn92 hw))).other W557 (Or.inr (sn99 hw))
 have f564 := (F_q_head.other W553 (Or.inr (sn101 hw))).other W557 (Or.inr (sn103 hw))
 have f565 := Fw553.other W557 (Or.inr (sn104 hw))
 obtain ⟨fs, hr, hrun, hended, hW, hsame⟩ := X557.leave (v := none) (fun _ => rfl)
 refine ⟨_, _, ?_, hrun, hended, _, _, rfl, ?_, ⟨_, rfl⟩, hW, hsame.mono (by decide) (by decide)⟩
 ·refine pre0 _ ?_
  show Steps _ _ _ (s₁.setTop (mkF m 0 #[.val (.ref q)] [])) _
  refine XS.aloadN X0.here hx rfl (hb hby dAL_0) rfl rfl ?_
  refine st548 _ ?_
  refine XS.ifnullNo X548.here hx rfl (hb hby dAL_4) rfl ?_
  refine XS.aloadN X548.here hx rfl (hb hby dAL_7) rfl rfl ?_
  refine st549 _ ?_
  show Steps _ _ _ (T549.setTop (mkF m 11 #[.val (.ref q)] [(.int (1 : Int32))])) _
  refine XS.aloadN X549.here hx rfl (hb hby dAL_11) rfl rfl ?_
  refine st550 _ ?_
  refine st551 _ ?_
  refine XS.icmpYes X551.here hx rfl (pc0 := 18) (pc' := 75) rfl (hb hby dAL_18) rfl (by decide) (by decide) (by decide) ?_
  show Steps _ _ _ (T551.setTop (mkF m 75 #[.val (.ref q)] [])) _
  refine XS.aloadN X551.here hx rfl (hb hby dAL_75) rfl rfl ?_
  refine XS.dup X551.here hx rfl (hb hby dAL_76) rfl rfl ?_
  refine st552 _ ?_
  refine XS.iconst X552.here hx rfl (hb hby dAL_80) ?_
  show Steps _ _ _ (T552.setTop (mkF m 81 #[.val (.ref q)] [(.int (1 : Int32)), (.int (1 : Int32)), (.ref q)])) _
  refine XS.iadd X552.here hx rfl (hb hby dAL_81) rfl ?_
  refine st553 _ ?_
  refine XS.aloadN X553.here hx rfl (hb hby dAL_85) rfl rfl ?_
  refine XS.dup X553.here hx rfl (hb hby dAL_86) rfl rfl ?_
  refine st555 _ ?_
  show Steps _ _ _ (T555.setTop (mkF m 90 #[.val (.ref q)] [(.int (1 : Int32)), (.ref q)])) _
  refine XS.iconst X555.here hx rfl (hb hby dAL_90) ?_
  refine XS.iadd X555.here hx rfl (hb hby dAL_91) rfl ?_
  refine st557 _ ?_
  show Steps _ _ _ (T557.setTop (mkF m 95 #[.val (.ref q)] [])) _
  exact X557.returnOut hx Bd.returns (hb hby dAL_95) hr
 ·show QAL1 Z q b h0 n0 _ T557.heap _
  rw [e557]
  exact ⟨rfl, N557, K557, f558, f560, f562, f564, f565, Fw557⟩
theorem dSI_0 : decode prog_65_method_5_code 0 = .ok (.aload_n 0, 1) := by decide +kernel
theorem dSI_1 : decode prog_65_method_5_code 1 = .ok (.getfield 26, 3) := by decide +kernel
theorem dSI_4 : decode prog_65_method_5_code 4 = .ok (.getfield 58, 3) := by decide +kernel
theorem dSI_7 : decode prog_65_method_5_code 7 = .ok (.iload_n 1, 1) := by decide +kernel
theorem dSI_8 : decode prog_65_method_5_code 8 = .ok (.aaload, 1) := by decide +kernel
theorem dSI_9 : decode prog_65_method_5_code 9 = .ok (.aload_n 0, 1) := by decide +kernel
theorem dSI_10 : decode prog_65_method_5_code 10 = .ok (.getfield 30, 3) := by decide +kernel
theorem dSI_13 : decode prog_65_method_5_code 13 = .ok (.iconst 1, 1) := by decide +kernel
theorem dSI_14 : decode prog_65_method_5_code 14 = .ok (.isub, 1) := by decide +kernel
theorem dSI_15 : decode prog_65_method_5_code 15 = .ok (.iload_n 2, 1) := by decide +kernel
theorem dSI_16 : decode prog_65_method_5_code 16 = .ok (.iastore, 1) := by decide +kernel
theorem dSI_17 : decode prog_65_method_5_code 17 = .ok (.return_, 1) := by decide +kernel
theorem ef_SI1 (m : MethodId) (x0 : Addr) (x2 : Int32) : entryFrame m #[(.ref x0), (.int (0 : Int32)), (.int x2)] 3 = mkF m 0 #[.val (.ref x0), .val (.int (0 : Int32)), .val (.int x2)] [] := by first | (simp [entryFrame, mkF, argsToLocals, Value.category]; done) | rfl
def QSI1 (Z : State) (q : Addr) (xv : Int32) (b : Addr) (bi : Addr) (i0 : Addr) (kbi : ClassId) (ki : ClassId) (x0 : Int32) (x1 : Int32) (h0 : Heap) (n0 : Nat) (v : Option Value) (h : Heap) (L : List Loc) : Prop := v = none ∧ Fr n0 L ∧ Keep h0 h [i0] ∧ Arv Z h i0 ki .int (16 : Int32) [(.int xv), (.int x1)] (.int (0 : Int32))
set_option maxRecDepth 65536 in
set_option maxHeartbeats 40000000 in
theorem rmSI1 (l : Launch) (Z : State) (a0 : Array Value) (hw : HW Z a0) (ws : List Jvm.Cond) (q : Addr) (xv : Int32) (b : Addr) (bi : Addr) (i0 : Addr) (kbi : ClassId) (ki : ClassId) (x0 : Int32) (x1 : Int32) (h0 : Heap) (n0 : Nat) (Z0 : n0 ≤ h0.size) (F_q_last : Fld Z h0 q sRQ "last" dBK (.ref b)) (F_q_end : Fld Z h0 q sRQ "end" "I" (.int (1 : Int32))) (F_b_ints : Fld Z h0 b sBK "ints" "[[I" (.ref bi)) (V_bi : Arv Z h0 bi kbi (.array .int) (1 : Int32) [(.ref i0)] .null) (V_i0 : Arv Z h0 i0 ki .int (16 : Int32) [(.int x0), (.int x1)] (.int (0 : Int32))) (g_i0 : n0 ≤ i0) :
  MetFree l (⟨sRQ, "setLastInt", "(II)V"⟩ : MethodName) (head1 (Jvm.Cond.code (⟨sRQ, "setLastInt", "(II)V"⟩ : MethodName) prog_65_method_5_code 3 none :: ws) (Rm 0 0 0 0)) (fun a U => a = #[(.ref q), (.int (0 : Int32)), (.int xv)] ∧ Z.Warmed39 U.vm ∧ U.heap = h0) (fun _ _ _ _ _ => True) (fun _ U o U' => ∃ v L, o = .returned v ∧ QSI1 Z q xv b bi i0 kbi ki x0 x1 h0 n0 v U'.heap L ∧ FrameEnd U o U' L (Rm 0 0 0 0).cells (Rm 0 0 0 0).slots) := by
 refine MetFree.of_bodySF (plainFor_of_name pn_com_example_frugal_weir_frugalweir_replay_RecordQueue) hisR ?_
 intro p e s m args below meth c s₁ Bd hml0 hP hK
 obtain ⟨rfl, hZ, hh⟩ := hP
 have hx := Bd.exec
 have hby := Bd.bytes
 have hml : c.maxLocals = 3 := hml0
 have hown : s.vm.findClass sRQ = some m.cls := findClass_of_methodNamed Bd.named
 have hnm := (name_of_methodNamed Bd.named Bd.method).1
 have X0 : Stand p l e (Rm 0 0 0 0) s m #[(.ref q), (.int (0 : Int32)), (.int xv)] below meth c s₁ [] 0 0 := Stand.of_body Bd
 have e0 : s₁.heap = h0 := by rw [← hh, Bd.state]; rfl
 have N0 := Fr.nil n0
 have K0 := Keep.refl h0 [i0]
 have pre0 : ∀ t, Steps p.tables e below (s₁.setTop (mkF m 0 #[.val (.ref q), .val (.int (0 : Int32)), .val (.int xv)] [])) t → Steps p.tables e below (s₁.setTop (entryFrame m #[(.ref q), (.int (0 : Int32)), (.int xv)] 3)) t := fun t k => castTop (ef_SI1 m q xv) k
 obtain ⟨T566, X566, e566, st566⟩ := getF X0 hx hZ hown (host := "") (Or.inl (wd hw 78 rfl)) Via.refl e0 F_q_last (g := (mkF m 1 #[.val (.ref q), .val (.int (0 : Int32)), .val (.int xv)] [(.ref q)])) rfl rfl (hb hby dSI_1)
 obtain ⟨T567, X567, e567, st567⟩ := own_getFR X566 hx hZ hown (wd hw 132 rfl) e566 F_b_ints (g := (mkF m 4 #[.val (.ref q), .val (.int (0 : Int32)), .val (.int xv)] [(.ref b)])) rfl rfl (hb hby dSI_4)
 obtain ⟨cl568, Ar568, q568, S568, N568, H568, G568⟩ := id V_bi
 have hin568 : ¬ ((0 : Int32) < 0 ∨ cl568.slots.size ≤ ((0 : Int32)).toNatClampNeg) := (inb_of S568 ⟨by decide, by decide⟩)
 have hat568 : cl568.slots[((0 : Int32)).toNatClampNeg]? = some (.ref i0) := (H568.at (inb_of S568 ⟨by decide, by decide⟩) rfl)
 obtain ⟨T569, X569, e569, st569⟩ := getF X567 hx hZ hown (host := "") (Or.inl (wd hw 123 rfl)) Via.refl e567 F_q_end (g := (mkF m 10 #[.val (.ref q), .val (.int (0 : Int32)), .val (.int xv)] [(.ref q), (.ref i0)])) rfl rfl (hb hby dSI_10)
 obtain ⟨cl570, Ar570, q570, S570, N570, H570, G570⟩ := id V_i0
 have hin570 : ¬ ((0 : Int32) < 0 ∨ cl570.slots.size ≤ ((0 : Int32)).toNatClampNeg) := (inb_of S570 ⟨by decide, by decide⟩)
 obtain ⟨T571, h571, X571, e571, W571, st571⟩ := stI X569 hx hZ e569 Ar570 (j := (0 : Int32)) hin570 (g := (mkF m 16 #[.val (.ref q), .val (.int (0 : Int32)), .val (.int xv)] [(.int xv), (.int (0 : Int32)), (.ref i0)])) rfl rfl (hb hby dSI_16)
 have V571 : Arv Z h571 i0 ki .int (16 : Int32) [(.int xv), (.int x1)] (.int (0 : Int32)) := Arv.set Ar570 q570 S570 N570 H570 G570 rfl W571 0 rfl (Nat.le_of_ble_eq_true rfl)
 have K571 : Keep h0 h571 [i0] := K0.wr W571 (Or.inl (List.mem_of_getElem? (i := 0) rfl))
 have N571F := Fr.snoc X571 N0 g_i0
 obtain ⟨fs, hr, hrun, hended, hW, hsame⟩ := X571.leave (v := none) (fun _ => rfl)
 refine ⟨_, _, ?_, hrun, hended, _, _, rfl, ?_, ⟨_, rfl⟩, hW, hsame.mono (by decide) (by decide)⟩
 ·refine pre0 _ ?_
  show Steps _ _ _ (s₁.setTop (mkF m 0 #[.val (.ref q), .val (.int (0 : Int32)), .val (.int xv)] [])) _
  refine XS.aloadN X0.here hx rfl (hb hby dSI_0) rfl rfl ?_
  refine st566 _ ?_
  refine st567 _ ?_
  refine XS.iloadN X567.here hx rfl (hb hby dSI_7) rfl ?_
  show Steps _ _ _ (T567.setTop (mkF m 8 #[.val (.ref q), .val (.int (0 : Int32)), .val (.int xv)] [(.int (0 : Int32)), (.ref bi)])) _
  refine X567.aaload hx (j := (0 : Int32)) (v := (.ref i0)) (by rw [e567]; exact Ar568.1) (State.isArrayOf_alike hZ.alike Ar568.2.1) rfl Ar568.2.2 hin568 hat568 (g := (mkF m 8 #[.val (.ref q), .val (.int (0 : Int32)), .val (.int xv)] [(.int (0 : Int32)), (.ref bi)])) rfl rfl (hb hby dSI_8) _ ?_
  refine XS.aloadN X567.here hx rfl (hb hby dSI_9) rfl rfl ?_
  refine st569 _ ?_
  refine XS.iconst X569.here hx rfl (hb hby dSI_13) ?_
  show Steps _ _ _ (T569.setTop (mkF m 14 #[.val (.ref q), .val (.int (0 : Int32)), .val (.int xv)] [(.int (1 : Int32)), (.int (1 : Int32)), (.ref i0)])) _
  refine XS.isub X569.here hx rfl (hb hby dSI_14) rfl ?_
  refine XS.iloadN X569.here hx rfl (hb hby dSI_15) rfl ?_
  show Steps _ _ _ (T569.setTop (mkF m 16 #[.val (.ref q), .val (.int (0 : Int32)), .val (.int xv)] [(.int xv), (.int (0 : Int32)), (.ref i0)])) _
  refine st571 _ ?_
  show Steps _ _ _ (T571.setTop (mkF m 17 #[.val (.ref q), .val (.int (0 : Int32)), .val (.int xv)] [])) _
  exact X571.returnOut hx Bd.returns (hb hby dSI_17) hr
 ·show QSI1 Z q xv b bi i0 kbi ki x0 x1 h0 n0 _ T571.heap _
  rw [e571]
  exact ⟨rfl, N571F, K571, V571⟩
theorem dSD_0 : decode prog_65_method_6_code 0 = .ok (.aload_n 0, 1) := by decide +kernel
theorem dSD_1 : decode prog_65_method_6_code 1 = .ok (.getfield 26, 3) := by decide +kernel
theorem dSD_4 : decode prog_65_method_6_code 4 = .ok (.getfield 62, 3) := by decide +kernel
theorem dSD_7 : decode prog_65_method_6_code 7 = .ok (.iload_n 1, 1) := by decide +kernel
theorem dSD_8 : decode prog_65_method_6_code 8 = .ok (.aaload, 1) := by decide +kernel
theorem dSD_9 : decode prog_65_method_6_code 9 = .ok (.aload_n 0, 1) := by decide +kernel
theorem dSD_10 : decode prog_65_method_6_code 10 = .ok (.getfield 30, 3) := by decide +kernel
theorem dSD_13 : decode prog_65_method_6_code 13 = .ok (.iconst 1, 1) := by decide +kernel
theorem dSD_14 : decode prog_65_method_6_code 14 = .ok (.isub, 1) := by decide +kernel
theorem dSD_15 : decode prog_65_method_6_code 15 = .ok (.dload_n 2, 1) := by decide +kernel
theorem dSD_16 : decode prog_65_method_6_code 16 = .ok (.dastore, 1) := by decide +kernel
theorem dSD_17 : decode prog_65_method_6_code 17 = .ok (.return_, 1) := by decide +kernel
theorem ef_SD01 (m : MethodId) (x0 : Addr) (x2 : UInt64) : entryFrame m #[(.ref x0), (.int (0 : Int32)), (.double x2)] 4 = mkF m 0 #[.val (.ref x0), .val (.int (0 : Int32)), .val (.double x2), .second] [] := by first | (simp [entryFrame, mkF, argsToLocals, Value.category]; done) | rfl
def QSD01 (Z : State) (q : Addr) (xv : Int64) (b : Addr) (bd : Addr) (d0 : Addr) (d1 : Addr) (kbd : ClassId) (kd : ClassId) (x0 : Int64) (x1 : Int64) (h0 : Heap) (n0 : Nat) (v : Option Value) (h : Heap) (L : List Loc) : Prop := v = none ∧ Fr n0 L ∧ Keep h0 h [d0] ∧ Arv Z h d0 kd .double (16 : Int32) [(.double (FP.l2d xv)), (.double (FP.l2d x1))] (.double (FP.l2d 0))
set_option maxRecDepth 65536 in
set_option maxHeartbeats 40000000 in
theorem rmSD01 (l : Launch) (Z : State) (a0 : Array Value) (hw : HW Z a0) (ws : List Jvm.Cond) (q : Addr) (xv : Int64) (b : Addr) (bd : Addr) (d0 : Addr) (d1 : Addr) (kbd : ClassId) (kd : ClassId) (x0 : Int64) (x1 : Int64) (h0 : Heap) (n0 : Nat) (Z0 : n0 ≤ h0.size) (F_q_last : Fld Z h0 q sRQ "last" dBK (.ref b)) (F_q_end : Fld Z h0 q sRQ "end" "I" (.int (1 : Int32))) (F_b_doubles : Fld Z h0 b sBK "doubles" "[[D" (.ref bd)) (V_bd : Arv Z h0 bd kbd (.array .double) (2 : Int32) [(.ref d0), (.ref d1)] .null) (V_d0 : Arv Z h0 d0 kd .double (16 : Int32) [(.double (FP.l2d x0)), (.double (FP.l2d x1))] (.double (FP.l2d 0))) (g_d0 : n0 ≤ d0) :
  MetFree l (⟨sRQ, "setLastDouble", "(ID)V"⟩ : MethodName) (head1 (Jvm.Cond.code (⟨sRQ, "setLastDouble", "(ID)V"⟩ : MethodName) prog_65_method_6_code 4 none :: ws) (Rm 0 0 0 0)) (fun a U => a = #[(.ref q), (.int (0 : Int32)), (.double (FP.l2d xv))] ∧ Z.Warmed39 U.vm ∧ U.heap = h0) (fun _ _ _ _ _ => True) (fun _ U o U' => ∃ v L, o = .returned v ∧ QSD01 Z q xv b bd d0 d1 kbd kd x0 x1 h0 n0 v U'.heap L ∧ FrameEnd U o U' L (Rm 0 0 0 0).cells (Rm 0 0 0 0).slots) := by
 refine MetFree.of_bodySF (plainFor_of_name pn_com_example_frugal_weir_frugalweir_replay_RecordQueue) hisR ?_
 intro p e s m args below meth c s₁ Bd hml0 hP hK
 obtain ⟨rfl, hZ, hh⟩ := hP
 have hx := Bd.exec
 have hby := Bd.bytes
 have hml : c.maxLocals = 4 := hml0
 have hown : s.vm.findClass sRQ = some m.cls := findClass_of_methodNamed Bd.named
 have hnm := (name_of_methodNamed Bd.named Bd.method).1
 have X0 : Stand p l e (Rm 0 0 0 0) s m #[(.ref q), (.int (0 : Int32)), (.double (FP.l2d xv))] below meth c s₁ [] 0 0 := Stand.of_body Bd
 have e0 : s₁.heap = h0 := by rw [← hh, Bd.state]; rfl
 have N0 := Fr.nil n0
 have K0 := Keep.refl h0 [d0]
 have pre0 : ∀ t, Steps p.tables e below (s₁.setTop (mkF m 0 #[.val (.ref q), .val (.int (0 : Int32)), .val (.double (FP.l2d xv)), .second] [])) t → Steps p.tables e below (s₁.setTop (entryFrame m #[(.ref q), (.int (0 : Int32)), (.double (FP.l2d xv))] 4)) t := fun t k => castTop (ef_SD01 m q (FP.l2d xv)) k
 obtain ⟨T572, X572, e572, st572⟩ := getF X0 hx hZ hown (host := "") (Or.inl (wd hw 78 rfl)) Via.refl e0 F_q_last (g := (mkF m 1 #[.val (.ref q), .val (.int (0 : Int32)), .val (.double (FP.l2d xv)), .second] [(.ref q)])) rfl rfl (hb hby dSD_1)
 obtain ⟨T573, X573, e573, st573⟩ := own_getFR X572 hx hZ hown (wd hw 138 rfl) e572 F_b_doubles (g := (mkF m 4 #[.val (.ref q), .val (.int (0 : Int32)), .val (.double (FP.l2d xv)), .second] [(.ref b)])) rfl rfl (hb hby dSD_4)
 obtain ⟨cl574, Ar574, q574, S574, N574, H574, G574⟩ := id V_bd
 have hin574 : ¬ ((0 : Int32) < 0 ∨ cl574.slots.size ≤ ((0 : Int32)).toNatClampNeg) := (inb_of S574 ⟨by decide, by decide⟩)
 have hat574 : cl574.slots[((0 : Int32)).toNatClampNeg]? = some (.ref d0) := (H574.at (inb_of S574 ⟨by decide, by decide⟩) rfl)
 obtain ⟨T575, X575, e575, st575⟩ := getF X573 hx hZ hown (host := "") (Or.inl (wd hw 123 rfl)) Via.refl e573 F_q_end (g := (mkF m 10 #[.val (.ref q), .val (.int (0 : Int32)), .val (.double (FP.l2d xv)), .second] [(.ref q), (.ref d0)])) rfl rfl (hb hby dSD_10)
 obtain ⟨cl576, Ar576, q576, S576, N576, H576, G576⟩ := id V_d0
 have hin576 : ¬ ((0 : Int32) < 0 ∨ cl576.slots.size ≤ ((0 : Int32)).toNatClampNeg) := (inb_of S576 ⟨by decide, by decide⟩)
 obtain ⟨T577, h577, X577, e577, W577, st577⟩ := stD X575 hx hZ e575 Ar576 (j := (0 : Int32)) hin576 (g := (mkF m 16 #[.val (.ref q), .val (.int (0 : Int32)), .val (.double (FP.l2d xv)), .second] [(.double (FP.l2d xv)), (.int (0 : Int32)), (.ref d0)])) rfl rfl (hb hby dSD_16)
 have V577 : Arv Z h577 d0 kd .double (16 : Int32) [(.double (FP.l2d xv)), (.double (FP.l2d x1))] (.double (FP.l2d 0)) := Arv.set Ar576 q576 S576 N576 H576 G576 rfl W577 0 rfl (Nat.le_of_ble_eq_true rfl)
 have K577 : Keep h0 h577 [d0] := K0.wr W577 (Or.inl (List.mem_of_getElem? (i := 0) rfl))
 have N577F := Fr.snoc X577 N0 g_d0
 obtain ⟨fs, hr, hrun, hended, hW, hsame⟩ := X577.leave (v := none) (fun _ => rfl)
 refine ⟨_, _, ?_, hrun, hended, _, _, rfl, ?_, ⟨_, rfl⟩, hW, hsame.mono (by decide) (by decide)⟩
 ·refine pre0 _ ?_
  show Steps _ _ _ (s₁.setTop (mkF m 0 #[.val (.ref q), .val (.int (0 : Int32)), .val (.double (FP.l2d xv)), .second] [])) _
  refine XS.aloadN X0.here hx rfl (hb hby dSD_0) rfl rfl ?_
  refine st572 _ ?_
  refine st573 _ ?_
  refine XS.iloadN X573.here hx rfl (hb hby dSD_7) rfl ?_
  show Steps _ _ _ (T573.setTop (mkF m 8 #[.val (.ref q), .val (.int (0 : Int32)), .val (.double (FP.l2d xv)), .second] [(.int (0 : Int32)), (.ref bd)])) _
  refine X573.aaload hx (j := (0 : Int32)) (v := (.ref d0)) (by rw [e573]; exact Ar574.1) (State.isArrayOf_alike hZ.alike Ar574.2.1) rfl Ar574.2.2 hin574 hat574 (g := (mkF m 8 #[.val (.ref q), .val (.int (0 : Int32)), .val (.double (FP.l2d xv)), .second] [(.int (0 : Int32)), (.ref bd)])) rfl rfl (hb hby dSD_8) _ ?_
  refine XS.aloadN X573.here hx rfl (hb hby dSD_9) rfl rfl ?_
  refine st575 _ ?_
  refine XS.iconst X575.here hx rfl (hb hby dSD_13) ?_
  show Steps _ _ _ (T575.setTop (mkF m 14 #[.val (.ref q), .val (.int (0 : Int32)), .val (.double (FP.l2d xv)), .second] [(.int (1 : Int32)), (.int (1 : Int32)), (.ref d0)])) _
  refine XS.isub X575.here hx rfl (hb hby dSD_14) rfl ?_
  refine XS.dloadN X575.here hx rfl (hb hby dSD_15) rfl ?_
  show Steps _ _ _ (T575.setTop (mkF m 16 #[.val (.ref q), .val (.int (0 : Int32)), .val (.double (FP.l2d xv)), .second] [(.double (FP.l2d xv)), (.int (0 : Int32)), (.ref d0)])) _
  refine st577 _ ?_
  show Steps _ _ _ (T577.setTop (mkF m 17 #[.val (.ref q), .val (.int (0 : Int32)), .val (.double (FP.l2d xv)), .second] [])) _
  exact X577.returnOut hx Bd.returns (hb hby dSD_17) hr
 ·show QSD01 Z q xv b bd d0 d1 kbd kd x0 x1 h0 n0 _ T577.heap _
  rw [e577]
  exact ⟨rfl, N577F, K577, V577⟩
theorem ef_SD11 (m : MethodId) (x0 : Addr) (x2 : UInt64) : entryFrame m #[(.ref x0), (.int (1 : Int32)), (.double x2)] 4 = mkF m 0 #[.val (.ref x0), .val (.int (1 : Int32)), .val (.double x2), .second] [] := by first | (simp [entryFrame, mkF, argsToLocals, Value.category]; done) | rfl
def QSD11 (Z : State) (q : Addr) (xv : Int64) (b : Addr) (bd : Addr) (d0 : Addr) (d1 : Addr) (kbd : ClassId) (kd : ClassId) (x0 : Int64) (x1 : Int64) (h0 : Heap) (n0 : Nat) (v : Option Value) (h : Heap) (L : List Loc) : Prop := v = none ∧ Fr n0 L ∧ Keep h0 h [d1] ∧ Arv Z h d1 kd .double (16 : Int32) [(.double (FP.l2d xv)), (.double (FP.l2d x1))] (.double (FP.l2d 0))
set_option maxRecDepth 65536 in
set_option maxHeartbeats 40000000 in
theorem rmSD11 (l : Launch) (Z : State) (a0 : Array Value) (hw : HW Z a0) (ws : List Jvm.Cond) (q : Addr) (xv : Int64) (b : Addr) (bd : Addr) (d0 : Addr) (d1 : Addr) (kbd : ClassId) (kd : ClassId) (x0 : Int64) (x1 : Int64) (h0 : Heap) (n0 : Nat) (Z0 : n0 ≤ h0.size) (F_q_last : Fld Z h0 q sRQ "last" dBK (.ref b)) (F_q_end : Fld Z h0 q sRQ "end" "I" (.int (1 : Int32))) (F_b_doubles : Fld Z h0 b sBK "doubles" "[[D" (.ref bd)) (V_bd : Arv Z h0 bd kbd (.array .double) (2 : Int32) [(.ref d0), (.ref d1)] .null) (V_d1 : Arv Z h0 d1 kd .double (16 : Int32) [(.double (FP.l2d x0)), (.double (FP.l2d x1))] (.double (FP.l2d 0))) (g_d1 : n0 ≤ d1) :
  MetFree l (⟨sRQ, "setLastDouble", "(ID)V"⟩ : MethodName) (head1 (Jvm.Cond.code (⟨sRQ, "setLastDouble", "(ID)V"⟩ : MethodName) prog_65_method_6_code 4 none :: ws) (Rm 0 0 0 0)) (fun a U => a = #[(.ref q), (.int (1 : Int32)), (.double (FP.l2d xv))] ∧ Z.Warmed39 U.vm ∧ U.heap = h0) (fun _ _ _ _ _ => True) (fun _ U o U' => ∃ v L, o = .returned v ∧ QSD11 Z q xv b bd d0 d1 kbd kd x0 x1 h0 n0 v U'.heap L ∧ FrameEnd U o U' L (Rm 0 0 0 0).cells (Rm 0 0 0 0).slots) := by
 refine MetFree.of_bodySF (plainFor_of_name pn_com_example_frugal_weir_frugalweir_replay_RecordQueue) hisR ?_
 intro p e s m args below meth c s₁ Bd hml0 hP hK
 obtain ⟨rfl, hZ, hh⟩ := hP
 have hx := Bd.exec
 have hby := Bd.bytes
 have hml : c.maxLocals = 4 := hml0
 have hown : s.vm.findClass sRQ = some m.cls := findClass_of_methodNamed Bd.named
 have hnm := (name_of_methodNamed Bd.named Bd.method).1
 have X0 : Stand p l e (Rm 0 0 0 0) s m #[(.ref q), (.int (1 : Int32)), (.double (FP.l2d xv))] below meth c s₁ [] 0 0 := Stand.of_body Bd
 have e0 : s₁.heap = h0 := by rw [← hh, Bd.state]; rfl
 have N0 := Fr.nil n0
 have K0 := Keep.refl h0 [d1]
 have pre0 : ∀ t, Steps p.tables e below (s₁.setTop (mkF m 0 #[.val (.ref q), .val (.int (1 : Int32)), .val (.double (FP.l2d xv)), .second] [])) t → Steps p.tables e below (s₁.setTop (entryFrame m #[(.ref q), (.int (1 : Int32)), (.double (FP.l2d xv))] 4)) t := fun t k => castTop (ef_SD11 m q (FP.l2d xv)) k
 obtain ⟨T578, X578, e578, st578⟩ := getF X0 hx hZ hown (host := "") (Or.inl (wd hw 78 rfl)) Via.refl e0 F_q_last (g := (mkF m 1 #[.val (.ref q), .val (.int (1 : Int32)), .val (.double (FP.l2d xv)), .second] [(.ref q)])) rfl rfl (hb hby dSD_1)
 obtain ⟨T579, X579, e579, st579⟩ := own_getFR X578 hx hZ hown (wd hw 138 rfl) e578 F_b_doubles (g := (mkF m 4 #[.val (.ref q), .val (.int (1 : Int32)), .val (.double (FP.l2d xv)), .second] [(.ref b)])) rfl rfl (hb hby dSD_4)
 obtain ⟨cl580, Ar580, q580, S580, N580, H580, G580⟩ := id V_bd
 have hin580 : ¬ ((1 : Int32) < 0 ∨ cl580.slots.size ≤ ((1 : Int32)).toNatClampNeg) := (inb_of S580 ⟨by decide, by decide⟩)
 have hat580 : cl580.slots[((1 : Int32)).toNatClampNeg]? = some (.ref d1) := (H580.at (inb_of S580 ⟨by decide, by decide⟩) rfl)
 obtain ⟨T581, X581, e581, st581⟩ := getF X579 hx hZ hown (host := "") (Or.inl (wd hw 123 rfl)) Via.refl e579 F_q_end (g := (mkF m 10 #[.val (.ref q), .val (.int (1 : Int32)), .val (.double (FP.l2d xv)), .second] [(.ref q), (.ref d1)])) rfl rfl (hb hby dSD_10)
 obtain ⟨cl582, Ar582, q582, S582, N582, H582, G582⟩ := id V_d1
 have hin582 : ¬ ((0 : Int32) < 0 ∨ cl582.slots.size ≤ ((0 : Int32)).toNatClampNeg) := (inb_of S582 ⟨by decide, by decide⟩)
 obtain ⟨T583, h583, X583, e583, W583, st583⟩ := stD X581 hx hZ e581 Ar582 (j := (0 : Int32)) hin582 (g := (mkF m 16 #[.val (.ref q), .val (.int (1 : Int32)), .val (.double (FP.l2d xv)), .second] [(.double (FP.l2d xv)), (.int (0 : Int32)), (.ref d1)])) rfl rfl (hb hby dSD_16)
 have V583 : Arv Z h583 d1 kd .double (16 : Int32) [(.double (FP.l2d xv)), (.double (FP.l2d x1))] (.double (FP.l2d 0)) := Arv.set Ar582 q582 S582 N582 H582 G582 rfl W583 0 rfl (Nat.le_of_ble_eq_true rfl)
 have K583 : Keep h0 h583 [d1] := K0.wr W583 (Or.inl (List.mem_of_getElem? (i := 0) rfl))
 have N583F := Fr.snoc X583 N0 g_d1
 obtain ⟨fs, hr, hrun, hended, hW, hsame⟩ := X583.leave (v := none) (fun _ => rfl)
 refine ⟨_, _, ?_, hrun, hended, _, _, rfl, ?_, ⟨_, rfl⟩, hW, hsame.mono (by decide) (by decide)⟩
 ·refine pre0 _ ?_
  show Steps _ _ _ (s₁.setTop (mkF m 0 #[.val (.ref q), .val (.int (1 : Int32)), .val (.double (FP.l2d xv)), .second] [])) _
  refine XS.aloadN X0.here hx rfl (hb hby dSD_0) rfl rfl ?_
  refine st578 _ ?_
  refine st579 _ ?_
  refine XS.iloadN X579.here hx rfl (hb hby dSD_7) rfl ?_
  show Steps _ _ _ (T579.setTop (mkF m 8 #[.val (.ref q), .val (.int (1 : Int32)), .val (.double (FP.l2d xv)), .second] [(.int (1 : Int32)), (.ref bd)])) _
  refine X579.aaload hx (j := (1 : Int32)) (v := (.ref d1)) (by rw [e579]; exact Ar580.1) (State.isArrayOf_alike hZ.alike Ar580.2.1) rfl Ar580.2.2 hin580 hat580 (g := (mkF m 8 #[.val (.ref q), .val (.int (1 : Int32)), .val (.double (FP.l2d xv)), .second] [(.int (1 : Int32)), (.ref bd)])) rfl rfl (hb hby dSD_8) _ ?_
  refine XS.aloadN X579.here hx rfl (hb hby dSD_9) rfl rfl ?_
  refine st581 _ ?_
  refine XS.iconst X581.here hx rfl (hb hby dSD_13) ?_
  show Steps _ _ _ (T581.setTop (mkF m 14 #[.val (.ref q), .val (.int (1 : Int32)), .val (.double (FP.l2d xv)), .second] [(.int (1 : Int32)), (.int (1 : Int32)), (.ref d1)])) _
  refine XS.isub X581.here hx rfl (hb hby dSD_14) rfl ?_
  refine XS.dloadN X581.here hx rfl (hb hby dSD_15) rfl ?_
  show Steps _ _ _ (T581.setTop (mkF m 16 #[.val (.ref q), .val (.int (1 : Int32)), .val (.double (FP.l2d xv)), .second] [(.double (FP.l2d xv)), (.int (0 : Int32)), (.ref d1)])) _
  refine st583 _ ?_
  show Steps _ _ _ (T583.setTop (mkF m 17 #[.val (.ref q), .val (.int (1 : Int32)), .val (.double (FP.l2d xv)), .second] [])) _
  exact X583.returnOut hx Bd.returns (hb hby dSD_17) hr
 ·show QSD11 Z q xv b bd d0 d1 kbd kd x0 x1 h0 n0 _ T583.heap _
  rw [e583]
  exact ⟨rfl, N583F, K583, V583⟩
theorem ef_SI2 (m : MethodId) (x0 : Addr) (x2 : Int32) : entryFrame m #[(.ref x0), (.int (0 : Int32)), (.int x2)] 3 = mkF m 0 #[.val (.ref x0), .val (.int (0 : Int32)), .val (.int x2)] [] := by first | (simp [entryFrame, mkF, argsToLocals, Value.category]; done) | rfl
def QSI2 (Z : State) (q : Addr) (xv : Int32) (b : Addr) (bi : Addr) (i0 : Addr) (kbi : ClassId) (ki : ClassId) (x0 : Int32) (x1 : Int32) (h0 : Heap) (n0 : Nat) (v : Option Value) (h : Heap) (L : List Loc) : Prop := v = none ∧ Fr n0 L ∧ Keep h0 h [i0] ∧ Arv Z h i0 ki .int (16 : Int32) [(.int x0), (.int xv)] (.int (0 : Int32))
set_option maxRecDepth 65536 in
set_option maxHeartbeats 40000000 in
theorem rmSI2 (l : Launch) (Z : State) (a0 : Array Value) (hw : HW Z a0) (ws : List Jvm.Cond) (q : Addr) (xv : Int32) (b : Addr) (bi : Addr) (i0 : Addr) (kbi : ClassId) (ki : ClassId) (x0 : Int32) (x1 : Int32) (h0 : Heap) (n0 : Nat) (Z0 : n0 ≤ h0.size) (F_q_last : Fld Z h0 q sRQ "last" dBK (.ref b)) (F_q_end : Fld Z h0 q sRQ "end" "I" (.int (2 : Int32))) (F_b_ints : Fld Z h0 b sBK "ints" "[[I" (.ref bi)) (V_bi : Arv Z h0 bi kbi (.array .int) (1 : Int32) [(.ref i0)] .null) (V_i0 : Arv Z h0 i0 ki .int (16 : Int32) [(.int x0), (.int x1)] (.int (0 : Int32))) (g_i0 : n0 ≤ i0) :
  MetFree l (⟨sRQ, "setLastInt", "(II)V"⟩ : MethodName) (head1 (Jvm.Cond.code (⟨sRQ, "setLastInt", "(II)V"⟩ : MethodName) prog_65_method_5_code 3 none :: ws) (Rm 0 0 0 0)) (fun a U => a = #[(.ref q), (.int (0 : Int32)), (.int xv)] ∧ Z.Warmed39 U.vm ∧ U.heap = h0) (fun _ _ _ _ _ => True) (fun _ U o U' => ∃ v L, o = .returned v ∧ QSI2 Z q xv b bi i0 kbi ki x0 x1 h0 n0 v U'.heap L ∧ FrameEnd U o U' L (Rm 0 0 0 0).cells (Rm 0 0 0 0).slots) := by
 refine MetFree.of_bodySF (plainFor_of_name pn_com_example_frugal_weir_frugalweir_replay_RecordQueue) hisR ?_
 intro p e s m args below meth c s₁ Bd hml0 hP hK
 obtain ⟨rfl, hZ, hh⟩ := hP
 have hx := Bd.exec
 have hby := Bd.bytes
 have hml : c.maxLocals = 3 := hml0
 have hown : s.vm.findClass sRQ = some m.cls := findClass_of_methodNamed Bd.named
 have hnm := (name_of_methodNamed Bd.named Bd.method).1
 have X0 : Stand p l e (Rm 0 0 0 0) s m #[(.ref q), (.int (0 : Int32)), (.int xv)] below meth c s₁ [] 0 0 := Stand.of_body Bd
 have e0 : s₁.heap = h0 := by rw [← hh, Bd.state]; rfl
 have N0 := Fr.nil n0
 have K0 := Keep.refl h0 [i0]
 have pre0 : ∀ t, Steps p.tables e below (s₁.setTop (mkF m 0 #[.val (.ref q), .val (.int (0 : Int32)), .val (.int xv)] [])) t → Steps p.tables e below (s₁.setTop (entryFrame m #[(.ref q), (.int (0 : Int32)), (.int xv)] 3)) t := fun t k => castTop (ef_SI2 m q xv) k
 obtain ⟨T584, X584, e584, st584⟩ := getF X0 hx hZ hown (host := "") (Or.inl (wd hw 78 rfl)) Via.refl e0 F_q_last (g := (mkF m 1 #[.val (.ref q), .val (.int (0 : Int32)), .val (.int xv)] [(.ref q)])) rfl rfl (hb hby dSI_1)
 obtain ⟨T585, X585, e585, st585⟩ := own_getFR X584 hx hZ hown (wd hw 132 rfl) e584 F_b_ints (g := (mkF m 4 #[.val (.ref q), .val (.int (0 : Int32)), .val (.int xv)] [(.ref b)])) rfl rfl (hb hby dSI_4)
 obtain ⟨cl586, Ar586, q586, S586, N586, H586, G586⟩ := id V_bi
 have hin586 : ¬ ((0 : Int32) < 0 ∨ cl586.slots.size ≤ ((0 : Int32)).toNatClampNeg) := (inb_of S586 ⟨by decide, by decide⟩)
 have hat586 : cl586.slots[((0 : Int32)).toNatClampNeg]? = some (.ref i0) := (H586.at (inb_of S586 ⟨by decide, by decide⟩) rfl)
 obtain ⟨T587, X587, e587, st587⟩ := getF X585 hx hZ hown (host := "") (Or.inl (wd hw 123 rfl)) Via.refl e585 F_q_end (g := (mkF m 10 #[.val (.ref q), .val (.int (0 : Int32)), .val (.int xv)] [(.ref q), (.ref i0)])) rfl rfl (hb hby dSI_10)
 obtain ⟨cl588, Ar588, q588, S588, N588, H588, G588⟩ := id V_i0
 have hin588 : ¬ ((1 : Int32) < 0 ∨ cl588.slots.size ≤ ((1 : Int32)).toNatClampNeg) := (inb_of S588 ⟨by decide, by decide⟩)
 obtain ⟨T589, h589, X589, e589, W589, st589⟩ := stI X587 hx hZ e587 Ar588 (j := (1 : Int32)) hin588 (g := (mkF m 16 #[.val (.ref q), .val (.int (0 : Int32)), .val (.int xv)] [(.int xv), (.int (1 : Int32)), (.ref i0)])) rfl rfl (hb hby dSI_16)
 have V589 : Arv Z h589 i0 ki .int (16 : Int32) [(.int x0), (.int xv)] (.int (0 : Int32)) := Arv.set Ar588 q588 S588 N588 H588 G588 rfl W589 1 rfl (Nat.le_of_ble_eq_true rfl)
 have K589 : Keep h0 h589 [i0] := K0.wr W589 (Or.inl (List.mem_of_getElem? (i := 0) rfl))
 have N589F := Fr.snoc X589 N0 g_i0
 obtain ⟨fs, hr, hrun, hended, hW, hsame⟩ := X589.leave (v := none) (fun _ => rfl)
 refine ⟨_, _, ?_, hrun, hended, _, _, rfl, ?_, ⟨_, rfl⟩, hW, hsame.mono (by decide) (by decide)⟩
 ·refine pre0 _ ?_
  show Steps _ _ _ (s₁.setTop (mkF m 0 #[.val (.ref q), .val (.int (0 : Int32)), .val (.int xv)] [])) _
  refine XS.aloadN X0.here hx rfl (hb hby dSI_0) rfl rfl ?_
  refine st584 _ ?_
  refine st585 _ ?_
  refine XS.iloadN X585.here hx rfl (hb hby dSI_7) rfl ?_
  show Steps _ _ _ (T585.setTop (mkF m 8 #[.val (.ref q), .val (.int (0 : Int32)), .val (.int xv)] [(.int (0 : Int32)), (.ref bi)])) _
  refine X585.aaload hx (j := (0 : Int32)) (v := (.ref i0)) (by rw [e585]; exact Ar586.1) (State.isArrayOf_alike hZ.alike Ar586.2.1) rfl Ar586.2.2 hin586 hat586 (g := (mkF m 8 #[.val (.ref q), .val (.int (0 : Int32)), .val (.int xv)] [(.int (0 : Int32)), (.ref bi)])) rfl rfl (hb hby dSI_8) _ ?_
  refine XS.aloadN X585.here hx rfl (hb hby dSI_9) rfl rfl ?_
  refine st587 _ ?_
  refine XS.iconst X587.here hx rfl (hb hby dSI_13) ?_
  show Steps _ _ _ (T587.setTop (mkF m 14 #[.val (.ref q), .val (.int (0 : Int32)), .val (.int xv)] [(.int (1 : Int32)), (.int (2 : Int32)), (.ref i0)])) _
  refine XS.isub X587.here hx rfl (hb hby dSI_14) rfl ?_
  refine XS.iloadN X587.here hx rfl (hb hby dSI_15) rfl ?_
  show Steps _ _ _ (T587.setTop (mkF m 16 #[.val (.ref q), .val (.int (0 : Int32)), .val (.int xv)] [(.int xv), (.int (1 : Int32)), (.ref i0)])) _
  refine st589 _ ?_
  show Steps _ _ _ (T589.setTop (mkF m 17 #[.val (.ref q), .val (.int (0 : Int32)), .val (.int xv)] [])) _
  exact X589.returnOut hx Bd.returns (hb hby dSI_17) hr
 ·show QSI2 Z q xv b bi i0 kbi ki x0 x1 h0 n0 _ T589.heap _
  rw [e589]
  exact ⟨rfl, N589F, K589, V589⟩
theorem ef_SD02 (m : MethodId) (x0 : Addr) (x2 : UInt64) : entryFrame m #[(.ref x0), (.int (0 : Int32)), (.double x2)] 4 = mkF m 0 #[.val (.ref x0), .val (.int (0 : Int32)), .val (.double x2), .second] [] := by first | (simp [entryFrame, mkF, argsToLocals, Value.category]; done) | rfl
def QSD02 (Z : State) (q : Addr) (xv : Int64) (b : Addr) (bd : Addr) (d0 : Addr) (d1 : Addr) (kbd : ClassId) (kd : ClassId) (x0 : Int64) (x1 : Int64) (h0 : Heap) (n0 : Nat) (v : Option Value) (h : Heap) (L : List Loc) : Prop := v = none ∧ Fr n0 L ∧ Keep h0 h [d0] ∧ Arv Z h d0 kd .double (16 : Int32) [(.double (FP.l2d x0)), (.double (FP.l2d xv))] (.double (FP.l2d 0))
set_option maxRecDepth 65536 in
set_option maxHeartbeats 40000000 in
theorem rmSD02 (l : Launch) (Z : State) (a0 : Array Value) (hw : HW Z a0) (ws : List Jvm.Cond) (q : Addr) (xv : Int64) (b : Addr) (bd : Addr) (d0 : Addr) (d1 : Addr) (kbd : ClassId) (kd : ClassId) (x0 : Int64) (x1 : Int64) (h0 : Heap) (n0 : Nat) (Z0 : n0 ≤ h0.size) (F_q_last : Fld Z h0 q sRQ "last" dBK (.ref b)) (F_q_end : Fld Z h0 q sRQ "end" "I" (.int (2 : Int32))) (F_b_doubles : Fld Z h0 b sBK "doubles" "[[D" (.ref bd)) (V_bd : Arv Z h0 bd kbd (.array .double) (2 : Int32) [(.ref d0), (.ref d1)] .null) (V_d0 : Arv Z h0 d0 kd .double (16 : Int32) [(.double (FP.l2d x0)), (.double (FP.l2d x1))] (.double (FP.l2d 0))) (g_d0 : n0 ≤ d0) :
  MetFree l (⟨sRQ, "setLastDouble", "(ID)V"⟩ : MethodName) (head1 (Jvm.Cond.code (⟨sRQ, "setLastDouble", "(ID)V"⟩ : MethodName) prog_65_method_6_code 4 none :: ws) (Rm 0 0 0 0)) (fun a U => a = #[(.ref q), (.int (0 : Int32)), (.double (FP.l2d xv))] ∧ Z.Warmed39 U.vm ∧ U.heap = h0) (fun _ _ _ _ _ => True) (fun _ U o U' => ∃ v L, o = .returned v ∧ QSD02 Z q xv b bd d0 d1 kbd kd x0 x1 h0 n0 v U'.heap L ∧ FrameEnd U o U' L (Rm 0 0 0 0).cells (Rm 0 0 0 0).slots) := by
 refine MetFree.of_bodySF (plainFor_of_name pn_com_example_frugal_weir_frugalweir_replay_RecordQueue) hisR ?_
 intro p e s m args below meth c s₁ Bd hml0 hP hK
 obtain ⟨rfl, hZ, hh⟩ := hP
 have hx := Bd.exec
 have hby := Bd.bytes
 have hml : c.maxLocals = 4 := hml0
 have hown : s.vm.findClass sRQ = some m.cls := findClass_of_methodNamed Bd.named
 have hnm := (name_of_methodNamed Bd.named Bd.method).1
 have X0 : Stand p l e (Rm 0 0 0 0) s m #[(.ref q), (.int (0 : Int32)), (.double (FP.l2d xv))] below meth c s₁ [] 0 0 := Stand.of_body Bd
 have e0 : s₁.heap = h0 := by rw [← hh, Bd.state]; rfl
 have N0 := Fr.nil n0
 have K0 := Keep.refl h0 [d0]
 have pre0 : ∀ t, Steps p.tables e below (s₁.setTop (mkF m 0 #[.val (.ref q), .val (.int (0 : Int32)), .val (.double (FP.l2d xv)), .second] [])) t → Steps p.tables e below (s₁.setTop (entryFrame m #[(.ref q), (.int (0 : Int32)), (.double (FP.l2d xv))] 4)) t := fun t k => castTop (ef_SD02 m q (FP.l2d xv)) k
 obtain ⟨T590, X590, e590, st590⟩ := getF X0 hx hZ hown (host := "") (Or.inl (wd hw 78 rfl)) Via.refl e0 F_q_last (g := (mkF m 1 #[.val (.ref q), .val (.int (0 : Int32)), .val (.double (FP.l2d xv)), .second] [(.ref q)])) rfl rfl (hb hby dSD_1)
 obtain ⟨T591, X591, e591, st591⟩ := own_getFR X590 hx hZ hown (wd hw 138 rfl) e590 F_b_doubles (g := (mkF m 4 #[.val (.ref q), .val (.int (0 : Int32)), .val (.double (FP.l2d xv)), .second] [(.ref b)])) rfl rfl (hb hby dSD_4)
 obtain ⟨cl592, Ar592, q592, S592, N592, H592, G592⟩ := id V_bd
 have hin592 : ¬ ((0 : Int32) < 0 ∨ cl592.slots.size ≤ ((0 : Int32)).toNatClampNeg) := (inb_of S592 ⟨by decide, by decide⟩)
 have hat592 : cl592.slots[((0 : Int32)).toNatClampNeg]? = some (.ref d0) := (H592.at (inb_of S592 ⟨by decide, by decide⟩) rfl)
 obtain ⟨T593, X593, e593, st593⟩ := getF X591 hx hZ hown (host := "") (Or.inl (wd hw 123 rfl)) Via.refl e591 F_q_end (g := (mkF m 10 #[.val (.ref q), .val (.int (0 : Int32)), .val (.double (FP.l2d xv)), .second] [(.ref q), (.ref d0)])) rfl rfl (hb hby dSD_10)
 obtain ⟨cl594, Ar594, q594, S594, N594, H594, G594⟩ := id V_d0
 have hin594 : ¬ ((1 : Int32) < 0 ∨ cl594.slots.size ≤ ((1 : Int32)).toNatClampNeg) := (inb_of S594 ⟨by decide, by decide⟩)
 obtain ⟨T595, h595, X595, e595, W595, st595⟩ := stD X593 hx hZ e593 Ar594 (j := (1 : Int32)) hin594 (g := (mkF m 16 #[.val (.ref q), .val (.int (0 : Int32)), .val (.double (FP.l2d xv)), .second] [(.double (FP.l2d xv)), (.int (1 : Int32)), (.ref d0)])) rfl rfl (hb hby dSD_16)
 have V595 : Arv Z h595 d0 kd .double (16 : Int32) [(.double (FP.l2d x0)), (.double (FP.l2d xv))] (.double (FP.l2d 0)) := Arv.set Ar594 q594 S594 N594 H594 G594 rfl W595 1 rfl (Nat.le_of_ble_eq_true rfl)
 have K595 : Keep h0 h595 [d0] := K0.wr W595 (Or.inl (List.mem_of_getElem? (i := 0) rfl))
 have N595F := Fr.snoc X595 N0 g_d0
 obtain ⟨fs, hr, hrun, hended, hW, hsame⟩ := X595.leave (v := none) (fun _ => rfl)
 refine ⟨_, _, ?_, hrun, hended, _, _, rfl, ?_, ⟨_, rfl⟩, hW, hsame.mono (by decide) (by decide)⟩
 ·refine pre0 _ ?_
  show Steps _ _ _ (s₁.setTop (mkF m 0 #[.val (.ref q), .val (.int (0 : Int32)), .val (.double (FP.l2d xv)), .second] [])) _
  refine XS.aloadN X0.here hx rfl (hb hby dSD_0) rfl rfl ?_
  refine st590 _ ?_
  refine st591 _ ?_
  refine XS.iloadN X591.here hx rfl (hb hby dSD_7) rfl ?_
  show Steps _ _ _ (T591.setTop (mkF m 8 #[.val (.ref q), .val (.int (0 : Int32)), .val (.double (FP.l2d xv)), .second] [(.int (0 : Int32)), (.ref bd)])) _
  refine X591.aaload hx (j := (0 : Int32)) (v := (.ref d0)) (by rw [e591]; exact Ar592.1) (State.isArrayOf_alike hZ.alike Ar592.2.1) rfl Ar592.2.2 hin592 hat592 (g := (mkF m 8 #[.val (.ref q), .val (.int (0 : Int32)), .val (.double (FP.l2d xv)), .second] [(.int (0 : Int32)), (.ref bd)])) rfl rfl (hb hby dSD_8) _ ?_
  refine XS.aloadN X591.here hx rfl (hb hby dSD_9) rfl rfl ?_
  refine st593 _ ?_
  refine XS.iconst X593.here hx rfl (hb hby dSD_13) ?_
  show Steps _ _ _ (T593.setTop (mkF m 14 #[.val (.ref q), .val (.int (0 : Int32)), .val (.double (FP.l2d xv)), .second] [(.int (1 : Int32)), (.int (2 : Int32)), (.ref d0)])) _
  refine XS.isub X593.here hx rfl (hb hby dSD_14) rfl ?_
  refine XS.dloadN X593.here hx rfl (hb hby dSD_15) rfl ?_
  show Steps _ _ _ (T593.setTop (mkF m 16 #[.val (.ref q), .val (.int (0 : Int32)), .val (.double (FP.l2d xv)), .second] [(.double (FP.l2d xv)), (.int (1 : Int32)), (.ref d0)])) _
  refine st595 _ ?_
  show Steps _ _ _ (T595.setTop (mkF m 17 #[.val (.ref q), .val (.int (0 : Int32)), .val (.double (FP.l2d xv)), .second] [])) _
  exact X595.returnOut hx Bd.returns (hb hby dSD_17) hr
 ·show QSD02 Z q xv b bd d0 d1 kbd kd x0 x1 h0 n0 _ T595.heap _
  rw [e595]
  exact ⟨rfl, N595F, K595, V595⟩
theorem ef_SD12 (m : MethodId) (x0 : Addr) (x2 : UInt64) : entryFrame m #[(.ref x0), (.int (1 : Int32)), (.double x2)] 4 = mkF m 0 #[.val (.ref x0), .val (.int (1 : Int32)), .val (.double x2), .second] [] := by first | (simp [entryFrame, mkF, argsToLocals, Value.category]; done) | rfl
def QSD12 (Z : State) (q : Addr) (xv : Int64) (b : Addr) (bd : Addr) (d0 : Addr) (d1 : Addr) (kbd : ClassId) (kd : ClassId) (x0 : Int64) (x1 : Int64) (h0 : Heap) (n0 : Nat) (v : Option Value) (h : Heap) (L : List Loc) : Prop := v = none ∧ Fr n0 L ∧ Keep h0 h [d1] ∧ Arv Z h d1 kd .double (16 : Int32) [(.double (FP.l2d x0)), (.double (FP.l2d xv))] (.double (FP.l2d 0))
set_option maxRecDepth 65536 in
set_option maxHeartbeats 40000000 in
theorem rmSD12 (l : Launch) (Z : State) (a0 : Array Value) (hw : HW Z a0) (ws : List Jvm.Cond) (q : Addr) (xv : Int64) (b : Addr) (bd : Addr) (d0 : Addr) (d1 : Addr) (kbd : ClassId) (kd : ClassId) (x0 : Int64) (x1 : Int64) (h0 : Heap) (n0 : Nat) (Z0 : n0 ≤ h0.size) (F_q_last : Fld Z h0 q sRQ "last" dBK (.ref b)) (F_q_end : Fld Z h0 q sRQ "end" "I" (.int (2 : Int32))) (F_b_doubles : Fld Z h0 b sBK "doubles" "[[D" (.ref bd)) (V_bd : Arv Z h0 bd kbd (.array .double) (2 : Int32) [(.ref d0), (.ref d1)] .null) (V_d1 : Arv Z h0 d1 kd .double (16 : Int32) [(.double (FP.l2d x0)), (.double (FP.l2d x1))] (.double (FP.l2d 0))) (g_d1 : n0 ≤ d1) :
  MetFree l (⟨sRQ, "setLastDouble", "(ID)V"⟩ : MethodName) (head1 (Jvm.Cond.code (⟨sRQ, "setLastDouble", "(ID)V"⟩ : MethodName) prog_65_method_6_code 4 none :: ws) (Rm 0 0 0 0)) (fun a U => a = #[(.ref q), (.int (1 : Int32)), (.double (FP.l2d xv))] ∧ Z.Warmed39 U.vm ∧ U.heap = h0) (fun _ _ _ _ _ => True) (fun _ U o U' => ∃ v L, o = .returned v ∧ QSD12 Z q xv b bd d0 d1 kbd kd x0 x1 h0 n0 v U'.heap L ∧ FrameEnd U o U' L (Rm 0 0 0 0).cells (Rm 0 0 0 0).slots) := by
 refine MetFree.of_bodySF (plainFor_of_name pn_com_example_frugal_weir_frugalweir_replay_RecordQueue) hisR ?_
 intro p e s m args below meth c s₁ Bd hml0 hP hK
 obtain ⟨rfl, hZ, hh⟩ := hP
 have hx := Bd.exec
 have hby := Bd.bytes
 have hml : c.maxLocals = 4 := hml0
 have hown : s.vm.findClass sRQ = some m.cls := findClass_of_methodNamed Bd.named
 have hnm := (name_of_methodNamed Bd.named Bd.method).1
 have X0 : Stand p l e (Rm 0 0 0 0) s m #[(.ref q), (.int (1 : Int32)), (.double (FP.l2d xv))] below meth c s₁ [] 0 0 := Stand.of_body Bd
 have e0 : s₁.heap = h0 := by rw [← hh, Bd.state]; rfl
 have N0 := Fr.nil n0
 have K0 := Keep.refl h0 [d1]
 have pre0 : ∀ t, Steps p.tables e below (s₁.setTop (mkF m 0 #[.val (.ref q), .val (.int (1 : Int32)), .val (.double (FP.l2d xv)), .second] [])) t → Steps p.tables e below (s₁.setTop (entryFrame m #[(.ref q), (.int (1 : Int32)), (.double (FP.l2d xv))] 4)) t := fun t k => castTop (ef_SD12 m q (FP.l2d xv)) k
 obtain ⟨T596, X596, e596, st596⟩ := getF X0 hx hZ hown (host := "") (Or.inl (wd hw 78 rfl)) Via.refl e0 F_q_last (g := (mkF m 1 #[.val (.ref q), .val (.int (1 : Int32)), .val (.double (FP.l2d xv)), .second] [(.ref q)])) rfl rfl (hb hby dSD_1)
 obtain ⟨T597, X597, e597, st597⟩ := own_getFR X596 hx hZ hown (wd hw 138 rfl) e596 F_b_doubles (g := (mkF m 4 #[.val (.ref q), .val (.int (1 : Int32)), .val (.double (FP.l2d xv)), .second] [(.ref b)])) rfl rfl (hb hby dSD_4)
 obtain ⟨cl598, Ar598, q598, S598, N598, H598, G598⟩ := id V_bd
 have hin598 : ¬ ((1 : Int32) < 0 ∨ cl598.slots.size ≤ ((1 : Int32)).toNatClampNeg) := (inb_of S598 ⟨by decide, by decide⟩)
 have hat598 : cl598.slots[((1 : Int32)).toNatClampNeg]? = some (.ref d1) := (H598.at (inb_of S598 ⟨by decide, by decide⟩) rfl)
 obtain ⟨T599, X599, e599, st599⟩ := getF X597 hx hZ hown (host := "") (Or.inl (wd hw 123 rfl)) Via.refl e597 F_q_end (g := (mkF m 10 #[.val (.ref q), .val (.int (1 : Int32)), .val (.double (FP.l2d xv)), .second] [(.ref q), (.ref d1)])) rfl rfl (hb hby dSD_10)
 obtain ⟨cl600, Ar600, q600, S600, N600, H600, G600⟩ := id V_d1
 have hin600 : ¬ ((1 : Int32) < 0 ∨ cl600.slots.size ≤ ((1 : Int32)).toNatClampNeg) := (inb_of S600 ⟨by decide, by decide⟩)
 obtain ⟨T601, h601, X601, e601, W601, st601⟩ := stD X599 hx hZ e599 Ar600 (j := (1 : Int32)) hin600 (g := (mkF m 16 #[.val (.ref q), .val (.int (1 : Int32)), .val (.double (FP.l2d xv)), .second] [(.double (FP.l2d xv)), (.int (1 : Int32)), (.ref d1)])) rfl rfl (hb hby dSD_16)
 have V601 : Arv Z h601 d1 kd .double (16 : Int32) [(.double (FP.l2d x0)), (.double (FP.l2d xv))] (.double (FP.l2d 0)) := Arv.set Ar600 q600 S600 N600 H600 G600 rfl W601 1 rfl (Nat.le_of_ble_eq_true rfl)
 have K601 : Keep h0 h601 [d1] := K0.wr W601 (Or.inl (List.mem_of_getElem? (i := 0) rfl))
 have N601F := Fr.snoc X601 N0 g_d1
 obtain ⟨fs, hr, hrun, hended, hW, hsame⟩ := X601.leave (v := none) (fun _ => rfl)
 refine ⟨_, _, ?_, hrun, hended, _, _, rfl, ?_, ⟨_, rfl⟩, hW, hsame.mono (by decide) (by decide)⟩
 ·refine pre0 _ ?_
  show Steps _ _ _ (s₁.setTop (mkF m 0 #[.val (.ref q), .val (.int (1 : Int32)), .val (.double (FP.l2d xv)), .second] [])) _
  refine XS.aloadN X0.here hx rfl (hb hby dSD_0) rfl rfl ?_
  refine st596 _ ?_
  refine st597 _ ?_
  refine XS.iloadN X597.here hx rfl (hb hby dSD_7) rfl ?_
  show Steps _ _ _ (T597.setTop (mkF m 8 #[.val (.ref q), .val (.int (1 : Int32)), .val (.double (FP.l2d xv)), .second] [(.int (1 : Int32)), (.ref bd)])) _
  refine X597.aaload hx (j := (1 : Int32)) (v := (.ref d1)) (by rw [e597]; exact Ar598.1) (State.isArrayOf_alike hZ.alike Ar598.2.1) rfl Ar598.2.2 hin598 hat598 (g := (mkF m 8 #[.val (.ref q), .val (.int (1 : Int32)), .val (.double (FP.l2d xv)), .second] [(.int (1 : Int32)), (.ref bd)])) rfl rfl (hb hby dSD_8) _ ?_
  refine XS.aloadN X597.here hx rfl (hb hby dSD_9) rfl rfl ?_
  refine st599 _ ?_
  refine XS.iconst X599.here hx rfl (hb hby dSD_13) ?_
  show Steps _ _ _ (T599.setTop (mkF m 14 #[.val (.ref q), .val (.int (1 : Int32)), .val (.double (FP.l2d xv)), .second] [(.int (1 : Int32)), (.int (2 : Int32)), (.ref d1)])) _
  refine XS.isub X599.here hx rfl (hb hby dSD_14) rfl ?_
  refine XS.dloadN X599.here hx rfl (hb hby dSD_15) rfl ?_
  show Steps _ _ _ (T599.setTop (mkF m 16 #[.val (.ref q), .val (.int (1 : Int32)), .val (.double (FP.l2d xv)), .second] [(.double (FP.l2d xv)), (.int (1 : Int32)), (.ref d1)])) _
  refine st601 _ ?_
  show Steps _ _ _ (T601.setTop (mkF m 17 #[.val (.ref q), .val (.int (1 : Int32)), .val (.double (FP.l2d xv)), .second] [])) _
  exact X601.returnOut hx Bd.returns (hb hby dSD_17) hr
 ·show QSD12 Z q xv b bd d0 d1 kbd kd x0 x1 h0 n0 _ T601.heap _
  rw [e601]
  exact ⟨rfl, N601F, K601, V601⟩
theorem dFI_0 : decode prog_65_method_7_code 0 = .ok (.aload_n 0, 1) := by decide +kernel
theorem dFI_1 : decode prog_65_method_7_code 1 = .ok (.getfield 55, 3) := by decide +kernel
theorem dFI_4 : decode prog_65_method_7_code 4 = .ok (.getfield 58, 3) := by decide +kernel
theorem dFI_7 : decode prog_65_method_7_code 7 = .ok (.iload_n 1, 1) := by decide +kernel
theorem dFI_8 : decode prog_65_method_7_code 8 = .ok (.aaload, 1) := by decide +kernel
theorem dFI_9 : decode prog_65_method_7_code 9 = .ok (.aload_n 0, 1) := by decide +kernel
theorem dFI_10 : decode prog_65_method_7_code 10 = .ok (.getfield 66, 3) := by decide +kernel
theorem dFI_13 : decode prog_65_method_7_code 13 = .ok (.iaload, 1) := by decide +kernel
theorem dFI_14 : decode prog_65_method_7_code 14 = .ok (.ireturn, 1) := by decide +kernel
theorem ef_FI0 (m : MethodId) (x0 : Addr) : entryFrame m #[(.ref x0), (.int (0 : Int32))] 2 = mkF m 0 #[.val (.ref x0), .val (.int (0 : Int32))] [] := by first | (simp [entryFrame, mkF, argsToLocals, Value.category]; done) | rfl
def QFI0 (Z : State) (q : Addr) (b : Addr) (bi : Addr) (i0 : Addr) (kbi : ClassId) (ki : ClassId) (x0 : Int32) (x1 : Int32) (h0 : Heap) (n0 : Nat) (v : Option Value) (h : Heap) (L : List Loc) : Prop := v = some (.int x0) ∧ Fr n0 L ∧ h = h0
set_option maxRecDepth 65536 in
set_option maxHeartbeats 40000000 in
theorem rmFI0 (l : Launch) (Z : State) (a0 : Array Value) (hw : HW Z a0) (ws : List Jvm.Cond) (q : Addr) (b : Addr) (bi : Addr) (i0 : Addr) (kbi : ClassId) (ki : ClassId) (x0 : Int32) (x1 : Int32) (h0 : Heap) (n0 : Nat) (Z0 : n0 ≤ h0.size) (F_q_first : Fld Z h0 q sRQ "first" dBK (.ref b)) (F_q_head : Fld Z h0 q sRQ "head" "I" (.int (0 : Int32))) (F_b_ints : Fld Z h0 b sBK "ints" "[[I" (.ref bi)) (V_bi : Arv Z h0 bi kbi (.array .int) (1 : Int32) [(.ref i0)] .null) (V_i0 : Arv Z h0 i0 ki .int (16 : Int32) [(.int x0), (.int x1)] (.int (0 : Int32))) :
  MetFree l (⟨sRQ, "firstInt", "(I)I"⟩ : MethodName) (head1 (Jvm.Cond.code (⟨sRQ, "firstInt", "(I)I"⟩ : MethodName) prog_65_method_7_code 2 (some .int) :: ws) (Rm 0 0 0 0)) (fun a U => a = #[(.ref q), (.int (0 : Int32))] ∧ Z.Warmed39 U.vm ∧ U.heap = h0) (fun _ _ _ _ _ => True) (fun _ U o U' => ∃ v L, o = .returned v ∧ QFI0 Z q b bi i0 kbi ki x0 x1 h0 n0 v U'.heap L ∧ FrameEnd U o U' L (Rm 0 0 0 0).cells (Rm 0 0 0 0).slots) := by
 refine MetFree.of_bodySF (plainFor_of_name pn_com_example_frugal_weir_frugalweir_replay_RecordQueue) hisR ?_
 intro p e s m args below meth c s₁ Bd hml0 hP hK
 obtain ⟨rfl, hZ, hh⟩ := hP
 have hx := Bd.exec
 have hby := Bd.bytes
 have hml : c.maxLocals = 2 := hml0
 have hown : s.vm.findClass sRQ = some m.cls := findClass_of_methodNamed Bd.named
 have hnm := (name_of_methodNamed Bd.named Bd.method).1
 have X0 : Stand p l e (Rm 0 0 0 0) s m #[(.ref q), (.int (0 : Int32))] below meth c s₁ [] 0 0 := Stand.of_body Bd
 have e0 : s₁.heap = h0 := by rw [← hh, Bd.state]; rfl
 have N0 := Fr.nil n0
 have K0 : Keep h0 h0 [] := Keep.refl h0 []
 have pre0 : ∀ t, Steps p.tables e below (s₁.setTop (mkF m 0 #[.val (.ref q), .val (.int (0 : Int32))] [])) t → Steps p.tables e below (s₁.setTop (entryFrame m #[(.ref q), (.int (0 : Int32))] 2)) t := fun t k => castTop (ef_FI0 m q) k
 obtain ⟨T602, X602, e602, st602⟩ := getF X0 hx hZ hown (host := "") (Or.inl (wd hw 125 rfl)) Via.refl e0 F_q_first (g := (mkF m 1 #[.val (.ref q), .val (.int (0 : Int32))] [(.ref q)])) rfl rfl (hb hby dFI_1)
 obtain ⟨T603, X603, e603, st603⟩ := own_getFR X602 hx hZ hown (wd hw 132 rfl) e602 F_b_ints (g := (mkF m 4 #[.val (.ref q), .val (.int (0 : Int32))] [(.ref b)])) rfl rfl (hb hby dFI_4)
 obtain ⟨cl604, Ar604, q604, S604, N604, H604, G604⟩ := id V_bi
 have hin604 : ¬ ((0 : Int32) < 0 ∨ cl604.slots.size ≤ ((0 : Int32)).toNatClampNeg) := (inb_of S604 ⟨by decide, by decide⟩)
 have hat604 : cl604.slots[((0 : Int32)).toNatClampNeg]? = some (.ref i0) := (H604.at (inb_of S604 ⟨by decide, by decide⟩) rfl)
 obtain ⟨T605, X605, e605, st605⟩ := getF X603 hx hZ hown (host := "") (Or.inl (wd hw 173 rfl)) Via.refl e603 F_q_head (g := (mkF m 10 #[.val (.ref q), .val (.int (0 : Int32))] [(.ref q), (.ref i0)])) rfl rfl (hb hby dFI_10)
 obtain ⟨cl606, Ar606, q606, S606, N606, H606, G606⟩ := id V_i0
 have hin606 : ¬ ((0 : Int32) < 0 ∨ cl606.slots.size ≤ ((0 : Int32)).toNatClampNeg) := (inb_of S606 ⟨by decide, by decide⟩)
 have hat606 : cl606.slots[((0 : Int32)).toNatClampNeg]? = some (.int x0) := (H606.at (inb_of S606 ⟨by decide, by decide⟩) rfl)
 obtain ⟨fs, hr, hrun, hended, hW, hsame⟩ := X605.leave (v := some (.int x0)) (fun h => by rw [Bd.returns] at h; cases h)
 refine ⟨_, _, ?_, hrun, hended, _, _, rfl, ?_, ⟨_, rfl⟩, hW, hsame.mono (by decide) (by decide)⟩
 ·refine pre0 _ ?_
  show Steps _ _ _ (s₁.setTop (mkF m 0 #[.val (.ref q), .val (.int (0 : Int32))] [])) _
  refine XS.aloadN X0.here hx rfl (hb hby dFI_0) rfl rfl ?_
  refine st602 _ ?_
  refine st603 _ ?_
  refine XS.iloadN X603.here hx rfl (hb hby dFI_7) rfl ?_
  show Steps _ _ _ (T603.setTop (mkF m 8 #[.val (.ref q), .val (.int (0 : Int32))] [(.int (0 : Int32)), (.ref bi)])) _
  refine X603.aaload hx (j := (0 : Int32)) (v := (.ref i0)) (by rw [e603]; exact Ar604.1) (State.isArrayOf_alike hZ.alike Ar604.2.1) rfl Ar604.2.2 hin604 hat604 (g := (mkF m 8 #[.val (.ref q), .val (.int (0 : Int32))] [(.int (0 : Int32)), (.ref bi)])) rfl rfl (hb hby dFI_8) _ ?_
  refine XS.aloadN X603.here hx rfl (hb hby dFI_9) rfl rfl ?_
  refine st605 _ ?_
  show Steps _ _ _ (T605.setTop (mkF m 13 #[.val (.ref q), .val (.int (0 : Int32))] [(.int (0 : Int32)), (.ref i0)])) _
  refine X605.iaload hx (j := (0 : Int32)) (v := (.int x0)) (by rw [e605]; exact Ar606.1) (State.isArrayOf_alike hZ.alike Ar606.2.1) Ar606.2.2 hin606 hat606 (g := (mkF m 13 #[.val (.ref q), .val (.int (0 : Int32))] [(.int (0 : Int32)), (.ref i0)])) rfl rfl (hb hby dFI_13) _ ?_
  show Steps _ _ _ (T605.setTop (mkF m 14 #[.val (.ref q), .val (.int (0 : Int32))] [(.int x0)])) _
  exact retI X605 hx Bd.returns (hb hby dFI_14) hr
 ·show QFI0 Z q b bi i0 kbi ki x0 x1 h0 n0 _ T605.heap _
  rw [e605]
  exact ⟨rfl, N0, rfl⟩
theorem dFD_0 : decode prog_65_method_8_code 0 = .ok (.aload_n 0, 1) := by decide +kernel
theorem dFD_1 : decode prog_65_method_8_code 1 = .ok (.getfield 55, 3) := by decide +kernel
theorem dFD_4 : decode prog_65_method_8_code 4 = .ok (.getfield 62, 3) := by decide +kernel
theorem dFD_7 : decode prog_65_method_8_code 7 = .ok (.iload_n 1, 1) := by decide +kernel
theorem dFD_8 : decode prog_65_method_8_code 8 = .ok (.aaload, 1) := by decide +kernel
theorem dFD_9 : decode prog_65_method_8_code 9 = .ok (.aload_n 0, 1) := by decide +kernel
theorem dFD_10 : decode prog_65_method_8_code 10 = .ok (.getfield 66, 3) := by decide +kernel
theorem dFD_13 : decode prog_65_method_8_code 13 = .ok (.daload, 1) := by decide +kernel
theorem dFD_14 : decode prog_65_method_8_code 14 = .ok (.dreturn, 1) := by decide +kernel
theorem ef_FD00 (m : MethodId) (x0 : Addr) : entryFrame m #[(.ref x0), (.int (0 : Int32))] 2 = mkF m 0 #[.val (.ref x0), .val (.int (0 : Int32))] [] := by first | (simp [entryFrame, mkF, argsToLocals, Value.category]; done) | rfl
def QFD00 (Z : State) (q : Addr) (b : Addr) (bd : Addr) (d0 : Addr) (d1 : Addr) (kbd : ClassId) (kd : ClassId) (x0 : Int64) (x1 : Int64) (h0 : Heap) (n0 : Nat) (v : Option Value) (h : Heap) (L : List Loc) : Prop := v = some (.double (FP.l2d x0)) ∧ Fr n0 L ∧ h = h0
set_option maxRecDepth 65536 in
set_option maxHeartbeats 40000000 in
theorem rmFD00 (l : Launch) (Z : State) (a0 : Array Value) (hw : HW Z a0) (ws : List Jvm.Cond) (q : Addr) (b : Addr) (bd : Addr) (d0 : Addr) (d1 : Addr) (kbd : ClassId) (kd : ClassId) (x0 : Int64) (x1 : Int64) (h0 : Heap) (n0 : Nat) (Z0 : n0 ≤ h0.size) (F_q_first : Fld Z h0 q sRQ "first" dBK (.ref b)) (F_q_head : Fld Z h0 q sRQ "head" "I" (.int (0 : Int32))) (F_b_doubles : Fld Z h0 b sBK "doubles" "[[D" (.ref bd)) (V_bd : Arv Z h0 bd kbd (.array .double) (2 : Int32) [(.ref d0), (.ref d1)] .null) (V_d0 : Arv Z h0 d0 kd .double (16 : Int32) [(.double (FP.l2d x0)), (.double (FP.l2d x1))] (.double (FP.l2d 0))) :
  MetFree l (⟨sRQ, "firstDouble", "(I)D"⟩ : MethodName) (head1 (Jvm.Cond.code (⟨sRQ, "firstDouble", "(I)D"⟩ : MethodName) prog_65_method_8_code 2 (some .double) :: ws) (Rm 0 0 0 0)) (fun a U => a = #[(.ref q), (.int (0 : Int32))] ∧ Z.Warmed39 U.vm ∧ U.heap = h0) (fun _ _ _ _ _ => True) (fun _ U o U' => ∃ v L, o = .returned v ∧ QFD00 Z q b bd d0 d1 kbd kd x0 x1 h0 n0 v U'.heap L ∧ FrameEnd U o U' L (Rm 0 0 0 0).cells (Rm 0 0 0 0).slots) := by
 refine MetFree.of_bodySF (plainFor_of_name pn_com_example_frugal_weir_frugalweir_replay_RecordQueue) hisR ?_
 intro p e s m args below meth c s₁ Bd hml0 hP hK
 obtain ⟨rfl, hZ, hh⟩ := hP
 have hx := Bd.exec
 have hby := Bd.bytes
 have hml : c.maxLocals = 2 := hml0
 have hown : s.vm.findClass sRQ = some m.cls := findClass_of_methodNamed Bd.named
 have hnm := (name_of_methodNamed Bd.named Bd.method).1
 have X0 : Stand p l e (Rm 0 0 0 0) s m #[(.ref q), (.int (0 : Int32))] below meth c s₁ [] 0 0 := Stand.of_body Bd
 have e0 : s₁.heap = h0 := by rw [← hh, Bd.state]; rfl
 have N0 := Fr.nil n0
 have K0 : Keep h0 h0 [] := Keep.refl h0 []
 have pre0 : ∀ t, Steps p.tables e below (s₁.setTop (mkF m 0 #[.val (.ref q), .val (.int (0 : Int32))] [])) t → Steps p.tables e below (s₁.setTop (entryFrame m #[(.ref q), (.int (0 : Int32))] 2)) t := fun t k => castTop (ef_FD00 m q) k
 obtain ⟨T607, X607, e607, st607⟩ := getF X0 hx hZ hown (host := "") (Or.inl (wd hw 125 rfl)) Via.refl e0 F_q_first (g := (mkF m 1 #[.val (.ref q), .val (.int (0 : Int32))] [(.ref q)])) rfl rfl (hb hby dFD_1)
 obtain ⟨T608, X608, e608, st608⟩ := own_getFR X607 hx hZ hown (wd hw 138 rfl) e607 F_b_doubles (g := (mkF m 4 #[.val (.ref q), .val (.int (0 : Int32))] [(.ref b)])) rfl rfl (hb hby dFD_4)
 obtain ⟨cl609, Ar609, q609, S609, N609, H609, G609⟩ := id V_bd
 have hin609 : ¬ ((0 : Int32) < 0 ∨ cl609.slots.size ≤ ((0 : Int32)).toNatClampNeg) := (inb_of S609 ⟨by decide, by decide⟩)
 have hat609 : cl609.slots[((0 : Int32)).toNatClampNeg]? = some (.ref d0) := (H609.at (inb_of S609 ⟨by decide, by decide⟩) rfl)
 obtain ⟨T610, X610, e610, st610⟩ := getF X608 hx hZ hown (host := "") (Or.inl (wd hw 173 rfl)) Via.refl e608 F_q_head (g := (mkF m 10 #[.val (.ref q), .val (.int (0 : Int32))] [(.ref q), (.ref d0)])) rfl rfl (hb hby dFD_10)
 obtain ⟨cl611, Ar611, q611, S611, N611, H611, G611⟩ := id V_d0
 have hin611 : ¬ ((0 : Int32) < 0 ∨ cl611.slots.size ≤ ((0 : Int32)).toNatClampNeg) := (inb_of S611 ⟨by decide, by decide⟩)
 have hat611 : cl611.slots[((0 : Int32)).toNatClampNeg]? = some (.double (FP.l2d x0)) := (H611.at (inb_of S611 ⟨by decide, by decide⟩) rfl)
 obtain ⟨fs, hr, hrun, hended, hW, hsame⟩ := X610.leave (v := some (.double (FP.l2d x0))) (fun h => by rw [Bd.returns] at h; cases h)
 refine ⟨_, _, ?_, hrun, hended, _, _, rfl, ?_, ⟨_, rfl⟩, hW, hsame.mono (by decide) (by decide)⟩
 ·refine pre0 _ ?_
  show Steps _ _ _ (s₁.setTop (mkF m 0 #[.val (.ref q), .val (.int (0 : Int32))] [])) _
  refine XS.aloadN X0.here hx rfl (hb hby dFD_0) rfl rfl ?_
  refine st607 _ ?_
  refine st608 _ ?_
  refine XS.iloadN X608.here hx rfl (hb hby dFD_7) rfl ?_
  show Steps _ _ _ (T608.setTop (mkF m 8 #[.val (.ref q), .val (.int (0 : Int32))] [(.int (0 : Int32)), (.ref bd)])) _
  refine X608.aaload hx (j := (0 : Int32)) (v := (.ref d0)) (by rw [e608]; exact Ar609.1) (State.isArrayOf_alike hZ.alike Ar609.2.1) rfl Ar609.2.2 hin609 hat609 (g := (mkF m 8 #[.val (.ref q), .val (.int (0 : Int32))] [(.int (0 : Int32)), (.ref bd)])) rfl rfl (hb hby dFD_8) _ ?_
  refine XS.aloadN X608.here hx rfl (hb hby dFD_9) rfl rfl ?_
  refine st610 _ ?_
  show Steps _ _ _ (T610.setTop (mkF m 13 #[.val (.ref q), .val (.int (0 : Int32))] [(.int (0 : Int32)), (.ref d0)])) _
  refine X610.daload hx (j := (0 : Int32)) (v := (.double (FP.l2d x0))) (by rw [e610]; exact Ar611.1) (State.isArrayOf_alike hZ.alike Ar611.2.1) Ar611.2.2 hin611 hat611 (g := (mkF m 13 #[.val (.ref q), .val (.int (0 : Int32))] [(.int (0 : Int32)), (.ref d0)])) rfl rfl (hb hby dFD_13) _ ?_
  show Steps _ _ _ (T610.setTop (mkF m 14 #[.val (.ref q), .val (.int (0 : Int32))] [(.double (FP.l2d x0))])) _
  exact retD X610 hx Bd.returns (hb hby dFD_14) hr
 ·show QFD00 Z q b bd d0 d1 kbd kd x0 x1 h0 n0 _ T610.heap _
  rw [e610]
  exact ⟨rfl, N0, rfl⟩
theorem ef_FD10 (m : MethodId) (x0 : Addr) : entryFrame m #[(.ref x0), (.int (1 : Int32))] 2 = mkF m 0 #[.val (.ref x0), .val (.int (1 : Int32))] [] := by first | (simp [entryFrame, mkF, argsToLocals, Value.category]; done) | rfl
def QFD10 (Z : State) (q : Addr) (b : Addr) (bd : Addr) (d0 : Addr) (d1 : Addr) (kbd : ClassId) (kd : ClassId) (x0 : Int64) (x1 : Int64) (h0 : Heap) (n0 : Nat) (v : Option Value) (h : Heap) (L : List Loc) : Prop := v = some (.double (FP.l2d x0)) ∧ Fr n0 L ∧ h = h0
set_option maxRecDepth 65536 in
set_option maxHeartbeats 40000000 in
theorem rmFD10 (l : Launch) (Z : State) (a0 : Array Value) (hw : HW Z a0) (ws : List Jvm.Cond) (q : Addr) (b : Addr) (bd : Addr) (d0 : Addr) (d1 : Addr) (kbd : ClassId) (kd : ClassId) (x0 : Int64) (x1 : Int64) (h0 : Heap) (n0 : Nat) (Z0 : n0 ≤ h0.size) (F_q_first : Fld Z h0 q sRQ "first" dBK (.ref b)) (F_q_head : Fld Z h0 q sRQ "head" "I" (.int (0 : Int32))) (F_b_doubles : Fld Z h0 b sBK "doubles" "[[D" (.ref bd)) (V_bd : Arv Z h0 bd kbd (.array .double) (2 : Int32) [(.ref d0), (.ref d1)] .null) (V_d1 : Arv Z h0 d1 kd .double (16 : Int32) [(.double (FP.l2d x0)), (.double (FP.l2d x1))] (.double (FP.l2d 0))) :
  MetFree l (⟨sRQ, "firstDouble", "(I)D"⟩ : MethodName) (head1 (Jvm.Cond.code (⟨sRQ, "firstDouble", "(I)D"⟩ : MethodName) prog_65_method_8_code 2 (some .double) :: ws) (Rm 0 0 0 0)) (fun a U => a = #[(.ref q), (.int (1 : Int32))] ∧ Z.Warmed39 U.vm ∧ U.heap = h0) (fun _ _ _ _ _ => True) (fun _ U o U' => ∃ v L, o = .returned v ∧ QFD10 Z q b bd d0 d1 kbd kd x0 x1 h0 n0 v U'.heap L ∧ FrameEnd U o U' L (Rm 0 0 0 0).cells (Rm 0 0 0 0).slots) := by
 refine MetFree.of_bodySF (plainFor_of_name pn_com_example_frugal_weir_frugalweir_replay_RecordQueue) hisR ?_
 intro p e s m args below meth c s₁ Bd hml0 hP hK
 obtain ⟨rfl, hZ, hh⟩ := hP
 have hx := Bd.exec
 have hby := Bd.bytes
 have hml : c.maxLocals = 2 := hml0
 have hown : s.vm.findClass sRQ = some m.cls := findClass_of_methodNamed Bd.named
 have hnm := (name_of_methodNamed Bd.named Bd.method).1
 have X0 : Stand p l e (Rm 0 0 0 0) s m #[(.ref q), (.int (1 : Int32))] below meth c s₁ [] 0 0 := Stand.of_body Bd
 have e0 : s₁.heap = h0 := by rw [← hh, Bd.state]; rfl
 have N0 := Fr.nil n0
 have K0 : Keep h0 h0 [] := Keep.refl h0 []
 have pre0 : ∀ t, Steps p.tables e below (s₁.setTop (mkF m 0 #[.val (.ref q), .val (.int (1 : Int32))] [])) t → Steps p.tables e below (s₁.setTop (entryFrame m #[(.ref q), (.int (1 : Int32))] 2)) t := fun t k => castTop (ef_FD10 m q) k
 obtain ⟨T612, X612, e612, st612⟩ := getF X0 hx hZ hown (host := "") (Or.inl (wd hw 125 rfl)) Via.refl e0 F_q_first (g := (mkF m 1 #[.val (.ref q), .val (.int (1 : Int32))] [(.ref q)])) rfl rfl (hb hby dFD_1)
 obtain ⟨T613, X613, e613, st613⟩ := own_getFR X612 hx hZ hown (wd hw 138 rfl) e612 F_b_doubles (g := (mkF m 4 #[.val (.ref q), .val (.int (1 : Int32))] [(.ref b)])) rfl rfl (hb hby dFD_4)
 obtain ⟨cl614, Ar614, q614, S614, N614, H614, G614⟩ := id V_bd
 have hin614 : ¬ ((1 : Int32) < 0 ∨ cl614.slots.size ≤ ((1 : Int32)).toNatClampNeg) := (inb_of S614 ⟨by decide, by decide⟩)
 have hat614 : cl614.slots[((1 : Int32)).toNatClampNeg]? = some (.ref d1) := (H614.at (inb_of S614 ⟨by decide, by decide⟩) rfl)
 obtain ⟨T615, X615, e615, st615⟩ := getF X613 hx hZ hown (host := "") (Or.inl (wd hw 173 rfl)) Via.refl e613 F_q_head (g := (mkF m 10 #[.val (.ref q), .val (.int (1 : Int32))] [(.ref q), (.ref d1)])) rfl rfl (hb hby dFD_10)
 obtain ⟨cl616, Ar616, q616, S616, N616, H616, G616⟩ := id V_d1
 have hin616 : ¬ ((0 : Int32) < 0 ∨ cl616.slots.size ≤ ((0 : Int32)).toNatClampNeg) := (inb_of S616 ⟨by decide, by decide⟩)
 have hat616 : cl616.slots[((0 : Int32)).toNatClampNeg]? = some (.double (FP.l2d x0)) := (H616.at (inb_of S616 ⟨by decide, by decide⟩) rfl)
 obtain ⟨fs, hr, hrun, hended, hW, hsame⟩ := X615.leave (v := some (.double (FP.l2d x0))) (fun h => by rw [Bd.returns] at h; cases h)
 refine ⟨_, _, ?_, hrun, hended, _, _, rfl, ?_, ⟨_, rfl⟩, hW, hsame.mono (by decide) (by decide)⟩
 ·refine pre0 _ ?_
  show Steps _ _ _ (s₁.setTop (mkF m 0 #[.val (.ref q), .val (.int (1 : Int32))] [])) _
  refine XS.aloadN X0.here hx rfl (hb hby dFD_0) rfl rfl ?_
  refine st612 _ ?_
  refine st613 _ ?_
  refine XS.iloadN X613.here hx rfl (hb hby dFD_7) rfl ?_
  show Steps _ _ _ (T613.setTop (mkF m 8 #[.val (.ref q), .val (.int (1 : Int32))] [(.int (1 : Int32)), (.ref bd)])) _
  refine X613.aaload hx (j := (1 : Int32)) (v := (.ref d1)) (by rw [e613]; exact Ar614.1) (State.isArrayOf_alike hZ.alike Ar614.2.1) rfl Ar614.2.2 hin614 hat614 (g := (mkF m 8 #[.val (.ref q), .val (.int (1 : Int32))] [(.int (1 : Int32)), (.ref bd)])) rfl rfl (hb hby dFD_8) _ ?_
  refine XS.aloadN X613.here hx rfl (hb hby dFD_9) rfl rfl ?_
  refine st615 _ ?_
  show Steps _ _ _ (T615.setTop (mkF m 13 #[.val (.ref q), .val (.int (1 : Int32))] [(.int (0 : Int32)), (.ref d1)])) _
  refine X615.daload hx (j := (0 : Int32)) (v := (.double (FP.l2d x0))) (by rw [e615]; exact Ar616.1) (State.isArrayOf_alike hZ.alike Ar616.2.1) Ar616.2.2 hin616 hat616 (g := (mkF m 13 #[.val (.ref q), .val (.int (1 : Int32))] [(.int (0 : Int32)), (.ref d1)])) rfl rfl (hb hby dFD_13) _ ?_
  show Steps _ _ _ (T615.setTop (mkF m 14 #[.val (.ref q), .val (.int (1 : Int32))] [(.double (FP.l2d x0))])) _
  exact retD X615 hx Bd.returns (hb hby dFD_14) hr
 ·show QFD10 Z q b bd d0 d1 kbd kd x0 x1 h0 n0 _ T615.heap _
  rw [e615]
  exact ⟨rfl, N0, rfl⟩
theorem ef_FI1 (m : MethodId) (x0 : Addr) : entryFrame m #[(.ref x0), (.int (0 : Int32))] 2 = mkF m 0 #[.val (.ref x0), .val (.int (0 : Int32))] [] := by first | (simp [entryFrame, mkF, argsToLocals, Value.category]; done) | rfl
def QFI1 (Z : State) (q : Addr) (b : Addr) (bi : Addr) (i0 : Addr) (kbi : ClassId) (ki : ClassId) (x0 : Int32) (x1 : Int32) (h0 : Heap) (n0 : Nat) (v : Option Value) (h : Heap) (L : List Loc) : Prop := v = some (.int x1) ∧ Fr n0 L ∧ h = h0
set_option maxRecDepth 65536 in
set_option maxHeartbeats 40000000 in
theorem rmFI1 (l : Launch) (Z : State) (a0 : Array Value) (hw : HW Z a0) (ws : List Jvm.Cond) (q : Addr) (b : Addr) (bi : Addr) (i0 : Addr) (kbi : ClassId) (ki : ClassId) (x0 : Int32) (x1 : Int32) (h0 : Heap) (n0 : Nat) (Z0 : n0 ≤ h0.size) (F_q_first : Fld Z h0 q sRQ "first" dBK (.ref b)) (F_q_head : Fld Z h0 q sRQ "head" "I" (.int (1 : Int32))) (F_b_ints : Fld Z h0 b sBK "ints" "[[I" (.ref bi)) (V_bi : Arv Z h0 bi kbi (.array .int) (1 : Int32) [(.ref i0)] .null) (V_i0 : Arv Z h0 i0 ki .int (16 : Int32) [(.int x0), (.int x1)] (.int (0 : Int32))) :
  MetFree l (⟨sRQ, "firstInt", "(I)I"⟩ : MethodName) (head1 (Jvm.Cond.code (⟨sRQ, "firstInt", "(I)I"⟩ : MethodName) prog_65_method_7_code 2 (some .int) :: ws) (Rm 0 0 0 0)) (fun a U => a = #[(.ref q), (.int (0 : Int32))] ∧ Z.Warmed39 U.vm ∧ U.heap = h0) (fun _ _ _ _ _ => True) (fun _ U o U' => ∃ v L, o = .returned v ∧ QFI1 Z q b bi i0 kbi ki x0 x1 h0 n0 v U'.heap L ∧ FrameEnd U o U' L (Rm 0 0 0 0).cells (Rm 0 0 0 0).slots) := by
 refine MetFree.of_bodySF (plainFor_of_name pn_com_example_frugal_weir_frugalweir_replay_RecordQueue) hisR ?_
 intro p e s m args below meth c s₁ Bd hml0 hP hK
 obtain ⟨rfl, hZ, hh⟩ := hP
 have hx := Bd.exec
 have hby := Bd.bytes
 have hml : c.maxLocals = 2 := hml0
 have hown : s.vm.findClass sRQ = some m.cls := findClass_of_methodNamed Bd.named
 have hnm := (name_of_methodNamed Bd.named Bd.method).1
 have X0 : Stand p l e (Rm 0 0 0 0) s m #[(.ref q), (.int (0 : Int32))] below meth c s₁ [] 0 0 := Stand.of_body Bd
 have e0 : s₁.heap = h0 := by rw [← hh, Bd.state]; rfl
 have N0 := Fr.nil n0
 have K0 : Keep h0 h0 [] := Keep.refl h0 []
 have pre0 : ∀ t, Steps p.tables e below (s₁.setTop (mkF m 0 #[.val (.ref q), .val (.int (0 : Int32))] [])) t → Steps p.tables e below (s₁.setTop (entryFrame m #[(.ref q), (.int (0 : Int32))] 2)) t := fun t k => castTop (ef_FI1 m q) k
 obtain ⟨T617, X617, e617, st617⟩ := getF X0 hx hZ hown (host := "") (Or.inl (wd hw 125 rfl)) Via.refl e0 F_q_first (g := (mkF m 1 #[.val (.ref q), .val (.int (0 : Int32))] [(.ref q)])) rfl rfl (hb hby dFI_1)
 obtain ⟨T618, X618, e618, st618⟩ := own_getFR X617 hx hZ hown (wd hw 132 rfl) e617 F_b_ints (g := (mkF m 4 #[.val (.ref q), .val (.int (0 : Int32))] [(.ref b)])) rfl rfl (hb hby dFI_4)
 obtain ⟨cl619, Ar619, q619, S619, N619, H619, G619⟩ := id V_bi
 have hin619 : ¬ ((0 : Int32) < 0 ∨ cl619.slots.size ≤ ((0 : Int32)).toNatClampNeg) := (inb_of S619 ⟨by decide, by decide⟩)
 have hat619 : cl619.slots[((0 : Int32)).toNatClampNeg]? = some (.ref i0) := (H619.at (inb_of S619 ⟨by decide, by decide⟩) rfl)
 obtain ⟨T620, X620, e620, st620⟩ := getF X618 hx hZ hown (host := "") (Or.inl (wd hw 173 rfl)) Via.refl e618 F_q_head (g := (mkF m 10 #[.val (.ref q), .val (.int (0 : Int32))] [(.ref q), (.ref i0)])) rfl rfl (hb hby dFI_10)
 obtain ⟨cl621, Ar621, q621, S621, N621, H621, G621⟩ := id V_i0
 have hin621 : ¬ ((1 : Int32) < 0 ∨ cl621.slots.size ≤ ((1 : Int32)).toNatClampNeg) := (inb_of S621 ⟨by decide, by decide⟩)
 have hat621 : cl621.slots[((1 : Int32)).toNatClampNeg]? = some (.int x1) := (H621.at (inb_of S621 ⟨by decide, by decide⟩) rfl)
 obtain ⟨fs, hr, hrun, hended, hW, hsame⟩ := X620.leave (v := some (.int x1)) (fun h => by rw [Bd.returns] at h; cases h)
 refine ⟨_, _, ?_, hrun, hended, _, _, rfl, ?_, ⟨_, rfl⟩, hW, hsame.mono (by decide) (by decide)⟩
 ·refine pre0 _ ?_
  show Steps _ _ _ (s₁.setTop (mkF m 0 #[.val (.ref q), .val (.int (0 : Int32))] [])) _
  refine XS.aloadN X0.here hx rfl (hb hby dFI_0) rfl rfl ?_
  refine st617 _ ?_
  refine st618 _ ?_
  refine XS.iloadN X618.here hx rfl (hb hby dFI_7) rfl ?_
  show Steps _ _ _ (T618.setTop (mkF m 8 #[.val (.ref q), .val (.int (0 : Int32))] [(.int (0 : Int32)), (.ref bi)])) _
  refine X618.aaload hx (j := (0 : Int32)) (v := (.ref i0)) (by rw [e618]; exact Ar619.1) (State.isArrayOf_alike hZ.alike Ar619.2.1) rfl Ar619.2.2 hin619 hat619 (g := (mkF m 8 #[.val (.ref q), .val (.int (0 : Int32))] [(.int (0 : Int32)), (.ref bi)])) rfl rfl (hb hby dFI_8) _ ?_
  refine XS.aloadN X618.here hx rfl (hb hby dFI_9) rfl rfl ?_
  refine st620 _ ?_
  show Steps _ _ _ (T620.setTop (mkF m 13 #[.val (.ref q), .val (.int (0 : Int32))] [(.int (1 : Int32)), (.ref i0)])) _
  refine X620.iaload hx (j := (1 : Int32)) (v := (.int x1)) (by rw [e620]; exact Ar621.1) (State.isArrayOf_alike hZ.alike Ar621.2.1) Ar621.2.2 hin621 hat621 (g := (mkF m 13 #[.val (.ref q), .val (.int (0 : Int32))] [(.int (1 : Int32)), (.ref i0)])) rfl rfl (hb hby dFI_13) _ ?_
  show Steps _ _ _ (T620.setTop (mkF m 14 #[.val (.ref q), .val (.int (0 : Int32))] [(.int x1)])) _
  exact retI X620 hx Bd.returns (hb hby dFI_14) hr
 ·show QFI1 Z q b bi i0 kbi ki x0 x1 h0 n0 _ T620.heap _
  rw [e620]
  exact ⟨rfl, N0, rfl⟩
theorem ef_FD01 (m : MethodId) (x0 : Addr) : entryFrame m #[(.ref x0), (.int (0 : Int32))] 2 = mkF m 0 #[.val (.ref x0), .val (.int (0 : Int32))] [] := by first | (simp [entryFrame, mkF, argsToLocals, Value.category]; done) | rfl
def QFD01 (Z : State) (q : Addr) (b : Addr) (bd : Addr) (d0 : Addr) (d1 : Addr) (kbd : ClassId) (kd : ClassId) (x0 : Int64) (x1 : Int64) (h0 : Heap) (n0 : Nat) (v : Option Value) (h : Heap) (L : List Loc) : Prop := v = some (.double (FP.l2d x1)) ∧ Fr n0 L ∧ h = h0
set_option maxRecDepth 65536 in
set_option maxHeartbeats 40000000 in
theorem rmFD01 (l : Launch) (Z : State) (a0 : Array Value) (hw : HW Z a0) (ws : List Jvm.Cond) (q : Addr) (b : Addr) (bd : Addr) (d0 : Addr) (d1 : Addr) (kbd : ClassId) (kd : ClassId) (x0 : Int64) (x1 : Int64) (h0 : Heap) (n0 : Nat) (Z0 : n0 ≤ h0.size) (F_q_first : Fld Z h0 q sRQ "first" dBK (.ref b)) (F_q_head : Fld Z h0 q sRQ "head" "I" (.int (1 : Int32))) (F_b_doubles : Fld Z h0 b sBK "doubles" "[[D" (.ref bd)) (V_bd : Arv Z h0 bd kbd (.array .double) (2 : Int32) [(.ref d0), (.ref d1)] .null) (V_d0 : Arv Z h0 d0 kd .double (16 : Int32) [(.double (FP.l2d x0)), (.double (FP.l2d x1))] (.double (FP.l2d 0))) :
  MetFree l (⟨sRQ, "firstDouble", "(I)D"⟩ : MethodName) (head1 (Jvm.Cond.code (⟨sRQ, "firstDouble", "(I)D"⟩ : MethodName) prog_65_method_8_code 2 (some .double) :: ws) (Rm 0 0 0 0)) (fun a U => a = #[(.ref q), (.int (0 : Int32))] ∧ Z.Warmed39 U.vm ∧ U.heap = h0) (fun _ _ _ _ _ => True) (fun _ U o U' => ∃ v L, o = .returned v ∧ QFD01 Z q b bd d0 d1 kbd kd x0 x1 h0 n0 v U'.heap L ∧ FrameEnd U o U' L (Rm 0 0 0 0).cells (Rm 0 0 0 0).slots) := by
 refine MetFree.of_bodySF (plainFor_of_name pn_com_example_frugal_weir_frugalweir_replay_RecordQueue) hisR ?_
 intro p e s m args below meth c s₁ Bd hml0 hP hK
 obtain ⟨rfl, hZ, hh⟩ := hP
 have hx := Bd.exec
 have hby := Bd.bytes
 have hml : c.maxLocals = 2 := hml0
 have hown : s.vm.findClass sRQ = some m.cls := findClass_of_methodNamed Bd.named
 have hnm := (name_of_methodNamed Bd.named Bd.method).1
 have X0 : Stand p l e (Rm 0 0 0 0) s m #[(.ref q), (.int (0 : Int32))] below meth c s₁ [] 0 0 := Stand.of_body Bd
 have e0 : s₁.heap = h0 := by rw [← hh, Bd.state]; rfl
 have N0 := Fr.nil n0
 have K0 : Keep h0 h0 [] := Keep.refl h0 []
 have pre0 : ∀ t, Steps p.tables e below (s₁.setTop (mkF m 0 #[.val (.ref q), .val (.int (0 : Int32))] [])) t → Steps p.tables e below (s₁.setTop (entryFrame m #[(.ref q), (.int (0 : Int32))] 2)) t := fun t k => castTop (ef_FD01 m q) k
 obtain ⟨T622, X622, e622, st622⟩ := getF X0 hx hZ hown (host := "") (Or.inl (wd hw 125 rfl)) Via.refl e0 F_q_first (g := (mkF m 1 #[.val (.ref q), .val (.int (0 : Int32))] [(.ref q)])) rfl rfl (hb hby dFD_1)
 obtain ⟨T623, X623, e623, st623⟩ := own_getFR X622 hx hZ hown (wd hw 138 rfl) e622 F_b_doubles (g := (mkF m 4 #[.val (.ref q), .val (.int (0 : Int32))] [(.ref b)])) rfl rfl (hb hby dFD_4)
 obtain ⟨cl624, Ar624, q624, S624, N624, H624, G624⟩ := id V_bd
 have hin624 : ¬ ((0 : Int32) < 0 ∨ cl624.slots.size ≤ ((0 : Int32)).toNatClampNeg) := (inb_of S624 ⟨by decide, by decide⟩)
 have hat624 : cl624.slots[((0 : Int32)).toNatClampNeg]? = some (.ref d0) := (H624.at (inb_of S624 ⟨by decide, by decide⟩) rfl)
 obtain ⟨T625, X625, e625, st625⟩ := getF X623 hx hZ hown (host := "") (Or.inl (wd hw 173 rfl)) Via.refl e623 F_q_head (g := (mkF m 10 #[.val (.ref q), .val (.int (0 : Int32))] [(.ref q), (.ref d0)])) rfl rfl (hb hby dFD_10)
 obtain ⟨cl626, Ar626, q626, S626, N626, H626, G626⟩ := id V_d0
 have hin626 : ¬ ((1 : Int32) < 0 ∨ cl626.slots.size ≤ ((1 : Int32)).toNatClampNeg) := (inb_of S626 ⟨by decide, by decide⟩)
 have hat626 : cl626.slots[((1 : Int32)).toNatClampNeg]? = some (.double (FP.l2d x1)) := (H626.at (inb_of S626 ⟨by decide, by decide⟩) rfl)
 obtain ⟨fs, hr, hrun, hended, hW, hsame⟩ := X625.leave (v := some (.double (FP.l2d x1))) (fun h => by rw [Bd.returns] at h; cases h)
 refine ⟨_, _, ?_, hrun, hended, _, _, rfl, ?_, ⟨_, rfl⟩, hW, hsame.mono (by decide) (by decide)⟩
 ·refine pre0 _ ?_
  show Steps _ _ _ (s₁.setTop (mkF m 0 #[.val (.ref q), .val (.int (0 : Int32))] [])) _
  refine XS.aloadN X0.here hx rfl (hb hby dFD_0) rfl rfl ?_
  refine st622 _ ?_
  refine st623 _ ?_
  refine XS.iloadN X623.here hx rfl (hb hby dFD_7) rfl ?_
  show Steps _ _ _ (T623.setTop (mkF m 8 #[.val (.ref q), .val (.int (0 : Int32))] [(.int (0 : Int32)), (.ref bd)])) _
  refine X623.aaload hx (j := (0 : Int32)) (v := (.ref d0)) (by rw [e623]; exact Ar624.1) (State.isArrayOf_alike hZ.alike Ar624.2.1) rfl Ar624.2.2 hin624 hat624 (g := (mkF m 8 #[.val (.ref q), .val (.int (0 : Int32))] [(.int (0 : Int32)), (.ref bd)])) rfl rfl (hb hby dFD_8) _ ?_
  refine XS.aloadN X623.here hx rfl (hb hby dFD_9) rfl rfl ?_
  refine st625 _ ?_
  show Steps _ _ _ (T625.setTop (mkF m 13 #[.val (.ref q), .val (.int (0 : Int32))] [(.int (1 : Int32)), (.ref d0)])) _
  refine X625.daload hx (j := (1 : Int32)) (v := (.double (FP.l2d x1))) (by rw [e625]; exact Ar626.1) (State.isArrayOf_alike hZ.alike Ar626.2.1) Ar626.2.2 hin626 hat626 (g := (mkF m 13 #[.val (.ref q), .val (.int (0 : Int32))] [(.int (1 : Int32)), (.ref d0)])) rfl rfl (hb hby dFD_13) _ ?_
  show Steps _ _ _ (T625.setTop (mkF m 14 #[.val (.ref q), .val (.int (0 : Int32))] [(.double (FP.l2d x1))])) _
  exact retD X625 hx Bd.returns (hb hby dFD_14) hr
 ·show QFD01 Z q b bd d0 d1 kbd kd x0 x1 h0 n0 _ T625.heap _
  rw [e625]
  exact ⟨rfl, N0, rfl⟩
theorem ef_FD11 (m : MethodId) (x0 : Addr) : entryFrame m #[(.ref x0), (.int (1 : Int32))] 2 = mkF m 0 #[.val (.ref x0), .val (.int (1 : Int32))] [] := by first | (simp [entryFrame, mkF, argsToLocals, Value.category]; done) | rfl
def QFD11 (Z : State) (q : Addr) (b : Addr) (bd : Addr) (d0 : Addr) (d1 : Addr) (kbd : ClassId) (kd : ClassId) (x0 : Int64) (x1 : Int64) (h0 : Heap) (n0 : Nat) (v : Option Value) (h : Heap) (L : List Loc) : Prop := v = some (.double (FP.l2d x1)) ∧ Fr n0 L ∧ h = h0
set_option maxRecDepth 65536 in
set_option maxHeartbeats 40000000 in
theorem rmFD11 (l : Launch) (Z : State) (a0 : Array Value) (hw : HW Z a0) (ws : List Jvm.Cond) (q : Addr) (b : Addr) (bd : Addr) (d0 : Addr) (d1 : Addr) (kbd : ClassId) (kd : ClassId) (x0 : Int64) (x1 : Int64) (h0 : Heap) (n0 : Nat) (Z0 : n0 ≤ h0.size) (F_q_first : Fld Z h0 q sRQ "first" dBK (.ref b)) (F_q_head : Fld Z h0 q sRQ "head" "I" (.int (1 : Int32))) (F_b_doubles : Fld Z h0 b sBK "doubles" "[[D" (.ref bd)) (V_bd : Arv Z h0 bd kbd (.array .double) (2 : Int32) [(.ref d0), (.ref d1)] .null) (V_d1 : Arv Z h0 d1 kd .double (16 : Int32) [(.double (FP.l2d x0)), (.double (FP.l2d x1))] (.double (FP.l2d 0))) :
  MetFree l (⟨sRQ, "firstDouble", "(I)D"⟩ : MethodName) (head1 (Jvm.Cond.code (⟨sRQ, "firstDouble", "(I)D"⟩ : MethodName) prog_65_method_8_code 2 (some .double) :: ws) (Rm 0 0 0 0)) (fun a U => a = #[(.ref q), (.int (1 : Int32))] ∧ Z.Warmed39 U.vm ∧ U.heap = h0) (fun _ _ _ _ _ => True) (fun _ U o U' => ∃ v L, o = .returned v ∧ QFD11 Z q b bd d0 d1 kbd kd x0 x1 h0 n0 v U'.heap L ∧ FrameEnd U o U' L (Rm 0 0 0 0).cells (Rm 0 0 0 0).slots) := by
 refine MetFree.of_bodySF (plainFor_of_name pn_com_example_frugal_weir_frugalweir_replay_RecordQueue) hisR ?_
 intro p e s m args below meth c s₁ Bd hml0 hP hK
 obtain ⟨rfl, hZ, hh⟩ := hP
 have hx := Bd.exec
 have hby := Bd.bytes
 have hml : c.maxLocals = 2 := hml0
 have hown : s.vm.findClass sRQ = some m.cls := findClass_of_methodNamed Bd.named
 have hnm := (name_of_methodNamed Bd.named Bd.method).1
 have X0 : Stand p l e (Rm 0 0 0 0) s m #[(.ref q), (.int (1 : Int32))] below meth c s₁ [] 0 0 := Stand.of_body Bd
 have e0 : s₁.heap = h0 := by rw [← hh, Bd.state]; rfl
 have N0 := Fr.nil n0
 have K0 : Keep h0 h0 [] := Keep.refl h0 []
 have pre0 : ∀ t, Steps p.tables e below (s₁.setTop (mkF m 0 #[.val (.ref q), .val (.int (1 : Int32))] [])) t → Steps p.tables e below (s₁.setTop (entryFrame m #[(.ref q), (.int (1 : Int32))] 2)) t := fun t k => castTop (ef_FD11 m q) k
 obtain ⟨T627, X627, e627, st627⟩ := getF X0 hx hZ hown (host := "") (Or.inl (wd hw 125 rfl)) Via.refl e0 F_q_first (g := (mkF m 1 #[.val (.ref q), .val (.int (1 : Int32))] [(.ref q)])) rfl rfl (hb hby dFD_1)
 obtain ⟨T628, X628, e628, st628⟩ := own_getFR X627 hx hZ hown (wd hw 138 rfl) e627 F_b_doubles (g := (mkF m 4 #[.val (.ref q), .val (.int (1 : Int32))] [(.ref b)])) rfl rfl (hb hby dFD_4)
 obtain ⟨cl629, Ar629, q629, S629, N629, H629, G629⟩ := id V_bd
 have hin629 : ¬ ((1 : Int32) < 0 ∨ cl629.slots.size ≤ ((1 : Int32)).toNatClampNeg) := (inb_of S629 ⟨by decide, by decide⟩)
 have hat629 : cl629.slots[((1 : Int32)).toNatClampNeg]? = some (.ref d1) := (H629.at (inb_of S629 ⟨by decide, by decide⟩) rfl)
 obtain ⟨T630, X630, e630, st630⟩ := getF X628 hx hZ hown (host := "") (Or.inl (wd hw 173 rfl)) Via.refl e628 F_q_head (g := (mkF m 10 #[.val (.ref q), .val (.int (1 : Int32))] [(.ref q), (.ref d1)])) rfl rfl (hb hby dFD_10)
 obtain ⟨cl631, Ar631, q631, S631, N631, H631, G631⟩ := id V_d1
 have hin631 : ¬ ((1 : Int32) < 0 ∨ cl631.slots.size ≤ ((1 : Int32)).toNatClampNeg) := (inb_of S631 ⟨by decide, by decide⟩)
 have hat631 : cl631.slots[((1 : Int32)).toNatClampNeg]? = some (.double (FP.l2d x1)) := (H631.at (inb_of S631 ⟨by decide, by decide⟩) rfl)
 obtain ⟨fs, hr, hrun, hended, hW, hsame⟩ := X630.leave (v := some (.double (FP.l2d x1))) (fun h => by rw [Bd.returns] at h; cases h)
 refine ⟨_, _, ?_, hrun, hended, _, _, rfl, ?_, ⟨_, rfl⟩, hW, hsame.mono (by decide) (by decide)⟩
 ·refine pre0 _ ?_
  show Steps _ _ _ (s₁.setTop (mkF m 0 #[.val (.ref q), .val (.int (1 : Int32))] [])) _
  refine XS.aloadN X0.here hx rfl (hb hby dFD_0) rfl rfl ?_
  refine st627 _ ?_
  refine st628 _ ?_
  refine XS.iloadN X628.here hx rfl (hb hby dFD_7) rfl ?_
  show Steps _ _ _ (T628.setTop (mkF m 8 #[.val (.ref q), .val (.int (1 : Int32))] [(.int (1 : Int32)), (.ref bd)])) _
  refine X628.aaload hx (j := (1 : Int32)) (v := (.ref d1)) (by rw [e628]; exact Ar629.1) (State.isArrayOf_alike hZ.alike Ar629.2.1) rfl Ar629.2.2 hin629 hat629 (g := (mkF m 8 #[.val (.ref q), .val (.int (1 : Int32))] [(.int (1 : Int32)), (.ref bd)])) rfl rfl (hb hby dFD_8) _ ?_
  refine XS.aloadN X628.here hx rfl (hb hby dFD_9) rfl rfl ?_
  refine st630 _ ?_
  show Steps _ _ _ (T630.setTop (mkF m 13 #[.val (.ref q), .val (.int (1 : Int32))] [(.int (1 : Int32)), (.ref d1)])) _
  refine X630.daload hx (j := (1 : Int32)) (v := (.double (FP.l2d x1))) (by rw [e630]; exact Ar631.1) (State.isArrayOf_alike hZ.alike Ar631.2.1) Ar631.2.2 hin631 hat631 (g := (mkF m 13 #[.val (.ref q), .val (.int (1 : Int32))] [(.int (1 : Int32)), (.ref d1)])) rfl rfl (hb hby dFD_13) _ ?_
  show Steps _ _ _ (T630.setTop (mkF m 14 #[.val (.ref q), .val (.int (1 : Int32))] [(.double (FP.l2d x1))])) _
  exact retD X630 hx Bd.returns (hb hby dFD_14) hr
 ·show QFD11 Z q b bd d0 d1 kbd kd x0 x1 h0 n0 _ T630.heap _
  rw [e630]
  exact ⟨rfl, N0, rfl⟩
theorem dIE_0 : decode prog_65_method_2_code 0 = .ok (.aload_n 0, 1) := by decide +kernel
theorem dIE_1 : decode prog_65_method_2_code 1 = .ok (.getfield 23, 3) := by decide +kernel
theorem dIE_4 : decode prog_65_method_2_code 4 = .ok (.ifCond .ne 7, 3) := by decide +kernel
theorem dIE_7 : decode prog_65_method_2_code 7 = .ok (.iconst 1, 1) := by decide +kernel
theorem dIE_8 : decode prog_65_method_2_code 8 = .ok (.goto 4, 3) := by decide +kernel
theorem dIE_12 : decode prog_65_method_2_code 12 = .ok (.ireturn, 1) := by decide +kernel
theorem ef_IE0 (m : MethodId) (x0 : Addr) : entryFrame m #[(.ref x0)] 1 = mkF m 0 #[.val (.ref x0)] [] := by first | (simp [entryFrame, mkF, argsToLocals, Value.category]; done) | rfl
def QIE0 (Z : State) (q : Addr) (h0 : Heap) (n0 : Nat) (v : Option Value) (h : Heap) (L : List Loc) : Prop := v = some (.int (1 : Int32)) ∧ Fr n0 L ∧ h = h0
set_option maxRecDepth 65536 in
set_option maxHeartbeats 40000000 in
theorem rmIE0 (l : Launch) (Z : State) (a0 : Array Value) (hw : HW Z a0) (ws : List Jvm.Cond) (q : Addr) (h0 : Heap) (n0 : Nat) (Z0 : n0 ≤ h0.size) (F_q_size : Fld Z h0 q sRQ "size" "I" (.int (0 : Int32))) :
  MetFree l (⟨sRQ, "isEmpty", "()Z"⟩ : MethodName) (head1 (Jvm.Cond.code (⟨sRQ, "isEmpty", "()Z"⟩ : MethodName) prog_65_method_2_code 1 (some .boolean) :: ws) (Rm 0 0 0 0)) (fun a U => a = #[(.ref q)] ∧ Z.Warmed39 U.vm ∧ U.heap = h0) (fun _ _ _ _ _ => True) (fun _ U o U' => ∃ v L, o = .returned v ∧ QIE0 Z q h0 n0 v U'.heap L ∧ FrameEnd U o U' L (Rm 0 0 0 0).cells (Rm 0 0 0 0).slots) := by
 refine MetFree.of_bodySF (plainFor_of_name pn_com_example_frugal_weir_frugalweir_replay_RecordQueue) hisR ?_
 intro p e s m args below meth c s₁ Bd hml0 hP hK
 obtain ⟨rfl, hZ, hh⟩ := hP
 have hx := Bd.exec
 have hby := Bd.bytes
 have hml : c.maxLocals = 1 := hml0
 have hown : s.vm.findClass sRQ = some m.cls := findClass_of_methodNamed Bd.named
 have hnm := (name_of_methodNamed Bd.named Bd.method).1
 have X0 : Stand p l e (Rm 0 0 0 0) s m #[(.ref q)] below meth c s₁ [] 0 0 := Stand.of_body Bd
 have e0 : s₁.heap = h0 := by rw [← hh, Bd.state]; rfl
 have N0 := Fr.nil n0
 have K0 : Keep h0 h0 [] := Keep.refl h0 []
 have pre0 : ∀ t, Steps p.tables e below (s₁.setTop (mkF m 0 #[.val (.ref q)] [])) t → Steps p.tables e below (s₁.setTop (entryFrame m #[(.ref q)] 1)) t := fun t k => castTop (ef_IE0 m q) k
 obtain ⟨T632, X632, e632, st632⟩ := getF X0 hx hZ hown (host := "") (Or.inl (wd hw 80 rfl)) Via.refl e0 F_q_size (g := (mkF m 1 #[.val (.ref q)] [(.ref q)])) rfl rfl (hb hby dIE_1)
 obtain ⟨fs, hr, hrun, hended, hW, hsame⟩ := X632.leave (v := some (.int (1 : Int32))) (fun h => by rw [Bd.returns] at h; cases h)
 refine ⟨_, _, ?_, hrun, hended, _, _, rfl, ?_, ⟨_, rfl⟩, hW, hsame.mono (by decide) (by decide)⟩
 ·refine pre0 _ ?_
  show Steps _ _ _ (s₁.setTop (mkF m 0 #[.val (.ref q)] [])) _
  refine XS.aloadN X0.here hx rfl (hb hby dIE_0) rfl rfl ?_
  refine st632 _ ?_
  refine XS.ifNo X632.here hx rfl (hb hby dIE_4) rfl (by decide) ?_
  refine XS.iconst X632.here hx rfl (hb hby dIE_7) ?_
  show Steps _ _ _ (T632.setTop (mkF m 8 #[.val (.ref q)] [(.int (1 : Int32))])) _
  refine XS.goto X632.here hx rfl (pc0 := 8) (pc' := 12) rfl (hb hby dIE_8) (by decide) (by decide) ?_
  show Steps _ _ _ (T632.setTop (mkF m 12 #[.val (.ref q)] [(.int (1 : Int32))])) _
  exact retN X632 hx (t := .boolean) Bd.returns (by simp) (hb hby dIE_12) hr
 ·show QIE0 Z q h0 n0 _ T632.heap _
  rw [e632]
  exact ⟨rfl, N0, rfl⟩
theorem dIE_11 : decode prog_65_method_2_code 11 = .ok (.iconst 0, 1) := by decide +kernel
theorem ef_IE1 (m : MethodId) (x0 : Addr) : entryFrame m #[(.ref x0)] 1 = mkF m 0 #[.val (.ref x0)] [] := by first | (simp [entryFrame, mkF, argsToLocals, Value.category]; done) | rfl
def QIE1 (Z : State) (q : Addr) (h0 : Heap) (n0 : Nat) (v : Option Value) (h : Heap) (L : List Loc) : Prop := v = some (.int (0 : Int32)) ∧ Fr n0 L ∧ h = h0
set_option maxRecDepth 65536 in
set_option maxHeartbeats 40000000 in
theorem rmIE1 (l : Launch) (Z : State) (a0 : Array Value) (hw : HW Z a0) (ws : List Jvm.Cond) (q : Addr) (h0 : Heap) (n0 : Nat) (Z0 : n0 ≤ h0.size) (F_q_size : Fld Z h0 q sRQ "size" "I" (.int (1 : Int32))) :
  MetFree l (⟨sRQ, "isEmpty", "()Z"⟩ : MethodName) (head1 (Jvm.Cond.code (⟨sRQ, "isEmpty", "()Z"⟩ : MethodName) prog_65_method_2_code 1 (some .boolean) :: ws) (Rm 0 0 0 0)) (fun a U => a = #[(.ref q)] ∧ Z.Warmed39 U.vm ∧ U.heap = h0) (fun _ _ _ _ _ => True) (fun _ U o U' => ∃ v L, o = .returned v ∧ QIE1 Z q h0 n0 v U'.heap L ∧ FrameEnd U o U' L (Rm 0 0 0 0).cells (Rm 0 0 0 0).slots) := by
 refine MetFree.of_bodySF (plainFor_of_name pn_com_example_frugal_weir_frugalweir_replay_RecordQueue) hisR ?_
 intro p e s m args below meth c s₁ Bd hml0 hP hK
 obtain ⟨rfl, hZ, hh⟩ := hP
 have hx := Bd.exec
 have hby := Bd.bytes
 have hml : c.maxLocals = 1 := hml0
 have hown : s.vm.findClass sRQ = some m.cls := findClass_of_methodNamed Bd.named
 have hnm := (name_of_methodNamed Bd.named Bd.method).1
 have X0 : Stand p l e (Rm 0 0 0 0) s m #[(.ref q)] below meth c s₁ [] 0 0 := Stand.of_body Bd
 have e0 : s₁.heap = h0 := by rw [← hh, Bd.state]; rfl
 have N0 := Fr.nil n0
 have K0 : Keep h0 h0 [] := Keep.refl h0 []
 have pre0 : ∀ t, Steps p.tables e below (s₁.setTop (mkF m 0 #[.val (.ref q)] [])) t → Steps p.tables e below (s₁.setTop (entryFrame m #[(.ref q)] 1)) t := fun t k => castTop (ef_IE1 m q) k
 obtain ⟨T633, X633, e633, st633⟩ := getF X0 hx hZ hown (host := "") (Or.inl (wd hw 80 rfl)) Via.refl e0 F_q_size (g := (mkF m 1 #[.val (.ref q)] [(.ref q)])) rfl rfl (hb hby dIE_1)
 obtain ⟨fs, hr, hrun, hended, hW, hsame⟩ := X633.leave (v := some (.int (0 : Int32))) (fun h => by rw [Bd.returns] at h; cases h)
 refine ⟨_, _, ?_, hrun, hended, _, _, rfl, ?_, ⟨_, rfl⟩, hW, hsame.mono (by decide) (by decide)⟩
 ·refine pre0 _ ?_
  show Steps _ _ _ (s₁.setTop (mkF m 0 #[.val (.ref q)] [])) _
  refine XS.aloadN X0.here hx rfl (hb hby dIE_0) rfl rfl ?_
  refine st633 _ ?_
  refine XS.ifYes X633.here hx rfl (pc0 := 4) (pc' := 11) rfl (hb hby dIE_4) rfl (by decide) (by decide) (by decide) ?_
  refine XS.iconst X633.here hx rfl (hb hby dIE_11) ?_
  show Steps _ _ _ (T633.setTop (mkF m 12 #[.val (.ref q)] [(.int (0 : Int32))])) _
  exact retN X633 hx (t := .boolean) Bd.returns (by simp) (hb hby dIE_12) hr
 ·show QIE1 Z q h0 n0 _ T633.heap _
  rw [e633]
  exact ⟨rfl, N0, rfl⟩
theorem ef_IE2 (m : MethodId) (x0 : Addr) : entryFrame m #[(.ref x0)] 1 = mkF m 0 #[.val (.ref x0)] [] := by first | (simp [entryFrame, mkF, argsToLocals, Value.category]; done) | rfl
def QIE2 (Z : State) (q : Addr) (h0 : Heap) (n0 : Nat) (v : Option Value) (h : Heap) (L : List Loc) : Prop := v = some (.int (0 : Int32)) ∧ Fr n0 L ∧ h = h0
set_option maxRecDepth 65536 in
set_option maxHeartbeats 40000000 in
theorem rmIE2 (l : Launch) (Z : State) (a0 : Array Value) (hw : HW Z a0) (ws : List Jvm.Cond) (q : Addr) (h0 : Heap) (n0 : Nat) (Z0 : n0 ≤ h0.size) (F_q_size : Fld Z h0 q sRQ "size" "I" (.int (2 : Int32))) :
  MetFree l (⟨sRQ, "isEmpty", "()Z"⟩ : MethodName) (head1 (Jvm.Cond.code (⟨sRQ, "isEmpty", "()Z"⟩ : MethodName) prog_65_method_2_code 1 (some .boolean) :: ws) (Rm 0 0 0 0)) (fun a U => a = #[(.ref q)] ∧ Z.Warmed39 U.vm ∧ U.heap = h0) (fun _ _ _ _ _ => True) (fun _ U o U' => ∃ v L, o = .returned v ∧ QIE2 Z q h0 n0 v U'.heap L ∧ FrameEnd U o U' L (Rm 0 0 0 0).cells (Rm 0 0 0 0).slots) := by
 refine MetFree.of_bodySF (plainFor_of_name pn_com_example_frugal_weir_frugalweir_replay_RecordQueue) hisR ?_
 intro p e s m args below meth c s₁ Bd hml0 hP hK
 obtain ⟨rfl, hZ, hh⟩ := hP
 have hx := Bd.exec
 have hby := Bd.bytes
 have hml : c.maxLocals = 1 := hml0
 have hown : s.vm.findClass sRQ = some m.cls := findClass_of_methodNamed Bd.named
 have hnm := (name_of_methodNamed Bd.named Bd.method).1
 have X0 : Stand p l e (Rm 0 0 0 0) s m #[(.ref q)] below meth c s₁ [] 0 0 := Stand.of_body Bd
 have e0 : s₁.heap = h0 := by rw [← hh, Bd.state]; rfl
 have N0 := Fr.nil n0
 have K0 : Keep h0 h0 [] := Keep.refl h0 []
 have pre0 : ∀ t, Steps p.tables e below (s₁.setTop (mkF m 0 #[.val (.ref q)] [])) t → Steps p.tables e below (s₁.setTop (entryFrame m #[(.ref q)] 1)) t := fun t k => castTop (ef_IE2 m q) k
 obtain ⟨T634, X634, e634, st634⟩ := getF X0 hx hZ hown (host := "") (Or.inl (wd hw 80 rfl)) Via.refl e0 F_q_size (g := (mkF m 1 #[.val (.ref q)] [(.ref q)])) rfl rfl (hb hby dIE_1)
 obtain ⟨fs, hr, hrun, hended, hW, hsame⟩ := X634.leave (v := some (.int (0 : Int32))) (fun h => by rw [Bd.returns] at h; cases h)
 refine ⟨_, _, ?_, hrun, hended, _, _, rfl, ?_, ⟨_, rfl⟩, hW, hsame.mono (by decide) (by decide)⟩
 ·refine pre0 _ ?_
  show Steps _ _ _ (s₁.setTop (mkF m 0 #[.val (.ref q)] [])) _
  refine XS.aloadN X0.here hx rfl (hb hby dIE_0) rfl rfl ?_
  refine st634 _ ?_
  refine XS.ifYes X634.here hx rfl (pc0 := 4) (pc' := 11) rfl (hb hby dIE_4) rfl (by decide) (by decide) (by decide) ?_
  refine XS.iconst X634.here hx rfl (hb hby dIE_11) ?_
  show Steps _ _ _ (T634.setTop (mkF m 12 #[.val (.ref q)] [(.int (0 : Int32))])) _
  exact retN X634 hx (t := .boolean) Bd.returns (by simp) (hb hby dIE_12) hr
 ·show QIE2 Z q h0 n0 _ T634.heap _
  rw [e634]
  exact ⟨rfl, N0, rfl⟩
theorem dRF_0 : decode prog_65_method_9_code 0 = .ok (.aload_n 0, 1) := by decide +kernel
theorem dRF_1 : decode prog_65_method_9_code 1 = .ok (.dup, 1) := by decide +kernel
theorem dRF_2 : decode prog_65_method_9_code 2 = .ok (.getfield 66, 3) := by decide +kernel
theorem dRF_5 : decode prog_65_method_9_code 5 = .ok (.iconst 1, 1) := by decide +kernel
theorem dRF_6 : decode prog_65_method_9_code 6 = .ok (.iadd, 1) := by decide +kernel
theorem dRF_7 : decode prog_65_method_9_code 7 = .ok (.putfield 66, 3) := by decide +kernel
theorem dRF_10 : decode prog_65_method_9_code 10 = .ok (.aload_n 0, 1) := by decide +kernel
theorem dRF_11 : decode prog_65_method_9_code 11 = .ok (.dup, 1) := by decide +kernel
theorem dRF_12 : decode prog_65_method_9_code 12 = .ok (.getfield 23, 3) := by decide +kernel
theorem sn105 {Z : State} {a0 : Array Value} (hw : HW Z a0) : Jvm.RoadKit.slotOf Z sRQ "size" "I" ≠ Jvm.RoadKit.slotOf Z sRQ "head" "I" := slot_ne (a0 := a0) (C := sRQ) (Or.inl (wd hw 81 rfl)) (Or.inl (wd hw 174 rfl)) (by decide) (t := .int) (t' := .int) (by decide) (by decide)
theorem dRF_15 : decode prog_65_method_9_code 15 = .ok (.iconst 1, 1) := by decide +kernel
theorem dRF_16 : decode prog_65_method_9_code 16 = .ok (.isub, 1) := by decide +kernel
theorem dRF_17 : decode prog_65_method_9_code 17 = .ok (.putfield 23, 3) := by decide +kernel
theorem dRF_20 : decode prog_65_method_9_code 20 = .ok (.aload_n 0, 1) := by decide +kernel
theorem dRF_21 : decode prog_65_method_9_code 21 = .ok (.getfield 23, 3) := by decide +kernel
theorem dRF_24 : decode prog_65_method_9_code 24 = .ok (.ifCond .ne 16, 3) := by decide +kernel
theorem dRF_40 : decode prog_65_method_9_code 40 = .ok (.aload_n 0, 1) := by decide +kernel
theorem dRF_41 : decode prog_65_method_9_code 41 = .ok (.getfield 66, 3) := by decide +kernel
theorem dRF_44 : decode prog_65_method_9_code 44 = .ok (.aload_n 0, 1) := by decide +kernel
theorem dRF_45 : decode prog_65_method_9_code 45 = .ok (.getfield 55, 3) := by decide +kernel
theorem sn106 {Z : State} {a0 : Array Value} (hw : HW Z a0) : Jvm.RoadKit.slotOf Z sRQ "first" dBK ≠ Jvm.RoadKit.slotOf Z sRQ "head" "I" := slot_ne (a0 := a0) (C := sRQ) (Or.inl (wd hw 126 rfl)) (Or.inl (wd hw 174 rfl)) (by decide) (t := (.object sBK)) (t' := .int) (by decide) (by decide)
theorem dRF_48 : decode prog_65_method_9_code 48 = .ok (.getfield 33, 3) := by decide +kernel
theorem dRF_51 : decode prog_65_method_9_code 51 = .ok (.if_icmp .ne 36, 3) := by decide +kernel
theorem dRF_87 : decode prog_65_method_9_code 87 = .ok (.return_, 1) := by decide +kernel
theorem sn107 {Z : State} {a0 : Array Value} (hw : HW Z a0) : Jvm.RoadKit.slotOf Z sRQ "end" "I" ≠ Jvm.RoadKit.slotOf Z sRQ "head" "I" := slot_ne (a0 := a0) (C := sRQ) (Or.inl (wd hw 124 rfl)) (Or.inl (wd hw 174 rfl)) (by decide) (t := .int) (t' := .int) (by decide) (by decide)
theorem ef_RF20 (m : MethodId) (x0 : Addr) : entryFrame m #[(.ref x0)] 1 = mkF m 0 #[.val (.ref x0)] [] := by first | (simp [entryFrame, mkF, argsToLocals, Value.category]; done) | rfl
def QRF20 (Z : State) (q : Addr) (b : Addr) (ev : Int32) (h0 : Heap) (n0 : Nat) (v : Option Value) (h : Heap) (L : List Loc) : Prop := v = none ∧ Fr n0 L ∧ Keep h0 h [q] ∧ Exa Z h q sRQ ∧ Fld Z h q sRQ "first" dBK (.ref b) ∧ Fld Z h q sRQ "head" "I" (.int (1 : Int32)) ∧ Fld Z h q sRQ "end" "I" (.int ev) ∧ Fld Z h q sRQ "size" "I" (.int (1 : Int32))
set_option maxRecDepth 65536 in
set_option maxHeartbeats 40000000 in
theorem rmRF20 (l : Launch) (Z : State) (a0 : Array Value) (hw : HW Z a0) (ws : List Jvm.Cond) (q : Addr) (b : Addr) (ev : Int32) (h0 : Heap) (n0 : Nat) (Z0 : n0 ≤ h0.size) (E_q : Exa Z h0 q sRQ) (F_q_first : Fld Z h0 q sRQ "first" dBK (.ref b)) (F_q_head : Fld Z h0 q sRQ "head" "I" (.int (0 : Int32))) (F_q_end : Fld Z h0 q sRQ "end" "I" (.int ev)) (F_q_size : Fld Z h0 q sRQ "size" "I" (.int (2 : Int32))) (F_b_capacity : Fld Z h0 b sBK "capacity" "I" (.int (16 : Int32))) (ne_q_b : q ≠ b) (g_q : n0 ≤ q) :
  MetFree l (⟨sRQ, "removeFirst", "()V"⟩ : MethodName) (head1 (Jvm.Cond.code (⟨sRQ, "removeFirst", "()V"⟩ : MethodName) prog_65_method_9_code 1 none :: ws) (Rm 0 0 0 0)) (fun a U => a = #[(.ref q)] ∧ Z.Warmed39 U.vm ∧ U.heap = h0) (fun _ _ _ _ _ => True) (fun _ U o U' => ∃ v L, o = .returned v ∧ QRF20 Z q b ev h0 n0 v U'.heap L ∧ FrameEnd U o U' L (Rm 0 0 0 0).cells (Rm 0 0 0 0).slots) := by
 refine MetFree.of_bodySF (plainFor_of_name pn_com_example_frugal_weir_frugalweir_replay_RecordQueue) hisR ?_
 intro p e s m args below meth c s₁ Bd hml0 hP hK
 obtain ⟨rfl, hZ, hh⟩ := hP
 have hx := Bd.exec
 have hby := Bd.bytes
 have hml : c.maxLocals = 1 := hml0
 have hown : s.vm.findClass sRQ = some m.cls := findClass_of_methodNamed Bd.named
 have hnm := (name_of_methodNamed Bd.named Bd.method).1
 have X0 : Stand p l e (Rm 0 0 0 0) s m #[(.ref q)] below meth c s₁ [] 0 0 := Stand.of_body Bd
 have e0 : s₁.heap = h0 := by rw [← hh, Bd.state]; rfl
 have N0 := Fr.nil n0
 have K0 := Keep.refl h0 [q]
 have pre0 : ∀ t, Steps p.tables e below (s₁.setTop (mkF m 0 #[.val (.ref q)] [])) t → Steps p.tables e below (s₁.setTop (entryFrame m #[(.ref q)] 1)) t := fun t k => castTop (ef_RF20 m q) k
 obtain ⟨T635, X635, e635, st635⟩ := getF X0 hx hZ hown (host := "") (Or.inl (wd hw 173 rfl)) Via.refl e0 F_q_head (g := (mkF m 2 #[.val (.ref q)] [(.ref q), (.ref q)])) rfl rfl (hb hby dRF_2)
 obtain ⟨T636, h636, X636, e636, W636, st636⟩ := putF X635 hx hZ hown (host := "") (Or.inl (wd hw 173 rfl)) Via.refl e635 F_q_head E_q (Or.inl (wd hw 174 rfl)) (wd hw 27 rfl) (ty := .int) (by decide) rfl rfl (g := (mkF m 7 #[.val (.ref q)] [(.int (1 : Int32)), (.ref q)])) rfl rfl (hb hby dRF_7)
 have Fw636 := F_q_head.same W636
 have K636 : Keep h0 h636 [q] := K0.wr W636 (Or.inl (List.mem_of_getElem? (i := 0) rfl))
 have N636 := Fr.snoc X636 N0 g_q
 have f637 := F_q_size.other W636 (Or.inr (sn105 hw))
 obtain ⟨T638, X638, e638, st638⟩ := getF X636 hx hZ hown (host := "") (Or.inl (wd hw 80 rfl)) Via.refl e636 f637 (g := (mkF m 12 #[.val (.ref q)] [(.ref q), (.ref q)])) rfl rfl (hb hby dRF_12)
 have f639 := E_q.wr W636
 obtain ⟨T640, h640, X640, e640, W640, st640⟩ := putF X638 hx hZ hown (host := "") (Or.inl (wd hw 80 rfl)) Via.refl e638 f637 f639 (Or.inl (wd hw 81 rfl)) (wd hw 27 rfl) (ty := .int) (by decide) rfl rfl (g := (mkF m 17 #[.val (.ref q)] [(.int (1 : Int32)), (.ref q)])) rfl rfl (hb hby dRF_17)
 have Fw640 := f637.same W640
 have K640 : Keep h0 h640 [q] := K636.wr W640 (Or.inl (List.mem_of_getElem? (i := 0) rfl))
 have N640 := Fr.snoc X640 N636 g_q
 obtain ⟨T641, X641, e641, st641⟩ := getF X640 hx hZ hown (host := "") (Or.inl (wd hw 80 rfl)) Via.refl e640 Fw640 (g := (mkF m 21 #[.val (.ref q)] [(.ref q)])) rfl rfl (hb hby dRF_21)
 have f642 := Fw636.other W640 (Or.inr (sn103 hw))
 obtain ⟨T643, X643, e643, st643⟩ := getF X641 hx hZ hown (host := "") (Or.inl (wd hw 173 rfl)) Via.refl e641 f642 (g := (mkF m 41 #[.val (.ref q)] [(.ref q)])) rfl rfl (hb hby dRF_41)
 have f645 := (F_q_first.other W636 (Or.inr (sn106 hw))).other W640 (Or.inr (sn97 hw))
 obtain ⟨T646, X646, e646, st646⟩ := getF X643 hx hZ hown (host := "") (Or.inl (wd hw 125 rfl)) Via.refl e643 f645 (g := (mkF m 45 #[.val (.ref q)] [(.ref q), (.int (1 : Int32))])) rfl rfl (hb hby dRF_45)
 have f648 := (F_b_capacity.other W636 (Or.inl (Ne.symm ne_q_b))).other W640 (Or.inl (Ne.symm ne_q_b))
 obtain ⟨T649, X649, e649, st649⟩ := own_getFR X646 hx hZ hown (wd hw 139 rfl) e646 f648 (g := (mkF m 48 #[.val (.ref q)] [(.ref b), (.int (1 : Int32))])) rfl rfl (hb hby dRF_48)
 have f650 := f639.wr W640
 have f652 := (F_q_end.other W636 (Or.inr (sn107 hw))).other W640 (Or.inr (sn104 hw))
 obtain ⟨fs, hr, hrun, hended, hW, hsame⟩ := X649.leave (v := none) (fun _ => rfl)
 refine ⟨_, _, ?_, hrun, hended, _, _, rfl, ?_, ⟨_, rfl⟩, hW, hsame.mono (by decide) (by decide)⟩
 ·refine pre0 _ ?_
  show Steps _ _ _ (s₁.setTop (mkF m 0 #[.val (.ref q)] [])) _
  refine XS.aloadN X0.here hx rfl (hb hby dRF_0) rfl rfl ?_
  refine XS.dup X0.here hx rfl (hb hby dRF_1) rfl rfl ?_
  refine st635 _ ?_
  refine XS.iconst X635.here hx rfl (hb hby dRF_5) ?_
  show Steps _ _ _ (T635.setTop (mkF m 6 #[.val (.ref q)] [(.int (1 : Int32)), (.int (0 : Int32)), (.ref q)])) _
  refine XS.iadd X635.here hx rfl (hb hby dRF_6) rfl ?_
  refine st636 _ ?_
  refine XS.aloadN X636.here hx rfl (hb hby dRF_10) rfl rfl ?_
  refine XS.dup X636.here hx rfl (hb hby dRF_11) rfl rfl ?_
  refine st638 _ ?_
  show Steps _ _ _ (T638.setTop (mkF m 15 #[.val (.ref q)] [(.int (2 : Int32)), (.ref q)])) _
  refine XS.iconst X638.here hx rfl (hb hby dRF_15) ?_
  refine XS.isub X638.here hx rfl (hb hby dRF_16) rfl ?_
  refine st640 _ ?_
  refine XS.aloadN X640.here hx rfl (hb hby dRF_20) rfl rfl ?_
  refine st641 _ ?_
  show Steps _ _ _ (T641.setTop (mkF m 24 #[.val (.ref q)] [(.int (1 : Int32))])) _
  refine XS.ifYes X641.here hx rfl (pc0 := 24) (pc' := 40) rfl (hb hby dRF_24) rfl (by decide) (by decide) (by decide) ?_
  refine XS.aloadN X641.here hx rfl (hb hby dRF_40) rfl rfl ?_
  refine st643 _ ?_
  refine XS.aloadN X643.here hx rfl (hb hby dRF_44) rfl rfl ?_
  refine st646 _ ?_
  refine st649 _ ?_
  show Steps _ _ _ (T649.setTop (mkF m 51 #[.val (.ref q)] [(.int (16 : Int32)), (.int (1 : Int32))])) _
  refine XS.icmpYes X649.here hx rfl (pc0 := 51) (pc' := 87) rfl (hb hby dRF_51) rfl (by decide) (by decide) (by decide) ?_
  show Steps _ _ _ (T649.setTop (mkF m 87 #[.val (.ref q)] [])) _
  exact X649.returnOut hx Bd.returns (hb hby dRF_87) hr
 ·show QRF20 Z q b ev h0 n0 _ T649.heap _
  rw [e649]
  exact ⟨rfl, N640, K640, f650, f645, f642, f652, Fw640⟩
theorem dRF_27 : decode prog_65_method_9_code 27 = .ok (.aload_n 0, 1) := by decide +kernel
theorem dRF_28 : decode prog_65_method_9_code 28 = .ok (.iconst 0, 1) := by decide +kernel
theorem dRF_29 : decode prog_65_method_9_code 29 = .ok (.putfield 66, 3) := by decide +kernel
theorem dRF_32 : decode prog_65_method_9_code 32 = .ok (.aload_n 0, 1) := by decide +kernel
theorem dRF_33 : decode prog_65_method_9_code 33 = .ok (.iconst 0, 1) := by decide +kernel
theorem dRF_34 : decode prog_65_method_9_code 34 = .ok (.putfield 30, 3) := by decide +kernel
theorem dRF_37 : decode prog_65_method_9_code 37 = .ok (.goto 50, 3) := by decide +kernel
theorem ef_RF10 (m : MethodId) (x0 : Addr) : entryFrame m #[(.ref x0)] 1 = mkF m 0 #[.val (.ref x0)] [] := by first | (simp [entryFrame, mkF, argsToLocals, Value.category]; done) | rfl
def QRF10 (Z : State) (q : Addr) (b : Addr) (ev : Int32) (h0 : Heap) (n0 : Nat) (v : Option Value) (h : Heap) (L : List Loc) : Prop := v = none ∧ Fr n0 L ∧ Keep h0 h [q] ∧ Exa Z h q sRQ ∧ Fld Z h q sRQ "first" dBK (.ref b) ∧ Fld Z h q sRQ "head" "I" (.int (0 : Int32)) ∧ Fld Z h q sRQ "end" "I" (.int (0 : Int32)) ∧ Fld Z h q sRQ "size" "I" (.int (0 : Int32))
set_option maxRecDepth 65536 in
set_option maxHeartbeats 40000000 in
theorem rmRF10 (l : Launch) (Z : State) (a0 : Array Value) (hw : HW Z a0) (ws : List Jvm.Cond) (q : Addr) (b : Addr) (ev : Int32) (h0 : Heap) (n0 : Nat) (Z0 : n0 ≤ h0.size) (E_q : Exa Z h0 q sRQ) (F_q_first : Fld Z h0 q sRQ "first" dBK (.ref b)) (F_q_head : Fld Z h0 q sRQ "head" "I" (.int (0 : Int32))) (F_q_end : Fld Z h0 q sRQ "end" "I" (.int ev)) (F_q_size : Fld Z h0 q sRQ "size" "I" (.int (1 : Int32))) (F_b_capacity : Fld Z h0 b sBK "capacity" "I" (.int (16 : Int32))) (ne_q_b : q ≠ b) (g_q : n0 ≤ q) :
  MetFree l (⟨sRQ, "removeFirst", "()V"⟩ : MethodName) (head1 (Jvm.Cond.code (⟨sRQ, "removeFirst", "()V"⟩ : MethodName) prog_65_method_9_code 1 none :: ws) (Rm 0 0 0 0)) (fun a U => a = #[(.ref q)] ∧ Z.Warmed39 U.vm ∧ U.heap = h0) (fun _ _ _ _ _ => True) (fun _ U o U' => ∃ v L, o = .returned v ∧ QRF10 Z q b ev h0 n0 v U'.heap L ∧ FrameEnd U o U' L (Rm 0 0 0 0).cells (Rm 0 0 0 0).slots) := by
 refine MetFree.of_bodySF (plainFor_of_name pn_com_example_frugal_weir_frugalweir_replay_RecordQueue) hisR ?_
 intro p e s m args below meth c s₁ Bd hml0 hP hK
 obtain ⟨rfl, hZ, hh⟩ := hP
 have hx := Bd.exec
 have hby := Bd.bytes
 have hml : c.maxLocals = 1 := hml0
 have hown : s.vm.findClass sRQ = some m.cls := findClass_of_methodNamed Bd.named
 have hnm := (name_of_methodNamed Bd.named Bd.method).1
 have X0 : Stand p l e (Rm 0 0 0 0) s m #[(.ref q)] below meth c s₁ [] 0 0 := Stand.of_body Bd
 have e0 : s₁.heap = h0 := by rw [← hh, Bd.state]; rfl
 have N0 := Fr.nil n0
 have K0 := Keep.refl h0 [q]
 have pre0 : ∀ t, Steps p.tables e below (s₁.setTop (mkF m 0 #[.val (.ref q)] [])) t → Steps p.tables e below (s₁.setTop (entryFrame m #[(.ref q)] 1)) t := fun t k => castTop (ef_RF10 m q) k
 obtain ⟨T653, X653, e653, st653⟩ := getF X0 hx hZ hown (host := "") (Or.inl (wd hw 173 rfl)) Via.refl e0 F_q_head (g := (mkF m 2 #[.val (.ref q)] [(.ref q), (.ref q)])) rfl rfl (hb hby dRF_2)
 obtain ⟨T654, h654, X654, e654, W654, st654⟩ := putF X653 hx hZ hown (host := "") (Or.inl (wd hw 173 rfl)) Via.refl e653 F_q_head E_q (Or.inl (wd hw 174 rfl)) (wd hw 27 rfl) (ty := .int) (by decide) rfl rfl (g := (mkF m 7 #[.val (.ref q)] [(.int (1 : Int32)), (.ref q)])) rfl rfl (hb hby dRF_7)
 have Fw654 := F_q_head.same W654
 have K654 : Keep h0 h654 [q] := K0.wr W654 (Or.inl (List.mem_of_getElem? (i := 0) rfl))
 have N654 := Fr.snoc X654 N0 g_q
 have f655 := F_q_size.other W654 (Or.inr (sn105 hw))
 obtain ⟨T656, X656, e656, st656⟩ := getF X654 hx hZ hown (host := "") (Or.inl (wd hw 80 rfl)) Via.refl e654 f655 (g := (mkF m 12 #[.val (.ref q)] [(.ref q), (.ref q)])) rfl rfl (hb hby dRF_12)
 have f657 := E_q.wr W654
 obtain ⟨T658, h658, X658, e658, W658, st658⟩ := putF X656 hx hZ hown (host := "") (Or.inl (wd hw 80 rfl)) Via.refl e656 f655 f657 (Or.inl (wd hw 81 rfl)) (wd hw 27 rfl) (ty := .int) (by decide) rfl rfl (g := (mkF m 17 #[.val (.ref q)] [(.int (0 : Int32)), (.ref q)])) rfl rfl (hb hby dRF_17)
 have Fw658 := f655.same W658
 have K658 : Keep h0 h658 [q] := K654.wr W658 (Or.inl (List.mem_of_getElem? (i := 0) rfl))
 have N658 := Fr.snoc X658 N654 g_q
 obtain ⟨T659, X659, e659, st659⟩ := getF X658 hx hZ hown (host := "") (Or.inl (wd hw 80 rfl)) Via.refl e658 Fw658 (g := (mkF m 21 #[.val (.ref q)] [(.ref q)])) rfl rfl (hb hby dRF_21)
 have f660 := f657.wr W658
 have f661 := Fw654.other W658 (Or.inr (sn103 hw))
 obtain ⟨T662, h662, X662, e662, W662, st662⟩ := putF X659 hx hZ hown (host := "") (Or.inl (wd hw 173 rfl)) Via.refl e659 f661 f660 (Or.inl (wd hw 174 rfl)) (wd hw 27 rfl) (ty := .int) (by decide) rfl rfl (g := (mkF m 29 #[.val (.ref q)] [(.int (0 : Int32)), (.ref q)])) rfl rfl (hb hby dRF_29)
 have Fw662 := f661.same W662
 have K662 : Keep h0 h662 [q] := K658.wr W662 (Or.inl (List.mem_of_getElem? (i := 0) rfl))
 have N662 := Fr.snoc X662 N658 g_q
 have f663 := f660.wr W662
 have f666 := ((F_q_end.other W654 (Or.inr (sn107 hw))).other W658 (Or.inr (sn104 hw))).other W662 (Or.inr (sn107 hw))
 obtain ⟨T667, h667, X667, e667, W667, st667⟩ := putF X662 hx hZ hown (host := "") (Or.inl (wd hw 123 rfl)) Via.refl e662 f666 f663 (Or.inl (wd hw 124 rfl)) (wd hw 27 rfl) (ty := .int) (by decide) rfl rfl (g := (mkF m 34 #[.val (.ref q)] [(.int (0 : Int32)), (.ref q)])) rfl rfl (hb hby dRF_34)
 have Fw667 := f666.same W667
 have K667 : Keep h0 h667 [q] := K662.wr W667 (Or.inl (List.mem_of_getElem? (i := 0) rfl))
 have N667 := Fr.snoc X667 N662 g_q
 have f668 := f663.wr W667
 have f672 := (((F_q_first.other W654 (Or.inr (sn106 hw))).other W658 (Or.inr (sn97 hw))).other W662 (Or.inr (sn106 hw))).other W667 (Or.inr (sn91 hw))
 have f673 := Fw662.other W667 (Or.inr (sn101 hw))
 have f675 := (Fw658.other W662 (Or.inr (sn105 hw))).other W667 (Or.inr (sn95 hw))
 obtain ⟨fs, hr, hrun, hended, hW, hsame⟩ := X667.leave (v := none) (fun _ => rfl)
 refine ⟨_, _, ?_, hrun, hended, _, _, rfl, ?_, ⟨_, rfl⟩, hW, hsame.mono (by decide) (by decide)⟩
 ·refine pre0 _ ?_
  show Steps _ _ _ (s₁.setTop (mkF m 0 #[.val (.ref q)] [])) _
  refine XS.aloadN X0.here hx rfl (hb hby dRF_0) rfl rfl ?_
  refine XS.dup X0.here hx rfl (hb hby dRF_1) rfl rfl ?_
  refine st653 _ ?_
  refine XS.iconst X653.here hx rfl (hb hby dRF_5) ?_
  show Steps _ _ _ (T653.setTop (mkF m 6 #[.val (.ref q)] [(.int (1 : Int32)), (.int (0 : Int32)), (.ref q)])) _
  refine XS.iadd X653.here hx rfl (hb hby dRF_6) rfl ?_
  refine st654 _ ?_
  refine XS.aloadN X654.here hx rfl (hb hby dRF_10) rfl rfl ?_
  refine XS.dup X654.here hx rfl (hb hby dRF_11) rfl rfl ?_
  refine st656 _ ?_
  show Steps _ _ _ (T656.setTop (mkF m 15 #[.val (.ref q)] [(.int (1 : Int32)), (.ref q)])) _
  refine XS.iconst X656.here hx rfl (hb hby dRF_15) ?_
  refine XS.isub X656.here hx rfl (hb hby dRF_16) rfl ?_
  refine st658 _ ?_
  refine XS.aloadN X658.here hx rfl (hb hby dRF_20) rfl rfl ?_
  refine st659 _ ?_
  show Steps _ _ _ (T659.setTop (mkF m 24 #[.val (.ref q)] [(.int (0 : Int32))])) _
  refine XS.ifNo X659.here hx rfl (hb hby dRF_24) rfl (by decide) ?_
  refine XS.aloadN X659.here hx rfl (hb hby dRF_27) rfl rfl ?_
  refine XS.iconst X659.here hx rfl (hb hby dRF_28) ?_
  refine st662 _ ?_
  show Steps _ _ _ (T662.setTop (mkF m 32 #[.val (.ref q)] [])) _
  refine XS.aloadN X662.here hx rfl (hb hby dRF_32) rfl rfl ?_
  refine XS.iconst X662.here hx rfl (hb hby dRF_33) ?_
  refine st667 _ ?_
  refine XS.goto X667.here hx rfl (pc0 := 37) (pc' := 87) rfl (hb hby dRF_37) (by decide) (by decide) ?_
  show Steps _ _ _ (T667.setTop (mkF m 87 #[.val (.ref q)] [])) _
  exact X667.returnOut hx Bd.returns (hb hby dRF_87) hr
 ·show QRF10 Z q b ev h0 n0 _ T667.heap _
  rw [e667]
  exact ⟨rfl, N667, K667, f668, f672, f673, Fw667, f675⟩
theorem ef_RF11 (m : MethodId) (x0 : Addr) : entryFrame m #[(.ref x0)] 1 = mkF m 0 #[.val (.ref x0)] [] := by first | (simp [entryFrame, mkF, argsToLocals, Value.category]; done) | rfl
def QRF11 (Z : State) (q : Addr) (b : Addr) (ev : Int32) (h0 : Heap) (n0 : Nat) (v : Option Value) (h : Heap) (L : List Loc) : Prop := v = none ∧ Fr n0 L ∧ Keep h0 h [q] ∧ Exa Z h q sRQ ∧ Fld Z h q sRQ "first" dBK (.ref b) ∧ Fld Z h q sRQ "head" "I" (.int (0 : Int32)) ∧ Fld Z h q sRQ "end" "I" (.int (0 : Int32)) ∧ Fld Z h q sRQ "size" "I" (.int (0 : Int32))
set_option maxRecDepth 65536 in
set_option maxHeartbeats 40000000 in
theorem rmRF11 (l : Launch) (Z : State) (a0 : Array Value) (hw : HW Z a0) (ws : List Jvm.Cond) (q : Addr) (b : Addr) (ev : Int32) (h0 : Heap) (n0 : Nat) (Z0 : n0 ≤ h0.size) (E_q : Exa Z h0 q sRQ) (F_q_first : Fld Z h0 q sRQ "first" dBK (.ref b)) (F_q_head : Fld Z h0 q sRQ "head" "I" (.int (1 : Int32))) (F_q_end : Fld Z h0 q sRQ "end" "I" (.int ev)) (F_q_size : Fld Z h0 q sRQ "size" "I" (.int (1 : Int32))) (F_b_capacity : Fld Z h0 b sBK "capacity" "I" (.int (16 : Int32))) (ne_q_b : q ≠ b) (g_q : n0 ≤ q) :
  MetFree l (⟨sRQ, "removeFirst", "()V"⟩ : MethodName) (head1 (Jvm.Cond.code (⟨sRQ, "removeFirst", "()V"⟩ : MethodName) prog_65_method_9_code 1 none :: ws) (Rm 0 0 0 0)) (fun a U => a = #[(.ref q)] ∧ Z.Warmed39 U.vm ∧ U.heap = h0) (fun _ _ _ _ _ => True) (fun _ U o U' => ∃ v L, o = .returned v ∧ QRF11 Z q b ev h0 n0 v U'.heap L ∧ FrameEnd U o U' L (Rm 0 0 0 0).cells (Rm 0 0 0 0).slots) := by
 refine MetFree.of_bodySF (plainFor_of_name pn_com_example_frugal_weir_frugalweir_replay_RecordQueue) hisR ?_
 intro p e s m args below meth c s₁ Bd hml0 hP hK
 obtain ⟨rfl, hZ, hh⟩ := hP
 have hx := Bd.exec
 have hby := Bd.bytes
 have hml : c.maxLocals = 1 := hml0
 have hown : s.vm.findClass sRQ = some m.cls := findClass_of_methodNamed Bd.named
 have hnm := (name_of_methodNamed Bd.named Bd.method).1
 have X0 : Stand p l e (Rm 0 0 0 0) s m #[(.ref q)] below meth c s₁ [] 0 0 := Stand.of_body Bd
 have e0 : s₁.heap = h0 := by rw [← hh, Bd.state]; rfl
 have N0 := Fr.nil n0
 have K0 := Keep.refl h0 [q]
 have pre0 : ∀ t, Steps p.tables e below (s₁.setTop (mkF m 0 #[.val (.ref q)] [])) t → Steps p.tables e below (s₁.setTop (entryFrame m #[(.ref q)] 1)) t := fun t k => castTop (ef_RF11 m q) k
 obtain ⟨T676, X676, e676, st676⟩ := getF X0 hx hZ hown (host := "") (Or.inl (wd hw 173 rfl)) Via.refl e0 F_q_head (g := (mkF m 2 #[.val (.ref q)] [(.ref q), (.ref q)])) rfl rfl (hb hby dRF_2)
 obtain ⟨T677, h677, X677, e677, W677, st677⟩ := putF X676 hx hZ hown (host := "") (Or.inl (wd hw 173 rfl)) Via.refl e676 F_q_head E_q (Or.inl (wd hw 174 rfl)) (wd hw 27 rfl) (ty := .int) (by decide) rfl rfl (g := (mkF m 7 #[.val (.ref q)] [(.int (2 : Int32)), (.ref q)])) rfl rfl (hb hby dRF_7)
 have Fw677 := F_q_head.same W677
 have K677 : Keep h0 h677 [q] := K0.wr W677 (Or.inl (List.mem_of_getElem? (i := 0) rfl))
 have N677 := Fr.snoc X677 N0 g_q
 have f678 := F_q_size.other W677 (Or.inr (sn105 hw))
 obtain ⟨T679, X679, e679, st679⟩ := getF X677 hx hZ hown (host := "") (Or.inl (wd hw 80 rfl)) Via.refl e677 f678 (g := (mkF m 12 #[.val (.ref q)] [(.ref q), (.ref q)])) rfl rfl (hb hby dRF_12)
 have f680 := E_q.wr W677
 obtain ⟨T681, h681, X681, e681, W681, st681⟩ := putF X679 hx hZ hown (host := "") (Or.inl (wd hw 80 rfl)) Via.refl e679 f678 f680 (Or.inl (wd hw 81 rfl)) (wd hw 27 rfl) (ty := .int) (by decide) rfl rfl (g := (mkF m 17 #[.val (.ref q)] [(.int (0 : Int32)), (.ref q)])) rfl rfl (hb hby dRF_17)
 have Fw681 := f678.same W681
 have K681 : Keep h0 h681 [q] := K677.wr W681 (Or.inl (List.mem_of_getElem? (i := 0) rfl))
 have N681 := Fr.snoc X681 N677 g_q
 obtain ⟨T682, X682, e682, st682⟩ := getF X681 hx hZ hown (host := "") (Or.inl (wd hw 80 rfl)) Via.refl e681 Fw681 (g := (mkF m 21 #[.val (.ref q)] [(.ref q)])) rfl rfl (hb hby dRF_21)
 have f683 := f680.wr W681
 have f684 := Fw677.other W681 (Or.inr (sn103 hw))
 obtain ⟨T685, h685, X685, e685, W685, st685⟩ := putF X682 hx hZ hown (host := "") (Or.inl (wd hw 173 rfl)) Via.refl e682 f684 f683 (Or.inl (wd hw 174 rfl)) (wd hw 27 rfl) (ty := .int) (by decide) rfl rfl (g := (mkF m 29 #[.val (.ref q)] [(.int (0 : Int32)), (.ref q)])) rfl rfl (hb hby dRF_29)
 have Fw685 := f684.same W685
 have K685 : Keep h0 h685 [q] := K681.wr W685 (Or.inl (List.mem_of_getElem? (i := 0) rfl))
 have N685 := Fr.snoc X685 N681 g_q
 have f686 := f683.wr W685
 have f689 := ((F_q_end.other W677 (Or.inr (sn107 hw))).other W681 (Or.inr (sn104 hw))).other W685 (Or.inr (sn107 hw))
 obtain ⟨T690, h690, X690, e690, W690, st690⟩ := putF X685 hx hZ hown (host := "") (Or.inl (wd hw 123 rfl)) Via.refl e685 f689 f686 (Or.inl (wd hw 124 rfl)) (wd hw 27 rfl) (ty := .int) (by decide) rfl rfl (g := (mkF m 34 #[.val (.ref q)] [(.int (0 : Int32)), (.ref q)])) rfl rfl (hb hby dRF_34)
 have Fw690 := f689.same W690
 have K690 : Keep h0 h690 [q] := K685.wr W690 (Or.inl (List.mem_of_getElem? (i := 0) rfl))
 have N690 := Fr.snoc X690 N685 g_q
 have f691 := f686.wr W690
 have f695 := (((F_q_first.other W677 (Or.inr (sn106 hw))).other W681 (Or.inr (sn97 hw))).other W685 (Or.inr (sn106 hw))).other W690 (Or.inr (sn91 hw))
 have f696 := Fw685.other W690 (Or.inr (sn101 hw))
 have f698 := (Fw681.other W685 (Or.inr (sn105 hw))).other W690 (Or.inr (sn95 hw))
 obtain ⟨fs, hr, hrun, hended, hW, hsame⟩ := X690.leave (v := none) (fun _ => rfl)
 refine ⟨_, _, ?_, hrun, hended, _, _, rfl, ?_, ⟨_, rfl⟩, hW, hsame.mono (by decide) (by decide)⟩
 ·refine pre0 _ ?_
  show Steps _ _ _ (s₁.setTop (mkF m 0 #[.val (.ref q)] [])) _
  refine XS.aloadN X0.here hx rfl (hb hby dRF_0) rfl rfl ?_
  refine XS.dup X0.here hx rfl (hb hby dRF_1) rfl rfl ?_
  refine st676 _ ?_
  refine XS.iconst X676.here hx rfl (hb hby dRF_5) ?_
  show Steps _ _ _ (T676.setTop (mkF m 6 #[.val (.ref q)] [(.int (1 : Int32)), (.int (1 : Int32)), (.ref q)])) _
  refine XS.iadd X676.here hx rfl (hb hby dRF_6) rfl ?_
  refine st677 _ ?_
  refine XS.aloadN X677.here hx rfl (hb hby dRF_10) rfl rfl ?_
  refine XS.dup X677.here hx rfl (hb hby dRF_11) rfl rfl ?_
  refine st679 _ ?_
  show Steps _ _ _ (T679.setTop (mkF m 15 #[.val (.ref q)] [(.int (1 : Int32)), (.ref q)])) _
  refine XS.iconst X679.here hx rfl (hb hby dRF_15) ?_
  refine XS.isub X679.here hx rfl (hb hby dRF_16) rfl ?_
  refine st681 _ ?_
  refine XS.aloadN X681.here hx rfl (hb hby dRF_20) rfl rfl ?_
  refine st682 _ ?_
  show Steps _ _ _ (T682.setTop (mkF m 24 #[.val (.ref q)] [(.int (0 : Int32))])) _
  refine XS.ifNo X682.here hx rfl (hb hby dRF_24) rfl (by decide) ?_
  refine XS.aloadN X682.here hx rfl (hb hby dRF_27) rfl rfl ?_
  refine XS.iconst X682.here hx rfl (hb hby dRF_28) ?_
  refine st685 _ ?_
  show Steps _ _ _ (T685.setTop (mkF m 32 #[.val (.ref q)] [])) _
  refine XS.aloadN X685.here hx rfl (hb hby dRF_32) rfl rfl ?_
  refine XS.iconst X685.here hx rfl (hb hby dRF_33) ?_
  refine st690 _ ?_
  refine XS.goto X690.here hx rfl (pc0 := 37) (pc' := 87) rfl (hb hby dRF_37) (by decide) (by decide) ?_
  show Steps _ _ _ (T690.setTop (mkF m 87 #[.val (.ref q)] [])) _
  exact X690.returnOut hx Bd.returns (hb hby dRF_87) hr
 ·show QRF11 Z q b ev h0 n0 _ T690.heap _
  rw [e690]
  exact ⟨rfl, N690, K690, f691, f695, f696, Fw690, f698⟩
theorem dCPJ_0 : decode jdk_65_method_124_code 0 = .ok (.iload_n 1, 1) := by decide +kernel
theorem dCPJ_1 : decode jdk_65_method_124_code 1 = .ok (.aload_n 0, 1) := by decide +kernel
theorem dCPJ_2 : decode jdk_65_method_124_code 2 = .ok (.arraylength, 1) := by decide +kernel
theorem dCPJ_3 : decode jdk_65_method_124_code 3 = .ok (.if_icmp .ne 11, 3) := by decide +kernel
theorem dCPJ_14 : decode jdk_65_method_124_code 14 = .ok (.iload_n 1, 1) := by decide +kernel
theorem dCPJ_15 : decode jdk_65_method_124_code 15 = .ok (.newarray .long, 2) := by decide +kernel
theorem dCPJ_17 : decode jdk_65_method_124_code 17 = .ok (.astore_n 2, 1) := by decide +kernel
theorem dCPJ_18 : decode jdk_65_method_124_code 18 = .ok (.aload_n 0, 1) := by decide +kernel
theorem dCPJ_19 : decode jdk_65_method_124_code 19 = .ok (.iconst 0, 1) := by decide +kernel
theorem dCPJ_20 : decode jdk_65_method_124_code 20 = .ok (.aload_n 2, 1) := by decide +kernel
theorem dCPJ_21 : decode jdk_65_method_124_code 21 = .ok (.iconst 0, 1) := by decide +kernel
theorem dCPJ_22 : decode jdk_65_method_124_code 22 = .ok (.aload_n 0, 1) := by decide +kernel
theorem dCPJ_23 : decode jdk_65_method_124_code 23 = .ok (.arraylength, 1) := by decide +kernel
theorem dCPJ_24 : decode jdk_65_method_124_code 24 = .ok (.iload_n 1, 1) := by decide +kernel
theorem dCPJ_25 : decode jdk_65_method_124_code 25 = .ok (.invokestatic 304, 3) := by decide +kernel
theorem dCPJ_28 : decode jdk_65_method_124_code 28 = .ok (.invokestatic 150, 3) := by decide +kernel
theorem dCPJ_31 : decode jdk_65_method_124_code 31 = .ok (.aload_n 2, 1) := by decide +kernel
theorem dCPJ_32 : decode jdk_65_method_124_code 32 = .ok (.areturn, 1) := by decide +kernel
theorem pn_java_util_Arrays : plainName "java/util/Arrays" = true := by first | (simp [plainName, overriddenIn]; done) | decide +kernel
theorem ef_CPJ (m : MethodId) (x0 : Addr) (x1 : Int32) : entryFrame m #[(.ref x0), (.int x1)] 3 = mkF m 0 #[.val (.ref x0), .val (.int x1), .unset] [] := by first | (simp [entryFrame, mkF, argsToLocals, Value.category]; done) | rfl
def QCPJ (Z : State) (ar : Addr) (rm : Int32) (kar : ClassId) (n : Int32) (f : Nat → Int64) (h0 : Heap) (n0 : Nat) (v : Option Value) (h : Heap) (L : List Loc) : Prop := ∃ (r : Addr) (kr : ClassId), v = some (.ref r) ∧ Fr n0 L ∧ Keep h0 h [] ∧ Arv Z h r kr .long rm (own_L f) (.long 0) ∧ h0.size ≤ r
set_option maxRecDepth 65536 in
set_option maxHeartbeats 40000000 in
theorem rmCPJ (l : Launch) (Z : State) (a0 : Array Value) (hw : HW Z a0) (ws : List Jvm.Cond) (ar : Addr) (rm : Int32) (kar : ClassId) (n : Int32) (f : Nat → Int64) (h0 : Heap) (n0 : Nat) (Z0 : n0 ≤ h0.size) (V_ar : Arv Z h0 ar kar .long n (own_L f) (.long 0)) (hz : ∀ i, n.toNatClampNeg ≤ i → f i = 0) (hnr : n < rm) (hr : ¬ (128 : Int32) < rm) (hr0 : ¬ rm < 0) (hn0 : ¬ n < 0) :
  MetFree l (⟨"java/util/Arrays", "copyOf", "([JI)[J"⟩ : MethodName) (head1 (Jvm.Cond.code (⟨"java/util/Arrays", "copyOf", "([JI)[J"⟩ : MethodName) jdk_65_method_124_code 3 (some (.array .long)) :: ws) (Rm 1 1 128 40)) (fun a U => a = #[(.ref ar), (.int rm)] ∧ Z.Warmed39 U.vm ∧ U.heap = h0) (fun _ _ _ _ _ => True) (fun _ U o U' => ∃ v L, o = .returned v ∧ QCPJ Z ar rm kar n f h0 n0 v U'.heap L ∧ FrameEnd U o U' L (Rm 1 1 128 40).cells (Rm 1 1 128 40).slots) := by
 refine MetFree.of_bodySF (plainFor_of_name pn_java_util_Arrays) hisR ?_
 intro p e s m args below meth c s₁ Bd hml0 hP hK
 obtain ⟨rfl, hZ, hh⟩ := hP
 have hx := Bd.exec
 have hby := Bd.bytes
 have hml : c.maxLocals = 3 := hml0
 have hown : s.vm.findClass "java/util/Arrays" = some m.cls := findClass_of_methodNamed Bd.named
 have hnm := (name_of_methodNamed Bd.named Bd.method).1
 have X0 : Stand p l e (Rm 1 1 128 40) s m #[(.ref ar), (.int rm)] below meth c s₁ [] 0 0 := Stand.of_body Bd
 have e0 : s₁.heap = h0 := by rw [← hh, Bd.state]; rfl
 have N0 := Fr.nil n0
 have K0 : Keep h0 h0 [] := Keep.refl h0 []
 have pre0 : ∀ t, Steps p.tables e below (s₁.setTop (mkF m 0 #[.val (.ref ar), .val (.int rm), .unset] [])) t → Steps p.tables e below (s₁.setTop (entryFrame m #[(.ref ar), (.int rm)] 3)) t := fun t k => castTop (ef_CPJ m ar rm) k
 obtain ⟨cl699, Ar699, -, S699, N699, -, -⟩ := id V_ar
 obtain ⟨T700, h700, k700, X700, e700, E700, A700, st700⟩ := newP X0 hx hZ (wd hw 20 rfl) e0 (g := (mkF m 15 #[.val (.ref ar), .val (.int rm), .unset] [(.int rm)])) rfl (hb hby dCPJ_15) rfl hr0 (cap := 128) (own_lenat (k := 128) (K := 128) (by decide) (by decide) hr) (by decide) (by decide) (by decide)
 obtain ⟨b700, g700⟩ : ∃ z, z = h0.size := ⟨_, rfl⟩
 rw [← g700] at A700 st700
 have lt_ar_b700 : ar < b700 := Nat.lt_of_lt_of_le V_ar.lt (Nat.le_of_eq g700.symm)
 have g_b700 : n0 ≤ b700 := Nat.le_trans (Nat.le_trans Z0 K0.1) (Nat.le_of_eq g700.symm)
 have sz_b700 : h0.size ≤ b700 := Nat.le_trans K0.1 (Nat.le_of_eq g700.symm)
 have K700 : Keep h0 h700 [] := K0.ext E700
 have V700 : Arv Z h700 b700 k700 .long rm [] (.long (0 : Int64)) := Arv.new A700 hr0
 have f702 := V_ar.ext E700
 obtain ⟨cl701, Ar701, -, S701, N701, -, -⟩ := id f702
 obtain ⟨_, _, ⟨T703, L703, k703, n703⟩, -, X703, ⟨Lc703, hQ703, l703, y703, z703⟩, st703⟩ := Jvm.LawKit.callS X700 hx (y := (⟨"java/lang/Math", "min", "(II)I"⟩ : MethodName)) hown (mvT hZ (wd hw 150 rfl)) (mvT hZ (wd hw 2 rfl)) (mvT hZ (wd hw 3 rfl)) (mvT hZ (wd hw 4 rfl)) (by decide) (backOf (W := 4) (rmMN l Z a0 hw [] n rm h700 n0 (Nat.le_trans Z0 K700.1) ) hZ (wd hw 4 rfl) (wd hw 3 rfl) (by decide) (by decide)) (g := (mkF m 25 #[.val (.ref ar), .val (.int rm), .val (.ref b700)] [(.int rm), (.int n), (.int (0 : Int32)), (.ref b700), (.int (0 : Int32)), (.ref ar)])) rfl (by rw [hml]; rfl) (argsL := [(.int n), (.int rm)]) (rest := [(.int (0 : Int32)), (.ref b700), (.int (0 : Int32)), (.ref ar)]) (lenOf pd_4 rfl) rfl (by show 2 * 0 + _ ≤ _; exact Nat.le_of_eq rfl) (hb hby dCPJ_25) (fun _ _ => ⟨rfl, e700, (by decide : 1 + 0 ≤ _), (by decide : 128 + 0 ≤ _)⟩)
 dsimp only [Pt.U, Pt.locs, Pt.cells, Pt.slots] at X703 l703 y703 z703 st703 hQ703
 rw [l703, y703, z703] at X703
 obtain ⟨hv703, Nq703, eq703⟩ := hQ703
 rw [hv703] at st703
 have N703 := Fr.app N0 Nq703
 rw [own_minl hnr] at st703
 have Vp704 : Arv Z h700 b700 k700 .long rm (List.replicate 128 (.long 0)) (.long 0) := V700.pad (own_padR (.long 0))
 have hl704 := own_ltnat hn0 hnr
 have hm704 := own_lenat (k := 128) (K := 128) (by decide) (by decide) hr
 have z0 : (0 : Int32).toNatClampNeg = 0 := by decide
 obtain ⟨T704, h704, L704, X704, e704, N704, Kc704, V704, st704⟩ := cpA X703 hx hZ hown (wd hw 151 rfl) (wd hw 154 rfl) (wd hw 152 rfl) (wd hw 153 rfl) eq703 f702 Vp704 (Or.inl ⟨rfl, rfl⟩) (sp := 0) (dp := 0) (nn := n) (by decide) (by decide) hn0 (by rw [z0]; omega) (by rw [z0]; omega) rfl (by rw [z0, List.length_replicate]; omega) N703 g_b700 (g := (mkF m 28 #[.val (.ref ar), .val (.int rm), .val (.ref b700)] [(.int n), (.int (0 : Int32)), (.ref b700), (.int (0 : Int32)), (.ref ar)])) rfl (by rw [hml]; rfl) rfl (hb hby dCPJ_28) (by decide) (W := 0) (by show 2 * 0 + _ ≤ _; exact Nat.le_of_eq rfl) (by decide +kernel)
 have Vq704 : Arv Z h704 b700 k700 .long rm (own_L f) (.long 0) := V704.pad (own_cp _ _ _ (by omega) (own_Lz hz))
 have K704 : Keep h0 h704 [] := K700.trans Kc704 (allS (P := fun x => x ∈ [] ∨ h0.size ≤ x) (Or.inr sz_b700) all0)
 obtain ⟨fs, hr, hrun, hended, hW, hsame⟩ := X704.leave (v := some (.ref b700)) (fun h => by rw [Bd.returns] at h; cases h)
 refine ⟨_, _, ?_, hrun, hended, _, _, rfl, ?_, ⟨_, rfl⟩, hW, hsame.mono (by decide) (by decide)⟩
 ·refine pre0 _ ?_
  show Steps _ _ _ (s₁.setTop (mkF m 0 #[.val (.ref ar), .val (.int rm), .unset] [])) _
  refine XS.iloadN X0.here hx rfl (hb hby dCPJ_0) rfl ?_
  refine XS.aloadN X0.here hx rfl (hb hby dCPJ_1) rfl rfl ?_
  show Steps _ _ _ (s₁.setTop (mkF m 2 #[.val (.ref ar), .val (.int rm), .unset] [(.ref ar), (.int rm)])) _
  refine X0.arraylength hx (by rw [e0]; exact Ar699.1) (State.isArrayOf_alike hZ.alike Ar699.2.1) (g := (mkF m 2 #[.val (.ref ar), .val (.int rm), .unset] [(.ref ar), (.int rm)])) rfl rfl (hb hby dCPJ_2) _ ?_
  rw [len_of S699 N699]
  refine XS.icmpYes X0.here hx rfl (pc0 := 3) (pc' := 14) rfl (hb hby dCPJ_3) rfl (feq (own_nelt hnr)).2 (by decide) (by decide) ?_
  refine XS.iloadN X0.here hx rfl (hb hby dCPJ_14) rfl ?_
  show Steps _ _ _ (s₁.setTop (mkF m 15 #[.val (.ref ar), .val (.int rm), .unset] [(.int rm)])) _
  refine st700 _ ?_
  refine XS.astoreN X700.here hx rfl (hb hby dCPJ_17) rfl rfl (l' := #[.val (.ref ar), .val (.int rm), .val (.ref b700)]) rfl ?_
  refine XS.aloadN X700.here hx rfl (hb hby dCPJ_18) rfl rfl ?_
  refine XS.iconst X700.here hx rfl (hb hby dCPJ_19) ?_
  show Steps _ _ _ (T700.setTop (mkF m 20 #[.val (.ref ar), .val (.int rm), .val (.ref b700)] [(.int (0 : Int32)), (.ref ar)])) _
  refine XS.aloadN X700.here hx rfl (hb hby dCPJ_20) rfl rfl ?_
  refine XS.iconst X700.here hx rfl (hb hby dCPJ_21) ?_
  refine XS.aloadN X700.here hx rfl (hb hby dCPJ_22) rfl rfl ?_
  show Steps _ _ _ (T700.setTop (mkF m 23 #[.val (.ref ar), .val (.int rm), .val (.ref b700)] [(.ref ar), (.int (0 : Int32)), (.ref b700), (.int (0 : Int32)), (.ref ar)])) _
  refine X700.arraylength hx (by rw [e700]; exact Ar701.1) (State.isArrayOf_alike hZ.alike Ar701.2.1) (g := (mkF m 23 #[.val (.ref ar), .val (.int rm), .val (.ref b700)] [(.ref ar), (.int (0 : Int32)), (.ref b700), (.int (0 : Int32)), (.ref ar)])) rfl rfl (hb hby dCPJ_23) _ ?_
  rw [len_of S701 N701]
  refine XS.iloadN X700.here hx rfl (hb hby dCPJ_24) rfl ?_
  refine st703 _ ?_
  show Steps _ _ _ (T703.setTop (mkF m 28 #[.val (.ref ar), .val (.int rm), .val (.ref b700)] [(.int n), (.int (0 : Int32)), (.ref b700), (.int (0 : Int32)), (.ref ar)])) _
  refine st704 _ ?_
  show Steps _ _ _ (T704.setTop (mkF m 31 #[.val (.ref ar), .val (.int rm), .val (.ref b700)] [])) _
  refine XS.aloadN X704.here hx rfl (hb hby dCPJ_31) rfl rfl ?_
  show Steps _ _ _ (T704.setTop (mkF m 32 #[.val (.ref ar), .val (.int rm), .val (.ref b700)] [(.ref b700)])) _
  jvm_step X704.here [X704.here.top, hx, (hb hby dCPJ_32), X704.method', Bd.returns, Value.isRef, FieldType.isReference]
  first | (intro acts; rw [hr _ acts rfl rfl rfl]) | rw [hr _ _ rfl rfl rfl]
  exact Steps.refl _
 ·show QCPJ Z ar rm kar n f h0 n0 _ T704.heap _
  rw [e704]
  exact ⟨b700, k700, rfl, N704, K704, Vq704, sz_b700⟩
theorem dCPD_0 : decode jdk_65_method_127_code 0 = .ok (.iload_n 1, 1) := by decide +kernel
theorem dCPD_1 : decode jdk_65_method_127_code 1 = .ok (.aload_n 0, 1) := by decide +kernel
theorem dCPD_2 : decode jdk_65_method_127_code 2 = .ok (.arraylength, 1) := by decide +kernel
theorem dCPD_3 : decode jdk_65_method_127_code 3 = .ok (.if_icmp .ne 11, 3) := by decide +kernel
theorem dCPD_14 : decode jdk_65_method_127_code 14 = .ok (.iload_n 1, 1) := by decide +kernel
theorem dCPD_15 : decode jdk_65_method_127_code 15 = .ok (.newarray .double, 2) := by decide +kernel
theorem dCPD_17 : decode jdk_65_method_127_code 17 = .ok (.astore_n 2, 1) := by decide +kernel
theorem dCPD_18 : decode jdk_65_method_127_code 18 = .ok (.aload_n 0, 1) := by decide +kernel
theorem dCPD_19 : decode jdk_65_method_127_code 19 = .ok (.iconst 0, 1) := by decide +kernel
theorem dCPD_20 : decode jdk_65_method_127_code 20 = .ok (.aload_n 2, 1) := by decide +kernel
theorem dCPD_21 : decode jdk_65_method_127_code 21 = .ok (.iconst 0, 1) := by decide +kernel
theorem dCPD_22 : decode jdk_65_method_127_code 22 = .ok (.aload_n 0, 1) := by decide +kernel
theorem dCPD_23 : decode jdk_65_method_127_code 23 = .ok (.arraylength, 1) := by decide +kernel
theorem dCPD_24 : decode jdk_65_method_127_code 24 = .ok (.iload_n 1, 1) := by decide +kernel
theorem dCPD_25 : decode jdk_65_method_127_code 25 = .ok (.invokestatic 304, 3) := by decide +kernel
theorem dCPD_28 : decode jdk_65_method_127_code 28 = .ok (.invokestatic 150, 3) := by decide +kernel
theorem dCPD_31 : decode jdk_65_method_127_code 31 = .ok (.aload_n 2, 1) := by decide +kernel
theorem dCPD_32 : decode jdk_65_method_127_code 32 = .ok (.areturn, 1) := by decide +kernel
theorem ef_CPD (m : MethodId) (x0 : Addr) (x1 : Int32) : entryFrame m #[(.ref x0), (.int x1)] 3 = mkF m 0 #[.val (.ref x0), .val (.int x1), .unset] [] := by first | (simp [entryFrame, mkF, argsToLocals, Value.category]; done) | rfl
def QCPD (Z : State) (ar : Addr) (rm : Int32) (kar : ClassId) (n : Int32) (f : Nat → Int64) (h0 : Heap) (n0 : Nat) (v : Option Value) (h : Heap) (L : List Loc) : Prop := ∃ (r : Addr) (kr : ClassId), v = some (.ref r) ∧ Fr n0 L ∧ Keep h0 h [] ∧ Arv Z h r kr .double rm (own_D f) (.double (FP.l2d 0)) ∧ h0.size ≤ r
set_option maxRecDepth 65536 in
set_option maxHeartbeats 40000000 in
theorem rmCPD (l : Launch) (Z : State) (a0 : Array Value) (hw : HW Z a0) (ws : List Jvm.Cond) (ar : Addr) (rm : Int32) (kar : ClassId) (n : Int32) (f : Nat → Int64) (h0 : Heap) (n0 : Nat) (Z0 : n0 ≤ h0.size) (V_ar : Arv Z h0 ar kar .double n (own_D f) (.double (FP.l2d 0))) (hz : ∀ i, n.toNatClampNeg ≤ i → f i = 0) (hnr : n < rm) (hr : ¬ (128 : Int32) < rm) (hr0 : ¬ rm < 0) (hn0 : ¬ n < 0) :
  MetFree l (⟨"java/util/Arrays", "copyOf", "([DI)[D"⟩ : MethodName) (head1 (Jvm.Cond.code (⟨"java/util/Arrays", "copyOf", "([DI)[D"⟩ : MethodName) jdk_65_method_127_code 3 (some (.array .double)) :: ws) (Rm 1 1 128 40)) (fun a U => a = #[(.ref ar), (.int rm)] ∧ Z.Warmed39 U.vm ∧ U.heap = h0) (fun _ _ _ _ _ => True) (fun _ U o U' => ∃ v L, o = .returned v ∧ QCPD Z ar rm kar n f h0 n0 v U'.heap L ∧ FrameEnd U o U' L (Rm 1 1 128 40).cells (Rm 1 1 128 40).slots) := by
 refine MetFree.of_bodySF (plainFor_of_name pn_java_util_Arrays) hisR ?_
 intro p e s m args below meth c s₁ Bd hml0 hP hK
 obtain ⟨rfl, hZ, hh⟩ := hP
 have hx := Bd.exec
 have hby := Bd.bytes
 have hml : c.maxLocals = 3 := hml0
 have hown : s.vm.findClass "java/util/Arrays" = some m.cls := findClass_of_methodNamed Bd.named
 have hnm := (name_of_methodNamed Bd.named Bd.method).1
 have X0 : Stand p l e (Rm 1 1 128 40) s m #[(.ref ar), (.int rm)] below meth c s₁ [] 0 0 := Stand.of_body Bd
 have e0 : s₁.heap = h0 := by rw [← hh, Bd.state]; rfl
 have N0 := Fr.nil n0
 have K0 : Keep h0 h0 [] := Keep.refl h0 []
 have pre0 : ∀ t, Steps p.tables e below (s₁.setTop (mkF m 0 #[.val (.ref ar), .val (.int rm), .unset] [])) t → Steps p.tables e below (s₁.setTop (entryFrame m #[(.ref ar), (.int rm)] 3)) t := fun t k => castTop (ef_CPD m ar rm) k
 obtain ⟨cl705, Ar705, -, S705, N705, -, -⟩ := id V_ar
 obtain ⟨T706, h706, k706, X706, e706, E706, A706, st706⟩ := newP X0 hx hZ (wd hw 23 rfl) e0 (g := (mkF m 15 #[.val (.ref ar), .val (.int rm), .unset] [(.int rm)])) rfl (hb hby dCPD_15) rfl hr0 (cap := 128) (own_lenat (k := 128) (K := 128) (by decide) (by decide) hr) (by decide) (by decide) (by decide)
 obtain ⟨b706, g706⟩ : ∃ z, z = h0.size := ⟨_, rfl⟩
 rw [← g706] at A706 st706
 have lt_ar_b706 : ar < b706 := Nat.lt_of_lt_of_le V_ar.lt (Nat.le_of_eq g706.symm)
 have g_b706 : n0 ≤ b706 := Nat.le_trans (Nat.le_trans Z0 K0.1) (Nat.le_of_eq g706.symm)
 have sz_b706 : h0.size ≤ b706 := Nat.le_trans K0.1 (Nat.le_of_eq g706.symm)
 have K706 : Keep h0 h706 [] := K0.ext E706
 have V706 : Arv Z h706 b706 k706 .double rm [] (.double (FP.l2d 0)) := Arv.newD A706 hr0
 have f708 := V_ar.ext E706
 obtain ⟨cl707, Ar707, -, S707, N707, -, -⟩ := id f708
 obtain ⟨_, _, ⟨T709, L709, k709, n709⟩, -, X709, ⟨Lc709, hQ709, l709, y709, z709⟩, st709⟩ := Jvm.LawKit.callS X706 hx (y := (⟨"java/lang/Math", "min", "(II)I"⟩ : MethodName)) hown (mvT hZ (wd hw 150 rfl)) (mvT hZ (wd hw 2 rfl)) (mvT hZ (wd hw 3 rfl)) (mvT hZ (wd hw 4 rfl)) (by decide) (backOf (W := 4) (rmMN l Z a0 hw [] n rm h706 n0 (Nat.le_trans Z0 K706.1) ) hZ (wd hw 4 rfl) (wd hw 3 rfl) (by decide) (by decide)) (g := (mkF m 25 #[.val (.ref ar), .val (.int rm), .val (.ref b706)] [(.int rm), (.int n), (.int (0 : Int32)), (.ref b706), (.int (0 : Int32)), (.ref ar)])) rfl (by rw [hml]; rfl) (argsL := [(.int n), (.int rm)]) (rest := [(.int (0 : Int32)), (.ref b706), (.int (0 : Int32)), (.ref ar)]) (lenOf pd_4 rfl) rfl (by show 2 * 0 + _ ≤ _; exact Nat.le_of_eq rfl) (hb hby dCPD_25) (fun _ _ => ⟨rfl, e706, (by decide : 1 + 0 ≤ _), (by decide : 128 + 0 ≤ _)⟩)
 dsimp only [Pt.U, Pt.locs, Pt.cells, Pt.slots] at X709 l709 y709 z709 st709 hQ709
 rw [l709, y709, z709] at X709
 obtain ⟨hv709, Nq709, eq709⟩ := hQ709
 rw [hv709] at st709
 have N709 := Fr.app N0 Nq709
 rw [own_minl hnr] at st709
 have Vp710 : Arv Z h706 b706 k706 .double rm (List.replicate 128 (.double (FP.l2d 0))) (.double (FP.l2d 0)) := V706.pad (own_padR (.double (FP.l2d 0)))
 have hl710 := own_ltnat hn0 hnr
 have hm710 := own_lenat (k := 128) (K := 128) (by decide) (by decide) hr
 have z0 : (0 : Int32).toNatClampNeg = 0 := by decide
 obtain ⟨T710, h710, L710, X710, e710, N710, Kc710, V710, st710⟩ := cpA X709 hx hZ hown (wd hw 151 rfl) (wd hw 154 rfl) (wd hw 152 rfl) (wd hw 153 rfl) eq709 f708 Vp710 (Or.inl ⟨rfl, rfl⟩) (sp := 0) (dp := 0) (nn := n) (by decide) (by decide) hn0 (by rw [z0]; omega) (by rw [z0]; omega) rfl (by rw [z0, List.length_replicate]; omega) N709 g_b706 (g := (mkF m 28 #[.val (.ref ar), .val (.int rm), .val (.ref b706)] [(.int n), (.int (0 : Int32)), (.ref b706), (.int (0 : Int32)), (.ref ar)])) rfl (by rw [hml]; rfl) rfl (hb hby dCPD_28) (by decide) (W := 0) (by show 2 * 0 + _ ≤ _; exact Nat.le_of_eq rfl) (by decide +kernel)
 have Vq710 : Arv Z h710 b706 k706 .double rm (own_D f) (.double (FP.l2d 0)) := V710.pad (own_cp _ _ _ (by omega) (own_Dz hz))
 have K710 : Keep h0 h710 [] := K706.trans Kc710 (allS (P := fun x => x ∈ [] ∨ h0.size ≤ x) (Or.inr sz_b706) all0)
 obtain ⟨fs, hr, hrun, hended, hW, hsame⟩ := X710.leave (v := some (.ref b706)) (fun h => by rw [Bd.returns] at h; cases h)
 refine ⟨_, _, ?_, hrun, hended, _, _, rfl, ?_, ⟨_, rfl⟩, hW, hsame.mono (by decide) (by decide)⟩
 ·refine pre0 _ ?_
  show Steps _ _ _ (s₁.setTop (mkF m 0 #[.val (.ref ar), .val (.int rm), .unset] [])) _
  refine XS.iloadN X0.here hx rfl (hb hby dCPD_0) rfl ?_
  refine XS.aloadN X0.here hx rfl (hb hby dCPD_1) rfl rfl ?_
  show Steps _ _ _ (s₁.setTop (mkF m 2 #[.val (.ref ar), .val (.int rm), .unset] [(.ref ar), (.int rm)])) _
  refine X0.arraylength hx (by rw [e0]; exact Ar705.1) (State.isArrayOf_alike hZ.alike Ar705.2.1) (g := (mkF m 2 #[.val (.ref ar), .val (.int rm), .unset] [(.ref ar), (.int rm)])) rfl rfl (hb hby dCPD_2) _ ?_
  rw [len_of S705 N705]
  refine XS.icmpYes X0.here hx rfl (pc0 := 3) (pc' := 14) rfl (hb hby dCPD_3) rfl (feq (own_nelt hnr)).2 (by decide) (by decide) ?_
  refine XS.iloadN X0.here hx rfl (hb hby dCPD_14) rfl ?_
  show Steps _ _ _ (s₁.setTop (mkF m 15 #[.val (.ref ar), .val (.int rm), .unset] [(.int rm)])) _
  refine st706 _ ?_
  refine XS.astoreN X706.here hx rfl (hb hby dCPD_17) rfl rfl (l' := #[.val (.ref ar), .val (.int rm), .val (.ref b706)]) rfl ?_
  refine XS.aloadN X706.here hx rfl (hb hby dCPD_18) rfl rfl ?_
  refine XS.iconst X706.here hx rfl (hb hby dCPD_19) ?_
  show Steps _ _ _ (T706.setTop (mkF m 20 #[.val (.ref ar), .val (.int rm), .val (.ref b706)] [(.int (0 : Int32)), (.ref ar)])) _
  refine XS.aloadN X706.here hx rfl (hb hby dCPD_20) rfl rfl ?_
  refine XS.iconst X706.here hx rfl (hb hby dCPD_21) ?_
  refine XS.aloadN X706.here hx rfl (hb hby dCPD_22) rfl rfl ?_
  show Steps _ _ _ (T706.setTop (mkF m 23 #[.val (.ref ar), .val (.int rm), .val (.ref b706)] [(.ref ar), (.int (0 : Int32)), (.ref b706), (.int (0 : Int32)), (.ref ar)])) _
  refine X706.arraylength hx (by rw [e706]; exact Ar707.1) (State.isArrayOf_alike hZ.alike Ar707.2.1) (g := (mkF m 23 #[.val (.ref ar), .val (.int rm), .val (.ref b706)] [(.ref ar), (.int (0 : Int32)), (.ref b706), (.int (0 : Int32)), (.ref ar)])) rfl rfl (hb hby dCPD_23) _ ?_
  rw [len_of S707 N707]
  refine XS.iloadN X706.here hx rfl (hb hby dCPD_24) rfl ?_
  refine st709 _ ?_
  show Steps _ _ _ (T709.setTop (mkF m 28 #[.val (.ref ar), .val (.int rm), .val (.ref b706)] [(.int n), (.int (0 : Int32)), (.ref b706), (.int (0 : Int32)), (.ref ar)])) _
  refine st710 _ ?_
  show Steps _ _ _ (T710.setTop (mkF m 31 #[.val (.ref ar), .val (.int rm), .val (.ref b706)] [])) _
  refine XS.aloadN X710.here hx rfl (hb hby dCPD_31) rfl rfl ?_
  show Steps _ _ _ (T710.setTop (mkF m 32 #[.val (.ref ar), .val (.int rm), .val (.ref b706)] [(.ref b706)])) _
  jvm_step X710.here [X710.here.top, hx, (hb hby dCPD_32), X710.method', Bd.returns, Value.isRef, FieldType.isReference]
  first | (intro acts; rw [hr _ acts rfl rfl rfl]) | rw [hr _ _ rfl rfl rfl]
  exact Steps.refl _
 ·show QCPD Z ar rm kar n f h0 n0 _ T710.heap _
  rw [e710]
  exact ⟨b706, k706, rfl, N710, K710, Vq710, sz_b706⟩
theorem own_tr {a b c : Int32} (h : a < b) (h2 : b < c) : a < c := by rw [Int32.lt_iff_toInt_lt] at *; omega
theorem own_n0 {n : Int32} (h : ¬ n < 16) : ¬ n < 0 := fun q => h (own_tr q (by decide))
theorem own_nlt {a b : Int32} (h : a < b) : ¬ b < a := fun q => by rw [Int32.lt_iff_toInt_lt] at *; omega
theorem own_nirr (a : Int32) : ¬ a < a := fun q => by rw [Int32.lt_iff_toInt_lt] at q; omega
theorem own_b90 : own_B 1000 90 := by unfold own_B; decide
theorem own_b10 : own_B 1000 10 := by unfold own_B; decide
theorem own_b100 : own_B 1000 100 := by unfold own_B; decide
theorem dCM_0 : decode prog_63_method_4_code 0 = .ok (.dload 4, 2) := by decide +kernel
theorem dCM_2 : decode prog_63_method_4_code 2 = .ok (.aload_n 0, 1) := by decide +kernel
theorem dCM_3 : decode prog_63_method_4_code 3 = .ok (.getfield 36, 3) := by decide +kernel
theorem dCM_6 : decode prog_63_method_4_code 6 = .ok (.dcmp .g, 1) := by decide +kernel
theorem dCM_7 : decode prog_63_method_4_code 7 = .ok (.ifCond .gt 38, 3) := by decide +kernel
theorem dCM_45 : decode prog_63_method_4_code 45 = .ok (.iload_n 1, 1) := by decide +kernel
theorem dCM_46 : decode prog_63_method_4_code 46 = .ok (.aload_n 0, 1) := by decide +kernel
theorem dCM_47 : decode prog_63_method_4_code 47 = .ok (.getfield 7, 3) := by decide +kernel
theorem dCM_50 : decode prog_63_method_4_code 50 = .ok (.arraylength, 1) := by decide +kernel
theorem dCM_51 : decode prog_63_method_4_code 51 = .ok (.if_icmp .lt 44, 3) := by decide +kernel
theorem dCM_95 : decode prog_63_method_4_code 95 = .ok (.aload_n 0, 1) := by decide +kernel
theorem dCM_96 : decode prog_63_method_4_code 96 = .ok (.getfield 7, 3) := by decide +kernel
theorem dCM_99 : decode prog_63_method_4_code 99 = .ok (.iload_n 1, 1) := by decide +kernel
theorem dCM_100 : decode prog_63_method_4_code 100 = .ok (.dup2, 1) := by decide +kernel
theorem dCM_101 : decode prog_63_method_4_code 101 = .ok (.laload, 1) := by decide +kernel
theorem dCM_102 : decode prog_63_method_4_code 102 = .ok (.lconst 1, 1) := by decide +kernel
theorem dCM_103 : decode prog_63_method_4_code 103 = .ok (.ladd, 1) := by decide +kernel
theorem dCM_104 : decode prog_63_method_4_code 104 = .ok (.lastore, 1) := by decide +kernel
theorem dCM_105 : decode prog_63_method_4_code 105 = .ok (.aload_n 0, 1) := by decide +kernel
theorem dCM_106 : decode prog_63_method_4_code 106 = .ok (.getfield 13, 3) := by decide +kernel
theorem dCM_109 : decode prog_63_method_4_code 109 = .ok (.iload_n 1, 1) := by decide +kernel
theorem dCM_110 : decode prog_63_method_4_code 110 = .ok (.dup2, 1) := by decide +kernel
theorem dCM_111 : decode prog_63_method_4_code 111 = .ok (.daload, 1) := by decide +kernel
theorem dCM_112 : decode prog_63_method_4_code 112 = .ok (.dload_n 2, 1) := by decide +kernel
theorem dCM_113 : decode prog_63_method_4_code 113 = .ok (.dadd, 1) := by decide +kernel
theorem dCM_114 : decode prog_63_method_4_code 114 = .ok (.dastore, 1) := by decide +kernel
theorem dCM_115 : decode prog_63_method_4_code 115 = .ok (.return_, 1) := by decide +kernel
theorem dCM_54 : decode prog_63_method_4_code 54 = .ok (.iload_n 1, 1) := by decide +kernel
theorem dCM_55 : decode prog_63_method_4_code 55 = .ok (.iconst 1, 1) := by decide +kernel
theorem dCM_56 : decode prog_63_method_4_code 56 = .ok (.iadd, 1) := by decide +kernel
theorem dCM_57 : decode prog_63_method_4_code 57 = .ok (.aload_n 0, 1) := by decide +kernel
theorem dCM_58 : decode prog_63_method_4_code 58 = .ok (.getfield 7, 3) := by decide +kernel
theorem dCM_61 : decode prog_63_method_4_code 61 = .ok (.arraylength, 1) := by decide +kernel
theorem dCM_62 : decode prog_63_method_4_code 62 = .ok (.iconst 2, 1) := by decide +kernel
theorem dCM_63 : decode prog_63_method_4_code 63 = .ok (.imul, 1) := by decide +kernel
theorem dCM_64 : decode prog_63_method_4_code 64 = .ok (.invokestatic 52, 3) := by decide +kernel
theorem dCM_67 : decode prog_63_method_4_code 67 = .ok (.istore 6, 2) := by decide +kernel
theorem dCM_69 : decode prog_63_method_4_code 69 = .ok (.aload_n 0, 1) := by decide +kernel
theorem dCM_70 : decode prog_63_method_4_code 70 = .ok (.aload_n 0, 1) := by decide +kernel
theorem dCM_71 : decode prog_63_method_4_code 71 = .ok (.getfield 7, 3) := by decide +kernel
theorem dCM_74 : decode prog_63_method_4_code 74 = .ok (.iload 6, 2) := by decide +kernel
theorem dCM_76 : decode prog_63_method_4_code 76 = .ok (.invokestatic 58, 3) := by decide +kernel
theorem pd_7 : parseMethodDescriptor "([JI)[J" = some ⟨[(.array .long), .int], some (.array .long)⟩ := by decide +kernel
theorem dCM_79 : decode prog_63_method_4_code 79 = .ok (.putfield 7, 3) := by decide +kernel
theorem dCM_82 : decode prog_63_method_4_code 82 = .ok (.aload_n 0, 1) := by decide +kernel
theorem dCM_83 : decode prog_63_method_4_code 83 = .ok (.aload_n 0, 1) := by decide +kernel
theorem dCM_84 : decode prog_63_method_4_code 84 = .ok (.getfield 13, 3) := by decide +kernel
theorem dCM_87 : decode prog_63_method_4_code 87 = .ok (.iload 6, 2) := by decide +kernel
theorem dCM_89 : decode prog_63_method_4_code 89 = .ok (.invokestatic 64, 3) := by decide +kernel
theorem pd_8 : parseMethodDescriptor "([DI)[D" = some ⟨[(.array .double), .int], some (.array .double)⟩ := by decide +kernel
theorem dCM_92 : decode prog_63_method_4_code 92 = .ok (.putfield 13, 3) := by decide +kernel
theorem ef_CN0 (m : MethodId) (x0 : Addr) (x1 : Int32) (x2 : UInt64) (x3 : UInt64) : entryFrame m #[(.ref x0), (.int x1), (.double x2), (.double x3)] 7 = mkF m 0 #[.val (.ref x0), .val (.int x1), .val (.double x2), .second, .val (.double x3), .second, .unset] [] := by first | (simp [entryFrame, mkF, argsToLocals, Value.category]; done) | rfl
def QCN0 (Z : State) (A : Addr) (pl : Int32) (lt : Int64) (tt : Int64) (ec : Addr) (el : Addr) (qa : Addr) (q : Addr) (kec : ClassId) (kel : ClassId) (n : Int32) (f : Nat → Int64) (g : Nat → Int64) (h0 : Heap) (n0 : Nat) (v : Option Value) (h : Heap) (L : List Loc) : Prop := v = none ∧ Fr n0 L ∧ h0.size ≤ h.size ∧ ∃ (ec' el' : Addr) (kec' kel' : ClassId) (n' : Int32), own_S0 Z h n0 A ec' el' qa q kec' kel' n' (own_upd f pl.toNatClampNeg ((f pl.toNatClampNeg) + (1 : Int64))) (own_upd g pl.toNatClampNeg ((g pl.toNatClampNeg) + lt))  ∧ ¬ n' < n ∧ pl < n' ∧ ¬ (128 : Int32) < n' ∧ (n = 16 → ¬ (64 : Int32) < n')
set_option maxRecDepth 65536 in
set_option maxHeartbeats 40000000 in
theorem rmCN0 (l : Launch) (Z : State) (a0 : Array Value) (hw : HW Z a0) (ws : List Jvm.Cond) (A : Addr) (pl : Int32) (lt : Int64) (tt : Int64) (ec : Addr) (el : Addr) (qa : Addr) (q : Addr) (kec : ClassId) (kel : ClassId) (n : Int32) (f : Nat → Int64) (g : Nat → Int64) (h0 : Heap) (n0 : Nat) (Z0 : n0 ≤ h0.size) (S : own_S0 Z h0 n0 A ec el qa q kec kel n f g) (hp0 : ¬ pl < 0) (hp1 : ¬ (63 : Int32) < pl) (hn0 : ¬ n < 16) (hn1 : ¬ (64 : Int32) < n) (hzf : ∀ i, n.toNatClampNeg ≤ i → f i = 0) (hzg : ∀ i, n.toNatClampNeg ≤ i → g i = 0) (hlb : own_B 2147483648 lt) (hgb : ∀ i, own_B 4294967296 (g i)) (htb : own_B 1000 tt) (hk : 90 < tt) :
  MetFree l (⟨sRA, "completed", "(IDD)V"⟩ : MethodName) (head1 (Jvm.Cond.code (⟨sRA, "completed", "(IDD)V"⟩ : MethodName) prog_63_method_4_code 7 none :: ws) (Rm 4 8 310 55)) (fun a U => a = #[(.ref A), (.int pl), (.double (FP.l2d lt)), (.double (FP.l2d tt))] ∧ Z.Warmed39 U.vm ∧ U.heap = h0) (fun _ _ _ _ _ => True) (fun _ U o U' => ∃ v L, o = .returned v ∧ QCN0 Z A pl lt tt ec el qa q kec kel n f g h0 n0 v U'.heap L ∧ FrameEnd U o U' L (Rm 4 8 310 55).cells (Rm 4 8 310 55).slots) := by
 refine MetFree.of_bodySF (plainFor_of_name pn_com_example_frugal_weir_frugalweir_replay_RecentActivity) hisR ?_
 intro p e s m args below meth c s₁ Bd hml0 hP hK
 obtain ⟨rfl, hZ, hh⟩ := hP
 have hx := Bd.exec
 have hby := Bd.bytes
 have hml : c.maxLocals = 7 := hml0
 have hown : s.vm.findClass sRA = some m.cls := findClass_of_methodNamed Bd.named
 have hnm := (name_of_methodNamed Bd.named Bd.method).1
 have X0 : Stand p l e (Rm 4 8 310 55) s m #[(.ref A), (.int pl), (.double (FP.l2d lt)), (.double (FP.l2d tt))] below meth c s₁ [] 0 0 := Stand.of_body Bd
 have e0 : s₁.heap = h0 := by rw [← hh, Bd.state]; rfl
 have N0 := Fr.nil n0
 have pre0 : ∀ t, Steps p.tables e below (s₁.setTop (mkF m 0 #[.val (.ref A), .val (.int pl), .val (.double (FP.l2d lt)), .second, .val (.double (FP.l2d tt)), .second, .unset] [])) t → Steps p.tables e below (s₁.setTop (entryFrame m #[(.ref A), (.int pl), (.double (FP.l2d lt)), (.double (FP.l2d tt))] 7)) t := fun t k => castTop (ef_CN0 m A pl (FP.l2d lt) (FP.l2d tt)) k
 obtain ⟨E_A, F_A_window, F_A_asksBefore, F_A_keptUntil, F_A_executorCompleted, F_A_executorLatencySum, F_A_arrivalEvents, F_A_completionEvents, E_qa, F_qa_size, V_ec, V_el, dq, es, kes, E_q, F_q_intFields, F_q_doubleFields, F_q_blocks, F_q_first, F_q_last, F_q_spare, F_q_head, F_q_end, F_q_size, E_dq, F_dq_head, F_dq_tail, F_dq_elements, V_es, O_es, c_A_qa, c_qa_q, c_q_dq, c_dq_es, ne_ec_A, ne_ec_qa, ne_ec_q, ne_ec_dq, ne_ec_es, ne_el_A, ne_el_qa, ne_el_q, ne_el_dq, ne_el_es, ne_ec_el, g_A, g_ec, g_el, g_q, g_dq, g_es⟩ := S
 have lt_A_qa : A < qa := c_A_qa
 have ne_A_qa : A ≠ qa := Nat.ne_of_lt lt_A_qa
 have lt_A_q : A < q := Nat.lt_trans lt_A_qa c_qa_q
 have ne_A_q : A ≠ q := Nat.ne_of_lt lt_A_q
 have lt_A_dq : A < dq := Nat.lt_trans lt_A_q c_q_dq
 have ne_A_dq : A ≠ dq := Nat.ne_of_lt lt_A_dq
 have lt_A_es : A < es := Nat.lt_trans lt_A_dq c_dq_es
 have ne_A_es : A ≠ es := Nat.ne_of_lt lt_A_es
 have lt_qa_q : qa < q := c_qa_q
 have ne_qa_q : qa ≠ q := Nat.ne_of_lt lt_qa_q
 have lt_qa_dq : qa < dq := Nat.lt_trans lt_qa_q c_q_dq
 have ne_qa_dq : qa ≠ dq := Nat.ne_of_lt lt_qa_dq
 have lt_qa_es : qa < es := Nat.lt_trans lt_qa_dq c_dq_es
 have ne_qa_es : qa ≠ es := Nat.ne_of_lt lt_qa_es
 have lt_q_dq : q < dq := c_q_dq
 have ne_q_dq : q ≠ dq := Nat.ne_of_lt lt_q_dq
 have lt_q_es : q < es := Nat.lt_trans lt_q_dq c_dq_es
 have ne_q_es : q ≠ es := Nat.ne_of_lt lt_q_es
 have lt_dq_es : dq < es := c_dq_es
 have ne_dq_es : dq ≠ es := Nat.ne_of_lt lt_dq_es
 have K0 := Keep.refl h0 [A, ec, el, q, dq, es]
 have hp128 : pl.toNatClampNeg < 128 := own_pn hp0 (fun q => hp1 (own_tr (by decide) q))
 obtain ⟨T711, X711, e711, st711⟩ := getF X0 hx hZ hown (host := "") (Or.inl (wd hw 64 rfl)) Via.refl e0 F_A_keptUntil (g := (mkF m 3 #[.val (.ref A), .val (.int pl), .val (.double (FP.l2d lt)), .second, .val (.double (FP.l2d tt)), .second, .unset] [(.ref A), (.double (FP.l2d tt))])) rfl rfl (hb hby dCM_3)
 obtain ⟨T712, X712, e712, st712⟩ := getF X711 hx hZ hown (host := "") (Or.inl (wd hw 21 rfl)) Via.refl e711 F_A_executorCompleted (g := (mkF m 47 #[.val (.ref A), .val (.int pl), .val (.double (FP.l2d lt)), .second, .val (.double (FP.l2d tt)), .second, .unset] [(.ref A), (.int pl)])) rfl rfl (hb hby dCM_47)
 obtain ⟨cl713, Ar713, -, S713, N713, -, -⟩ := id V_ec
 have R714 : ∀ t, Steps p.tables e below (T712.setTop (mkF m 51 #[.val (.ref A), .val (.int pl), .val (.double (FP.l2d lt)), .second, .val (.double (FP.l2d tt)), .second, .unset] [(.int n), (.int pl)])) t → Steps p.tables e below (s₁.setTop (entryFrame m #[(.ref A), (.int pl), (.double (FP.l2d lt)), (.double (FP.l2d tt))] 7)) t := by
  intro t kt
  refine pre0 _ ?_
  show Steps _ _ _ (s₁.setTop (mkF m 0 #[.val (.ref A), .val (.int pl), .val (.double (FP.l2d lt)), .second, .val (.double (FP.l2d tt)), .second, .unset] [])) _
  refine XS.dload X0.here hx rfl (hb hby dCM_0) rfl ?_
  refine XS.aloadN X0.here hx rfl (hb hby dCM_2) rfl rfl ?_
  refine st711 _ ?_
  refine XS.dcmpS X711.here hx rfl (hb hby dCM_6) rfl (v := (lcmpW tt 90)) (own_cmpw htb own_b90 (by decide) (by decide) _) ?_
  show Steps _ _ _ (T711.setTop (mkF m 7 #[.val (.ref A), .val (.int pl), .val (.double (FP.l2d lt)), .second, .val (.double (FP.l2d tt)), .second, .unset] [(.int (lcmpW tt 90))])) _
  refine XS.ifYes X711.here hx rfl (pc0 := 7) (pc' := 45) rfl (hb hby dCM_7) rfl ((if0 _ _).trans (tlt ((lw_gt _ _).mpr hk)).2.2.1) (by decide) (by decide) ?_
  refine XS.iloadN X711.here hx rfl (hb hby dCM_45) rfl ?_
  refine XS.aloadN X711.here hx rfl (hb hby dCM_46) rfl rfl ?_
  refine st712 _ ?_
  show Steps _ _ _ (T712.setTop (mkF m 50 #[.val (.ref A), .val (.int pl), .val (.double (FP.l2d lt)), .second, .val (.double (FP.l2d tt)), .second, .unset] [(.ref ec), (.int pl)])) _
  refine X712.arraylength hx (by rw [e712]; exact Ar713.1) (State.isArrayOf_alike hZ.alike Ar713.2.1) (g := (mkF m 50 #[.val (.ref A), .val (.int pl), .val (.double (FP.l2d lt)), .second, .val (.double (FP.l2d tt)), .second, .unset] [(.ref ec), (.int pl)])) rfl rfl (hb hby dCM_50) _ ?_
  rw [len_of S713 N713]
  show Steps _ _ _ (T712.setTop (mkF m 51 #[.val (.ref A), .val (.int pl), .val (.double (FP.l2d lt)), .second, .val (.double (FP.l2d tt)), .second, .unset] [(.int n), (.int pl)])) _
  exact kt
 have hnn : ¬ n < 0 := own_n0 hn0
 by_cases hlt : pl < n
 ·
  obtain ⟨T715, X715, e715, st715⟩ := getF X712 hx hZ hown (host := "") (Or.inl (wd hw 21 rfl)) Via.refl e712 F_A_executorCompleted (g := (mkF m 96 #[.val (.ref A), .val (.int pl), .val (.double (FP.l2d lt)), .second, .val (.double (FP.l2d tt)), .second, .unset] [(.ref A)])) rfl rfl (hb hby dCM_96)
  obtain ⟨cl716, Ar716, q716, S716, N716, H716, G716⟩ := id V_ec
  have hin716 : ¬ (pl < 0 ∨ cl716.slots.size ≤ (pl).toNatClampNeg) := (inb_of S716 ⟨hp0, hlt⟩)
  have hat716 : cl716.slots[(pl).toNatClampNeg]? = some (.long (f pl.toNatClampNeg)) := (H716.at (inb_of S716 ⟨hp0, hlt⟩) (own_Lget _ hp128 _))
  obtain ⟨cl717, Ar717, q717, S717, N717, H717, G717⟩ := id V_ec
  have hin717 : ¬ (pl < 0 ∨ cl717.slots.size ≤ (pl).toNatClampNeg) := (inb_of S717 ⟨hp0, hlt⟩)
  obtain ⟨T718, h718, X718, e718, W718, st718⟩ := stJ X715 hx hZ e715 Ar717 (j := pl) hin717 (g := (mkF m 104 #[.val (.ref A), .val (.int pl), .val (.double (FP.l2d lt)), .second, .val (.double (FP.l2d tt)), .second, .unset] [(.long ((f pl.toNatClampNeg) + (1 : Int64))), (.int pl), (.ref ec)])) rfl rfl (hb hby dCM_104)
  have V718 := Arv.set Ar717 q717 S717 N717 H717 G717 rfl W718 pl.toNatClampNeg rfl (by rw [own_Llen]; exact hp128)
  rw [own_Lset] at V718
  have K718 : Keep h0 h718 [A, ec, el, q, dq, es] := K0.wr W718 (Or.inl (List.mem_of_getElem? (i := 1) rfl))
  have N718F := Fr.snoc X718 N0 g_ec
  have f719 := F_A_executorLatencySum.other W718 (Or.inl (Ne.symm ne_ec_A))
  obtain ⟨T720, X720, e720, st720⟩ := getF X718 hx hZ hown (host := "") (Or.inl (wd hw 24 rfl)) Via.refl e718 f719 (g := (mkF m 106 #[.val (.ref A), .val (.int pl), .val (.double (FP.l2d lt)), .second, .val (.double (FP.l2d tt)), .second, .unset] [(.ref A)])) rfl rfl (hb hby dCM_106)
  have f722 := V_el.other W718 (Ne.symm ne_ec_el)
  obtain ⟨cl721, Ar721, q721, S721, N721, H721, G721⟩ := id f722
  have hin721 : ¬ (pl < 0 ∨ cl721.slots.size ≤ (pl).toNatClampNeg) := (inb_of S721 ⟨hp0, hlt⟩)
  have hat721 : cl721.slots[(pl).toNatClampNeg]? = some (.double (FP.l2d (g pl.toNatClampNeg))) := (H721.at (inb_of S721 ⟨hp0, hlt⟩) (own_Dget _ hp128 _))
  obtain ⟨cl723, Ar723, q723, S723, N723, H723, G723⟩ := id f722
  have hin723 : ¬ (pl < 0 ∨ cl723.slots.size ≤ (pl).toNatClampNeg) := (inb_of S723 ⟨hp0, hlt⟩)
  obtain ⟨T724, h724, X724, e724, W724, st724⟩ := stD X720 hx hZ e720 Ar723 (j := pl) hin723 (g := (mkF m 114 #[.val (.ref A), .val (.int pl), .val (.double (FP.l2d lt)), .second, .val (.double (FP.l2d tt)), .second, .unset] [(.double (FP.l2d ((g pl.toNatClampNeg) + lt))), (.int pl), (.ref el)])) rfl rfl (hb hby dCM_114)
  have V724 := Arv.set Ar723 q723 S723 N723 H723 G723 rfl W724 pl.toNatClampNeg rfl (by rw [own_Dlen]; exact hp128)
  rw [own_Dset] at V724
  have K724 : Keep h0 h724 [A, ec, el, q, dq, es] := K718.wr W724 (Or.inl (List.mem_of_getElem? (i := 2) rfl))
  have N724F := Fr.snoc X724 N718F g_el
  have f726 := (E_A.wr W718).wr W724
  have f728 := (F_A_window.other W718 (Or.inl (Ne.symm ne_ec_A))).other W724 (Or.inl (Ne.symm ne_el_A))
  have f730 := (F_A_asksBefore.other W718 (Or.inl (Ne.symm ne_ec_A))).other W724 (Or.inl (Ne.symm ne_el_A))
  have f732 := (F_A_keptUntil.other W718 (Or.inl (Ne.symm ne_ec_A))).other W724 (Or.inl (Ne.symm ne_el_A))
  have f734 := (F_A_executorCompleted.other W718 (Or.inl (Ne.symm ne_ec_A))).other W724 (Or.inl (Ne.symm ne_el_A))
  have f735 := f719.other W724 (Or.inl (Ne.symm ne_el_A))
  have f737 := (F_A_arrivalEvents.other W718 (Or.inl (Ne.symm ne_ec_A))).other W724 (Or.inl (Ne.symm ne_el_A))
  have f739 := (F_A_completionEvents.other W718 (Or.inl (Ne.symm ne_ec_A))).other W724 (Or.inl (Ne.symm ne_el_A))
  have f741 := (E_qa.wr W718).wr W724
  have f743 := (F_qa_size.other W718 (Or.inl (Ne.symm ne_ec_qa))).other W724 (Or.inl (Ne.symm ne_el_qa))
  have f744 := V718.other W724 ne_ec_el
  have f746 := (E_q.wr W718).wr W724
  have f748 := (F_q_intFields.other W718 (Or.inl (Ne.symm ne_ec_q))).other W724 (Or.inl (Ne.symm ne_el_q))
  have f750 := (F_q_doubleFields.other W718 (Or.inl (Ne.symm ne_ec_q))).other W724 (Or.inl (Ne.symm ne_el_q))
  have f752 := (F_q_blocks.other W718 (Or.inl (Ne.symm ne_ec_q))).other W724 (Or.inl (Ne.symm ne_el_q))
  have f754 := (F_q_first.other W718 (Or.inl (Ne.symm ne_ec_q))).other W724 (Or.inl (Ne.symm ne_el_q))
  have f756 := (F_q_last.other W718 (Or.inl (Ne.symm ne_ec_q))).other W724 (Or.inl (Ne.symm ne_el_q))
  have f758 := (F_q_spare.other W718 (Or.inl (Ne.symm ne_ec_q))).other W724 (Or.inl (Ne.symm ne_el_q))
  have f760 := (F_q_head.other W718 (Or.inl (Ne.symm ne_ec_q))).other W724 (Or.inl (Ne.symm ne_el_q))
  have f762 := (F_q_end.other W718 (Or.inl (Ne.symm ne_ec_q))).other W724 (Or.inl (Ne.symm ne_el_q))
  have f764 := (F_q_size.other W718 (Or.inl (Ne.symm ne_ec_q))).other W724 (Or.inl (Ne.symm ne_el_q))
  have f766 := (E_dq.wr W718).wr W724
  have f768 := (F_dq_head.other W718 (Or.inl (Ne.symm ne_ec_dq))).other W724 (Or.inl (Ne.symm ne_el_dq))
  have f770 := (F_dq_tail.other W718 (Or.inl (Ne.symm ne_ec_dq))).other W724 (Or.inl (Ne.symm ne_el_dq))
  have f772 := (F_dq_elements.other W718 (Or.inl (Ne.symm ne_ec_dq))).other W724 (Or.inl (Ne.symm ne_el_dq))
  have f774 := (V_es.other W718 (Ne.symm ne_ec_es)).other W724 (Ne.symm ne_el_es)
  obtain ⟨fs, hr, hrun, hended, hW, hsame⟩ := X724.leave (v := none) (fun _ => rfl)
  refine ⟨_, _, ?_, hrun, hended, _, _, rfl, ?_, ⟨_, rfl⟩, hW, hsame.mono (by decide) (by decide)⟩
  ·refine R714 _ ?_
   show Steps _ _ _ (T712.setTop (mkF m 51 #[.val (.ref A), .val (.int pl), .val (.double (FP.l2d lt)), .second, .val (.double (FP.l2d tt)), .second, .unset] [(.int n), (.int pl)])) _
   refine XS.icmpYes X712.here hx rfl (pc0 := 51) (pc' := 95) rfl (hb hby dCM_51) rfl (tlt hlt).1 (by decide) (by decide) ?_
   refine XS.aloadN X712.here hx rfl (hb hby dCM_95) rfl rfl ?_
   refine st715 _ ?_
   refine XS.iloadN X715.here hx rfl (hb hby dCM_99) rfl ?_
   show Steps _ _ _ (T715.setTop (mkF m 100 #[.val (.ref A), .val (.int pl), .val (.double (FP.l2d lt)), .second, .val (.double (FP.l2d tt)), .second, .unset] [(.int pl), (.ref ec)])) _
   jvm_step X715.here [X715.here.top, hx, (hb hby dCM_100), Value.category]
   show Steps _ _ _ (T715.setTop (mkF m 101 #[.val (.ref A), .val (.int pl), .val (.double (FP.l2d lt)), .second, .val (.double (FP.l2d tt)), .second, .unset] [(.int pl), (.ref ec), (.int pl), (.ref ec)])) _
   refine X715.laload hx (j := pl) (v := (.long (f pl.toNatClampNeg))) (by rw [e715]; exact Ar716.1) (State.isArrayOf_alike hZ.alike Ar716.2.1) Ar716.2.2 hin716 hat716 (g := (mkF m 101 #[.val (.ref A), .val (.int pl), .val (.double (FP.l2d lt)), .second, .val (.double (FP.l2d tt)), .second, .unset] [(.int pl), (.ref ec), (.int pl), (.ref ec)])) rfl rfl (hb hby dCM_101) _ ?_
   refine XS.lconst X715.here hx rfl (hb hby dCM_102) ?_
   refine XS.ladd X715.here hx rfl (hb hby dCM_103) rfl ?_
   show Steps _ _ _ (T715.setTop (mkF m 104 #[.val (.ref A), .val (.int pl), .val (.double (FP.l2d lt)), .second, .val (.double (FP.l2d tt)), .second, .unset] [(.long ((f pl.toNatClampNeg) + (1 : Int64))), (.int pl), (.ref ec)])) _
   refine st718 _ ?_
   refine XS.aloadN X718.here hx rfl (hb hby dCM_105) rfl rfl ?_
   refine st720 _ ?_
   refine XS.iloadN X720.here hx rfl (hb hby dCM_109) rfl ?_
   show Steps _ _ _ (T720.setTop (mkF m 110 #[.val (.ref A), .val (.int pl), .val (.double (FP.l2d lt)), .second, .val (.double (FP.l2d tt)), .second, .unset] [(.int pl), (.ref el)])) _
   jvm_step X720.here [X720.here.top, hx, (hb hby dCM_110), Value.category]
   show Steps _ _ _ (T720.setTop (mkF m 111 #[.val (.ref A), .val (.int pl), .val (.double (FP.l2d lt)), .second, .val (.double (FP.l2d tt)), .second, .unset] [(.int pl), (.ref el), (.int pl), (.ref el)])) _
   refine X720.daload hx (j := pl) (v := (.double (FP.l2d (g pl.toNatClampNeg)))) (by rw [e720]; exact Ar721.1) (State.isArrayOf_alike hZ.alike Ar721.2.1) Ar721.2.2 hin721 hat721 (g := (mkF m 111 #[.val (.ref A), .val (.int pl), .val (.double (FP.l2d lt)), .second, .val (.double (FP.l2d tt)), .second, .unset] [(.int pl), (.ref el), (.int pl), (.ref el)])) rfl rfl (hb hby dCM_111) _ ?_
   refine XS.dloadN X720.here hx rfl (hb hby dCM_112) rfl ?_
   refine XS.daddS X720.here hx rfl (hb hby dCM_113) rfl (v := (FP.l2d ((g pl.toNatClampNeg) + lt))) (nn_w (own_add (hgb _) hlb (by decide) (by decide))) (own_add (hgb _) hlb (by decide) (by decide)) ?_
   show Steps _ _ _ (T720.setTop (mkF m 114 #[.val (.ref A), .val (.int pl), .val (.double (FP.l2d lt)), .second, .val (.double (FP.l2d tt)), .second, .unset] [(.double (FP.l2d ((g pl.toNatClampNeg) + lt))), (.int pl), (.ref el)])) _
   refine st724 _ ?_
   show Steps _ _ _ (T724.setTop (mkF m 115 #[.val (.ref A), .val (.int pl), .val (.double (FP.l2d lt)), .second, .val (.double (FP.l2d tt)), .second, .unset] [])) _
   exact X724.returnOut hx Bd.returns (hb hby dCM_115) hr
  ·show QCN0 Z A pl lt tt ec el qa q kec kel n f g h0 n0 _ T724.heap _
   rw [e724]
   exact ⟨rfl, N724F, K724.1, ec, el, kec, kel, n, ⟨f726, f728, f730, f732, f734, f735, f737, f739, f741, f743, f744, V724, dq, es, kes, f746, f748, f750, f752, f754, f756, f758, f760, f762, f764, f766, f768, f770, f772, f774, O_es, lt_A_qa, lt_qa_q, lt_q_dq, lt_dq_es, ne_ec_A, ne_ec_qa, ne_ec_q, ne_ec_dq, ne_ec_es, ne_el_A, ne_el_qa, ne_el_q, ne_el_dq, ne_el_es, ne_ec_el, g_A, g_ec, g_el, g_q, g_dq, g_es⟩, own_nirr n, hlt, (fun q => hn1 (own_tr (by decide) q)), (fun _ => hn1)⟩
 ·
  obtain ⟨rm, hrm⟩ : ∃ z, own_max (pl + (1 : Int32)) (n * (2 : Int32)) = z := ⟨_, rfl⟩
  obtain ⟨hr1, hr2, hr3, hr4, hr5⟩ := own_rm hp0 hp1 hn0 hn1 hlt
  rw [hrm] at hr1 hr2 hr3 hr4 hr5
  obtain ⟨T775, X775, e775, st775⟩ := getF X712 hx hZ hown (host := "") (Or.inl (wd hw 21 rfl)) Via.refl e712 F_A_executorCompleted (g := (mkF m 58 #[.val (.ref A), .val (.int pl), .val (.double (FP.l2d lt)), .second, .val (.double (FP.l2d tt)), .second, .unset] [(.ref A), (.int (pl + (1 : Int32)))])) rfl rfl (hb hby dCM_58)
  obtain ⟨cl776, Ar776, -, S776, N776, -, -⟩ := id V_ec
  obtain ⟨_, _, ⟨T777, L777, k777, n777⟩, -, X777, ⟨Lc777, hQ777, l777, y777, z777⟩, st777⟩ := Jvm.LawKit.callS X775 hx (y := (⟨"java/lang/Math", "max", "(II)I"⟩ : MethodName)) hown (mvT hZ (wd hw 145 rfl)) (mvT hZ (wd hw 83 rfl)) (mvT hZ (wd hw 3 rfl)) (mvT hZ (wd hw 84 rfl)) (by decide) (backOf (W := 0) (rmMX l Z a0 hw [] (pl + (1 : Int32)) (n * (2 : Int32)) h0 n0 (Nat.le_trans Z0 K0.1) ) hZ (wd hw 84 rfl) (wd hw 3 rfl) (by decide) (by decide)) (g := (mkF m 64 #[.val (.ref A), .val (.int pl), .val (.double (FP.l2d lt)), .second, .val (.double (FP.l2d tt)), .second, .unset] [(.int (n * (2 : Int32))), (.int (pl + (1 : Int32)))])) rfl (by rw [hml]; rfl) (argsL := [(.int (pl + (1 : Int32))), (.int (n * (2 : Int32)))]) (rest := []) (lenOf pd_4 rfl) rfl (by show 2 * 0 + _ ≤ _; exact Nat.le_of_eq rfl) (hb hby dCM_64) (fun _ _ => ⟨rfl, e775, (by decide : 0 + 0 ≤ _), (by decide : 0 + 0 ≤ _)⟩)
  dsimp only [Pt.U, Pt.locs, Pt.cells, Pt.slots] at X777 l777 y777 z777 st777 hQ777
  rw [l777, y777, z777] at X777
  obtain ⟨hv777, Nq777, eq777⟩ := hQ777
  rw [hv777] at st777
  have N777 := Fr.app N0 Nq777
  rw [hrm] at st777
  obtain ⟨T778, X778, e778, st778⟩ := getF X777 hx hZ hown (host := "") (Or.inl (wd hw 21 rfl)) Via.refl eq777 F_A_executorCompleted (g := (mkF m 71 #[.val (.ref A), .val (.int pl), .val (.double (FP.l2d lt)), .second, .val (.double (FP.l2d tt)), .second, .val (.int rm)] [(.ref A), (.ref A)])) rfl rfl (hb hby dCM_71)
  obtain ⟨_, _, ⟨T779, L779, k779, n779⟩, -, X779, ⟨Lc779, hQ779, l779, y779, z779⟩, st779⟩ := Jvm.LawKit.callS X778 hx (y := (⟨"java/util/Arrays", "copyOf", "([JI)[J"⟩ : MethodName)) hown (mvT hZ (wd hw 146 rfl)) (mvT hZ (wd hw 147 rfl)) (mvT hZ (wd hw 148 rfl)) (mvT hZ (wd hw 149 rfl)) (by decide) (backOf (W := 1) (rmCPJ l Z a0 hw [] ec rm kec n f h0 n0 (Nat.le_trans Z0 K0.1) V_ec hzf hr1 hr3 hr4 hnn) hZ (wd hw 149 rfl) (wd hw 148 rfl) (by decide) (by decide)) (g := (mkF m 76 #[.val (.ref A), .val (.int pl), .val (.double (FP.l2d lt)), .second, .val (.double (FP.l2d tt)), .second, .val (.int rm)] [(.int rm), (.ref ec), (.ref A)])) rfl (by rw [hml]; rfl) (argsL := [(.ref ec), (.int rm)]) (rest := [(.ref A)]) (lenOf pd_7 rfl) rfl (by show 2 * 0 + _ ≤ _; exact Nat.le_of_eq rfl) (hb hby dCM_76) (fun _ _ => ⟨rfl, e778, (by decide : 0 + 1 ≤ _), (by decide : 0 + 128 ≤ _)⟩)
  dsimp only [Pt.U, Pt.locs, Pt.cells, Pt.slots] at X779 l779 y779 z779 st779 hQ779
  rw [l779, y779, z779] at X779
  obtain ⟨r779, kr779, hv779, Nq779, Kc779, Vr779, szq779⟩ := hQ779
  rw [hv779] at st779
  have K779 : Keep h0 T779.heap [A, ec, el, q, dq, es] := K0.trans Kc779 all0
  have lt_A_r779 : A < r779 := Nat.lt_of_lt_of_le E_A.lt szq779
  have lt_qa_r779 : qa < r779 := Nat.lt_of_lt_of_le E_qa.lt szq779
  have lt_ec_r779 : ec < r779 := Nat.lt_of_lt_of_le V_ec.lt szq779
  have lt_el_r779 : el < r779 := Nat.lt_of_lt_of_le V_el.lt szq779
  have lt_q_r779 : q < r779 := Nat.lt_of_lt_of_le E_q.lt szq779
  have lt_dq_r779 : dq < r779 := Nat.lt_of_lt_of_le E_dq.lt szq779
  have lt_es_r779 : es < r779 := Nat.lt_of_lt_of_le V_es.lt szq779
  have sz_r779 : h0.size ≤ r779 := Nat.le_trans K0.1 szq779
  have g_r779 : n0 ≤ r779 := Nat.le_trans Z0 sz_r779
  have N779 := Fr.app N777 Nq779
  have f780 := E_A.keep Kc779
  have f781 := F_A_executorCompleted.keep Kc779 nin0
  obtain ⟨T782, h782, X782, e782, W782, st782⟩ := putF X779 hx hZ hown (host := "") (Or.inl (wd hw 21 rfl)) Via.refl rfl f781 f780 (Or.inl (wd hw 22 rfl)) (wd hw 10 rfl) (ty := (.array .long)) (by decide) rfl rfl (g := (mkF m 79 #[.val (.ref A), .val (.int pl), .val (.double (FP.l2d lt)), .second, .val (.double (FP.l2d tt)), .second, .val (.int rm)] [(.ref r779), (.ref A)])) rfl rfl (hb hby dCM_79)
  have Fw782 := f781.same W782
  have K782 : Keep h0 h782 [A, ec, el, q, dq, es] := K779.wr W782 (Or.inl (List.mem_of_getElem? (i := 0) rfl))
  have N782 := Fr.snoc X782 N779 g_A
  have f784 := (F_A_executorLatencySum.keep Kc779 nin0).other W782 (Or.inr (sn26 hw))
  obtain ⟨T785, X785, e785, st785⟩ := getF X782 hx hZ hown (host := "") (Or.inl (wd hw 24 rfl)) Via.refl e782 f784 (g := (mkF m 84 #[.val (.ref A), .val (.int pl), .val (.double (FP.l2d lt)), .second, .val (.double (FP.l2d tt)), .second, .val (.int rm)] [(.ref A), (.ref A)])) rfl rfl (hb hby dCM_84)
  have f787 := f780.wr W782
  have f789 := (E_qa.keep Kc779).wr W782
  have f791 := (V_ec.keep Kc779 nin0).other W782 ne_ec_A
  have f793 := (V_el.keep Kc779 nin0).other W782 ne_el_A
  have f795 := (E_q.keep Kc779).wr W782
  have f797 := (E_dq.keep Kc779).wr W782
  have f799 := (V_es.keep Kc779 nin0).other W782 (Ne.symm ne_A_es)
  have f800 := Vr779.other W782 (Nat.ne_of_gt lt_A_r779)
  obtain ⟨_, _, ⟨T786, L786, k786, n786⟩, -, X786, ⟨Lc786, hQ786, l786, y786, z786⟩, st786⟩ := Jvm.LawKit.callS X785 hx (y := (⟨"java/util/Arrays", "copyOf", "([DI)[D"⟩ : MethodName)) hown (mvT hZ (wd hw 155 rfl)) (mvT hZ (wd hw 156 rfl)) (mvT hZ (wd hw 148 rfl)) (mvT hZ (wd hw 157 rfl)) (by decide) (backOf (W := 1) (rmCPD l Z a0 hw [] el rm kel n g h782 n0 (Nat.le_trans Z0 K782.1) f793 hzg hr1 hr3 hr4 hnn) hZ (wd hw 157 rfl) (wd hw 148 rfl) (by decide) (by decide)) (g := (mkF m 89 #[.val (.ref A), .val (.int pl), .val (.double (FP.l2d lt)), .second, .val (.double (FP.l2d tt)), .second, .val (.int rm)] [(.int rm), (.ref el), (.ref A)])) rfl (by rw [hml]; rfl) (argsL := [(.ref el), (.int rm)]) (rest := [(.ref A)]) (lenOf pd_8 rfl) rfl (by show 2 * 0 + _ ≤ _; exact Nat.le_of_eq rfl) (hb hby dCM_89) (fun _ _ => ⟨rfl, e785, (by decide : 1 + 1 ≤ _), (by decide : 128 + 128 ≤ _)⟩)
  dsimp only [Pt.U, Pt.locs, Pt.cells, Pt.slots] at X786 l786 y786 z786 st786 hQ786
  rw [l786, y786, z786] at X786
  obtain ⟨r786, kr786, hv786, Nq786, Kc786, Vr786, szq786⟩ := hQ786
  rw [hv786] at st786
  have K786 : Keep h0 T786.heap [A, ec, el, q, dq, es] := K782.trans Kc786 all0
  have lt_A_r786 : A < r786 := Nat.lt_of_lt_of_le f787.lt szq786
  have lt_qa_r786 : qa < r786 := Nat.lt_of_lt_of_le f789.lt szq786
  have lt_ec_r786 : ec < r786 := Nat.lt_of_lt_of_le f791.lt szq786
  have lt_el_r786 : el < r786 := Nat.lt_of_lt_of_le f793.lt szq786
  have lt_q_r786 : q < r786 := Nat.lt_of_lt_of_le f795.lt szq786
  have lt_dq_r786 : dq < r786 := Nat.lt_of_lt_of_le f797.lt szq786
  have lt_es_r786 : es < r786 := Nat.lt_of_lt_of_le f799.lt szq786
  have lt_r779_r786 : r779 < r786 := Nat.lt_of_lt_of_le f800.lt szq786
  have sz_r786 : h0.size ≤ r786 := Nat.le_trans K782.1 szq786
  have g_r786 : n0 ≤ r786 := Nat.le_trans Z0 sz_r786
  have N786 := Fr.app N782 Nq786
  have f801 := f787.keep Kc786
  have f802 := f784.keep Kc786 nin0
  obtain ⟨T803, h803, X803, e803, W803, st803⟩ := putF X786 hx hZ hown (host := "") (Or.inl (wd hw 24 rfl)) Via.refl rfl f802 f801 (Or.inl (wd hw 25 rfl)) (wd hw 10 rfl) (ty := (.array .double)) (by decide) rfl rfl (g := (mkF m 92 #[.val (.ref A), .val (.int pl), .val (.double (FP.l2d lt)), .second, .val (.double (FP.l2d tt)), .second, .val (.int rm)] [(.ref r786), (.ref A)])) rfl rfl (hb hby dCM_92)
  have Fw803 := f802.same W803
  have K803 : Keep h0 h803 [A, ec, el, q, dq, es] := K786.wr W803 (Or.inl (List.mem_of_getElem? (i := 0) rfl))
  have N803 := Fr.snoc X803 N786 g_A
  have f805 := (Fw782.keep Kc786 nin0).other W803 (Or.inr (sn60 hw))
  obtain ⟨T806, X806, e806, st806⟩ := getF X803 hx hZ hown (host := "") (Or.inl (wd hw 21 rfl)) Via.refl e803 f805 (g := (mkF m 96 #[.val (.ref A), .val (.int pl), .val (.double (FP.l2d lt)), .second, .val (.double (FP.l2d tt)), .second, .val (.int rm)] [(.ref A)])) rfl rfl (hb hby dCM_96)
  have f809 := (f800.keep Kc786 nin0).other W803 (Nat.ne_of_gt lt_A_r779)
  obtain ⟨cl807, Ar807, q807, S807, N807, H807, G807⟩ := id f809
  have hin807 : ¬ (pl < 0 ∨ cl807.slots.size ≤ (pl).toNatClampNeg) := (inb_of S807 ⟨hp0, hr2⟩)
  have hat807 : cl807.slots[(pl).toNatClampNeg]? = some (.long (f pl.toNatClampNeg)) := (H807.at (inb_of S807 ⟨hp0, hr2⟩) (own_Lget _ hp128 _))
  obtain ⟨cl810, Ar810, q810, S810, N810, H810, G810⟩ := id f809
  have hin810 : ¬ (pl < 0 ∨ cl810.slots.size ≤ (pl).toNatClampNeg) := (inb_of S810 ⟨hp0, hr2⟩)
  obtain ⟨T811, h811, X811, e811, W811, st811⟩ := stJ X806 hx hZ e806 Ar810 (j := pl) hin810 (g := (mkF m 104 #[.val (.ref A), .val (.int pl), .val (.double (FP.l2d lt)), .second, .val (.double (FP.l2d tt)), .second, .val (.int rm)] [(.long ((f pl.toNatClampNeg) + (1 : Int64))), (.int pl), (.ref r779)])) rfl rfl (hb hby dCM_104)
  have V811 := Arv.set Ar810 q810 S810 N810 H810 G810 rfl W811 pl.toNatClampNeg rfl (by rw [own_Llen]; exact hp128)
  rw [own_Lset] at V811
  have K811 : Keep h0 h811 [A, ec, el, q, dq, es] := K803.wr W811 (Or.inr sz_r779)
  have N811F := Fr.snoc X811 N803 g_r779
  have f812 := Fw803.other W811 (Or.inl (Nat.ne_of_lt lt_A_r779))
  obtain ⟨T813, X813, e813, st813⟩ := getF X811 hx hZ hown (host := "") (Or.inl (wd hw 24 rfl)) Via.refl e811 f812 (g := (mkF m 106 #[.val (.ref A), .val (.int pl), .val (.double (FP.l2d lt)), .second, .val (.double (FP.l2d tt)), .second, .val (.int rm)] [(.ref A)])) rfl rfl (hb hby dCM_106)
  have f816 := (Vr786.other W803 (Nat.ne_of_gt lt_A_r786)).other W811 (Nat.ne_of_gt lt_r779_r786)
  obtain ⟨cl814, Ar814, q814, S814, N814, H814, G814⟩ := id f816
  have hin814 : ¬ (pl < 0 ∨ cl814.slots.size ≤ (pl).toNatClampNeg) := (inb_of S814 ⟨hp0, hr2⟩)
  have hat814 : cl814.slots[(pl).toNatClampNeg]? = some (.double (FP.l2d (g pl.toNatClampNeg))) := (H814.at (inb_of S814 ⟨hp0, hr2⟩) (own_Dget _ hp128 _))
  obtain ⟨cl817, Ar817, q817, S817, N817, H817, G817⟩ := id f816
  have hin817 : ¬ (pl < 0 ∨ cl817.slots.size ≤ (pl).toNatClampNeg) := (inb_of S817 ⟨hp0, hr2⟩)
  obtain ⟨T818, h818, X818, e818, W818, st818⟩ := stD X813 hx hZ e813 Ar817 (j := pl) hin817 (g := (mkF m 114 #[.val (.ref A), .val (.int pl), .val (.double (FP.l2d lt)), .second, .val (.double (FP.l2d tt)), .second, .val (.int rm)] [(.double (FP.l2d ((g pl.toNatClampNeg) + lt))), (.int pl), (.ref r786)])) rfl rfl (hb hby dCM_114)
  have V818 := Arv.set Ar817 q817 S817 N817 H817 G817 rfl W818 pl.toNatClampNeg rfl (by rw [own_Dlen]; exact hp128)
  rw [own_Dset] at V818
  have K818 : Keep h0 h818 [A, ec, el, q, dq, es] := K811.wr W818 (Or.inr sz_r786)
  have N818F := Fr.snoc X818 N811F g_r786
  have f821 := ((f801.wr W803).wr W811).wr W818
  have f827 := (((((F_A_window.keep Kc779 nin0).other W782 (Or.inr (sn32 hw))).keep Kc786 nin0).other W803 (Or.inr (sn33 hw))).other W811 (Or.inl (Nat.ne_of_lt lt_A_r779))).other W818 (Or.inl (Nat.ne_of_lt lt_A_r786))
  have f833 := (((((F_A_asksBefore.keep Kc779 nin0).other W782 (Or.inr (sn36 hw))).keep Kc786 nin0).other W803 (Or.inr (sn37 hw))).other W811 (Or.inl (Nat.ne_of_lt lt_A_r779))).other W818 (Or.inl (Nat.ne_of_lt lt_A_r786))
  have f839 := (((((F_A_keptUntil.keep Kc779 nin0).other W782 (Or.inr (sn41 hw))).keep Kc786 nin0).other W803 (Or.inr (sn42 hw))).other W811 (Or.inl (Nat.ne_of_lt lt_A_r779))).other W818 (Or.inl (Nat.ne_of_lt lt_A_r786))
  have f841 := (f805.other W811 (Or.inl (Nat.ne_of_lt lt_A_r779))).other W818 (Or.inl (Nat.ne_of_lt lt_A_r786))
  have f842 := f812.other W818 (Or.inl (Nat.ne_of_lt lt_A_r786))
  have f848 := (((((F_A_arrivalEvents.keep Kc779 nin0).other W782 (Or.inr (sn27 hw))).keep Kc786 nin0).other W803 (Or.inr (sn28 hw))).other W811 (Or.inl (Nat.ne_of_lt lt_A_r779))).other W818 (Or.inl (Nat.ne_of_lt lt_A_r786))
  have f854 := (((((F_A_completionEvents.keep Kc779 nin0).other W782 (Or.inr (sn29 hw))).keep Kc786 nin0).other W803 (Or.inr (sn30 hw))).other W811 (Or.inl (Nat.ne_of_lt lt_A_r779))).other W818 (Or.inl (Nat.ne_of_lt lt_A_r786))
  have f858 := (((f789.keep Kc786).wr W803).wr W811).wr W818
  have f864 := (((((F_qa_size.keep Kc779 nin0).other W782 (Or.inl (Ne.symm ne_A_qa))).keep Kc786 nin0).other W803 (Or.inl (Ne.symm ne_A_qa))).other W811 (Or.inl (Nat.ne_of_lt lt_qa_r779))).other W818 (Or.inl (Nat.ne_of_lt lt_qa_r786))
  have f865 := V811.other W818 (Nat.ne_of_lt lt_r779_r786)
  have f869 := (((f795.keep Kc786).wr W803).wr W811).wr W818
  have f875 := (((((F_q_intFields.keep Kc779 nin0).other W782 (Or.inl (Ne.symm ne_A_q))).keep Kc786 nin0).other W803 (Or.inl (Ne.symm ne_A_q))).other W811 (Or.inl (Nat.ne_of_lt lt_q_r779))).other W818 (Or.inl (Nat.ne_of_lt lt_q_r786))
  have f881 := (((((F_q_doubleFields.keep Kc779 nin0).other W782 (Or.inl (Ne.symm ne_A_q))).keep Kc786 nin0).other W803 (Or.inl (Ne.symm ne_A_q))).other W811 (Or.inl (Nat.ne_of_lt lt_q_r779))).other W818 (Or.inl (Nat.ne_of_lt lt_q_r786))
  have f887 := (((((F_q_blocks.keep Kc779 nin0).other W782 (Or.inl (Ne.symm ne_A_q))).keep Kc786 nin0).other W803 (Or.inl (Ne.symm ne_A_q))).other W811 (Or.inl (Nat.ne_of_lt lt_q_r779))).other W818 (Or.inl (Nat.ne_of_lt lt_q_r786))
  have f893 := (((((F_q_first.keep Kc779 nin0).other W782 (Or.inl (Ne.symm ne_A_q))).keep Kc786 nin0).other W803 (Or.inl (Ne.symm ne_A_q))).other W811 (Or.inl (Nat.ne_of_lt lt_q_r779))).other W818 (Or.inl (Nat.ne_of_lt lt_q_r786))
  have f899 := (((((F_q_last.keep Kc779 nin0).other W782 (Or.inl (Ne.symm ne_A_q))).keep Kc786 nin0).other W803 (Or.inl (Ne.symm ne_A_q))).other W811 (Or.inl (Nat.ne_of_lt lt_q_r779))).other W818 (Or.inl (Nat.ne_of_lt lt_q_r786))
  have f905 := (((((F_q_spare.keep Kc779 nin0).other W782 (Or.inl (Ne.symm ne_A_q))).keep Kc786 nin0).other W803 (Or.inl (Ne.symm ne_A_q))).other W811 (Or.inl (Nat.ne_of_lt lt_q_r779))).other W818 (Or.inl (Nat.ne_of_lt lt_q_r786))
  have f911 := (((((F_q_head.keep Kc779 nin0).other W782 (Or.inl (Ne.symm ne_A_q))).keep Kc786 nin0).other W803 (Or.inl (Ne.symm ne_A_q))).other W811 (Or.inl (Nat.ne_of_lt lt_q_r779))).other W818 (Or.inl (Nat.ne_of_lt lt_q_r786))
  have f917 := (((((F_q_end.keep Kc779 nin0).other W782 (Or.inl (Ne.symm ne_A_q))).keep Kc786 nin0).other W803 (Or.inl (Ne.symm ne_A_q))).other W811 (Or.inl (Nat.ne_of_lt lt_q_r779))).other W818 (Or.inl (Nat.ne_of_lt lt_q_r786))
  have f923 := (((((F_q_size.keep Kc779 nin0).other W782 (Or.inl (Ne.symm ne_A_q))).keep Kc786 nin0).other W803 (Or.inl (Ne.symm ne_A_q))).other W811 (Or.inl (Nat.ne_of_lt lt_q_r779))).other W818 (Or.inl (Nat.ne_of_lt lt_q_r786))
  have f927 := (((f797.keep Kc786).wr W803).wr W811).wr W818
  have f933 := (((((F_dq_head.keep Kc779 nin0).other W782 (Or.inl (Ne.symm ne_A_dq))).keep Kc786 nin0).other W803 (Or.inl (Ne.symm ne_A_dq))).other W811 (Or.inl (Nat.ne_of_lt lt_dq_r779))).other W818 (Or.inl (Nat.ne_of_lt lt_dq_r786))
  have f939 := (((((F_dq_tail.keep Kc779 nin0).other W782 (Or.inl (Ne.symm ne_A_dq))).keep Kc786 nin0).other W803 (Or.inl (Ne.symm ne_A_dq))).other W811 (Or.inl (Nat.ne_of_lt lt_dq_r779))).other W818 (Or.inl (Nat.ne_of_lt lt_dq_r786))
  have f945 := (((((F_dq_elements.keep Kc779 nin0).other W782 (Or.inl (Ne.symm ne_A_dq))).keep Kc786 nin0).other W803 (Or.inl (Ne.symm ne_A_dq))).other W811 (Or.inl (Nat.ne_of_lt lt_dq_r779))).other W818 (Or.inl (Nat.ne_of_lt lt_dq_r786))
  have f949 := (((f799.keep Kc786 nin0).other W803 (Ne.symm ne_A_es)).other W811 (Nat.ne_of_lt lt_es_r779)).other W818 (Nat.ne_of_lt lt_es_r786)
  obtain ⟨fs, hr, hrun, hended, hW, hsame⟩ := X818.leave (v := none) (fun _ => rfl)
  refine ⟨_, _, ?_, hrun, hended, _, _, rfl, ?_, ⟨_, rfl⟩, hW, hsame.mono (by decide) (by decide)⟩
  ·refine R714 _ ?_
   show Steps _ _ _ (T712.setTop (mkF m 51 #[.val (.ref A), .val (.int pl), .val (.double (FP.l2d lt)), .second, .val (.double (FP.l2d tt)), .second, .unset] [(.int n), (.int pl)])) _
   refine XS.icmpNo X712.here hx rfl (hb hby dCM_51) rfl (flt hlt).1 ?_
   refine XS.iloadN X712.here hx rfl (hb hby dCM_54) rfl ?_
   refine XS.iconst X712.here hx rfl (hb hby dCM_55) ?_
   refine XS.iadd X712.here hx rfl (hb hby dCM_56) rfl ?_
   show Steps _ _ _ (T712.setTop (mkF m 57 #[.val (.ref A), .val (.int pl), .val (.double (FP.l2d lt)), .second, .val (.double (FP.l2d tt)), .second, .unset] [(.int (pl + (1 : Int32)))])) _
   refine XS.aloadN X712.here hx rfl (hb hby dCM_57) rfl rfl ?_
   refine st775 _ ?_
   show Steps _ _ _ (T775.setTop (mkF m 61 #[.val (.ref A), .val (.int pl), .val (.double (FP.l2d lt)), .second, .val (.double (FP.l2d tt)), .second, .unset] [(.ref ec), (.int (pl + (1 : Int32)))])) _
   refine X775.arraylength hx (by rw [e775]; exact Ar776.1) (State.isArrayOf_alike hZ.alike Ar776.2.1) (g := (mkF m 61 #[.val (.ref A), .val (.int pl), .val (.double (FP.l2d lt)), .second, .val (.double (FP.l2d tt)), .second, .unset] [(.ref ec), (.int (pl + (1 : Int32)))])) rfl rfl (hb hby dCM_61) _ ?_
   rw [len_of S776 N776]
   refine XS.iconst X775.here hx rfl (hb hby dCM_62) ?_
   refine XS.imul X775.here hx rfl (hb hby dCM_63) rfl ?_
   refine st777 _ ?_
   show Steps _ _ _ (T777.setTop (mkF m 67 #[.val (.ref A), .val (.int pl), .val (.double (FP.l2d lt)), .second, .val (.double (FP.l2d tt)), .second, .unset] [(.int rm)])) _
   refine XS.istore X777.here hx rfl (hb hby dCM_67) rfl (l' := #[.val (.ref A), .val (.int pl), .val (.double (FP.l2d lt)), .second, .val (.double (FP.l2d tt)), .second, .val (.int rm)]) rfl ?_
   refine XS.aloadN X777.here hx rfl (hb hby dCM_69) rfl rfl ?_
   refine XS.aloadN X777.here hx rfl (hb hby dCM_70) rfl rfl ?_
   refine st778 _ ?_
   show Steps _ _ _ (T778.setTop (mkF m 74 #[.val (.ref A), .val (.int pl), .val (.double (FP.l2d lt)), .second, .val (.double (FP.l2d tt)), .second, .val (.int rm)] [(.ref ec), (.ref A)])) _
   refine XS.iload X778.here hx rfl (hb hby dCM_74) rfl ?_
   refine st779 _ ?_
   show Steps _ _ _ (T779.setTop (mkF m 79 #[.val (.ref A), .val (.int pl), .val (.double (FP.l2d lt)), .second, .val (.double (FP.l2d tt)), .second, .val (.int rm)] [(.ref r779), (.ref A)])) _
   refine st782 _ ?_
   refine XS.aloadN X782.here hx rfl (hb hby dCM_82) rfl rfl ?_
   refine XS.aloadN X782.here hx rfl (hb hby dCM_83) rfl rfl ?_
   refine st785 _ ?_
   show Steps _ _ _ (T785.setTop (mkF m 87 #[.val (.ref A), .val (.int pl), .val (.double (FP.l2d lt)), .second, .val (.double (FP.l2d tt)), .second, .val (.int rm)] [(.ref el), (.ref A)])) _
   refine XS.iload X785.here hx rfl (hb hby dCM_87) rfl ?_
   refine st786 _ ?_
   show Steps _ _ _ (T786.setTop (mkF m 92 #[.val (.ref A), .val (.int pl), .val (.double (FP.l2d lt)), .second, .val (.double (FP.l2d tt)), .second, .val (.int rm)] [(.ref r786), (.ref A)])) _
   refine st803 _ ?_
   refine XS.aloadN X803.here hx rfl (hb hby dCM_95) rfl rfl ?_
   refine st806 _ ?_
   refine XS.iloadN X806.here hx rfl (hb hby dCM_99) rfl ?_
   show Steps _ _ _ (T806.setTop (mkF m 100 #[.val (.ref A), .val (.int pl), .val (.double (FP.l2d lt)), .second, .val (.double (FP.l2d tt)), .second, .val (.int rm)] [(.int pl), (.ref r779)])) _
   jvm_step X806.here [X806.here.top, hx, (hb hby dCM_100), Value.category]
   show Steps _ _ _ (T806.setTop (mkF m 101 #[.val (.ref A), .val (.int pl), .val (.double (FP.l2d lt)), .second, .val (.double (FP.l2d tt)), .second, .val (.int rm)] [(.int pl), (.ref r779), (.int pl), (.ref r779)])) _
   refine X806.laload hx (j := pl) (v := (.long (f pl.toNatClampNeg))) (by rw [e806]; exact Ar807.1) (State.isArrayOf_alike hZ.alike Ar807.2.1) Ar807.2.2 hin807 hat807 (g := (mkF m 101 #[.val (.ref A), .val (.int pl), .val (.double (FP.l2d lt)), .second, .val (.double (FP.l2d tt)), .second, .val (.int rm)] [(.int pl), (.ref r779), (.int pl), (.ref r779)])) rfl rfl (hb hby dCM_101) _ ?_
   refine XS.lconst X806.here hx rfl (hb hby dCM_102) ?_
   refine XS.ladd X806.here hx rfl (hb hby dCM_103) rfl ?_
   show Steps _ _ _ (T806.setTop (mkF m 104 #[.val (.ref A), .val (.int pl), .val (.double (FP.l2d lt)), .second, .val (.double (FP.l2d tt)), .second, .val (.int rm)] [(.long ((f pl.toNatClampNeg) + (1 : Int64))), (.int pl), (.ref r779)])) _
   refine st811 _ ?_
   refine XS.aloadN X811.here hx rfl (hb hby dCM_105) rfl rfl ?_
   refine st813 _ ?_
   refine XS.iloadN X813.here hx rfl (hb hby dCM_109) rfl ?_
   show Steps _ _ _ (T813.setTop (mkF m 110 #[.val (.ref A), .val (.int pl), .val (.double (FP.l2d lt)), .second, .val (.double (FP.l2d tt)), .second, .val (.int rm)] [(.int pl), (.ref r786)])) _
   jvm_step X813.here [X813.here.top, hx, (hb hby dCM_110), Value.category]
   show Steps _ _ _ (T813.setTop (mkF m 111 #[.val (.ref A), .val (.int pl), .val (.double (FP.l2d lt)), .second, .val (.double (FP.l2d tt)), .second, .val (.int rm)] [(.int pl), (.ref r786), (.int pl), (.ref r786)])) _
   refine X813.daload hx (j := pl) (v := (.double (FP.l2d (g pl.toNatClampNeg)))) (by rw [e813]; exact Ar814.1) (State.isArrayOf_alike hZ.alike Ar814.2.1) Ar814.2.2 hin814 hat814 (g := (mkF m 111 #[.val (.ref A), .val (.int pl), .val (.double (FP.l2d lt)), .second, .val (.double (FP.l2d tt)), .second, .val (.int rm)] [(.int pl), (.ref r786), (.int pl), (.ref r786)])) rfl rfl (hb hby dCM_111) _ ?_
   refine XS.dloadN X813.here hx rfl (hb hby dCM_112) rfl ?_
   refine XS.daddS X813.here hx rfl (hb hby dCM_113) rfl (v := (FP.l2d ((g pl.toNatClampNeg) + lt))) (nn_w (own_add (hgb _) hlb (by decide) (by decide))) (own_add (hgb _) hlb (by decide) (by decide)) ?_
   show Steps _ _ _ (T813.setTop (mkF m 114 #[.val (.ref A), .val (.int pl), .val (.double (FP.l2d lt)), .second, .val (.double (FP.l2d tt)), .second, .val (.int rm)] [(.double (FP.l2d ((g pl.toNatClampNeg) + lt))), (.int pl), (.ref r786)])) _
   refine st818 _ ?_
   show Steps _ _ _ (T818.setTop (mkF m 115 #[.val (.ref A), .val (.int pl), .val (.double (FP.l2d lt)), .second, .val (.double (FP.l2d tt)), .second, .val (.int rm)] [])) _
   exact X818.returnOut hx Bd.returns (hb hby dCM_115) hr
  ·show QCN0 Z A pl lt tt ec el qa q kec kel n f g h0 n0 _ T818.heap _
   rw [e818]
   exact ⟨rfl, N818F, K818.1, r779, r786, kr779, kr786, rm, ⟨f821, f827, f833, f839, f841, f842, f848, f854, f858, f864, f865, V818, dq, es, kes, f869, f875, f881, f887, f893, f899, f905, f911, f917, f923, f927, f933, f939, f945, f949, O_es, lt_A_qa, lt_qa_q, lt_q_dq, lt_dq_es, (Nat.ne_of_gt lt_A_r779), (Nat.ne_of_gt lt_qa_r779), (Nat.ne_of_gt lt_q_r779), (Nat.ne_of_gt lt_dq_r779), (Nat.ne_of_gt lt_es_r779), (Nat.ne_of_gt lt_A_r786), (Nat.ne_of_gt lt_qa_r786), (Nat.ne_of_gt lt_q_r786), (Nat.ne_of_gt lt_dq_r786), (Nat.ne_of_gt lt_es_r786), (Nat.ne_of_lt lt_r779_r786), g_A, g_r779, g_r786, g_q, g_dq, g_es⟩, own_nlt hr1, hr2, hr3, hr5⟩
theorem ef_CN1 (m : MethodId) (x0 : Addr) (x1 : Int32) (x2 : UInt64) (x3 : UInt64) : entryFrame m #[(.ref x0), (.int x1), (.double x2), (.double x3)] 7 = mkF m 0 #[.val (.ref x0), .val (.int x1), .val (.double x2), .second, .val (.double x3), .second, .unset] [] := by first | (simp [entryFrame, mkF, argsToLocals, Value.category]; done) | rfl
def QCN1 (Z : State) (A : Addr) (pl : Int32) (lt : Int64) (tt : Int64) (ec : Addr) (el : Addr) (qa : Addr) (q : Addr) (kec : ClassId) (kel : ClassId) (n : Int32) (f : Nat → Int64) (g : Nat → Int64) (p1 : Int32) (t1 : Int64) (l1 : Int64) (h0 : Heap) (n0 : Nat) (v : Option Value) (h : Heap) (L : List Loc) : Prop := v = none ∧ Fr n0 L ∧ h0.size ≤ h.size ∧ ∃ (ec' el' : Addr) (kec' kel' : ClassId) (n' : Int32), own_S1 Z h n0 A ec' el' qa q kec' kel' n' (own_upd f pl.toNatClampNeg ((f pl.toNatClampNeg) + (1 : Int64))) (own_upd g pl.toNatClampNeg ((g pl.toNatClampNeg) + lt)) p1 t1 l1 ∧ ¬ n' < n ∧ pl < n' ∧ ¬ (128 : Int32) < n' ∧ (n = 16 → ¬ (64 : Int32) < n')
set_option maxRecDepth 65536 in
set_option maxHeartbeats 40000000 in
theorem rmCN1 (l : Launch) (Z : State) (a0 : Array Value) (hw : HW Z a0) (ws : List Jvm.Cond) (A : Addr) (pl : Int32) (lt : Int64) (tt : Int64) (ec : Addr) (el : Addr) (qa : Addr) (q : Addr) (kec : ClassId) (kel : ClassId) (n : Int32) (f : Nat → Int64) (g : Nat → Int64) (p1 : Int32) (t1 : Int64) (l1 : Int64) (h0 : Heap) (n0 : Nat) (Z0 : n0 ≤ h0.size) (S : own_S1 Z h0 n0 A ec el qa q kec kel n f g p1 t1 l1) (hp0 : ¬ pl < 0) (hp1 : ¬ (63 : Int32) < pl) (hn0 : ¬ n < 16) (hn1 : ¬ (64 : Int32) < n) (hzf : ∀ i, n.toNatClampNeg ≤ i → f i = 0) (hzg : ∀ i, n.toNatClampNeg ≤ i → g i = 0) (hlb : own_B 2147483648 lt) (hgb : ∀ i, own_B 4294967296 (g i)) (htb : own_B 1000 tt) (hk : 90 < tt) :
  MetFree l (⟨sRA, "completed", "(IDD)V"⟩ : MethodName) (head1 (Jvm.Cond.code (⟨sRA, "completed", "(IDD)V"⟩ : MethodName) prog_63_method_4_code 7 none :: ws) (Rm 4 8 310 55)) (fun a U => a = #[(.ref A), (.int pl), (.double (FP.l2d lt)), (.double (FP.l2d tt))] ∧ Z.Warmed39 U.vm ∧ U.heap = h0) (fun _ _ _ _ _ => True) (fun _ U o U' => ∃ v L, o = .returned v ∧ QCN1 Z A pl lt tt ec el qa q kec kel n f g p1 t1 l1 h0 n0 v U'.heap L ∧ FrameEnd U o U' L (Rm 4 8 310 55).cells (Rm 4 8 310 55).slots) := by
 refine MetFree.of_bodySF (plainFor_of_name pn_com_example_frugal_weir_frugalweir_replay_RecentActivity) hisR ?_
 intro p e s m args below meth c s₁ Bd hml0 hP hK
 obtain ⟨rfl, hZ, hh⟩ := hP
 have hx := Bd.exec
 have hby := Bd.bytes
 have hml : c.maxLocals = 7 := hml0
 have hown : s.vm.findClass sRA = some m.cls := findClass_of_methodNamed Bd.named
 have hnm := (name_of_methodNamed Bd.named Bd.method).1
 have X0 : Stand p l e (Rm 4 8 310 55) s m #[(.ref A), (.int pl), (.double (FP.l2d lt)), (.double (FP.l2d tt))] below meth c s₁ [] 0 0 := Stand.of_body Bd
 have e0 : s₁.heap = h0 := by rw [← hh, Bd.state]; rfl
 have N0 := Fr.nil n0
 have pre0 : ∀ t, Steps p.tables e below (s₁.setTop (mkF m 0 #[.val (.ref A), .val (.int pl), .val (.double (FP.l2d lt)), .second, .val (.double (FP.l2d tt)), .second, .unset] [])) t → Steps p.tables e below (s₁.setTop (entryFrame m #[(.ref A), (.int pl), (.double (FP.l2d lt)), (.double (FP.l2d tt))] 7)) t := fun t k => castTop (ef_CN1 m A pl (FP.l2d lt) (FP.l2d tt)) k
 obtain ⟨E_A, F_A_window, F_A_asksBefore, F_A_keptUntil, F_A_executorCompleted, F_A_executorLatencySum, F_A_arrivalEvents, F_A_completionEvents, E_qa, F_qa_size, V_ec, V_el, b, bi, i0, bd, d0, d1, kbi, ki, kbd, kd, E_q, F_q_first, F_q_last, F_q_head, F_q_end, F_q_size, E_b, F_b_capacity, F_b_ints, F_b_doubles, V_bi, V_bd, V_i0, V_d0, V_d1, c_A_qa, c_qa_q, c_q_b, c_b_bi, c_bi_i0, c_i0_bd, c_bd_d0, c_d0_d1, ne_ec_A, ne_ec_qa, ne_ec_q, ne_ec_b, ne_ec_bi, ne_ec_i0, ne_ec_bd, ne_ec_d0, ne_ec_d1, ne_el_A, ne_el_qa, ne_el_q, ne_el_b, ne_el_bi, ne_el_i0, ne_el_bd, ne_el_d0, ne_el_d1, ne_ec_el, g_A, g_ec, g_el, g_q, g_b, g_bi, g_i0, g_bd, g_d0, g_d1⟩ := S
 have lt_A_qa : A < qa := c_A_qa
 have ne_A_qa : A ≠ qa := Nat.ne_of_lt lt_A_qa
 have lt_A_q : A < q := Nat.lt_trans lt_A_qa c_qa_q
 have ne_A_q : A ≠ q := Nat.ne_of_lt lt_A_q
 have lt_A_b : A < b := Nat.lt_trans lt_A_q c_q_b
 have ne_A_b : A ≠ b := Nat.ne_of_lt lt_A_b
 have lt_A_bi : A < bi := Nat.lt_trans lt_A_b c_b_bi
 have ne_A_bi : A ≠ bi := Nat.ne_of_lt lt_A_bi
 have lt_A_i0 : A < i0 := Nat.lt_trans lt_A_bi c_bi_i0
 have ne_A_i0 : A ≠ i0 := Nat.ne_of_lt lt_A_i0
 have lt_A_bd : A < bd := Nat.lt_trans lt_A_i0 c_i0_bd
 have ne_A_bd : A ≠ bd := Nat.ne_of_lt lt_A_bd
 have lt_A_d0 : A < d0 := Nat.lt_trans lt_A_bd c_bd_d0
 have ne_A_d0 : A ≠ d0 := Nat.ne_of_lt lt_A_d0
 have lt_A_d1 : A < d1 := Nat.lt_trans lt_A_d0 c_d0_d1
 have ne_A_d1 : A ≠ d1 := Nat.ne_of_lt lt_A_d1
 have lt_qa_q : qa < q := c_qa_q
 have ne_qa_q : qa ≠ q := Nat.ne_of_lt lt_qa_q
 have lt_qa_b : qa < b := Nat.lt_trans lt_qa_q c_q_b
 have ne_qa_b : qa ≠ b := Nat.ne_of_lt lt_qa_b
 have lt_qa_bi : qa < bi := Nat.lt_trans lt_qa_b c_b_bi
 have ne_qa_bi : qa ≠ bi := Nat.ne_of_lt lt_qa_bi
 have lt_qa_i0 : qa < i0 := Nat.lt_trans lt_qa_bi c_bi_i0
 have ne_qa_i0 : qa ≠ i0 := Nat.ne_of_lt lt_qa_i0
 have lt_qa_bd : qa < bd := Nat.lt_trans lt_qa_i0 c_i0_bd
 have ne_qa_bd : qa ≠ bd := Nat.ne_of_lt lt_qa_bd
 have lt_qa_d0 : qa < d0 := Nat.lt_trans lt_qa_bd c_bd_d0
 have ne_qa_d0 : qa ≠ d0 := Nat.ne_of_lt lt_qa_d0
 have lt_qa_d1 : qa < d1 := Nat.lt_trans lt_qa_d0 c_d0_d1
 have ne_qa_d1 : qa ≠ d1 := Nat.ne_of_lt lt_qa_d1
 have lt_q_b : q < b := c_q_b
 have ne_q_b : q ≠ b := Nat.ne_of_lt lt_q_b
 have lt_q_bi : q < bi := Nat.lt_trans lt_q_b c_b_bi
 have ne_q_bi : q ≠ bi := Nat.ne_of_lt lt_q_bi
 have lt_q_i0 : q < i0 := Nat.lt_trans lt_q_bi c_bi_i0
 have ne_q_i0 : q ≠ i0 := Nat.ne_of_lt lt_q_i0
 have lt_q_bd : q < bd := Nat.lt_trans lt_q_i0 c_i0_bd
 have ne_q_bd : q ≠ bd := Nat.ne_of_lt lt_q_bd
 have lt_q_d0 : q < d0 := Nat.lt_trans lt_q_bd c_bd_d0
 have ne_q_d0 : q ≠ d0 := Nat.ne_of_lt lt_q_d0
 have lt_q_d1 : q < d1 := Nat.lt_trans lt_q_d0 c_d0_d1
 have ne_q_d1 : q ≠ d1 := Nat.ne_of_lt lt_q_d1
 have lt_b_bi : b < bi := c_b_bi
 have ne_b_bi : b ≠ bi := Nat.ne_of_lt lt_b_bi
 have lt_b_i0 : b < i0 := Nat.lt_trans lt_b_bi c_bi_i0
 have ne_b_i0 : b ≠ i0 := Nat.ne_of_lt lt_b_i0
 have lt_b_bd : b < bd := Nat.lt_trans lt_b_i0 c_i0_bd
 have ne_b_bd : b ≠ bd := Nat.ne_of_lt lt_b_bd
 have lt_b_d0 : b < d0 := Nat.lt_trans lt_b_bd c_bd_d0
 have ne_b_d0 : b ≠ d0 := Nat.ne_of_lt lt_b_d0
 have lt_b_d1 : b < d1 := Nat.lt_trans lt_b_d0 c_d0_d1
 have ne_b_d1 : b ≠ d1 := Nat.ne_of_lt lt_b_d1
 have lt_bi_i0 : bi < i0 := c_bi_i0
 have ne_bi_i0 : bi ≠ i0 := Nat.ne_of_lt lt_bi_i0
 have lt_bi_bd : bi < bd := Nat.lt_trans lt_bi_i0 c_i0_bd
 have ne_bi_bd : bi ≠ bd := Nat.ne_of_lt lt_bi_bd
 have lt_bi_d0 : bi < d0 := Nat.lt_trans lt_bi_bd c_bd_d0
 have ne_bi_d0 : bi ≠ d0 := Nat.ne_of_lt lt_bi_d0
 have lt_bi_d1 : bi < d1 := Nat.lt_trans lt_bi_d0 c_d0_d1
 have ne_bi_d1 : bi ≠ d1 := Nat.ne_of_lt lt_bi_d1
 have lt_i0_bd : i0 < bd := c_i0_bd
 have ne_i0_bd : i0 ≠ bd := Nat.ne_of_lt lt_i0_bd
 have lt_i0_d0 : i0 < d0 := Nat.lt_trans lt_i0_bd c_bd_d0
 have ne_i0_d0 : i0 ≠ d0 := Nat.ne_of_lt lt_i0_d0
 have lt_i0_d1 : i0 < d1 := Nat.lt_trans lt_i0_d0 c_d0_d1
 have ne_i0_d1 : i0 ≠ d1 := Nat.ne_of_lt lt_i0_d1
 have lt_bd_d0 : bd < d0 := c_bd_d0
 have ne_bd_d0 : bd ≠ d0 := Nat.ne_of_lt lt_bd_d0
 have lt_bd_d1 : bd < d1 := Nat.lt_trans lt_bd_d0 c_d0_d1
 have ne_bd_d1 : bd ≠ d1 := Nat.ne_of_lt lt_bd_d1
 have lt_d0_d1 : d0 < d1 := c_d0_d1
 have ne_d0_d1 : d0 ≠ d1 := Nat.ne_of_lt lt_d0_d1
 have K0 := Keep.refl h0 [A, ec, el, q, b, bi, i0, bd, d0, d1]
 have hp128 : pl.toNatClampNeg < 128 := own_pn hp0 (fun q => hp1 (own_tr (by decide) q))
 obtain ⟨T950, X950, e950, st950⟩ := getF X0 hx hZ hown (host := "") (Or.inl (wd hw 64 rfl)) Via.refl e0 F_A_keptUntil (g := (mkF m 3 #[.val (.ref A), .val (.int pl), .val (.double (FP.l2d lt)), .second, .val (.double (FP.l2d tt)), .second, .unset] [(.ref A), (.double (FP.l2d tt))])) rfl rfl (hb hby dCM_3)
 obtain ⟨T951, X951, e951, st951⟩ := getF X950 hx hZ hown (host := "") (Or.inl (wd hw 21 rfl)) Via.refl e950 F_A_executorCompleted (g := (mkF m 47 #[.val (.ref A), .val (.int pl), .val (.double (FP.l2d lt)), .second, .val (.double (FP.l2d tt)), .second, .unset] [(.ref A), (.int pl)])) rfl rfl (hb hby dCM_47)
 obtain ⟨cl952, Ar952, -, S952, N952, -, -⟩ := id V_ec
 have R953 : ∀ t, Steps p.tables e below (T951.setTop (mkF m 51 #[.val (.ref A), .val (.int pl), .val (.double (FP.l2d lt)), .second, .val (.double (FP.l2d tt)), .second, .unset] [(.int n), (.int pl)])) t → Steps p.tables e below (s₁.setTop (entryFrame m #[(.ref A), (.int pl), (.double (FP.l2d lt)), (.double (FP.l2d tt))] 7)) t := by
  intro t kt
  refine pre0 _ ?_
  show Steps _ _ _ (s₁.setTop (mkF m 0 #[.val (.ref A), .val (.int pl), .val (.double (FP.l2d lt)), .second, .val (.double (FP.l2d tt)), .second, .unset] [])) _
  refine XS.dload X0.here hx rfl (hb hby dCM_0) rfl ?_
  refine XS.aloadN X0.here hx rfl (hb hby dCM_2) rfl rfl ?_
  refine st950 _ ?_
  refine XS.dcmpS X950.here hx rfl (hb hby dCM_6) rfl (v := (lcmpW tt 90)) (own_cmpw htb own_b90 (by decide) (by decide) _) ?_
  show Steps _ _ _ (T950.setTop (mkF m 7 #[.val (.ref A), .val (.int pl), .val (.double (FP.l2d lt)), .second, .val (.double (FP.l2d tt)), .second, .unset] [(.int (lcmpW tt 90))])) _
  refine XS.ifYes X950.here hx rfl (pc0 := 7) (pc' := 45) rfl (hb hby dCM_7) rfl ((if0 _ _).trans (tlt ((lw_gt _ _).mpr hk)).2.2.1) (by decide) (by decide) ?_
  refine XS.iloadN X950.here hx rfl (hb hby dCM_45) rfl ?_
  refine XS.aloadN X950.here hx rfl (hb hby dCM_46) rfl rfl ?_
  refine st951 _ ?_
  show Steps _ _ _ (T951.setTop (mkF m 50 #[.val (.ref A), .val (.int pl), .val (.double (FP.l2d lt)), .second, .val (.double (FP.l2d tt)), .second, .unset] [(.ref ec), (.int pl)])) _
  refine X951.arraylength hx (by rw [e951]; exact Ar952.1) (State.isArrayOf_alike hZ.alike Ar952.2.1) (g := (mkF m 50 #[.val (.ref A), .val (.int pl), .val (.double (FP.l2d lt)), .second, .val (.double (FP.l2d tt)), .second, .unset] [(.ref ec), (.int pl)])) rfl rfl (hb hby dCM_50) _ ?_
  rw [len_of S952 N952]
  show Steps _ _ _ (T951.setTop (mkF m 51 #[.val (.ref A), .val (.int pl), .val (.double (FP.l2d lt)), .second, .val (.double (FP.l2d tt)), .second, .unset] [(.int n), (.int pl)])) _
  exact kt
 have hnn : ¬ n < 0 := own_n0 hn0
 by_cases hlt : pl < n
 ·
  obtain ⟨T954, X954, e954, st954⟩ := getF X951 hx hZ hown (host := "") (Or.inl (wd hw 21 rfl)) Via.refl e951 F_A_executorCompleted (g := (mkF m 96 #[.val (.ref A), .val (.int pl), .val (.double (FP.l2d lt)), .second, .val (.double (FP.l2d tt)), .second, .unset] [(.ref A)])) rfl rfl (hb hby dCM_96)
  obtain ⟨cl955, Ar955, q955, S955, N955, H955, G955⟩ := id V_ec
  have hin955 : ¬ (pl < 0 ∨ cl955.slots.size ≤ (pl).toNatClampNeg) := (inb_of S955 ⟨hp0, hlt⟩)
  have hat955 : cl955.slots[(pl).toNatClampNeg]? = some (.long (f pl.toNatClampNeg)) := (H955.at (inb_of S955 ⟨hp0, hlt⟩) (own_Lget _ hp128 _))
  obtain ⟨cl956, Ar956, q956, S956, N956, H956, G956⟩ := id V_ec
  have hin956 : ¬ (pl < 0 ∨ cl956.slots.size ≤ (pl).toNatClampNeg) := (inb_of S956 ⟨hp0, hlt⟩)
  obtain ⟨T957, h957, X957, e957, W957, st957⟩ := stJ X954 hx hZ e954 Ar956 (j := pl) hin956 (g := (mkF m 104 #[.val (.ref A), .val (.int pl), .val (.double (FP.l2d lt)), .second, .val (.double (FP.l2d tt)), .second, .unset] [(.long ((f pl.toNatClampNeg) + (1 : Int64))), (.int pl), (.ref ec)])) rfl rfl (hb hby dCM_104)
  have V957 := Arv.set Ar956 q956 S956 N956 H956 G956 rfl W957 pl.toNatClampNeg rfl (by rw [own_Llen]; exact hp128)
  rw [own_Lset] at V957
  have K957 : Keep h0 h957 [A, ec, el, q, b, bi, i0, bd, d0, d1] := K0.wr W957 (Or.inl (List.mem_of_getElem? (i := 1) rfl))
  have N957F := Fr.snoc X957 N0 g_ec
  have f958 := F_A_executorLatencySum.other W957 (Or.inl (Ne.symm ne_ec_A))
  obtain ⟨T959, X959, e959, st959⟩ := getF X957 hx hZ hown (host := "") (Or.inl (wd hw 24 rfl)) Via.refl e957 f958 (g := (mkF m 106 #[.val (.ref A), .val (.int pl), .val (.double (FP.l2d lt)), .second, .val (.double (FP.l2d tt)), .second, .unset] [(.ref A)])) rfl rfl (hb hby dCM_106)
  have f961 := V_el.other W957 (Ne.symm ne_ec_el)
  obtain ⟨cl960, Ar960, q960, S960, N960, H960, G960⟩ := id f961
  have hin960 : ¬ (pl < 0 ∨ cl960.slots.size ≤ (pl).toNatClampNeg) := (inb_of S960 ⟨hp0, hlt⟩)
  have hat960 : cl960.slots[(pl).toNatClampNeg]? = some (.double (FP.l2d (g pl.toNatClampNeg))) := (H960.at (inb_of S960 ⟨hp0, hlt⟩) (own_Dget _ hp128 _))
  obtain ⟨cl962, Ar962, q962, S962, N962, H962, G962⟩ := id f961
  have hin962 : ¬ (pl < 0 ∨ cl962.slots.size ≤ (pl).toNatClampNeg) := (inb_of S962 ⟨hp0, hlt⟩)
  obtain ⟨T963, h963, X963, e963, W963, st963⟩ := stD X959 hx hZ e959 Ar962 (j := pl) hin962 (g := (mkF m 114 #[.val (.ref A), .val (.int pl), .val (.double (FP.l2d lt)), .second, .val (.double (FP.l2d tt)), .second, .unset] [(.double (FP.l2d ((g pl.toNatClampNeg) + lt))), (.int pl), (.ref el)])) rfl rfl (hb hby dCM_114)
  have V963 := Arv.set Ar962 q962 S962 N962 H962 G962 rfl W963 pl.toNatClampNeg rfl (by rw [own_Dlen]; exact hp128)
  rw [own_Dset] at V963
  have K963 : Keep h0 h963 [A, ec, el, q, b, bi, i0, bd, d0, d1] := K957.wr W963 (Or.inl (List.mem_of_getElem? (i := 2) rfl))
  have N963F := Fr.snoc X963 N957F g_el
  have f965 := (E_A.wr W957).wr W963
  have f967 := (F_A_window.other W957 (Or.inl (Ne.symm ne_ec_A))).other W963 (Or.inl (Ne.symm ne_el_A))
  have f969 := (F_A_asksBefore.other W957 (Or.inl (Ne.symm ne_ec_A))).other W963 (Or.inl (Ne.symm ne_el_A))
  have f971 := (F_A_keptUntil.other W957 (Or.inl (Ne.symm ne_ec_A))).other W963 (Or.inl (Ne.symm ne_el_A))
  have f973 := (F_A_executorCompleted.other W957 (Or.inl (Ne.symm ne_ec_A))).other W963 (Or.inl (Ne.symm ne_el_A))
  have f974 := f958.other W963 (Or.inl (Ne.symm ne_el_A))
  have f976 := (F_A_arrivalEvents.other W957 (Or.inl (Ne.symm ne_ec_A))).other W963 (Or.inl (Ne.symm ne_el_A))
  have f978 := (F_A_completionEvents.other W957 (Or.inl (Ne.symm ne_ec_A))).other W963 (Or.inl (Ne.symm ne_el_A))
  have f980 := (E_qa.wr W957).wr W963
  have f982 := (F_qa_size.other W957 (Or.inl (Ne.symm ne_ec_qa))).other W963 (Or.inl (Ne.symm ne_el_qa))
  have f983 := V957.other W963 ne_ec_el
  have f985 := (E_q.wr W957).wr W963
  have f987 := (F_q_first.other W957 (Or.inl (Ne.symm ne_ec_q))).other W963 (Or.inl (Ne.symm ne_el_q))
  have f989 := (F_q_last.other W957 (Or.inl (Ne.symm ne_ec_q))).other W963 (Or.inl (Ne.symm ne_el_q))
  have f991 := (F_q_head.other W957 (Or.inl (Ne.symm ne_ec_q))).other W963 (Or.inl (Ne.symm ne_el_q))
  have f993 := (F_q_end.other W957 (Or.inl (Ne.symm ne_ec_q))).other W963 (Or.inl (Ne.symm ne_el_q))
  have f995 := (F_q_size.other W957 (Or.inl (Ne.symm ne_ec_q))).other W963 (Or.inl (Ne.symm ne_el_q))
  have f997 := (E_b.wr W957).wr W963
  have f999 := (F_b_capacity.other W957 (Or.inl (Ne.symm ne_ec_b))).other W963 (Or.inl (Ne.symm ne_el_b))
  have f1001 := (F_b_ints.other W957 (Or.inl (Ne.symm ne_ec_b))).other W963 (Or.inl (Ne.symm ne_el_b))
  have f1003 := (F_b_doubles.other W957 (Or.inl (Ne.symm ne_ec_b))).other W963 (Or.inl (Ne.symm ne_el_b))
  have f1005 := (V_bi.other W957 (Ne.symm ne_ec_bi)).other W963 (Ne.symm ne_el_bi)
  have f1007 := (V_bd.other W957 (Ne.symm ne_ec_bd)).other W963 (Ne.symm ne_el_bd)
  have f1009 := (V_i0.other W957 (Ne.symm ne_ec_i0)).other W963 (Ne.symm ne_el_i0)
  have f1011 := (V_d0.other W957 (Ne.symm ne_ec_d0)).other W963 (Ne.symm ne_el_d0)
  have f1013 := (V_d1.other W957 (Ne.symm ne_ec_d1)).other W963 (Ne.symm ne_el_d1)
  obtain ⟨fs, hr, hrun, hended, hW, hsame⟩ := X963.leave (v := none) (fun _ => rfl)
  refine ⟨_, _, ?_, hrun, hended, _, _, rfl, ?_, ⟨_, rfl⟩, hW, hsame.mono (by decide) (by decide)⟩
  ·refine R953 _ ?_
   show Steps _ _ _ (T951.setTop (mkF m 51 #[.val (.ref A), .val (.int pl), .val (.double (FP.l2d lt)), .second, .val (.double (FP.l2d tt)), .second, .unset] [(.int n), (.int pl)])) _
   refine XS.icmpYes X951.here hx rfl (pc0 := 51) (pc' := 95) rfl (hb hby dCM_51) rfl (tlt hlt).1 (by decide) (by decide) ?_
   refine XS.aloadN X951.here hx rfl (hb hby dCM_95) rfl rfl ?_
   refine st954 _ ?_
   refine XS.iloadN X954.here hx rfl (hb hby dCM_99) rfl ?_
   show Steps _ _ _ (T954.setTop (mkF m 100 #[.val (.ref A), .val (.int pl), .val (.double (FP.l2d lt)), .second, .val (.double (FP.l2d tt)), .second, .unset] [(.int pl), (.ref ec)])) _
   jvm_step X954.here [X954.here.top, hx, (hb hby dCM_100), Value.category]
   show Steps _ _ _ (T954.setTop (mkF m 101 #[.val (.ref A), .val (.int pl), .val (.double (FP.l2d lt)), .second, .val (.double (FP.l2d tt)), .second, .unset] [(.int pl), (.ref ec), (.int pl), (.ref ec)])) _
   refine X954.laload hx (j := pl) (v := (.long (f pl.toNatClampNeg))) (by rw [e954]; exact Ar955.1) (State.isArrayOf_alike hZ.alike Ar955.2.1) Ar955.2.2 hin955 hat955 (g := (mkF m 101 #[.val (.ref A), .val (.int pl), .val (.double (FP.l2d lt)), .second, .val (.double (FP.l2d tt)), .second, .unset] [(.int pl), (.ref ec), (.int pl), (.ref ec)])) rfl rfl (hb hby dCM_101) _ ?_
   refine XS.lconst X954.here hx rfl (hb hby dCM_102) ?_
   refine XS.ladd X954.here hx rfl (hb hby dCM_103) rfl ?_
   show Steps _ _ _ (T954.setTop (mkF m 104 #[.val (.ref A), .val (.int pl), .val (.double (FP.l2d lt)), .second, .val (.double (FP.l2d tt)), .second, .unset] [(.long ((f pl.toNatClampNeg) + (1 : Int64))), (.int pl), (.ref ec)])) _
   refine st957 _ ?_
   refine XS.aloadN X957.here hx rfl (hb hby dCM_105) rfl rfl ?_
   refine st959 _ ?_
   refine XS.iloadN X959.here hx rfl (hb hby dCM_109) rfl ?_
   show Steps _ _ _ (T959.setTop (mkF m 110 #[.val (.ref A), .val (.int pl), .val (.double (FP.l2d lt)), .second, .val (.double (FP.l2d tt)), .second, .unset] [(.int pl), (.ref el)])) _
   jvm_step X959.here [X959.here.top, hx, (hb hby dCM_110), Value.category]
   show Steps _ _ _ (T959.setTop (mkF m 111 #[.val (.ref A), .val (.int pl), .val (.double (FP.l2d lt)), .second, .val (.double (FP.l2d tt)), .second, .unset] [(.int pl), (.ref el), (.int pl), (.ref el)])) _
   refine X959.daload hx (j := pl) (v := (.double (FP.l2d (g pl.toNatClampNeg)))) (by rw [e959]; exact Ar960.1) (State.isArrayOf_alike hZ.alike Ar960.2.1) Ar960.2.2 hin960 hat960 (g := (mkF m 111 #[.val (.ref A), .val (.int pl), .val (.double (FP.l2d lt)), .second, .val (.double (FP.l2d tt)), .second, .unset] [(.int pl), (.ref el), (.int pl), (.ref el)])) rfl rfl (hb hby dCM_111) _ ?_
   refine XS.dloadN X959.here hx rfl (hb hby dCM_112) rfl ?_
   refine XS.daddS X959.here hx rfl (hb hby dCM_113) rfl (v := (FP.l2d ((g pl.toNatClampNeg) + lt))) (nn_w (own_add (hgb _) hlb (by decide) (by decide))) (own_add (hgb _) hlb (by decide) (by decide)) ?_
   show Steps _ _ _ (T959.setTop (mkF m 114 #[.val (.ref A), .val (.int pl), .val (.double (FP.l2d lt)), .second, .val (.double (FP.l2d tt)), .second, .unset] [(.double (FP.l2d ((g pl.toNatClampNeg) + lt))), (.int pl), (.ref el)])) _
   refine st963 _ ?_
   show Steps _ _ _ (T963.setTop (mkF m 115 #[.val (.ref A), .val (.int pl), .val (.double (FP.l2d lt)), .second, .val (.double (FP.l2d tt)), .second, .unset] [])) _
   exact X963.returnOut hx Bd.returns (hb hby dCM_115) hr
  ·show QCN1 Z A pl lt tt ec el qa q kec kel n f g p1 t1 l1 h0 n0 _ T963.heap _
   rw [e963]
   exact ⟨rfl, N963F, K963.1, ec, el, kec, kel, n, ⟨f965, f967, f969, f971, f973, f974, f976, f978, f980, f982, f983, V963, b, bi, i0, bd, d0, d1, kbi, ki, kbd, kd, f985, f987, f989, f991, f993, f995, f997, f999, f1001, f1003, f1005, f1007, f1009, f1011, f1013, lt_A_qa, lt_qa_q, lt_q_b, lt_b_bi, lt_bi_i0, lt_i0_bd, lt_bd_d0, lt_d0_d1, ne_ec_A, ne_ec_qa, ne_ec_q, ne_ec_b, ne_ec_bi, ne_ec_i0, ne_ec_bd, ne_ec_d0, ne_ec_d1, ne_el_A, ne_el_qa, ne_el_q, ne_el_b, ne_el_bi, ne_el_i0, ne_el_bd, ne_el_d0, ne_el_d1, ne_ec_el, g_A, g_ec, g_el, g_q, g_b, g_bi, g_i0, g_bd, g_d0, g_d1⟩, own_nirr n, hlt, (fun q => hn1 (own_tr (by decide) q)), (fun _ => hn1)⟩
 ·
  obtain ⟨rm, hrm⟩ : ∃ z, own_max (pl + (1 : Int32)) (n * (2 : Int32)) = z := ⟨_, rfl⟩
  obtain ⟨hr1, hr2, hr3, hr4, hr5⟩ := own_rm hp0 hp1 hn0 hn1 hlt
  rw [hrm] at hr1 hr2 hr3 hr4 hr5
  obtain ⟨T1014, X1014, e1014, st1014⟩ := getF X951 hx hZ hown (host := "") (Or.inl (wd hw 21 rfl)) Via.refl e951 F_A_executorCompleted (g := (mkF m 58 #[.val (.ref A), .val (.int pl), .val (.double (FP.l2d lt)), .second, .val (.double (FP.l2d tt)), .second, .unset] [(.ref A), (.int (pl + (1 : Int32)))])) rfl rfl (hb hby dCM_58)
  obtain ⟨cl1015, Ar1015, -, S1015, N1015, -, -⟩ := id V_ec
  obtain ⟨_, _, ⟨T1016, L1016, k1016, n1016⟩, -, X1016, ⟨Lc1016, hQ1016, l1016, y1016, z1016⟩, st1016⟩ := Jvm.LawKit.callS X1014 hx (y := (⟨"java/lang/Math", "max", "(II)I"⟩ : MethodName)) hown (mvT hZ (wd hw 145 rfl)) (mvT hZ (wd hw 83 rfl)) (mvT hZ (wd hw 3 rfl)) (mvT hZ (wd hw 84 rfl)) (by decide) (backOf (W := 0) (rmMX l Z a0 hw [] (pl + (1 : Int32)) (n * (2 : Int32)) h0 n0 (Nat.le_trans Z0 K0.1) ) hZ (wd hw 84 rfl) (wd hw 3 rfl) (by decide) (by decide)) (g := (mkF m 64 #[.val (.ref A), .val (.int pl), .val (.double (FP.l2d lt)), .second, .val (.double (FP.l2d tt)), .second, .unset] [(.int (n * (2 : Int32))), (.int (pl + (1 : Int32)))])) rfl (by rw [hml]; rfl) (argsL := [(.int (pl + (1 : Int32))), (.int (n * (2 : Int32)))]) (rest := []) (lenOf pd_4 rfl) rfl (by show 2 * 0 + _ ≤ _; exact Nat.le_of_eq rfl) (hb hby dCM_64) (fun _ _ => ⟨rfl, e1014, (by decide : 0 + 0 ≤ _), (by decide : 0 + 0 ≤ _)⟩)
  dsimp only [Pt.U, Pt.locs, Pt.cells, Pt.slots] at X1016 l1016 y1016 z1016 st1016 hQ1016
  rw [l1016, y1016, z1016] at X1016
  obtain ⟨hv1016, Nq1016, eq1016⟩ := hQ1016
  rw [hv1016] at st1016
  have N1016 := Fr.app N0 Nq1016
  rw [hrm] at st1016
  obtain ⟨T1017, X1017, e1017, st1017⟩ := getF X1016 hx hZ hown (host := "") (Or.inl (wd hw 21 rfl)) Via.refl eq1016 F_A_executorCompleted (g := (mkF m 71 #[.val (.ref A), .val (.int pl), .val (.double (FP.l2d lt)), .second, .val (.double (FP.l2d tt)), .second, .val (.int rm)] [(.ref A), (.ref A)])) rfl rfl (hb hby dCM_71)
  obtain ⟨_, _, ⟨T1018, L1018, k1018, n1018⟩, -, X1018, ⟨Lc1018, hQ1018, l1018, y1018, z1018⟩, st1018⟩ := Jvm.LawKit.callS X1017 hx (y := (⟨"java/util/Arrays", "copyOf", "([JI)[J"⟩ : MethodName)) hown (mvT hZ (wd hw 146 rfl)) (mvT hZ (wd hw 147 rfl)) (mvT hZ (wd hw 148 rfl)) (mvT hZ (wd hw 149 rfl)) (by decide) (backOf (W := 1) (rmCPJ l Z a0 hw [] ec rm kec n f h0 n0 (Nat.le_trans Z0 K0.1) V_ec hzf hr1 hr3 hr4 hnn) hZ (wd hw 149 rfl) (wd hw 148 rfl) (by decide) (by decide)) (g := (mkF m 76 #[.val (.ref A), .val (.int pl), .val (.double (FP.l2d lt)), .second, .val (.double (FP.l2d tt)), .second, .val (.int rm)] [(.int rm), (.ref ec), (.ref A)])) rfl (by rw [hml]; rfl) (argsL := [(.ref ec), (.int rm)]) (rest := [(.ref A)]) (lenOf pd_7 rfl) rfl (by show 2 * 0 + _ ≤ _; exact Nat.le_of_eq rfl) (hb hby dCM_76) (fun _ _ => ⟨rfl, e1017, (by decide : 0 + 1 ≤ _), (by decide : 0 + 128 ≤ _)⟩)
  dsimp only [Pt.U, Pt.locs, Pt.cells, Pt.slots] at X1018 l1018 y1018 z1018 st1018 hQ1018
  rw [l1018, y1018, z1018] at X1018
  obtain ⟨r1018, kr1018, hv1018, Nq1018, Kc1018, Vr1018, szq1018⟩ := hQ1018
  rw [hv1018] at st1018
  have K1018 : Keep h0 T1018.heap [A, ec, el, q, b, bi, i0, bd, d0, d1] := K0.trans Kc1018 all0
  have lt_A_r1018 : A < r1018 := Nat.lt_of_lt_of_le E_A.lt szq1018
  have lt_qa_r1018 : qa < r1018 := Nat.lt_of_lt_of_le E_qa.lt szq1018
  have lt_ec_r1018 : ec < r1018 := Nat.lt_of_lt_of_le V_ec.lt szq1018
  have lt_el_r1018 : el < r1018 := Nat.lt_of_lt_of_le V_el.lt szq1018
  have lt_q_r1018 : q < r1018 := Nat.lt_of_lt_of_le E_q.lt szq1018
  have lt_b_r1018 : b < r1018 := Nat.lt_of_lt_of_le E_b.lt szq1018
  have lt_bi_r1018 : bi < r1018 := Nat.lt_of_lt_of_le V_bi.lt szq1018
  have lt_bd_r1018 : bd < r1018 := Nat.lt_of_lt_of_le V_bd.lt szq1018
  have lt_i0_r1018 : i0 < r1018 := Nat.lt_of_lt_of_le V_i0.lt szq1018
  have lt_d0_r1018 : d0 < r1018 := Nat.lt_of_lt_of_le V_d0.lt szq1018
  have lt_d1_r1018 : d1 < r1018 := Nat.lt_of_lt_of_le V_d1.lt szq1018
  have sz_r1018 : h0.size ≤ r1018 := Nat.le_trans K0.1 szq1018
  have g_r1018 : n0 ≤ r1018 := Nat.le_trans Z0 sz_r1018
  have N1018 := Fr.app N1016 Nq1018
  have f1019 := E_A.keep Kc1018
  have f1020 := F_A_executorCompleted.keep Kc1018 nin0
  obtain ⟨T1021, h1021, X1021, e1021, W1021, st1021⟩ := putF X1018 hx hZ hown (host := "") (Or.inl (wd hw 21 rfl)) Via.refl rfl f1020 f1019 (Or.inl (wd hw 22 rfl)) (wd hw 10 rfl) (ty := (.array .long)) (by decide) rfl rfl (g := (mkF m 79 #[.val (.ref A), .val (.int pl), .val (.double (FP.l2d lt)), .second, .val (.double (FP.l2d tt)), .second, .val (.int rm)] [(.ref r1018), (.ref A)])) rfl rfl (hb hby dCM_79)
  have Fw1021 := f1020.same W1021
  have K1021 : Keep h0 h1021 [A, ec, el, q, b, bi, i0, bd, d0, d1] := K1018.wr W1021 (Or.inl (List.mem_of_getElem? (i := 0) rfl))
  have N1021 := Fr.snoc X1021 N1018 g_A
  have f1023 := (F_A_executorLatencySum.keep Kc1018 nin0).other W1021 (Or.inr (sn26 hw))
  obtain ⟨T1024, X1024, e1024, st1024⟩ := getF X1021 hx hZ hown (host := "") (Or.inl (wd hw 24 rfl)) Via.refl e1021 f1023 (g := (mkF m 84 #[.val (.ref A), .val (.int pl), .val (.double (FP.l2d lt)), .second, .val (.double (FP.l2d tt)), .second, .val (.int rm)] [(.ref A), (.ref A)])) rfl rfl (hb hby dCM_84)
  have f1026 := f1019.wr W1021
  have f1028 := (E_qa.keep Kc1018).wr W1021
  have f1030 := (V_ec.keep Kc1018 nin0).other W1021 ne_ec_A
  have f1032 := (V_el.keep Kc1018 nin0).other W1021 ne_el_A
  have f1034 := (E_q.keep Kc1018).wr W1021
  have f1036 := (E_b.keep Kc1018).wr W1021
  have f1038 := (V_bi.keep Kc1018 nin0).other W1021 (Ne.symm ne_A_bi)
  have f1040 := (V_bd.keep Kc1018 nin0).other W1021 (Ne.symm ne_A_bd)
  have f1042 := (V_i0.keep Kc1018 nin0).other W1021 (Ne.symm ne_A_i0)
  have f1044 := (V_d0.keep Kc1018 nin0).other W1021 (Ne.symm ne_A_d0)
  have f1046 := (V_d1.keep Kc1018 nin0).other W1021 (Ne.symm ne_A_d1)
  have f1047 := Vr1018.other W1021 (Nat.ne_of_gt lt_A_r1018)
  obtain ⟨_, _, ⟨T1025, L1025, k1025, n1025⟩, -, X1025, ⟨Lc1025, hQ1025, l1025, y1025, z1025⟩, st1025⟩ := Jvm.LawKit.callS X1024 hx (y := (⟨"java/util/Arrays", "copyOf", "([DI)[D"⟩ : MethodName)) hown (mvT hZ (wd hw 155 rfl)) (mvT hZ (wd hw 156 rfl)) (mvT hZ (wd hw 148 rfl)) (mvT hZ (wd hw 157 rfl)) (by decide) (backOf (W := 1) (rmCPD l Z a0 hw [] el rm kel n g h1021 n0 (Nat.le_trans Z0 K1021.1) f1032 hzg hr1 hr3 hr4 hnn) hZ (wd hw 157 rfl) (wd hw 148 rfl) (by decide) (by decide)) (g := (mkF m 89 #[.val (.ref A), .val (.int pl), .val (.double (FP.l2d lt)), .second, .val (.double (FP.l2d tt)), .second, .val (.int rm)] [(.int rm), (.ref el), (.ref A)])) rfl (by rw [hml]; rfl) (argsL := [(.ref el), (.int rm)]) (rest := [(.ref A)]) (lenOf pd_8 rfl) rfl (by show 2 * 0 + _ ≤ _; exact Nat.le_of_eq rfl) (hb hby dCM_89) (fun _ _ => ⟨rfl, e1024, (by decide : 1 + 1 ≤ _), (by decide : 128 + 128 ≤ _)⟩)
  dsimp only [Pt.U, Pt.locs, Pt.cells, Pt.slots] at X1025 l1025 y1025 z1025 st1025 hQ1025
  rw [l1025, y1025, z1025] at X1025
  obtain ⟨r1025, kr1025, hv1025, Nq1025, Kc1025, Vr1025, szq1025⟩ := hQ1025
  rw [hv1025] at st1025
  have K1025 : Keep h0 T1025.heap [A, ec, el, q, b, bi, i0, bd, d0, d1] := K1021.trans Kc1025 all0
  have lt_A_r1025 : A < r1025 := Nat.lt_of_lt_of_le f1026.lt szq1025
  have lt_qa_r1025 : qa < r1025 := Nat.lt_of_lt_of_le f1028.lt szq1025
  have lt_ec_r1025 : ec < r1025 := Nat.lt_of_lt_of_le f1030.lt szq1025
  have lt_el_r1025 : el < r1025 := Nat.lt_of_lt_of_le f1032.lt szq1025
  have lt_q_r1025 : q < r1025 := Nat.lt_of_lt_of_le f1034.lt szq1025
  have lt_b_r1025 : b < r1025 := Nat.lt_of_lt_of_le f1036.lt szq1025
  have lt_bi_r1025 : bi < r1025 := Nat.lt_of_lt_of_le f1038.lt szq1025
  have lt_bd_r1025 : bd < r1025 := Nat.lt_of_lt_of_le f1040.lt szq1025
  have lt_i0_r1025 : i0 < r1025 := Nat.lt_of_lt_of_le f1042.lt szq1025
  have lt_d0_r1025 : d0 < r1025 := Nat.lt_of_lt_of_le f1044.lt szq1025
  have lt_d1_r1025 : d1 < r1025 := Nat.lt_of_lt_of_le f1046.lt szq1025
  have lt_r1018_r1025 : r1018 < r1025 := Nat.lt_of_lt_of_le f1047.lt szq1025
  have sz_r1025 : h0.size ≤ r1025 := Nat.le_trans K1021.1 szq1025
  have g_r1025 : n0 ≤ r1025 := Nat.le_trans Z0 sz_r1025
  have N1025 := Fr.app N1021 Nq1025
  have f1048 := f1026.keep Kc1025
  have f1049 := f1023.keep Kc1025 nin0
  obtain ⟨T1050, h1050, X1050, e1050, W1050, st1050⟩ := putF X1025 hx hZ hown (host := "") (Or.inl (wd hw 24 rfl)) Via.refl rfl f1049 f1048 (Or.inl (wd hw 25 rfl)) (wd hw 10 rfl) (ty := (.array .double)) (by decide) rfl rfl (g := (mkF m 92 #[.val (.ref A), .val (.int pl), .val (.double (FP.l2d lt)), .second, .val (.double (FP.l2d tt)), .second, .val (.int rm)] [(.ref r1025), (.ref A)])) rfl rfl (hb hby dCM_92)
  have Fw1050 := f1049.same W1050
  have K1050 : Keep h0 h1050 [A, ec, el, q, b, bi, i0, bd, d0, d1] := K1025.wr W1050 (Or.inl (List.mem_of_getElem? (i := 0) rfl))
  have N1050 := Fr.snoc X1050 N1025 g_A
  have f1052 := (Fw1021.keep Kc1025 nin0).other W1050 (Or.inr (sn60 hw))
  obtain ⟨T1053, X1053, e1053, st1053⟩ := getF X1050 hx hZ hown (host := "") (Or.inl (wd hw 21 rfl)) Via.refl e1050 f1052 (g := (mkF m 96 #[.val (.ref A), .val (.int pl), .val (.double (FP.l2d lt)), .second, .val (.double (FP.l2d tt)), .second, .val (.int rm)] [(.ref A)])) rfl rfl (hb hby dCM_96)
  have f1056 := (f1047.keep Kc1025 nin0).other W1050 (Nat.ne_of_gt lt_A_r1018)
  obtain ⟨cl1054, Ar1054, q1054, S1054, N1054, H1054, G1054⟩ := id f1056
  have hin1054 : ¬ (pl < 0 ∨ cl1054.slots.size ≤ (pl).toNatClampNeg) := (inb_of S1054 ⟨hp0, hr2⟩)
  have hat1054 : cl1054.slots[(pl).toNatClampNeg]? = some (.long (f pl.toNatClampNeg)) := (H1054.at (inb_of S1054 ⟨hp0, hr2⟩) (own_Lget _ hp128 _))
  obtain ⟨cl1057, Ar1057, q1057, S1057, N1057, H1057, G1057⟩ := id f1056
  have hin1057 : ¬ (pl < 0 ∨ cl1057.slots.size ≤ (pl).toNatClampNeg) := (inb_of S1057 ⟨hp0, hr2⟩)
  obtain ⟨T1058, h1058, X1058, e1058, W1058, st1058⟩ := stJ X1053 hx hZ e1053 Ar1057 (j := pl) hin1057 (g := (mkF m 104 #[.val (.ref A), .val (.int pl), .val (.double (FP.l2d lt)), .second, .val (.double (FP.l2d tt)), .second, .val (.int rm)] [(.long ((f pl.toNatClampNeg) + (1 : Int64))), (.int pl), (.ref r1018)])) rfl rfl (hb hby dCM_104)
  have V1058 := Arv.set Ar1057 q1057 S1057 N1057 H1057 G1057 rfl W1058 pl.toNatClampNeg rfl (by rw [own_Llen]; exact hp128)
  rw [own_Lset] at V1058
  have K1058 : Keep h0 h1058 [A, ec, el, q, b, bi, i0, bd, d0, d1] := K1050.wr W1058 (Or.inr sz_r1018)
  have N1058F := Fr.snoc X1058 N1050 g_r1018
  have f1059 := Fw1050.other W1058 (Or.inl (Nat.ne_of_lt lt_A_r1018))
  obtain ⟨T1060, X1060, e1060, st1060⟩ := getF X1058 hx hZ hown (host := "") (Or.inl (wd hw 24 rfl)) Via.refl e1058 f1059 (g := (mkF m 106 #[.val (.ref A), .val (.int pl), .val (.double (FP.l2d lt)), .second, .val (.double (FP.l2d tt)), .second, .val (.int rm)] [(.ref A)])) rfl rfl (hb hby dCM_106)
  have f1063 := (Vr1025.other W1050 (Nat.ne_of_gt lt_A_r1025)).other W1058 (Nat.ne_of_gt lt_r1018_r1025)
  obtain ⟨cl1061, Ar1061, q1061, S1061, N1061, H1061, G1061⟩ := id f1063
  have hin1061 : ¬ (pl < 0 ∨ cl1061.slots.size ≤ (pl).toNatClampNeg) := (inb_of S1061 ⟨hp0, hr2⟩)
  have hat1061 : cl1061.slots[(pl).toNatClampNeg]? = some (.double (FP.l2d (g pl.toNatClampNeg))) := (H1061.at (inb_of S1061 ⟨hp0, hr2⟩) (own_Dget _ hp128 _))
  obtain ⟨cl1064, Ar1064, q1064, S1064, N1064, H1064, G1064⟩ := id f1063
  have hin1064 : ¬ (pl < 0 ∨ cl1064.slots.size ≤ (pl).toNatClampNeg) := (inb_of S1064 ⟨hp0, hr2⟩)
  obtain ⟨T1065, h1065, X1065, e1065, W1065, st1065⟩ := stD X1060 hx hZ e1060 Ar1064 (j := pl) hin1064 (g := (mkF m 114 #[.val (.ref A), .val (.int pl), .val (.double (FP.l2d lt)), .second, .val (.double (FP.l2d tt)), .second, .val (.int rm)] [(.double (FP.l2d ((g pl.toNatClampNeg) + lt))), (.int pl), (.ref r1025)])) rfl rfl (hb hby dCM_114)
  have V1065 := Arv.set Ar1064 q1064 S1064 N1064 H1064 G1064 rfl W1065 pl.toNatClampNeg rfl (by rw [own_Dlen]; exact hp128)
  rw [own_Dset] at V1065
  have K1065 : Keep h0 h1065 [A, ec, el, q, b, bi, i0, bd, d0, d1] := K1058.wr W1065 (Or.inr sz_r1025)
  have N1065F := Fr.snoc X1065 N1058F g_r1025
  have f1068 := ((f1048.wr W1050).wr W1058).wr W1065
  have f1074 := (((((F_A_window.keep Kc1018 nin0).other W1021 (Or.inr (sn32 hw))).keep Kc1025 nin0).other W1050 (Or.inr (sn33 hw))).other W1058 (Or.inl (Nat.ne_of_lt lt_A_r1018))).other W1065 (Or.inl (Nat.ne_of_lt lt_A_r1025))
  have f1080 := (((((F_A_asksBefore.keep Kc1018 nin0).other W1021 (Or.inr (sn36 hw))).keep Kc1025 nin0).other W1050 (Or.inr (sn37 hw))).other W1058 (Or.inl (Nat.ne_of_lt lt_A_r1018))).other W1065 (Or.inl (Nat.ne_of_lt lt_A_r1025))
  have f1086 := (((((F_A_keptUntil.keep Kc1018 nin0).other W1021 (Or.inr (sn41 hw))).keep Kc1025 nin0).other W1050 (Or.inr (sn42 hw))).other W1058 (Or.inl (Nat.ne_of_lt lt_A_r1018))).other W1065 (Or.inl (Nat.ne_of_lt lt_A_r1025))
  have f1088 := (f1052.other W1058 (Or.inl (Nat.ne_of_lt lt_A_r1018))).other W1065 (Or.inl (Nat.ne_of_lt lt_A_r1025))
  have f1089 := f1059.other W1065 (Or.inl (Nat.ne_of_lt lt_A_r1025))
  have f1095 := (((((F_A_arrivalEvents.keep Kc1018 nin0).other W1021 (Or.inr (sn27 hw))).keep Kc1025 nin0).other W1050 (Or.inr (sn28 hw))).other W1058 (Or.inl (Nat.ne_of_lt lt_A_r1018))).other W1065 (Or.inl (Nat.ne_of_lt lt_A_r1025))
  have f1101 := (((((F_A_completionEvents.keep Kc1018 nin0).other W1021 (Or.inr (sn29 hw))).keep Kc1025 nin0).other W1050 (Or.inr (sn30 hw))).other W1058 (Or.inl (Nat.ne_of_lt lt_A_r1018))).other W1065 (Or.inl (Nat.ne_of_lt lt_A_r1025))
  have f1105 := (((f1028.keep Kc1025).wr W1050).wr W1058).wr W1065
  have f1111 := (((((F_qa_size.keep Kc1018 nin0).other W1021 (Or.inl (Ne.symm ne_A_qa))).keep Kc1025 nin0).other W1050 (Or.inl (Ne.symm ne_A_qa))).other W1058 (Or.inl (Nat.ne_of_lt lt_qa_r1018))).other W1065 (Or.inl (Nat.ne_of_lt lt_qa_r1025))
  have f1112 := V1058.other W1065 (Nat.ne_of_lt lt_r1018_r1025)
  have f1116 := (((f1034.keep Kc1025).wr W1050).wr W1058).wr W1065
  have f1122 := (((((F_q_first.keep Kc1018 nin0).other W1021 (Or.inl (Ne.symm ne_A_q))).keep Kc1025 nin0).other W1050 (Or.inl (Ne.symm ne_A_q))).other W1058 (Or.inl (Nat.ne_of_lt lt_q_r1018))).other W1065 (Or.inl (Nat.ne_of_lt lt_q_r1025))
  have f1128 := (((((F_q_last.keep Kc1018 nin0).other W1021 (Or.inl (Ne.symm ne_A_q))).keep Kc1025 nin0).other W1050 (Or.inl (Ne.symm ne_A_q))).other W1058 (Or.inl (Nat.ne_of_lt lt_q_r1018))).other W1065 (Or.inl (Nat.ne_of_lt lt_q_r1025))
  have f1134 := (((((F_q_head.keep Kc1018 nin0).other W1021 (Or.inl (Ne.symm ne_A_q))).keep Kc1025 nin0).other W1050 (Or.inl (Ne.symm ne_A_q))).other W1058 (Or.inl (Nat.ne_of_lt lt_q_r1018))).other W1065 (Or.inl (Nat.ne_of_lt lt_q_r1025))
  have f1140 := (((((F_q_end.keep Kc1018 nin0).other W1021 (Or.inl (Ne.symm ne_A_q))).keep Kc1025 nin0).other W1050 (Or.inl (Ne.symm ne_A_q))).other W1058 (Or.inl (Nat.ne_of_lt lt_q_r1018))).other W1065 (Or.inl (Nat.ne_of_lt lt_q_r1025))
  have f1146 := (((((F_q_size.keep Kc1018 nin0).other W1021 (Or.inl (Ne.symm ne_A_q))).keep Kc1025 nin0).other W1050 (Or.inl (Ne.symm ne_A_q))).other W1058 (Or.inl (Nat.ne_of_lt lt_q_r1018))).other W1065 (Or.inl (Nat.ne_of_lt lt_q_r1025))
  have f1150 := (((f1036.keep Kc1025).wr W1050).wr W1058).wr W1065
  have f1156 := (((((F_b_capacity.keep Kc1018 nin0).other W1021 (Or.inl (Ne.symm ne_A_b))).keep Kc1025 nin0).other W1050 (Or.inl (Ne.symm ne_A_b))).other W1058 (Or.inl (Nat.ne_of_lt lt_b_r1018))).other W1065 (Or.inl (Nat.ne_of_lt lt_b_r1025))
  have f1162 := (((((F_b_ints.keep Kc1018 nin0).other W1021 (Or.inl (Ne.symm ne_A_b))).keep Kc1025 nin0).other W1050 (Or.inl (Ne.symm ne_A_b))).other W1058 (Or.inl (Nat.ne_of_lt lt_b_r1018))).other W1065 (Or.inl (Nat.ne_of_lt lt_b_r1025))
  have f1168 := (((((F_b_doubles.keep Kc1018 nin0).other W1021 (Or.inl (Ne.symm ne_A_b))).keep Kc1025 nin0).other W1050 (Or.inl (Ne.symm ne_A_b))).other W1058 (Or.inl (Nat.ne_of_lt lt_b_r1018))).other W1065 (Or.inl (Nat.ne_of_lt lt_b_r1025))
  have f1172 := (((f1038.keep Kc1025 nin0).other W1050 (Ne.symm ne_A_bi)).other W1058 (Nat.ne_of_lt lt_bi_r1018)).other W1065 (Nat.ne_of_lt lt_bi_r1025)
  have f1176 := (((f1040.keep Kc1025 nin0).other W1050 (Ne.symm ne_A_bd)).other W1058 (Nat.ne_of_lt lt_bd_r1018)).other W1065 (Nat.ne_of_lt lt_bd_r1025)
  have f1180 := (((f1042.keep Kc1025 nin0).other W1050 (Ne.symm ne_A_i0)).other W1058 (Nat.ne_of_lt lt_i0_r1018)).other W1065 (Nat.ne_of_lt lt_i0_r1025)
  have f1184 := (((f1044.keep Kc1025 nin0).other W1050 (Ne.symm ne_A_d0)).other W1058 (Nat.ne_of_lt lt_d0_r1018)).other W1065 (Nat.ne_of_lt lt_d0_r1025)
  have f1188 := (((f1046.keep Kc1025 nin0).other W1050 (Ne.symm ne_A_d1)).other W1058 (Nat.ne_of_lt lt_d1_r1018)).other W1065 (Nat.ne_of_lt lt_d1_r1025)
  obtain ⟨fs, hr, hrun, hended, hW, hsame⟩ := X1065.leave (v := none) (fun _ => rfl)
  refine ⟨_, _, ?_, hrun, hended, _, _, rfl, ?_, ⟨_, rfl⟩, hW, hsame.mono (by decide) (by decide)⟩
  ·refine R953 _ ?_
   show Steps _ _ _ (T951.setTop (mkF m 51 #[.val (.ref A), .val (.int pl), .val (.double (FP.l2d lt)), .second, .val (.double (FP.l2d tt)), .second, .unset] [(.int n), (.int pl)])) _
   refine XS.icmpNo X951.here hx rfl (hb hby dCM_51) rfl (flt hlt).1 ?_
   refine XS.iloadN X951.here hx rfl (hb hby dCM_54) rfl ?_
   refine XS.iconst X951.here hx rfl (hb hby dCM_55) ?_
   refine XS.iadd X951.here hx rfl (hb hby dCM_56) rfl ?_
   show Steps _ _ _ (T951.setTop (mkF m 57 #[.val (.ref A), .val (.int pl), .val (.double (FP.l2d lt)), .second, .val (.double (FP.l2d tt)), .second, .unset] [(.int (pl + (1 : Int32)))])) _
   refine XS.aloadN X951.here hx rfl (hb hby dCM_57) rfl rfl ?_
   refine st1014 _ ?_
   show Steps _ _ _ (T1014.setTop (mkF m 61 #[.val (.ref A), .val (.int pl), .val (.double (FP.l2d lt)), .second, .val (.double (FP.l2d tt)), .second, .unset] [(.ref ec), (.int (pl + (1 : Int32)))])) _
   refine X1014.arraylength hx (by rw [e1014]; exact Ar1015.1) (State.isArrayOf_alike hZ.alike Ar1015.2.1) (g := (mkF m 61 #[.val (.ref A), .val (.int pl), .val (.double (FP.l2d lt)), .second, .val (.double (FP.l2d tt)), .second, .unset] [(.ref ec), (.int (pl + (1 : Int32)))])) rfl rfl (hb hby dCM_61) _ ?_
   rw [len_of S1015 N1015]
   refine XS.iconst X1014.here hx rfl (hb hby dCM_62) ?_
   refine XS.imul X1014.here hx rfl (hb hby dCM_63) rfl ?_
   refine st1016 _ ?_
   show Steps _ _ _ (T1016.setTop (mkF m 67 #[.val (.ref A), .val (.int pl), .val (.double (FP.l2d lt)), .second, .val (.double (FP.l2d tt)), .second, .unset] [(.int rm)])) _
   refine XS.istore X1016.here hx rfl (hb hby dCM_67) rfl (l' := #[.val (.ref A), .val (.int pl), .val (.double (FP.l2d lt)), .second, .val (.double (FP.l2d tt)), .second, .val (.int rm)]) rfl ?_
   refine XS.aloadN X1016.here hx rfl (hb hby dCM_69) rfl rfl ?_
   refine XS.aloadN X1016.here hx rfl (hb hby dCM_70) rfl rfl ?_
   refine st1017 _ ?_
   show Steps _ _ _ (T1017.setTop (mkF m 74 #[.val (.ref A), .val (.int pl), .val (.double (FP.l2d lt)), .second, .val (.double (FP.l2d tt)), .second, .val (.int rm)] [(.ref ec), (.ref A)])) _
   refine XS.iload X1017.here hx rfl (hb hby dCM_74) rfl ?_
   refine st1018 _ ?_
   show Steps _ _ _ (T1018.setTop (mkF m 79 #[.val (.ref A), .val (.int pl), .val (.double (FP.l2d lt)), .second, .val (.double (FP.l2d tt)), .second, .val (.int rm)] [(.ref r1018), (.ref A)])) _
   refine st1021 _ ?_
   refine XS.aloadN X1021.here hx rfl (hb hby dCM_82) rfl rfl ?_
   refine XS.aloadN X1021.here hx rfl (hb hby dCM_83) rfl rfl ?_
   refine st1024 _ ?_
   show Steps _ _ _ (T1024.setTop (mkF m 87 #[.val (.ref A), .val (.int pl), .val (.double (FP.l2d lt)), .second, .val (.double (FP.l2d tt)), .second, .val (.int rm)] [(.ref el), (.ref A)])) _
   refine XS.iload X1024.here hx rfl (hb hby dCM_87) rfl ?_
   refine st1025 _ ?_
   show Steps _ _ _ (T1025.setTop (mkF m 92 #[.val (.ref A), .val (.int pl), .val (.double (FP.l2d lt)), .second, .val (.double (FP.l2d tt)), .second, .val (.int rm)] [(.ref r1025), (.ref A)])) _
   refine st1050 _ ?_
   refine XS.aloadN X1050.here hx rfl (hb hby dCM_95) rfl rfl ?_
   refine st1053 _ ?_
   refine XS.iloadN X1053.here hx rfl (hb hby dCM_99) rfl ?_
   show Steps _ _ _ (T1053.setTop (mkF m 100 #[.val (.ref A), .val (.int pl), .val (.double (FP.l2d lt)), .second, .val (.double (FP.l2d tt)), .second, .val (.int rm)] [(.int pl), (.ref r1018)])) _
   jvm_step X1053.here [X1053.here.top, hx, (hb hby dCM_100), Value.category]
   show Steps _ _ _ (T1053.setTop (mkF m 101 #[.val (.ref A), .val (.int pl), .val (.double (FP.l2d lt)), .second, .val (.double (FP.l2d tt)), .second, .val (.int rm)] [(.int pl), (.ref r1018), (.int pl), (.ref r1018)])) _
   refine X1053.laload hx (j := pl) (v := (.long (f pl.toNatClampNeg))) (by rw [e1053]; exact Ar1054.1) (State.isArrayOf_alike hZ.alike Ar1054.2.1) Ar1054.2.2 hin1054 hat1054 (g := (mkF m 101 #[.val (.ref A), .val (.int pl), .val (.double (FP.l2d lt)), .second, .val (.double (FP.l2d tt)), .second, .val (.int rm)] [(.int pl), (.ref r1018), (.int pl), (.ref r1018)])) rfl rfl (hb hby dCM_101) _ ?_
   refine XS.lconst X1053.here hx rfl (hb hby dCM_102) ?_
   refine XS.ladd X1053.here hx rfl (hb hby dCM_103) rfl ?_
   show Steps _ _ _ (T1053.setTop (mkF m 104 #[.val (.ref A), .val (.int pl), .val (.double (FP.l2d lt)), .second, .val (.double (FP.l2d tt)), .second, .val (.int rm)] [(.long ((f pl.toNatClampNeg) + (1 : Int64))), (.int pl), (.ref r1018)])) _
   refine st1058 _ ?_
   refine XS.aloadN X1058.here hx rfl (hb hby dCM_105) rfl rfl ?_
   refine st1060 _ ?_
   refine XS.iloadN X1060.here hx rfl (hb hby dCM_109) rfl ?_
   show Steps _ _ _ (T1060.setTop (mkF m 110 #[.val (.ref A), .val (.int pl), .val (.double (FP.l2d lt)), .second, .val (.double (FP.l2d tt)), .second, .val (.int rm)] [(.int pl), (.ref r1025)])) _
   jvm_step X1060.here [X1060.here.top, hx, (hb hby dCM_110), Value.category]
   show Steps _ _ _ (T1060.setTop (mkF m 111 #[.val (.ref A), .val (.int pl), .val (.double (FP.l2d lt)), .second, .val (.double (FP.l2d tt)), .second, .val (.int rm)] [(.int pl), (.ref r1025), (.int pl), (.ref r1025)])) _
   refine X1060.daload hx (j := pl) (v := (.double (FP.l2d (g pl.toNatClampNeg)))) (by rw [e1060]; exact Ar1061.1) (State.isArrayOf_alike hZ.alike Ar1061.2.1) Ar1061.2.2 hin1061 hat1061 (g := (mkF m 111 #[.val (.ref A), .val (.int pl), .val (.double (FP.l2d lt)), .second, .val (.double (FP.l2d tt)), .second, .val (.int rm)] [(.int pl), (.ref r1025), (.int pl), (.ref r1025)])) rfl rfl (hb hby dCM_111) _ ?_
   refine XS.dloadN X1060.here hx rfl (hb hby dCM_112) rfl ?_
   refine XS.daddS X1060.here hx rfl (hb hby dCM_113) rfl (v := (FP.l2d ((g pl.toNatClampNeg) + lt))) (nn_w (own_add (hgb _) hlb (by decide) (by decide))) (own_add (hgb _) hlb (by decide) (by decide)) ?_
   show Steps _ _ _ (T1060.setTop (mkF m 114 #[.val (.ref A), .val (.int pl), .val (.double (FP.l2d lt)), .second, .val (.double (FP.l2d tt)), .second, .val (.int rm)] [(.double (FP.l2d ((g pl.toNatClampNeg) + lt))), (.int pl), (.ref r1025)])) _
   refine st1065 _ ?_
   show Steps _ _ _ (T1065.setTop (mkF m 115 #[.val (.ref A), .val (.int pl), .val (.double (FP.l2d lt)), .second, .val (.double (FP.l2d tt)), .second, .val (.int rm)] [])) _
   exact X1065.returnOut hx Bd.returns (hb hby dCM_115) hr
  ·show QCN1 Z A pl lt tt ec el qa q kec kel n f g p1 t1 l1 h0 n0 _ T1065.heap _
   rw [e1065]
   exact ⟨rfl, N1065F, K1065.1, r1018, r1025, kr1018, kr1025, rm, ⟨f1068, f1074, f1080, f1086, f1088, f1089, f1095, f1101, f1105, f1111, f1112, V1065, b, bi, i0, bd, d0, d1, kbi, ki, kbd, kd, f1116, f1122, f1128, f1134, f1140, f1146, f1150, f1156, f1162, f1168, f1172, f1176, f1180, f1184, f1188, lt_A_qa, lt_qa_q, lt_q_b, lt_b_bi, lt_bi_i0, lt_i0_bd, lt_bd_d0, lt_d0_d1, (Nat.ne_of_gt lt_A_r1018), (Nat.ne_of_gt lt_qa_r1018), (Nat.ne_of_gt lt_q_r1018), (Nat.ne_of_gt lt_b_r1018), (Nat.ne_of_gt lt_bi_r1018), (Nat.ne_of_gt lt_i0_r1018), (Nat.ne_of_gt lt_bd_r1018), (Nat.ne_of_gt lt_d0_r1018), (Nat.ne_of_gt lt_d1_r1018), (Nat.ne_of_gt lt_A_r1025), (Nat.ne_of_gt lt_qa_r1025), (Nat.ne_of_gt lt_q_r1025), (Nat.ne_of_gt lt_b_r1025), (Nat.ne_of_gt lt_bi_r1025), (Nat.ne_of_gt lt_i0_r1025), (Nat.ne_of_gt lt_bd_r1025), (Nat.ne_of_gt lt_d0_r1025), (Nat.ne_of_gt lt_d1_r1025), (Nat.ne_of_lt lt_r1018_r1025), g_A, g_r1018, g_r1025, g_q, g_b, g_bi, g_i0, g_bd, g_d0, g_d1⟩, own_nlt hr1, hr2, hr3, hr5⟩
theorem dCM_10 : decode prog_63_method_4_code 10 = .ok (.aload_n 0, 1) := by decide +kernel
theorem dCM_11 : decode prog_63_method_4_code 11 = .ok (.getfield 26, 3) := by decide +kernel
theorem dCM_14 : decode prog_63_method_4_code 14 = .ok (.invokevirtual 42, 3) := by decide +kernel
theorem dCM_17 : decode prog_63_method_4_code 17 = .ok (.aload_n 0, 1) := by decide +kernel
theorem dCM_18 : decode prog_63_method_4_code 18 = .ok (.getfield 26, 3) := by decide +kernel
theorem dCM_21 : decode prog_63_method_4_code 21 = .ok (.iconst 0, 1) := by decide +kernel
theorem dCM_22 : decode prog_63_method_4_code 22 = .ok (.iload_n 1, 1) := by decide +kernel
theorem dCM_23 : decode prog_63_method_4_code 23 = .ok (.invokevirtual 45, 3) := by decide +kernel
theorem dCM_26 : decode prog_63_method_4_code 26 = .ok (.aload_n 0, 1) := by decide +kernel
theorem dCM_27 : decode prog_63_method_4_code 27 = .ok (.getfield 26, 3) := by decide +kernel
theorem dCM_30 : decode prog_63_method_4_code 30 = .ok (.iconst 0, 1) := by decide +kernel
theorem dCM_31 : decode prog_63_method_4_code 31 = .ok (.dload 4, 2) := by decide +kernel
theorem dCM_33 : decode prog_63_method_4_code 33 = .ok (.invokevirtual 48, 3) := by decide +kernel
theorem pd_9 : parseMethodDescriptor "(ID)V" = some ⟨[.int, .double], none⟩ := by decide +kernel
theorem dCM_36 : decode prog_63_method_4_code 36 = .ok (.aload_n 0, 1) := by decide +kernel
theorem dCM_37 : decode prog_63_method_4_code 37 = .ok (.getfield 26, 3) := by decide +kernel
theorem dCM_40 : decode prog_63_method_4_code 40 = .ok (.iconst 1, 1) := by decide +kernel
theorem dCM_41 : decode prog_63_method_4_code 41 = .ok (.dload_n 2, 1) := by decide +kernel
theorem dCM_42 : decode prog_63_method_4_code 42 = .ok (.invokevirtual 48, 3) := by decide +kernel
theorem ef_CK0 (m : MethodId) (x0 : Addr) (x1 : Int32) (x2 : UInt64) (x3 : UInt64) : entryFrame m #[(.ref x0), (.int x1), (.double x2), (.double x3)] 7 = mkF m 0 #[.val (.ref x0), .val (.int x1), .val (.double x2), .second, .val (.double x3), .second, .unset] [] := by first | (simp [entryFrame, mkF, argsToLocals, Value.category]; done) | rfl
def QCK0 (Z : State) (A : Addr) (pl : Int32) (lt : Int64) (tt : Int64) (ec : Addr) (el : Addr) (qa : Addr) (q : Addr) (kec : ClassId) (kel : ClassId) (n : Int32) (f : Nat → Int64) (g : Nat → Int64) (h0 : Heap) (n0 : Nat) (v : Option Value) (h : Heap) (L : List Loc) : Prop := v = none ∧ Fr n0 L ∧ h0.size ≤ h.size ∧ ∃ (ec' el' : Addr) (kec' kel' : ClassId) (n' : Int32), own_S1 Z h n0 A ec' el' qa q kec' kel' n' (own_upd f pl.toNatClampNeg ((f pl.toNatClampNeg) + (1 : Int64))) (own_upd g pl.toNatClampNeg ((g pl.toNatClampNeg) + lt)) pl tt lt ∧ ¬ n' < n ∧ pl < n' ∧ ¬ (128 : Int32) < n' ∧ (n = 16 → ¬ (64 : Int32) < n')
set_option maxRecDepth 65536 in
set_option maxHeartbeats 40000000 in
theorem rmCK0 (l : Launch) (Z : State) (a0 : Array Value) (hw : HW Z a0) (ws : List Jvm.Cond) (A : Addr) (pl : Int32) (lt : Int64) (tt : Int64) (ec : Addr) (el : Addr) (qa : Addr) (q : Addr) (kec : ClassId) (kel : ClassId) (n : Int32) (f : Nat → Int64) (g : Nat → Int64) (h0 : Heap) (n0 : Nat) (Z0 : n0 ≤ h0.size) (S : own_S0 Z h0 n0 A ec el qa q kec kel n f g) (hp0 : ¬ pl < 0) (hp1 : ¬ (63 : Int32) < pl) (hn0 : ¬ n < 16) (hn1 : ¬ (64 : Int32) < n) (hzf : ∀ i, n.toNatClampNeg ≤ i → f i = 0) (hzg : ∀ i, n.toNatClampNeg ≤ i → g i = 0) (hlb : own_B 2147483648 lt) (hgb : ∀ i, own_B 4294967296 (g i)) (htb : own_B 1000 tt) (hk : ¬ 90 < tt) :
  MetFree l (⟨sRA, "completed", "(IDD)V"⟩ : MethodName) (head1 (Jvm.Cond.code (⟨sRA, "completed", "(IDD)V"⟩ : MethodName) prog_63_method_4_code 7 none :: ws) (Rm 4 8 310 55)) (fun a U => a = #[(.ref A), (.int pl), (.double (FP.l2d lt)), (.double (FP.l2d tt))] ∧ Z.Warmed39 U.vm ∧ U.heap = h0) (fun _ _ _ _ _ => True) (fun _ U o U' => ∃ v L, o = .returned v ∧ QCK0 Z A pl lt tt ec el qa q kec kel n f g h0 n0 v U'.heap L ∧ FrameEnd U o U' L (Rm 4 8 310 55).cells (Rm 4 8 310 55).slots) := by
 refine MetFree.of_bodySF (plainFor_of_name pn_com_example_frugal_weir_frugalweir_replay_RecentActivity) hisR ?_
 intro p e s m args below meth c s₁ Bd hml0 hP hK
 obtain ⟨rfl, hZ, hh⟩ := hP
 have hx := Bd.exec
 have hby := Bd.bytes
 have hml : c.maxLocals = 7 := hml0
 have hown : s.vm.findClass sRA = some m.cls := findClass_of_methodNamed Bd.named
 have hnm := (name_of_methodNamed Bd.named Bd.method).1
 have X0 : Stand p l e (Rm 4 8 310 55) s m #[(.ref A), (.int pl), (.double (FP.l2d lt)), (.double (FP.l2d tt))] below meth c s₁ [] 0 0 := Stand.of_body Bd
 have e0 : s₁.heap = h0 := by rw [← hh, Bd.state]; rfl
 have N0 := Fr.nil n0
 have pre0 : ∀ t, Steps p.tables e below (s₁.setTop (mkF m 0 #[.val (.ref A), .val (.int pl), .val (.double (FP.l2d lt)), .second, .val (.double (FP.l2d tt)), .second, .unset] [])) t → Steps p.tables e below (s₁.setTop (entryFrame m #[(.ref A), (.int pl), (.double (FP.l2d lt)), (.double (FP.l2d tt))] 7)) t := fun t k => castTop (ef_CK0 m A pl (FP.l2d lt) (FP.l2d tt)) k
 obtain ⟨E_A, F_A_window, F_A_asksBefore, F_A_keptUntil, F_A_executorCompleted, F_A_executorLatencySum, F_A_arrivalEvents, F_A_completionEvents, E_qa, F_qa_size, V_ec, V_el, dq, es, kes, E_q, F_q_intFields, F_q_doubleFields, F_q_blocks, F_q_first, F_q_last, F_q_spare, F_q_head, F_q_end, F_q_size, E_dq, F_dq_head, F_dq_tail, F_dq_elements, V_es, O_es, c_A_qa, c_qa_q, c_q_dq, c_dq_es, ne_ec_A, ne_ec_qa, ne_ec_q, ne_ec_dq, ne_ec_es, ne_el_A, ne_el_qa, ne_el_q, ne_el_dq, ne_el_es, ne_ec_el, g_A, g_ec, g_el, g_q, g_dq, g_es⟩ := S
 have lt_A_qa : A < qa := c_A_qa
 have ne_A_qa : A ≠ qa := Nat.ne_of_lt lt_A_qa
 have lt_A_q : A < q := Nat.lt_trans lt_A_qa c_qa_q
 have ne_A_q : A ≠ q := Nat.ne_of_lt lt_A_q
 have lt_A_dq : A < dq := Nat.lt_trans lt_A_q c_q_dq
 have ne_A_dq : A ≠ dq := Nat.ne_of_lt lt_A_dq
 have lt_A_es : A < es := Nat.lt_trans lt_A_dq c_dq_es
 have ne_A_es : A ≠ es := Nat.ne_of_lt lt_A_es
 have lt_qa_q : qa < q := c_qa_q
 have ne_qa_q : qa ≠ q := Nat.ne_of_lt lt_qa_q
 have lt_qa_dq : qa < dq := Nat.lt_trans lt_qa_q c_q_dq
 have ne_qa_dq : qa ≠ dq := Nat.ne_of_lt lt_qa_dq
 have lt_qa_es : qa < es := Nat.lt_trans lt_qa_dq c_dq_es
 have ne_qa_es : qa ≠ es := Nat.ne_of_lt lt_qa_es
 have lt_q_dq : q < dq := c_q_dq
 have ne_q_dq : q ≠ dq := Nat.ne_of_lt lt_q_dq
 have lt_q_es : q < es := Nat.lt_trans lt_q_dq c_dq_es
 have ne_q_es : q ≠ es := Nat.ne_of_lt lt_q_es
 have lt_dq_es : dq < es := c_dq_es
 have ne_dq_es : dq ≠ es := Nat.ne_of_lt lt_dq_es
 have K0 := Keep.refl h0 [A, ec, el, q, dq, es]
 have hp128 : pl.toNatClampNeg < 128 := own_pn hp0 (fun q => hp1 (own_tr (by decide) q))
 obtain ⟨T1189, X1189, e1189, st1189⟩ := getF X0 hx hZ hown (host := "") (Or.inl (wd hw 64 rfl)) Via.refl e0 F_A_keptUntil (g := (mkF m 3 #[.val (.ref A), .val (.int pl), .val (.double (FP.l2d lt)), .second, .val (.double (FP.l2d tt)), .second, .unset] [(.ref A), (.double (FP.l2d tt))])) rfl rfl (hb hby dCM_3)
 obtain ⟨T1190, X1190, e1190, st1190⟩ := getF X1189 hx hZ hown (host := "") (Or.inl (wd hw 58 rfl)) Via.refl e1189 F_A_completionEvents (g := (mkF m 11 #[.val (.ref A), .val (.int pl), .val (.double (FP.l2d lt)), .second, .val (.double (FP.l2d tt)), .second, .unset] [(.ref A)])) rfl rfl (hb hby dCM_11)
 obtain ⟨cq1191, kq1191, q1191a, q1191b, q1191c⟩ := isOf hZ e1190 E_q
 obtain ⟨_, _, ⟨T1191, L1191, k1191, n1191⟩, -, X1191, ⟨Lc1191, hQ1191, l1191, y1191, z1191⟩, st1191⟩ := X1190.virtualBack hx (y := (⟨sRQ, "addLast", "()V"⟩ : MethodName)) (z := (⟨sRQ, "addLast", "()V"⟩ : MethodName)) hown (mvT hZ (wd hw 73 rfl)) (mvT hZ (wd hw 74 rfl)) (notFace_of_selects (args := #[]) (mvT hZ (wd hw 76 rfl))) (mvT hZ (wd hw 76 rfl)) (mvT hZ (wd hw 75 rfl)) (by decide) (backOf (W := 0) (rmAL0 l Z a0 hw [] q dq es kes h0 n0 (Nat.le_trans Z0 K0.1) E_q F_q_intFields F_q_doubleFields F_q_blocks F_q_first F_q_last F_q_spare F_q_head F_q_end F_q_size E_dq F_dq_head F_dq_tail F_dq_elements V_es O_es c_q_dq c_dq_es g_q g_dq g_es) hZ (wd hw 77 rfl) (wd hw 28 rfl) (by decide) (by decide)) q1191a q1191c (g := (mkF m 14 #[.val (.ref A), .val (.int pl), .val (.double (FP.l2d lt)), .second, .val (.double (FP.l2d tt)), .second, .unset] [(.ref q)])) rfl (by rw [hml]; rfl) (Steps.refl _) (argsL := []) (rest := []) (lenOf pd_1 rfl) rfl (by show 2 * 0 + _ ≤ _; exact Nat.le_of_eq rfl) (hb hby dCM_14) (fun _ _ => ⟨rfl, e1190, (by decide : 0 + 6 ≤ _), (by decide : 0 + 54 ≤ _)⟩)
 dsimp only [Pt.U, Pt.locs, Pt.cells, Pt.slots] at X1191 l1191 y1191 z1191 st1191 hQ1191
 rw [l1191, y1191, z1191] at X1191
 obtain ⟨hv1191, Nq1191, Kc1191, b, bi, i0, bd, d0, d1, kbi, ki, kbd, kd, Eq1191, Fqfirst1191, Fqlast1191, Fqhead1191, Fqend1191, Fqsize1191, Eb1191, Fbc1191, Fbi1191, Fbd1191, Vbi1191, Vbd1191, Vi01191, Vd01191, Vd11191, sq1191, c01191, c11191, c21191, c31191, c41191⟩ := hQ1191
 rw [hv1191] at st1191
 have K1191 : Keep h0 T1191.heap [A, ec, el, q, dq, es] := K0.trans Kc1191 (allS (P := fun x => x ∈ [A, ec, el, q, dq, es] ∨ h0.size ≤ x) (Or.inl (List.mem_of_getElem? (i := 3) rfl)) (allS (P := fun x => x ∈ [A, ec, el, q, dq, es] ∨ h0.size ≤ x) (Or.inl (List.mem_of_getElem? (i := 4) rfl)) (allS (P := fun x => x ∈ [A, ec, el, q, dq, es] ∨ h0.size ≤ x) (Or.inl (List.mem_of_getElem? (i := 5) rfl)) all0)))
 have lt_A_b : A < b := Nat.lt_of_lt_of_le E_A.lt sq1191
 have lt_A_bi : A < bi := Nat.lt_trans lt_A_b c01191
 have lt_A_i0 : A < i0 := Nat.lt_trans lt_A_bi c11191
 have lt_A_bd : A < bd := Nat.lt_trans lt_A_i0 c21191
 have lt_A_d0 : A < d0 := Nat.lt_trans lt_A_bd c31191
 have lt_A_d1 : A < d1 := Nat.lt_trans lt_A_d0 c41191
 have lt_qa_b : qa < b := Nat.lt_of_lt_of_le E_qa.lt sq1191
 have lt_qa_bi : qa < bi := Nat.lt_trans lt_qa_b c01191
 have lt_qa_i0 : qa < i0 := Nat.lt_trans lt_qa_bi c11191
 have lt_qa_bd : qa < bd := Nat.lt_trans lt_qa_i0 c21191
 have lt_qa_d0 : qa < d0 := Nat.lt_trans lt_qa_bd c31191
 have lt_qa_d1 : qa < d1 := Nat.lt_trans lt_qa_d0 c41191
 have lt_ec_b : ec < b := Nat.lt_of_lt_of_le V_ec.lt sq1191
 have lt_ec_bi : ec < bi := Nat.lt_trans lt_ec_b c01191
 have lt_ec_i0 : ec < i0 := Nat.lt_trans lt_ec_bi c11191
 have lt_ec_bd : ec < bd := Nat.lt_trans lt_ec_i0 c21191
 have lt_ec_d0 : ec < d0 := Nat.lt_trans lt_ec_bd c31191
 have lt_ec_d1 : ec < d1 := Nat.lt_trans lt_ec_d0 c41191
 have lt_el_b : el < b := Nat.lt_of_lt_of_le V_el.lt sq1191
 have lt_el_bi : el < bi := Nat.lt_trans lt_el_b c01191
 have lt_el_i0 : el < i0 := Nat.lt_trans lt_el_bi c11191
 have lt_el_bd : el < bd := Nat.lt_trans lt_el_i0 c21191
 have lt_el_d0 : el < d0 := Nat.lt_trans lt_el_bd c31191
 have lt_el_d1 : el < d1 := Nat.lt_trans lt_el_d0 c41191
 have lt_q_b : q < b := Nat.lt_of_lt_of_le E_q.lt sq1191
 have lt_q_bi : q < bi := Nat.lt_trans lt_q_b c01191
 have lt_q_i0 : q < i0 := Nat.lt_trans lt_q_bi c11191
 have lt_q_bd : q < bd := Nat.lt_trans lt_q_i0 c21191
 have lt_q_d0 : q < d0 := Nat.lt_trans lt_q_bd c31191
 have lt_q_d1 : q < d1 := Nat.lt_trans lt_q_d0 c41191
 have lt_dq_b : dq < b := Nat.lt_of_lt_of_le E_dq.lt sq1191
 have lt_dq_bi : dq < bi := Nat.lt_trans lt_dq_b c01191
 have lt_dq_i0 : dq < i0 := Nat.lt_trans lt_dq_bi c11191
 have lt_dq_bd : dq < bd := Nat.lt_trans lt_dq_i0 c21191
 have lt_dq_d0 : dq < d0 := Nat.lt_trans lt_dq_bd c31191
 have lt_dq_d1 : dq < d1 := Nat.lt_trans lt_dq_d0 c41191
 have lt_es_b : es < b := Nat.lt_of_lt_of_le V_es.lt sq1191
 have lt_es_bi : es < bi := Nat.lt_trans lt_es_b c01191
 have lt_es_i0 : es < i0 := Nat.lt_trans lt_es_bi c11191
 have lt_es_bd : es < bd := Nat.lt_trans lt_es_i0 c21191
 have lt_es_d0 : es < d0 := Nat.lt_trans lt_es_bd c31191
 have lt_es_d1 : es < d1 := Nat.lt_trans lt_es_d0 c41191
 have lt_b_bi : b < bi := c01191
 have lt_b_i0 : b < i0 := Nat.lt_trans lt_b_bi c11191
 have lt_b_bd : b < bd := Nat.lt_trans lt_b_i0 c21191
 have lt_b_d0 : b < d0 := Nat.lt_trans lt_b_bd c31191
 have lt_b_d1 : b < d1 := Nat.lt_trans lt_b_d0 c41191
 have sz_b : h0.size ≤ b := Nat.le_trans K0.1 sq1191
 have g_b : n0 ≤ b := Nat.le_trans Z0 sz_b
 have lt_bi_i0 : bi < i0 := c11191
 have lt_bi_bd : bi < bd := Nat.lt_trans lt_bi_i0 c21191
 have lt_bi_d0 : bi < d0 := Nat.lt_trans lt_bi_bd c31191
 have lt_bi_d1 : bi < d1 := Nat.lt_trans lt_bi_d0 c41191
 have sz_bi : h0.size ≤ bi := Nat.le_of_lt (Nat.lt_of_le_of_lt sz_b c01191)
 have g_bi : n0 ≤ bi := Nat.le_trans Z0 sz_bi
 have lt_i0_bd : i0 < bd := c21191
 have lt_i0_d0 : i0 < d0 := Nat.lt_trans lt_i0_bd c31191
 have lt_i0_d1 : i0 < d1 := Nat.lt_trans lt_i0_d0 c41191
 have sz_i0 : h0.size ≤ i0 := Nat.le_of_lt (Nat.lt_of_le_of_lt sz_bi c11191)
 have g_i0 : n0 ≤ i0 := Nat.le_trans Z0 sz_i0
 have lt_bd_d0 : bd < d0 := c31191
 have lt_bd_d1 : bd < d1 := Nat.lt_trans lt_bd_d0 c41191
 have sz_bd : h0.size ≤ bd := Nat.le_of_lt (Nat.lt_of_le_of_lt sz_i0 c21191)
 have g_bd : n0 ≤ bd := Nat.le_trans Z0 sz_bd
 have lt_d0_d1 : d0 < d1 := c41191
 have sz_d0 : h0.size ≤ d0 := Nat.le_of_lt (Nat.lt_of_le_of_lt sz_bd c31191)
 have g_d0 : n0 ≤ d0 := Nat.le_trans Z0 sz_d0
 have sz_d1 : h0.size ≤ d1 := Nat.le_of_lt (Nat.lt_of_le_of_lt sz_d0 c41191)
 have g_d1 : n0 ≤ d1 := Nat.le_trans Z0 sz_d1
 have N1191 := Fr.app N0 Nq1191
 have f1192 := F_A_completionEvents.keep Kc1191 (ninS ne_A_q (ninS ne_A_dq (ninS ne_A_es nin0)))
 obtain ⟨T1193, X1193, e1193, st1193⟩ := getF X1191 hx hZ hown (host := "") (Or.inl (wd hw 58 rfl)) Via.refl rfl f1192 (g := (mkF m 18 #[.val (.ref A), .val (.int pl), .val (.double (FP.l2d lt)), .second, .val (.double (FP.l2d tt)), .second, .unset] [(.ref A)])) rfl rfl (hb hby dCM_18)
 obtain ⟨cq1194, kq1194, q1194a, q1194b, q1194c⟩ := isOf hZ e1193 Eq1191
 obtain ⟨_, _, ⟨T1194, L1194, k1194, n1194⟩, -, X1194, ⟨Lc1194, hQ1194, l1194, y1194, z1194⟩, st1194⟩ := X1193.virtualBack hx (y := (⟨sRQ, "setLastInt", "(II)V"⟩ : MethodName)) (z := (⟨sRQ, "setLastInt", "(II)V"⟩ : MethodName)) hown (mvT hZ (wd hw 127 rfl)) (mvT hZ (wd hw 128 rfl)) (notFace_of_selects (args := #[]) (mvT hZ (wd hw 130 rfl))) (mvT hZ (wd hw 130 rfl)) (mvT hZ (wd hw 129 rfl)) (by decide) (backOf (W := 0) (rmSI1 l Z a0 hw [] q pl b bi i0 kbi ki (0 : Int32) (0 : Int32) T1191.heap n0 (Nat.le_trans Z0 K1191.1) Fqlast1191 Fqend1191 Fbi1191 Vbi1191 Vi01191 g_i0) hZ (wd hw 131 rfl) (wd hw 28 rfl) (by decide) (by decide)) q1194a q1194c (g := (mkF m 23 #[.val (.ref A), .val (.int pl), .val (.double (FP.l2d lt)), .second, .val (.double (FP.l2d tt)), .second, .unset] [(.int pl), (.int (0 : Int32)), (.ref q)])) rfl (by rw [hml]; rfl) (Steps.refl _) (argsL := [(.int (0 : Int32)), (.int pl)]) (rest := []) (lenOf pd_2 rfl) rfl (by show 2 * 0 + _ ≤ _; exact Nat.le_of_eq rfl) (hb hby dCM_23) (fun _ _ => ⟨rfl, e1193, (by decide : 6 + 0 ≤ _), (by decide : 54 + 0 ≤ _)⟩)
 dsimp only [Pt.U, Pt.locs, Pt.cells, Pt.slots] at X1194 l1194 y1194 z1194 st1194 hQ1194
 rw [l1194, y1194, z1194] at X1194
 obtain ⟨hv1194, Nq1194, Kc1194, Vi1194⟩ := hQ1194
 rw [hv1194] at st1194
 have K1194 : Keep h0 T1194.heap [A, ec, el, q, dq, es] := K1191.trans Kc1194 (allS (P := fun x => x ∈ [A, ec, el, q, dq, es] ∨ h0.size ≤ x) (Or.inr sz_i0) all0)
 have N1194 := Fr.app N1191 Nq1194
 have f1195 := f1192.keep Kc1194 (ninL lt_A_i0)
 obtain ⟨T1196, X1196, e1196, st1196⟩ := getF X1194 hx hZ hown (host := "") (Or.inl (wd hw 58 rfl)) Via.refl rfl f1195 (g := (mkF m 27 #[.val (.ref A), .val (.int pl), .val (.double (FP.l2d lt)), .second, .val (.double (FP.l2d tt)), .second, .unset] [(.ref A)])) rfl rfl (hb hby dCM_27)
 have f1198 := Fqlast1191.keep Kc1194 (ninL lt_q_i0)
 have f1199 := Fqend1191.keep Kc1194 (ninL lt_q_i0)
 have f1200 := Fbd1191.keep Kc1194 (ninL lt_b_i0)
 have f1201 := Vbd1191.keep Kc1194 (ninG lt_i0_bd)
 have f1202 := Vd01191.keep Kc1194 (ninG lt_i0_d0)
 have f1203 := Eq1191.keep Kc1194
 obtain ⟨cq1197, kq1197, q1197a, q1197b, q1197c⟩ := isOf hZ e1196 f1203
 obtain ⟨_, _, ⟨T1197, L1197, k1197, n1197⟩, -, X1197, ⟨Lc1197, hQ1197, l1197, y1197, z1197⟩, st1197⟩ := X1196.virtualBack hx (y := (⟨sRQ, "setLastDouble", "(ID)V"⟩ : MethodName)) (z := (⟨sRQ, "setLastDouble", "(ID)V"⟩ : MethodName)) hown (mvT hZ (wd hw 133 rfl)) (mvT hZ (wd hw 134 rfl)) (notFace_of_selects (args := #[]) (mvT hZ (wd hw 136 rfl))) (mvT hZ (wd hw 136 rfl)) (mvT hZ (wd hw 135 rfl)) (by decide) (backOf (W := 0) (rmSD01 l Z a0 hw [] q tt b bd d0 d1 kbd kd 0 0 T1194.heap n0 (Nat.le_trans Z0 K1194.1) f1198 f1199 f1200 f1201 f1202 g_d0) hZ (wd hw 137 rfl) (wd hw 28 rfl) (by decide) (by decide)) q1197a q1197c (g := (mkF m 33 #[.val (.ref A), .val (.int pl), .val (.double (FP.l2d lt)), .second, .val (.double (FP.l2d tt)), .second, .unset] [(.double (FP.l2d tt)), (.int (0 : Int32)), (.ref q)])) rfl (by rw [hml]; rfl) (Steps.refl _) (argsL := [(.int (0 : Int32)), (.double (FP.l2d tt))]) (rest := []) (lenOf pd_9 rfl) rfl (by show 2 * 0 + _ ≤ _; exact Nat.le_of_eq rfl) (hb hby dCM_33) (fun _ _ => ⟨rfl, e1196, (by decide : 6 + 0 ≤ _), (by decide : 54 + 0 ≤ _)⟩)
 dsimp only [Pt.U, Pt.locs, Pt.cells, Pt.slots] at X1197 l1197 y1197 z1197 st1197 hQ1197
 rw [l1197, y1197, z1197] at X1197
 obtain ⟨hv1197, Nq1197, Kc1197, Vd1197⟩ := hQ1197
 rw [hv1197] at st1197
 have K1197 : Keep h0 T1197.heap [A, ec, el, q, dq, es] := K1194.trans Kc1197 (allS (P := fun x => x ∈ [A, ec, el, q, dq, es] ∨ h0.size ≤ x) (Or.inr sz_d0) all0)
 have N1197 := Fr.app N1194 Nq1197
 have f1204 := f1195.keep Kc1197 (ninL lt_A_d0)
 obtain ⟨T1205, X1205, e1205, st1205⟩ := getF X1197 hx hZ hown (host := "") (Or.inl (wd hw 58 rfl)) Via.refl rfl f1204 (g := (mkF m 37 #[.val (.ref A), .val (.int pl), .val (.double (FP.l2d lt)), .second, .val (.double (FP.l2d tt)), .second, .unset] [(.ref A)])) rfl rfl (hb hby dCM_37)
 have f1207 := f1198.keep Kc1197 (ninL lt_q_d0)
 have f1208 := f1199.keep Kc1197 (ninL lt_q_d0)
 have f1209 := f1200.keep Kc1197 (ninL lt_b_d0)
 have f1210 := f1201.keep Kc1197 (ninL lt_bd_d0)
 have f1212 := (Vd11191.keep Kc1194 (ninG lt_i0_d1)).keep Kc1197 (ninG lt_d0_d1)
 have f1213 := f1203.keep Kc1197
 obtain ⟨cq1206, kq1206, q1206a, q1206b, q1206c⟩ := isOf hZ e1205 f1213
 obtain ⟨_, _, ⟨T1206, L1206, k1206, n1206⟩, -, X1206, ⟨Lc1206, hQ1206, l1206, y1206, z1206⟩, st1206⟩ := X1205.virtualBack hx (y := (⟨sRQ, "setLastDouble", "(ID)V"⟩ : MethodName)) (z := (⟨sRQ, "setLastDouble", "(ID)V"⟩ : MethodName)) hown (mvT hZ (wd hw 133 rfl)) (mvT hZ (wd hw 134 rfl)) (notFace_of_selects (args := #[]) (mvT hZ (wd hw 136 rfl))) (mvT hZ (wd hw 136 rfl)) (mvT hZ (wd hw 135 rfl)) (by decide) (backOf (W := 0) (rmSD11 l Z a0 hw [] q lt b bd d0 d1 kbd kd 0 0 T1197.heap n0 (Nat.le_trans Z0 K1197.1) f1207 f1208 f1209 f1210 f1212 g_d1) hZ (wd hw 137 rfl) (wd hw 28 rfl) (by decide) (by decide)) q1206a q1206c (g := (mkF m 42 #[.val (.ref A), .val (.int pl), .val (.double (FP.l2d lt)), .second, .val (.double (FP.l2d tt)), .second, .unset] [(.double (FP.l2d lt)), (.int (1 : Int32)), (.ref q)])) rfl (by rw [hml]; rfl) (Steps.refl _) (argsL := [(.int (1 : Int32)), (.double (FP.l2d lt))]) (rest := []) (lenOf pd_9 rfl) rfl (by show 2 * 0 + _ ≤ _; exact Nat.le_of_eq rfl) (hb hby dCM_42) (fun _ _ => ⟨rfl, e1205, (by decide : 6 + 0 ≤ _), (by decide : 54 + 0 ≤ _)⟩)
 dsimp only [Pt.U, Pt.locs, Pt.cells, Pt.slots] at X1206 l1206 y1206 z1206 st1206 hQ1206
 rw [l1206, y1206, z1206] at X1206
 obtain ⟨hv1206, Nq1206, Kc1206, Vd1206⟩ := hQ1206
 rw [hv1206] at st1206
 have K1206 : Keep h0 T1206.heap [A, ec, el, q, dq, es] := K1197.trans Kc1206 (allS (P := fun x => x ∈ [A, ec, el, q, dq, es] ∨ h0.size ≤ x) (Or.inr sz_d1) all0)
 have N1206 := Fr.app N1197 Nq1206
 have f1217 := (((F_A_executorCompleted.keep Kc1191 (ninS ne_A_q (ninS ne_A_dq (ninS ne_A_es nin0)))).keep Kc1194 (ninL lt_A_i0)).keep Kc1197 (ninL lt_A_d0)).keep Kc1206 (ninL lt_A_d1)
 obtain ⟨T1218, X1218, e1218, st1218⟩ := getF X1206 hx hZ hown (host := "") (Or.inl (wd hw 21 rfl)) Via.refl rfl f1217 (g := (mkF m 47 #[.val (.ref A), .val (.int pl), .val (.double (FP.l2d lt)), .second, .val (.double (FP.l2d tt)), .second, .unset] [(.ref A), (.int pl)])) rfl rfl (hb hby dCM_47)
 have f1223 := (((V_ec.keep Kc1191 (ninS ne_ec_q (ninS ne_ec_dq (ninS ne_ec_es nin0)))).keep Kc1194 (ninL lt_ec_i0)).keep Kc1197 (ninL lt_ec_d0)).keep Kc1206 (ninL lt_ec_d1)
 obtain ⟨cl1219, Ar1219, -, S1219, N1219, -, -⟩ := id f1223
 have R1224 : ∀ t, Steps p.tables e below (T1218.setTop (mkF m 51 #[.val (.ref A), .val (.int pl), .val (.double (FP.l2d lt)), .second, .val (.double (FP.l2d tt)), .second, .unset] [(.int n), (.int pl)])) t → Steps p.tables e below (s₁.setTop (entryFrame m #[(.ref A), (.int pl), (.double (FP.l2d lt)), (.double (FP.l2d tt))] 7)) t := by
  intro t kt
  refine pre0 _ ?_
  show Steps _ _ _ (s₁.setTop (mkF m 0 #[.val (.ref A), .val (.int pl), .val (.double (FP.l2d lt)), .second, .val (.double (FP.l2d tt)), .second, .unset] [])) _
  refine XS.dload X0.here hx rfl (hb hby dCM_0) rfl ?_
  refine XS.aloadN X0.here hx rfl (hb hby dCM_2) rfl rfl ?_
  refine st1189 _ ?_
  refine XS.dcmpS X1189.here hx rfl (hb hby dCM_6) rfl (v := (lcmpW tt 90)) (own_cmpw htb own_b90 (by decide) (by decide) _) ?_
  show Steps _ _ _ (T1189.setTop (mkF m 7 #[.val (.ref A), .val (.int pl), .val (.double (FP.l2d lt)), .second, .val (.double (FP.l2d tt)), .second, .unset] [(.int (lcmpW tt 90))])) _
  refine XS.ifNo X1189.here hx rfl (hb hby dCM_7) rfl ((if0 _ _).trans (flt (fun q => hk ((lw_gt _ _).mp q))).2.2.1) ?_
  refine XS.aloadN X1189.here hx rfl (hb hby dCM_10) rfl rfl ?_
  refine st1190 _ ?_
  refine st1191.trans ?_
  show Steps _ _ _ (T1191.setTop (mkF m 17 #[.val (.ref A), .val (.int pl), .val (.double (FP.l2d lt)), .second, .val (.double (FP.l2d tt)), .second, .unset] [])) _
  refine XS.aloadN X1191.here hx rfl (hb hby dCM_17) rfl rfl ?_
  refine st1193 _ ?_
  refine XS.iconst X1193.here hx rfl (hb hby dCM_21) ?_
  refine XS.iloadN X1193.here hx rfl (hb hby dCM_22) rfl ?_
  refine st1194.trans ?_
  show Steps _ _ _ (T1194.setTop (mkF m 26 #[.val (.ref A), .val (.int pl), .val (.double (FP.l2d lt)), .second, .val (.double (FP.l2d tt)), .second, .unset] [])) _
  refine XS.aloadN X1194.here hx rfl (hb hby dCM_26) rfl rfl ?_
  refine st1196 _ ?_
  refine XS.iconst X1196.here hx rfl (hb hby dCM_30) ?_
  refine XS.dload X1196.here hx rfl (hb hby dCM_31) rfl ?_
  refine st1197.trans ?_
  show Steps _ _ _ (T1197.setTop (mkF m 36 #[.val (.ref A), .val (.int pl), .val (.double (FP.l2d lt)), .second, .val (.double (FP.l2d tt)), .second, .unset] [])) _
  refine XS.aloadN X1197.here hx rfl (hb hby dCM_36) rfl rfl ?_
  refine st1205 _ ?_
  refine XS.iconst X1205.here hx rfl (hb hby dCM_40) ?_
  refine XS.dloadN X1205.here hx rfl (hb hby dCM_41) rfl ?_
  refine st1206.trans ?_
  show Steps _ _ _ (T1206.setTop (mkF m 45 #[.val (.ref A), .val (.int pl), .val (.double (FP.l2d lt)), .second, .val (.double (FP.l2d tt)), .second, .unset] [])) _
  refine XS.iloadN X1206.here hx rfl (hb hby dCM_45) rfl ?_
  refine XS.aloadN X1206.here hx rfl (hb hby dCM_46) rfl rfl ?_
  refine st1218 _ ?_
  show Steps _ _ _ (T1218.setTop (mkF m 50 #[.val (.ref A), .val (.int pl), .val (.double (FP.l2d lt)), .second, .val (.double (FP.l2d tt)), .second, .unset] [(.ref ec), (.int pl)])) _
  refine X1218.arraylength hx (by rw [e1218]; exact Ar1219.1) (State.isArrayOf_alike hZ.alike Ar1219.2.1) (g := (mkF m 50 #[.val (.ref A), .val (.int pl), .val (.double (FP.l2d lt)), .second, .val (.double (FP.l2d tt)), .second, .unset] [(.ref ec), (.int pl)])) rfl rfl (hb hby dCM_50) _ ?_
  rw [len_of S1219 N1219]
  show Steps _ _ _ (T1218.setTop (mkF m 51 #[.val (.ref A), .val (.int pl), .val (.double (FP.l2d lt)), .second, .val (.double (FP.l2d tt)), .second, .unset] [(.int n), (.int pl)])) _
  exact kt
 have hnn : ¬ n < 0 := own_n0 hn0
 by_cases hlt : pl < n
 ·
  obtain ⟨T1225, X1225, e1225, st1225⟩ := getF X1218 hx hZ hown (host := "") (Or.inl (wd hw 21 rfl)) Via.refl e1218 f1217 (g := (mkF m 96 #[.val (.ref A), .val (.int pl), .val (.double (FP.l2d lt)), .second, .val (.double (FP.l2d tt)), .second, .unset] [(.ref A)])) rfl rfl (hb hby dCM_96)
  obtain ⟨cl1226, Ar1226, q1226, S1226, N1226, H1226, G1226⟩ := id f1223
  have hin1226 : ¬ (pl < 0 ∨ cl1226.slots.size ≤ (pl).toNatClampNeg) := (inb_of S1226 ⟨hp0, hlt⟩)
  have hat1226 : cl1226.slots[(pl).toNatClampNeg]? = some (.long (f pl.toNatClampNeg)) := (H1226.at (inb_of S1226 ⟨hp0, hlt⟩) (own_Lget _ hp128 _))
  obtain ⟨cl1227, Ar1227, q1227, S1227, N1227, H1227, G1227⟩ := id f1223
  have hin1227 : ¬ (pl < 0 ∨ cl1227.slots.size ≤ (pl).toNatClampNeg) := (inb_of S1227 ⟨hp0, hlt⟩)
  obtain ⟨T1228, h1228, X1228, e1228, W1228, st1228⟩ := stJ X1225 hx hZ e1225 Ar1227 (j := pl) hin1227 (g := (mkF m 104 #[.val (.ref A), .val (.int pl), .val (.double (FP.l2d lt)), .second, .val (.double (FP.l2d tt)), .second, .unset] [(.long ((f pl.toNatClampNeg) + (1 : Int64))), (.int pl), (.ref ec)])) rfl rfl (hb hby dCM_104)
  have V1228 := Arv.set Ar1227 q1227 S1227 N1227 H1227 G1227 rfl W1228 pl.toNatClampNeg rfl (by rw [own_Llen]; exact hp128)
  rw [own_Lset] at V1228
  have K1228 : Keep h0 h1228 [A, ec, el, q, dq, es] := K1206.wr W1228 (Or.inl (List.mem_of_getElem? (i := 1) rfl))
  have N1228F := Fr.snoc X1228 N1206 g_ec
  have f1233 := ((((F_A_executorLatencySum.keep Kc1191 (ninS ne_A_q (ninS ne_A_dq (ninS ne_A_es nin0)))).keep Kc1194 (ninL lt_A_i0)).keep Kc1197 (ninL lt_A_d0)).keep Kc1206 (ninL lt_A_d1)).other W1228 (Or.inl (Ne.symm ne_ec_A))
  obtain ⟨T1234, X1234, e1234, st1234⟩ := getF X1228 hx hZ hown (host := "") (Or.inl (wd hw 24 rfl)) Via.refl e1228 f1233 (g := (mkF m 106 #[.val (.ref A), .val (.int pl), .val (.double (FP.l2d lt)), .second, .val (.double (FP.l2d tt)), .second, .unset] [(.ref A)])) rfl rfl (hb hby dCM_106)
  have f1240 := ((((V_el.keep Kc1191 (ninS ne_el_q (ninS ne_el_dq (ninS ne_el_es nin0)))).keep Kc1194 (ninL lt_el_i0)).keep Kc1197 (ninL lt_el_d0)).keep Kc1206 (ninL lt_el_d1)).other W1228 (Ne.symm ne_ec_el)
  obtain ⟨cl1235, Ar1235, q1235, S1235, N1235, H1235, G1235⟩ := id f1240
  have hin1235 : ¬ (pl < 0 ∨ cl1235.slots.size ≤ (pl).toNatClampNeg) := (inb_of S1235 ⟨hp0, hlt⟩)
  have hat1235 : cl1235.slots[(pl).toNatClampNeg]? = some (.double (FP.l2d (g pl.toNatClampNeg))) := (H1235.at (inb_of S1235 ⟨hp0, hlt⟩) (own_Dget _ hp128 _))
  obtain ⟨cl1241, Ar1241, q1241, S1241, N1241, H1241, G1241⟩ := id f1240
  have hin1241 : ¬ (pl < 0 ∨ cl1241.slots.size ≤ (pl).toNatClampNeg) := (inb_of S1241 ⟨hp0, hlt⟩)
  obtain ⟨T1242, h1242, X1242, e1242, W1242, st1242⟩ := stD X1234 hx hZ e1234 Ar1241 (j := pl) hin1241 (g := (mkF m 114 #[.val (.ref A), .val (.int pl), .val (.double (FP.l2d lt)), .second, .val (.double (FP.l2d tt)), .second, .unset] [(.double (FP.l2d ((g pl.toNatClampNeg) + lt))), (.int pl), (.ref el)])) rfl rfl (hb hby dCM_114)
  have V1242 := Arv.set Ar1241 q1241 S1241 N1241 H1241 G1241 rfl W1242 pl.toNatClampNeg rfl (by rw [own_Dlen]; exact hp128)
  rw [own_Dset] at V1242
  have K1242 : Keep h0 h1242 [A, ec, el, q, dq, es] := K1228.wr W1242 (Or.inl (List.mem_of_getElem? (i := 2) rfl))
  have N1242F := Fr.snoc X1242 N1228F g_el
  have f1248 := (((((E_A.keep Kc1191).keep Kc1194).keep Kc1197).keep Kc1206).wr W1228).wr W1242
  have f1254 := (((((F_A_window.keep Kc1191 (ninS ne_A_q (ninS ne_A_dq (ninS ne_A_es nin0)))).keep Kc1194 (ninL lt_A_i0)).keep Kc1197 (ninL lt_A_d0)).keep Kc1206 (ninL lt_A_d1)).other W1228 (Or.inl (Ne.symm ne_ec_A))).other W1242 (Or.inl (Ne.symm ne_el_A))
  have f1260 := (((((F_A_asksBefore.keep Kc1191 (ninS ne_A_q (ninS ne_A_dq (ninS ne_A_es nin0)))).keep Kc1194 (ninL lt_A_i0)).keep Kc1197 (ninL lt_A_d0)).keep Kc1206 (ninL lt_A_d1)).other W1228 (Or.inl (Ne.symm ne_ec_A))).other W1242 (Or.inl (Ne.symm ne_el_A))
  have f1266 := (((((F_A_keptUntil.keep Kc1191 (ninS ne_A_q (ninS ne_A_dq (ninS ne_A_es nin0)))).keep Kc1194 (ninL lt_A_i0)).keep Kc1197 (ninL lt_A_d0)).keep Kc1206 (ninL lt_A_d1)).other W1228 (Or.inl (Ne.symm ne_ec_A))).other W1242 (Or.inl (Ne.symm ne_el_A))
  have f1268 := (f1217.other W1228 (Or.inl (Ne.symm ne_ec_A))).other W1242 (Or.inl (Ne.symm ne_el_A))
  have f1269 := f1233.other W1242 (Or.inl (Ne.symm ne_el_A))
  have f1275 := (((((F_A_arrivalEvents.keep Kc1191 (ninS ne_A_q (ninS ne_A_dq (ninS ne_A_es nin0)))).keep Kc1194 (ninL lt_A_i0)).keep Kc1197 (ninL lt_A_d0)).keep Kc1206 (ninL lt_A_d1)).other W1228 (Or.inl (Ne.symm ne_ec_A))).other W1242 (Or.inl (Ne.symm ne_el_A))
  have f1278 := ((f1204.keep Kc1206 (ninL lt_A_d1)).other W1228 (Or.inl (Ne.symm ne_ec_A))).other W1242 (Or.inl (Ne.symm ne_el_A))
  have f1284 := (((((E_qa.keep Kc1191).keep Kc1194).keep Kc1197).keep Kc1206).wr W1228).wr W1242
  have f1290 := (((((F_qa_size.keep Kc1191 (ninS ne_qa_q (ninS ne_qa_dq (ninS ne_qa_es nin0)))).keep Kc1194 (ninL lt_qa_i0)).keep Kc1197 (ninL lt_qa_d0)).keep Kc1206 (ninL lt_qa_d1)).other W1228 (Or.inl (Ne.symm ne_ec_qa))).other W1242 (Or.inl (Ne.symm ne_el_qa))
  have f1291 := V1228.other W1242 ne_ec_el
  have f1294 := ((f1213.keep Kc1206).wr W1228).wr W1242
  have f1299 := ((((Fqfirst1191.keep Kc1194 (ninL lt_q_i0)).keep Kc1197 (ninL lt_q_d0)).keep Kc1206 (ninL lt_q_d1)).other W1228 (Or.inl (Ne.symm ne_ec_q))).other W1242 (Or.inl (Ne.symm ne_el_q))
  have f1302 := ((f1207.keep Kc1206 (ninL lt_q_d1)).other W1228 (Or.inl (Ne.symm ne_ec_q))).other W1242 (Or.inl (Ne.symm ne_el_q))
  have f1307 := ((((Fqhead1191.keep Kc1194 (ninL lt_q_i0)).keep Kc1197 (ninL lt_q_d0)).keep Kc1206 (ninL lt_q_d1)).other W1228 (Or.inl (Ne.symm ne_ec_q))).other W1242 (Or.inl (Ne.symm ne_el_q))
  have f1310 := ((f1208.keep Kc1206 (ninL lt_q_d1)).other W1228 (Or.inl (Ne.symm ne_ec_q))).other W1242 (Or.inl (Ne.symm ne_el_q))
  have f1315 := ((((Fqsize1191.keep Kc1194 (ninL lt_q_i0)).keep Kc1197 (ninL lt_q_d0)).keep Kc1206 (ninL lt_q_d1)).other W1228 (Or.inl (Ne.symm ne_ec_q))).other W1242 (Or.inl (Ne.symm ne_el_q))
  have f1320 := ((((Eb1191.keep Kc1194).keep Kc1197).keep Kc1206).wr W1228).wr W1242
  have f1325 := ((((Fbc1191.keep Kc1194 (ninL lt_b_i0)).keep Kc1197 (ninL lt_b_d0)).keep Kc1206 (ninL lt_b_d1)).other W1228 (Or.inl (Nat.ne_of_gt lt_ec_b))).other W1242 (Or.inl (Nat.ne_of_gt lt_el_b))
  have f1330 := ((((Fbi1191.keep Kc1194 (ninL lt_b_i0)).keep Kc1197 (ninL lt_b_d0)).keep Kc1206 (ninL lt_b_d1)).other W1228 (Or.inl (Nat.ne_of_gt lt_ec_b))).other W1242 (Or.inl (Nat.ne_of_gt lt_el_b))
  have f1333 := ((f1209.keep Kc1206 (ninL lt_b_d1)).other W1228 (Or.inl (Nat.ne_of_gt lt_ec_b))).other W1242 (Or.inl (Nat.ne_of_gt lt_el_b))
  have f1338 := ((((Vbi1191.keep Kc1194 (ninL lt_bi_i0)).keep Kc1197 (ninL lt_bi_d0)).keep Kc1206 (ninL lt_bi_d1)).other W1228 (Nat.ne_of_gt lt_ec_bi)).other W1242 (Nat.ne_of_gt lt_el_bi)
  have f1341 := ((f1210.keep Kc1206 (ninL lt_bd_d1)).other W1228 (Nat.ne_of_gt lt_ec_bd)).other W1242 (Nat.ne_of_gt lt_el_bd)
  have f1345 := (((Vi1194.keep Kc1197 (ninL lt_i0_d0)).keep Kc1206 (ninL lt_i0_d1)).other W1228 (Nat.ne_of_gt lt_ec_i0)).other W1242 (Nat.ne_of_gt lt_el_i0)
  have f1348 := ((Vd1197.keep Kc1206 (ninL lt_d0_d1)).other W1228 (Nat.ne_of_gt lt_ec_d0)).other W1242 (Nat.ne_of_gt lt_el_d0)
  have f1350 := (Vd1206.other W1228 (Nat.ne_of_gt lt_ec_d1)).other W1242 (Nat.ne_of_gt lt_el_d1)
  obtain ⟨fs, hr, hrun, hended, hW, hsame⟩ := X1242.leave (v := none) (fun _ => rfl)
  refine ⟨_, _, ?_, hrun, hended, _, _, rfl, ?_, ⟨_, rfl⟩, hW, hsame.mono (by decide) (by decide)⟩
  ·refine R1224 _ ?_
   show Steps _ _ _ (T1218.setTop (mkF m 51 #[.val (.ref A), .val (.int pl), .val (.double (FP.l2d lt)), .second, .val (.double (FP.l2d tt)), .second, .unset] [(.int n), (.int pl)])) _
   refine XS.icmpYes X1218.here hx rfl (pc0 := 51) (pc' := 95) rfl (hb hby dCM_51) rfl (tlt hlt).1 (by decide) (by decide) ?_
   refine XS.aloadN X1218.here hx rfl (hb hby dCM_95) rfl rfl ?_
   refine st1225 _ ?_
   refine XS.iloadN X1225.here hx rfl (hb hby dCM_99) rfl ?_
   show Steps _ _ _ (T1225.setTop (mkF m 100 #[.val (.ref A), .val (.int pl), .val (.double (FP.l2d lt)), .second, .val (.double (FP.l2d tt)), .second, .unset] [(.int pl), (.ref ec)])) _
   jvm_step X1225.here [X1225.here.top, hx, (hb hby dCM_100), Value.category]
   show Steps _ _ _ (T1225.setTop (mkF m 101 #[.val (.ref A), .val (.int pl), .val (.double (FP.l2d lt)), .second, .val (.double (FP.l2d tt)), .second, .unset] [(.int pl), (.ref ec), (.int pl), (.ref ec)])) _
   refine X1225.laload hx (j := pl) (v := (.long (f pl.toNatClampNeg))) (by rw [e1225]; exact Ar1226.1) (State.isArrayOf_alike hZ.alike Ar1226.2.1) Ar1226.2.2 hin1226 hat1226 (g := (mkF m 101 #[.val (.ref A), .val (.int pl), .val (.double (FP.l2d lt)), .second, .val (.double (FP.l2d tt)), .second, .unset] [(.int pl), (.ref ec), (.int pl), (.ref ec)])) rfl rfl (hb hby dCM_101) _ ?_
   refine XS.lconst X1225.here hx rfl (hb hby dCM_102) ?_
   refine XS.ladd X1225.here hx rfl (hb hby dCM_103) rfl ?_
   show Steps _ _ _ (T1225.setTop (mkF m 104 #[.val (.ref A), .val (.int pl), .val (.double (FP.l2d lt)), .second, .val (.double (FP.l2d tt)), .second, .unset] [(.long ((f pl.toNatClampNeg) + (1 : Int64))), (.int pl), (.ref ec)])) _
   refine st1228 _ ?_
   refine XS.aloadN X1228.here hx rfl (hb hby dCM_105) rfl rfl ?_
   refine st1234 _ ?_
   refine XS.iloadN X1234.here hx rfl (hb hby dCM_109) rfl ?_
   show Steps _ _ _ (T1234.setTop (mkF m 110 #[.val (.ref A), .val (.int pl), .val (.double (FP.l2d lt)), .second, .val (.double (FP.l2d tt)), .second, .unset] [(.int pl), (.ref el)])) _
   jvm_step X1234.here [X1234.here.top, hx, (hb hby dCM_110), Value.category]
   show Steps _ _ _ (T1234.setTop (mkF m 111 #[.val (.ref A), .val (.int pl), .val (.double (FP.l2d lt)), .second, .val (.double (FP.l2d tt)), .second, .unset] [(.int pl), (.ref el), (.int pl), (.ref el)])) _
   refine X1234.daload hx (j := pl) (v := (.double (FP.l2d (g pl.toNatClampNeg)))) (by rw [e1234]; exact Ar1235.1) (State.isArrayOf_alike hZ.alike Ar1235.2.1) Ar1235.2.2 hin1235 hat1235 (g := (mkF m 111 #[.val (.ref A), .val (.int pl), .val (.double (FP.l2d lt)), .second, .val (.double (FP.l2d tt)), .second, .unset] [(.int pl), (.ref el), (.int pl), (.ref el)])) rfl rfl (hb hby dCM_111) _ ?_
   refine XS.dloadN X1234.here hx rfl (hb hby dCM_112) rfl ?_
   refine XS.daddS X1234.here hx rfl (hb hby dCM_113) rfl (v := (FP.l2d ((g pl.toNatClampNeg) + lt))) (nn_w (own_add (hgb _) hlb (by decide) (by decide))) (own_add (hgb _) hlb (by decide) (by decide)) ?_
   show Steps _ _ _ (T1234.setTop (mkF m 114 #[.val (.ref A), .val (.int pl), .val (.double (FP.l2d lt)), .second, .val (.double (FP.l2d tt)), .second, .unset] [(.double (FP.l2d ((g pl.toNatClampNeg) + lt))), (.int pl), (.ref el)])) _
   refine st1242 _ ?_
   show Steps _ _ _ (T1242.setTop (mkF m 115 #[.val (.ref A), .val (.int pl), .val (.double (FP.l2d lt)), .second, .val (.double (FP.l2d tt)), .second, .unset] [])) _
   exact X1242.returnOut hx Bd.returns (hb hby dCM_115) hr
  ·show QCK0 Z A pl lt tt ec el qa q kec kel n f g h0 n0 _ T1242.heap _
   rw [e1242]
   exact ⟨rfl, N1242F, K1242.1, ec, el, kec, kel, n, ⟨f1248, f1254, f1260, f1266, f1268, f1269, f1275, f1278, f1284, f1290, f1291, V1242, b, bi, i0, bd, d0, d1, kbi, ki, kbd, kd, f1294, f1299, f1302, f1307, f1310, f1315, f1320, f1325, f1330, f1333, f1338, f1341, f1345, f1348, f1350, lt_A_qa, lt_qa_q, lt_q_b, lt_b_bi, lt_bi_i0, lt_i0_bd, lt_bd_d0, lt_d0_d1, ne_ec_A, ne_ec_qa, ne_ec_q, (Nat.ne_of_lt lt_ec_b), (Nat.ne_of_lt lt_ec_bi), (Nat.ne_of_lt lt_ec_i0), (Nat.ne_of_lt lt_ec_bd), (Nat.ne_of_lt lt_ec_d0), (Nat.ne_of_lt lt_ec_d1), ne_el_A, ne_el_qa, ne_el_q, (Nat.ne_of_lt lt_el_b), (Nat.ne_of_lt lt_el_bi), (Nat.ne_of_lt lt_el_i0), (Nat.ne_of_lt lt_el_bd), (Nat.ne_of_lt lt_el_d0), (Nat.ne_of_lt lt_el_d1), ne_ec_el, g_A, g_ec, g_el, g_q, g_b, g_bi, g_i0, g_bd, g_d0, g_d1⟩, own_nirr n, hlt, (fun q => hn1 (own_tr (by decide) q)), (fun _ => hn1)⟩
 ·
  obtain ⟨rm, hrm⟩ : ∃ z, own_max (pl + (1 : Int32)) (n * (2 : Int32)) = z := ⟨_, rfl⟩
  obtain ⟨hr1, hr2, hr3, hr4, hr5⟩ := own_rm hp0 hp1 hn0 hn1 hlt
  rw [hrm] at hr1 hr2 hr3 hr4 hr5
  obtain ⟨T1351, X1351, e1351, st1351⟩ := getF X1218 hx hZ hown (host := "") (Or.inl (wd hw 21 rfl)) Via.refl e1218 f1217 (g := (mkF m 58 #[.val (.ref A), .val (.int pl), .val (.double (FP.l2d lt)), .second, .val (.double (FP.l2d tt)), .second, .unset] [(.ref A), (.int (pl + (1 : Int32)))])) rfl rfl (hb hby dCM_58)
  obtain ⟨cl1352, Ar1352, -, S1352, N1352, -, -⟩ := id f1223
  obtain ⟨_, _, ⟨T1353, L1353, k1353, n1353⟩, -, X1353, ⟨Lc1353, hQ1353, l1353, y1353, z1353⟩, st1353⟩ := Jvm.LawKit.callS X1351 hx (y := (⟨"java/lang/Math", "max", "(II)I"⟩ : MethodName)) hown (mvT hZ (wd hw 145 rfl)) (mvT hZ (wd hw 83 rfl)) (mvT hZ (wd hw 3 rfl)) (mvT hZ (wd hw 84 rfl)) (by decide) (backOf (W := 0) (rmMX l Z a0 hw [] (pl + (1 : Int32)) (n * (2 : Int32)) T1206.heap n0 (Nat.le_trans Z0 K1206.1) ) hZ (wd hw 84 rfl) (wd hw 3 rfl) (by decide) (by decide)) (g := (mkF m 64 #[.val (.ref A), .val (.int pl), .val (.double (FP.l2d lt)), .second, .val (.double (FP.l2d tt)), .second, .unset] [(.int (n * (2 : Int32))), (.int (pl + (1 : Int32)))])) rfl (by rw [hml]; rfl) (argsL := [(.int (pl + (1 : Int32))), (.int (n * (2 : Int32)))]) (rest := []) (lenOf pd_4 rfl) rfl (by show 2 * 0 + _ ≤ _; exact Nat.le_of_eq rfl) (hb hby dCM_64) (fun _ _ => ⟨rfl, e1351, (by decide : 6 + 0 ≤ _), (by decide : 54 + 0 ≤ _)⟩)
  dsimp only [Pt.U, Pt.locs, Pt.cells, Pt.slots] at X1353 l1353 y1353 z1353 st1353 hQ1353
  rw [l1353, y1353, z1353] at X1353
  obtain ⟨hv1353, Nq1353, eq1353⟩ := hQ1353
  rw [hv1353] at st1353
  have N1353 := Fr.app N1206 Nq1353
  rw [hrm] at st1353
  obtain ⟨T1354, X1354, e1354, st1354⟩ := getF X1353 hx hZ hown (host := "") (Or.inl (wd hw 21 rfl)) Via.refl eq1353 f1217 (g := (mkF m 71 #[.val (.ref A), .val (.int pl), .val (.double (FP.l2d lt)), .second, .val (.double (FP.l2d tt)), .second, .val (.int rm)] [(.ref A), (.ref A)])) rfl rfl (hb hby dCM_71)
  have f1359 := (((E_A.keep Kc1191).keep Kc1194).keep Kc1197).keep Kc1206
  have f1363 := (((E_qa.keep Kc1191).keep Kc1194).keep Kc1197).keep Kc1206
  have f1367 := (((V_el.keep Kc1191 (ninS ne_el_q (ninS ne_el_dq (ninS ne_el_es nin0)))).keep Kc1194 (ninL lt_el_i0)).keep Kc1197 (ninL lt_el_d0)).keep Kc1206 (ninL lt_el_d1)
  have f1368 := f1213.keep Kc1206
  have f1372 := (((E_dq.keep Kc1191).keep Kc1194).keep Kc1197).keep Kc1206
  have f1375 := ((Eb1191.keep Kc1194).keep Kc1197).keep Kc1206
  have f1378 := ((Vbi1191.keep Kc1194 (ninL lt_bi_i0)).keep Kc1197 (ninL lt_bi_d0)).keep Kc1206 (ninL lt_bi_d1)
  have f1379 := f1210.keep Kc1206 (ninL lt_bd_d1)
  have f1381 := (Vi1194.keep Kc1197 (ninL lt_i0_d0)).keep Kc1206 (ninL lt_i0_d1)
  have f1382 := Vd1197.keep Kc1206 (ninL lt_d0_d1)
  obtain ⟨_, _, ⟨T1355, L1355, k1355, n1355⟩, -, X1355, ⟨Lc1355, hQ1355, l1355, y1355, z1355⟩, st1355⟩ := Jvm.LawKit.callS X1354 hx (y := (⟨"java/util/Arrays", "copyOf", "([JI)[J"⟩ : MethodName)) hown (mvT hZ (wd hw 146 rfl)) (mvT hZ (wd hw 147 rfl)) (mvT hZ (wd hw 148 rfl)) (mvT hZ (wd hw 149 rfl)) (by decide) (backOf (W := 1) (rmCPJ l Z a0 hw [] ec rm kec n f T1206.heap n0 (Nat.le_trans Z0 K1206.1) f1223 hzf hr1 hr3 hr4 hnn) hZ (wd hw 149 rfl) (wd hw 148 rfl) (by decide) (by decide)) (g := (mkF m 76 #[.val (.ref A), .val (.int pl), .val (.double (FP.l2d lt)), .second, .val (.double (FP.l2d tt)), .second, .val (.int rm)] [(.int rm), (.ref ec), (.ref A)])) rfl (by rw [hml]; rfl) (argsL := [(.ref ec), (.int rm)]) (rest := [(.ref A)]) (lenOf pd_7 rfl) rfl (by show 2 * 0 + _ ≤ _; exact Nat.le_of_eq rfl) (hb hby dCM_76) (fun _ _ => ⟨rfl, e1354, (by decide : 6 + 1 ≤ _), (by decide : 54 + 128 ≤ _)⟩)
  dsimp only [Pt.U, Pt.locs, Pt.cells, Pt.slots] at X1355 l1355 y1355 z1355 st1355 hQ1355
  rw [l1355, y1355, z1355] at X1355
  obtain ⟨r1355, kr1355, hv1355, Nq1355, Kc1355, Vr1355, szq1355⟩ := hQ1355
  rw [hv1355] at st1355
  have K1355 : Keep h0 T1355.heap [A, ec, el, q, dq, es] := K1206.trans Kc1355 all0
  have lt_A_r1355 : A < r1355 := Nat.lt_of_lt_of_le f1359.lt szq1355
  have lt_qa_r1355 : qa < r1355 := Nat.lt_of_lt_of_le f1363.lt szq1355
  have lt_ec_r1355 : ec < r1355 := Nat.lt_of_lt_of_le f1223.lt szq1355
  have lt_el_r1355 : el < r1355 := Nat.lt_of_lt_of_le f1367.lt szq1355
  have lt_q_r1355 : q < r1355 := Nat.lt_of_lt_of_le f1368.lt szq1355
  have lt_dq_r1355 : dq < r1355 := Nat.lt_of_lt_of_le f1372.lt szq1355
  have lt_b_r1355 : b < r1355 := Nat.lt_of_lt_of_le f1375.lt szq1355
  have lt_bi_r1355 : bi < r1355 := Nat.lt_of_lt_of_le f1378.lt szq1355
  have lt_bd_r1355 : bd < r1355 := Nat.lt_of_lt_of_le f1379.lt szq1355
  have lt_i0_r1355 : i0 < r1355 := Nat.lt_of_lt_of_le f1381.lt szq1355
  have lt_d0_r1355 : d0 < r1355 := Nat.lt_of_lt_of_le f1382.lt szq1355
  have lt_d1_r1355 : d1 < r1355 := Nat.lt_of_lt_of_le Vd1206.lt szq1355
  have sz_r1355 : h0.size ≤ r1355 := Nat.le_trans K1206.1 szq1355
  have g_r1355 : n0 ≤ r1355 := Nat.le_trans Z0 sz_r1355
  have N1355 := Fr.app N1353 Nq1355
  have f1383 := f1359.keep Kc1355
  have f1384 := f1217.keep Kc1355 nin0
  obtain ⟨T1385, h1385, X1385, e1385, W1385, st1385⟩ := putF X1355 hx hZ hown (host := "") (Or.inl (wd hw 21 rfl)) Via.refl rfl f1384 f1383 (Or.inl (wd hw 22 rfl)) (wd hw 10 rfl) (ty := (.array .long)) (by decide) rfl rfl (g := (mkF m 79 #[.val (.ref A), .val (.int pl), .val (.double (FP.l2d lt)), .second, .val (.double (FP.l2d tt)), .second, .val (.int rm)] [(.ref r1355), (.ref A)])) rfl rfl (hb hby dCM_79)
  have Fw1385 := f1384.same W1385
  have K1385 : Keep h0 h1385 [A, ec, el, q, dq, es] := K1355.wr W1385 (Or.inl (List.mem_of_getElem? (i := 0) rfl))
  have N1385 := Fr.snoc X1385 N1355 g_A
  have f1391 := (((((F_A_executorLatencySum.keep Kc1191 (ninS ne_A_q (ninS ne_A_dq (ninS ne_A_es nin0)))).keep Kc1194 (ninL lt_A_i0)).keep Kc1197 (ninL lt_A_d0)).keep Kc1206 (ninL lt_A_d1)).keep Kc1355 nin0).other W1385 (Or.inr (sn26 hw))
  obtain ⟨T1392, X1392, e1392, st1392⟩ := getF X1385 hx hZ hown (host := "") (Or.inl (wd hw 24 rfl)) Via.refl e1385 f1391 (g := (mkF m 84 #[.val (.ref A), .val (.int pl), .val (.double (FP.l2d lt)), .second, .val (.double (FP.l2d tt)), .second, .val (.int rm)] [(.ref A), (.ref A)])) rfl rfl (hb hby dCM_84)
  have f1394 := f1383.wr W1385
  have f1396 := (f1363.keep Kc1355).wr W1385
  have f1398 := (f1223.keep Kc1355 nin0).other W1385 ne_ec_A
  have f1400 := (f1367.keep Kc1355 nin0).other W1385 ne_el_A
  have f1402 := (f1368.keep Kc1355).wr W1385
  have f1404 := (f1372.keep Kc1355).wr W1385
  have f1406 := (f1375.keep Kc1355).wr W1385
  have f1408 := (f1378.keep Kc1355 nin0).other W1385 (Nat.ne_of_gt lt_A_bi)
  have f1410 := (f1379.keep Kc1355 nin0).other W1385 (Nat.ne_of_gt lt_A_bd)
  have f1412 := (f1381.keep Kc1355 nin0).other W1385 (Nat.ne_of_gt lt_A_i0)
  have f1414 := (f1382.keep Kc1355 nin0).other W1385 (Nat.ne_of_gt lt_A_d0)
  have f1416 := (Vd1206.keep Kc1355 nin0).other W1385 (Nat.ne_of_gt lt_A_d1)
  have f1417 := Vr1355.other W1385 (Nat.ne_of_gt lt_A_r1355)
  obtain ⟨_, _, ⟨T1393, L1393, k1393, n1393⟩, -, X1393, ⟨Lc1393, hQ1393, l1393, y1393, z1393⟩, st1393⟩ := Jvm.LawKit.callS X1392 hx (y := (⟨"java/util/Arrays", "copyOf", "([DI)[D"⟩ : MethodName)) hown (mvT hZ (wd hw 155 rfl)) (mvT hZ (wd hw 156 rfl)) (mvT hZ (wd hw 148 rfl)) (mvT hZ (wd hw 157 rfl)) (by decide) (backOf (W := 1) (rmCPD l Z a0 hw [] el rm kel n g h1385 n0 (Nat.le_trans Z0 K1385.1) f1400 hzg hr1 hr3 hr4 hnn) hZ (wd hw 157 rfl) (wd hw 148 rfl) (by decide) (by decide)) (g := (mkF m 89 #[.val (.ref A), .val (.int pl), .val (.double (FP.l2d lt)), .second, .val (.double (FP.l2d tt)), .second, .val (.int rm)] [(.int rm), (.ref el), (.ref A)])) rfl (by rw [hml]; rfl) (argsL := [(.ref el), (.int rm)]) (rest := [(.ref A)]) (lenOf pd_8 rfl) rfl (by show 2 * 0 + _ ≤ _; exact Nat.le_of_eq rfl) (hb hby dCM_89) (fun _ _ => ⟨rfl, e1392, (by decide : 7 + 1 ≤ _), (by decide : 182 + 128 ≤ _)⟩)
  dsimp only [Pt.U, Pt.locs, Pt.cells, Pt.slots] at X1393 l1393 y1393 z1393 st1393 hQ1393
  rw [l1393, y1393, z1393] at X1393
  obtain ⟨r1393, kr1393, hv1393, Nq1393, Kc1393, Vr1393, szq1393⟩ := hQ1393
  rw [hv1393] at st1393
  have K1393 : Keep h0 T1393.heap [A, ec, el, q, dq, es] := K1385.trans Kc1393 all0
  have lt_A_r1393 : A < r1393 := Nat.lt_of_lt_of_le f1394.lt szq1393
  have lt_qa_r1393 : qa < r1393 := Nat.lt_of_lt_of_le f1396.lt szq1393
  have lt_ec_r1393 : ec < r1393 := Nat.lt_of_lt_of_le f1398.lt szq1393
  have lt_el_r1393 : el < r1393 := Nat.lt_of_lt_of_le f1400.lt szq1393
  have lt_q_r1393 : q < r1393 := Nat.lt_of_lt_of_le f1402.lt szq1393
  have lt_dq_r1393 : dq < r1393 := Nat.lt_of_lt_of_le f1404.lt szq1393
  have lt_b_r1393 : b < r1393 := Nat.lt_of_lt_of_le f1406.lt szq1393
  have lt_bi_r1393 : bi < r1393 := Nat.lt_of_lt_of_le f1408.lt szq1393
  have lt_bd_r1393 : bd < r1393 := Nat.lt_of_lt_of_le f1410.lt szq1393
  have lt_i0_r1393 : i0 < r1393 := Nat.lt_of_lt_of_le f1412.lt szq1393
  have lt_d0_r1393 : d0 < r1393 := Nat.lt_of_lt_of_le f1414.lt szq1393
  have lt_d1_r1393 : d1 < r1393 := Nat.lt_of_lt_of_le f1416.lt szq1393
  have lt_r1355_r1393 : r1355 < r1393 := Nat.lt_of_lt_of_le f1417.lt szq1393
  have sz_r1393 : h0.size ≤ r1393 := Nat.le_trans K1385.1 szq1393
  have g_r1393 : n0 ≤ r1393 := Nat.le_trans Z0 sz_r1393
  have N1393 := Fr.app N1385 Nq1393
  have f1418 := f1394.keep Kc1393
  have f1419 := f1391.keep Kc1393 nin0
  obtain ⟨T1420, h1420, X1420, e1420, W1420, st1420⟩ := putF X1393 hx hZ hown (host := "") (Or.inl (wd hw 24 rfl)) Via.refl rfl f1419 f1418 (Or.inl (wd hw 25 rfl)) (wd hw 10 rfl) (ty := (.array .double)) (by decide) rfl rfl (g := (mkF m 92 #[.val (.ref A), .val (.int pl), .val (.double (FP.l2d lt)), .second, .val (.double (FP.l2d tt)), .second, .val (.int rm)] [(.ref r1393), (.ref A)])) rfl rfl (hb hby dCM_92)
  have Fw1420 := f1419.same W1420
  have K1420 : Keep h0 h1420 [A, ec, el, q, dq, es] := K1393.wr W1420 (Or.inl (List.mem_of_getElem? (i := 0) rfl))
  have N1420 := Fr.snoc X1420 N1393 g_A
  have f1422 := (Fw1385.keep Kc1393 nin0).other W1420 (Or.inr (sn60 hw))
  obtain ⟨T1423, X1423, e1423, st1423⟩ := getF X1420 hx hZ hown (host := "") (Or.inl (wd hw 21 rfl)) Via.refl e1420 f1422 (g := (mkF m 96 #[.val (.ref A), .val (.int pl), .val (.double (FP.l2d lt)), .second, .val (.double (FP.l2d tt)), .second, .val (.int rm)] [(.ref A)])) rfl rfl (hb hby dCM_96)
  have f1426 := (f1417.keep Kc1393 nin0).other W1420 (Nat.ne_of_gt lt_A_r1355)
  obtain ⟨cl1424, Ar1424, q1424, S1424, N1424, H1424, G1424⟩ := id f1426
  have hin1424 : ¬ (pl < 0 ∨ cl1424.slots.size ≤ (pl).toNatClampNeg) := (inb_of S1424 ⟨hp0, hr2⟩)
  have hat1424 : cl1424.slots[(pl).toNatClampNeg]? = some (.long (f pl.toNatClampNeg)) := (H1424.at (inb_of S1424 ⟨hp0, hr2⟩) (own_Lget _ hp128 _))
  obtain ⟨cl1427, Ar1427, q1427, S1427, N1427, H1427, G1427⟩ := id f1426
  have hin1427 : ¬ (pl < 0 ∨ cl1427.slots.size ≤ (pl).toNatClampNeg) := (inb_of S1427 ⟨hp0, hr2⟩)
  obtain ⟨T1428, h1428, X1428, e1428, W1428, st1428⟩ := stJ X1423 hx hZ e1423 Ar1427 (j := pl) hin1427 (g := (mkF m 104 #[.val (.ref A), .val (.int pl), .val (.double (FP.l2d lt)), .second, .val (.double (FP.l2d tt)), .second, .val (.int rm)] [(.long ((f pl.toNatClampNeg) + (1 : Int64))), (.int pl), (.ref r1355)])) rfl rfl (hb hby dCM_104)
  have V1428 := Arv.set Ar1427 q1427 S1427 N1427 H1427 G1427 rfl W1428 pl.toNatClampNeg rfl (by rw [own_Llen]; exact hp128)
  rw [own_Lset] at V1428
  have K1428 : Keep h0 h1428 [A, ec, el, q, dq, es] := K1420.wr W1428 (Or.inr sz_r1355)
  have N1428F := Fr.snoc X1428 N1420 g_r1355
  have f1429 := Fw1420.other W1428 (Or.inl (Nat.ne_of_lt lt_A_r1355))
  obtain ⟨T1430, X1430, e1430, st1430⟩ := getF X1428 hx hZ hown (host := "") (Or.inl (wd hw 24 rfl)) Via.refl e1428 f1429 (g := (mkF m 106 #[.val (.ref A), .val (.int pl), .val (.double (FP.l2d lt)), .second, .val (.double (FP.l2d tt)), .second, .val (.int rm)] [(.ref A)])) rfl rfl (hb hby dCM_106)
  have f1433 := (Vr1393.other W1420 (Nat.ne_of_gt lt_A_r1393)).other W1428 (Nat.ne_of_gt lt_r1355_r1393)
  obtain ⟨cl1431, Ar1431, q1431, S1431, N1431, H1431, G1431⟩ := id f1433
  have hin1431 : ¬ (pl < 0 ∨ cl1431.slots.size ≤ (pl).toNatClampNeg) := (inb_of S1431 ⟨hp0, hr2⟩)
  have hat1431 : cl1431.slots[(pl).toNatClampNeg]? = some (.double (FP.l2d (g pl.toNatClampNeg))) := (H1431.at (inb_of S1431 ⟨hp0, hr2⟩) (own_Dget _ hp128 _))
  obtain ⟨cl1434, Ar1434, q1434, S1434, N1434, H1434, G1434⟩ := id f1433
  have hin1434 : ¬ (pl < 0 ∨ cl1434.slots.size ≤ (pl).toNatClampNeg) := (inb_of S1434 ⟨hp0, hr2⟩)
  obtain ⟨T1435, h1435, X1435, e1435, W1435, st1435⟩ := stD X1430 hx hZ e1430 Ar1434 (j := pl) hin1434 (g := (mkF m 114 #[.val (.ref A), .val (.int pl), .val (.double (FP.l2d lt)), .second, .val (.double (FP.l2d tt)), .second, .val (.int rm)] [(.double (FP.l2d ((g pl.toNatClampNeg) + lt))), (.int pl), (.ref r1393)])) rfl rfl (hb hby dCM_114)
  have V1435 := Arv.set Ar1434 q1434 S1434 N1434 H1434 G1434 rfl W1435 pl.toNatClampNeg rfl (by rw [own_Dlen]; exact hp128)
  rw [own_Dset] at V1435
  have K1435 : Keep h0 h1435 [A, ec, el, q, dq, es] := K1428.wr W1435 (Or.inr sz_r1393)
  have N1435F := Fr.snoc X1435 N1428F g_r1393
  have f1438 := ((f1418.wr W1420).wr W1428).wr W1435
  have f1448 := (((((((((F_A_window.keep Kc1191 (ninS ne_A_q (ninS ne_A_dq (ninS ne_A_es nin0)))).keep Kc1194 (ninL lt_A_i0)).keep Kc1197 (ninL lt_A_d0)).keep Kc1206 (ninL lt_A_d1)).keep Kc1355 nin0).other W1385 (Or.inr (sn32 hw))).keep Kc1393 nin0).other W1420 (Or.inr (sn33 hw))).other W1428 (Or.inl (Nat.ne_of_lt lt_A_r1355))).other W1435 (Or.inl (Nat.ne_of_lt lt_A_r1393))
  have f1458 := (((((((((F_A_asksBefore.keep Kc1191 (ninS ne_A_q (ninS ne_A_dq (ninS ne_A_es nin0)))).keep Kc1194 (ninL lt_A_i0)).keep Kc1197 (ninL lt_A_d0)).keep Kc1206 (ninL lt_A_d1)).keep Kc1355 nin0).other W1385 (Or.inr (sn36 hw))).keep Kc1393 nin0).other W1420 (Or.inr (sn37 hw))).other W1428 (Or.inl (Nat.ne_of_lt lt_A_r1355))).other W1435 (Or.inl (Nat.ne_of_lt lt_A_r1393))
  have f1468 := (((((((((F_A_keptUntil.keep Kc1191 (ninS ne_A_q (ninS ne_A_dq (ninS ne_A_es nin0)))).keep Kc1194 (ninL lt_A_i0)).keep Kc1197 (ninL lt_A_d0)).keep Kc1206 (ninL lt_A_d1)).keep Kc1355 nin0).other W1385 (Or.inr (sn41 hw))).keep Kc1393 nin0).other W1420 (Or.inr (sn42 hw))).other W1428 (Or.inl (Nat.ne_of_lt lt_A_r1355))).other W1435 (Or.inl (Nat.ne_of_lt lt_A_r1393))
  have f1470 := (f1422.other W1428 (Or.inl (Nat.ne_of_lt lt_A_r1355))).other W1435 (Or.inl (Nat.ne_of_lt lt_A_r1393))
  have f1471 := f1429.other W1435 (Or.inl (Nat.ne_of_lt lt_A_r1393))
  have f1481 := (((((((((F_A_arrivalEvents.keep Kc1191 (ninS ne_A_q (ninS ne_A_dq (ninS ne_A_es nin0)))).keep Kc1194 (ninL lt_A_i0)).keep Kc1197 (ninL lt_A_d0)).keep Kc1206 (ninL lt_A_d1)).keep Kc1355 nin0).other W1385 (Or.inr (sn27 hw))).keep Kc1393 nin0).other W1420 (Or.inr (sn28 hw))).other W1428 (Or.inl (Nat.ne_of_lt lt_A_r1355))).other W1435 (Or.inl (Nat.ne_of_lt lt_A_r1393))
  have f1488 := ((((((f1204.keep Kc1206 (ninL lt_A_d1)).keep Kc1355 nin0).other W1385 (Or.inr (sn29 hw))).keep Kc1393 nin0).other W1420 (Or.inr (sn30 hw))).other W1428 (Or.inl (Nat.ne_of_lt lt_A_r1355))).other W1435 (Or.inl (Nat.ne_of_lt lt_A_r1393))
  have f1492 := (((f1396.keep Kc1393).wr W1420).wr W1428).wr W1435
  have f1502 := (((((((((F_qa_size.keep Kc1191 (ninS ne_qa_q (ninS ne_qa_dq (ninS ne_qa_es nin0)))).keep Kc1194 (ninL lt_qa_i0)).keep Kc1197 (ninL lt_qa_d0)).keep Kc1206 (ninL lt_qa_d1)).keep Kc1355 nin0).other W1385 (Or.inl (Ne.symm ne_A_qa))).keep Kc1393 nin0).other W1420 (Or.inl (Ne.symm ne_A_qa))).other W1428 (Or.inl (Nat.ne_of_lt lt_qa_r1355))).other W1435 (Or.inl (Nat.ne_of_lt lt_qa_r1393))
  have f1503 := V1428.other W1435 (Nat.ne_of_lt lt_r1355_r1393)
  have f1507 := (((f1402.keep Kc1393).wr W1420).wr W1428).wr W1435
  have f1516 := ((((((((Fqfirst1191.keep Kc1194 (ninL lt_q_i0)).keep Kc1197 (ninL lt_q_d0)).keep Kc1206 (ninL lt_q_d1)).keep Kc1355 nin0).other W1385 (Or.inl (Ne.symm ne_A_q))).keep Kc1393 nin0).other W1420 (Or.inl (Ne.symm ne_A_q))).other W1428 (Or.inl (Nat.ne_of_lt lt_q_r1355))).other W1435 (Or.inl (Nat.ne_of_lt lt_q_r1393))
  have f1523 := ((((((f1207.keep Kc1206 (ninL lt_q_d1)).keep Kc1355 nin0).other W1385 (Or.inl (Ne.symm ne_A_q))).keep Kc1393 nin0).other W1420 (Or.inl (Ne.symm ne_A_q))).other W1428 (Or.inl (Nat.ne_of_lt lt_q_r1355))).other W1435 (Or.inl (Nat.ne_of_lt lt_q_r1393))
  have f1532 := ((((((((Fqhead1191.keep Kc1194 (ninL lt_q_i0)).keep Kc1197 (ninL lt_q_d0)).keep Kc1206 (ninL lt_q_d1)).keep Kc1355 nin0).other W1385 (Or.inl (Ne.symm ne_A_q))).keep Kc1393 nin0).other W1420 (Or.inl (Ne.symm ne_A_q))).other W1428 (Or.inl (Nat.ne_of_lt lt_q_r1355))).other W1435 (Or.inl (Nat.ne_of_lt lt_q_r1393))
  have f1539 := ((((((f1208.keep Kc1206 (ninL lt_q_d1)).keep Kc1355 nin0).other W1385 (Or.inl (Ne.symm ne_A_q))).keep Kc1393 nin0).other W1420 (Or.inl (Ne.symm ne_A_q))).other W1428 (Or.inl (Nat.ne_of_lt lt_q_r1355))).other W1435 (Or.inl (Nat.ne_of_lt lt_q_r1393))
  have f1548 := ((((((((Fqsize1191.keep Kc1194 (ninL lt_q_i0)).keep Kc1197 (ninL lt_q_d0)).keep Kc1206 (ninL lt_q_d1)).keep Kc1355 nin0).other W1385 (Or.inl (Ne.symm ne_A_q))).keep Kc1393 nin0).other W1420 (Or.inl (Ne.symm ne_A_q))).other W1428 (Or.inl (Nat.ne_of_lt lt_q_r1355))).other W1435 (Or.inl (Nat.ne_of_lt lt_q_r1393))
  have f1552 := (((f1406.keep Kc1393).wr W1420).wr W1428).wr W1435
  have f1561 := ((((((((Fbc1191.keep Kc1194 (ninL lt_b_i0)).keep Kc1197 (ninL lt_b_d0)).keep Kc1206 (ninL lt_b_d1)).keep Kc1355 nin0).other W1385 (Or.inl (Nat.ne_of_gt lt_A_b))).keep Kc1393 nin0).other W1420 (Or.inl (Nat.ne_of_gt lt_A_b))).other W1428 (Or.inl (Nat.ne_of_lt lt_b_r1355))).other W1435 (Or.inl (Nat.ne_of_lt lt_b_r1393))
  have f1570 := ((((((((Fbi1191.keep Kc1194 (ninL lt_b_i0)).keep Kc1197 (ninL lt_b_d0)).keep Kc1206 (ninL lt_b_d1)).keep Kc1355 nin0).other W1385 (Or.inl (Nat.ne_of_gt lt_A_b))).keep Kc1393 nin0).other W1420 (Or.inl (Nat.ne_of_gt lt_A_b))).other W1428 (Or.inl (Nat.ne_of_lt lt_b_r1355))).other W1435 (Or.inl (Nat.ne_of_lt lt_b_r1393))
  have f1577 := ((((((f1209.keep Kc1206 (ninL lt_b_d1)).keep Kc1355 nin0).other W1385 (Or.inl (Nat.ne_of_gt lt_A_b))).keep Kc1393 nin0).other W1420 (Or.inl (Nat.ne_of_gt lt_A_b))).other W1428 (Or.inl (Nat.ne_of_lt lt_b_r1355))).other W1435 (Or.inl (Nat.ne_of_lt lt_b_r1393))
  have f1581 := (((f1408.keep Kc1393 nin0).other W1420 (Nat.ne_of_gt lt_A_bi)).other W1428 (Nat.ne_of_lt lt_bi_r1355)).other W1435 (Nat.ne_of_lt lt_bi_r1393)
  have f1585 := (((f1410.keep Kc1393 nin0).other W1420 (Nat.ne_of_gt lt_A_bd)).other W1428 (Nat.ne_of_lt lt_bd_r1355)).other W1435 (Nat.ne_of_lt lt_bd_r1393)
  have f1589 := (((f1412.keep Kc1393 nin0).other W1420 (Nat.ne_of_gt lt_A_i0)).other W1428 (Nat.ne_of_lt lt_i0_r1355)).other W1435 (Nat.ne_of_lt lt_i0_r1393)
  have f1593 := (((f1414.keep Kc1393 nin0).other W1420 (Nat.ne_of_gt lt_A_d0)).other W1428 (Nat.ne_of_lt lt_d0_r1355)).other W1435 (Nat.ne_of_lt lt_d0_r1393)
  have f1597 := (((f1416.keep Kc1393 nin0).other W1420 (Nat.ne_of_gt lt_A_d1)).other W1428 (Nat.ne_of_lt lt_d1_r1355)).other W1435 (Nat.ne_of_lt lt_d1_r1393)
  obtain ⟨fs, hr, hrun, hended, hW, hsame⟩ := X1435.leave (v := none) (fun _ => rfl)
  refine ⟨_, _, ?_, hrun, hended, _, _, rfl, ?_, ⟨_, rfl⟩, hW, hsame.mono (by decide) (by decide)⟩
  ·refine R1224 _ ?_
   show Steps _ _ _ (T1218.setTop (mkF m 51 #[.val (.ref A), .val (.int pl), .val (.double (FP.l2d lt)), .second, .val (.double (FP.l2d tt)), .second, .unset] [(.int n), (.int pl)])) _
   refine XS.icmpNo X1218.here hx rfl (hb hby dCM_51) rfl (flt hlt).1 ?_
   refine XS.iloadN X1218.here hx rfl (hb hby dCM_54) rfl ?_
   refine XS.iconst X1218.here hx rfl (hb hby dCM_55) ?_
   refine XS.iadd X1218.here hx rfl (hb hby dCM_56) rfl ?_
   show Steps _ _ _ (T1218.setTop (mkF m 57 #[.val (.ref A), .val (.int pl), .val (.double (FP.l2d lt)), .second, .val (.double (FP.l2d tt)), .second, .unset] [(.int (pl + (1 : Int32)))])) _
   refine XS.aloadN X1218.here hx rfl (hb hby dCM_57) rfl rfl ?_
   refine st1351 _ ?_
   show Steps _ _ _ (T1351.setTop (mkF m 61 #[.val (.ref A), .val (.int pl), .val (.double (FP.l2d lt)), .second, .val (.double (FP.l2d tt)), .second, .unset] [(.ref ec), (.int (pl + (1 : Int32)))])) _
   refine X1351.arraylength hx (by rw [e1351]; exact Ar1352.1) (State.isArrayOf_alike hZ.alike Ar1352.2.1) (g := (mkF m 61 #[.val (.ref A), .val (.int pl), .val (.double (FP.l2d lt)), .second, .val (.double (FP.l2d tt)), .second, .unset] [(.ref ec), (.int (pl + (1 : Int32)))])) rfl rfl (hb hby dCM_61) _ ?_
   rw [len_of S1352 N1352]
   refine XS.iconst X1351.here hx rfl (hb hby dCM_62) ?_
   refine XS.imul X1351.here hx rfl (hb hby dCM_63) rfl ?_
   refine st1353 _ ?_
   show Steps _ _ _ (T1353.setTop (mkF m 67 #[.val (.ref A), .val (.int pl), .val (.double (FP.l2d lt)), .second, .val (.double (FP.l2d tt)), .second, .unset] [(.int rm)])) _
   refine XS.istore X1353.here hx rfl (hb hby dCM_67) rfl (l' := #[.val (.ref A), .val (.int pl), .val (.double (FP.l2d lt)), .second, .val (.double (FP.l2d tt)), .second, .val (.int rm)]) rfl ?_
   refine XS.aloadN X1353.here hx rfl (hb hby dCM_69) rfl rfl ?_
   refine XS.aloadN X1353.here hx rfl (hb hby dCM_70) rfl rfl ?_
   refine st1354 _ ?_
   show Steps _ _ _ (T1354.setTop (mkF m 74 #[.val (.ref A), .val (.int pl), .val (.double (FP.l2d lt)), .second, .val (.double (FP.l2d tt)), .second, .val (.int rm)] [(.ref ec), (.ref A)])) _
   refine XS.iload X1354.here hx rfl (hb hby dCM_74) rfl ?_
   refine st1355 _ ?_
   show Steps _ _ _ (T1355.setTop (mkF m 79 #[.val (.ref A), .val (.int pl), .val (.double (FP.l2d lt)), .second, .val (.double (FP.l2d tt)), .second, .val (.int rm)] [(.ref r1355), (.ref A)])) _
   refine st1385 _ ?_
   refine XS.aloadN X1385.here hx rfl (hb hby dCM_82) rfl rfl ?_
   refine XS.aloadN X1385.here hx rfl (hb hby dCM_83) rfl rfl ?_
   refine st1392 _ ?_
   show Steps _ _ _ (T1392.setTop (mkF m 87 #[.val (.ref A), .val (.int pl), .val (.double (FP.l2d lt)), .second, .val (.double (FP.l2d tt)), .second, .val (.int rm)] [(.ref el), (.ref A)])) _
   refine XS.iload X1392.here hx rfl (hb hby dCM_87) rfl ?_
   refine st1393 _ ?_
   show Steps _ _ _ (T1393.setTop (mkF m 92 #[.val (.ref A), .val (.int pl), .val (.double (FP.l2d lt)), .second, .val (.double (FP.l2d tt)), .second, .val (.int rm)] [(.ref r1393), (.ref A)])) _
   refine st1420 _ ?_
   refine XS.aloadN X1420.here hx rfl (hb hby dCM_95) rfl rfl ?_
   refine st1423 _ ?_
   refine XS.iloadN X1423.here hx rfl (hb hby dCM_99) rfl ?_
   show Steps _ _ _ (T1423.setTop (mkF m 100 #[.val (.ref A), .val (.int pl), .val (.double (FP.l2d lt)), .second, .val (.double (FP.l2d tt)), .second, .val (.int rm)] [(.int pl), (.ref r1355)])) _
   jvm_step X1423.here [X1423.here.top, hx, (hb hby dCM_100), Value.category]
   show Steps _ _ _ (T1423.setTop (mkF m 101 #[.val (.ref A), .val (.int pl), .val (.double (FP.l2d lt)), .second, .val (.double (FP.l2d tt)), .second, .val (.int rm)] [(.int pl), (.ref r1355), (.int pl), (.ref r1355)])) _
   refine X1423.laload hx (j := pl) (v := (.long (f pl.toNatClampNeg))) (by rw [e1423]; exact Ar1424.1) (State.isArrayOf_alike hZ.alike Ar1424.2.1) Ar1424.2.2 hin1424 hat1424 (g := (mkF m 101 #[.val (.ref A), .val (.int pl), .val (.double (FP.l2d lt)), .second, .val (.double (FP.l2d tt)), .second, .val (.int rm)] [(.int pl), (.ref r1355), (.int pl), (.ref r1355)])) rfl rfl (hb hby dCM_101) _ ?_
   refine XS.lconst X1423.here hx rfl (hb hby dCM_102) ?_
   refine XS.ladd X1423.here hx rfl (hb hby dCM_103) rfl ?_
   show Steps _ _ _ (T1423.setTop (mkF m 104 #[.val (.ref A), .val (.int pl), .val (.double (FP.l2d lt)), .second, .val (.double (FP.l2d tt)), .second, .val (.int rm)] [(.long ((f pl.toNatClampNeg) + (1 : Int64))), (.int pl), (.ref r1355)])) _
   refine st1428 _ ?_
   refine XS.aloadN X1428.here hx rfl (hb hby dCM_105) rfl rfl ?_
   refine st1430 _ ?_
   refine XS.iloadN X1430.here hx rfl (hb hby dCM_109) rfl ?_
   show Steps _ _ _ (T1430.setTop (mkF m 110 #[.val (.ref A), .val (.int pl), .val (.double (FP.l2d lt)), .second, .val (.double (FP.l2d tt)), .second, .val (.int rm)] [(.int pl), (.ref r1393)])) _
   jvm_step X1430.here [X1430.here.top, hx, (hb hby dCM_110), Value.category]
   show Steps _ _ _ (T1430.setTop (mkF m 111 #[.val (.ref A), .val (.int pl), .val (.double (FP.l2d lt)), .second, .val (.double (FP.l2d tt)), .second, .val (.int rm)] [(.int pl), (.ref r1393), (.int pl), (.ref r1393)])) _
   refine X1430.daload hx (j := pl) (v := (.double (FP.l2d (g pl.toNatClampNeg)))) (by rw [e1430]; exact Ar1431.1) (State.isArrayOf_alike hZ.alike Ar1431.2.1) Ar1431.2.2 hin1431 hat1431 (g := (mkF m 111 #[.val (.ref A), .val (.int pl), .val (.double (FP.l2d lt)), .second, .val (.double (FP.l2d tt)), .second, .val (.int rm)] [(.int pl), (.ref r1393), (.int pl), (.ref r1393)])) rfl rfl (hb hby dCM_111) _ ?_
   refine XS.dloadN X1430.here hx rfl (hb hby dCM_112) rfl ?_
   refine XS.daddS X1430.here hx rfl (hb hby dCM_113) rfl (v := (FP.l2d ((g pl.toNatClampNeg) + lt))) (nn_w (own_add (hgb _) hlb (by decide) (by decide))) (own_add (hgb _) hlb (by decide) (by decide)) ?_
   show Steps _ _ _ (T1430.setTop (mkF m 114 #[.val (.ref A), .val (.int pl), .val (.double (FP.l2d lt)), .second, .val (.double (FP.l2d tt)), .second, .val (.int rm)] [(.double (FP.l2d ((g pl.toNatClampNeg) + lt))), (.int pl), (.ref r1393)])) _
   refine st1435 _ ?_
   show Steps _ _ _ (T1435.setTop (mkF m 115 #[.val (.ref A), .val (.int pl), .val (.double (FP.l2d lt)), .second, .val (.double (FP.l2d tt)), .second, .val (.int rm)] [])) _
   exact X1435.returnOut hx Bd.returns (hb hby dCM_115) hr
  ·show QCK0 Z A pl lt tt ec el qa q kec kel n f g h0 n0 _ T1435.heap _
   rw [e1435]
   exact ⟨rfl, N1435F, K1435.1, r1355, r1393, kr1355, kr1393, rm, ⟨f1438, f1448, f1458, f1468, f1470, f1471, f1481, f1488, f1492, f1502, f1503, V1435, b, bi, i0, bd, d0, d1, kbi, ki, kbd, kd, f1507, f1516, f1523, f1532, f1539, f1548, f1552, f1561, f1570, f1577, f1581, f1585, f1589, f1593, f1597, lt_A_qa, lt_qa_q, lt_q_b, lt_b_bi, lt_bi_i0, lt_i0_bd, lt_bd_d0, lt_d0_d1, (Nat.ne_of_gt lt_A_r1355), (Nat.ne_of_gt lt_qa_r1355), (Nat.ne_of_gt lt_q_r1355), (Nat.ne_of_gt lt_b_r1355), (Nat.ne_of_gt lt_bi_r1355), (Nat.ne_of_gt lt_i0_r1355), (Nat.ne_of_gt lt_bd_r1355), (Nat.ne_of_gt lt_d0_r1355), (Nat.ne_of_gt lt_d1_r1355), (Nat.ne_of_gt lt_A_r1393), (Nat.ne_of_gt lt_qa_r1393), (Nat.ne_of_gt lt_q_r1393), (Nat.ne_of_gt lt_b_r1393), (Nat.ne_of_gt lt_bi_r1393), (Nat.ne_of_gt lt_i0_r1393), (Nat.ne_of_gt lt_bd_r1393), (Nat.ne_of_gt lt_d0_r1393), (Nat.ne_of_gt lt_d1_r1393), (Nat.ne_of_lt lt_r1355_r1393), g_A, g_r1355, g_r1393, g_q, g_b, g_bi, g_i0, g_bd, g_d0, g_d1⟩, own_nlt hr1, hr2, hr3, hr5⟩
theorem ef_CK1 (m : MethodId) (x0 : Addr) (x1 : Int32) (x2 : UInt64) (x3 : UInt64) : entryFrame m #[(.ref x0), (.int x1), (.double x2), (.double x3)] 7 = mkF m 0 #[.val (.ref x0), .val (.int x1), .val (.double x2), .second, .val (.double x3), .second, .unset] [] := by first | (simp [entryFrame, mkF, argsToLocals, Value.category]; done) | rfl
def QCK1 (Z : State) (A : Addr) (pl : Int32) (lt : Int64) (tt : Int64) (ec : Addr) (el : Addr) (qa : Addr) (q : Addr) (kec : ClassId) (kel : ClassId) (n : Int32) (f : Nat → Int64) (g : Nat → Int64) (p1 : Int32) (t1 : Int64) (l1 : Int64) (h0 : Heap) (n0 : Nat) (v : Option Value) (h : Heap) (L : List Loc) : Prop := v = none ∧ Fr n0 L ∧ h0.size ≤ h.size ∧ ∃ (ec' el' : Addr) (kec' kel' : ClassId) (n' : Int32), own_S2 Z h n0 A ec' el' qa q kec' kel' n' (own_upd f pl.toNatClampNeg ((f pl.toNatClampNeg) + (1 : Int64))) (own_upd g pl.toNatClampNeg ((g pl.toNatClampNeg) + lt)) p1 t1 l1 pl tt lt ∧ ¬ n' < n ∧ pl < n' ∧ ¬ (128 : Int32) < n' ∧ (n = 16 → ¬ (64 : Int32) < n')
set_option maxRecDepth 65536 in
set_option maxHeartbeats 40000000 in
theorem rmCK1 (l : Launch) (Z : State) (a0 : Array Value) (hw : HW Z a0) (ws : List Jvm.Cond) (A : Addr) (pl : Int32) (lt : Int64) (tt : Int64) (ec : Addr) (el : Addr) (qa : Addr) (q : Addr) (kec : ClassId) (kel : ClassId) (n : Int32) (f : Nat → Int64) (g : Nat → Int64) (p1 : Int32) (t1 : Int64) (l1 : Int64) (h0 : Heap) (n0 : Nat) (Z0 : n0 ≤ h0.size) (S : own_S1 Z h0 n0 A ec el qa q kec kel n f g p1 t1 l1) (hp0 : ¬ pl < 0) (hp1 : ¬ (63 : Int32) < pl) (hn0 : ¬ n < 16) (hn1 : ¬ (64 : Int32) < n) (hzf : ∀ i, n.toNatClampNeg ≤ i → f i = 0) (hzg : ∀ i, n.toNatClampNeg ≤ i → g i = 0) (hlb : own_B 2147483648 lt) (hgb : ∀ i, own_B 4294967296 (g i)) (htb : own_B 1000 tt) (hk : ¬ 90 < tt) :
  MetFree l (⟨sRA, "completed", "(IDD)V"⟩ : MethodName) (head1 (Jvm.Cond.code (⟨sRA, "completed", "(IDD)V"⟩ : MethodName) prog_63_method_4_code 7 none :: ws) (Rm 4 8 310 55)) (fun a U => a = #[(.ref A), (.int pl), (.double (FP.l2d lt)), (.double (FP.l2d tt))] ∧ Z.Warmed39 U.vm ∧ U.heap = h0) (fun _ _ _ _ _ => True) (fun _ U o U' => ∃ v L, o = .returned v ∧ QCK1 Z A pl lt tt ec el qa q kec kel n f g p1 t1 l1 h0 n0 v U'.heap L ∧ FrameEnd U o U' L (Rm 4 8 310 55).cells (Rm 4 8 310 55).slots) := by
 refine MetFree.of_bodySF (plainFor_of_name pn_com_example_frugal_weir_frugalweir_replay_RecentActivity) hisR ?_
 intro p e s m args below meth c s₁ Bd hml0 hP hK
 obtain ⟨rfl, hZ, hh⟩ := hP
 have hx := Bd.exec
 have hby := Bd.bytes
 have hml : c.maxLocals = 7 := hml0
 have hown : s.vm.findClass sRA = some m.cls := findClass_of_methodNamed Bd.named
 have hnm := (name_of_methodNamed Bd.named Bd.method).1
 have X0 : Stand p l e (Rm 4 8 310 55) s m #[(.ref A), (.int pl), (.double (FP.l2d lt)), (.double (FP.l2d tt))] below meth c s₁ [] 0 0 := Stand.of_body Bd
 have e0 : s₁.heap = h0 := by rw [← hh, Bd.state]; rfl
 have N0 := Fr.nil n0
 have pre0 : ∀ t, Steps p.tables e below (s₁.setTop (mkF m 0 #[.val (.ref A), .val (.int pl), .val (.double (FP.l2d lt)), .second, .val (.double (FP.l2d tt)), .second, .unset] [])) t → Steps p.tables e below (s₁.setTop (entryFrame m #[(.ref A), (.int pl), (.double (FP.l2d lt)), (.double (FP.l2d tt))] 7)) t := fun t k => castTop (ef_CK1 m A pl (FP.l2d lt) (FP.l2d tt)) k
 obtain ⟨E_A, F_A_window, F_A_asksBefore, F_A_keptUntil, F_A_executorCompleted, F_A_executorLatencySum, F_A_arrivalEvents, F_A_completionEvents, E_qa, F_qa_size, V_ec, V_el, b, bi, i0, bd, d0, d1, kbi, ki, kbd, kd, E_q, F_q_first, F_q_last, F_q_head, F_q_end, F_q_size, E_b, F_b_capacity, F_b_ints, F_b_doubles, V_bi, V_bd, V_i0, V_d0, V_d1, c_A_qa, c_qa_q, c_q_b, c_b_bi, c_bi_i0, c_i0_bd, c_bd_d0, c_d0_d1, ne_ec_A, ne_ec_qa, ne_ec_q, ne_ec_b, ne_ec_bi, ne_ec_i0, ne_ec_bd, ne_ec_d0, ne_ec_d1, ne_el_A, ne_el_qa, ne_el_q, ne_el_b, ne_el_bi, ne_el_i0, ne_el_bd, ne_el_d0, ne_el_d1, ne_ec_el, g_A, g_ec, g_el, g_q, g_b, g_bi, g_i0, g_bd, g_d0, g_d1⟩ := S
 have lt_A_qa : A < qa := c_A_qa
 have ne_A_qa : A ≠ qa := Nat.ne_of_lt lt_A_qa
 have lt_A_q : A < q := Nat.lt_trans lt_A_qa c_qa_q
 have ne_A_q : A ≠ q := Nat.ne_of_lt lt_A_q
 have lt_A_b : A < b := Nat.lt_trans lt_A_q c_q_b
 have ne_A_b : A ≠ b := Nat.ne_of_lt lt_A_b
 have lt_A_bi : A < bi := Nat.lt_trans lt_A_b c_b_bi
 have ne_A_bi : A ≠ bi := Nat.ne_of_lt lt_A_bi
 have lt_A_i0 : A < i0 := Nat.lt_trans lt_A_bi c_bi_i0
 have ne_A_i0 : A ≠ i0 := Nat.ne_of_lt lt_A_i0
 have lt_A_bd : A < bd := Nat.lt_trans lt_A_i0 c_i0_bd
 have ne_A_bd : A ≠ bd := Nat.ne_of_lt lt_A_bd
 have lt_A_d0 : A < d0 := Nat.lt_trans lt_A_bd c_bd_d0
 have ne_A_d0 : A ≠ d0 := Nat.ne_of_lt lt_A_d0
 have lt_A_d1 : A < d1 := Nat.lt_trans lt_A_d0 c_d0_d1
 have ne_A_d1 : A ≠ d1 := Nat.ne_of_lt lt_A_d1
 have lt_qa_q : qa < q := c_qa_q
 have ne_qa_q : qa ≠ q := Nat.ne_of_lt lt_qa_q
 have lt_qa_b : qa < b := Nat.lt_trans lt_qa_q c_q_b
 have ne_qa_b : qa ≠ b := Nat.ne_of_lt lt_qa_b
 have lt_qa_bi : qa < bi := Nat.lt_trans lt_qa_b c_b_bi
 have ne_qa_bi : qa ≠ bi := Nat.ne_of_lt lt_qa_bi
 have lt_qa_i0 : qa < i0 := Nat.lt_trans lt_qa_bi c_bi_i0
 have ne_qa_i0 : qa ≠ i0 := Nat.ne_of_lt lt_qa_i0
 have lt_qa_bd : qa < bd := Nat.lt_trans lt_qa_i0 c_i0_bd
 have ne_qa_bd : qa ≠ bd := Nat.ne_of_lt lt_qa_bd
 have lt_qa_d0 : qa < d0 := Nat.lt_trans lt_qa_bd c_bd_d0
 have ne_qa_d0 : qa ≠ d0 := Nat.ne_of_lt lt_qa_d0
 have lt_qa_d1 : qa < d1 := Nat.lt_trans lt_qa_d0 c_d0_d1
 have ne_qa_d1 : qa ≠ d1 := Nat.ne_of_lt lt_qa_d1
 have lt_q_b : q < b := c_q_b
 have ne_q_b : q ≠ b := Nat.ne_of_lt lt_q_b
 have lt_q_bi : q < bi := Nat.lt_trans lt_q_b c_b_bi
 have ne_q_bi : q ≠ bi := Nat.ne_of_lt lt_q_bi
 have lt_q_i0 : q < i0 := Nat.lt_trans lt_q_bi c_bi_i0
 have ne_q_i0 : q ≠ i0 := Nat.ne_of_lt lt_q_i0
 have lt_q_bd : q < bd := Nat.lt_trans lt_q_i0 c_i0_bd
 have ne_q_bd : q ≠ bd := Nat.ne_of_lt lt_q_bd
 have lt_q_d0 : q < d0 := Nat.lt_trans lt_q_bd c_bd_d0
 have ne_q_d0 : q ≠ d0 := Nat.ne_of_lt lt_q_d0
 have lt_q_d1 : q < d1 := Nat.lt_trans lt_q_d0 c_d0_d1
 have ne_q_d1 : q ≠ d1 := Nat.ne_of_lt lt_q_d1
 have lt_b_bi : b < bi := c_b_bi
 have ne_b_bi : b ≠ bi := Nat.ne_of_lt lt_b_bi
 have lt_b_i0 : b < i0 := Nat.lt_trans lt_b_bi c_bi_i0
 have ne_b_i0 : b ≠ i0 := Nat.ne_of_lt lt_b_i0
 have lt_b_bd : b < bd := Nat.lt_trans lt_b_i0 c_i0_bd
 have ne_b_bd : b ≠ bd := Nat.ne_of_lt lt_b_bd
 have lt_b_d0 : b < d0 := Nat.lt_trans lt_b_bd c_bd_d0
 have ne_b_d0 : b ≠ d0 := Nat.ne_of_lt lt_b_d0
 have lt_b_d1 : b < d1 := Nat.lt_trans lt_b_d0 c_d0_d1
 have ne_b_d1 : b ≠ d1 := Nat.ne_of_lt lt_b_d1
 have lt_bi_i0 : bi < i0 := c_bi_i0
 have ne_bi_i0 : bi ≠ i0 := Nat.ne_of_lt lt_bi_i0
 have lt_bi_bd : bi < bd := Nat.lt_trans lt_bi_i0 c_i0_bd
 have ne_bi_bd : bi ≠ bd := Nat.ne_of_lt lt_bi_bd
 have lt_bi_d0 : bi < d0 := Nat.lt_trans lt_bi_bd c_bd_d0
 have ne_bi_d0 : bi ≠ d0 := Nat.ne_of_lt lt_bi_d0
 have lt_bi_d1 : bi < d1 := Nat.lt_trans lt_bi_d0 c_d0_d1
 have ne_bi_d1 : bi ≠ d1 := Nat.ne_of_lt lt_bi_d1
 have lt_i0_bd : i0 < bd := c_i0_bd
 have ne_i0_bd : i0 ≠ bd := Nat.ne_of_lt lt_i0_bd
 have lt_i0_d0 : i0 < d0 := Nat.lt_trans lt_i0_bd c_bd_d0
 have ne_i0_d0 : i0 ≠ d0 := Nat.ne_of_lt lt_i0_d0
 have lt_i0_d1 : i0 < d1 := Nat.lt_trans lt_i0_d0 c_d0_d1
 have ne_i0_d1 : i0 ≠ d1 := Nat.ne_of_lt lt_i0_d1
 have lt_bd_d0 : bd < d0 := c_bd_d0
 have ne_bd_d0 : bd ≠ d0 := Nat.ne_of_lt lt_bd_d0
 have lt_bd_d1 : bd < d1 := Nat.lt_trans lt_bd_d0 c_d0_d1
 have ne_bd_d1 : bd ≠ d1 := Nat.ne_of_lt lt_bd_d1
 have lt_d0_d1 : d0 < d1 := c_d0_d1
 have ne_d0_d1 : d0 ≠ d1 := Nat.ne_of_lt lt_d0_d1
 have K0 := Keep.refl h0 [A, ec, el, q, b, bi, i0, bd, d0, d1]
 have hp128 : pl.toNatClampNeg < 128 := own_pn hp0 (fun q => hp1 (own_tr (by decide) q))
 obtain ⟨T1598, X1598, e1598, st1598⟩ := getF X0 hx hZ hown (host := "") (Or.inl (wd hw 64 rfl)) Via.refl e0 F_A_keptUntil (g := (mkF m 3 #[.val (.ref A), .val (.int pl), .val (.double (FP.l2d lt)), .second, .val (.double (FP.l2d tt)), .second, .unset] [(.ref A), (.double (FP.l2d tt))])) rfl rfl (hb hby dCM_3)
 obtain ⟨T1599, X1599, e1599, st1599⟩ := getF X1598 hx hZ hown (host := "") (Or.inl (wd hw 58 rfl)) Via.refl e1598 F_A_completionEvents (g := (mkF m 11 #[.val (.ref A), .val (.int pl), .val (.double (FP.l2d lt)), .second, .val (.double (FP.l2d tt)), .second, .unset] [(.ref A)])) rfl rfl (hb hby dCM_11)
 obtain ⟨cq1600, kq1600, q1600a, q1600b, q1600c⟩ := isOf hZ e1599 E_q
 obtain ⟨_, _, ⟨T1600, L1600, k1600, n1600⟩, -, X1600, ⟨Lc1600, hQ1600, l1600, y1600, z1600⟩, st1600⟩ := X1599.virtualBack hx (y := (⟨sRQ, "addLast", "()V"⟩ : MethodName)) (z := (⟨sRQ, "addLast", "()V"⟩ : MethodName)) hown (mvT hZ (wd hw 73 rfl)) (mvT hZ (wd hw 74 rfl)) (notFace_of_selects (args := #[]) (mvT hZ (wd hw 76 rfl))) (mvT hZ (wd hw 76 rfl)) (mvT hZ (wd hw 75 rfl)) (by decide) (backOf (W := 0) (rmAL1 l Z a0 hw [] q b h0 n0 (Nat.le_trans Z0 K0.1) E_q F_q_first F_q_last F_q_head F_q_end F_q_size F_b_capacity ne_q_b g_q) hZ (wd hw 77 rfl) (wd hw 28 rfl) (by decide) (by decide)) q1600a q1600c (g := (mkF m 14 #[.val (.ref A), .val (.int pl), .val (.double (FP.l2d lt)), .second, .val (.double (FP.l2d tt)), .second, .unset] [(.ref q)])) rfl (by rw [hml]; rfl) (Steps.refl _) (argsL := []) (rest := []) (lenOf pd_1 rfl) rfl (by show 2 * 0 + _ ≤ _; exact Nat.le_of_eq rfl) (hb hby dCM_14) (fun _ _ => ⟨rfl, e1599, (by decide : 0 + 0 ≤ _), (by decide : 0 + 0 ≤ _)⟩)
 dsimp only [Pt.U, Pt.locs, Pt.cells, Pt.slots] at X1600 l1600 y1600 z1600 st1600 hQ1600
 rw [l1600, y1600, z1600] at X1600
 obtain ⟨hv1600, Nq1600, Kc1600, Eq1600, Fqfirst1600, Fqlast1600, Fqhead1600, Fqend1600, Fqsize1600⟩ := hQ1600
 rw [hv1600] at st1600
 have K1600 : Keep h0 T1600.heap [A, ec, el, q, b, bi, i0, bd, d0, d1] := K0.trans Kc1600 (allS (P := fun x => x ∈ [A, ec, el, q, b, bi, i0, bd, d0, d1] ∨ h0.size ≤ x) (Or.inl (List.mem_of_getElem? (i := 3) rfl)) all0)
 have N1600 := Fr.app N0 Nq1600
 have f1601 := F_A_completionEvents.keep Kc1600 (ninS ne_A_q nin0)
 obtain ⟨T1602, X1602, e1602, st1602⟩ := getF X1600 hx hZ hown (host := "") (Or.inl (wd hw 58 rfl)) Via.refl rfl f1601 (g := (mkF m 18 #[.val (.ref A), .val (.int pl), .val (.double (FP.l2d lt)), .second, .val (.double (FP.l2d tt)), .second, .unset] [(.ref A)])) rfl rfl (hb hby dCM_18)
 have f1604 := F_b_ints.keep Kc1600 (ninS (Ne.symm ne_q_b) nin0)
 have f1605 := V_bi.keep Kc1600 (ninS (Ne.symm ne_q_bi) nin0)
 have f1606 := V_i0.keep Kc1600 (ninS (Ne.symm ne_q_i0) nin0)
 obtain ⟨cq1603, kq1603, q1603a, q1603b, q1603c⟩ := isOf hZ e1602 Eq1600
 obtain ⟨_, _, ⟨T1603, L1603, k1603, n1603⟩, -, X1603, ⟨Lc1603, hQ1603, l1603, y1603, z1603⟩, st1603⟩ := X1602.virtualBack hx (y := (⟨sRQ, "setLastInt", "(II)V"⟩ : MethodName)) (z := (⟨sRQ, "setLastInt", "(II)V"⟩ : MethodName)) hown (mvT hZ (wd hw 127 rfl)) (mvT hZ (wd hw 128 rfl)) (notFace_of_selects (args := #[]) (mvT hZ (wd hw 130 rfl))) (mvT hZ (wd hw 130 rfl)) (mvT hZ (wd hw 129 rfl)) (by decide) (backOf (W := 0) (rmSI2 l Z a0 hw [] q pl b bi i0 kbi ki p1 (0 : Int32) T1600.heap n0 (Nat.le_trans Z0 K1600.1) Fqlast1600 Fqend1600 f1604 f1605 f1606 g_i0) hZ (wd hw 131 rfl) (wd hw 28 rfl) (by decide) (by decide)) q1603a q1603c (g := (mkF m 23 #[.val (.ref A), .val (.int pl), .val (.double (FP.l2d lt)), .second, .val (.double (FP.l2d tt)), .second, .unset] [(.int pl), (.int (0 : Int32)), (.ref q)])) rfl (by rw [hml]; rfl) (Steps.refl _) (argsL := [(.int (0 : Int32)), (.int pl)]) (rest := []) (lenOf pd_2 rfl) rfl (by show 2 * 0 + _ ≤ _; exact Nat.le_of_eq rfl) (hb hby dCM_23) (fun _ _ => ⟨rfl, e1602, (by decide : 0 + 0 ≤ _), (by decide : 0 + 0 ≤ _)⟩)
 dsimp only [Pt.U, Pt.locs, Pt.cells, Pt.slots] at X1603 l1603 y1603 z1603 st1603 hQ1603
 rw [l1603, y1603, z1603] at X1603
 obtain ⟨hv1603, Nq1603, Kc1603, Vi1603⟩ := hQ1603
 rw [hv1603] at st1603
 have K1603 : Keep h0 T1603.heap [A, ec, el, q, b, bi, i0, bd, d0, d1] := K1600.trans Kc1603 (allS (P := fun x => x ∈ [A, ec, el, q, b, bi, i0, bd, d0, d1] ∨ h0.size ≤ x) (Or.inl (List.mem_of_getElem? (i := 6) rfl)) all0)
 have N1603 := Fr.app N1600 Nq1603
 have f1607 := f1601.keep Kc1603 (ninS ne_A_i0 nin0)
 obtain ⟨T1608, X1608, e1608, st1608⟩ := getF X1603 hx hZ hown (host := "") (Or.inl (wd hw 58 rfl)) Via.refl rfl f1607 (g := (mkF m 27 #[.val (.ref A), .val (.int pl), .val (.double (FP.l2d lt)), .second, .val (.double (FP.l2d tt)), .second, .unset] [(.ref A)])) rfl rfl (hb hby dCM_27)
 have f1610 := Fqlast1600.keep Kc1603 (ninS ne_q_i0 nin0)
 have f1611 := Fqend1600.keep Kc1603 (ninS ne_q_i0 nin0)
 have f1613 := (F_b_doubles.keep Kc1600 (ninS (Ne.symm ne_q_b) nin0)).keep Kc1603 (ninS ne_b_i0 nin0)
 have f1615 := (V_bd.keep Kc1600 (ninS (Ne.symm ne_q_bd) nin0)).keep Kc1603 (ninS (Ne.symm ne_i0_bd) nin0)
 have f1617 := (V_d0.keep Kc1600 (ninS (Ne.symm ne_q_d0) nin0)).keep Kc1603 (ninS (Ne.symm ne_i0_d0) nin0)
 have f1618 := Eq1600.keep Kc1603
 obtain ⟨cq1609, kq1609, q1609a, q1609b, q1609c⟩ := isOf hZ e1608 f1618
 obtain ⟨_, _, ⟨T1609, L1609, k1609, n1609⟩, -, X1609, ⟨Lc1609, hQ1609, l1609, y1609, z1609⟩, st1609⟩ := X1608.virtualBack hx (y := (⟨sRQ, "setLastDouble", "(ID)V"⟩ : MethodName)) (z := (⟨sRQ, "setLastDouble", "(ID)V"⟩ : MethodName)) hown (mvT hZ (wd hw 133 rfl)) (mvT hZ (wd hw 134 rfl)) (notFace_of_selects (args := #[]) (mvT hZ (wd hw 136 rfl))) (mvT hZ (wd hw 136 rfl)) (mvT hZ (wd hw 135 rfl)) (by decide) (backOf (W := 0) (rmSD02 l Z a0 hw [] q tt b bd d0 d1 kbd kd t1 0 T1603.heap n0 (Nat.le_trans Z0 K1603.1) f1610 f1611 f1613 f1615 f1617 g_d0) hZ (wd hw 137 rfl) (wd hw 28 rfl) (by decide) (by decide)) q1609a q1609c (g := (mkF m 33 #[.val (.ref A), .val (.int pl), .val (.double (FP.l2d lt)), .second, .val (.double (FP.l2d tt)), .second, .unset] [(.double (FP.l2d tt)), (.int (0 : Int32)), (.ref q)])) rfl (by rw [hml]; rfl) (Steps.refl _) (argsL := [(.int (0 : Int32)), (.double (FP.l2d tt))]) (rest := []) (lenOf pd_9 rfl) rfl (by show 2 * 0 + _ ≤ _; exact Nat.le_of_eq rfl) (hb hby dCM_33) (fun _ _ => ⟨rfl, e1608, (by decide : 0 + 0 ≤ _), (by decide : 0 + 0 ≤ _)⟩)
 dsimp only [Pt.U, Pt.locs, Pt.cells, Pt.slots] at X1609 l1609 y1609 z1609 st1609 hQ1609
 rw [l1609, y1609, z1609] at X1609
 obtain ⟨hv1609, Nq1609, Kc1609, Vd1609⟩ := hQ1609
 rw [hv1609] at st1609
 have K1609 : Keep h0 T1609.heap [A, ec, el, q, b, bi, i0, bd, d0, d1] := K1603.trans Kc1609 (allS (P := fun x => x ∈ [A, ec, el, q, b, bi, i0, bd, d0, d1] ∨ h0.size ≤ x) (Or.inl (List.mem_of_getElem? (i := 8) rfl)) all0)
 have N1609 := Fr.app N1603 Nq1609
 have f1619 := f1607.keep Kc1609 (ninS ne_A_d0 nin0)
 obtain ⟨T1620, X1620, e1620, st1620⟩ := getF X1609 hx hZ hown (host := "") (Or.inl (wd hw 58 rfl)) Via.refl rfl f1619 (g := (mkF m 37 #[.val (.ref A), .val (.int pl), .val (.double (FP.l2d lt)), .second, .val (.double (FP.l2d tt)), .second, .unset] [(.ref A)])) rfl rfl (hb hby dCM_37)
 have f1622 := f1610.keep Kc1609 (ninS ne_q_d0 nin0)
 have f1623 := f1611.keep Kc1609 (ninS ne_q_d0 nin0)
 have f1624 := f1613.keep Kc1609 (ninS ne_b_d0 nin0)
 have f1625 := f1615.keep Kc1609 (ninS ne_bd_d0 nin0)
 have f1628 := ((V_d1.keep Kc1600 (ninS (Ne.symm ne_q_d1) nin0)).keep Kc1603 (ninS (Ne.symm ne_i0_d1) nin0)).keep Kc1609 (ninS (Ne.symm ne_d0_d1) nin0)
 have f1629 := f1618.keep Kc1609
 obtain ⟨cq1621, kq1621, q1621a, q1621b, q1621c⟩ := isOf hZ e1620 f1629
 obtain ⟨_, _, ⟨T1621, L1621, k1621, n1621⟩, -, X1621, ⟨Lc1621, hQ1621, l1621, y1621, z1621⟩, st1621⟩ := X1620.virtualBack hx (y := (⟨sRQ, "setLastDouble", "(ID)V"⟩ : MethodName)) (z := (⟨sRQ, "setLastDouble", "(ID)V"⟩ : MethodName)) hown (mvT hZ (wd hw 133 rfl)) (mvT hZ (wd hw 134 rfl)) (notFace_of_selects (args := #[]) (mvT hZ (wd hw 136 rfl))) (mvT hZ (wd hw 136 rfl)) (mvT hZ (wd hw 135 rfl)) (by decide) (backOf (W := 0) (rmSD12 l Z a0 hw [] q lt b bd d0 d1 kbd kd l1 0 T1609.heap n0 (Nat.le_trans Z0 K1609.1) f1622 f1623 f1624 f1625 f1628 g_d1) hZ (wd hw 137 rfl) (wd hw 28 rfl) (by decide) (by decide)) q1621a q1621c (g := (mkF m 42 #[.val (.ref A), .val (.int pl), .val (.double (FP.l2d lt)), .second, .val (.double (FP.l2d tt)), .second, .unset] [(.double (FP.l2d lt)), (.int (1 : Int32)), (.ref q)])) rfl (by rw [hml]; rfl) (Steps.refl _) (argsL := [(.int (1 : Int32)), (.double (FP.l2d lt))]) (rest := []) (lenOf pd_9 rfl) rfl (by show 2 * 0 + _ ≤ _; exact Nat.le_of_eq rfl) (hb hby dCM_42) (fun _ _ => ⟨rfl, e1620, (by decide : 0 + 0 ≤ _), (by decide : 0 + 0 ≤ _)⟩)
 dsimp only [Pt.U, Pt.locs, Pt.cells, Pt.slots] at X1621 l1621 y1621 z1621 st1621 hQ1621
 rw [l1621, y1621, z1621] at X1621
 obtain ⟨hv1621, Nq1621, Kc1621, Vd1621⟩ := hQ1621
 rw [hv1621] at st1621
 have K1621 : Keep h0 T1621.heap [A, ec, el, q, b, bi, i0, bd, d0, d1] := K1609.trans Kc1621 (allS (P := fun x => x ∈ [A, ec, el, q, b, bi, i0, bd, d0, d1] ∨ h0.size ≤ x) (Or.inl (List.mem_of_getElem? (i := 9) rfl)) all0)
 have N1621 := Fr.app N1609 Nq1621
 have f1633 := (((F_A_executorCompleted.keep Kc1600 (ninS ne_A_q nin0)).keep Kc1603 (ninS ne_A_i0 nin0)).keep Kc1609 (ninS ne_A_d0 nin0)).keep Kc1621 (ninS ne_A_d1 nin0)
 obtain ⟨T1634, X1634, e1634, st1634⟩ := getF X1621 hx hZ hown (host := "") (Or.inl (wd hw 21 rfl)) Via.refl rfl f1633 (g := (mkF m 47 #[.val (.ref A), .val (.int pl), .val (.double (FP.l2d lt)), .second, .val (.double (FP.l2d tt)), .second, .unset] [(.ref A), (.int pl)])) rfl rfl (hb hby dCM_47)
 have f1639 := (((V_ec.keep Kc1600 (ninS ne_ec_q nin0)).keep Kc1603 (ninS ne_ec_i0 nin0)).keep Kc1609 (ninS ne_ec_d0 nin0)).keep Kc1621 (ninS ne_ec_d1 nin0)
 obtain ⟨cl1635, Ar1635, -, S1635, N1635, -, -⟩ := id f1639
 have R1640 : ∀ t, Steps p.tables e below (T1634.setTop (mkF m 51 #[.val (.ref A), .val (.int pl), .val (.double (FP.l2d lt)), .second, .val (.double (FP.l2d tt)), .second, .unset] [(.int n), (.int pl)])) t → Steps p.tables e below (s₁.setTop (entryFrame m #[(.ref A), (.int pl), (.double (FP.l2d lt)), (.double (FP.l2d tt))] 7)) t := by
  intro t kt
  refine pre0 _ ?_
  show Steps _ _ _ (s₁.setTop (mkF m 0 #[.val (.ref A), .val (.int pl), .val (.double (FP.l2d lt)), .second, .val (.double (FP.l2d tt)), .second, .unset] [])) _
  refine XS.dload X0.here hx rfl (hb hby dCM_0) rfl ?_
  refine XS.aloadN X0.here hx rfl (hb hby dCM_2) rfl rfl ?_
  refine st1598 _ ?_
  refine XS.dcmpS X1598.here hx rfl (hb hby dCM_6) rfl (v := (lcmpW tt 90)) (own_cmpw htb own_b90 (by decide) (by decide) _) ?_
  show Steps _ _ _ (T1598.setTop (mkF m 7 #[.val (.ref A), .val (.int pl), .val (.double (FP.l2d lt)), .second, .val (.double (FP.l2d tt)), .second, .unset] [(.int (lcmpW tt 90))])) _
  refine XS.ifNo X1598.here hx rfl (hb hby dCM_7) rfl ((if0 _ _).trans (flt (fun q => hk ((lw_gt _ _).mp q))).2.2.1) ?_
  refine XS.aloadN X1598.here hx rfl (hb hby dCM_10) rfl rfl ?_
  refine st1599 _ ?_
  refine st1600.trans ?_
  show Steps _ _ _ (T1600.setTop (mkF m 17 #[.val (.ref A), .val (.int pl), .val (.double (FP.l2d lt)), .second, .val (.double (FP.l2d tt)), .second, .unset] [])) _
  refine XS.aloadN X1600.here hx rfl (hb hby dCM_17) rfl rfl ?_
  refine st1602 _ ?_
  refine XS.iconst X1602.here hx rfl (hb hby dCM_21) ?_
  refine XS.iloadN X1602.here hx rfl (hb hby dCM_22) rfl ?_
  refine st1603.trans ?_
  show Steps _ _ _ (T1603.setTop (mkF m 26 #[.val (.ref A), .val (.int pl), .val (.double (FP.l2d lt)), .second, .val (.double (FP.l2d tt)), .second, .unset] [])) _
  refine XS.aloadN X1603.here hx rfl (hb hby dCM_26) rfl rfl ?_
  refine st1608 _ ?_
  refine XS.iconst X1608.here hx rfl (hb hby dCM_30) ?_
  refine XS.dload X1608.here hx rfl (hb hby dCM_31) rfl ?_
  refine st1609.trans ?_
  show Steps _ _ _ (T1609.setTop (mkF m 36 #[.val (.ref A), .val (.int pl), .val (.double (FP.l2d lt)), .second, .val (.double (FP.l2d tt)), .second, .unset] [])) _
  refine XS.aloadN X1609.here hx rfl (hb hby dCM_36) rfl rfl ?_
  refine st1620 _ ?_
  refine XS.iconst X1620.here hx rfl (hb hby dCM_40) ?_
  refine XS.dloadN X1620.here hx rfl (hb hby dCM_41) rfl ?_
  refine st1621.trans ?_
  show Steps _ _ _ (T1621.setTop (mkF m 45 #[.val (.ref A), .val (.int pl), .val (.double (FP.l2d lt)), .second, .val (.double (FP.l2d tt)), .second, .unset] [])) _
  refine XS.iloadN X1621.here hx rfl (hb hby dCM_45) rfl ?_
  refine XS.aloadN X1621.here hx rfl (hb hby dCM_46) rfl rfl ?_
  refine st1634 _ ?_
  show Steps _ _ _ (T1634.setTop (mkF m 50 #[.val (.ref A), .val (.int pl), .val (.double (FP.l2d lt)), .second, .val (.double (FP.l2d tt)), .second, .unset] [(.ref ec), (.int pl)])) _
  refine X1634.arraylength hx (by rw [e1634]; exact Ar1635.1) (State.isArrayOf_alike hZ.alike Ar1635.2.1) (g := (mkF m 50 #[.val (.ref A), .val (.int pl), .val (.double (FP.l2d lt)), .second, .val (.double (FP.l2d tt)), .second, .unset] [(.ref ec), (.int pl)])) rfl rfl (hb hby dCM_50) _ ?_
  rw [len_of S1635 N1635]
  show Steps _ _ _ (T1634.setTop (mkF m 51 #[.val (.ref A), .val (.int pl), .val (.double (FP.l2d lt)), .second, .val (.double (FP.l2d tt)), .second, .unset] [(.int n), (.int pl)])) _
  exact kt
 have hnn : ¬ n < 0 := own_n0 hn0
 by_cases hlt : pl < n
 ·
  obtain ⟨T1641, X1641, e1641, st1641⟩ := getF X1634 hx hZ hown (host := "") (Or.inl (wd hw 21 rfl)) Via.refl e1634 f1633 (g := (mkF m 96 #[.val (.ref A), .val (.int pl), .val (.double (FP.l2d lt)), .second, .val (.double (FP.l2d tt)), .second, .unset] [(.ref A)])) rfl rfl (hb hby dCM_96)
  obtain ⟨cl1642, Ar1642, q1642, S1642, N1642, H1642, G1642⟩ := id f1639
  have hin1642 : ¬ (pl < 0 ∨ cl1642.slots.size ≤ (pl).toNatClampNeg) := (inb_of S1642 ⟨hp0, hlt⟩)
  have hat1642 : cl1642.slots[(pl).toNatClampNeg]? = some (.long (f pl.toNatClampNeg)) := (H1642.at (inb_of S1642 ⟨hp0, hlt⟩) (own_Lget _ hp128 _))
  obtain ⟨cl1643, Ar1643, q1643, S1643, N1643, H1643, G1643⟩ := id f1639
  have hin1643 : ¬ (pl < 0 ∨ cl1643.slots.size ≤ (pl).toNatClampNeg) := (inb_of S1643 ⟨hp0, hlt⟩)
  obtain ⟨T1644, h1644, X1644, e1644, W1644, st1644⟩ := stJ X1641 hx hZ e1641 Ar1643 (j := pl) hin1643 (g := (mkF m 104 #[.val (.ref A), .val (.int pl), .val (.double (FP.l2d lt)), .second, .val (.double (FP.l2d tt)), .second, .unset] [(.long ((f pl.toNatClampNeg) + (1 : Int64))), (.int pl), (.ref ec)])) rfl rfl (hb hby dCM_104)
  have V1644 := Arv.set Ar1643 q1643 S1643 N1643 H1643 G1643 rfl W1644 pl.toNatClampNeg rfl (by rw [own_Llen]; exact hp128)
  rw [own_Lset] at V1644
  have K1644 : Keep h0 h1644 [A, ec, el, q, b, bi, i0, bd, d0, d1] := K1621.wr W1644 (Or.inl (List.mem_of_getElem? (i := 1) rfl))
  have N1644F := Fr.snoc X1644 N1621 g_ec
  have f1649 := ((((F_A_executorLatencySum.keep Kc1600 (ninS ne_A_q nin0)).keep Kc1603 (ninS ne_A_i0 nin0)).keep Kc1609 (ninS ne_A_d0 nin0)).keep Kc1621 (ninS ne_A_d1 nin0)).other W1644 (Or.inl (Ne.symm ne_ec_A))
  obtain ⟨T1650, X1650, e1650, st1650⟩ := getF X1644 hx hZ hown (host := "") (Or.inl (wd hw 24 rfl)) Via.refl e1644 f1649 (g := (mkF m 106 #[.val (.ref A), .val (.int pl), .val (.double (FP.l2d lt)), .second, .val (.double (FP.l2d tt)), .second, .unset] [(.ref A)])) rfl rfl (hb hby dCM_106)
  have f1656 := ((((V_el.keep Kc1600 (ninS ne_el_q nin0)).keep Kc1603 (ninS ne_el_i0 nin0)).keep Kc1609 (ninS ne_el_d0 nin0)).keep Kc1621 (ninS ne_el_d1 nin0)).other W1644 (Ne.symm ne_ec_el)
  obtain ⟨cl1651, Ar1651, q1651, S1651, N1651, H1651, G1651⟩ := id f1656
  have hin1651 : ¬ (pl < 0 ∨ cl1651.slots.size ≤ (pl).toNatClampNeg) := (inb_of S1651 ⟨hp0, hlt⟩)
  have hat1651 : cl1651.slots[(pl).toNatClampNeg]? = some (.double (FP.l2d (g pl.toNatClampNeg))) := (H1651.at (inb_of S1651 ⟨hp0, hlt⟩) (own_Dget _ hp128 _))
  obtain ⟨cl1657, Ar1657, q1657, S1657, N1657, H1657, G1657⟩ := id f1656
  have hin1657 : ¬ (pl < 0 ∨ cl1657.slots.size ≤ (pl).toNatClampNeg) := (inb_of S1657 ⟨hp0, hlt⟩)
  obtain ⟨T1658, h1658, X1658, e1658, W1658, st1658⟩ := stD X1650 hx hZ e1650 Ar1657 (j := pl) hin1657 (g := (mkF m 114 #[.val (.ref A), .val (.int pl), .val (.double (FP.l2d lt)), .second, .val (.double (FP.l2d tt)), .second, .unset] [(.double (FP.l2d ((g pl.toNatClampNeg) + lt))), (.int pl), (.ref el)])) rfl rfl (hb hby dCM_114)
  have V1658 := Arv.set Ar1657 q1657 S1657 N1657 H1657 G1657 rfl W1658 pl.toNatClampNeg rfl (by rw [own_Dlen]; exact hp128)
  rw [own_Dset] at V1658
  have K1658 : Keep h0 h1658 [A, ec, el, q, b, bi, i0, bd, d0, d1] := K1644.wr W1658 (Or.inl (List.mem_of_getElem? (i := 2) rfl))
  have N1658F := Fr.snoc X1658 N1644F g_el
  have f1664 := (((((E_A.keep Kc1600).keep Kc1603).keep Kc1609).keep Kc1621).wr W1644).wr W1658
  have f1670 := (((((F_A_window.keep Kc1600 (ninS ne_A_q nin0)).keep Kc1603 (ninS ne_A_i0 nin0)).keep Kc1609 (ninS ne_A_d0 nin0)).keep Kc1621 (ninS ne_A_d1 nin0)).other W1644 (Or.inl (Ne.symm ne_ec_A))).other W1658 (Or.inl (Ne.symm ne_el_A))
  have f1676 := (((((F_A_asksBefore.keep Kc1600 (ninS ne_A_q nin0)).keep Kc1603 (ninS ne_A_i0 nin0)).keep Kc1609 (ninS ne_A_d0 nin0)).keep Kc1621 (ninS ne_A_d1 nin0)).other W1644 (Or.inl (Ne.symm ne_ec_A))).other W1658 (Or.inl (Ne.symm ne_el_A))
  have f1682 := (((((F_A_keptUntil.keep Kc1600 (ninS ne_A_q nin0)).keep Kc1603 (ninS ne_A_i0 nin0)).keep Kc1609 (ninS ne_A_d0 nin0)).keep Kc1621 (ninS ne_A_d1 nin0)).other W1644 (Or.inl (Ne.symm ne_ec_A))).other W1658 (Or.inl (Ne.symm ne_el_A))
  have f1684 := (f1633.other W1644 (Or.inl (Ne.symm ne_ec_A))).other W1658 (Or.inl (Ne.symm ne_el_A))
  have f1685 := f1649.other W1658 (Or.inl (Ne.symm ne_el_A))
  have f1691 := (((((F_A_arrivalEvents.keep Kc1600 (ninS ne_A_q nin0)).keep Kc1603 (ninS ne_A_i0 nin0)).keep Kc1609 (ninS ne_A_d0 nin0)).keep Kc1621 (ninS ne_A_d1 nin0)).other W1644 (Or.inl (Ne.symm ne_ec_A))).other W1658 (Or.inl (Ne.symm ne_el_A))
  have f1694 := ((f1619.keep Kc1621 (ninS ne_A_d1 nin0)).other W1644 (Or.inl (Ne.symm ne_ec_A))).other W1658 (Or.inl (Ne.symm ne_el_A))
  have f1700 := (((((E_qa.keep Kc1600).keep Kc1603).keep Kc1609).keep Kc1621).wr W1644).wr W1658
  have f1706 := (((((F_qa_size.keep Kc1600 (ninS ne_qa_q nin0)).keep Kc1603 (ninS ne_qa_i0 nin0)).keep Kc1609 (ninS ne_qa_d0 nin0)).keep Kc1621 (ninS ne_qa_d1 nin0)).other W1644 (Or.inl (Ne.symm ne_ec_qa))).other W1658 (Or.inl (Ne.symm ne_el_qa))
  have f1707 := V1644.other W1658 ne_ec_el
  have f1710 := ((f1629.keep Kc1621).wr W1644).wr W1658
  have f1715 := ((((Fqfirst1600.keep Kc1603 (ninS ne_q_i0 nin0)).keep Kc1609 (ninS ne_q_d0 nin0)).keep Kc1621 (ninS ne_q_d1 nin0)).other W1644 (Or.inl (Ne.symm ne_ec_q))).other W1658 (Or.inl (Ne.symm ne_el_q))
  have f1718 := ((f1622.keep Kc1621 (ninS ne_q_d1 nin0)).other W1644 (Or.inl (Ne.symm ne_ec_q))).other W1658 (Or.inl (Ne.symm ne_el_q))
  have f1723 := ((((Fqhead1600.keep Kc1603 (ninS ne_q_i0 nin0)).keep Kc1609 (ninS ne_q_d0 nin0)).keep Kc1621 (ninS ne_q_d1 nin0)).other W1644 (Or.inl (Ne.symm ne_ec_q))).other W1658 (Or.inl (Ne.symm ne_el_q))
  have f1726 := ((f1623.keep Kc1621 (ninS ne_q_d1 nin0)).other W1644 (Or.inl (Ne.symm ne_ec_q))).other W1658 (Or.inl (Ne.symm ne_el_q))
  have f1731 := ((((Fqsize1600.keep Kc1603 (ninS ne_q_i0 nin0)).keep Kc1609 (ninS ne_q_d0 nin0)).keep Kc1621 (ninS ne_q_d1 nin0)).other W1644 (Or.inl (Ne.symm ne_ec_q))).other W1658 (Or.inl (Ne.symm ne_el_q))
  have f1737 := (((((E_b.keep Kc1600).keep Kc1603).keep Kc1609).keep Kc1621).wr W1644).wr W1658
  have f1743 := (((((F_b_capacity.keep Kc1600 (ninS (Ne.symm ne_q_b) nin0)).keep Kc1603 (ninS ne_b_i0 nin0)).keep Kc1609 (ninS ne_b_d0 nin0)).keep Kc1621 (ninS ne_b_d1 nin0)).other W1644 (Or.inl (Ne.symm ne_ec_b))).other W1658 (Or.inl (Ne.symm ne_el_b))
  have f1748 := ((((f1604.keep Kc1603 (ninS ne_b_i0 nin0)).keep Kc1609 (ninS ne_b_d0 nin0)).keep Kc1621 (ninS ne_b_d1 nin0)).other W1644 (Or.inl (Ne.symm ne_ec_b))).other W1658 (Or.inl (Ne.symm ne_el_b))
  have f1751 := ((f1624.keep Kc1621 (ninS ne_b_d1 nin0)).other W1644 (Or.inl (Ne.symm ne_ec_b))).other W1658 (Or.inl (Ne.symm ne_el_b))
  have f1756 := ((((f1605.keep Kc1603 (ninS ne_bi_i0 nin0)).keep Kc1609 (ninS ne_bi_d0 nin0)).keep Kc1621 (ninS ne_bi_d1 nin0)).other W1644 (Ne.symm ne_ec_bi)).other W1658 (Ne.symm ne_el_bi)
  have f1759 := ((f1625.keep Kc1621 (ninS ne_bd_d1 nin0)).other W1644 (Ne.symm ne_ec_bd)).other W1658 (Ne.symm ne_el_bd)
  have f1763 := (((Vi1603.keep Kc1609 (ninS ne_i0_d0 nin0)).keep Kc1621 (ninS ne_i0_d1 nin0)).other W1644 (Ne.symm ne_ec_i0)).other W1658 (Ne.symm ne_el_i0)
  have f1766 := ((Vd1609.keep Kc1621 (ninS ne_d0_d1 nin0)).other W1644 (Ne.symm ne_ec_d0)).other W1658 (Ne.symm ne_el_d0)
  have f1768 := (Vd1621.other W1644 (Ne.symm ne_ec_d1)).other W1658 (Ne.symm ne_el_d1)
  obtain ⟨fs, hr, hrun, hended, hW, hsame⟩ := X1658.leave (v := none) (fun _ => rfl)
  refine ⟨_, _, ?_, hrun, hended, _, _, rfl, ?_, ⟨_, rfl⟩, hW, hsame.mono (by decide) (by decide)⟩
  ·refine R1640 _ ?_
   show Steps _ _ _ (T1634.setTop (mkF m 51 #[.val (.ref A), .val (.int pl), .val (.double (FP.l2d lt)), .second, .val (.double (FP.l2d tt)), .second, .unset] [(.int n), (.int pl)])) _
   refine XS.icmpYes X1634.here hx rfl (pc0 := 51) (pc' := 95) rfl (hb hby dCM_51) rfl (tlt hlt).1 (by decide) (by decide) ?_
   refine XS.aloadN X1634.here hx rfl (hb hby dCM_95) rfl rfl ?_
   refine st1641 _ ?_
   refine XS.iloadN X1641.here hx rfl (hb hby dCM_99) rfl ?_
   show Steps _ _ _ (T1641.setTop (mkF m 100 #[.val (.ref A), .val (.int pl), .val (.double (FP.l2d lt)), .second, .val (.double (FP.l2d tt)), .second, .unset] [(.int pl), (.ref ec)])) _
   jvm_step X1641.here [X1641.here.top, hx, (hb hby dCM_100), Value.category]
   show Steps _ _ _ (T1641.setTop (mkF m 101 #[.val (.ref A), .val (.int pl), .val (.double (FP.l2d lt)), .second, .val (.double (FP.l2d tt)), .second, .unset] [(.int pl), (.ref ec), (.int pl), (.ref ec)])) _
   refine X1641.laload hx (j := pl) (v := (.long (f pl.toNatClampNeg))) (by rw [e1641]; exact Ar1642.1) (State.isArrayOf_alike hZ.alike Ar1642.2.1) Ar1642.2.2 hin1642 hat1642 (g := (mkF m 101 #[.val (.ref A), .val (.int pl), .val (.double (FP.l2d lt)), .second, .val (.double (FP.l2d tt)), .second, .unset] [(.int pl), (.ref ec), (.int pl), (.ref ec)])) rfl rfl (hb hby dCM_101) _ ?_
   refine XS.lconst X1641.here hx rfl (hb hby dCM_102) ?_
   refine XS.ladd X1641.here hx rfl (hb hby dCM_103) rfl ?_
   show Steps _ _ _ (T1641.setTop (mkF m 104 #[.val (.ref A), .val (.int pl), .val (.double (FP.l2d lt)), .second, .val (.double (FP.l2d tt)), .second, .unset] [(.long ((f pl.toNatClampNeg) + (1 : Int64))), (.int pl), (.ref ec)])) _
   refine st1644 _ ?_
   refine XS.aloadN X1644.here hx rfl (hb hby dCM_105) rfl rfl ?_
   refine st1650 _ ?_
   refine XS.iloadN X1650.here hx rfl (hb hby dCM_109) rfl ?_
   show Steps _ _ _ (T1650.setTop (mkF m 110 #[.val (.ref A), .val (.int pl), .val (.double (FP.l2d lt)), .second, .val (.double (FP.l2d tt)), .second, .unset] [(.int pl), (.ref el)])) _
   jvm_step X1650.here [X1650.here.top, hx, (hb hby dCM_110), Value.category]
   show Steps _ _ _ (T1650.setTop (mkF m 111 #[.val (.ref A), .val (.int pl), .val (.double (FP.l2d lt)), .second, .val (.double (FP.l2d tt)), .second, .unset] [(.int pl), (.ref el), (.int pl), (.ref el)])) _
   refine X1650.daload hx (j := pl) (v := (.double (FP.l2d (g pl.toNatClampNeg)))) (by rw [e1650]; exact Ar1651.1) (State.isArrayOf_alike hZ.alike Ar1651.2.1) Ar1651.2.2 hin1651 hat1651 (g := (mkF m 111 #[.val (.ref A), .val (.int pl), .val (.double (FP.l2d lt)), .second, .val (.double (FP.l2d tt)), .second, .unset] [(.int pl), (.ref el), (.int pl), (.ref el)])) rfl rfl (hb hby dCM_111) _ ?_
   refine XS.dloadN X1650.here hx rfl (hb hby dCM_112) rfl ?_
   refine XS.daddS X1650.here hx rfl (hb hby dCM_113) rfl (v := (FP.l2d ((g pl.toNatClampNeg) + lt))) (nn_w (own_add (hgb _) hlb (by decide) (by decide))) (own_add (hgb _) hlb (by decide) (by decide)) ?_
   show Steps _ _ _ (T1650.setTop (mkF m 114 #[.val (.ref A), .val (.int pl), .val (.double (FP.l2d lt)), .second, .val (.double (FP.l2d tt)), .second, .unset] [(.double (FP.l2d ((g pl.toNatClampNeg) + lt))), (.int pl), (.ref el)])) _
   refine st1658 _ ?_
   show Steps _ _ _ (T1658.setTop (mkF m 115 #[.val (.ref A), .val (.int pl), .val (.double (FP.l2d lt)), .second, .val (.double (FP.l2d tt)), .second, .unset] [])) _
   exact X1658.returnOut hx Bd.returns (hb hby dCM_115) hr
  ·show QCK1 Z A pl lt tt ec el qa q kec kel n f g p1 t1 l1 h0 n0 _ T1658.heap _
   rw [e1658]
   exact ⟨rfl, N1658F, K1658.1, ec, el, kec, kel, n, ⟨f1664, f1670, f1676, f1682, f1684, f1685, f1691, f1694, f1700, f1706, f1707, V1658, b, bi, i0, bd, d0, d1, kbi, ki, kbd, kd, f1710, f1715, f1718, f1723, f1726, f1731, f1737, f1743, f1748, f1751, f1756, f1759, f1763, f1766, f1768, lt_A_qa, lt_qa_q, lt_q_b, lt_b_bi, lt_bi_i0, lt_i0_bd, lt_bd_d0, lt_d0_d1, ne_ec_A, ne_ec_qa, ne_ec_q, ne_ec_b, ne_ec_bi, ne_ec_i0, ne_ec_bd, ne_ec_d0, ne_ec_d1, ne_el_A, ne_el_qa, ne_el_q, ne_el_b, ne_el_bi, ne_el_i0, ne_el_bd, ne_el_d0, ne_el_d1, ne_ec_el, g_A, g_ec, g_el, g_q, g_b, g_bi, g_i0, g_bd, g_d0, g_d1⟩, own_nirr n, hlt, (fun q => hn1 (own_tr (by decide) q)), (fun _ => hn1)⟩
 ·
  obtain ⟨rm, hrm⟩ : ∃ z, own_max (pl + (1 : Int32)) (n * (2 : Int32)) = z := ⟨_, rfl⟩
  obtain ⟨hr1, hr2, hr3, hr4, hr5⟩ := own_rm hp0 hp1 hn0 hn1 hlt
  rw [hrm] at hr1 hr2 hr3 hr4 hr5
  obtain ⟨T1769, X1769, e1769, st1769⟩ := getF X1634 hx hZ hown (host := "") (Or.inl (wd hw 21 rfl)) Via.refl e1634 f1633 (g := (mkF m 58 #[.val (.ref A), .val (.int pl), .val (.double (FP.l2d lt)), .second, .val (.double (FP.l2d tt)), .second, .unset] [(.ref A), (.int (pl + (1 : Int32)))])) rfl rfl (hb hby dCM_58)
  obtain ⟨cl1770, Ar1770, -, S1770, N1770, -, -⟩ := id f1639
  obtain ⟨_, _, ⟨T1771, L1771, k1771, n1771⟩, -, X1771, ⟨Lc1771, hQ1771, l1771, y1771, z1771⟩, st1771⟩ := Jvm.LawKit.callS X1769 hx (y := (⟨"java/lang/Math", "max", "(II)I"⟩ : MethodName)) hown (mvT hZ (wd hw 145 rfl)) (mvT hZ (wd hw 83 rfl)) (mvT hZ (wd hw 3 rfl)) (mvT hZ (wd hw 84 rfl)) (by decide) (backOf (W := 0) (rmMX l Z a0 hw [] (pl + (1 : Int32)) (n * (2 : Int32)) T1621.heap n0 (Nat.le_trans Z0 K1621.1) ) hZ (wd hw 84 rfl) (wd hw 3 rfl) (by decide) (by decide)) (g := (mkF m 64 #[.val (.ref A), .val (.int pl), .val (.double (FP.l2d lt)), .second, .val (.double (FP.l2d tt)), .second, .unset] [(.int (n * (2 : Int32))), (.int (pl + (1 : Int32)))])) rfl (by rw [hml]; rfl) (argsL := [(.int (pl + (1 : Int32))), (.int (n * (2 : Int32)))]) (rest := []) (lenOf pd_4 rfl) rfl (by show 2 * 0 + _ ≤ _; exact Nat.le_of_eq rfl) (hb hby dCM_64) (fun _ _ => ⟨rfl, e1769, (by decide : 0 + 0 ≤ _), (by decide : 0 + 0 ≤ _)⟩)
  dsimp only [Pt.U, Pt.locs, Pt.cells, Pt.slots] at X1771 l1771 y1771 z1771 st1771 hQ1771
  rw [l1771, y1771, z1771] at X1771
  obtain ⟨hv1771, Nq1771, eq1771⟩ := hQ1771
  rw [hv1771] at st1771
  have N1771 := Fr.app N1621 Nq1771
  rw [hrm] at st1771
  obtain ⟨T1772, X1772, e1772, st1772⟩ := getF X1771 hx hZ hown (host := "") (Or.inl (wd hw 21 rfl)) Via.refl eq1771 f1633 (g := (mkF m 71 #[.val (.ref A), .val (.int pl), .val (.double (FP.l2d lt)), .second, .val (.double (FP.l2d tt)), .second, .val (.int rm)] [(.ref A), (.ref A)])) rfl rfl (hb hby dCM_71)
  have f1777 := (((E_A.keep Kc1600).keep Kc1603).keep Kc1609).keep Kc1621
  have f1781 := (((E_qa.keep Kc1600).keep Kc1603).keep Kc1609).keep Kc1621
  have f1785 := (((V_el.keep Kc1600 (ninS ne_el_q nin0)).keep Kc1603 (ninS ne_el_i0 nin0)).keep Kc1609 (ninS ne_el_d0 nin0)).keep Kc1621 (ninS ne_el_d1 nin0)
  have f1786 := f1629.keep Kc1621
  have f1790 := (((E_b.keep Kc1600).keep Kc1603).keep Kc1609).keep Kc1621
  have f1793 := ((f1605.keep Kc1603 (ninS ne_bi_i0 nin0)).keep Kc1609 (ninS ne_bi_d0 nin0)).keep Kc1621 (ninS ne_bi_d1 nin0)
  have f1794 := f1625.keep Kc1621 (ninS ne_bd_d1 nin0)
  have f1796 := (Vi1603.keep Kc1609 (ninS ne_i0_d0 nin0)).keep Kc1621 (ninS ne_i0_d1 nin0)
  have f1797 := Vd1609.keep Kc1621 (ninS ne_d0_d1 nin0)
  obtain ⟨_, _, ⟨T1773, L1773, k1773, n1773⟩, -, X1773, ⟨Lc1773, hQ1773, l1773, y1773, z1773⟩, st1773⟩ := Jvm.LawKit.callS X1772 hx (y := (⟨"java/util/Arrays", "copyOf", "([JI)[J"⟩ : MethodName)) hown (mvT hZ (wd hw 146 rfl)) (mvT hZ (wd hw 147 rfl)) (mvT hZ (wd hw 148 rfl)) (mvT hZ (wd hw 149 rfl)) (by decide) (backOf (W := 1) (rmCPJ l Z a0 hw [] ec rm kec n f T1621.heap n0 (Nat.le_trans Z0 K1621.1) f1639 hzf hr1 hr3 hr4 hnn) hZ (wd hw 149 rfl) (wd hw 148 rfl) (by decide) (by decide)) (g := (mkF m 76 #[.val (.ref A), .val (.int pl), .val (.double (FP.l2d lt)), .second, .val (.double (FP.l2d tt)), .second, .val (.int rm)] [(.int rm), (.ref ec), (.ref A)])) rfl (by rw [hml]; rfl) (argsL := [(.ref ec), (.int rm)]) (rest := [(.ref A)]) (lenOf pd_7 rfl) rfl (by show 2 * 0 + _ ≤ _; exact Nat.le_of_eq rfl) (hb hby dCM_76) (fun _ _ => ⟨rfl, e1772, (by decide : 0 + 1 ≤ _), (by decide : 0 + 128 ≤ _)⟩)
  dsimp only [Pt.U, Pt.locs, Pt.cells, Pt.slots] at X1773 l1773 y1773 z1773 st1773 hQ1773
  rw [l1773, y1773, z1773] at X1773
  obtain ⟨r1773, kr1773, hv1773, Nq1773, Kc1773, Vr1773, szq1773⟩ := hQ1773
  rw [hv1773] at st1773
  have K1773 : Keep h0 T1773.heap [A, ec, el, q, b, bi, i0, bd, d0, d1] := K1621.trans Kc1773 all0
  have lt_A_r1773 : A < r1773 := Nat.lt_of_lt_of_le f1777.lt szq1773
  have lt_qa_r1773 : qa < r1773 := Nat.lt_of_lt_of_le f1781.lt szq1773
  have lt_ec_r1773 : ec < r1773 := Nat.lt_of_lt_of_le f1639.lt szq1773
  have lt_el_r1773 : el < r1773 := Nat.lt_of_lt_of_le f1785.lt szq1773
  have lt_q_r1773 : q < r1773 := Nat.lt_of_lt_of_le f1786.lt szq1773
  have lt_b_r1773 : b < r1773 := Nat.lt_of_lt_of_le f1790.lt szq1773
  have lt_bi_r1773 : bi < r1773 := Nat.lt_of_lt_of_le f1793.lt szq1773
  have lt_bd_r1773 : bd < r1773 := Nat.lt_of_lt_of_le f1794.lt szq1773
  have lt_i0_r1773 : i0 < r1773 := Nat.lt_of_lt_of_le f1796.lt szq1773
  have lt_d0_r1773 : d0 < r1773 := Nat.lt_of_lt_of_le f1797.lt szq1773
  have lt_d1_r1773 : d1 < r1773 := Nat.lt_of_lt_of_le Vd1621.lt szq1773
  have sz_r1773 : h0.size ≤ r1773 := Nat.le_trans K1621.1 szq1773
  have g_r1773 : n0 ≤ r1773 := Nat.le_trans Z0 sz_r1773
  have N1773 := Fr.app N1771 Nq1773
  have f1798 := f1777.keep Kc1773
  have f1799 := f1633.keep Kc1773 nin0
  obtain ⟨T1800, h1800, X1800, e1800, W1800, st1800⟩ := putF X1773 hx hZ hown (host := "") (Or.inl (wd hw 21 rfl)) Via.refl rfl f1799 f1798 (Or.inl (wd hw 22 rfl)) (wd hw 10 rfl) (ty := (.array .long)) (by decide) rfl rfl (g := (mkF m 79 #[.val (.ref A), .val (.int pl), .val (.double (FP.l2d lt)), .second, .val (.double (FP.l2d tt)), .second, .val (.int rm)] [(.ref r1773), (.ref A)])) rfl rfl (hb hby dCM_79)
  have Fw1800 := f1799.same W1800
  have K1800 : Keep h0 h1800 [A, ec, el, q, b, bi, i0, bd, d0, d1] := K1773.wr W1800 (Or.inl (List.mem_of_getElem? (i := 0) rfl))
  have N1800 := Fr.snoc X1800 N1773 g_A
  have f1806 := (((((F_A_executorLatencySum.keep Kc1600 (ninS ne_A_q nin0)).keep Kc1603 (ninS ne_A_i0 nin0)).keep Kc1609 (ninS ne_A_d0 nin0)).keep Kc1621 (ninS ne_A_d1 nin0)).keep Kc1773 nin0).other W1800 (Or.inr (sn26 hw))
  obtain ⟨T1807, X1807, e1807, st1807⟩ := getF X1800 hx hZ hown (host := "") (Or.inl (wd hw 24 rfl)) Via.refl e1800 f1806 (g := (mkF m 84 #[.val (.ref A), .val (.int pl), .val (.double (FP.l2d lt)), .second, .val (.double (FP.l2d tt)), .second, .val (.int rm)] [(.ref A), (.ref A)])) rfl rfl (hb hby dCM_84)
  have f1809 := f1798.wr W1800
  have f1811 := (f1781.keep Kc1773).wr W1800
  have f1813 := (f1639.keep Kc1773 nin0).other W1800 ne_ec_A
  have f1815 := (f1785.keep Kc1773 nin0).other W1800 ne_el_A
  have f1817 := (f1786.keep Kc1773).wr W1800
  have f1819 := (f1790.keep Kc1773).wr W1800
  have f1821 := (f1793.keep Kc1773 nin0).other W1800 (Ne.symm ne_A_bi)
  have f1823 := (f1794.keep Kc1773 nin0).other W1800 (Ne.symm ne_A_bd)
  have f1825 := (f1796.keep Kc1773 nin0).other W1800 (Ne.symm ne_A_i0)
  have f1827 := (f1797.keep Kc1773 nin0).other W1800 (Ne.symm ne_A_d0)
  have f1829 := (Vd1621.keep Kc1773 nin0).other W1800 (Ne.symm ne_A_d1)
  have f1830 := Vr1773.other W1800 (Nat.ne_of_gt lt_A_r1773)
  obtain ⟨_, _, ⟨T1808, L1808, k1808, n1808⟩, -, X1808, ⟨Lc1808, hQ1808, l1808, y1808, z1808⟩, st1808⟩ := Jvm.LawKit.callS X1807 hx (y := (⟨"java/util/Arrays", "copyOf", "([DI)[D"⟩ : MethodName)) hown (mvT hZ (wd hw 155 rfl)) (mvT hZ (wd hw 156 rfl)) (mvT hZ (wd hw 148 rfl)) (mvT hZ (wd hw 157 rfl)) (by decide) (backOf (W := 1) (rmCPD l Z a0 hw [] el rm kel n g h1800 n0 (Nat.le_trans Z0 K1800.1) f1815 hzg hr1 hr3 hr4 hnn) hZ (wd hw 157 rfl) (wd hw 148 rfl) (by decide) (by decide)) (g := (mkF m 89 #[.val (.ref A), .val (.int pl), .val (.double (FP.l2d lt)), .second, .val (.double (FP.l2d tt)), .second, .val (.int rm)] [(.int rm), (.ref el), (.ref A)])) rfl (by rw [hml]; rfl) (argsL := [(.ref el), (.int rm)]) (rest := [(.ref A)]) (lenOf pd_8 rfl) rfl (by show 2 * 0 + _ ≤ _; exact Nat.le_of_eq rfl) (hb hby dCM_89) (fun _ _ => ⟨rfl, e1807, (by decide : 1 + 1 ≤ _), (by decide : 128 + 128 ≤ _)⟩)
  dsimp only [Pt.U, Pt.locs, Pt.cells, Pt.slots] at X1808 l1808 y1808 z1808 st1808 hQ1808
  rw [l1808, y1808, z1808] at X1808
  obtain ⟨r1808, kr1808, hv1808, Nq1808, Kc1808, Vr1808, szq1808⟩ := hQ1808
  rw [hv1808] at st1808
  have K1808 : Keep h0 T1808.heap [A, ec, el, q, b, bi, i0, bd, d0, d1] := K1800.trans Kc1808 all0
  have lt_A_r1808 : A < r1808 := Nat.lt_of_lt_of_le f1809.lt szq1808
  have lt_qa_r1808 : qa < r1808 := Nat.lt_of_lt_of_le f1811.lt szq1808
  have lt_ec_r1808 : ec < r1808 := Nat.lt_of_lt_of_le f1813.lt szq1808
  have lt_el_r1808 : el < r1808 := Nat.lt_of_lt_of_le f1815.lt szq1808
  have lt_q_r1808 : q < r1808 := Nat.lt_of_lt_of_le f1817.lt szq1808
  have lt_b_r1808 : b < r1808 := Nat.lt_of_lt_of_le f1819.lt szq1808
  have lt_bi_r1808 : bi < r1808 := Nat.lt_of_lt_of_le f1821.lt szq1808
  have lt_bd_r1808 : bd < r1808 := Nat.lt_of_lt_of_le f1823.lt szq1808
  have lt_i0_r1808 : i0 < r1808 := Nat.lt_of_lt_of_le f1825.lt szq1808
  have lt_d0_r1808 : d0 < r1808 := Nat.lt_of_lt_of_le f1827.lt szq1808
  have lt_d1_r1808 : d1 < r1808 := Nat.lt_of_lt_of_le f1829.lt szq1808
  have lt_r1773_r1808 : r1773 < r1808 := Nat.lt_of_lt_of_le f1830.lt szq1808
  have sz_r1808 : h0.size ≤ r1808 := Nat.le_trans K1800.1 szq1808
  have g_r1808 : n0 ≤ r1808 := Nat.le_trans Z0 sz_r1808
  have N1808 := Fr.app N1800 Nq1808
  have f1831 := f1809.keep Kc1808
  have f1832 := f1806.keep Kc1808 nin0
  obtain ⟨T1833, h1833, X1833, e1833, W1833, st1833⟩ := putF X1808 hx hZ hown (host := "") (Or.inl (wd hw 24 rfl)) Via.refl rfl f1832 f1831 (Or.inl (wd hw 25 rfl)) (wd hw 10 rfl) (ty := (.array .double)) (by decide) rfl rfl (g := (mkF m 92 #[.val (.ref A), .val (.int pl), .val (.double (FP.l2d lt)), .second, .val (.double (FP.l2d tt)), .second, .val (.int rm)] [(.ref r1808), (.ref A)])) rfl rfl (hb hby dCM_92)
  have Fw1833 := f1832.same W1833
  have K1833 : Keep h0 h1833 [A, ec, el, q, b, bi, i0, bd, d0, d1] := K1808.wr W1833 (Or.inl (List.mem_of_getElem? (i := 0) rfl))
  have N1833 := Fr.snoc X1833 N1808 g_A
  have f1835 := (Fw1800.keep Kc1808 nin0).other W1833 (Or.inr (sn60 hw))
  obtain ⟨T1836, X1836, e1836, st1836⟩ := getF X1833 hx hZ hown (host := "") (Or.inl (wd hw 21 rfl)) Via.refl e1833 f1835 (g := (mkF m 96 #[.val (.ref A), .val (.int pl), .val (.double (FP.l2d lt)), .second, .val (.double (FP.l2d tt)), .second, .val (.int rm)] [(.ref A)])) rfl rfl (hb hby dCM_96)
  have f1839 := (f1830.keep Kc1808 nin0).other W1833 (Nat.ne_of_gt lt_A_r1773)
  obtain ⟨cl1837, Ar1837, q1837, S1837, N1837, H1837, G1837⟩ := id f1839
  have hin1837 : ¬ (pl < 0 ∨ cl1837.slots.size ≤ (pl).toNatClampNeg) := (inb_of S1837 ⟨hp0, hr2⟩)
  have hat1837 : cl1837.slots[(pl).toNatClampNeg]? = some (.long (f pl.toNatClampNeg)) := (H1837.at (inb_of S1837 ⟨hp0, hr2⟩) (own_Lget _ hp128 _))
  obtain ⟨cl1840, Ar1840, q1840, S1840, N1840, H1840, G1840⟩ := id f1839
  have hin1840 : ¬ (pl < 0 ∨ cl1840.slots.size ≤ (pl).toNatClampNeg) := (inb_of S1840 ⟨hp0, hr2⟩)
  obtain ⟨T1841, h1841, X1841, e1841, W1841, st1841⟩ := stJ X1836 hx hZ e1836 Ar1840 (j := pl) hin1840 (g := (mkF m 104 #[.val (.ref A), .val (.int pl), .val (.double (FP.l2d lt)), .second, .val (.double (FP.l2d tt)), .second, .val (.int rm)] [(.long ((f pl.toNatClampNeg) + (1 : Int64))), (.int pl), (.ref r1773)])) rfl rfl (hb hby dCM_104)
  have V1841 := Arv.set Ar1840 q1840 S1840 N1840 H1840 G1840 rfl W1841 pl.toNatClampNeg rfl (by rw [own_Llen]; exact hp128)
  rw [own_Lset] at V1841
  have K1841 : Keep h0 h1841 [A, ec, el, q, b, bi, i0, bd, d0, d1] := K1833.wr W1841 (Or.inr sz_r1773)
  have N1841F := Fr.snoc X1841 N1833 g_r1773
  have f1842 := Fw1833.other W1841 (Or.inl (Nat.ne_of_lt lt_A_r1773))
  obtain ⟨T1843, X1843, e1843, st1843⟩ := getF X1841 hx hZ hown (host := "") (Or.inl (wd hw 24 rfl)) Via.refl e1841 f1842 (g := (mkF m 106 #[.val (.ref A), .val (.int pl), .val (.double (FP.l2d lt)), .second, .val (.double (FP.l2d tt)), .second, .val (.int rm)] [(.ref A)])) rfl rfl (hb hby dCM_106)
  have f1846 := (Vr1808.other W1833 (Nat.ne_of_gt lt_A_r1808)).other W1841 (Nat.ne_of_gt lt_r1773_r1808)
  obtain ⟨cl1844, Ar1844, q1844, S1844, N1844, H1844, G1844⟩ := id f1846
  have hin1844 : ¬ (pl < 0 ∨ cl1844.slots.size ≤ (pl).toNatClampNeg) := (inb_of S1844 ⟨hp0, hr2⟩)
  have hat1844 : cl1844.slots[(pl).toNatClampNeg]? = some (.double (FP.l2d (g pl.toNatClampNeg))) := (H1844.at (inb_of S1844 ⟨hp0, hr2⟩) (own_Dget _ hp128 _))
  obtain ⟨cl1847, Ar1847, q1847, S1847, N1847, H1847, G1847⟩ := id f1846
  have hin1847 : ¬ (pl < 0 ∨ cl1847.slots.size ≤ (pl).toNatClampNeg) := (inb_of S1847 ⟨hp0, hr2⟩)
  obtain ⟨T1848, h1848, X1848, e1848, W1848, st1848⟩ := stD X1843 hx hZ e1843 Ar1847 (j := pl) hin1847 (g := (mkF m 114 #[.val (.ref A), .val (.int pl), .val (.double (FP.l2d lt)), .second, .val (.double (FP.l2d tt)), .second, .val (.int rm)] [(.double (FP.l2d ((g pl.toNatClampNeg) + lt))), (.int pl), (.ref r1808)])) rfl rfl (hb hby dCM_114)
  have V1848 := Arv.set Ar1847 q1847 S1847 N1847 H1847 G1847 rfl W1848 pl.toNatClampNeg rfl (by rw [own_Dlen]; exact hp128)
  rw [own_Dset] at V1848
  have K1848 : Keep h0 h1848 [A, ec, el, q, b, bi, i0, bd, d0, d1] := K1841.wr W1848 (Or.inr sz_r1808)
  have N1848F := Fr.snoc X1848 N1841F g_r1808
  have f1851 := ((f1831.wr W1833).wr W1841).wr W1848
  have f1861 := (((((((((F_A_window.keep Kc1600 (ninS ne_A_q nin0)).keep Kc1603 (ninS ne_A_i0 nin0)).keep Kc1609 (ninS ne_A_d0 nin0)).keep Kc1621 (ninS ne_A_d1 nin0)).keep Kc1773 nin0).other W1800 (Or.inr (sn32 hw))).keep Kc1808 nin0).other W1833 (Or.inr (sn33 hw))).other W1841 (Or.inl (Nat.ne_of_lt lt_A_r1773))).other W1848 (Or.inl (Nat.ne_of_lt lt_A_r1808))
  have f1871 := (((((((((F_A_asksBefore.keep Kc1600 (ninS ne_A_q nin0)).keep Kc1603 (ninS ne_A_i0 nin0)).keep Kc1609 (ninS ne_A_d0 nin0)).keep Kc1621 (ninS ne_A_d1 nin0)).keep Kc1773 nin0).other W1800 (Or.inr (sn36 hw))).keep Kc1808 nin0).other W1833 (Or.inr (sn37 hw))).other W1841 (Or.inl (Nat.ne_of_lt lt_A_r1773))).other W1848 (Or.inl (Nat.ne_of_lt lt_A_r1808))
  have f1881 := (((((((((F_A_keptUntil.keep Kc1600 (ninS ne_A_q nin0)).keep Kc1603 (ninS ne_A_i0 nin0)).keep Kc1609 (ninS ne_A_d0 nin0)).keep Kc1621 (ninS ne_A_d1 nin0)).keep Kc1773 nin0).other W1800 (Or.inr (sn41 hw))).keep Kc1808 nin0).other W1833 (Or.inr (sn42 hw))).other W1841 (Or.inl (Nat.ne_of_lt lt_A_r1773))).other W1848 (Or.inl (Nat.ne_of_lt lt_A_r1808))
  have f1883 := (f1835.other W1841 (Or.inl (Nat.ne_of_lt lt_A_r1773))).other W1848 (Or.inl (Nat.ne_of_lt lt_A_r1808))
  have f1884 := f1842.other W1848 (Or.inl (Nat.ne_of_lt lt_A_r1808))
  have f1894 := (((((((((F_A_arrivalEvents.keep Kc1600 (ninS ne_A_q nin0)).keep Kc1603 (ninS ne_A_i0 nin0)).keep Kc1609 (ninS ne_A_d0 nin0)).keep Kc1621 (ninS ne_A_d1 nin0)).keep Kc1773 nin0).other W1800 (Or.inr (sn27 hw))).keep Kc1808 nin0).other W1833 (Or.inr (sn28 hw))).other W1841 (Or.inl (Nat.ne_of_lt lt_A_r1773))).other W1848 (Or.inl (Nat.ne_of_lt lt_A_r1808))
  have f1901 := ((((((f1619.keep Kc1621 (ninS ne_A_d1 nin0)).keep Kc1773 nin0).other W1800 (Or.inr (sn29 hw))).keep Kc1808 nin0).other W1833 (Or.inr (sn30 hw))).other W1841 (Or.inl (Nat.ne_of_lt lt_A_r1773))).other W1848 (Or.inl (Nat.ne_of_lt lt_A_r1808))
  have f1905 := (((f1811.keep Kc1808).wr W1833).wr W1841).wr W1848
  have f1915 := (((((((((F_qa_size.keep Kc1600 (ninS ne_qa_q nin0)).keep Kc1603 (ninS ne_qa_i0 nin0)).keep Kc1609 (ninS ne_qa_d0 nin0)).keep Kc1621 (ninS ne_qa_d1 nin0)).keep Kc1773 nin0).other W1800 (Or.inl (Ne.symm ne_A_qa))).keep Kc1808 nin0).other W1833 (Or.inl (Ne.symm ne_A_qa))).other W1841 (Or.inl (Nat.ne_of_lt lt_qa_r1773))).other W1848 (Or.inl (Nat.ne_of_lt lt_qa_r1808))
  have f1916 := V1841.other W1848 (Nat.ne_of_lt lt_r1773_r1808)
  have f1920 := (((f1817.keep Kc1808).wr W1833).wr W1841).wr W1848
  have f1929 := ((((((((Fqfirst1600.keep Kc1603 (ninS ne_q_i0 nin0)).keep Kc1609 (ninS ne_q_d0 nin0)).keep Kc1621 (ninS ne_q_d1 nin0)).keep Kc1773 nin0).other W1800 (Or.inl (Ne.symm ne_A_q))).keep Kc1808 nin0).other W1833 (Or.inl (Ne.symm ne_A_q))).other W1841 (Or.inl (Nat.ne_of_lt lt_q_r1773))).other W1848 (Or.inl (Nat.ne_of_lt lt_q_r1808))
  have f1936 := ((((((f1622.keep Kc1621 (ninS ne_q_d1 nin0)).keep Kc1773 nin0).other W1800 (Or.inl (Ne.symm ne_A_q))).keep Kc1808 nin0).other W1833 (Or.inl (Ne.symm ne_A_q))).other W1841 (Or.inl (Nat.ne_of_lt lt_q_r1773))).other W1848 (Or.inl (Nat.ne_of_lt lt_q_r1808))
  have f1945 := ((((((((Fqhead1600.keep Kc1603 (ninS ne_q_i0 nin0)).keep Kc1609 (ninS ne_q_d0 nin0)).keep Kc1621 (ninS ne_q_d1 nin0)).keep Kc1773 nin0).other W1800 (Or.inl (Ne.symm ne_A_q))).keep Kc1808 nin0).other W1833 (Or.inl (Ne.symm ne_A_q))).other W1841 (Or.inl (Nat.ne_of_lt lt_q_r1773))).other W1848 (Or.inl (Nat.ne_of_lt lt_q_r1808))
  have f1952 := ((((((f1623.keep Kc1621 (ninS ne_q_d1 nin0)).keep Kc1773 nin0).other W1800 (Or.inl (Ne.symm ne_A_q))).keep Kc1808 nin0).other W1833 (Or.inl (Ne.symm ne_A_q))).other W1841 (Or.inl (Nat.ne_of_lt lt_q_r1773))).other W1848 (Or.inl (Nat.ne_of_lt lt_q_r1808))
  have f1961 := ((((((((Fqsize1600.keep Kc1603 (ninS ne_q_i0 nin0)).keep Kc1609 (ninS ne_q_d0 nin0)).keep Kc1621 (ninS ne_q_d1 nin0)).keep Kc1773 nin0).other W1800 (Or.inl (Ne.symm ne_A_q))).keep Kc1808 nin0).other W1833 (Or.inl (Ne.symm ne_A_q))).other W1841 (Or.inl (Nat.ne_of_lt lt_q_r1773))).other W1848 (Or.inl (Nat.ne_of_lt lt_q_r1808))
  have f1965 := (((f1819.keep Kc1808).wr W1833).wr W1841).wr W1848
  have f1975 := (((((((((F_b_capacity.keep Kc1600 (ninS (Ne.symm ne_q_b) nin0)).keep Kc1603 (ninS ne_b_i0 nin0)).keep Kc1609 (ninS ne_b_d0 nin0)).keep Kc1621 (ninS ne_b_d1 nin0)).keep Kc1773 nin0).other W1800 (Or.inl (Ne.symm ne_A_b))).keep Kc1808 nin0).other W1833 (Or.inl (Ne.symm ne_A_b))).other W1841 (Or.inl (Nat.ne_of_lt lt_b_r1773))).other W1848 (Or.inl (Nat.ne_of_lt lt_b_r1808))
  have f1984 := ((((((((f1604.keep Kc1603 (ninS ne_b_i0 nin0)).keep Kc1609 (ninS ne_b_d0 nin0)).keep Kc1621 (ninS ne_b_d1 nin0)).keep Kc1773 nin0).other W1800 (Or.inl (Ne.symm ne_A_b))).keep Kc1808 nin0).other W1833 (Or.inl (Ne.symm ne_A_b))).other W1841 (Or.inl (Nat.ne_of_lt lt_b_r1773))).other W1848 (Or.inl (Nat.ne_of_lt lt_b_r1808))
  have f1991 := ((((((f1624.keep Kc1621 (ninS ne_b_d1 nin0)).keep Kc1773 nin0).other W1800 (Or.inl (Ne.symm ne_A_b))).keep Kc1808 nin0).other W1833 (Or.inl (Ne.symm ne_A_b))).other W1841 (Or.inl (Nat.ne_of_lt lt_b_r1773))).other W1848 (Or.inl (Nat.ne_of_lt lt_b_r1808))
  have f1995 := (((f1821.keep Kc1808 nin0).other W1833 (Ne.symm ne_A_bi)).other W1841 (Nat.ne_of_lt lt_bi_r1773)).other W1848 (Nat.ne_of_lt lt_bi_r1808)
  have f1999 := (((f1823.keep Kc1808 nin0).other W1833 (Ne.symm ne_A_bd)).other W1841 (Nat.ne_of_lt lt_bd_r1773)).other W1848 (Nat.ne_of_lt lt_bd_r1808)
  have f2003 := (((f1825.keep Kc1808 nin0).other W1833 (Ne.symm ne_A_i0)).other W1841 (Nat.ne_of_lt lt_i0_r1773)).other W1848 (Nat.ne_of_lt lt_i0_r1808)
  have f2007 := (((f1827.keep Kc1808 nin0).other W1833 (Ne.symm ne_A_d0)).other W1841 (Nat.ne_of_lt lt_d0_r1773)).other W1848 (Nat.ne_of_lt lt_d0_r1808)
  have f2011 := (((f1829.keep Kc1808 nin0).other W1833 (Ne.symm ne_A_d1)).other W1841 (Nat.ne_of_lt lt_d1_r1773)).other W1848 (Nat.ne_of_lt lt_d1_r1808)
  obtain ⟨fs, hr, hrun, hended, hW, hsame⟩ := X1848.leave (v := none) (fun _ => rfl)
  refine ⟨_, _, ?_, hrun, hended, _, _, rfl, ?_, ⟨_, rfl⟩, hW, hsame.mono (by decide) (by decide)⟩
  ·refine R1640 _ ?_
   show Steps _ _ _ (T1634.setTop (mkF m 51 #[.val (.ref A), .val (.int pl), .val (.double (FP.l2d lt)), .second, .val (.double (FP.l2d tt)), .second, .unset] [(.int n), (.int pl)])) _
   refine XS.icmpNo X1634.here hx rfl (hb hby dCM_51) rfl (flt hlt).1 ?_
   refine XS.iloadN X1634.here hx rfl (hb hby dCM_54) rfl ?_
   refine XS.iconst X1634.here hx rfl (hb hby dCM_55) ?_
   refine XS.iadd X1634.here hx rfl (hb hby dCM_56) rfl ?_
   show Steps _ _ _ (T1634.setTop (mkF m 57 #[.val (.ref A), .val (.int pl), .val (.double (FP.l2d lt)), .second, .val (.double (FP.l2d tt)), .second, .unset] [(.int (pl + (1 : Int32)))])) _
   refine XS.aloadN X1634.here hx rfl (hb hby dCM_57) rfl rfl ?_
   refine st1769 _ ?_
   show Steps _ _ _ (T1769.setTop (mkF m 61 #[.val (.ref A), .val (.int pl), .val (.double (FP.l2d lt)), .second, .val (.double (FP.l2d tt)), .second, .unset] [(.ref ec), (.int (pl + (1 : Int32)))])) _
   refine X1769.arraylength hx (by rw [e1769]; exact Ar1770.1) (State.isArrayOf_alike hZ.alike Ar1770.2.1) (g := (mkF m 61 #[.val (.ref A), .val (.int pl), .val (.double (FP.l2d lt)), .second, .val (.double (FP.l2d tt)), .second, .unset] [(.ref ec), (.int (pl + (1 : Int32)))])) rfl rfl (hb hby dCM_61) _ ?_
   rw [len_of S1770 N1770]
   refine XS.iconst X1769.here hx rfl (hb hby dCM_62) ?_
   refine XS.imul X1769.here hx rfl (hb hby dCM_63) rfl ?_
   refine st1771 _ ?_
   show Steps _ _ _ (T1771.setTop (mkF m 67 #[.val (.ref A), .val (.int pl), .val (.double (FP.l2d lt)), .second, .val (.double (FP.l2d tt)), .second, .unset] [(.int rm)])) _
   refine XS.istore X1771.here hx rfl (hb hby dCM_67) rfl (l' := #[.val (.ref A), .val (.int pl), .val (.double (FP.l2d lt)), .second, .val (.double (FP.l2d tt)), .second, .val (.int rm)]) rfl ?_
   refine XS.aloadN X1771.here hx rfl (hb hby dCM_69) rfl rfl ?_
   refine XS.aloadN X1771.here hx rfl (hb hby dCM_70) rfl rfl ?_
   refine st1772 _ ?_
   show Steps _ _ _ (T1772.setTop (mkF m 74 #[.val (.ref A), .val (.int pl), .val (.double (FP.l2d lt)), .second, .val (.double (FP.l2d tt)), .second, .val (.int rm)] [(.ref ec), (.ref A)])) _
   refine XS.iload X1772.here hx rfl (hb hby dCM_74) rfl ?_
   refine st1773 _ ?_
   show Steps _ _ _ (T1773.setTop (mkF m 79 #[.val (.ref A), .val (.int pl), .val (.double (FP.l2d lt)), .second, .val (.double (FP.l2d tt)), .second, .val (.int rm)] [(.ref r1773), (.ref A)])) _
   refine st1800 _ ?_
   refine XS.aloadN X1800.here hx rfl (hb hby dCM_82) rfl rfl ?_
   refine XS.aloadN X1800.here hx rfl (hb hby dCM_83) rfl rfl ?_
   refine st1807 _ ?_
   show Steps _ _ _ (T1807.setTop (mkF m 87 #[.val (.ref A), .val (.int pl), .val (.double (FP.l2d lt)), .second, .val (.double (FP.l2d tt)), .second, .val (.int rm)] [(.ref el), (.ref A)])) _
   refine XS.iload X1807.here hx rfl (hb hby dCM_87) rfl ?_
   refine st1808 _ ?_
   show Steps _ _ _ (T1808.setTop (mkF m 92 #[.val (.ref A), .val (.int pl), .val (.double (FP.l2d lt)), .second, .val (.double (FP.l2d tt)), .second, .val (.int rm)] [(.ref r1808), (.ref A)])) _
   refine st1833 _ ?_
   refine XS.aloadN X1833.here hx rfl (hb hby dCM_95) rfl rfl ?_
   refine st1836 _ ?_
   refine XS.iloadN X1836.here hx rfl (hb hby dCM_99) rfl ?_
   show Steps _ _ _ (T1836.setTop (mkF m 100 #[.val (.ref A), .val (.int pl), .val (.double (FP.l2d lt)), .second, .val (.double (FP.l2d tt)), .second, .val (.int rm)] [(.int pl), (.ref r1773)])) _
   jvm_step X1836.here [X1836.here.top, hx, (hb hby dCM_100), Value.category]
   show Steps _ _ _ (T1836.setTop (mkF m 101 #[.val (.ref A), .val (.int pl), .val (.double (FP.l2d lt)), .second, .val (.double (FP.l2d tt)), .second, .val (.int rm)] [(.int pl), (.ref r1773), (.int pl), (.ref r1773)])) _
   refine X1836.laload hx (j := pl) (v := (.long (f pl.toNatClampNeg))) (by rw [e1836]; exact Ar1837.1) (State.isArrayOf_alike hZ.alike Ar1837.2.1) Ar1837.2.2 hin1837 hat1837 (g := (mkF m 101 #[.val (.ref A), .val (.int pl), .val (.double (FP.l2d lt)), .second, .val (.double (FP.l2d tt)), .second, .val (.int rm)] [(.int pl), (.ref r1773), (.int pl), (.ref r1773)])) rfl rfl (hb hby dCM_101) _ ?_
   refine XS.lconst X1836.here hx rfl (hb hby dCM_102) ?_
   refine XS.ladd X1836.here hx rfl (hb hby dCM_103) rfl ?_
   show Steps _ _ _ (T1836.setTop (mkF m 104 #[.val (.ref A), .val (.int pl), .val (.double (FP.l2d lt)), .second, .val (.double (FP.l2d tt)), .second, .val (.int rm)] [(.long ((f pl.toNatClampNeg) + (1 : Int64))), (.int pl), (.ref r1773)])) _
   refine st1841 _ ?_
   refine XS.aloadN X1841.here hx rfl (hb hby dCM_105) rfl rfl ?_
   refine st1843 _ ?_
   refine XS.iloadN X1843.here hx rfl (hb hby dCM_109) rfl ?_
   show Steps _ _ _ (T1843.setTop (mkF m 110 #[.val (.ref A), .val (.int pl), .val (.double (FP.l2d lt)), .second, .val (.double (FP.l2d tt)), .second, .val (.int rm)] [(.int pl), (.ref r1808)])) _
   jvm_step X1843.here [X1843.here.top, hx, (hb hby dCM_110), Value.category]
   show Steps _ _ _ (T1843.setTop (mkF m 111 #[.val (.ref A), .val (.int pl), .val (.double (FP.l2d lt)), .second, .val (.double (FP.l2d tt)), .second, .val (.int rm)] [(.int pl), (.ref r1808), (.int pl), (.ref r1808)])) _
   refine X1843.daload hx (j := pl) (v := (.double (FP.l2d (g pl.toNatClampNeg)))) (by rw [e1843]; exact Ar1844.1) (State.isArrayOf_alike hZ.alike Ar1844.2.1) Ar1844.2.2 hin1844 hat1844 (g := (mkF m 111 #[.val (.ref A), .val (.int pl), .val (.double (FP.l2d lt)), .second, .val (.double (FP.l2d tt)), .second, .val (.int rm)] [(.int pl), (.ref r1808), (.int pl), (.ref r1808)])) rfl rfl (hb hby dCM_111) _ ?_
   refine XS.dloadN X1843.here hx rfl (hb hby dCM_112) rfl ?_
   refine XS.daddS X1843.here hx rfl (hb hby dCM_113) rfl (v := (FP.l2d ((g pl.toNatClampNeg) + lt))) (nn_w (own_add (hgb _) hlb (by decide) (by decide))) (own_add (hgb _) hlb (by decide) (by decide)) ?_
   show Steps _ _ _ (T1843.setTop (mkF m 114 #[.val (.ref A), .val (.int pl), .val (.double (FP.l2d lt)), .second, .val (.double (FP.l2d tt)), .second, .val (.int rm)] [(.double (FP.l2d ((g pl.toNatClampNeg) + lt))), (.int pl), (.ref r1808)])) _
   refine st1848 _ ?_
   show Steps _ _ _ (T1848.setTop (mkF m 115 #[.val (.ref A), .val (.int pl), .val (.double (FP.l2d lt)), .second, .val (.double (FP.l2d tt)), .second, .val (.int rm)] [])) _
   exact X1848.returnOut hx Bd.returns (hb hby dCM_115) hr
  ·show QCK1 Z A pl lt tt ec el qa q kec kel n f g p1 t1 l1 h0 n0 _ T1848.heap _
   rw [e1848]
   exact ⟨rfl, N1848F, K1848.1, r1773, r1808, kr1773, kr1808, rm, ⟨f1851, f1861, f1871, f1881, f1883, f1884, f1894, f1901, f1905, f1915, f1916, V1848, b, bi, i0, bd, d0, d1, kbi, ki, kbd, kd, f1920, f1929, f1936, f1945, f1952, f1961, f1965, f1975, f1984, f1991, f1995, f1999, f2003, f2007, f2011, lt_A_qa, lt_qa_q, lt_q_b, lt_b_bi, lt_bi_i0, lt_i0_bd, lt_bd_d0, lt_d0_d1, (Nat.ne_of_gt lt_A_r1773), (Nat.ne_of_gt lt_qa_r1773), (Nat.ne_of_gt lt_q_r1773), (Nat.ne_of_gt lt_b_r1773), (Nat.ne_of_gt lt_bi_r1773), (Nat.ne_of_gt lt_i0_r1773), (Nat.ne_of_gt lt_bd_r1773), (Nat.ne_of_gt lt_d0_r1773), (Nat.ne_of_gt lt_d1_r1773), (Nat.ne_of_gt lt_A_r1808), (Nat.ne_of_gt lt_qa_r1808), (Nat.ne_of_gt lt_q_r1808), (Nat.ne_of_gt lt_b_r1808), (Nat.ne_of_gt lt_bi_r1808), (Nat.ne_of_gt lt_i0_r1808), (Nat.ne_of_gt lt_bd_r1808), (Nat.ne_of_gt lt_d0_r1808), (Nat.ne_of_gt lt_d1_r1808), (Nat.ne_of_lt lt_r1773_r1808), g_A, g_r1773, g_r1808, g_q, g_b, g_bi, g_i0, g_bd, g_d0, g_d1⟩, own_nlt hr1, hr2, hr3, hr5⟩
theorem dFG_0 : decode prog_63_method_5_code 0 = .ok (.dload_n 1, 1) := by decide +kernel
theorem dFG_1 : decode prog_63_method_5_code 1 = .ok (.aload_n 0, 1) := by decide +kernel
theorem dFG_2 : decode prog_63_method_5_code 2 = .ok (.getfield 33, 3) := by decide +kernel
theorem dFG_5 : decode prog_63_method_5_code 5 = .ok (.dcmp .g, 1) := by decide +kernel
theorem dFG_6 : decode prog_63_method_5_code 6 = .ok (.ifCond .lt 21, 3) := by decide +kernel
theorem dFG_27 : decode prog_63_method_5_code 27 = .ok (.dload_n 1, 1) := by decide +kernel
theorem dFG_28 : decode prog_63_method_5_code 28 = .ok (.aload_n 0, 1) := by decide +kernel
theorem dFG_29 : decode prog_63_method_5_code 29 = .ok (.getfield 29, 3) := by decide +kernel
theorem dFG_32 : decode prog_63_method_5_code 32 = .ok (.dsub, 1) := by decide +kernel
theorem dFG_33 : decode prog_63_method_5_code 33 = .ok (.dstore_n 3, 1) := by decide +kernel
theorem dFG_34 : decode prog_63_method_5_code 34 = .ok (.aload_n 0, 1) := by decide +kernel
theorem dFG_35 : decode prog_63_method_5_code 35 = .ok (.getfield 22, 3) := by decide +kernel
theorem dFG_38 : decode prog_63_method_5_code 38 = .ok (.invokevirtual 76, 3) := by decide +kernel
theorem pd_10 : parseMethodDescriptor "()Z" = some ⟨[], some .boolean⟩ := by decide +kernel
theorem dFG_41 : decode prog_63_method_5_code 41 = .ok (.ifCond .ne 43, 3) := by decide +kernel
theorem dFG_84 : decode prog_63_method_5_code 84 = .ok (.aload_n 0, 1) := by decide +kernel
theorem dFG_85 : decode prog_63_method_5_code 85 = .ok (.getfield 26, 3) := by decide +kernel
theorem dFG_88 : decode prog_63_method_5_code 88 = .ok (.invokevirtual 76, 3) := by decide +kernel
theorem dFG_91 : decode prog_63_method_5_code 91 = .ok (.ifCond .ne 69, 3) := by decide +kernel
theorem dFG_160 : decode prog_63_method_5_code 160 = .ok (.return_, 1) := by decide +kernel
theorem ef_FG00 (m : MethodId) (x0 : Addr) (x1 : UInt64) : entryFrame m #[(.ref x0), (.double x1)] 8 = mkF m 0 #[.val (.ref x0), .val (.double x1), .second, .unset, .unset, .unset, .unset, .unset] [] := by first | (simp [entryFrame, mkF, argsToLocals, Value.category]; done) | rfl
def QFG00 (Z : State) (A : Addr) (it : Int64) (ec : Addr) (el : Addr) (qa : Addr) (q : Addr) (kec : ClassId) (kel : ClassId) (n : Int32) (f : Nat → Int64) (g : Nat → Int64) (h0 : Heap) (n0 : Nat) (v : Option Value) (h : Heap) (L : List Loc) : Prop := v = none ∧ Fr n0 L ∧ h0.size ≤ h.size ∧ Exa Z h A sRA ∧ Fld Z h A sRA "executorCompleted" "[J" (.ref ec) ∧ Fld Z h A sRA "executorLatencySum" "[D" (.ref el) ∧ Arv Z h ec kec .long n (own_L f) (.long 0) ∧ Arv Z h el kel .double n (own_D g) (.double (FP.l2d 0))
set_option maxRecDepth 65536 in
set_option maxHeartbeats 40000000 in
theorem rmFG00 (l : Launch) (Z : State) (a0 : Array Value) (hw : HW Z a0) (ws : List Jvm.Cond) (A : Addr) (it : Int64) (ec : Addr) (el : Addr) (qa : Addr) (q : Addr) (kec : ClassId) (kel : ClassId) (n : Int32) (f : Nat → Int64) (g : Nat → Int64) (h0 : Heap) (n0 : Nat) (Z0 : n0 ≤ h0.size) (S : own_S0 Z h0 n0 A ec el qa q kec kel n f g ) (hib : own_B 1000 it) (hi100 : it < 100) (hgb : ∀ i, own_B 4294967296 (g i)) :
  MetFree l (⟨sRA, "forgetUntil", "(D)V"⟩ : MethodName) (head1 (Jvm.Cond.code (⟨sRA, "forgetUntil", "(D)V"⟩ : MethodName) prog_63_method_5_code 8 none :: ws) (Rm 1 0 0 13)) (fun a U => a = #[(.ref A), (.double (FP.l2d it))] ∧ Z.Warmed39 U.vm ∧ U.heap = h0) (fun _ _ _ _ _ => True) (fun _ U o U' => ∃ v L, o = .returned v ∧ QFG00 Z A it ec el qa q kec kel n f g h0 n0 v U'.heap L ∧ FrameEnd U o U' L (Rm 1 0 0 13).cells (Rm 1 0 0 13).slots) := by
 refine MetFree.of_bodySF (plainFor_of_name pn_com_example_frugal_weir_frugalweir_replay_RecentActivity) hisR ?_
 intro p e s m args below meth c s₁ Bd hml0 hP hK
 obtain ⟨rfl, hZ, hh⟩ := hP
 have hx := Bd.exec
 have hby := Bd.bytes
 have hml : c.maxLocals = 8 := hml0
 have hown : s.vm.findClass sRA = some m.cls := findClass_of_methodNamed Bd.named
 have hnm := (name_of_methodNamed Bd.named Bd.method).1
 have X0 : Stand p l e (Rm 1 0 0 13) s m #[(.ref A), (.double (FP.l2d it))] below meth c s₁ [] 0 0 := Stand.of_body Bd
 have e0 : s₁.heap = h0 := by rw [← hh, Bd.state]; rfl
 have N0 := Fr.nil n0
 have pre0 : ∀ t, Steps p.tables e below (s₁.setTop (mkF m 0 #[.val (.ref A), .val (.double (FP.l2d it)), .second, .unset, .unset, .unset, .unset, .unset] [])) t → Steps p.tables e below (s₁.setTop (entryFrame m #[(.ref A), (.double (FP.l2d it))] 8)) t := fun t k => castTop (ef_FG00 m A (FP.l2d it)) k
 obtain ⟨E_A, F_A_window, F_A_asksBefore, F_A_keptUntil, F_A_executorCompleted, F_A_executorLatencySum, F_A_arrivalEvents, F_A_completionEvents, E_qa, F_qa_size, V_ec, V_el, dq, es, kes, E_q, F_q_intFields, F_q_doubleFields, F_q_blocks, F_q_first, F_q_last, F_q_spare, F_q_head, F_q_end, F_q_size, E_dq, F_dq_head, F_dq_tail, F_dq_elements, V_es, O_es, c_A_qa, c_qa_q, c_q_dq, c_dq_es, ne_ec_A, ne_ec_qa, ne_ec_q, ne_ec_dq, ne_ec_es, ne_el_A, ne_el_qa, ne_el_q, ne_el_dq, ne_el_es, ne_ec_el, g_A, g_ec, g_el, g_q, g_dq, g_es⟩ := S
 have lt_A_qa : A < qa := c_A_qa
 have ne_A_qa : A ≠ qa := Nat.ne_of_lt lt_A_qa
 have lt_A_q : A < q := Nat.lt_trans lt_A_qa c_qa_q
 have ne_A_q : A ≠ q := Nat.ne_of_lt lt_A_q
 have lt_A_dq : A < dq := Nat.lt_trans lt_A_q c_q_dq
 have ne_A_dq : A ≠ dq := Nat.ne_of_lt lt_A_dq
 have lt_A_es : A < es := Nat.lt_trans lt_A_dq c_dq_es
 have ne_A_es : A ≠ es := Nat.ne_of_lt lt_A_es
 have lt_qa_q : qa < q := c_qa_q
 have ne_qa_q : qa ≠ q := Nat.ne_of_lt lt_qa_q
 have lt_qa_dq : qa < dq := Nat.lt_trans lt_qa_q c_q_dq
 have ne_qa_dq : qa ≠ dq := Nat.ne_of_lt lt_qa_dq
 have lt_qa_es : qa < es := Nat.lt_trans lt_qa_dq c_dq_es
 have ne_qa_es : qa ≠ es := Nat.ne_of_lt lt_qa_es
 have lt_q_dq : q < dq := c_q_dq
 have ne_q_dq : q ≠ dq := Nat.ne_of_lt lt_q_dq
 have lt_q_es : q < es := Nat.lt_trans lt_q_dq c_dq_es
 have ne_q_es : q ≠ es := Nat.ne_of_lt lt_q_es
 have lt_dq_es : dq < es := c_dq_es
 have ne_dq_es : dq ≠ es := Nat.ne_of_lt lt_dq_es
 have K0 := Keep.refl h0 [A, ec, el, q, dq, es]
 have hob : own_B 2000 (it - 10) := own_Bm (own_subB hib own_b10 (by decide)) (by decide)
 obtain ⟨T2012, X2012, e2012, st2012⟩ := getF X0 hx hZ hown (host := "") (Or.inl (wd hw 62 rfl)) Via.refl e0 F_A_asksBefore (g := (mkF m 2 #[.val (.ref A), .val (.double (FP.l2d it)), .second, .unset, .unset, .unset, .unset, .unset] [(.ref A), (.double (FP.l2d it))])) rfl rfl (hb hby dFG_2)
 obtain ⟨T2013, X2013, e2013, st2013⟩ := getF X2012 hx hZ hown (host := "") (Or.inl (wd hw 60 rfl)) Via.refl e2012 F_A_window (g := (mkF m 29 #[.val (.ref A), .val (.double (FP.l2d it)), .second, .unset, .unset, .unset, .unset, .unset] [(.ref A), (.double (FP.l2d it))])) rfl rfl (hb hby dFG_29)
 obtain ⟨T2014, X2014, e2014, st2014⟩ := getF X2013 hx hZ hown (host := "") (Or.inl (wd hw 56 rfl)) Via.refl e2013 F_A_arrivalEvents (g := (mkF m 35 #[.val (.ref A), .val (.double (FP.l2d it)), .second, .val (.double (FP.l2d (it - 10))), .second, .unset, .unset, .unset] [(.ref A)])) rfl rfl (hb hby dFG_35)
 obtain ⟨cq2015, kq2015, q2015a, q2015b, q2015c⟩ := isOf hZ e2014 E_qa
 obtain ⟨_, _, ⟨T2015, L2015, k2015, n2015⟩, -, X2015, ⟨Lc2015, hQ2015, l2015, y2015, z2015⟩, st2015⟩ := X2014.virtualBack hx (y := (⟨sRQ, "isEmpty", "()Z"⟩ : MethodName)) (z := (⟨sRQ, "isEmpty", "()Z"⟩ : MethodName)) hown (mvT hZ (wd hw 163 rfl)) (mvT hZ (wd hw 164 rfl)) (notFace_of_selects (args := #[]) (mvT hZ (wd hw 166 rfl))) (mvT hZ (wd hw 166 rfl)) (mvT hZ (wd hw 165 rfl)) (by decide) (backOf (W := 0) (rmIE0 l Z a0 hw [] qa h0 n0 (Nat.le_trans Z0 K0.1) F_qa_size) hZ (wd hw 167 rfl) (wd hw 28 rfl) (by decide) (by decide)) q2015a q2015c (g := (mkF m 38 #[.val (.ref A), .val (.double (FP.l2d it)), .second, .val (.double (FP.l2d (it - 10))), .second, .unset, .unset, .unset] [(.ref qa)])) rfl (by rw [hml]; rfl) (Steps.refl _) (argsL := []) (rest := []) (lenOf pd_10 rfl) rfl (by show 2 * 0 + _ ≤ _; exact Nat.le_of_eq rfl) (hb hby dFG_38) (fun _ _ => ⟨rfl, e2014, (by decide : 0 + 0 ≤ _), (by decide : 0 + 0 ≤ _)⟩)
 dsimp only [Pt.U, Pt.locs, Pt.cells, Pt.slots] at X2015 l2015 y2015 z2015 st2015 hQ2015
 rw [l2015, y2015, z2015] at X2015
 obtain ⟨hv2015, Nq2015, eq2015⟩ := hQ2015
 rw [hv2015] at st2015
 have N2015 := Fr.app N0 Nq2015
 obtain ⟨T2016, X2016, e2016, st2016⟩ := getF X2015 hx hZ hown (host := "") (Or.inl (wd hw 58 rfl)) Via.refl eq2015 F_A_completionEvents (g := (mkF m 85 #[.val (.ref A), .val (.double (FP.l2d it)), .second, .val (.double (FP.l2d (it - 10))), .second, .unset, .unset, .unset] [(.ref A)])) rfl rfl (hb hby dFG_85)
 obtain ⟨cq2017, kq2017, q2017a, q2017b, q2017c⟩ := isOf hZ e2016 E_q
 obtain ⟨_, _, ⟨T2017, L2017, k2017, n2017⟩, -, X2017, ⟨Lc2017, hQ2017, l2017, y2017, z2017⟩, st2017⟩ := X2016.virtualBack hx (y := (⟨sRQ, "isEmpty", "()Z"⟩ : MethodName)) (z := (⟨sRQ, "isEmpty", "()Z"⟩ : MethodName)) hown (mvT hZ (wd hw 163 rfl)) (mvT hZ (wd hw 164 rfl)) (notFace_of_selects (args := #[]) (mvT hZ (wd hw 166 rfl))) (mvT hZ (wd hw 166 rfl)) (mvT hZ (wd hw 165 rfl)) (by decide) (backOf (W := 0) (rmIE0 l Z a0 hw [] q h0 n0 (Nat.le_trans Z0 K0.1) F_q_size) hZ (wd hw 167 rfl) (wd hw 28 rfl) (by decide) (by decide)) q2017a q2017c (g := (mkF m 88 #[.val (.ref A), .val (.double (FP.l2d it)), .second, .val (.double (FP.l2d (it - 10))), .second, .unset, .unset, .unset] [(.ref q)])) rfl (by rw [hml]; rfl) (Steps.refl _) (argsL := []) (rest := []) (lenOf pd_10 rfl) rfl (by show 2 * 0 + _ ≤ _; exact Nat.le_of_eq rfl) (hb hby dFG_88) (fun _ _ => ⟨rfl, e2016, (by decide : 0 + 0 ≤ _), (by decide : 0 + 0 ≤ _)⟩)
 dsimp only [Pt.U, Pt.locs, Pt.cells, Pt.slots] at X2017 l2017 y2017 z2017 st2017 hQ2017
 rw [l2017, y2017, z2017] at X2017
 obtain ⟨hv2017, Nq2017, eq2017⟩ := hQ2017
 rw [hv2017] at st2017
 have N2017 := Fr.app N2015 Nq2017
 obtain ⟨fs, hr, hrun, hended, hW, hsame⟩ := X2017.leave (v := none) (fun _ => rfl)
 refine ⟨_, _, ?_, hrun, hended, _, _, rfl, ?_, ⟨_, rfl⟩, hW, hsame.mono (by decide) (by decide)⟩
 ·refine pre0 _ ?_
  show Steps _ _ _ (s₁.setTop (mkF m 0 #[.val (.ref A), .val (.double (FP.l2d it)), .second, .unset, .unset, .unset, .unset, .unset] [])) _
  refine XS.dloadN X0.here hx rfl (hb hby dFG_0) rfl ?_
  refine XS.aloadN X0.here hx rfl (hb hby dFG_1) rfl rfl ?_
  refine st2012 _ ?_
  refine XS.dcmpS X2012.here hx rfl (hb hby dFG_5) rfl (v := (lcmpW it 100)) (own_cmpw hib own_b100 (by decide) (by decide) _) ?_
  show Steps _ _ _ (T2012.setTop (mkF m 6 #[.val (.ref A), .val (.double (FP.l2d it)), .second, .unset, .unset, .unset, .unset, .unset] [(.int (lcmpW it 100))])) _
  refine XS.ifYes X2012.here hx rfl (pc0 := 6) (pc' := 27) rfl (hb hby dFG_6) rfl ((if0 _ _).trans (tlt ((lw_lt _ _).mpr hi100)).1) (by decide) (by decide) ?_
  refine XS.dloadN X2012.here hx rfl (hb hby dFG_27) rfl ?_
  refine XS.aloadN X2012.here hx rfl (hb hby dFG_28) rfl rfl ?_
  refine st2013 _ ?_
  show Steps _ _ _ (T2013.setTop (mkF m 32 #[.val (.ref A), .val (.double (FP.l2d it)), .second, .unset, .unset, .unset, .unset, .unset] [(.double (FP.l2d 10)), (.double (FP.l2d it))])) _
  refine XS.dsubS X2013.here hx rfl (hb hby dFG_32) rfl (v := (FP.l2d (it - 10))) (nn_w (own_sub hib own_b10 (by decide) (by decide))) (own_sub hib own_b10 (by decide) (by decide)) ?_
  refine XS.dstoreN X2013.here hx rfl (hb hby dFG_33) rfl (l' := #[.val (.ref A), .val (.double (FP.l2d it)), .second, .val (.double (FP.l2d (it - 10))), .second, .unset, .unset, .unset]) rfl ?_
  refine XS.aloadN X2013.here hx rfl (hb hby dFG_34) rfl rfl ?_
  refine st2014 _ ?_
  refine st2015.trans ?_
  show Steps _ _ _ (T2015.setTop (mkF m 41 #[.val (.ref A), .val (.double (FP.l2d it)), .second, .val (.double (FP.l2d (it - 10))), .second, .unset, .unset, .unset] [(.int (1 : Int32))])) _
  refine XS.ifYes X2015.here hx rfl (pc0 := 41) (pc' := 84) rfl (hb hby dFG_41) rfl (by decide) (by decide) (by decide) ?_
  refine XS.aloadN X2015.here hx rfl (hb hby dFG_84) rfl rfl ?_
  refine st2016 _ ?_
  refine st2017.trans ?_
  show Steps _ _ _ (T2017.setTop (mkF m 91 #[.val (.ref A), .val (.double (FP.l2d it)), .second, .val (.double (FP.l2d (it - 10))), .second, .unset, .unset, .unset] [(.int (1 : Int32))])) _
  refine XS.ifYes X2017.here hx rfl (pc0 := 91) (pc' := 160) rfl (hb hby dFG_91) rfl (by decide) (by decide) (by decide) ?_
  show Steps _ _ _ (T2017.setTop (mkF m 160 #[.val (.ref A), .val (.double (FP.l2d it)), .second, .val (.double (FP.l2d (it - 10))), .second, .unset, .unset, .unset] [])) _
  exact X2017.returnOut hx Bd.returns (hb hby dFG_160) hr
 ·show QFG00 Z A it ec el qa q kec kel n f g h0 n0 _ T2017.heap _
  rw [eq2017]
  exact ⟨rfl, N2017, K0.1, E_A, F_A_executorCompleted, F_A_executorLatencySum, V_ec, V_el⟩
theorem dFG_94 : decode prog_63_method_5_code 94 = .ok (.aload_n 0, 1) := by decide +kernel
theorem dFG_95 : decode prog_63_method_5_code 95 = .ok (.getfield 26, 3) := by decide +kernel
theorem dFG_98 : decode prog_63_method_5_code 98 = .ok (.iconst 0, 1) := by decide +kernel
theorem dFG_99 : decode prog_63_method_5_code 99 = .ok (.invokevirtual 80, 3) := by decide +kernel
theorem pd_11 : parseMethodDescriptor "(I)D" = some ⟨[.int], some .double⟩ := by decide +kernel
theorem dFG_102 : decode prog_63_method_5_code 102 = .ok (.dload_n 3, 1) := by decide +kernel
theorem dFG_103 : decode prog_63_method_5_code 103 = .ok (.dcmp .g, 1) := by decide +kernel
theorem dFG_104 : decode prog_63_method_5_code 104 = .ok (.ifCond .gt 56, 3) := by decide +kernel
theorem ef_FG10 (m : MethodId) (x0 : Addr) (x1 : UInt64) : entryFrame m #[(.ref x0), (.double x1)] 8 = mkF m 0 #[.val (.ref x0), .val (.double x1), .second, .unset, .unset, .unset, .unset, .unset] [] := by first | (simp [entryFrame, mkF, argsToLocals, Value.category]; done) | rfl
def QFG10 (Z : State) (A : Addr) (it : Int64) (ec : Addr) (el : Addr) (qa : Addr) (q : Addr) (kec : ClassId) (kel : ClassId) (n : Int32) (f : Nat → Int64) (g : Nat → Int64) (p1 : Int32) (t1 : Int64) (l1 : Int64) (h0 : Heap) (n0 : Nat) (v : Option Value) (h : Heap) (L : List Loc) : Prop := v = none ∧ Fr n0 L ∧ h0.size ≤ h.size ∧ Exa Z h A sRA ∧ Fld Z h A sRA "executorCompleted" "[J" (.ref ec) ∧ Fld Z h A sRA "executorLatencySum" "[D" (.ref el) ∧ Arv Z h ec kec .long n (own_L f) (.long 0) ∧ Arv Z h el kel .double n (own_D g) (.double (FP.l2d 0))
set_option maxRecDepth 65536 in
set_option maxHeartbeats 40000000 in
theorem rmFG10 (l : Launch) (Z : State) (a0 : Array Value) (hw : HW Z a0) (ws : List Jvm.Cond) (A : Addr) (it : Int64) (ec : Addr) (el : Addr) (qa : Addr) (q : Addr) (kec : ClassId) (kel : ClassId) (n : Int32) (f : Nat → Int64) (g : Nat → Int64) (p1 : Int32) (t1 : Int64) (l1 : Int64) (h0 : Heap) (n0 : Nat) (Z0 : n0 ≤ h0.size) (S : own_S1 Z h0 n0 A ec el qa q kec kel n f g p1 t1 l1) (hib : own_B 1000 it) (hi100 : it < 100) (hgb : ∀ i, own_B 4294967296 (g i)) (hq10 : ¬ p1 < 0) (hq11 : ¬ (63 : Int32) < p1) (hq1n : p1 < n) (htb1 : own_B 1000 t1) (hlb1 : own_B 2147483648 l1) (hr1 : (it - 10) < t1) :
  MetFree l (⟨sRA, "forgetUntil", "(D)V"⟩ : MethodName) (head1 (Jvm.Cond.code (⟨sRA, "forgetUntil", "(D)V"⟩ : MethodName) prog_63_method_5_code 8 none :: ws) (Rm 1 0 0 13)) (fun a U => a = #[(.ref A), (.double (FP.l2d it))] ∧ Z.Warmed39 U.vm ∧ U.heap = h0) (fun _ _ _ _ _ => True) (fun _ U o U' => ∃ v L, o = .returned v ∧ QFG10 Z A it ec el qa q kec kel n f g p1 t1 l1 h0 n0 v U'.heap L ∧ FrameEnd U o U' L (Rm 1 0 0 13).cells (Rm 1 0 0 13).slots) := by
 refine MetFree.of_bodySF (plainFor_of_name pn_com_example_frugal_weir_frugalweir_replay_RecentActivity) hisR ?_
 intro p e s m args below meth c s₁ Bd hml0 hP hK
 obtain ⟨rfl, hZ, hh⟩ := hP
 have hx := Bd.exec
 have hby := Bd.bytes
 have hml : c.maxLocals = 8 := hml0
 have hown : s.vm.findClass sRA = some m.cls := findClass_of_methodNamed Bd.named
 have hnm := (name_of_methodNamed Bd.named Bd.method).1
 have X0 : Stand p l e (Rm 1 0 0 13) s m #[(.ref A), (.double (FP.l2d it))] below meth c s₁ [] 0 0 := Stand.of_body Bd
 have e0 : s₁.heap = h0 := by rw [← hh, Bd.state]; rfl
 have N0 := Fr.nil n0
 have pre0 : ∀ t, Steps p.tables e below (s₁.setTop (mkF m 0 #[.val (.ref A), .val (.double (FP.l2d it)), .second, .unset, .unset, .unset, .unset, .unset] [])) t → Steps p.tables e below (s₁.setTop (entryFrame m #[(.ref A), (.double (FP.l2d it))] 8)) t := fun t k => castTop (ef_FG10 m A (FP.l2d it)) k
 obtain ⟨E_A, F_A_window, F_A_asksBefore, F_A_keptUntil, F_A_executorCompleted, F_A_executorLatencySum, F_A_arrivalEvents, F_A_completionEvents, E_qa, F_qa_size, V_ec, V_el, b, bi, i0, bd, d0, d1, kbi, ki, kbd, kd, E_q, F_q_first, F_q_last, F_q_head, F_q_end, F_q_size, E_b, F_b_capacity, F_b_ints, F_b_doubles, V_bi, V_bd, V_i0, V_d0, V_d1, c_A_qa, c_qa_q, c_q_b, c_b_bi, c_bi_i0, c_i0_bd, c_bd_d0, c_d0_d1, ne_ec_A, ne_ec_qa, ne_ec_q, ne_ec_b, ne_ec_bi, ne_ec_i0, ne_ec_bd, ne_ec_d0, ne_ec_d1, ne_el_A, ne_el_qa, ne_el_q, ne_el_b, ne_el_bi, ne_el_i0, ne_el_bd, ne_el_d0, ne_el_d1, ne_ec_el, g_A, g_ec, g_el, g_q, g_b, g_bi, g_i0, g_bd, g_d0, g_d1⟩ := S
 have lt_A_qa : A < qa := c_A_qa
 have ne_A_qa : A ≠ qa := Nat.ne_of_lt lt_A_qa
 have lt_A_q : A < q := Nat.lt_trans lt_A_qa c_qa_q
 have ne_A_q : A ≠ q := Nat.ne_of_lt lt_A_q
 have lt_A_b : A < b := Nat.lt_trans lt_A_q c_q_b
 have ne_A_b : A ≠ b := Nat.ne_of_lt lt_A_b
 have lt_A_bi : A < bi := Nat.lt_trans lt_A_b c_b_bi
 have ne_A_bi : A ≠ bi := Nat.ne_of_lt lt_A_bi
 have lt_A_i0 : A < i0 := Nat.lt_trans lt_A_bi c_bi_i0
 have ne_A_i0 : A ≠ i0 := Nat.ne_of_lt lt_A_i0
 have lt_A_bd : A < bd := Nat.lt_trans lt_A_i0 c_i0_bd
 have ne_A_bd : A ≠ bd := Nat.ne_of_lt lt_A_bd
 have lt_A_d0 : A < d0 := Nat.lt_trans lt_A_bd c_bd_d0
 have ne_A_d0 : A ≠ d0 := Nat.ne_of_lt lt_A_d0
 have lt_A_d1 : A < d1 := Nat.lt_trans lt_A_d0 c_d0_d1
 have ne_A_d1 : A ≠ d1 := Nat.ne_of_lt lt_A_d1
 have lt_qa_q : qa < q := c_qa_q
 have ne_qa_q : qa ≠ q := Nat.ne_of_lt lt_qa_q
 have lt_qa_b : qa < b := Nat.lt_trans lt_qa_q c_q_b
 have ne_qa_b : qa ≠ b := Nat.ne_of_lt lt_qa_b
 have lt_qa_bi : qa < bi := Nat.lt_trans lt_qa_b c_b_bi
 have ne_qa_bi : qa ≠ bi := Nat.ne_of_lt lt_qa_bi
 have lt_qa_i0 : qa < i0 := Nat.lt_trans lt_qa_bi c_bi_i0
 have ne_qa_i0 : qa ≠ i0 := Nat.ne_of_lt lt_qa_i0
 have lt_qa_bd : qa < bd := Nat.lt_trans lt_qa_i0 c_i0_bd
 have ne_qa_bd : qa ≠ bd := Nat.ne_of_lt lt_qa_bd
 have lt_qa_d0 : qa < d0 := Nat.lt_trans lt_qa_bd c_bd_d0
 have ne_qa_d0 : qa ≠ d0 := Nat.ne_of_lt lt_qa_d0
 have lt_qa_d1 : qa < d1 := Nat.lt_trans lt_qa_d0 c_d0_d1
 have ne_qa_d1 : qa ≠ d1 := Nat.ne_of_lt lt_qa_d1
 have lt_q_b : q < b := c_q_b
 have ne_q_b : q ≠ b := Nat.ne_of_lt lt_q_b
 have lt_q_bi : q < bi := Nat.lt_trans lt_q_b c_b_bi
 have ne_q_bi : q ≠ bi := Nat.ne_of_lt lt_q_bi
 have lt_q_i0 : q < i0 := Nat.lt_trans lt_q_bi c_bi_i0
 have ne_q_i0 : q ≠ i0 := Nat.ne_of_lt lt_q_i0
 have lt_q_bd : q < bd := Nat.lt_trans lt_q_i0 c_i0_bd
 have ne_q_bd : q ≠ bd := Nat.ne_of_lt lt_q_bd
 have lt_q_d0 : q < d0 := Nat.lt_trans lt_q_bd c_bd_d0
 have ne_q_d0 : q ≠ d0 := Nat.ne_of_lt lt_q_d0
 have lt_q_d1 : q < d1 := Nat.lt_trans lt_q_d0 c_d0_d1
 have ne_q_d1 : q ≠ d1 := Nat.ne_of_lt lt_q_d1
 have lt_b_bi : b < bi := c_b_bi
 have ne_b_bi : b ≠ bi := Nat.ne_of_lt lt_b_bi
 have lt_b_i0 : b < i0 := Nat.lt_trans lt_b_bi c_bi_i0
 have ne_b_i0 : b ≠ i0 := Nat.ne_of_lt lt_b_i0
 have lt_b_bd : b < bd := Nat.lt_trans lt_b_i0 c_i0_bd
 have ne_b_bd : b ≠ bd := Nat.ne_of_lt lt_b_bd
 have lt_b_d0 : b < d0 := Nat.lt_trans lt_b_bd c_bd_d0
 have ne_b_d0 : b ≠ d0 := Nat.ne_of_lt lt_b_d0
 have lt_b_d1 : b < d1 := Nat.lt_trans lt_b_d0 c_d0_d1
 have ne_b_d1 : b ≠ d1 := Nat.ne_of_lt lt_b_d1
 have lt_bi_i0 : bi < i0 := c_bi_i0
 have ne_bi_i0 : bi ≠ i0 := Nat.ne_of_lt lt_bi_i0
 have lt_bi_bd : bi < bd := Nat.lt_trans lt_bi_i0 c_i0_bd
 have ne_bi_bd : bi ≠ bd := Nat.ne_of_lt lt_bi_bd
 have lt_bi_d0 : bi < d0 := Nat.lt_trans lt_bi_bd c_bd_d0
 have ne_bi_d0 : bi ≠ d0 := Nat.ne_of_lt lt_bi_d0
 have lt_bi_d1 : bi < d1 := Nat.lt_trans lt_bi_d0 c_d0_d1
 have ne_bi_d1 : bi ≠ d1 := Nat.ne_of_lt lt_bi_d1
 have lt_i0_bd : i0 < bd := c_i0_bd
 have ne_i0_bd : i0 ≠ bd := Nat.ne_of_lt lt_i0_bd
 have lt_i0_d0 : i0 < d0 := Nat.lt_trans lt_i0_bd c_bd_d0
 have ne_i0_d0 : i0 ≠ d0 := Nat.ne_of_lt lt_i0_d0
 have lt_i0_d1 : i0 < d1 := Nat.lt_trans lt_i0_d0 c_d0_d1
 have ne_i0_d1 : i0 ≠ d1 := Nat.ne_of_lt lt_i0_d1
 have lt_bd_d0 : bd < d0 := c_bd_d0
 have ne_bd_d0 : bd ≠ d0 := Nat.ne_of_lt lt_bd_d0
 have lt_bd_d1 : bd < d1 := Nat.lt_trans lt_bd_d0 c_d0_d1
 have ne_bd_d1 : bd ≠ d1 := Nat.ne_of_lt lt_bd_d1
 have lt_d0_d1 : d0 < d1 := c_d0_d1
 have ne_d0_d1 : d0 ≠ d1 := Nat.ne_of_lt lt_d0_d1
 have K0 := Keep.refl h0 [A, ec, el, q, b, bi, i0, bd, d0, d1]
 have hx1 : p1.toNatClampNeg < 128 := own_pn hq10 (fun q => hq11 (own_tr (by decide) q))
 have hob : own_B 2000 (it - 10) := own_Bm (own_subB hib own_b10 (by decide)) (by decide)
 obtain ⟨T2018, X2018, e2018, st2018⟩ := getF X0 hx hZ hown (host := "") (Or.inl (wd hw 62 rfl)) Via.refl e0 F_A_asksBefore (g := (mkF m 2 #[.val (.ref A), .val (.double (FP.l2d it)), .second, .unset, .unset, .unset, .unset, .unset] [(.ref A), (.double (FP.l2d it))])) rfl rfl (hb hby dFG_2)
 obtain ⟨T2019, X2019, e2019, st2019⟩ := getF X2018 hx hZ hown (host := "") (Or.inl (wd hw 60 rfl)) Via.refl e2018 F_A_window (g := (mkF m 29 #[.val (.ref A), .val (.double (FP.l2d it)), .second, .unset, .unset, .unset, .unset, .unset] [(.ref A), (.double (FP.l2d it))])) rfl rfl (hb hby dFG_29)
 obtain ⟨T2020, X2020, e2020, st2020⟩ := getF X2019 hx hZ hown (host := "") (Or.inl (wd hw 56 rfl)) Via.refl e2019 F_A_arrivalEvents (g := (mkF m 35 #[.val (.ref A), .val (.double (FP.l2d it)), .second, .val (.double (FP.l2d (it - 10))), .second, .unset, .unset, .unset] [(.ref A)])) rfl rfl (hb hby dFG_35)
 obtain ⟨cq2021, kq2021, q2021a, q2021b, q2021c⟩ := isOf hZ e2020 E_qa
 obtain ⟨_, _, ⟨T2021, L2021, k2021, n2021⟩, -, X2021, ⟨Lc2021, hQ2021, l2021, y2021, z2021⟩, st2021⟩ := X2020.virtualBack hx (y := (⟨sRQ, "isEmpty", "()Z"⟩ : MethodName)) (z := (⟨sRQ, "isEmpty", "()Z"⟩ : MethodName)) hown (mvT hZ (wd hw 163 rfl)) (mvT hZ (wd hw 164 rfl)) (notFace_of_selects (args := #[]) (mvT hZ (wd hw 166 rfl))) (mvT hZ (wd hw 166 rfl)) (mvT hZ (wd hw 165 rfl)) (by decide) (backOf (W := 0) (rmIE0 l Z a0 hw [] qa h0 n0 (Nat.le_trans Z0 K0.1) F_qa_size) hZ (wd hw 167 rfl) (wd hw 28 rfl) (by decide) (by decide)) q2021a q2021c (g := (mkF m 38 #[.val (.ref A), .val (.double (FP.l2d it)), .second, .val (.double (FP.l2d (it - 10))), .second, .unset, .unset, .unset] [(.ref qa)])) rfl (by rw [hml]; rfl) (Steps.refl _) (argsL := []) (rest := []) (lenOf pd_10 rfl) rfl (by show 2 * 0 + _ ≤ _; exact Nat.le_of_eq rfl) (hb hby dFG_38) (fun _ _ => ⟨rfl, e2020, (by decide : 0 + 0 ≤ _), (by decide : 0 + 0 ≤ _)⟩)
 dsimp only [Pt.U, Pt.locs, Pt.cells, Pt.slots] at X2021 l2021 y2021 z2021 st2021 hQ2021
 rw [l2021, y2021, z2021] at X2021
 obtain ⟨hv2021, Nq2021, eq2021⟩ := hQ2021
 rw [hv2021] at st2021
 have N2021 := Fr.app N0 Nq2021
 obtain ⟨T2022, X2022, e2022, st2022⟩ := getF X2021 hx hZ hown (host := "") (Or.inl (wd hw 58 rfl)) Via.refl eq2021 F_A_completionEvents (g := (mkF m 85 #[.val (.ref A), .val (.double (FP.l2d it)), .second, .val (.double (FP.l2d (it - 10))), .second, .unset, .unset, .unset] [(.ref A)])) rfl rfl (hb hby dFG_85)
 obtain ⟨cq2023, kq2023, q2023a, q2023b, q2023c⟩ := isOf hZ e2022 E_q
 obtain ⟨_, _, ⟨T2023, L2023, k2023, n2023⟩, -, X2023, ⟨Lc2023, hQ2023, l2023, y2023, z2023⟩, st2023⟩ := X2022.virtualBack hx (y := (⟨sRQ, "isEmpty", "()Z"⟩ : MethodName)) (z := (⟨sRQ, "isEmpty", "()Z"⟩ : MethodName)) hown (mvT hZ (wd hw 163 rfl)) (mvT hZ (wd hw 164 rfl)) (notFace_of_selects (args := #[]) (mvT hZ (wd hw 166 rfl))) (mvT hZ (wd hw 166 rfl)) (mvT hZ (wd hw 165 rfl)) (by decide) (backOf (W := 0) (rmIE1 l Z a0 hw [] q h0 n0 (Nat.le_trans Z0 K0.1) F_q_size) hZ (wd hw 167 rfl) (wd hw 28 rfl) (by decide) (by decide)) q2023a q2023c (g := (mkF m 88 #[.val (.ref A), .val (.double (FP.l2d it)), .second, .val (.double (FP.l2d (it - 10))), .second, .unset, .unset, .unset] [(.ref q)])) rfl (by rw [hml]; rfl) (Steps.refl _) (argsL := []) (rest := []) (lenOf pd_10 rfl) rfl (by show 2 * 0 + _ ≤ _; exact Nat.le_of_eq rfl) (hb hby dFG_88) (fun _ _ => ⟨rfl, e2022, (by decide : 0 + 0 ≤ _), (by decide : 0 + 0 ≤ _)⟩)
 dsimp only [Pt.U, Pt.locs, Pt.cells, Pt.slots] at X2023 l2023 y2023 z2023 st2023 hQ2023
 rw [l2023, y2023, z2023] at X2023
 obtain ⟨hv2023, Nq2023, eq2023⟩ := hQ2023
 rw [hv2023] at st2023
 have N2023 := Fr.app N2021 Nq2023
 obtain ⟨T2024, X2024, e2024, st2024⟩ := getF X2023 hx hZ hown (host := "") (Or.inl (wd hw 58 rfl)) Via.refl eq2023 F_A_completionEvents (g := (mkF m 95 #[.val (.ref A), .val (.double (FP.l2d it)), .second, .val (.double (FP.l2d (it - 10))), .second, .unset, .unset, .unset] [(.ref A)])) rfl rfl (hb hby dFG_95)
 obtain ⟨cq2025, kq2025, q2025a, q2025b, q2025c⟩ := isOf hZ e2024 E_q
 obtain ⟨_, _, ⟨T2025, L2025, k2025, n2025⟩, -, X2025, ⟨Lc2025, hQ2025, l2025, y2025, z2025⟩, st2025⟩ := X2024.virtualBack hx (y := (⟨sRQ, "firstDouble", "(I)D"⟩ : MethodName)) (z := (⟨sRQ, "firstDouble", "(I)D"⟩ : MethodName)) hown (mvT hZ (wd hw 168 rfl)) (mvT hZ (wd hw 169 rfl)) (notFace_of_selects (args := #[]) (mvT hZ (wd hw 171 rfl))) (mvT hZ (wd hw 171 rfl)) (mvT hZ (wd hw 170 rfl)) (by decide) (backOf (W := 0) (rmFD00 l Z a0 hw [] q b bd d0 d1 kbd kd t1 0 h0 n0 (Nat.le_trans Z0 K0.1) F_q_first F_q_head F_b_doubles V_bd V_d0) hZ (wd hw 172 rfl) (wd hw 28 rfl) (by decide) (by decide)) q2025a q2025c (g := (mkF m 99 #[.val (.ref A), .val (.double (FP.l2d it)), .second, .val (.double (FP.l2d (it - 10))), .second, .unset, .unset, .unset] [(.int (0 : Int32)), (.ref q)])) rfl (by rw [hml]; rfl) (Steps.refl _) (argsL := [(.int (0 : Int32))]) (rest := []) (lenOf pd_11 rfl) rfl (by show 2 * 0 + _ ≤ _; exact Nat.le_of_eq rfl) (hb hby dFG_99) (fun _ _ => ⟨rfl, e2024, (by decide : 0 + 0 ≤ _), (by decide : 0 + 0 ≤ _)⟩)
 dsimp only [Pt.U, Pt.locs, Pt.cells, Pt.slots] at X2025 l2025 y2025 z2025 st2025 hQ2025
 rw [l2025, y2025, z2025] at X2025
 obtain ⟨hv2025, Nq2025, eq2025⟩ := hQ2025
 rw [hv2025] at st2025
 have N2025 := Fr.app N2023 Nq2025
 obtain ⟨fs, hr, hrun, hended, hW, hsame⟩ := X2025.leave (v := none) (fun _ => rfl)
 refine ⟨_, _, ?_, hrun, hended, _, _, rfl, ?_, ⟨_, rfl⟩, hW, hsame.mono (by decide) (by decide)⟩
 ·refine pre0 _ ?_
  show Steps _ _ _ (s₁.setTop (mkF m 0 #[.val (.ref A), .val (.double (FP.l2d it)), .second, .unset, .unset, .unset, .unset, .unset] [])) _
  refine XS.dloadN X0.here hx rfl (hb hby dFG_0) rfl ?_
  refine XS.aloadN X0.here hx rfl (hb hby dFG_1) rfl rfl ?_
  refine st2018 _ ?_
  refine XS.dcmpS X2018.here hx rfl (hb hby dFG_5) rfl (v := (lcmpW it 100)) (own_cmpw hib own_b100 (by decide) (by decide) _) ?_
  show Steps _ _ _ (T2018.setTop (mkF m 6 #[.val (.ref A), .val (.double (FP.l2d it)), .second, .unset, .unset, .unset, .unset, .unset] [(.int (lcmpW it 100))])) _
  refine XS.ifYes X2018.here hx rfl (pc0 := 6) (pc' := 27) rfl (hb hby dFG_6) rfl ((if0 _ _).trans (tlt ((lw_lt _ _).mpr hi100)).1) (by decide) (by decide) ?_
  refine XS.dloadN X2018.here hx rfl (hb hby dFG_27) rfl ?_
  refine XS.aloadN X2018.here hx rfl (hb hby dFG_28) rfl rfl ?_
  refine st2019 _ ?_
  show Steps _ _ _ (T2019.setTop (mkF m 32 #[.val (.ref A), .val (.double (FP.l2d it)), .second, .unset, .unset, .unset, .unset, .unset] [(.double (FP.l2d 10)), (.double (FP.l2d it))])) _
  refine XS.dsubS X2019.here hx rfl (hb hby dFG_32) rfl (v := (FP.l2d (it - 10))) (nn_w (own_sub hib own_b10 (by decide) (by decide))) (own_sub hib own_b10 (by decide) (by decide)) ?_
  refine XS.dstoreN X2019.here hx rfl (hb hby dFG_33) rfl (l' := #[.val (.ref A), .val (.double (FP.l2d it)), .second, .val (.double (FP.l2d (it - 10))), .second, .unset, .unset, .unset]) rfl ?_
  refine XS.aloadN X2019.here hx rfl (hb hby dFG_34) rfl rfl ?_
  refine st2020 _ ?_
  refine st2021.trans ?_
  show Steps _ _ _ (T2021.setTop (mkF m 41 #[.val (.ref A), .val (.double (FP.l2d it)), .second, .val (.double (FP.l2d (it - 10))), .second, .unset, .unset, .unset] [(.int (1 : Int32))])) _
  refine XS.ifYes X2021.here hx rfl (pc0 := 41) (pc' := 84) rfl (hb hby dFG_41) rfl (by decide) (by decide) (by decide) ?_
  refine XS.aloadN X2021.here hx rfl (hb hby dFG_84) rfl rfl ?_
  refine st2022 _ ?_
  refine st2023.trans ?_
  show Steps _ _ _ (T2023.setTop (mkF m 91 #[.val (.ref A), .val (.double (FP.l2d it)), .second, .val (.double (FP.l2d (it - 10))), .second, .unset, .unset, .unset] [(.int (0 : Int32))])) _
  refine XS.ifNo X2023.here hx rfl (hb hby dFG_91) rfl (by decide) ?_
  refine XS.aloadN X2023.here hx rfl (hb hby dFG_94) rfl rfl ?_
  refine st2024 _ ?_
  refine XS.iconst X2024.here hx rfl (hb hby dFG_98) ?_
  refine st2025.trans ?_
  show Steps _ _ _ (T2025.setTop (mkF m 102 #[.val (.ref A), .val (.double (FP.l2d it)), .second, .val (.double (FP.l2d (it - 10))), .second, .unset, .unset, .unset] [(.double (FP.l2d t1))])) _
  refine XS.dloadN X2025.here hx rfl (hb hby dFG_102) rfl ?_
  refine XS.dcmpS X2025.here hx rfl (hb hby dFG_103) rfl (v := (lcmpW t1 (it - 10))) (own_cmpw htb1 hob (by decide) (by decide) _) ?_
  refine XS.ifYes X2025.here hx rfl (pc0 := 104) (pc' := 160) rfl (hb hby dFG_104) rfl ((if0 _ _).trans (tlt ((lw_gt _ _).mpr hr1)).2.2.1) (by decide) (by decide) ?_
  show Steps _ _ _ (T2025.setTop (mkF m 160 #[.val (.ref A), .val (.double (FP.l2d it)), .second, .val (.double (FP.l2d (it - 10))), .second, .unset, .unset, .unset] [])) _
  exact X2025.returnOut hx Bd.returns (hb hby dFG_160) hr
 ·show QFG10 Z A it ec el qa q kec kel n f g p1 t1 l1 h0 n0 _ T2025.heap _
  rw [eq2025]
  exact ⟨rfl, N2025, K0.1, E_A, F_A_executorCompleted, F_A_executorLatencySum, V_ec, V_el⟩
theorem dFG_107 : decode prog_63_method_5_code 107 = .ok (.aload_n 0, 1) := by decide +kernel
theorem dFG_108 : decode prog_63_method_5_code 108 = .ok (.getfield 26, 3) := by decide +kernel
theorem dFG_111 : decode prog_63_method_5_code 111 = .ok (.iconst 0, 1) := by decide +kernel
theorem dFG_112 : decode prog_63_method_5_code 112 = .ok (.invokevirtual 84, 3) := by decide +kernel
theorem pd_12 : parseMethodDescriptor "(I)I" = some ⟨[.int], some .int⟩ := by decide +kernel
theorem dFG_115 : decode prog_63_method_5_code 115 = .ok (.istore 5, 2) := by decide +kernel
theorem dFG_117 : decode prog_63_method_5_code 117 = .ok (.aload_n 0, 1) := by decide +kernel
theorem dFG_118 : decode prog_63_method_5_code 118 = .ok (.getfield 26, 3) := by decide +kernel
theorem dFG_121 : decode prog_63_method_5_code 121 = .ok (.iconst 1, 1) := by decide +kernel
theorem dFG_122 : decode prog_63_method_5_code 122 = .ok (.invokevirtual 80, 3) := by decide +kernel
theorem dFG_125 : decode prog_63_method_5_code 125 = .ok (.dstore 6, 2) := by decide +kernel
theorem dFG_127 : decode prog_63_method_5_code 127 = .ok (.aload_n 0, 1) := by decide +kernel
theorem dFG_128 : decode prog_63_method_5_code 128 = .ok (.getfield 7, 3) := by decide +kernel
theorem dFG_131 : decode prog_63_method_5_code 131 = .ok (.iload 5, 2) := by decide +kernel
theorem dFG_133 : decode prog_63_method_5_code 133 = .ok (.dup2, 1) := by decide +kernel
theorem dFG_134 : decode prog_63_method_5_code 134 = .ok (.laload, 1) := by decide +kernel
theorem dFG_135 : decode prog_63_method_5_code 135 = .ok (.lconst 1, 1) := by decide +kernel
theorem dFG_136 : decode prog_63_method_5_code 136 = .ok (.lsub, 1) := by decide +kernel
theorem dFG_137 : decode prog_63_method_5_code 137 = .ok (.lastore, 1) := by decide +kernel
theorem dFG_138 : decode prog_63_method_5_code 138 = .ok (.aload_n 0, 1) := by decide +kernel
theorem dFG_139 : decode prog_63_method_5_code 139 = .ok (.getfield 13, 3) := by decide +kernel
theorem dFG_142 : decode prog_63_method_5_code 142 = .ok (.iload 5, 2) := by decide +kernel
theorem dFG_144 : decode prog_63_method_5_code 144 = .ok (.dup2, 1) := by decide +kernel
theorem dFG_145 : decode prog_63_method_5_code 145 = .ok (.daload, 1) := by decide +kernel
theorem dFG_146 : decode prog_63_method_5_code 146 = .ok (.dload 6, 2) := by decide +kernel
theorem dFG_148 : decode prog_63_method_5_code 148 = .ok (.dsub, 1) := by decide +kernel
theorem dFG_149 : decode prog_63_method_5_code 149 = .ok (.dastore, 1) := by decide +kernel
theorem dFG_150 : decode prog_63_method_5_code 150 = .ok (.aload_n 0, 1) := by decide +kernel
theorem dFG_151 : decode prog_63_method_5_code 151 = .ok (.getfield 26, 3) := by decide +kernel
theorem dFG_154 : decode prog_63_method_5_code 154 = .ok (.invokevirtual 88, 3) := by decide +kernel
theorem dFG_157 : decode prog_63_method_5_code 157 = .ok (.goto (-73), 3) := by decide +kernel
theorem ef_FG11 (m : MethodId) (x0 : Addr) (x1 : UInt64) : entryFrame m #[(.ref x0), (.double x1)] 8 = mkF m 0 #[.val (.ref x0), .val (.double x1), .second, .unset, .unset, .unset, .unset, .unset] [] := by first | (simp [entryFrame, mkF, argsToLocals, Value.category]; done) | rfl
def QFG11 (Z : State) (A : Addr) (it : Int64) (ec : Addr) (el : Addr) (qa : Addr) (q : Addr) (kec : ClassId) (kel : ClassId) (n : Int32) (f : Nat → Int64) (g : Nat → Int64) (p1 : Int32) (t1 : Int64) (l1 : Int64) (h0 : Heap) (n0 : Nat) (v : Option Value) (h : Heap) (L : List Loc) : Prop := v = none ∧ Fr n0 L ∧ h0.size ≤ h.size ∧ Exa Z h A sRA ∧ Fld Z h A sRA "executorCompleted" "[J" (.ref ec) ∧ Fld Z h A sRA "executorLatencySum" "[D" (.ref el) ∧ Arv Z h ec kec .long n (own_L (own_upd f p1.toNatClampNeg ((f p1.toNatClampNeg) - (1 : Int64)))) (.long 0) ∧ Arv Z h el kel .double n (own_D (own_upd g p1.toNatClampNeg ((g p1.toNatClampNeg) - l1))) (.double (FP.l2d 0))
set_option maxRecDepth 65536 in
set_option maxHeartbeats 40000000 in
theorem rmFG11 (l : Launch) (Z : State) (a0 : Array Value) (hw : HW Z a0) (ws : List Jvm.Cond) (A : Addr) (it : Int64) (ec : Addr) (el : Addr) (qa : Addr) (q : Addr) (kec : ClassId) (kel : ClassId) (n : Int32) (f : Nat → Int64) (g : Nat → Int64) (p1 : Int32) (t1 : Int64) (l1 : Int64) (h0 : Heap) (n0 : Nat) (Z0 : n0 ≤ h0.size) (S : own_S1 Z h0 n0 A ec el qa q kec kel n f g p1 t1 l1) (hib : own_B 1000 it) (hi100 : it < 100) (hgb : ∀ i, own_B 4294967296 (g i)) (hq10 : ¬ p1 < 0) (hq11 : ¬ (63 : Int32) < p1) (hq1n : p1 < n) (htb1 : own_B 1000 t1) (hlb1 : own_B 2147483648 l1) (hr1 : ¬ (it - 10) < t1) :
  MetFree l (⟨sRA, "forgetUntil", "(D)V"⟩ : MethodName) (head1 (Jvm.Cond.code (⟨sRA, "forgetUntil", "(D)V"⟩ : MethodName) prog_63_method_5_code 8 none :: ws) (Rm 1 0 0 13)) (fun a U => a = #[(.ref A), (.double (FP.l2d it))] ∧ Z.Warmed39 U.vm ∧ U.heap = h0) (fun _ _ _ _ _ => True) (fun _ U o U' => ∃ v L, o = .returned v ∧ QFG11 Z A it ec el qa q kec kel n f g p1 t1 l1 h0 n0 v U'.heap L ∧ FrameEnd U o U' L (Rm 1 0 0 13).cells (Rm 1 0 0 13).slots) := by
 refine MetFree.of_bodySF (plainFor_of_name pn_com_example_frugal_weir_frugalweir_replay_RecentActivity) hisR ?_
 intro p e s m args below meth c s₁ Bd hml0 hP hK
 obtain ⟨rfl, hZ, hh⟩ := hP
 have hx := Bd.exec
 have hby := Bd.bytes
 have hml : c.maxLocals = 8 := hml0
 have hown : s.vm.findClass sRA = some m.cls := findClass_of_methodNamed Bd.named
 have hnm := (name_of_methodNamed Bd.named Bd.method).1
 have X0 : Stand p l e (Rm 1 0 0 13) s m #[(.ref A), (.double (FP.l2d it))] below meth c s₁ [] 0 0 := Stand.of_body Bd
 have e0 : s₁.heap = h0 := by rw [← hh, Bd.state]; rfl
 have N0 := Fr.nil n0
 have pre0 : ∀ t, Steps p.tables e below (s₁.setTop (mkF m 0 #[.val (.ref A), .val (.double (FP.l2d it)), .second, .unset, .unset, .unset, .unset, .unset] [])) t → Steps p.tables e below (s₁.setTop (entryFrame m #[(.ref A), (.double (FP.l2d it))] 8)) t := fun t k => castTop (ef_FG11 m A (FP.l2d it)) k
 obtain ⟨E_A, F_A_window, F_A_asksBefore, F_A_keptUntil, F_A_executorCompleted, F_A_executorLatencySum, F_A_arrivalEvents, F_A_completionEvents, E_qa, F_qa_size, V_ec, V_el, b, bi, i0, bd, d0, d1, kbi, ki, kbd, kd, E_q, F_q_first, F_q_last, F_q_head, F_q_end, F_q_size, E_b, F_b_capacity, F_b_ints, F_b_doubles, V_bi, V_bd, V_i0, V_d0, V_d1, c_A_qa, c_qa_q, c_q_b, c_b_bi, c_bi_i0, c_i0_bd, c_bd_d0, c_d0_d1, ne_ec_A, ne_ec_qa, ne_ec_q, ne_ec_b, ne_ec_bi, ne_ec_i0, ne_ec_bd, ne_ec_d0, ne_ec_d1, ne_el_A, ne_el_qa, ne_el_q, ne_el_b, ne_el_bi, ne_el_i0, ne_el_bd, ne_el_d0, ne_el_d1, ne_ec_el, g_A, g_ec, g_el, g_q, g_b, g_bi, g_i0, g_bd, g_d0, g_d1⟩ := S
 have lt_A_qa : A < qa := c_A_qa
 have ne_A_qa : A ≠ qa := Nat.ne_of_lt lt_A_qa
 have lt_A_q : A < q := Nat.lt_trans lt_A_qa c_qa_q
 have ne_A_q : A ≠ q := Nat.ne_of_lt lt_A_q
 have lt_A_b : A < b := Nat.lt_trans lt_A_q c_q_b
 have ne_A_b : A ≠ b := Nat.ne_of_lt lt_A_b
 have lt_A_bi : A < bi := Nat.lt_trans lt_A_b c_b_bi
 have ne_A_bi : A ≠ bi := Nat.ne_of_lt lt_A_bi
 have lt_A_i0 : A < i0 := Nat.lt_trans lt_A_bi c_bi_i0
 have ne_A_i0 : A ≠ i0 := Nat.ne_of_lt lt_A_i0
 have lt_A_bd : A < bd := Nat.lt_trans lt_A_i0 c_i0_bd
 have ne_A_bd : A ≠ bd := Nat.ne_of_lt lt_A_bd
 have lt_A_d0 : A < d0 := Nat.lt_trans lt_A_bd c_bd_d0
 have ne_A_d0 : A ≠ d0 := Nat.ne_of_lt lt_A_d0
 have lt_A_d1 : A < d1 := Nat.lt_trans lt_A_d0 c_d0_d1
 have ne_A_d1 : A ≠ d1 := Nat.ne_of_lt lt_A_d1
 have lt_qa_q : qa < q := c_qa_q
 have ne_qa_q : qa ≠ q := Nat.ne_of_lt lt_qa_q
 have lt_qa_b : qa < b := Nat.lt_trans lt_qa_q c_q_b
 have ne_qa_b : qa ≠ b := Nat.ne_of_lt lt_qa_b
 have lt_qa_bi : qa < bi := Nat.lt_trans lt_qa_b c_b_bi
 have ne_qa_bi : qa ≠ bi := Nat.ne_of_lt lt_qa_bi
 have lt_qa_i0 : qa < i0 := Nat.lt_trans lt_qa_bi c_bi_i0
 have ne_qa_i0 : qa ≠ i0 := Nat.ne_of_lt lt_qa_i0
 have lt_qa_bd : qa < bd := Nat.lt_trans lt_qa_i0 c_i0_bd
 have ne_qa_bd : qa ≠ bd := Nat.ne_of_lt lt_qa_bd
 have lt_qa_d0 : qa < d0 := Nat.lt_trans lt_qa_bd c_bd_d0
 have ne_qa_d0 : qa ≠ d0 := Nat.ne_of_lt lt_qa_d0
 have lt_qa_d1 : qa < d1 := Nat.lt_trans lt_qa_d0 c_d0_d1
 have ne_qa_d1 : qa ≠ d1 := Nat.ne_of_lt lt_qa_d1
 have lt_q_b : q < b := c_q_b
 have ne_q_b : q ≠ b := Nat.ne_of_lt lt_q_b
 have lt_q_bi : q < bi := Nat.lt_trans lt_q_b c_b_bi
 have ne_q_bi : q ≠ bi := Nat.ne_of_lt lt_q_bi
 have lt_q_i0 : q < i0 := Nat.lt_trans lt_q_bi c_bi_i0
 have ne_q_i0 : q ≠ i0 := Nat.ne_of_lt lt_q_i0
 have lt_q_bd : q < bd := Nat.lt_trans lt_q_i0 c_i0_bd
 have ne_q_bd : q ≠ bd := Nat.ne_of_lt lt_q_bd
 have lt_q_d0 : q < d0 := Nat.lt_trans lt_q_bd c_bd_d0
 have ne_q_d0 : q ≠ d0 := Nat.ne_of_lt lt_q_d0
 have lt_q_d1 : q < d1 := Nat.lt_trans lt_q_d0 c_d0_d1
 have ne_q_d1 : q ≠ d1 := Nat.ne_of_lt lt_q_d1
 have lt_b_bi : b < bi := c_b_bi
 have ne_b_bi : b ≠ bi := Nat.ne_of_lt lt_b_bi
 have lt_b_i0 : b < i0 := Nat.lt_trans lt_b_bi c_bi_i0
 have ne_b_i0 : b ≠ i0 := Nat.ne_of_lt lt_b_i0
 have lt_b_bd : b < bd := Nat.lt_trans lt_b_i0 c_i0_bd
 have ne_b_bd : b ≠ bd := Nat.ne_of_lt lt_b_bd
 have lt_b_d0 : b < d0 := Nat.lt_trans lt_b_bd c_bd_d0
 have ne_b_d0 : b ≠ d0 := Nat.ne_of_lt lt_b_d0
 have lt_b_d1 : b < d1 := Nat.lt_trans lt_b_d0 c_d0_d1
 have ne_b_d1 : b ≠ d1 := Nat.ne_of_lt lt_b_d1
 have lt_bi_i0 : bi < i0 := c_bi_i0
 have ne_bi_i0 : bi ≠ i0 := Nat.ne_of_lt lt_bi_i0
 have lt_bi_bd : bi < bd := Nat.lt_trans lt_bi_i0 c_i0_bd
 have ne_bi_bd : bi ≠ bd := Nat.ne_of_lt lt_bi_bd
 have lt_bi_d0 : bi < d0 := Nat.lt_trans lt_bi_bd c_bd_d0
 have ne_bi_d0 : bi ≠ d0 := Nat.ne_of_lt lt_bi_d0
 have lt_bi_d1 : bi < d1 := Nat.lt_trans lt_bi_d0 c_d0_d1
 have ne_bi_d1 : bi ≠ d1 := Nat.ne_of_lt lt_bi_d1
 have lt_i0_bd : i0 < bd := c_i0_bd
 have ne_i0_bd : i0 ≠ bd := Nat.ne_of_lt lt_i0_bd
 have lt_i0_d0 : i0 < d0 := Nat.lt_trans lt_i0_bd c_bd_d0
 have ne_i0_d0 : i0 ≠ d0 := Nat.ne_of_lt lt_i0_d0
 have lt_i0_d1 : i0 < d1 := Nat.lt_trans lt_i0_d0 c_d0_d1
 have ne_i0_d1 : i0 ≠ d1 := Nat.ne_of_lt lt_i0_d1
 have lt_bd_d0 : bd < d0 := c_bd_d0
 have ne_bd_d0 : bd ≠ d0 := Nat.ne_of_lt lt_bd_d0
 have lt_bd_d1 : bd < d1 := Nat.lt_trans lt_bd_d0 c_d0_d1
 have ne_bd_d1 : bd ≠ d1 := Nat.ne_of_lt lt_bd_d1
 have lt_d0_d1 : d0 < d1 := c_d0_d1
 have ne_d0_d1 : d0 ≠ d1 := Nat.ne_of_lt lt_d0_d1
 have K0 := Keep.refl h0 [A, ec, el, q, b, bi, i0, bd, d0, d1]
 have hx1 : p1.toNatClampNeg < 128 := own_pn hq10 (fun q => hq11 (own_tr (by decide) q))
 have hob : own_B 2000 (it - 10) := own_Bm (own_subB hib own_b10 (by decide)) (by decide)
 obtain ⟨T2026, X2026, e2026, st2026⟩ := getF X0 hx hZ hown (host := "") (Or.inl (wd hw 62 rfl)) Via.refl e0 F_A_asksBefore (g := (mkF m 2 #[.val (.ref A), .val (.double (FP.l2d it)), .second, .unset, .unset, .unset, .unset, .unset] [(.ref A), (.double (FP.l2d it))])) rfl rfl (hb hby dFG_2)
 obtain ⟨T2027, X2027, e2027, st2027⟩ := getF X2026 hx hZ hown (host := "") (Or.inl (wd hw 60 rfl)) Via.refl e2026 F_A_window (g := (mkF m 29 #[.val (.ref A), .val (.double (FP.l2d it)), .second, .unset, .unset, .unset, .unset, .unset] [(.ref A), (.double (FP.l2d it))])) rfl rfl (hb hby dFG_29)
 obtain ⟨T2028, X2028, e2028, st2028⟩ := getF X2027 hx hZ hown (host := "") (Or.inl (wd hw 56 rfl)) Via.refl e2027 F_A_arrivalEvents (g := (mkF m 35 #[.val (.ref A), .val (.double (FP.l2d it)), .second, .val (.double (FP.l2d (it - 10))), .second, .unset, .unset, .unset] [(.ref A)])) rfl rfl (hb hby dFG_35)
 obtain ⟨cq2029, kq2029, q2029a, q2029b, q2029c⟩ := isOf hZ e2028 E_qa
 obtain ⟨_, _, ⟨T2029, L2029, k2029, n2029⟩, -, X2029, ⟨Lc2029, hQ2029, l2029, y2029, z2029⟩, st2029⟩ := X2028.virtualBack hx (y := (⟨sRQ, "isEmpty", "()Z"⟩ : MethodName)) (z := (⟨sRQ, "isEmpty", "()Z"⟩ : MethodName)) hown (mvT hZ (wd hw 163 rfl)) (mvT hZ (wd hw 164 rfl)) (notFace_of_selects (args := #[]) (mvT hZ (wd hw 166 rfl))) (mvT hZ (wd hw 166 rfl)) (mvT hZ (wd hw 165 rfl)) (by decide) (backOf (W := 0) (rmIE0 l Z a0 hw [] qa h0 n0 (Nat.le_trans Z0 K0.1) F_qa_size) hZ (wd hw 167 rfl) (wd hw 28 rfl) (by decide) (by decide)) q2029a q2029c (g := (mkF m 38 #[.val (.ref A), .val (.double (FP.l2d it)), .second, .val (.double (FP.l2d (it - 10))), .second, .unset, .unset, .unset] [(.ref qa)])) rfl (by rw [hml]; rfl) (Steps.refl _) (argsL := []) (rest := []) (lenOf pd_10 rfl) rfl (by show 2 * 0 + _ ≤ _; exact Nat.le_of_eq rfl) (hb hby dFG_38) (fun _ _ => ⟨rfl, e2028, (by decide : 0 + 0 ≤ _), (by decide : 0 + 0 ≤ _)⟩)
 dsimp only [Pt.U, Pt.locs, Pt.cells, Pt.slots] at X2029 l2029 y2029 z2029 st2029 hQ2029
 rw [l2029, y2029, z2029] at X2029
 obtain ⟨hv2029, Nq2029, eq2029⟩ := hQ2029
 rw [hv2029] at st2029
 have N2029 := Fr.app N0 Nq2029
 obtain ⟨T2030, X2030, e2030, st2030⟩ := getF X2029 hx hZ hown (host := "") (Or.inl (wd hw 58 rfl)) Via.refl eq2029 F_A_completionEvents (g := (mkF m 85 #[.val (.ref A), .val (.double (FP.l2d it)), .second, .val (.double (FP.l2d (it - 10))), .second, .unset, .unset, .unset] [(.ref A)])) rfl rfl (hb hby dFG_85)
 obtain ⟨cq2031, kq2031, q2031a, q2031b, q2031c⟩ := isOf hZ e2030 E_q
 obtain ⟨_, _, ⟨T2031, L2031, k2031, n2031⟩, -, X2031, ⟨Lc2031, hQ2031, l2031, y2031, z2031⟩, st2031⟩ := X2030.virtualBack hx (y := (⟨sRQ, "isEmpty", "()Z"⟩ : MethodName)) (z := (⟨sRQ, "isEmpty", "()Z"⟩ : MethodName)) hown (mvT hZ (wd hw 163 rfl)) (mvT hZ (wd hw 164 rfl)) (notFace_of_selects (args := #[]) (mvT hZ (wd hw 166 rfl))) (mvT hZ (wd hw 166 rfl)) (mvT hZ (wd hw 165 rfl)) (by decide) (backOf (W := 0) (rmIE1 l Z a0 hw [] q h0 n0 (Nat.le_trans Z0 K0.1) F_q_size) hZ (wd hw 167 rfl) (wd hw 28 rfl) (by decide) (by decide)) q2031a q2031c (g := (mkF m 88 #[.val (.ref A), .val (.double (FP.l2d it)), .second, .val (.double (FP.l2d (it - 10))), .second, .unset, .unset, .unset] [(.ref q)])) rfl (by rw [hml]; rfl) (Steps.refl _) (argsL := []) (rest := []) (lenOf pd_10 rfl) rfl (by show 2 * 0 + _ ≤ _; exact Nat.le_of_eq rfl) (hb hby dFG_88) (fun _ _ => ⟨rfl, e2030, (by decide : 0 + 0 ≤ _), (by decide : 0 + 0 ≤ _)⟩)
 dsimp only [Pt.U, Pt.locs, Pt.cells, Pt.slots] at X2031 l2031 y2031 z2031 st2031 hQ2031
 rw [l2031, y2031, z2031] at X2031
 obtain ⟨hv2031, Nq2031, eq2031⟩ := hQ2031
 rw [hv2031] at st2031
 have N2031 := Fr.app N2029 Nq2031
 obtain ⟨T2032, X2032, e2032, st2032⟩ := getF X2031 hx hZ hown (host := "") (Or.inl (wd hw 58 rfl)) Via.refl eq2031 F_A_completionEvents (g := (mkF m 95 #[.val (.ref A), .val (.double (FP.l2d it)), .second, .val (.double (FP.l2d (it - 10))), .second, .unset, .unset, .unset] [(.ref A)])) rfl rfl (hb hby dFG_95)
 obtain ⟨cq2033, kq2033, q2033a, q2033b, q2033c⟩ := isOf hZ e2032 E_q
 obtain ⟨_, _, ⟨T2033, L2033, k2033, n2033⟩, -, X2033, ⟨Lc2033, hQ2033, l2033, y2033, z2033⟩, st2033⟩ := X2032.virtualBack hx (y := (⟨sRQ, "firstDouble", "(I)D"⟩ : MethodName)) (z := (⟨sRQ, "firstDouble", "(I)D"⟩ : MethodName)) hown (mvT hZ (wd hw 168 rfl)) (mvT hZ (wd hw 169 rfl)) (notFace_of_selects (args := #[]) (mvT hZ (wd hw 171 rfl))) (mvT hZ (wd hw 171 rfl)) (mvT hZ (wd hw 170 rfl)) (by decide) (backOf (W := 0) (rmFD00 l Z a0 hw [] q b bd d0 d1 kbd kd t1 0 h0 n0 (Nat.le_trans Z0 K0.1) F_q_first F_q_head F_b_doubles V_bd V_d0) hZ (wd hw 172 rfl) (wd hw 28 rfl) (by decide) (by decide)) q2033a q2033c (g := (mkF m 99 #[.val (.ref A), .val (.double (FP.l2d it)), .second, .val (.double (FP.l2d (it - 10))), .second, .unset, .unset, .unset] [(.int (0 : Int32)), (.ref q)])) rfl (by rw [hml]; rfl) (Steps.refl _) (argsL := [(.int (0 : Int32))]) (rest := []) (lenOf pd_11 rfl) rfl (by show 2 * 0 + _ ≤ _; exact Nat.le_of_eq rfl) (hb hby dFG_99) (fun _ _ => ⟨rfl, e2032, (by decide : 0 + 0 ≤ _), (by decide : 0 + 0 ≤ _)⟩)
 dsimp only [Pt.U, Pt.locs, Pt.cells, Pt.slots] at X2033 l2033 y2033 z2033 st2033 hQ2033
 rw [l2033, y2033, z2033] at X2033
 obtain ⟨hv2033, Nq2033, eq2033⟩ := hQ2033
 rw [hv2033] at st2033
 have N2033 := Fr.app N2031 Nq2033
 obtain ⟨T2034, X2034, e2034, st2034⟩ := getF X2033 hx hZ hown (host := "") (Or.inl (wd hw 58 rfl)) Via.refl eq2033 F_A_completionEvents (g := (mkF m 108 #[.val (.ref A), .val (.double (FP.l2d it)), .second, .val (.double (FP.l2d (it - 10))), .second, .unset, .unset, .unset] [(.ref A)])) rfl rfl (hb hby dFG_108)
 obtain ⟨cq2035, kq2035, q2035a, q2035b, q2035c⟩ := isOf hZ e2034 E_q
 obtain ⟨_, _, ⟨T2035, L2035, k2035, n2035⟩, -, X2035, ⟨Lc2035, hQ2035, l2035, y2035, z2035⟩, st2035⟩ := X2034.virtualBack hx (y := (⟨sRQ, "firstInt", "(I)I"⟩ : MethodName)) (z := (⟨sRQ, "firstInt", "(I)I"⟩ : MethodName)) hown (mvT hZ (wd hw 175 rfl)) (mvT hZ (wd hw 176 rfl)) (notFace_of_selects (args := #[]) (mvT hZ (wd hw 178 rfl))) (mvT hZ (wd hw 178 rfl)) (mvT hZ (wd hw 177 rfl)) (by decide) (backOf (W := 0) (rmFI0 l Z a0 hw [] q b bi i0 kbi ki p1 (0 : Int32) h0 n0 (Nat.le_trans Z0 K0.1) F_q_first F_q_head F_b_ints V_bi V_i0) hZ (wd hw 179 rfl) (wd hw 28 rfl) (by decide) (by decide)) q2035a q2035c (g := (mkF m 112 #[.val (.ref A), .val (.double (FP.l2d it)), .second, .val (.double (FP.l2d (it - 10))), .second, .unset, .unset, .unset] [(.int (0 : Int32)), (.ref q)])) rfl (by rw [hml]; rfl) (Steps.refl _) (argsL := [(.int (0 : Int32))]) (rest := []) (lenOf pd_12 rfl) rfl (by show 2 * 0 + _ ≤ _; exact Nat.le_of_eq rfl) (hb hby dFG_112) (fun _ _ => ⟨rfl, e2034, (by decide : 0 + 0 ≤ _), (by decide : 0 + 0 ≤ _)⟩)
 dsimp only [Pt.U, Pt.locs, Pt.cells, Pt.slots] at X2035 l2035 y2035 z2035 st2035 hQ2035
 rw [l2035, y2035, z2035] at X2035
 obtain ⟨hv2035, Nq2035, eq2035⟩ := hQ2035
 rw [hv2035] at st2035
 have N2035 := Fr.app N2033 Nq2035
 obtain ⟨T2036, X2036, e2036, st2036⟩ := getF X2035 hx hZ hown (host := "") (Or.inl (wd hw 58 rfl)) Via.refl eq2035 F_A_completionEvents (g := (mkF m 118 #[.val (.ref A), .val (.double (FP.l2d it)), .second, .val (.double (FP.l2d (it - 10))), .second, .val (.int p1), .unset, .unset] [(.ref A)])) rfl rfl (hb hby dFG_118)
 obtain ⟨cq2037, kq2037, q2037a, q2037b, q2037c⟩ := isOf hZ e2036 E_q
 obtain ⟨_, _, ⟨T2037, L2037, k2037, n2037⟩, -, X2037, ⟨Lc2037, hQ2037, l2037, y2037, z2037⟩, st2037⟩ := X2036.virtualBack hx (y := (⟨sRQ, "firstDouble", "(I)D"⟩ : MethodName)) (z := (⟨sRQ, "firstDouble", "(I)D"⟩ : MethodName)) hown (mvT hZ (wd hw 168 rfl)) (mvT hZ (wd hw 169 rfl)) (notFace_of_selects (args := #[]) (mvT hZ (wd hw 171 rfl))) (mvT hZ (wd hw 171 rfl)) (mvT hZ (wd hw 170 rfl)) (by decide) (backOf (W := 0) (rmFD10 l Z a0 hw [] q b bd d0 d1 kbd kd l1 0 h0 n0 (Nat.le_trans Z0 K0.1) F_q_first F_q_head F_b_doubles V_bd V_d1) hZ (wd hw 172 rfl) (wd hw 28 rfl) (by decide) (by decide)) q2037a q2037c (g := (mkF m 122 #[.val (.ref A), .val (.double (FP.l2d it)), .second, .val (.double (FP.l2d (it - 10))), .second, .val (.int p1), .unset, .unset] [(.int (1 : Int32)), (.ref q)])) rfl (by rw [hml]; rfl) (Steps.refl _) (argsL := [(.int (1 : Int32))]) (rest := []) (lenOf pd_11 rfl) rfl (by show 2 * 0 + _ ≤ _; exact Nat.le_of_eq rfl) (hb hby dFG_122) (fun _ _ => ⟨rfl, e2036, (by decide : 0 + 0 ≤ _), (by decide : 0 + 0 ≤ _)⟩)
 dsimp only [Pt.U, Pt.locs, Pt.cells, Pt.slots] at X2037 l2037 y2037 z2037 st2037 hQ2037
 rw [l2037, y2037, z2037] at X2037
 obtain ⟨hv2037, Nq2037, eq2037⟩ := hQ2037
 rw [hv2037] at st2037
 have N2037 := Fr.app N2035 Nq2037
 obtain ⟨T2038, X2038, e2038, st2038⟩ := getF X2037 hx hZ hown (host := "") (Or.inl (wd hw 21 rfl)) Via.refl eq2037 F_A_executorCompleted (g := (mkF m 128 #[.val (.ref A), .val (.double (FP.l2d it)), .second, .val (.double (FP.l2d (it - 10))), .second, .val (.int p1), .val (.double (FP.l2d l1)), .second] [(.ref A)])) rfl rfl (hb hby dFG_128)
 obtain ⟨cl2039, Ar2039, q2039, S2039, N2039, H2039, G2039⟩ := id V_ec
 have hin2039 : ¬ (p1 < 0 ∨ cl2039.slots.size ≤ (p1).toNatClampNeg) := (inb_of S2039 ⟨hq10, hq1n⟩)
 have hat2039 : cl2039.slots[(p1).toNatClampNeg]? = some (.long (f p1.toNatClampNeg)) := (H2039.at (inb_of S2039 ⟨hq10, hq1n⟩) (own_Lget _ hx1 _))
 obtain ⟨cl2040, Ar2040, q2040, S2040, N2040, H2040, G2040⟩ := id V_ec
 have hin2040 : ¬ (p1 < 0 ∨ cl2040.slots.size ≤ (p1).toNatClampNeg) := (inb_of S2040 ⟨hq10, hq1n⟩)
 obtain ⟨T2041, h2041, X2041, e2041, W2041, st2041⟩ := stJ X2038 hx hZ e2038 Ar2040 (j := p1) hin2040 (g := (mkF m 137 #[.val (.ref A), .val (.double (FP.l2d it)), .second, .val (.double (FP.l2d (it - 10))), .second, .val (.int p1), .val (.double (FP.l2d l1)), .second] [(.long ((f p1.toNatClampNeg) - (1 : Int64))), (.int p1), (.ref ec)])) rfl rfl (hb hby dFG_137)
 have V2041 := Arv.set Ar2040 q2040 S2040 N2040 H2040 G2040 rfl W2041 p1.toNatClampNeg rfl (by rw [own_Llen]; exact hx1)
 rw [own_Lset] at V2041
 have K2041 : Keep h0 h2041 [A, ec, el, q, b, bi, i0, bd, d0, d1] := K0.wr W2041 (Or.inl (List.mem_of_getElem? (i := 1) rfl))
 have N2041F := Fr.snoc X2041 N2037 g_ec
 have f2042 := F_A_executorLatencySum.other W2041 (Or.inl (Ne.symm ne_ec_A))
 obtain ⟨T2043, X2043, e2043, st2043⟩ := getF X2041 hx hZ hown (host := "") (Or.inl (wd hw 24 rfl)) Via.refl e2041 f2042 (g := (mkF m 139 #[.val (.ref A), .val (.double (FP.l2d it)), .second, .val (.double (FP.l2d (it - 10))), .second, .val (.int p1), .val (.double (FP.l2d l1)), .second] [(.ref A)])) rfl rfl (hb hby dFG_139)
 have f2045 := V_el.other W2041 (Ne.symm ne_ec_el)
 obtain ⟨cl2044, Ar2044, q2044, S2044, N2044, H2044, G2044⟩ := id f2045
 have hin2044 : ¬ (p1 < 0 ∨ cl2044.slots.size ≤ (p1).toNatClampNeg) := (inb_of S2044 ⟨hq10, hq1n⟩)
 have hat2044 : cl2044.slots[(p1).toNatClampNeg]? = some (.double (FP.l2d (g p1.toNatClampNeg))) := (H2044.at (inb_of S2044 ⟨hq10, hq1n⟩) (own_Dget _ hx1 _))
 obtain ⟨cl2046, Ar2046, q2046, S2046, N2046, H2046, G2046⟩ := id f2045
 have hin2046 : ¬ (p1 < 0 ∨ cl2046.slots.size ≤ (p1).toNatClampNeg) := (inb_of S2046 ⟨hq10, hq1n⟩)
 obtain ⟨T2047, h2047, X2047, e2047, W2047, st2047⟩ := stD X2043 hx hZ e2043 Ar2046 (j := p1) hin2046 (g := (mkF m 149 #[.val (.ref A), .val (.double (FP.l2d it)), .second, .val (.double (FP.l2d (it - 10))), .second, .val (.int p1), .val (.double (FP.l2d l1)), .second] [(.double (FP.l2d ((g p1.toNatClampNeg) - l1))), (.int p1), (.ref el)])) rfl rfl (hb hby dFG_149)
 have V2047 := Arv.set Ar2046 q2046 S2046 N2046 H2046 G2046 rfl W2047 p1.toNatClampNeg rfl (by rw [own_Dlen]; exact hx1)
 rw [own_Dset] at V2047
 have K2047 : Keep h0 h2047 [A, ec, el, q, b, bi, i0, bd, d0, d1] := K2041.wr W2047 (Or.inl (List.mem_of_getElem? (i := 2) rfl))
 have N2047F := Fr.snoc X2047 N2041F g_el
 have f2049 := (F_A_completionEvents.other W2041 (Or.inl (Ne.symm ne_ec_A))).other W2047 (Or.inl (Ne.symm ne_el_A))
 obtain ⟨T2050, X2050, e2050, st2050⟩ := getF X2047 hx hZ hown (host := "") (Or.inl (wd hw 58 rfl)) Via.refl e2047 f2049 (g := (mkF m 151 #[.val (.ref A), .val (.double (FP.l2d it)), .second, .val (.double (FP.l2d (it - 10))), .second, .val (.int p1), .val (.double (FP.l2d l1)), .second] [(.ref A)])) rfl rfl (hb hby dFG_151)
 have f2053 := (E_q.wr W2041).wr W2047
 have f2055 := (F_q_first.other W2041 (Or.inl (Ne.symm ne_ec_q))).other W2047 (Or.inl (Ne.symm ne_el_q))
 have f2057 := (F_q_head.other W2041 (Or.inl (Ne.symm ne_ec_q))).other W2047 (Or.inl (Ne.symm ne_el_q))
 have f2059 := (F_q_end.other W2041 (Or.inl (Ne.symm ne_ec_q))).other W2047 (Or.inl (Ne.symm ne_el_q))
 have f2061 := (F_q_size.other W2041 (Or.inl (Ne.symm ne_ec_q))).other W2047 (Or.inl (Ne.symm ne_el_q))
 have f2063 := (F_b_capacity.other W2041 (Or.inl (Ne.symm ne_ec_b))).other W2047 (Or.inl (Ne.symm ne_el_b))
 obtain ⟨cq2051, kq2051, q2051a, q2051b, q2051c⟩ := isOf hZ e2050 f2053
 obtain ⟨_, _, ⟨T2051, L2051, k2051, n2051⟩, -, X2051, ⟨Lc2051, hQ2051, l2051, y2051, z2051⟩, st2051⟩ := X2050.virtualBack hx (y := (⟨sRQ, "removeFirst", "()V"⟩ : MethodName)) (z := (⟨sRQ, "removeFirst", "()V"⟩ : MethodName)) hown (mvT hZ (wd hw 180 rfl)) (mvT hZ (wd hw 181 rfl)) (notFace_of_selects (args := #[]) (mvT hZ (wd hw 183 rfl))) (mvT hZ (wd hw 183 rfl)) (mvT hZ (wd hw 182 rfl)) (by decide) (backOf (W := 0) (rmRF10 l Z a0 hw [] q b (1 : Int32) h2047 n0 (Nat.le_trans Z0 K2047.1) f2053 f2055 f2057 f2059 f2061 f2063 ne_q_b g_q) hZ (wd hw 184 rfl) (wd hw 28 rfl) (by decide) (by decide)) q2051a q2051c (g := (mkF m 154 #[.val (.ref A), .val (.double (FP.l2d it)), .second, .val (.double (FP.l2d (it - 10))), .second, .val (.int p1), .val (.double (FP.l2d l1)), .second] [(.ref q)])) rfl (by rw [hml]; rfl) (Steps.refl _) (argsL := []) (rest := []) (lenOf pd_1 rfl) rfl (by show 2 * 0 + _ ≤ _; exact Nat.le_of_eq rfl) (hb hby dFG_154) (fun _ _ => ⟨rfl, e2050, (by decide : 0 + 0 ≤ _), (by decide : 0 + 0 ≤ _)⟩)
 dsimp only [Pt.U, Pt.locs, Pt.cells, Pt.slots] at X2051 l2051 y2051 z2051 st2051 hQ2051
 rw [l2051, y2051, z2051] at X2051
 obtain ⟨hv2051, Nq2051, Kc2051, Eq2051, Fqfirst2051, Fqhead2051, Fqend2051, Fqsize2051⟩ := hQ2051
 rw [hv2051] at st2051
 have K2051 : Keep h0 T2051.heap [A, ec, el, q, b, bi, i0, bd, d0, d1] := K2047.trans Kc2051 (allS (P := fun x => x ∈ [A, ec, el, q, b, bi, i0, bd, d0, d1] ∨ h0.size ≤ x) (Or.inl (List.mem_of_getElem? (i := 3) rfl)) all0)
 have N2051 := Fr.app N2047F Nq2051
 have f2064 := f2049.keep Kc2051 (ninS ne_A_q nin0)
 obtain ⟨T2065, X2065, e2065, st2065⟩ := getF X2051 hx hZ hown (host := "") (Or.inl (wd hw 58 rfl)) Via.refl rfl f2064 (g := (mkF m 85 #[.val (.ref A), .val (.double (FP.l2d it)), .second, .val (.double (FP.l2d (it - 10))), .second, .val (.int p1), .val (.double (FP.l2d l1)), .second] [(.ref A)])) rfl rfl (hb hby dFG_85)
 obtain ⟨cq2066, kq2066, q2066a, q2066b, q2066c⟩ := isOf hZ e2065 Eq2051
 obtain ⟨_, _, ⟨T2066, L2066, k2066, n2066⟩, -, X2066, ⟨Lc2066, hQ2066, l2066, y2066, z2066⟩, st2066⟩ := X2065.virtualBack hx (y := (⟨sRQ, "isEmpty", "()Z"⟩ : MethodName)) (z := (⟨sRQ, "isEmpty", "()Z"⟩ : MethodName)) hown (mvT hZ (wd hw 163 rfl)) (mvT hZ (wd hw 164 rfl)) (notFace_of_selects (args := #[]) (mvT hZ (wd hw 166 rfl))) (mvT hZ (wd hw 166 rfl)) (mvT hZ (wd hw 165 rfl)) (by decide) (backOf (W := 0) (rmIE0 l Z a0 hw [] q T2051.heap n0 (Nat.le_trans Z0 K2051.1) Fqsize2051) hZ (wd hw 167 rfl) (wd hw 28 rfl) (by decide) (by decide)) q2066a q2066c (g := (mkF m 88 #[.val (.ref A), .val (.double (FP.l2d it)), .second, .val (.double (FP.l2d (it - 10))), .second, .val (.int p1), .val (.double (FP.l2d l1)), .second] [(.ref q)])) rfl (by rw [hml]; rfl) (Steps.refl _) (argsL := []) (rest := []) (lenOf pd_10 rfl) rfl (by show 2 * 0 + _ ≤ _; exact Nat.le_of_eq rfl) (hb hby dFG_88) (fun _ _ => ⟨rfl, e2065, (by decide : 0 + 0 ≤ _), (by decide : 0 + 0 ≤ _)⟩)
 dsimp only [Pt.U, Pt.locs, Pt.cells, Pt.slots] at X2066 l2066 y2066 z2066 st2066 hQ2066
 rw [l2066, y2066, z2066] at X2066
 obtain ⟨hv2066, Nq2066, eq2066⟩ := hQ2066
 rw [hv2066] at st2066
 have N2066 := Fr.app N2051 Nq2066
 have f2069 := ((E_A.wr W2041).wr W2047).keep Kc2051
 have f2072 := ((F_A_executorCompleted.other W2041 (Or.inl (Ne.symm ne_ec_A))).other W2047 (Or.inl (Ne.symm ne_el_A))).keep Kc2051 (ninS ne_A_q nin0)
 have f2074 := (f2042.other W2047 (Or.inl (Ne.symm ne_el_A))).keep Kc2051 (ninS ne_A_q nin0)
 have f2076 := (V2041.other W2047 ne_ec_el).keep Kc2051 (ninS ne_ec_q nin0)
 have f2077 := V2047.keep Kc2051 (ninS ne_el_q nin0)
 obtain ⟨fs, hr, hrun, hended, hW, hsame⟩ := X2066.leave (v := none) (fun _ => rfl)
 refine ⟨_, _, ?_, hrun, hended, _, _, rfl, ?_, ⟨_, rfl⟩, hW, hsame.mono (by decide) (by decide)⟩
 ·refine pre0 _ ?_
  show Steps _ _ _ (s₁.setTop (mkF m 0 #[.val (.ref A), .val (.double (FP.l2d it)), .second, .unset, .unset, .unset, .unset, .unset] [])) _
  refine XS.dloadN X0.here hx rfl (hb hby dFG_0) rfl ?_
  refine XS.aloadN X0.here hx rfl (hb hby dFG_1) rfl rfl ?_
  refine st2026 _ ?_
  refine XS.dcmpS X2026.here hx rfl (hb hby dFG_5) rfl (v := (lcmpW it 100)) (own_cmpw hib own_b100 (by decide) (by decide) _) ?_
  show Steps _ _ _ (T2026.setTop (mkF m 6 #[.val (.ref A), .val (.double (FP.l2d it)), .second, .unset, .unset, .unset, .unset, .unset] [(.int (lcmpW it 100))])) _
  refine XS.ifYes X2026.here hx rfl (pc0 := 6) (pc' := 27) rfl (hb hby dFG_6) rfl ((if0 _ _).trans (tlt ((lw_lt _ _).mpr hi100)).1) (by decide) (by decide) ?_
  refine XS.dloadN X2026.here hx rfl (hb hby dFG_27) rfl ?_
  refine XS.aloadN X2026.here hx rfl (hb hby dFG_28) rfl rfl ?_
  refine st2027 _ ?_
  show Steps _ _ _ (T2027.setTop (mkF m 32 #[.val (.ref A), .val (.double (FP.l2d it)), .second, .unset, .unset, .unset, .unset, .unset] [(.double (FP.l2d 10)), (.double (FP.l2d it))])) _
  refine XS.dsubS X2027.here hx rfl (hb hby dFG_32) rfl (v := (FP.l2d (it - 10))) (nn_w (own_sub hib own_b10 (by decide) (by decide))) (own_sub hib own_b10 (by decide) (by decide)) ?_
  refine XS.dstoreN X2027.here hx rfl (hb hby dFG_33) rfl (l' := #[.val (.ref A), .val (.double (FP.l2d it)), .second, .val (.double (FP.l2d (it - 10))), .second, .unset, .unset, .unset]) rfl ?_
  refine XS.aloadN X2027.here hx rfl (hb hby dFG_34) rfl rfl ?_
  refine st2028 _ ?_
  refine st2029.trans ?_
  show Steps _ _ _ (T2029.setTop (mkF m 41 #[.val (.ref A), .val (.double (FP.l2d it)), .second, .val (.double (FP.l2d (it - 10))), .second, .unset, .unset, .unset] [(.int (1 : Int32))])) _
  refine XS.ifYes X2029.here hx rfl (pc0 := 41) (pc' := 84) rfl (hb hby dFG_41) rfl (by decide) (by decide) (by decide) ?_
  refine XS.aloadN X2029.here hx rfl (hb hby dFG_84) rfl rfl ?_
  refine st2030 _ ?_
  refine st2031.trans ?_
  show Steps _ _ _ (T2031.setTop (mkF m 91 #[.val (.ref A), .val (.double (FP.l2d it)), .second, .val (.double (FP.l2d (it - 10))), .second, .unset, .unset, .unset] [(.int (0 : Int32))])) _
  refine XS.ifNo X2031.here hx rfl (hb hby dFG_91) rfl (by decide) ?_
  refine XS.aloadN X2031.here hx rfl (hb hby dFG_94) rfl rfl ?_
  refine st2032 _ ?_
  refine XS.iconst X2032.here hx rfl (hb hby dFG_98) ?_
  refine st2033.trans ?_
  show Steps _ _ _ (T2033.setTop (mkF m 102 #[.val (.ref A), .val (.double (FP.l2d it)), .second, .val (.double (FP.l2d (it - 10))), .second, .unset, .unset, .unset] [(.double (FP.l2d t1))])) _
  refine XS.dloadN X2033.here hx rfl (hb hby dFG_102) rfl ?_
  refine XS.dcmpS X2033.here hx rfl (hb hby dFG_103) rfl (v := (lcmpW t1 (it - 10))) (own_cmpw htb1 hob (by decide) (by decide) _) ?_
  refine XS.ifNo X2033.here hx rfl (hb hby dFG_104) rfl ((if0 _ _).trans (flt (fun q => hr1 ((lw_gt _ _).mp q))).2.2.1) ?_
  refine XS.aloadN X2033.here hx rfl (hb hby dFG_107) rfl rfl ?_
  refine st2034 _ ?_
  show Steps _ _ _ (T2034.setTop (mkF m 111 #[.val (.ref A), .val (.double (FP.l2d it)), .second, .val (.double (FP.l2d (it - 10))), .second, .unset, .unset, .unset] [(.ref q)])) _
  refine XS.iconst X2034.here hx rfl (hb hby dFG_111) ?_
  refine st2035.trans ?_
  show Steps _ _ _ (T2035.setTop (mkF m 115 #[.val (.ref A), .val (.double (FP.l2d it)), .second, .val (.double (FP.l2d (it - 10))), .second, .unset, .unset, .unset] [(.int p1)])) _
  refine XS.istore X2035.here hx rfl (hb hby dFG_115) rfl (l' := #[.val (.ref A), .val (.double (FP.l2d it)), .second, .val (.double (FP.l2d (it - 10))), .second, .val (.int p1), .unset, .unset]) rfl ?_
  refine XS.aloadN X2035.here hx rfl (hb hby dFG_117) rfl rfl ?_
  refine st2036 _ ?_
  refine XS.iconst X2036.here hx rfl (hb hby dFG_121) ?_
  refine st2037.trans ?_
  show Steps _ _ _ (T2037.setTop (mkF m 125 #[.val (.ref A), .val (.double (FP.l2d it)), .second, .val (.double (FP.l2d (it - 10))), .second, .val (.int p1), .unset, .unset] [(.double (FP.l2d l1))])) _
  refine XS.dstore X2037.here hx rfl (hb hby dFG_125) rfl (l' := #[.val (.ref A), .val (.double (FP.l2d it)), .second, .val (.double (FP.l2d (it - 10))), .second, .val (.int p1), .val (.double (FP.l2d l1)), .second]) rfl ?_
  refine XS.aloadN X2037.here hx rfl (hb hby dFG_127) rfl rfl ?_
  refine st2038 _ ?_
  refine XS.iload X2038.here hx rfl (hb hby dFG_131) rfl ?_
  show Steps _ _ _ (T2038.setTop (mkF m 133 #[.val (.ref A), .val (.double (FP.l2d it)), .second, .val (.double (FP.l2d (it - 10))), .second, .val (.int p1), .val (.double (FP.l2d l1)), .second] [(.int p1), (.ref ec)])) _
  jvm_step X2038.here [X2038.here.top, hx, (hb hby dFG_133), Value.category]
  show Steps _ _ _ (T2038.setTop (mkF m 134 #[.val (.ref A), .val (.double (FP.l2d it)), .second, .val (.double (FP.l2d (it - 10))), .second, .val (.int p1), .val (.double (FP.l2d l1)), .second] [(.int p1), (.ref ec), (.int p1), (.ref ec)])) _
  refine X2038.laload hx (j := p1) (v := (.long (f p1.toNatClampNeg))) (by rw [e2038]; exact Ar2039.1) (State.isArrayOf_alike hZ.alike Ar2039.2.1) Ar2039.2.2 hin2039 hat2039 (g := (mkF m 134 #[.val (.ref A), .val (.double (FP.l2d it)), .second, .val (.double (FP.l2d (it - 10))), .second, .val (.int p1), .val (.double (FP.l2d l1)), .second] [(.int p1), (.ref ec), (.int p1), (.ref ec)])) rfl rfl (hb hby dFG_134) _ ?_
  refine XS.lconst X2038.here hx rfl (hb hby dFG_135) ?_
  refine XS.lsub X2038.here hx rfl (hb hby dFG_136) rfl ?_
  show Steps _ _ _ (T2038.setTop (mkF m 137 #[.val (.ref A), .val (.double (FP.l2d it)), .second, .val (.double (FP.l2d (it - 10))), .second, .val (.int p1), .val (.double (FP.l2d l1)), .second] [(.long ((f p1.toNatClampNeg) - (1 : Int64))), (.int p1), (.ref ec)])) _
  refine st2041 _ ?_
  refine XS.aloadN X2041.here hx rfl (hb hby dFG_138) rfl rfl ?_
  refine st2043 _ ?_
  refine XS.iload X2043.here hx rfl (hb hby dFG_142) rfl ?_
  show Steps _ _ _ (T2043.setTop (mkF m 144 #[.val (.ref A), .val (.double (FP.l2d it)), .second, .val (.double (FP.l2d (it - 10))), .second, .val (.int p1), .val (.double (FP.l2d l1)), .second] [(.int p1), (.ref el)])) _
  jvm_step X2043.here [X2043.here.top, hx, (hb hby dFG_144), Value.category]
  show Steps _ _ _ (T2043.setTop (mkF m 145 #[.val (.ref A), .val (.double (FP.l2d it)), .second, .val (.double (FP.l2d (it - 10))), .second, .val (.int p1), .val (.double (FP.l2d l1)), .second] [(.int p1), (.ref el), (.int p1), (.ref el)])) _
  refine X2043.daload hx (j := p1) (v := (.double (FP.l2d (g p1.toNatClampNeg)))) (by rw [e2043]; exact Ar2044.1) (State.isArrayOf_alike hZ.alike Ar2044.2.1) Ar2044.2.2 hin2044 hat2044 (g := (mkF m 145 #[.val (.ref A), .val (.double (FP.l2d it)), .second, .val (.double (FP.l2d (it - 10))), .second, .val (.int p1), .val (.double (FP.l2d l1)), .second] [(.int p1), (.ref el), (.int p1), (.ref el)])) rfl rfl (hb hby dFG_145) _ ?_
  refine XS.dload X2043.here hx rfl (hb hby dFG_146) rfl ?_
  refine XS.dsubS X2043.here hx rfl (hb hby dFG_148) rfl (v := (FP.l2d ((g p1.toNatClampNeg) - l1))) (nn_w (own_sub (hgb _) hlb1 (by decide) (by decide))) (own_sub (hgb _) hlb1 (by decide) (by decide)) ?_
  show Steps _ _ _ (T2043.setTop (mkF m 149 #[.val (.ref A), .val (.double (FP.l2d it)), .second, .val (.double (FP.l2d (it - 10))), .second, .val (.int p1), .val (.double (FP.l2d l1)), .second] [(.double (FP.l2d ((g p1.toNatClampNeg) - l1))), (.int p1), (.ref el)])) _
  refine st2047 _ ?_
  refine XS.aloadN X2047.here hx rfl (hb hby dFG_150) rfl rfl ?_
  refine st2050 _ ?_
  refine st2051.trans ?_
  show Steps _ _ _ (T2051.setTop (mkF m 157 #[.val (.ref A), .val (.double (FP.l2d it)), .second, .val (.double (FP.l2d (it - 10))), .second, .val (.int p1), .val (.double (FP.l2d l1)), .second] [])) _
  refine XS.goto X2051.here hx rfl (pc0 := 157) (pc' := 84) rfl (hb hby dFG_157) (by decide) (by decide) ?_
  refine XS.aloadN X2051.here hx rfl (hb hby dFG_84) rfl rfl ?_
  refine st2065 _ ?_
  refine st2066.trans ?_
  show Steps _ _ _ (T2066.setTop (mkF m 91 #[.val (.ref A), .val (.double (FP.l2d it)), .second, .val (.double (FP.l2d (it - 10))), .second, .val (.int p1), .val (.double (FP.l2d l1)), .second] [(.int (1 : Int32))])) _
  refine XS.ifYes X2066.here hx rfl (pc0 := 91) (pc' := 160) rfl (hb hby dFG_91) rfl (by decide) (by decide) (by decide) ?_
  show Steps _ _ _ (T2066.setTop (mkF m 160 #[.val (.ref A), .val (.double (FP.l2d it)), .second, .val (.double (FP.l2d (it - 10))), .second, .val (.int p1), .val (.double (FP.l2d l1)), .second] [])) _
  exact X2066.returnOut hx Bd.returns (hb hby dFG_160) hr
 ·show QFG11 Z A it ec el qa q kec kel n f g p1 t1 l1 h0 n0 _ T2066.heap _
  rw [eq2066]
  exact ⟨rfl, N2066, K2051.1, f2069, f2072, f2074, f2076, f2077⟩
theorem ef_FG20 (m : MethodId) (x0 : Addr) (x1 : UInt64) : entryFrame m #[(.ref x0), (.double x1)] 8 = mkF m 0 #[.val (.ref x0), .val (.double x1), .second, .unset, .unset, .unset, .unset, .unset] [] := by first | (simp [entryFrame, mkF, argsToLocals, Value.category]; done) | rfl
def QFG20 (Z : State) (A : Addr) (it : Int64) (ec : Addr) (el : Addr) (qa : Addr) (q : Addr) (kec : ClassId) (kel : ClassId) (n : Int32) (f : Nat → Int64) (g : Nat → Int64) (p1 : Int32) (t1 : Int64) (l1 : Int64) (p2 : Int32) (t2 : Int64) (l2 : Int64) (h0 : Heap) (n0 : Nat) (v : Option Value) (h : Heap) (L : List Loc) : Prop := v = none ∧ Fr n0 L ∧ h0.size ≤ h.size ∧ Exa Z h A sRA ∧ Fld Z h A sRA "executorCompleted" "[J" (.ref ec) ∧ Fld Z h A sRA "executorLatencySum" "[D" (.ref el) ∧ Arv Z h ec kec .long n (own_L f) (.long 0) ∧ Arv Z h el kel .double n (own_D g) (.double (FP.l2d 0))
set_option maxRecDepth 65536 in
set_option maxHeartbeats 40000000 in
theorem rmFG20 (l : Launch) (Z : State) (a0 : Array Value) (hw : HW Z a0) (ws : List Jvm.Cond) (A : Addr) (it : Int64) (ec : Addr) (el : Addr) (qa : Addr) (q : Addr) (kec : ClassId) (kel : ClassId) (n : Int32) (f : Nat → Int64) (g : Nat → Int64) (p1 : Int32) (t1 : Int64) (l1 : Int64) (p2 : Int32) (t2 : Int64) (l2 : Int64) (h0 : Heap) (n0 : Nat) (Z0 : n0 ≤ h0.size) (S : own_S2 Z h0 n0 A ec el qa q kec kel n f g p1 t1 l1 p2 t2 l2) (hib : own_B 1000 it) (hi100 : it < 100) (hgb : ∀ i, own_B 4294967296 (g i)) (hq10 : ¬ p1 < 0) (hq11 : ¬ (63 : Int32) < p1) (hq1n : p1 < n) (htb1 : own_B 1000 t1) (hlb1 : own_B 2147483648 l1) (hq20 : ¬ p2 < 0) (hq21 : ¬ (63 : Int32) < p2) (hq2n : p2 < n) (htb2 : own_B 1000 t2) (hlb2 : own_B 2147483648 l2) (hr1 : (it - 10) < t1) :
  MetFree l (⟨sRA, "forgetUntil", "(D)V"⟩ : MethodName) (head1 (Jvm.Cond.code (⟨sRA, "forgetUntil", "(D)V"⟩ : MethodName) prog_63_method_5_code 8 none :: ws) (Rm 1 0 0 13)) (fun a U => a = #[(.ref A), (.double (FP.l2d it))] ∧ Z.Warmed39 U.vm ∧ U.heap = h0) (fun _ _ _ _ _ => True) (fun _ U o U' => ∃ v L, o = .returned v ∧ QFG20 Z A it ec el qa q kec kel n f g p1 t1 l1 p2 t2 l2 h0 n0 v U'.heap L ∧ FrameEnd U o U' L (Rm 1 0 0 13).cells (Rm 1 0 0 13).slots) := by
 refine MetFree.of_bodySF (plainFor_of_name pn_com_example_frugal_weir_frugalweir_replay_RecentActivity) hisR ?_
 intro p e s m args below meth c s₁ Bd hml0 hP hK
 obtain ⟨rfl, hZ, hh⟩ := hP
 have hx := Bd.exec
 have hby := Bd.bytes
 have hml : c.maxLocals = 8 := hml0
 have hown : s.vm.findClass sRA = some m.cls := findClass_of_methodNamed Bd.named
 have hnm := (name_of_methodNamed Bd.named Bd.method).1
 have X0 : Stand p l e (Rm 1 0 0 13) s m #[(.ref A), (.double (FP.l2d it))] below meth c s₁ [] 0 0 := Stand.of_body Bd
 have e0 : s₁.heap = h0 := by rw [← hh, Bd.state]; rfl
 have N0 := Fr.nil n0
 have pre0 : ∀ t, Steps p.tables e below (s₁.setTop (mkF m 0 #[.val (.ref A), .val (.double (FP.l2d it)), .second, .unset, .unset, .unset, .unset, .unset] [])) t → Steps p.tables e below (s₁.setTop (entryFrame m #[(.ref A), (.double (FP.l2d it))] 8)) t := fun t k => castTop (ef_FG20 m A (FP.l2d it)) k
 obtain ⟨E_A, F_A_window, F_A_asksBefore, F_A_keptUntil, F_A_executorCompleted, F_A_executorLatencySum, F_A_arrivalEvents, F_A_completionEvents, E_qa, F_qa_size, V_ec, V_el, b, bi, i0, bd, d0, d1, kbi, ki, kbd, kd, E_q, F_q_first, F_q_last, F_q_head, F_q_end, F_q_size, E_b, F_b_capacity, F_b_ints, F_b_doubles, V_bi, V_bd, V_i0, V_d0, V_d1, c_A_qa, c_qa_q, c_q_b, c_b_bi, c_bi_i0, c_i0_bd, c_bd_d0, c_d0_d1, ne_ec_A, ne_ec_qa, ne_ec_q, ne_ec_b, ne_ec_bi, ne_ec_i0, ne_ec_bd, ne_ec_d0, ne_ec_d1, ne_el_A, ne_el_qa, ne_el_q, ne_el_b, ne_el_bi, ne_el_i0, ne_el_bd, ne_el_d0, ne_el_d1, ne_ec_el, g_A, g_ec, g_el, g_q, g_b, g_bi, g_i0, g_bd, g_d0, g_d1⟩ := S
 have lt_A_qa : A < qa := c_A_qa
 have ne_A_qa : A ≠ qa := Nat.ne_of_lt lt_A_qa
 have lt_A_q : A < q := Nat.lt_trans lt_A_qa c_qa_q
 have ne_A_q : A ≠ q := Nat.ne_of_lt lt_A_q
 have lt_A_b : A < b := Nat.lt_trans lt_A_q c_q_b
 have ne_A_b : A ≠ b := Nat.ne_of_lt lt_A_b
 have lt_A_bi : A < bi := Nat.lt_trans lt_A_b c_b_bi
 have ne_A_bi : A ≠ bi := Nat.ne_of_lt lt_A_bi
 have lt_A_i0 : A < i0 := Nat.lt_trans lt_A_bi c_bi_i0
 have ne_A_i0 : A ≠ i0 := Nat.ne_of_lt lt_A_i0
 have lt_A_bd : A < bd := Nat.lt_trans lt_A_i0 c_i0_bd
 have ne_A_bd : A ≠ bd := Nat.ne_of_lt lt_A_bd
 have lt_A_d0 : A < d0 := Nat.lt_trans lt_A_bd c_bd_d0
 have ne_A_d0 : A ≠ d0 := Nat.ne_of_lt lt_A_d0
 have lt_A_d1 : A < d1 := Nat.lt_trans lt_A_d0 c_d0_d1
 have ne_A_d1 : A ≠ d1 := Nat.ne_of_lt lt_A_d1
 have lt_qa_q : qa < q := c_qa_q
 have ne_qa_q : qa ≠ q := Nat.ne_of_lt lt_qa_q
 have lt_qa_b : qa < b := Nat.lt_trans lt_qa_q c_q_b
 have ne_qa_b : qa ≠ b := Nat.ne_of_lt lt_qa_b
 have lt_qa_bi : qa < bi := Nat.lt_trans lt_qa_b c_b_bi
 have ne_qa_bi : qa ≠ bi := Nat.ne_of_lt lt_qa_bi
 have lt_qa_i0 : qa < i0 := Nat.lt_trans lt_qa_bi c_bi_i0
 have ne_qa_i0 : qa ≠ i0 := Nat.ne_of_lt lt_qa_i0
 have lt_qa_bd : qa < bd := Nat.lt_trans lt_qa_i0 c_i0_bd
 have ne_qa_bd : qa ≠ bd := Nat.ne_of_lt lt_qa_bd
 have lt_qa_d0 : qa < d0 := Nat.lt_trans lt_qa_bd c_bd_d0
 have ne_qa_d0 : qa ≠ d0 := Nat.ne_of_lt lt_qa_d0
 have lt_qa_d1 : qa < d1 := Nat.lt_trans lt_qa_d0 c_d0_d1
 have ne_qa_d1 : qa ≠ d1 := Nat.ne_of_lt lt_qa_d1
 have lt_q_b : q < b := c_q_b
 have ne_q_b : q ≠ b := Nat.ne_of_lt lt_q_b
 have lt_q_bi : q < bi := Nat.lt_trans lt_q_b c_b_bi
 have ne_q_bi : q ≠ bi := Nat.ne_of_lt lt_q_bi
 have lt_q_i0 : q < i0 := Nat.lt_trans lt_q_bi c_bi_i0
 have ne_q_i0 : q ≠ i0 := Nat.ne_of_lt lt_q_i0
 have lt_q_bd : q < bd := Nat.lt_trans lt_q_i0 c_i0_bd
 have ne_q_bd : q ≠ bd := Nat.ne_of_lt lt_q_bd
 have lt_q_d0 : q < d0 := Nat.lt_trans lt_q_bd c_bd_d0
 have ne_q_d0 : q ≠ d0 := Nat.ne_of_lt lt_q_d0
 have lt_q_d1 : q < d1 := Nat.lt_trans lt_q_d0 c_d0_d1
 have ne_q_d1 : q ≠ d1 := Nat.ne_of_lt lt_q_d1
 have lt_b_bi : b < bi := c_b_bi
 have ne_b_bi : b ≠ bi := Nat.ne_of_lt lt_b_bi
 have lt_b_i0 : b < i0 := Nat.lt_trans lt_b_bi c_bi_i0
 have ne_b_i0 : b ≠ i0 := Nat.ne_of_lt lt_b_i0
 have lt_b_bd : b < bd := Nat.lt_trans lt_b_i0 c_i0_bd
 have ne_b_bd : b ≠ bd := Nat.ne_of_lt lt_b_bd
 have lt_b_d0 : b < d0 := Nat.lt_trans lt_b_bd c_bd_d0
 have ne_b_d0 : b ≠ d0 := Nat.ne_of_lt lt_b_d0
 have lt_b_d1 : b < d1 := Nat.lt_trans lt_b_d0 c_d0_d1
 have ne_b_d1 : b ≠ d1 := Nat.ne_of_lt lt_b_d1
 have lt_bi_i0 : bi < i0 := c_bi_i0
 have ne_bi_i0 : bi ≠ i0 := Nat.ne_of_lt lt_bi_i0
 have lt_bi_bd : bi < bd := Nat.lt_trans lt_bi_i0 c_i0_bd
 have ne_bi_bd : bi ≠ bd := Nat.ne_of_lt lt_bi_bd
 have lt_bi_d0 : bi < d0 := Nat.lt_trans lt_bi_bd c_bd_d0
 have ne_bi_d0 : bi ≠ d0 := Nat.ne_of_lt lt_bi_d0
 have lt_bi_d1 : bi < d1 := Nat.lt_trans lt_bi_d0 c_d0_d1
 have ne_bi_d1 : bi ≠ d1 := Nat.ne_of_lt lt_bi_d1
 have lt_i0_bd : i0 < bd := c_i0_bd
 have ne_i0_bd : i0 ≠ bd := Nat.ne_of_lt lt_i0_bd
 have lt_i0_d0 : i0 < d0 := Nat.lt_trans lt_i0_bd c_bd_d0
 have ne_i0_d0 : i0 ≠ d0 := Nat.ne_of_lt lt_i0_d0
 have lt_i0_d1 : i0 < d1 := Nat.lt_trans lt_i0_d0 c_d0_d1
 have ne_i0_d1 : i0 ≠ d1 := Nat.ne_of_lt lt_i0_d1
 have lt_bd_d0 : bd < d0 := c_bd_d0
 have ne_bd_d0 : bd ≠ d0 := Nat.ne_of_lt lt_bd_d0
 have lt_bd_d1 : bd < d1 := Nat.lt_trans lt_bd_d0 c_d0_d1
 have ne_bd_d1 : bd ≠ d1 := Nat.ne_of_lt lt_bd_d1
 have lt_d0_d1 : d0 < d1 := c_d0_d1
 have ne_d0_d1 : d0 ≠ d1 := Nat.ne_of_lt lt_d0_d1
 have K0 := Keep.refl h0 [A, ec, el, q, b, bi, i0, bd, d0, d1]
 have hx1 : p1.toNatClampNeg < 128 := own_pn hq10 (fun q => hq11 (own_tr (by decide) q))
 have hx2 : p2.toNatClampNeg < 128 := own_pn hq20 (fun q => hq21 (own_tr (by decide) q))
 have hob : own_B 2000 (it - 10) := own_Bm (own_subB hib own_b10 (by decide)) (by decide)
 obtain ⟨T2078, X2078, e2078, st2078⟩ := getF X0 hx hZ hown (host := "") (Or.inl (wd hw 62 rfl)) Via.refl e0 F_A_asksBefore (g := (mkF m 2 #[.val (.ref A), .val (.double (FP.l2d it)), .second, .unset, .unset, .unset, .unset, .unset] [(.ref A), (.double (FP.l2d it))])) rfl rfl (hb hby dFG_2)
 obtain ⟨T2079, X2079, e2079, st2079⟩ := getF X2078 hx hZ hown (host := "") (Or.inl (wd hw 60 rfl)) Via.refl e2078 F_A_window (g := (mkF m 29 #[.val (.ref A), .val (.double (FP.l2d it)), .second, .unset, .unset, .unset, .unset, .unset] [(.ref A), (.double (FP.l2d it))])) rfl rfl (hb hby dFG_29)
 obtain ⟨T2080, X2080, e2080, st2080⟩ := getF X2079 hx hZ hown (host := "") (Or.inl (wd hw 56 rfl)) Via.refl e2079 F_A_arrivalEvents (g := (mkF m 35 #[.val (.ref A), .val (.double (FP.l2d it)), .second, .val (.double (FP.l2d (it - 10))), .second, .unset, .unset, .unset] [(.ref A)])) rfl rfl (hb hby dFG_35)
 obtain ⟨cq2081, kq2081, q2081a, q2081b, q2081c⟩ := isOf hZ e2080 E_qa
 obtain ⟨_, _, ⟨T2081, L2081, k2081, n2081⟩, -, X2081, ⟨Lc2081, hQ2081, l2081, y2081, z2081⟩, st2081⟩ := X2080.virtualBack hx (y := (⟨sRQ, "isEmpty", "()Z"⟩ : MethodName)) (z := (⟨sRQ, "isEmpty", "()Z"⟩ : MethodName)) hown (mvT hZ (wd hw 163 rfl)) (mvT hZ (wd hw 164 rfl)) (notFace_of_selects (args := #[]) (mvT hZ (wd hw 166 rfl))) (mvT hZ (wd hw 166 rfl)) (mvT hZ (wd hw 165 rfl)) (by decide) (backOf (W := 0) (rmIE0 l Z a0 hw [] qa h0 n0 (Nat.le_trans Z0 K0.1) F_qa_size) hZ (wd hw 167 rfl) (wd hw 28 rfl) (by decide) (by decide)) q2081a q2081c (g := (mkF m 38 #[.val (.ref A), .val (.double (FP.l2d it)), .second, .val (.double (FP.l2d (it - 10))), .second, .unset, .unset, .unset] [(.ref qa)])) rfl (by rw [hml]; rfl) (Steps.refl _) (argsL := []) (rest := []) (lenOf pd_10 rfl) rfl (by show 2 * 0 + _ ≤ _; exact Nat.le_of_eq rfl) (hb hby dFG_38) (fun _ _ => ⟨rfl, e2080, (by decide : 0 + 0 ≤ _), (by decide : 0 + 0 ≤ _)⟩)
 dsimp only [Pt.U, Pt.locs, Pt.cells, Pt.slots] at X2081 l2081 y2081 z2081 st2081 hQ2081
 rw [l2081, y2081, z2081] at X2081
 obtain ⟨hv2081, Nq2081, eq2081⟩ := hQ2081
 rw [hv2081] at st2081
 have N2081 := Fr.app N0 Nq2081
 obtain ⟨T2082, X2082, e2082, st2082⟩ := getF X2081 hx hZ hown (host := "") (Or.inl (wd hw 58 rfl)) Via.refl eq2081 F_A_completionEvents (g := (mkF m 85 #[.val (.ref A), .val (.double (FP.l2d it)), .second, .val (.double (FP.l2d (it - 10))), .second, .unset, .unset, .unset] [(.ref A)])) rfl rfl (hb hby dFG_85)
 obtain ⟨cq2083, kq2083, q2083a, q2083b, q2083c⟩ := isOf hZ e2082 E_q
 obtain ⟨_, _, ⟨T2083, L2083, k2083, n2083⟩, -, X2083, ⟨Lc2083, hQ2083, l2083, y2083, z2083⟩, st2083⟩ := X2082.virtualBack hx (y := (⟨sRQ, "isEmpty", "()Z"⟩ : MethodName)) (z := (⟨sRQ, "isEmpty", "()Z"⟩ : MethodName)) hown (mvT hZ (wd hw 163 rfl)) (mvT hZ (wd hw 164 rfl)) (notFace_of_selects (args := #[]) (mvT hZ (wd hw 166 rfl))) (mvT hZ (wd hw 166 rfl)) (mvT hZ (wd hw 165 rfl)) (by decide) (backOf (W := 0) (rmIE2 l Z a0 hw [] q h0 n0 (Nat.le_trans Z0 K0.1) F_q_size) hZ (wd hw 167 rfl) (wd hw 28 rfl) (by decide) (by decide)) q2083a q2083c (g := (mkF m 88 #[.val (.ref A), .val (.double (FP.l2d it)), .second, .val (.double (FP.l2d (it - 10))), .second, .unset, .unset, .unset] [(.ref q)])) rfl (by rw [hml]; rfl) (Steps.refl _) (argsL := []) (rest := []) (lenOf pd_10 rfl) rfl (by show 2 * 0 + _ ≤ _; exact Nat.le_of_eq rfl) (hb hby dFG_88) (fun _ _ => ⟨rfl, e2082, (by decide : 0 + 0 ≤ _), (by decide : 0 + 0 ≤ _)⟩)
 dsimp only [Pt.U, Pt.locs, Pt.cells, Pt.slots] at X2083 l2083 y2083 z2083 st2083 hQ2083
 rw [l2083, y2083, z2083] at X2083
 obtain ⟨hv2083, Nq2083, eq2083⟩ := hQ2083
 rw [hv2083] at st2083
 have N2083 := Fr.app N2081 Nq2083
 obtain ⟨T2084, X2084, e2084, st2084⟩ := getF X2083 hx hZ hown (host := "") (Or.inl (wd hw 58 rfl)) Via.refl eq2083 F_A_completionEvents (g := (mkF m 95 #[.val (.ref A), .val (.double (FP.l2d it)), .second, .val (.double (FP.l2d (it - 10))), .second, .unset, .unset, .unset] [(.ref A)])) rfl rfl (hb hby dFG_95)
 obtain ⟨cq2085, kq2085, q2085a, q2085b, q2085c⟩ := isOf hZ e2084 E_q
 obtain ⟨_, _, ⟨T2085, L2085, k2085, n2085⟩, -, X2085, ⟨Lc2085, hQ2085, l2085, y2085, z2085⟩, st2085⟩ := X2084.virtualBack hx (y := (⟨sRQ, "firstDouble", "(I)D"⟩ : MethodName)) (z := (⟨sRQ, "firstDouble", "(I)D"⟩ : MethodName)) hown (mvT hZ (wd hw 168 rfl)) (mvT hZ (wd hw 169 rfl)) (notFace_of_selects (args := #[]) (mvT hZ (wd hw 171 rfl))) (mvT hZ (wd hw 171 rfl)) (mvT hZ (wd hw 170 rfl)) (by decide) (backOf (W := 0) (rmFD00 l Z a0 hw [] q b bd d0 d1 kbd kd t1 t2 h0 n0 (Nat.le_trans Z0 K0.1) F_q_first F_q_head F_b_doubles V_bd V_d0) hZ (wd hw 172 rfl) (wd hw 28 rfl) (by decide) (by decide)) q2085a q2085c (g := (mkF m 99 #[.val (.ref A), .val (.double (FP.l2d it)), .second, .val (.double (FP.l2d (it - 10))), .second, .unset, .unset, .unset] [(.int (0 : Int32)), (.ref q)])) rfl (by rw [hml]; rfl) (Steps.refl _) (argsL := [(.int (0 : Int32))]) (rest := []) (lenOf pd_11 rfl) rfl (by show 2 * 0 + _ ≤ _; exact Nat.le_of_eq rfl) (hb hby dFG_99) (fun _ _ => ⟨rfl, e2084, (by decide : 0 + 0 ≤ _), (by decide : 0 + 0 ≤ _)⟩)
 dsimp only [Pt.U, Pt.locs, Pt.cells, Pt.slots] at X2085 l2085 y2085 z2085 st2085 hQ2085
 rw [l2085, y2085, z2085] at X2085
 obtain ⟨hv2085, Nq2085, eq2085⟩ := hQ2085
 rw [hv2085] at st2085
 have N2085 := Fr.app N2083 Nq2085
 obtain ⟨fs, hr, hrun, hended, hW, hsame⟩ := X2085.leave (v := none) (fun _ => rfl)
 refine ⟨_, _, ?_, hrun, hended, _, _, rfl, ?_, ⟨_, rfl⟩, hW, hsame.mono (by decide) (by decide)⟩
 ·refine pre0 _ ?_
  show Steps _ _ _ (s₁.setTop (mkF m 0 #[.val (.ref A), .val (.double (FP.l2d it)), .second, .unset, .unset, .unset, .unset, .unset] [])) _
  refine XS.dloadN X0.here hx rfl (hb hby dFG_0) rfl ?_
  refine XS.aloadN X0.here hx rfl (hb hby dFG_1) rfl rfl ?_
  refine st2078 _ ?_
  refine XS.dcmpS X2078.here hx rfl (hb hby dFG_5) rfl (v := (lcmpW it 100)) (own_cmpw hib own_b100 (by decide) (by decide) _) ?_
  show Steps _ _ _ (T2078.setTop (mkF m 6 #[.val (.ref A), .val (.double (FP.l2d it)), .second, .unset, .unset, .unset, .unset, .unset] [(.int (lcmpW it 100))])) _
  refine XS.ifYes X2078.here hx rfl (pc0 := 6) (pc' := 27) rfl (hb hby dFG_6) rfl ((if0 _ _).trans (tlt ((lw_lt _ _).mpr hi100)).1) (by decide) (by decide) ?_
  refine XS.dloadN X2078.here hx rfl (hb hby dFG_27) rfl ?_
  refine XS.aloadN X2078.here hx rfl (hb hby dFG_28) rfl rfl ?_
  refine st2079 _ ?_
  show Steps _ _ _ (T2079.setTop (mkF m 32 #[.val (.ref A), .val (.double (FP.l2d it)), .second, .unset, .unset, .unset, .unset, .unset] [(.double (FP.l2d 10)), (.double (FP.l2d it))])) _
  refine XS.dsubS X2079.here hx rfl (hb hby dFG_32) rfl (v := (FP.l2d (it - 10))) (nn_w (own_sub hib own_b10 (by decide) (by decide))) (own_sub hib own_b10 (by decide) (by decide)) ?_
  refine XS.dstoreN X2079.here hx rfl (hb hby dFG_33) rfl (l' := #[.val (.ref A), .val (.double (FP.l2d it)), .second, .val (.double (FP.l2d (it - 10))), .second, .unset, .unset, .unset]) rfl ?_
  refine XS.aloadN X2079.here hx rfl (hb hby dFG_34) rfl rfl ?_
  refine st2080 _ ?_
  refine st2081.trans ?_
  show Steps _ _ _ (T2081.setTop (mkF m 41 #[.val (.ref A), .val (.double (FP.l2d it)), .second, .val (.double (FP.l2d (it - 10))), .second, .unset, .unset, .unset] [(.int (1 : Int32))])) _
  refine XS.ifYes X2081.here hx rfl (pc0 := 41) (pc' := 84) rfl (hb hby dFG_41) rfl (by decide) (by decide) (by decide) ?_
  refine XS.aloadN X2081.here hx rfl (hb hby dFG_84) rfl rfl ?_
  refine st2082 _ ?_
  refine st2083.trans ?_
  show Steps _ _ _ (T2083.setTop (mkF m 91 #[.val (.ref A), .val (.double (FP.l2d it)), .second, .val (.double (FP.l2d (it - 10))), .second, .unset, .unset, .unset] [(.int (0 : Int32))])) _
  refine XS.ifNo X2083.here hx rfl (hb hby dFG_91) rfl (by decide) ?_
  refine XS.aloadN X2083.here hx rfl (hb hby dFG_94) rfl rfl ?_
  refine st2084 _ ?_
  refine XS.iconst X2084.here hx rfl (hb hby dFG_98) ?_
  refine st2085.trans ?_
  show Steps _ _ _ (T2085.setTop (mkF m 102 #[.val (.ref A), .val (.double (FP.l2d it)), .second, .val (.double (FP.l2d (it - 10))), .second, .unset, .unset, .unset] [(.double (FP.l2d t1))])) _
  refine XS.dloadN X2085.here hx rfl (hb hby dFG_102) rfl ?_
  refine XS.dcmpS X2085.here hx rfl (hb hby dFG_103) rfl (v := (lcmpW t1 (it - 10))) (own_cmpw htb1 hob (by decide) (by decide) _) ?_
  refine XS.ifYes X2085.here hx rfl (pc0 := 104) (pc' := 160) rfl (hb hby dFG_104) rfl ((if0 _ _).trans (tlt ((lw_gt _ _).mpr hr1)).2.2.1) (by decide) (by decide) ?_
  show Steps _ _ _ (T2085.setTop (mkF m 160 #[.val (.ref A), .val (.double (FP.l2d it)), .second, .val (.double (FP.l2d (it - 10))), .second, .unset, .unset, .unset] [])) _
  exact X2085.returnOut hx Bd.returns (hb hby dFG_160) hr
 ·show QFG20 Z A it ec el qa q kec kel n f g p1 t1 l1 p2 t2 l2 h0 n0 _ T2085.heap _
  rw [eq2085]
  exact ⟨rfl, N2085, K0.1, E_A, F_A_executorCompleted, F_A_executorLatencySum, V_ec, V_el⟩
theorem ef_FG21 (m : MethodId) (x0 : Addr) (x1 : UInt64) : entryFrame m #[(.ref x0), (.double x1)] 8 = mkF m 0 #[.val (.ref x0), .val (.double x1), .second, .unset, .unset, .unset, .unset, .unset] [] := by first | (simp [entryFrame, mkF, argsToLocals, Value.category]; done) | rfl
def QFG21 (Z : State) (A : Addr) (it : Int64) (ec : Addr) (el : Addr) (qa : Addr) (q : Addr) (kec : ClassId) (kel : ClassId) (n : Int32) (f : Nat → Int64) (g : Nat → Int64) (p1 : Int32) (t1 : Int64) (l1 : Int64) (p2 : Int32) (t2 : Int64) (l2 : Int64) (h0 : Heap) (n0 : Nat) (v : Option Value) (h : Heap) (L : List Loc) : Prop := v = none ∧ Fr n0 L ∧ h0.size ≤ h.size ∧ Exa Z h A sRA ∧ Fld Z h A sRA "executorCompleted" "[J" (.ref ec) ∧ Fld Z h A sRA "executorLatencySum" "[D" (.ref el) ∧ Arv Z h ec kec .long n (own_L (own_upd f p1.toNatClampNeg ((f p1.toNatClampNeg) - (1 : Int64)))) (.long 0) ∧ Arv Z h el kel .double n (own_D (own_upd g p1.toNatClampNeg ((g p1.toNatClampNeg) - l1))) (.double (FP.l2d 0))
set_option maxRecDepth 65536 in
set_option maxHeartbeats 40000000 in
theorem rmFG21 (l : Launch) (Z : State) (a0 : Array Value) (hw : HW Z a0) (ws : List Jvm.Cond) (A : Addr) (it : Int64) (ec : Addr) (el : Addr) (qa : Addr) (q : Addr) (kec : ClassId) (kel : ClassId) (n : Int32) (f : Nat → Int64) (g : Nat → Int64) (p1 : Int32) (t1 : Int64) (l1 : Int64) (p2 : Int32) (t2 : Int64) (l2 : Int64) (h0 : Heap) (n0 : Nat) (Z0 : n0 ≤ h0.size) (S : own_S2 Z h0 n0 A ec el qa q kec kel n f g p1 t1 l1 p2 t2 l2) (hib : own_B 1000 it) (hi100 : it < 100) (hgb : ∀ i, own_B 4294967296 (g i)) (hq10 : ¬ p1 < 0) (hq11 : ¬ (63 : Int32) < p1) (hq1n : p1 < n) (htb1 : own_B 1000 t1) (hlb1 : own_B 2147483648 l1) (hq20 : ¬ p2 < 0) (hq21 : ¬ (63 : Int32) < p2) (hq2n : p2 < n) (htb2 : own_B 1000 t2) (hlb2 : own_B 2147483648 l2) (hr1 : ¬ (it - 10) < t1) (hr2 : (it - 10) < t2) :
  MetFree l (⟨sRA, "forgetUntil", "(D)V"⟩ : MethodName) (head1 (Jvm.Cond.code (⟨sRA, "forgetUntil", "(D)V"⟩ : MethodName) prog_63_method_5_code 8 none :: ws) (Rm 1 0 0 13)) (fun a U => a = #[(.ref A), (.double (FP.l2d it))] ∧ Z.Warmed39 U.vm ∧ U.heap = h0) (fun _ _ _ _ _ => True) (fun _ U o U' => ∃ v L, o = .returned v ∧ QFG21 Z A it ec el qa q kec kel n f g p1 t1 l1 p2 t2 l2 h0 n0 v U'.heap L ∧ FrameEnd U o U' L (Rm 1 0 0 13).cells (Rm 1 0 0 13).slots) := by
 refine MetFree.of_bodySF (plainFor_of_name pn_com_example_frugal_weir_frugalweir_replay_RecentActivity) hisR ?_
 intro p e s m args below meth c s₁ Bd hml0 hP hK
 obtain ⟨rfl, hZ, hh⟩ := hP
 have hx := Bd.exec
 have hby := Bd.bytes
 have hml : c.maxLocals = 8 := hml0
 have hown : s.vm.findClass sRA = some m.cls := findClass_of_methodNamed Bd.named
 have hnm := (name_of_methodNamed Bd.named Bd.method).1
 have X0 : Stand p l e (Rm 1 0 0 13) s m #[(.ref A), (.double (FP.l2d it))] below meth c s₁ [] 0 0 := Stand.of_body Bd
 have e0 : s₁.heap = h0 := by rw [← hh, Bd.state]; rfl
 have N0 := Fr.nil n0
 have pre0 : ∀ t, Steps p.tables e below (s₁.setTop (mkF m 0 #[.val (.ref A), .val (.double (FP.l2d it)), .second, .unset, .unset, .unset, .unset, .unset] [])) t → Steps p.tables e below (s₁.setTop (entryFrame m #[(.ref A), (.double (FP.l2d it))] 8)) t := fun t k => castTop (ef_FG21 m A (FP.l2d it)) k
 obtain ⟨E_A, F_A_window, F_A_asksBefore, F_A_keptUntil, F_A_executorCompleted, F_A_executorLatencySum, F_A_arrivalEvents, F_A_completionEvents, E_qa, F_qa_size, V_ec, V_el, b, bi, i0, bd, d0, d1, kbi, ki, kbd, kd, E_q, F_q_first, F_q_last, F_q_head, F_q_end, F_q_size, E_b, F_b_capacity, F_b_ints, F_b_doubles, V_bi, V_bd, V_i0, V_d0, V_d1, c_A_qa, c_qa_q, c_q_b, c_b_bi, c_bi_i0, c_i0_bd, c_bd_d0, c_d0_d1, ne_ec_A, ne_ec_qa, ne_ec_q, ne_ec_b, ne_ec_bi, ne_ec_i0, ne_ec_bd, ne_ec_d0, ne_ec_d1, ne_el_A, ne_el_qa, ne_el_q, ne_el_b, ne_el_bi, ne_el_i0, ne_el_bd, ne_el_d0, ne_el_d1, ne_ec_el, g_A, g_ec, g_el, g_q, g_b, g_bi, g_i0, g_bd, g_d0, g_d1⟩ := S
 have lt_A_qa : A < qa := c_A_qa
 have ne_A_qa : A ≠ qa := Nat.ne_of_lt lt_A_qa
 have lt_A_q : A < q := Nat.lt_trans lt_A_qa c_qa_q
 have ne_A_q : A ≠ q := Nat.ne_of_lt lt_A_q
 have lt_A_b : A < b := Nat.lt_trans lt_A_q c_q_b
 have ne_A_b : A ≠ b := Nat.ne_of_lt lt_A_b
 have lt_A_bi : A < bi := Nat.lt_trans lt_A_b c_b_bi
 have ne_A_bi : A ≠ bi := Nat.ne_of_lt lt_A_bi
 have lt_A_i0 : A < i0 := Nat.lt_trans lt_A_bi c_bi_i0
 have ne_A_i0 : A ≠ i0 := Nat.ne_of_lt lt_A_i0
 have lt_A_bd : A < bd := Nat.lt_trans lt_A_i0 c_i0_bd
 have ne_A_bd : A ≠ bd := Nat.ne_of_lt lt_A_bd
 have lt_A_d0 : A < d0 := Nat.lt_trans lt_A_bd c_bd_d0
 have ne_A_d0 : A ≠ d0 := Nat.ne_of_lt lt_A_d0
 have lt_A_d1 : A < d1 := Nat.lt_trans lt_A_d0 c_d0_d1
 have ne_A_d1 : A ≠ d1 := Nat.ne_of_lt lt_A_d1
 have lt_qa_q : qa < q := c_qa_q
 have ne_qa_q : qa ≠ q := Nat.ne_of_lt lt_qa_q
 have lt_qa_b : qa < b := Nat.lt_trans lt_qa_q c_q_b
 have ne_qa_b : qa ≠ b := Nat.ne_of_lt lt_qa_b
 have lt_qa_bi : qa < bi := Nat.lt_trans lt_qa_b c_b_bi
 have ne_qa_bi : qa ≠ bi := Nat.ne_of_lt lt_qa_bi
 have lt_qa_i0 : qa < i0 := Nat.lt_trans lt_qa_bi c_bi_i0
 have ne_qa_i0 : qa ≠ i0 := Nat.ne_of_lt lt_qa_i0
 have lt_qa_bd : qa < bd := Nat.lt_trans lt_qa_i0 c_i0_bd
 have ne_qa_bd : qa ≠ bd := Nat.ne_of_lt lt_qa_bd
 have lt_qa_d0 : qa < d0 := Nat.lt_trans lt_qa_bd c_bd_d0
 have ne_qa_d0 : qa ≠ d0 := Nat.ne_of_lt lt_qa_d0
 have lt_qa_d1 : qa < d1 := Nat.lt_trans lt_qa_d0 c_d0_d1
 have ne_qa_d1 : qa ≠ d1 := Nat.ne_of_lt lt_qa_d1
 have lt_q_b : q < b := c_q_b
 have ne_q_b : q ≠ b := Nat.ne_of_lt lt_q_b
 have lt_q_bi : q < bi := Nat.lt_trans lt_q_b c_b_bi
 have ne_q_bi : q ≠ bi := Nat.ne_of_lt lt_q_bi
 have lt_q_i0 : q < i0 := Nat.lt_trans lt_q_bi c_bi_i0
 have ne_q_i0 : q ≠ i0 := Nat.ne_of_lt lt_q_i0
 have lt_q_bd : q < bd := Nat.lt_trans lt_q_i0 c_i0_bd
 have ne_q_bd : q ≠ bd := Nat.ne_of_lt lt_q_bd
 have lt_q_d0 : q < d0 := Nat.lt_trans lt_q_bd c_bd_d0
 have ne_q_d0 : q ≠ d0 := Nat.ne_of_lt lt_q_d0
 have lt_q_d1 : q < d1 := Nat.lt_trans lt_q_d0 c_d0_d1
 have ne_q_d1 : q ≠ d1 := Nat.ne_of_lt lt_q_d1
 have lt_b_bi : b < bi := c_b_bi
 have ne_b_bi : b ≠ bi := Nat.ne_of_lt lt_b_bi
 have lt_b_i0 : b < i0 := Nat.lt_trans lt_b_bi c_bi_i0
 have ne_b_i0 : b ≠ i0 := Nat.ne_of_lt lt_b_i0
 have lt_b_bd : b < bd := Nat.lt_trans lt_b_i0 c_i0_bd
 have ne_b_bd : b ≠ bd := Nat.ne_of_lt lt_b_bd
 have lt_b_d0 : b < d0 := Nat.lt_trans lt_b_bd c_bd_d0
 have ne_b_d0 : b ≠ d0 := Nat.ne_of_lt lt_b_d0
 have lt_b_d1 : b < d1 := Nat.lt_trans lt_b_d0 c_d0_d1
 have ne_b_d1 : b ≠ d1 := Nat.ne_of_lt lt_b_d1
 have lt_bi_i0 : bi < i0 := c_bi_i0
 have ne_bi_i0 : bi ≠ i0 := Nat.ne_of_lt lt_bi_i0
 have lt_bi_bd : bi < bd := Nat.lt_trans lt_bi_i0 c_i0_bd
 have ne_bi_bd : bi ≠ bd := Nat.ne_of_lt lt_bi_bd
 have lt_bi_d0 : bi < d0 := Nat.lt_trans lt_bi_bd c_bd_d0
 have ne_bi_d0 : bi ≠ d0 := Nat.ne_of_lt lt_bi_d0
 have lt_bi_d1 : bi < d1 := Nat.lt_trans lt_bi_d0 c_d0_d1
 have ne_bi_d1 : bi ≠ d1 := Nat.ne_of_lt lt_bi_d1
 have lt_i0_bd : i0 < bd := c_i0_bd
 have ne_i0_bd : i0 ≠ bd := Nat.ne_of_lt lt_i0_bd
 have lt_i0_d0 : i0 < d0 := Nat.lt_trans lt_i0_bd c_bd_d0
 have ne_i0_d0 : i0 ≠ d0 := Nat.ne_of_lt lt_i0_d0
 have lt_i0_d1 : i0 < d1 := Nat.lt_trans lt_i0_d0 c_d0_d1
 have ne_i0_d1 : i0 ≠ d1 := Nat.ne_of_lt lt_i0_d1
 have lt_bd_d0 : bd < d0 := c_bd_d0
 have ne_bd_d0 : bd ≠ d0 := Nat.ne_of_lt lt_bd_d0
 have lt_bd_d1 : bd < d1 := Nat.lt_trans lt_bd_d0 c_d0_d1
 have ne_bd_d1 : bd ≠ d1 := Nat.ne_of_lt lt_bd_d1
 have lt_d0_d1 : d0 < d1 := c_d0_d1
 have ne_d0_d1 : d0 ≠ d1 := Nat.ne_of_lt lt_d0_d1
 have K0 := Keep.refl h0 [A, ec, el, q, b, bi, i0, bd, d0, d1]
 have hx1 : p1.toNatClampNeg < 128 := own_pn hq10 (fun q => hq11 (own_tr (by decide) q))
 have hx2 : p2.toNatClampNeg < 128 := own_pn hq20 (fun q => hq21 (own_tr (by decide) q))
 have hob : own_B 2000 (it - 10) := own_Bm (own_subB hib own_b10 (by decide)) (by decide)
 obtain ⟨T2086, X2086, e2086, st2086⟩ := getF X0 hx hZ hown (host := "") (Or.inl (wd hw 62 rfl)) Via.refl e0 F_A_asksBefore (g := (mkF m 2 #[.val (.ref A), .val (.double (FP.l2d it)), .second, .unset, .unset, .unset, .unset, .unset] [(.ref A), (.double (FP.l2d it))])) rfl rfl (hb hby dFG_2)
 obtain ⟨T2087, X2087, e2087, st2087⟩ := getF X2086 hx hZ hown (host := "") (Or.inl (wd hw 60 rfl)) Via.refl e2086 F_A_window (g := (mkF m 29 #[.val (.ref A), .val (.double (FP.l2d it)), .second, .unset, .unset, .unset, .unset, .unset] [(.ref A), (.double (FP.l2d it))])) rfl rfl (hb hby dFG_29)
 obtain ⟨T2088, X2088, e2088, st2088⟩ := getF X2087 hx hZ hown (host := "") (Or.inl (wd hw 56 rfl)) Via.refl e2087 F_A_arrivalEvents (g := (mkF m 35 #[.val (.ref A), .val (.double (FP.l2d it)), .second, .val (.double (FP.l2d (it - 10))), .second, .unset, .unset, .unset] [(.ref A)])) rfl rfl (hb hby dFG_35)
 obtain ⟨cq2089, kq2089, q2089a, q2089b, q2089c⟩ := isOf hZ e2088 E_qa
 obtain ⟨_, _, ⟨T2089, L2089, k2089, n2089⟩, -, X2089, ⟨Lc2089, hQ2089, l2089, y2089, z2089⟩, st2089⟩ := X2088.virtualBack hx (y := (⟨sRQ, "isEmpty", "()Z"⟩ : MethodName)) (z := (⟨sRQ, "isEmpty", "()Z"⟩ : MethodName)) hown (mvT hZ (wd hw 163 rfl)) (mvT hZ (wd hw 164 rfl)) (notFace_of_selects (args := #[]) (mvT hZ (wd hw 166 rfl))) (mvT hZ (wd hw 166 rfl)) (mvT hZ (wd hw 165 rfl)) (by decide) (backOf (W := 0) (rmIE0 l Z a0 hw [] qa h0 n0 (Nat.le_trans Z0 K0.1) F_qa_size) hZ (wd hw 167 rfl) (wd hw 28 rfl) (by decide) (by decide)) q2089a q2089c (g := (mkF m 38 #[.val (.ref A), .val (.double (FP.l2d it)), .second, .val (.double (FP.l2d (it - 10))), .second, .unset, .unset, .unset] [(.ref qa)])) rfl (by rw [hml]; rfl) (Steps.refl _) (argsL := []) (rest := []) (lenOf pd_10 rfl) rfl (by show 2 * 0 + _ ≤ _; exact Nat.le_of_eq rfl) (hb hby dFG_38) (fun _ _ => ⟨rfl, e2088, (by decide : 0 + 0 ≤ _), (by decide : 0 + 0 ≤ _)⟩)
 dsimp only [Pt.U, Pt.locs, Pt.cells, Pt.slots] at X2089 l2089 y2089 z2089 st2089 hQ2089
 rw [l2089, y2089, z2089] at X2089
 obtain ⟨hv2089, Nq2089, eq2089⟩ := hQ2089
 rw [hv2089] at st2089
 have N2089 := Fr.app N0 Nq2089
 obtain ⟨T2090, X2090, e2090, st2090⟩ := getF X2089 hx hZ hown (host := "") (Or.inl (wd hw 58 rfl)) Via.refl eq2089 F_A_completionEvents (g := (mkF m 85 #[.val (.ref A), .val (.double (FP.l2d it)), .second, .val (.double (FP.l2d (it - 10))), .second, .unset, .unset, .unset] [(.ref A)])) rfl rfl (hb hby dFG_85)
 obtain ⟨cq2091, kq2091, q2091a, q2091b, q2091c⟩ := isOf hZ e2090 E_q
 obtain ⟨_, _, ⟨T2091, L2091, k2091, n2091⟩, -, X2091, ⟨Lc2091, hQ2091, l2091, y2091, z2091⟩, st2091⟩ := X2090.virtualBack hx (y := (⟨sRQ, "isEmpty", "()Z"⟩ : MethodName)) (z := (⟨sRQ, "isEmpty", "()Z"⟩ : MethodName)) hown (mvT hZ (wd hw 163 rfl)) (mvT hZ (wd hw 164 rfl)) (notFace_of_selects (args := #[]) (mvT hZ (wd hw 166 rfl))) (mvT hZ (wd hw 166 rfl)) (mvT hZ (wd hw 165 rfl)) (by decide) (backOf (W := 0) (rmIE2 l Z a0 hw [] q h0 n0 (Nat.le_trans Z0 K0.1) F_q_size) hZ (wd hw 167 rfl) (wd hw 28 rfl) (by decide) (by decide)) q2091a q2091c (g := (mkF m 88 #[.val (.ref A), .val (.double (FP.l2d it)), .second, .val (.double (FP.l2d (it - 10))), .second, .unset, .unset, .unset] [(.ref q)])) rfl (by rw [hml]; rfl) (Steps.refl _) (argsL := []) (rest := []) (lenOf pd_10 rfl) rfl (by show 2 * 0 + _ ≤ _; exact Nat.le_of_eq rfl) (hb hby dFG_88) (fun _ _ => ⟨rfl, e2090, (by decide : 0 + 0 ≤ _), (by decide : 0 + 0 ≤ _)⟩)
 dsimp only [Pt.U, Pt.locs, Pt.cells, Pt.slots] at X2091 l2091 y2091 z2091 st2091 hQ2091
 rw [l2091, y2091, z2091] at X2091
 obtain ⟨hv2091, Nq2091, eq2091⟩ := hQ2091
 rw [hv2091] at st2091
 have N2091 := Fr.app N2089 Nq2091
 obtain ⟨T2092, X2092, e2092, st2092⟩ := getF X2091 hx hZ hown (host := "") (Or.inl (wd hw 58 rfl)) Via.refl eq2091 F_A_completionEvents (g := (mkF m 95 #[.val (.ref A), .val (.double (FP.l2d it)), .second, .val (.double (FP.l2d (it - 10))), .second, .unset, .unset, .unset] [(.ref A)])) rfl rfl (hb hby dFG_95)
 obtain ⟨cq2093, kq2093, q2093a, q2093b, q2093c⟩ := isOf hZ e2092 E_q
 obtain ⟨_, _, ⟨T2093, L2093, k2093, n2093⟩, -, X2093, ⟨Lc2093, hQ2093, l2093, y2093, z2093⟩, st2093⟩ := X2092.virtualBack hx (y := (⟨sRQ, "firstDouble", "(I)D"⟩ : MethodName)) (z := (⟨sRQ, "firstDouble", "(I)D"⟩ : MethodName)) hown (mvT hZ (wd hw 168 rfl)) (mvT hZ (wd hw 169 rfl)) (notFace_of_selects (args := #[]) (mvT hZ (wd hw 171 rfl))) (mvT hZ (wd hw 171 rfl)) (mvT hZ (wd hw 170 rfl)) (by decide) (backOf (W := 0) (rmFD00 l Z a0 hw [] q b bd d0 d1 kbd kd t1 t2 h0 n0 (Nat.le_trans Z0 K0.1) F_q_first F_q_head F_b_doubles V_bd V_d0) hZ (wd hw 172 rfl) (wd hw 28 rfl) (by decide) (by decide)) q2093a q2093c (g := (mkF m 99 #[.val (.ref A), .val (.double (FP.l2d it)), .second, .val (.double (FP.l2d (it - 10))), .second, .unset, .unset, .unset] [(.int (0 : Int32)), (.ref q)])) rfl (by rw [hml]; rfl) (Steps.refl _) (argsL := [(.int (0 : Int32))]) (rest := []) (lenOf pd_11 rfl) rfl (by show 2 * 0 + _ ≤ _; exact Nat.le_of_eq rfl) (hb hby dFG_99) (fun _ _ => ⟨rfl, e2092, (by decide : 0 + 0 ≤ _), (by decide : 0 + 0 ≤ _)⟩)
 dsimp only [Pt.U, Pt.locs, Pt.cells, Pt.slots] at X2093 l2093 y2093 z2093 st2093 hQ2093
 rw [l2093, y2093, z2093] at X2093
 obtain ⟨hv2093, Nq2093, eq2093⟩ := hQ2093
 rw [hv2093] at st2093
 have N2093 := Fr.app N2091 Nq2093
 obtain ⟨T2094, X2094, e2094, st2094⟩ := getF X2093 hx hZ hown (host := "") (Or.inl (wd hw 58 rfl)) Via.refl eq2093 F_A_completionEvents (g := (mkF m 108 #[.val (.ref A), .val (.double (FP.l2d it)), .second, .val (.double (FP.l2d (it - 10))), .second, .unset, .unset, .unset] [(.ref A)])) rfl rfl (hb hby dFG_108)
 obtain ⟨cq2095, kq2095, q2095a, q2095b, q2095c⟩ := isOf hZ e2094 E_q
 obtain ⟨_, _, ⟨T2095, L2095, k2095, n2095⟩, -, X2095, ⟨Lc2095, hQ2095, l2095, y2095, z2095⟩, st2095⟩ := X2094.virtualBack hx (y := (⟨sRQ, "firstInt", "(I)I"⟩ : MethodName)) (z := (⟨sRQ, "firstInt", "(I)I"⟩ : MethodName)) hown (mvT hZ (wd hw 175 rfl)) (mvT hZ (wd hw 176 rfl)) (notFace_of_selects (args := #[]) (mvT hZ (wd hw 178 rfl))) (mvT hZ (wd hw 178 rfl)) (mvT hZ (wd hw 177 rfl)) (by decide) (backOf (W := 0) (rmFI0 l Z a0 hw [] q b bi i0 kbi ki p1 p2 h0 n0 (Nat.le_trans Z0 K0.1) F_q_first F_q_head F_b_ints V_bi V_i0) hZ (wd hw 179 rfl) (wd hw 28 rfl) (by decide) (by decide)) q2095a q2095c (g := (mkF m 112 #[.val (.ref A), .val (.double (FP.l2d it)), .second, .val (.double (FP.l2d (it - 10))), .second, .unset, .unset, .unset] [(.int (0 : Int32)), (.ref q)])) rfl (by rw [hml]; rfl) (Steps.refl _) (argsL := [(.int (0 : Int32))]) (rest := []) (lenOf pd_12 rfl) rfl (by show 2 * 0 + _ ≤ _; exact Nat.le_of_eq rfl) (hb hby dFG_112) (fun _ _ => ⟨rfl, e2094, (by decide : 0 + 0 ≤ _), (by decide : 0 + 0 ≤ _)⟩)
 dsimp only [Pt.U, Pt.locs, Pt.cells, Pt.slots] at X2095 l2095 y2095 z2095 st2095 hQ2095
 rw [l2095, y2095, z2095] at X2095
 obtain ⟨hv2095, Nq2095, eq2095⟩ := hQ2095
 rw [hv2095] at st2095
 have N2095 := Fr.app N2093 Nq2095
 obtain ⟨T2096, X2096, e2096, st2096⟩ := getF X2095 hx hZ hown (host := "") (Or.inl (wd hw 58 rfl)) Via.refl eq2095 F_A_completionEvents (g := (mkF m 118 #[.val (.ref A), .val (.double (FP.l2d it)), .second, .val (.double (FP.l2d (it - 10))), .second, .val (.int p1), .unset, .unset] [(.ref A)])) rfl rfl (hb hby dFG_118)
 obtain ⟨cq2097, kq2097, q2097a, q2097b, q2097c⟩ := isOf hZ e2096 E_q
 obtain ⟨_, _, ⟨T2097, L2097, k2097, n2097⟩, -, X2097, ⟨Lc2097, hQ2097, l2097, y2097, z2097⟩, st2097⟩ := X2096.virtualBack hx (y := (⟨sRQ, "firstDouble", "(I)D"⟩ : MethodName)) (z := (⟨sRQ, "firstDouble", "(I)D"⟩ : MethodName)) hown (mvT hZ (wd hw 168 rfl)) (mvT hZ (wd hw 169 rfl)) (notFace_of_selects (args := #[]) (mvT hZ (wd hw 171 rfl))) (mvT hZ (wd hw 171 rfl)) (mvT hZ (wd hw 170 rfl)) (by decide) (backOf (W := 0) (rmFD10 l Z a0 hw [] q b bd d0 d1 kbd kd l1 l2 h0 n0 (Nat.le_trans Z0 K0.1) F_q_first F_q_head F_b_doubles V_bd V_d1) hZ (wd hw 172 rfl) (wd hw 28 rfl) (by decide) (by decide)) q2097a q2097c (g := (mkF m 122 #[.val (.ref A), .val (.double (FP.l2d it)), .second, .val (.double (FP.l2d (it - 10))), .second, .val (.int p1), .unset, .unset] [(.int (1 : Int32)), (.ref q)])) rfl (by rw [hml]; rfl) (Steps.refl _) (argsL := [(.int (1 : Int32))]) (rest := []) (lenOf pd_11 rfl) rfl (by show 2 * 0 + _ ≤ _; exact Nat.le_of_eq rfl) (hb hby dFG_122) (fun _ _ => ⟨rfl, e2096, (by decide : 0 + 0 ≤ _), (by decide : 0 + 0 ≤ _)⟩)
 dsimp only [Pt.U, Pt.locs, Pt.cells, Pt.slots] at X2097 l2097 y2097 z2097 st2097 hQ2097
 rw [l2097, y2097, z2097] at X2097
 obtain ⟨hv2097, Nq2097, eq2097⟩ := hQ2097
 rw [hv2097] at st2097
 have N2097 := Fr.app N2095 Nq2097
 obtain ⟨T2098, X2098, e2098, st2098⟩ := getF X2097 hx hZ hown (host := "") (Or.inl (wd hw 21 rfl)) Via.refl eq2097 F_A_executorCompleted (g := (mkF m 128 #[.val (.ref A), .val (.double (FP.l2d it)), .second, .val (.double (FP.l2d (it - 10))), .second, .val (.int p1), .val (.double (FP.l2d l1)), .second] [(.ref A)])) rfl rfl (hb hby dFG_128)
 obtain ⟨cl2099, Ar2099, q2099, S2099, N2099, H2099, G2099⟩ := id V_ec
 have hin2099 : ¬ (p1 < 0 ∨ cl2099.slots.size ≤ (p1).toNatClampNeg) := (inb_of S2099 ⟨hq10, hq1n⟩)
 have hat2099 : cl2099.slots[(p1).toNatClampNeg]? = some (.long (f p1.toNatClampNeg)) := (H2099.at (inb_of S2099 ⟨hq10, hq1n⟩) (own_Lget _ hx1 _))
 obtain ⟨cl2100, Ar2100, q2100, S2100, N2100, H2100, G2100⟩ := id V_ec
 have hin2100 : ¬ (p1 < 0 ∨ cl2100.slots.size ≤ (p1).toNatClampNeg) := (inb_of S2100 ⟨hq10, hq1n⟩)
 obtain ⟨T2101, h2101, X2101, e2101, W2101, st2101⟩ := stJ X2098 hx hZ e2098 Ar2100 (j := p1) hin2100 (g := (mkF m 137 #[.val (.ref A), .val (.double (FP.l2d it)), .second, .val (.double (FP.l2d (it - 10))), .second, .val (.int p1), .val (.double (FP.l2d l1)), .second] [(.long ((f p1.toNatClampNeg) - (1 : Int64))), (.int p1), (.ref ec)])) rfl rfl (hb hby dFG_137)
 have V2101 := Arv.set Ar2100 q2100 S2100 N2100 H2100 G2100 rfl W2101 p1.toNatClampNeg rfl (by rw [own_Llen]; exact hx1)
 rw [own_Lset] at V2101
 have K2101 : Keep h0 h2101 [A, ec, el, q, b, bi, i0, bd, d0, d1] := K0.wr W2101 (Or.inl (List.mem_of_getElem? (i := 1) rfl))
 have N2101F := Fr.snoc X2101 N2097 g_ec
 have f2102 := F_A_executorLatencySum.other W2101 (Or.inl (Ne.symm ne_ec_A))
 obtain ⟨T2103, X2103, e2103, st2103⟩ := getF X2101 hx hZ hown (host := "") (Or.inl (wd hw 24 rfl)) Via.refl e2101 f2102 (g := (mkF m 139 #[.val (.ref A), .val (.double (FP.l2d it)), .second, .val (.double (FP.l2d (it - 10))), .second, .val (.int p1), .val (.double (FP.l2d l1)), .second] [(.ref A)])) rfl rfl (hb hby dFG_139)
 have f2105 := V_el.other W2101 (Ne.symm ne_ec_el)
 obtain ⟨cl2104, Ar2104, q2104, S2104, N2104, H2104, G2104⟩ := id f2105
 have hin2104 : ¬ (p1 < 0 ∨ cl2104.slots.size ≤ (p1).toNatClampNeg) := (inb_of S2104 ⟨hq10, hq1n⟩)
 have hat2104 : cl2104.slots[(p1).toNatClampNeg]? = some (.double (FP.l2d (g p1.toNatClampNeg))) := (H2104.at (inb_of S2104 ⟨hq10, hq1n⟩) (own_Dget _ hx1 _))
 obtain ⟨cl2106, Ar2106, q2106, S2106, N2106, H2106, G2106⟩ := id f2105
 have hin2106 : ¬ (p1 < 0 ∨ cl2106.slots.size ≤ (p1).toNatClampNeg) := (inb_of S2106 ⟨hq10, hq1n⟩)
 obtain ⟨T2107, h2107, X2107, e2107, W2107, st2107⟩ := stD X2103 hx hZ e2103 Ar2106 (j := p1) hin2106 (g := (mkF m 149 #[.val (.ref A), .val (.double (FP.l2d it)), .second, .val (.double (FP.l2d (it - 10))), .second, .val (.int p1), .val (.double (FP.l2d l1)), .second] [(.double (FP.l2d ((g p1.toNatClampNeg) - l1))), (.int p1), (.ref el)])) rfl rfl (hb hby dFG_149)
 have V2107 := Arv.set Ar2106 q2106 S2106 N2106 H2106 G2106 rfl W2107 p1.toNatClampNeg rfl (by rw [own_Dlen]; exact hx1)
 rw [own_Dset] at V2107
 have K2107 : Keep h0 h2107 [A, ec, el, q, b, bi, i0, bd, d0, d1] := K2101.wr W2107 (Or.inl (List.mem_of_getElem? (i := 2) rfl))
 have N2107F := Fr.snoc X2107 N2101F g_el
 have f2109 := (F_A_completionEvents.other W2101 (Or.inl (Ne.symm ne_ec_A))).other W2107 (Or.inl (Ne.symm ne_el_A))
 obtain ⟨T2110, X2110, e2110, st2110⟩ := getF X2107 hx hZ hown (host := "") (Or.inl (wd hw 58 rfl)) Via.refl e2107 f2109 (g := (mkF m 151 #[.val (.ref A), .val (.double (FP.l2d it)), .second, .val (.double (FP.l2d (it - 10))), .second, .val (.int p1), .val (.double (FP.l2d l1)), .second] [(.ref A)])) rfl rfl (hb hby dFG_151)
 have f2113 := (E_q.wr W2101).wr W2107
 have f2115 := (F_q_first.other W2101 (Or.inl (Ne.symm ne_ec_q))).other W2107 (Or.inl (Ne.symm ne_el_q))
 have f2117 := (F_q_head.other W2101 (Or.inl (Ne.symm ne_ec_q))).other W2107 (Or.inl (Ne.symm ne_el_q))
 have f2119 := (F_q_end.other W2101 (Or.inl (Ne.symm ne_ec_q))).other W2107 (Or.inl (Ne.symm ne_el_q))
 have f2121 := (F_q_size.other W2101 (Or.inl (Ne.symm ne_ec_q))).other W2107 (Or.inl (Ne.symm ne_el_q))
 have f2123 := (F_b_capacity.other W2101 (Or.inl (Ne.symm ne_ec_b))).other W2107 (Or.inl (Ne.symm ne_el_b))
 obtain ⟨cq2111, kq2111, q2111a, q2111b, q2111c⟩ := isOf hZ e2110 f2113
 obtain ⟨_, _, ⟨T2111, L2111, k2111, n2111⟩, -, X2111, ⟨Lc2111, hQ2111, l2111, y2111, z2111⟩, st2111⟩ := X2110.virtualBack hx (y := (⟨sRQ, "removeFirst", "()V"⟩ : MethodName)) (z := (⟨sRQ, "removeFirst", "()V"⟩ : MethodName)) hown (mvT hZ (wd hw 180 rfl)) (mvT hZ (wd hw 181 rfl)) (notFace_of_selects (args := #[]) (mvT hZ (wd hw 183 rfl))) (mvT hZ (wd hw 183 rfl)) (mvT hZ (wd hw 182 rfl)) (by decide) (backOf (W := 0) (rmRF20 l Z a0 hw [] q b (2 : Int32) h2107 n0 (Nat.le_trans Z0 K2107.1) f2113 f2115 f2117 f2119 f2121 f2123 ne_q_b g_q) hZ (wd hw 184 rfl) (wd hw 28 rfl) (by decide) (by decide)) q2111a q2111c (g := (mkF m 154 #[.val (.ref A), .val (.double (FP.l2d it)), .second, .val (.double (FP.l2d (it - 10))), .second, .val (.int p1), .val (.double (FP.l2d l1)), .second] [(.ref q)])) rfl (by rw [hml]; rfl) (Steps.refl _) (argsL := []) (rest := []) (lenOf pd_1 rfl) rfl (by show 2 * 0 + _ ≤ _; exact Nat.le_of_eq rfl) (hb hby dFG_154) (fun _ _ => ⟨rfl, e2110, (by decide : 0 + 0 ≤ _), (by decide : 0 + 0 ≤ _)⟩)
 dsimp only [Pt.U, Pt.locs, Pt.cells, Pt.slots] at X2111 l2111 y2111 z2111 st2111 hQ2111
 rw [l2111, y2111, z2111] at X2111
 obtain ⟨hv2111, Nq2111, Kc2111, Eq2111, Fqfirst2111, Fqhead2111, Fqend2111, Fqsize2111⟩ := hQ2111
 rw [hv2111] at st2111
 have K2111 : Keep h0 T2111.heap [A, ec, el, q, b, bi, i0, bd, d0, d1] := K2107.trans Kc2111 (allS (P := fun x => x ∈ [A, ec, el, q, b, bi, i0, bd, d0, d1] ∨ h0.size ≤ x) (Or.inl (List.mem_of_getElem? (i := 3) rfl)) all0)
 have N2111 := Fr.app N2107F Nq2111
 have f2124 := f2109.keep Kc2111 (ninS ne_A_q nin0)
 obtain ⟨T2125, X2125, e2125, st2125⟩ := getF X2111 hx hZ hown (host := "") (Or.inl (wd hw 58 rfl)) Via.refl rfl f2124 (g := (mkF m 85 #[.val (.ref A), .val (.double (FP.l2d it)), .second, .val (.double (FP.l2d (it - 10))), .second, .val (.int p1), .val (.double (FP.l2d l1)), .second] [(.ref A)])) rfl rfl (hb hby dFG_85)
 obtain ⟨cq2126, kq2126, q2126a, q2126b, q2126c⟩ := isOf hZ e2125 Eq2111
 obtain ⟨_, _, ⟨T2126, L2126, k2126, n2126⟩, -, X2126, ⟨Lc2126, hQ2126, l2126, y2126, z2126⟩, st2126⟩ := X2125.virtualBack hx (y := (⟨sRQ, "isEmpty", "()Z"⟩ : MethodName)) (z := (⟨sRQ, "isEmpty", "()Z"⟩ : MethodName)) hown (mvT hZ (wd hw 163 rfl)) (mvT hZ (wd hw 164 rfl)) (notFace_of_selects (args := #[]) (mvT hZ (wd hw 166 rfl))) (mvT hZ (wd hw 166 rfl)) (mvT hZ (wd hw 165 rfl)) (by decide) (backOf (W := 0) (rmIE1 l Z a0 hw [] q T2111.heap n0 (Nat.le_trans Z0 K2111.1) Fqsize2111) hZ (wd hw 167 rfl) (wd hw 28 rfl) (by decide) (by decide)) q2126a q2126c (g := (mkF m 88 #[.val (.ref A), .val (.double (FP.l2d it)), .second, .val (.double (FP.l2d (it - 10))), .second, .val (.int p1), .val (.double (FP.l2d l1)), .second] [(.ref q)])) rfl (by rw [hml]; rfl) (Steps.refl _) (argsL := []) (rest := []) (lenOf pd_10 rfl) rfl (by show 2 * 0 + _ ≤ _; exact Nat.le_of_eq rfl) (hb hby dFG_88) (fun _ _ => ⟨rfl, e2125, (by decide : 0 + 0 ≤ _), (by decide : 0 + 0 ≤ _)⟩)
 dsimp only [Pt.U, Pt.locs, Pt.cells, Pt.slots] at X2126 l2126 y2126 z2126 st2126 hQ2126
 rw [l2126, y2126, z2126] at X2126
 obtain ⟨hv2126, Nq2126, eq2126⟩ := hQ2126
 rw [hv2126] at st2126
 have N2126 := Fr.app N2111 Nq2126
 obtain ⟨T2127, X2127, e2127, st2127⟩ := getF X2126 hx hZ hown (host := "") (Or.inl (wd hw 58 rfl)) Via.refl eq2126 f2124 (g := (mkF m 95 #[.val (.ref A), .val (.double (FP.l2d it)), .second, .val (.double (FP.l2d (it - 10))), .second, .val (.int p1), .val (.double (FP.l2d l1)), .second] [(.ref A)])) rfl rfl (hb hby dFG_95)
 have f2131 := ((F_b_doubles.other W2101 (Or.inl (Ne.symm ne_ec_b))).other W2107 (Or.inl (Ne.symm ne_el_b))).keep Kc2111 (ninS (Ne.symm ne_q_b) nin0)
 have f2134 := ((V_bd.other W2101 (Ne.symm ne_ec_bd)).other W2107 (Ne.symm ne_el_bd)).keep Kc2111 (ninS (Ne.symm ne_q_bd) nin0)
 have f2137 := ((V_d0.other W2101 (Ne.symm ne_ec_d0)).other W2107 (Ne.symm ne_el_d0)).keep Kc2111 (ninS (Ne.symm ne_q_d0) nin0)
 obtain ⟨cq2128, kq2128, q2128a, q2128b, q2128c⟩ := isOf hZ e2127 Eq2111
 obtain ⟨_, _, ⟨T2128, L2128, k2128, n2128⟩, -, X2128, ⟨Lc2128, hQ2128, l2128, y2128, z2128⟩, st2128⟩ := X2127.virtualBack hx (y := (⟨sRQ, "firstDouble", "(I)D"⟩ : MethodName)) (z := (⟨sRQ, "firstDouble", "(I)D"⟩ : MethodName)) hown (mvT hZ (wd hw 168 rfl)) (mvT hZ (wd hw 169 rfl)) (notFace_of_selects (args := #[]) (mvT hZ (wd hw 171 rfl))) (mvT hZ (wd hw 171 rfl)) (mvT hZ (wd hw 170 rfl)) (by decide) (backOf (W := 0) (rmFD01 l Z a0 hw [] q b bd d0 d1 kbd kd t1 t2 T2111.heap n0 (Nat.le_trans Z0 K2111.1) Fqfirst2111 Fqhead2111 f2131 f2134 f2137) hZ (wd hw 172 rfl) (wd hw 28 rfl) (by decide) (by decide)) q2128a q2128c (g := (mkF m 99 #[.val (.ref A), .val (.double (FP.l2d it)), .second, .val (.double (FP.l2d (it - 10))), .second, .val (.int p1), .val (.double (FP.l2d l1)), .second] [(.int (0 : Int32)), (.ref q)])) rfl (by rw [hml]; rfl) (Steps.refl _) (argsL := [(.int (0 : Int32))]) (rest := []) (lenOf pd_11 rfl) rfl (by show 2 * 0 + _ ≤ _; exact Nat.le_of_eq rfl) (hb hby dFG_99) (fun _ _ => ⟨rfl, e2127, (by decide : 0 + 0 ≤ _), (by decide : 0 + 0 ≤ _)⟩)
 dsimp only [Pt.U, Pt.locs, Pt.cells, Pt.slots] at X2128 l2128 y2128 z2128 st2128 hQ2128
 rw [l2128, y2128, z2128] at X2128
 obtain ⟨hv2128, Nq2128, eq2128⟩ := hQ2128
 rw [hv2128] at st2128
 have N2128 := Fr.app N2126 Nq2128
 have f2140 := ((E_A.wr W2101).wr W2107).keep Kc2111
 have f2143 := ((F_A_executorCompleted.other W2101 (Or.inl (Ne.symm ne_ec_A))).other W2107 (Or.inl (Ne.symm ne_el_A))).keep Kc2111 (ninS ne_A_q nin0)
 have f2145 := (f2102.other W2107 (Or.inl (Ne.symm ne_el_A))).keep Kc2111 (ninS ne_A_q nin0)
 have f2147 := (V2101.other W2107 ne_ec_el).keep Kc2111 (ninS ne_ec_q nin0)
 have f2148 := V2107.keep Kc2111 (ninS ne_el_q nin0)
 obtain ⟨fs, hr, hrun, hended, hW, hsame⟩ := X2128.leave (v := none) (fun _ => rfl)
 refine ⟨_, _, ?_, hrun, hended, _, _, rfl, ?_, ⟨_, rfl⟩, hW, hsame.mono (by decide) (by decide)⟩
 ·refine pre0 _ ?_
  show Steps _ _ _ (s₁.setTop (mkF m 0 #[.val (.ref A), .val (.double (FP.l2d it)), .second, .unset, .unset, .unset, .unset, .unset] [])) _
  refine XS.dloadN X0.here hx rfl (hb hby dFG_0) rfl ?_
  refine XS.aloadN X0.here hx rfl (hb hby dFG_1) rfl rfl ?_
  refine st2086 _ ?_
  refine XS.dcmpS X2086.here hx rfl (hb hby dFG_5) rfl (v := (lcmpW it 100)) (own_cmpw hib own_b100 (by decide) (by decide) _) ?_
  show Steps _ _ _ (T2086.setTop (mkF m 6 #[.val (.ref A), .val (.double (FP.l2d it)), .second, .unset, .unset, .unset, .unset, .unset] [(.int (lcmpW it 100))])) _
  refine XS.ifYes X2086.here hx rfl (pc0 := 6) (pc' := 27) rfl (hb hby dFG_6) rfl ((if0 _ _).trans (tlt ((lw_lt _ _).mpr hi100)).1) (by decide) (by decide) ?_
  refine XS.dloadN X2086.here hx rfl (hb hby dFG_27) rfl ?_
  refine XS.aloadN X2086.here hx rfl (hb hby dFG_28) rfl rfl ?_
  refine st2087 _ ?_
  show Steps _ _ _ (T2087.setTop (mkF m 32 #[.val (.ref A), .val (.double (FP.l2d it)), .second, .unset, .unset, .unset, .unset, .unset] [(.double (FP.l2d 10)), (.double (FP.l2d it))])) _
  refine XS.dsubS X2087.here hx rfl (hb hby dFG_32) rfl (v := (FP.l2d (it - 10))) (nn_w (own_sub hib own_b10 (by decide) (by decide))) (own_sub hib own_b10 (by decide) (by decide)) ?_
  refine XS.dstoreN X2087.here hx rfl (hb hby dFG_33) rfl (l' := #[.val (.ref A), .val (.double (FP.l2d it)), .second, .val (.double (FP.l2d (it - 10))), .second, .unset, .unset, .unset]) rfl ?_
  refine XS.aloadN X2087.here hx rfl (hb hby dFG_34) rfl rfl ?_
  refine st2088 _ ?_
  refine st2089.trans ?_
  show Steps _ _ _ (T2089.setTop (mkF m 41 #[.val (.ref A), .val (.double (FP.l2d it)), .second, .val (.double (FP.l2d (it - 10))), .second, .unset, .unset, .unset] [(.int (1 : Int32))])) _
  refine XS.ifYes X2089.here hx rfl (pc0 := 41) (pc' := 84) rfl (hb hby dFG_41) rfl (by decide) (by decide) (by decide) ?_
  refine XS.aloadN X2089.here hx rfl (hb hby dFG_84) rfl rfl ?_
  refine st2090 _ ?_
  refine st2091.trans ?_
  show Steps _ _ _ (T2091.setTop (mkF m 91 #[.val (.ref A), .val (.double (FP.l2d it)), .second, .val (.double (FP.l2d (it - 10))), .second, .unset, .unset, .unset] [(.int (0 : Int32))])) _
  refine XS.ifNo X2091.here hx rfl (hb hby dFG_91) rfl (by decide) ?_
  refine XS.aloadN X2091.here hx rfl (hb hby dFG_94) rfl rfl ?_
  refine st2092 _ ?_
  refine XS.iconst X2092.here hx rfl (hb hby dFG_98) ?_
  refine st2093.trans ?_
  show Steps _ _ _ (T2093.setTop (mkF m 102 #[.val (.ref A), .val (.double (FP.l2d it)), .second, .val (.double (FP.l2d (it - 10))), .second, .unset, .unset, .unset] [(.double (FP.l2d t1))])) _
  refine XS.dloadN X2093.here hx rfl (hb hby dFG_102) rfl ?_
  refine XS.dcmpS X2093.here hx rfl (hb hby dFG_103) rfl (v := (lcmpW t1 (it - 10))) (own_cmpw htb1 hob (by decide) (by decide) _) ?_
  refine XS.ifNo X2093.here hx rfl (hb hby dFG_104) rfl ((if0 _ _).trans (flt (fun q => hr1 ((lw_gt _ _).mp q))).2.2.1) ?_
  refine XS.aloadN X2093.here hx rfl (hb hby dFG_107) rfl rfl ?_
  refine st2094 _ ?_
  show Steps _ _ _ (T2094.setTop (mkF m 111 #[.val (.ref A), .val (.double (FP.l2d it)), .second, .val (.double (FP.l2d (it - 10))), .second, .unset, .unset, .unset] [(.ref q)])) _
  refine XS.iconst X2094.here hx rfl (hb hby dFG_111) ?_
  refine st2095.trans ?_
  show Steps _ _ _ (T2095.setTop (mkF m 115 #[.val (.ref A), .val (.double (FP.l2d it)), .second, .val (.double (FP.l2d (it - 10))), .second, .unset, .unset, .unset] [(.int p1)])) _
  refine XS.istore X2095.here hx rfl (hb hby dFG_115) rfl (l' := #[.val (.ref A), .val (.double (FP.l2d it)), .second, .val (.double (FP.l2d (it - 10))), .second, .val (.int p1), .unset, .unset]) rfl ?_
  refine XS.aloadN X2095.here hx rfl (hb hby dFG_117) rfl rfl ?_
  refine st2096 _ ?_
  refine XS.iconst X2096.here hx rfl (hb hby dFG_121) ?_
  refine st2097.trans ?_
  show Steps _ _ _ (T2097.setTop (mkF m 125 #[.val (.ref A), .val (.double (FP.l2d it)), .second, .val (.double (FP.l2d (it - 10))), .second, .val (.int p1), .unset, .unset] [(.double (FP.l2d l1))])) _
  refine XS.dstore X2097.here hx rfl (hb hby dFG_125) rfl (l' := #[.val (.ref A), .val (.double (FP.l2d it)), .second, .val (.double (FP.l2d (it - 10))), .second, .val (.int p1), .val (.double (FP.l2d l1)), .second]) rfl ?_
  refine XS.aloadN X2097.here hx rfl (hb hby dFG_127) rfl rfl ?_
  refine st2098 _ ?_
  refine XS.iload X2098.here hx rfl (hb hby dFG_131) rfl ?_
  show Steps _ _ _ (T2098.setTop (mkF m 133 #[.val (.ref A), .val (.double (FP.l2d it)), .second, .val (.double (FP.l2d (it - 10))), .second, .val (.int p1), .val (.double (FP.l2d l1)), .second] [(.int p1), (.ref ec)])) _
  jvm_step X2098.here [X2098.here.top, hx, (hb hby dFG_133), Value.category]
  show Steps _ _ _ (T2098.setTop (mkF m 134 #[.val (.ref A), .val (.double (FP.l2d it)), .second, .val (.double (FP.l2d (it - 10))), .second, .val (.int p1), .val (.double (FP.l2d l1)), .second] [(.int p1), (.ref ec), (.int p1), (.ref ec)])) _
  refine X2098.laload hx (j := p1) (v := (.long (f p1.toNatClampNeg))) (by rw [e2098]; exact Ar2099.1) (State.isArrayOf_alike hZ.alike Ar2099.2.1) Ar2099.2.2 hin2099 hat2099 (g := (mkF m 134 #[.val (.ref A), .val (.double (FP.l2d it)), .second, .val (.double (FP.l2d (it - 10))), .second, .val (.int p1), .val (.double (FP.l2d l1)), .second] [(.int p1), (.ref ec), (.int p1), (.ref ec)])) rfl rfl (hb hby dFG_134) _ ?_
  refine XS.lconst X2098.here hx rfl (hb hby dFG_135) ?_
  refine XS.lsub X2098.here hx rfl (hb hby dFG_136) rfl ?_
  show Steps _ _ _ (T2098.setTop (mkF m 137 #[.val (.ref A), .val (.double (FP.l2d it)), .second, .val (.double (FP.l2d (it - 10))), .second, .val (.int p1), .val (.double (FP.l2d l1)), .second] [(.long ((f p1.toNatClampNeg) - (1 : Int64))), (.int p1), (.ref ec)])) _
  refine st2101 _ ?_
  refine XS.aloadN X2101.here hx rfl (hb hby dFG_138) rfl rfl ?_
  refine st2103 _ ?_
  refine XS.iload X2103.here hx rfl (hb hby dFG_142) rfl ?_
  show Steps _ _ _ (T2103.setTop (mkF m 144 #[.val (.ref A), .val (.double (FP.l2d it)), .second, .val (.double (FP.l2d (it - 10))), .second, .val (.int p1), .val (.double (FP.l2d l1)), .second] [(.int p1), (.ref el)])) _
  jvm_step X2103.here [X2103.here.top, hx, (hb hby dFG_144), Value.category]
  show Steps _ _ _ (T2103.setTop (mkF m 145 #[.val (.ref A), .val (.double (FP.l2d it)), .second, .val (.double (FP.l2d (it - 10))), .second, .val (.int p1), .val (.double (FP.l2d l1)), .second] [(.int p1), (.ref el), (.int p1), (.ref el)])) _
  refine X2103.daload hx (j := p1) (v := (.double (FP.l2d (g p1.toNatClampNeg)))) (by rw [e2103]; exact Ar2104.1) (State.isArrayOf_alike hZ.alike Ar2104.2.1) Ar2104.2.2 hin2104 hat2104 (g := (mkF m 145 #[.val (.ref A), .val (.double (FP.l2d it)), .second, .val (.double (FP.l2d (it - 10))), .second, .val (.int p1), .val (.double (FP.l2d l1)), .second] [(.int p1), (.ref el), (.int p1), (.ref el)])) rfl rfl (hb hby dFG_145) _ ?_
  refine XS.dload X2103.here hx rfl (hb hby dFG_146) rfl ?_
  refine XS.dsubS X2103.here hx rfl (hb hby dFG_148) rfl (v := (FP.l2d ((g p1.toNatClampNeg) - l1))) (nn_w (own_sub (hgb _) hlb1 (by decide) (by decide))) (own_sub (hgb _) hlb1 (by decide) (by decide)) ?_
  show Steps _ _ _ (T2103.setTop (mkF m 149 #[.val (.ref A), .val (.double (FP.l2d it)), .second, .val (.double (FP.l2d (it - 10))), .second, .val (.int p1), .val (.double (FP.l2d l1)), .second] [(.double (FP.l2d ((g p1.toNatClampNeg) - l1))), (.int p1), (.ref el)])) _
  refine st2107 _ ?_
  refine XS.aloadN X2107.here hx rfl (hb hby dFG_150) rfl rfl ?_
  refine st2110 _ ?_
  refine st2111.trans ?_
  show Steps _ _ _ (T2111.setTop (mkF m 157 #[.val (.ref A), .val (.double (FP.l2d it)), .second, .val (.double (FP.l2d (it - 10))), .second, .val (.int p1), .val (.double (FP.l2d l1)), .second] [])) _
  refine XS.goto X2111.here hx rfl (pc0 := 157) (pc' := 84) rfl (hb hby dFG_157) (by decide) (by decide) ?_
  refine XS.aloadN X2111.here hx rfl (hb hby dFG_84) rfl rfl ?_
  refine st2125 _ ?_
  refine st2126.trans ?_
  show Steps _ _ _ (T2126.setTop (mkF m 91 #[.val (.ref A), .val (.double (FP.l2d it)), .second, .val (.double (FP.l2d (it - 10))), .second, .val (.int p1), .val (.double (FP.l2d l1)), .second] [(.int (0 : Int32))])) _
  refine XS.ifNo X2126.here hx rfl (hb hby dFG_91) rfl (by decide) ?_
  refine XS.aloadN X2126.here hx rfl (hb hby dFG_94) rfl rfl ?_
  refine st2127 _ ?_
  refine XS.iconst X2127.here hx rfl (hb hby dFG_98) ?_
  refine st2128.trans ?_
  show Steps _ _ _ (T2128.setTop (mkF m 102 #[.val (.ref A), .val (.double (FP.l2d it)), .second, .val (.double (FP.l2d (it - 10))), .second, .val (.int p1), .val (.double (FP.l2d l1)), .second] [(.double (FP.l2d t2))])) _
  refine XS.dloadN X2128.here hx rfl (hb hby dFG_102) rfl ?_
  refine XS.dcmpS X2128.here hx rfl (hb hby dFG_103) rfl (v := (lcmpW t2 (it - 10))) (own_cmpw htb2 hob (by decide) (by decide) _) ?_
  refine XS.ifYes X2128.here hx rfl (pc0 := 104) (pc' := 160) rfl (hb hby dFG_104) rfl ((if0 _ _).trans (tlt ((lw_gt _ _).mpr hr2)).2.2.1) (by decide) (by decide) ?_
  show Steps _ _ _ (T2128.setTop (mkF m 160 #[.val (.ref A), .val (.double (FP.l2d it)), .second, .val (.double (FP.l2d (it - 10))), .second, .val (.int p1), .val (.double (FP.l2d l1)), .second] [])) _
  exact X2128.returnOut hx Bd.returns (hb hby dFG_160) hr
 ·show QFG21 Z A it ec el qa q kec kel n f g p1 t1 l1 p2 t2 l2 h0 n0 _ T2128.heap _
  rw [eq2128]
  exact ⟨rfl, N2128, K2111.1, f2140, f2143, f2145, f2147, f2148⟩
theorem ef_FG22 (m : MethodId) (x0 : Addr) (x1 : UInt64) : entryFrame m #[(.ref x0), (.double x1)] 8 = mkF m 0 #[.val (.ref x0), .val (.double x1), .second, .unset, .unset, .unset, .unset, .unset] [] := by first | (simp [entryFrame, mkF, argsToLocals, Value.category]; done) | rfl
def QFG22 (Z : State) (A : Addr) (it : Int64) (ec : Addr) (el : Addr) (qa : Addr) (q : Addr) (kec : ClassId) (kel : ClassId) (n : Int32) (f : Nat → Int64) (g : Nat → Int64) (p1 : Int32) (t1 : Int64) (l1 : Int64) (p2 : Int32) (t2 : Int64) (l2 : Int64) (h0 : Heap) (n0 : Nat) (v : Option Value) (h : Heap) (L : List Loc) : Prop := v = none ∧ Fr n0 L ∧ h0.size ≤ h.size ∧ Exa Z h A sRA ∧ Fld Z h A sRA "executorCompleted" "[J" (.ref ec) ∧ Fld Z h A sRA "executorLatencySum" "[D" (.ref el) ∧ Arv Z h ec kec .long n (own_L (own_upd (own_upd f p1.toNatClampNeg ((f p1.toNatClampNeg) - (1 : Int64))) p2.toNatClampNeg (((own_upd f p1.toNatClampNeg ((f p1.toNatClampNeg) - (1 : Int64))) p2.toNatClampNeg) - (1 : Int64)))) (.long 0) ∧ Arv Z h el kel .double n (own_D (own_upd (own_upd g p1.toNatClampNeg ((g p1.toNatClampNeg) - l1)) p2.toNatClampNeg (((own_upd g p1.toNatClampNeg ((g p1.toNatClampNeg) - l1)) p2.toNatClampNeg) - l2))) (.double (FP.l2d 0))
set_option maxRecDepth 65536 in
set_option maxHeartbeats 40000000 in
theorem rmFG22 (l : Launch) (Z : State) (a0 : Array Value) (hw : HW Z a0) (ws : List Jvm.Cond) (A : Addr) (it : Int64) (ec : Addr) (el : Addr) (qa : Addr) (q : Addr) (kec : ClassId) (kel : ClassId) (n : Int32) (f : Nat → Int64) (g : Nat → Int64) (p1 : Int32) (t1 : Int64) (l1 : Int64) (p2 : Int32) (t2 : Int64) (l2 : Int64) (h0 : Heap) (n0 : Nat) (Z0 : n0 ≤ h0.size) (S : own_S2 Z h0 n0 A ec el qa q kec kel n f g p1 t1 l1 p2 t2 l2) (hib : own_B 1000 it) (hi100 : it < 100) (hgb : ∀ i, own_B 4294967296 (g i)) (hq10 : ¬ p1 < 0) (hq11 : ¬ (63 : Int32) < p1) (hq1n : p1 < n) (htb1 : own_B 1000 t1) (hlb1 : own_B 2147483648 l1) (hq20 : ¬ p2 < 0) (hq21 : ¬ (63 : Int32) < p2) (hq2n : p2 < n) (htb2 : own_B 1000 t2) (hlb2 : own_B 2147483648 l2) (hr1 : ¬ (it - 10) < t1) (hr2 : ¬ (it - 10) < t2) :
  MetFree l (⟨sRA, "forgetUntil", "(D)V"⟩ : MethodName) (head1 (Jvm.Cond.code (⟨sRA, "forgetUntil", "(D)V"⟩ : MethodName) prog_63_method_5_code 8 none :: ws) (Rm 1 0 0 13)) (fun a U => a = #[(.ref A), (.double (FP.l2d it))] ∧ Z.Warmed39 U.vm ∧ U.heap = h0) (fun _ _ _ _ _ => True) (fun _ U o U' => ∃ v L, o = .returned v ∧ QFG22 Z A it ec el qa q kec kel n f g p1 t1 l1 p2 t2 l2 h0 n0 v U'.heap L ∧ FrameEnd U o U' L (Rm 1 0 0 13).cells (Rm 1 0 0 13).slots) := by
 refine MetFree.of_bodySF (plainFor_of_name pn_com_example_frugal_weir_frugalweir_replay_RecentActivity) hisR ?_
 intro p e s m args below meth c s₁ Bd hml0 hP hK
 obtain ⟨rfl, hZ, hh⟩ := hP
 have hx := Bd.exec
 have hby := Bd.bytes
 have hml : c.maxLocals = 8 := hml0
 have hown : s.vm.findClass sRA = some m.cls := findClass_of_methodNamed Bd.named
 have hnm := (name_of_methodNamed Bd.named Bd.method).1
 have X0 : Stand p l e (Rm 1 0 0 13) s m #[(.ref A), (.double (FP.l2d it))] below meth c s₁ [] 0 0 := Stand.of_body Bd
 have e0 : s₁.heap = h0 := by rw [← hh, Bd.state]; rfl
 have N0 := Fr.nil n0
 have pre0 : ∀ t, Steps p.tables e below (s₁.setTop (mkF m 0 #[.val (.ref A), .val (.double (FP.l2d it)), .second, .unset, .unset, .unset, .unset, .unset] [])) t → Steps p.tables e below (s₁.setTop (entryFrame m #[(.ref A), (.double (FP.l2d it))] 8)) t := fun t k => castTop (ef_FG22 m A (FP.l2d it)) k
 obtain ⟨E_A, F_A_window, F_A_asksBefore, F_A_keptUntil, F_A_executorCompleted, F_A_executorLatencySum, F_A_arrivalEvents, F_A_completionEvents, E_qa, F_qa_size, V_ec, V_el, b, bi, i0, bd, d0, d1, kbi, ki, kbd, kd, E_q, F_q_first, F_q_last, F_q_head, F_q_end, F_q_size, E_b, F_b_capacity, F_b_ints, F_b_doubles, V_bi, V_bd, V_i0, V_d0, V_d1, c_A_qa, c_qa_q, c_q_b, c_b_bi, c_bi_i0, c_i0_bd, c_bd_d0, c_d0_d1, ne_ec_A, ne_ec_qa, ne_ec_q, ne_ec_b, ne_ec_bi, ne_ec_i0, ne_ec_bd, ne_ec_d0, ne_ec_d1, ne_el_A, ne_el_qa, ne_el_q, ne_el_b, ne_el_bi, ne_el_i0, ne_el_bd, ne_el_d0, ne_el_d1, ne_ec_el, g_A, g_ec, g_el, g_q, g_b, g_bi, g_i0, g_bd, g_d0, g_d1⟩ := S
 have lt_A_qa : A < qa := c_A_qa
 have ne_A_qa : A ≠ qa := Nat.ne_of_lt lt_A_qa
 have lt_A_q : A < q := Nat.lt_trans lt_A_qa c_qa_q
 have ne_A_q : A ≠ q := Nat.ne_of_lt lt_A_q
 have lt_A_b : A < b := Nat.lt_trans lt_A_q c_q_b
 have ne_A_b : A ≠ b := Nat.ne_of_lt lt_A_b
 have lt_A_bi : A < bi := Nat.lt_trans lt_A_b c_b_bi
 have ne_A_bi : A ≠ bi := Nat.ne_of_lt lt_A_bi
 have lt_A_i0 : A < i0 := Nat.lt_trans lt_A_bi c_bi_i0
 have ne_A_i0 : A ≠ i0 := Nat.ne_of_lt lt_A_i0
 have lt_A_bd : A < bd := Nat.lt_trans lt_A_i0 c_i0_bd
 have ne_A_bd : A ≠ bd := Nat.ne_of_lt lt_A_bd
 have lt_A_d0 : A < d0 := Nat.lt_trans lt_A_bd c_bd_d0
 have ne_A_d0 : A ≠ d0 := Nat.ne_of_lt lt_A_d0
 have lt_A_d1 : A < d1 := Nat.lt_trans lt_A_d0 c_d0_d1
 have ne_A_d1 : A ≠ d1 := Nat.ne_of_lt lt_A_d1
 have lt_qa_q : qa < q := c_qa_q
 have ne_qa_q : qa ≠ q := Nat.ne_of_lt lt_qa_q
 have lt_qa_b : qa < b := Nat.lt_trans lt_qa_q c_q_b
 have ne_qa_b : qa ≠ b := Nat.ne_of_lt lt_qa_b
 have lt_qa_bi : qa < bi := Nat.lt_trans lt_qa_b c_b_bi
 have ne_qa_bi : qa ≠ bi := Nat.ne_of_lt lt_qa_bi
 have lt_qa_i0 : qa < i0 := Nat.lt_trans lt_qa_bi c_bi_i0
 have ne_qa_i0 : qa ≠ i0 := Nat.ne_of_lt lt_qa_i0
 have lt_qa_bd : qa < bd := Nat.lt_trans lt_qa_i0 c_i0_bd
 have ne_qa_bd : qa ≠ bd := Nat.ne_of_lt lt_qa_bd
 have lt_qa_d0 : qa < d0 := Nat.lt_trans lt_qa_bd c_bd_d0
 have ne_qa_d0 : qa ≠ d0 := Nat.ne_of_lt lt_qa_d0
 have lt_qa_d1 : qa < d1 := Nat.lt_trans lt_qa_d0 c_d0_d1
 have ne_qa_d1 : qa ≠ d1 := Nat.ne_of_lt lt_qa_d1
 have lt_q_b : q < b := c_q_b
 have ne_q_b : q ≠ b := Nat.ne_of_lt lt_q_b
 have lt_q_bi : q < bi := Nat.lt_trans lt_q_b c_b_bi
 have ne_q_bi : q ≠ bi := Nat.ne_of_lt lt_q_bi
 have lt_q_i0 : q < i0 := Nat.lt_trans lt_q_bi c_bi_i0
 have ne_q_i0 : q ≠ i0 := Nat.ne_of_lt lt_q_i0
 have lt_q_bd : q < bd := Nat.lt_trans lt_q_i0 c_i0_bd
 have ne_q_bd : q ≠ bd := Nat.ne_of_lt lt_q_bd
 have lt_q_d0 : q < d0 := Nat.lt_trans lt_q_bd c_bd_d0
 have ne_q_d0 : q ≠ d0 := Nat.ne_of_lt lt_q_d0
 have lt_q_d1 : q < d1 := Nat.lt_trans lt_q_d0 c_d0_d1
 have ne_q_d1 : q ≠ d1 := Nat.ne_of_lt lt_q_d1
 have lt_b_bi : b < bi := c_b_bi
 have ne_b_bi : b ≠ bi := Nat.ne_of_lt lt_b_bi
 have lt_b_i0 : b < i0 := Nat.lt_trans lt_b_bi c_bi_i0
 have ne_b_i0 : b ≠ i0 := Nat.ne_of_lt lt_b_i0
 have lt_b_bd : b < bd := Nat.lt_trans lt_b_i0 c_i0_bd
 have ne_b_bd : b ≠ bd := Nat.ne_of_lt lt_b_bd
 have lt_b_d0 : b < d0 := Nat.lt_trans lt_b_bd c_bd_d0
 have ne_b_d0 : b ≠ d0 := Nat.ne_of_lt lt_b_d0
 have lt_b_d1 : b < d1 := Nat.lt_trans lt_b_d0 c_d0_d1
 have ne_b_d1 : b ≠ d1 := Nat.ne_of_lt lt_b_d1
 have lt_bi_i0 : bi < i0 := c_bi_i0
 have ne_bi_i0 : bi ≠ i0 := Nat.ne_of_lt lt_bi_i0
 have lt_bi_bd : bi < bd := Nat.lt_trans lt_bi_i0 c_i0_bd
 have ne_bi_bd : bi ≠ bd := Nat.ne_of_lt lt_bi_bd
 have lt_bi_d0 : bi < d0 := Nat.lt_trans lt_bi_bd c_bd_d0
 have ne_bi_d0 : bi ≠ d0 := Nat.ne_of_lt lt_bi_d0
 have lt_bi_d1 : bi < d1 := Nat.lt_trans lt_bi_d0 c_d0_d1
 have ne_bi_d1 : bi ≠ d1 := Nat.ne_of_lt lt_bi_d1
 have lt_i0_bd : i0 < bd := c_i0_bd
 have ne_i0_bd : i0 ≠ bd := Nat.ne_of_lt lt_i0_bd
 have lt_i0_d0 : i0 < d0 := Nat.lt_trans lt_i0_bd c_bd_d0
 have ne_i0_d0 : i0 ≠ d0 := Nat.ne_of_lt lt_i0_d0
 have lt_i0_d1 : i0 < d1 := Nat.lt_trans lt_i0_d0 c_d0_d1
 have ne_i0_d1 : i0 ≠ d1 := Nat.ne_of_lt lt_i0_d1
 have lt_bd_d0 : bd < d0 := c_bd_d0
 have ne_bd_d0 : bd ≠ d0 := Nat.ne_of_lt lt_bd_d0
 have lt_bd_d1 : bd < d1 := Nat.lt_trans lt_bd_d0 c_d0_d1
 have ne_bd_d1 : bd ≠ d1 := Nat.ne_of_lt lt_bd_d1
 have lt_d0_d1 : d0 < d1 := c_d0_d1
 have ne_d0_d1 : d0 ≠ d1 := Nat.ne_of_lt lt_d0_d1
 have K0 := Keep.refl h0 [A, ec, el, q, b, bi, i0, bd, d0, d1]
 have hx1 : p1.toNatClampNeg < 128 := own_pn hq10 (fun q => hq11 (own_tr (by decide) q))
 have hx2 : p2.toNatClampNeg < 128 := own_pn hq20 (fun q => hq21 (own_tr (by decide) q))
 have hob : own_B 2000 (it - 10) := own_Bm (own_subB hib own_b10 (by decide)) (by decide)
 obtain ⟨T2149, X2149, e2149, st2149⟩ := getF X0 hx hZ hown (host := "") (Or.inl (wd hw 62 rfl)) Via.refl e0 F_A_asksBefore (g := (mkF m 2 #[.val (.ref A), .val (.double (FP.l2d it)), .second, .unset, .unset, .unset, .unset, .unset] [(.ref A), (.double (FP.l2d it))])) rfl rfl (hb hby dFG_2)
 obtain ⟨T2150, X2150, e2150, st2150⟩ := getF X2149 hx hZ hown (host := "") (Or.inl (wd hw 60 rfl)) Via.refl e2149 F_A_window (g := (mkF m 29 #[.val (.ref A), .val (.double (FP.l2d it)), .second, .unset, .unset, .unset, .unset, .unset] [(.ref A), (.double (FP.l2d it))])) rfl rfl (hb hby dFG_29)
 obtain ⟨T2151, X2151, e2151, st2151⟩ := getF X2150 hx hZ hown (host := "") (Or.inl (wd hw 56 rfl)) Via.refl e2150 F_A_arrivalEvents (g := (mkF m 35 #[.val (.ref A), .val (.double (FP.l2d it)), .second, .val (.double (FP.l2d (it - 10))), .second, .unset, .unset, .unset] [(.ref A)])) rfl rfl (hb hby dFG_35)
 obtain ⟨cq2152, kq2152, q2152a, q2152b, q2152c⟩ := isOf hZ e2151 E_qa
 obtain ⟨_, _, ⟨T2152, L2152, k2152, n2152⟩, -, X2152, ⟨Lc2152, hQ2152, l2152, y2152, z2152⟩, st2152⟩ := X2151.virtualBack hx (y := (⟨sRQ, "isEmpty", "()Z"⟩ : MethodName)) (z := (⟨sRQ, "isEmpty", "()Z"⟩ : MethodName)) hown (mvT hZ (wd hw 163 rfl)) (mvT hZ (wd hw 164 rfl)) (notFace_of_selects (args := #[]) (mvT hZ (wd hw 166 rfl))) (mvT hZ (wd hw 166 rfl)) (mvT hZ (wd hw 165 rfl)) (by decide) (backOf (W := 0) (rmIE0 l Z a0 hw [] qa h0 n0 (Nat.le_trans Z0 K0.1) F_qa_size) hZ (wd hw 167 rfl) (wd hw 28 rfl) (by decide) (by decide)) q2152a q2152c (g := (mkF m 38 #[.val (.ref A), .val (.double (FP.l2d it)), .second, .val (.double (FP.l2d (it - 10))), .second, .unset, .unset, .unset] [(.ref qa)])) rfl (by rw [hml]; rfl) (Steps.refl _) (argsL := []) (rest := []) (lenOf pd_10 rfl) rfl (by show 2 * 0 + _ ≤ _; exact Nat.le_of_eq rfl) (hb hby dFG_38) (fun _ _ => ⟨rfl, e2151, (by decide : 0 + 0 ≤ _), (by decide : 0 + 0 ≤ _)⟩)
 dsimp only [Pt.U, Pt.locs, Pt.cells, Pt.slots] at X2152 l2152 y2152 z2152 st2152 hQ2152
 rw [l2152, y2152, z2152] at X2152
 obtain ⟨hv2152, Nq2152, eq2152⟩ := hQ2152
 rw [hv2152] at st2152
 have N2152 := Fr.app N0 Nq2152
 obtain ⟨T2153, X2153, e2153, st2153⟩ := getF X2152 hx hZ hown (host := "") (Or.inl (wd hw 58 rfl)) Via.refl eq2152 F_A_completionEvents (g := (mkF m 85 #[.val (.ref A), .val (.double (FP.l2d it)), .second, .val (.double (FP.l2d (it - 10))), .second, .unset, .unset, .unset] [(.ref A)])) rfl rfl (hb hby dFG_85)
 obtain ⟨cq2154, kq2154, q2154a, q2154b, q2154c⟩ := isOf hZ e2153 E_q
 obtain ⟨_, _, ⟨T2154, L2154, k2154, n2154⟩, -, X2154, ⟨Lc2154, hQ2154, l2154, y2154, z2154⟩, st2154⟩ := X2153.virtualBack hx (y := (⟨sRQ, "isEmpty", "()Z"⟩ : MethodName)) (z := (⟨sRQ, "isEmpty", "()Z"⟩ : MethodName)) hown (mvT hZ (wd hw 163 rfl)) (mvT hZ (wd hw 164 rfl)) (notFace_of_selects (args := #[]) (mvT hZ (wd hw 166 rfl))) (mvT hZ (wd hw 166 rfl)) (mvT hZ (wd hw 165 rfl)) (by decide) (backOf (W := 0) (rmIE2 l Z a0 hw [] q h0 n0 (Nat.le_trans Z0 K0.1) F_q_size) hZ (wd hw 167 rfl) (wd hw 28 rfl) (by decide) (by decide)) q2154a q2154c (g := (mkF m 88 #[.val (.ref A), .val (.double (FP.l2d it)), .second, .val (.double (FP.l2d (it - 10))), .second, .unset, .unset, .unset] [(.ref q)])) rfl (by rw [hml]; rfl) (Steps.refl _) (argsL := []) (rest := []) (lenOf pd_10 rfl) rfl (by show 2 * 0 + _ ≤ _; exact Nat.le_of_eq rfl) (hb hby dFG_88) (fun _ _ => ⟨rfl, e2153, (by decide : 0 + 0 ≤ _), (by decide : 0 + 0 ≤ _)⟩)
 dsimp only [Pt.U, Pt.locs, Pt.cells, Pt.slots] at X2154 l2154 y2154 z2154 st2154 hQ2154
 rw [l2154, y2154, z2154] at X2154
 obtain ⟨hv2154, Nq2154, eq2154⟩ := hQ2154
 rw [hv2154] at st2154
 have N2154 := Fr.app N2152 Nq2154
 obtain ⟨T2155, X2155, e2155, st2155⟩ := getF X2154 hx hZ hown (host := "") (Or.inl (wd hw 58 rfl)) Via.refl eq2154 F_A_completionEvents (g := (mkF m 95 #[.val (.ref A), .val (.double (FP.l2d it)), .second, .val (.double (FP.l2d (it - 10))), .second, .unset, .unset, .unset] [(.ref A)])) rfl rfl (hb hby dFG_95)
 obtain ⟨cq2156, kq2156, q2156a, q2156b, q2156c⟩ := isOf hZ e2155 E_q
 obtain ⟨_, _, ⟨T2156, L2156, k2156, n2156⟩, -, X2156, ⟨Lc2156, hQ2156, l2156, y2156, z2156⟩, st2156⟩ := X2155.virtualBack hx (y := (⟨sRQ, "firstDouble", "(I)D"⟩ : MethodName)) (z := (⟨sRQ, "firstDouble", "(I)D"⟩ : MethodName)) hown (mvT hZ (wd hw 168 rfl)) (mvT hZ (wd hw 169 rfl)) (notFace_of_selects (args := #[]) (mvT hZ (wd hw 171 rfl))) (mvT hZ (wd hw 171 rfl)) (mvT hZ (wd hw 170 rfl)) (by decide) (backOf (W := 0) (rmFD00 l Z a0 hw [] q b bd d0 d1 kbd kd t1 t2 h0 n0 (Nat.le_trans Z0 K0.1) F_q_first F_q_head F_b_doubles V_bd V_d0) hZ (wd hw 172 rfl) (wd hw 28 rfl) (by decide) (by decide)) q2156a q2156c (g := (mkF m 99 #[.val (.ref A), .val (.double (FP.l2d it)), .second, .val (.double (FP.l2d (it - 10))), .second, .unset, .unset, .unset] [(.int (0 : Int32)), (.ref q)])) rfl (by rw [hml]; rfl) (Steps.refl _) (argsL := [(.int (0 : Int32))]) (rest := []) (lenOf pd_11 rfl) rfl (by show 2 * 0 + _ ≤ _; exact Nat.le_of_eq rfl) (hb hby dFG_99) (fun _ _ => ⟨rfl, e2155, (by decide : 0 + 0 ≤ _), (by decide : 0 + 0 ≤ _)⟩)
 dsimp only [Pt.U, Pt.locs, Pt.cells, Pt.slots] at X2156 l2156 y2156 z2156 st2156 hQ2156
 rw [l2156, y2156, z2156] at X2156
 obtain ⟨hv2156, Nq2156, eq2156⟩ := hQ2156
 rw [hv2156] at st2156
 have N2156 := Fr.app N2154 Nq2156
 obtain ⟨T2157, X2157, e2157, st2157⟩ := getF X2156 hx hZ hown (host := "") (Or.inl (wd hw 58 rfl)) Via.refl eq2156 F_A_completionEvents (g := (mkF m 108 #[.val (.ref A), .val (.double (FP.l2d it)), .second, .val (.double (FP.l2d (it - 10))), .second, .unset, .unset, .unset] [(.ref A)])) rfl rfl (hb hby dFG_108)
 obtain ⟨cq2158, kq2158, q2158a, q2158b, q2158c⟩ := isOf hZ e2157 E_q
 obtain ⟨_, _, ⟨T2158, L2158, k2158, n2158⟩, -, X2158, ⟨Lc2158, hQ2158, l2158, y2158, z2158⟩, st2158⟩ := X2157.virtualBack hx (y := (⟨sRQ, "firstInt", "(I)I"⟩ : MethodName)) (z := (⟨sRQ, "firstInt", "(I)I"⟩ : MethodName)) hown (mvT hZ (wd hw 175 rfl)) (mvT hZ (wd hw 176 rfl)) (notFace_of_selects (args := #[]) (mvT hZ (wd hw 178 rfl))) (mvT hZ (wd hw 178 rfl)) (mvT hZ (wd hw 177 rfl)) (by decide) (backOf (W := 0) (rmFI0 l Z a0 hw [] q b bi i0 kbi ki p1 p2 h0 n0 (Nat.le_trans Z0 K0.1) F_q_first F_q_head F_b_ints V_bi V_i0) hZ (wd hw 179 rfl) (wd hw 28 rfl) (by decide) (by decide)) q2158a q2158c (g := (mkF m 112 #[.val (.ref A), .val (.double (FP.l2d it)), .second, .val (.double (FP.l2d (it - 10))), .second, .unset, .unset, .unset] [(.int (0 : Int32)), (.ref q)])) rfl (by rw [hml]; rfl) (Steps.refl _) (argsL := [(.int (0 : Int32))]) (rest := []) (lenOf pd_12 rfl) rfl (by show 2 * 0 + _ ≤ _; exact Nat.le_of_eq rfl) (hb hby dFG_112) (fun _ _ => ⟨rfl, e2157, (by decide : 0 + 0 ≤ _), (by decide : 0 + 0 ≤ _)⟩)
 dsimp only [Pt.U, Pt.locs, Pt.cells, Pt.slots] at X2158 l2158 y2158 z2158 st2158 hQ2158
 rw [l2158, y2158, z2158] at X2158
 obtain ⟨hv2158, Nq2158, eq2158⟩ := hQ2158
 rw [hv2158] at st2158
 have N2158 := Fr.app N2156 Nq2158
 obtain ⟨T2159, X2159, e2159, st2159⟩ := getF X2158 hx hZ hown (host := "") (Or.inl (wd hw 58 rfl)) Via.refl eq2158 F_A_completionEvents (g := (mkF m 118 #[.val (.ref A), .val (.double (FP.l2d it)), .second, .val (.double (FP.l2d (it - 10))), .second, .val (.int p1), .unset, .unset] [(.ref A)])) rfl rfl (hb hby dFG_118)
 obtain ⟨cq2160, kq2160, q2160a, q2160b, q2160c⟩ := isOf hZ e2159 E_q
 obtain ⟨_, _, ⟨T2160, L2160, k2160, n2160⟩, -, X2160, ⟨Lc2160, hQ2160, l2160, y2160, z2160⟩, st2160⟩ := X2159.virtualBack hx (y := (⟨sRQ, "firstDouble", "(I)D"⟩ : MethodName)) (z := (⟨sRQ, "firstDouble", "(I)D"⟩ : MethodName)) hown (mvT hZ (wd hw 168 rfl)) (mvT hZ (wd hw 169 rfl)) (notFace_of_selects (args := #[]) (mvT hZ (wd hw 171 rfl))) (mvT hZ (wd hw 171 rfl)) (mvT hZ (wd hw 170 rfl)) (by decide) (backOf (W := 0) (rmFD10 l Z a0 hw [] q b bd d0 d1 kbd kd l1 l2 h0 n0 (Nat.le_trans Z0 K0.1) F_q_first F_q_head F_b_doubles V_bd V_d1) hZ (wd hw 172 rfl) (wd hw 28 rfl) (by decide) (by decide)) q2160a q2160c (g := (mkF m 122 #[.val (.ref A), .val (.double (FP.l2d it)), .second, .val (.double (FP.l2d (it - 10))), .second, .val (.int p1), .unset, .unset] [(.int (1 : Int32)), (.ref q)])) rfl (by rw [hml]; rfl) (Steps.refl _) (argsL := [(.int (1 : Int32))]) (rest := []) (lenOf pd_11 rfl) rfl (by show 2 * 0 + _ ≤ _; exact Nat.le_of_eq rfl) (hb hby dFG_122) (fun _ _ => ⟨rfl, e2159, (by decide : 0 + 0 ≤ _), (by decide : 0 + 0 ≤ _)⟩)
 dsimp only [Pt.U, Pt.locs, Pt.cells, Pt.slots] at X2160 l2160 y2160 z2160 st2160 hQ2160
 rw [l2160, y2160, z2160] at X2160
 obtain ⟨hv2160, Nq2160, eq2160⟩ := hQ2160
 rw [hv2160] at st2160
 have N2160 := Fr.app N2158 Nq2160
 obtain ⟨T2161, X2161, e2161, st2161⟩ := getF X2160 hx hZ hown (host := "") (Or.inl (wd hw 21 rfl)) Via.refl eq2160 F_A_executorCompleted (g := (mkF m 128 #[.val (.ref A), .val (.double (FP.l2d it)), .second, .val (.double (FP.l2d (it - 10))), .second, .val (.int p1), .val (.double (FP.l2d l1)), .second] [(.ref A)])) rfl rfl (hb hby dFG_128)
 obtain ⟨cl2162, Ar2162, q2162, S2162, N2162, H2162, G2162⟩ := id V_ec
 have hin2162 : ¬ (p1 < 0 ∨ cl2162.slots.size ≤ (p1).toNatClampNeg) := (inb_of S2162 ⟨hq10, hq1n⟩)
 have hat2162 : cl2162.slots[(p1).toNatClampNeg]? = some (.long (f p1.toNatClampNeg)) := (H2162.at (inb_of S2162 ⟨hq10, hq1n⟩) (own_Lget _ hx1 _))
 obtain ⟨cl2163, Ar2163, q2163, S2163, N2163, H2163, G2163⟩ := id V_ec
 have hin2163 : ¬ (p1 < 0 ∨ cl2163.slots.size ≤ (p1).toNatClampNeg) := (inb_of S2163 ⟨hq10, hq1n⟩)
 obtain ⟨T2164, h2164, X2164, e2164, W2164, st2164⟩ := stJ X2161 hx hZ e2161 Ar2163 (j := p1) hin2163 (g := (mkF m 137 #[.val (.ref A), .val (.double (FP.l2d it)), .second, .val (.double (FP.l2d (it - 10))), .second, .val (.int p1), .val (.double (FP.l2d l1)), .second] [(.long ((f p1.toNatClampNeg) - (1 : Int64))), (.int p1), (.ref ec)])) rfl rfl (hb hby dFG_137)
 have V2164 := Arv.set Ar2163 q2163 S2163 N2163 H2163 G2163 rfl W2164 p1.toNatClampNeg rfl (by rw [own_Llen]; exact hx1)
 rw [own_Lset] at V2164
 have K2164 : Keep h0 h2164 [A, ec, el, q, b, bi, i0, bd, d0, d1] := K0.wr W2164 (Or.inl (List.mem_of_getElem? (i := 1) rfl))
 have N2164F := Fr.snoc X2164 N2160 g_ec
 have f2165 := F_A_executorLatencySum.other W2164 (Or.inl (Ne.symm ne_ec_A))
 obtain ⟨T2166, X2166, e2166, st2166⟩ := getF X2164 hx hZ hown (host := "") (Or.inl (wd hw 24 rfl)) Via.refl e2164 f2165 (g := (mkF m 139 #[.val (.ref A), .val (.double (FP.l2d it)), .second, .val (.double (FP.l2d (it - 10))), .second, .val (.int p1), .val (.double (FP.l2d l1)), .second] [(.ref A)])) rfl rfl (hb hby dFG_139)
 have f2168 := V_el.other W2164 (Ne.symm ne_ec_el)
 obtain ⟨cl2167, Ar2167, q2167, S2167, N2167, H2167, G2167⟩ := id f2168
 have hin2167 : ¬ (p1 < 0 ∨ cl2167.slots.size ≤ (p1).toNatClampNeg) := (inb_of S2167 ⟨hq10, hq1n⟩)
 have hat2167 : cl2167.slots[(p1).toNatClampNeg]? = some (.double (FP.l2d (g p1.toNatClampNeg))) := (H2167.at (inb_of S2167 ⟨hq10, hq1n⟩) (own_Dget _ hx1 _))
 obtain ⟨cl2169, Ar2169, q2169, S2169, N2169, H2169, G2169⟩ := id f2168
 have hin2169 : ¬ (p1 < 0 ∨ cl2169.slots.size ≤ (p1).toNatClampNeg) := (inb_of S2169 ⟨hq10, hq1n⟩)
 obtain ⟨T2170, h2170, X2170, e2170, W2170, st2170⟩ := stD X2166 hx hZ e2166 Ar2169 (j := p1) hin2169 (g := (mkF m 149 #[.val (.ref A), .val (.double (FP.l2d it)), .second, .val (.double (FP.l2d (it - 10))), .second, .val (.int p1), .val (.double (FP.l2d l1)), .second] [(.double (FP.l2d ((g p1.toNatClampNeg) - l1))), (.int p1), (.ref el)])) rfl rfl (hb hby dFG_149)
 have V2170 := Arv.set Ar2169 q2169 S2169 N2169 H2169 G2169 rfl W2170 p1.toNatClampNeg rfl (by rw [own_Dlen]; exact hx1)
 rw [own_Dset] at V2170
 have K2170 : Keep h0 h2170 [A, ec, el, q, b, bi, i0, bd, d0, d1] := K2164.wr W2170 (Or.inl (List.mem_of_getElem? (i := 2) rfl))
 have N2170F := Fr.snoc X2170 N2164F g_el
 have f2172 := (F_A_completionEvents.other W2164 (Or.inl (Ne.symm ne_ec_A))).other W2170 (Or.inl (Ne.symm ne_el_A))
 obtain ⟨T2173, X2173, e2173, st2173⟩ := getF X2170 hx hZ hown (host := "") (Or.inl (wd hw 58 rfl)) Via.refl e2170 f2172 (g := (mkF m 151 #[.val (.ref A), .val (.double (FP.l2d it)), .second, .val (.double (FP.l2d (it - 10))), .second, .val (.int p1), .val (.double (FP.l2d l1)), .second] [(.ref A)])) rfl rfl (hb hby dFG_151)
 have f2176 := (E_q.wr W2164).wr W2170
 have f2178 := (F_q_first.other W2164 (Or.inl (Ne.symm ne_ec_q))).other W2170 (Or.inl (Ne.symm ne_el_q))
 have f2180 := (F_q_head.other W2164 (Or.inl (Ne.symm ne_ec_q))).other W2170 (Or.inl (Ne.symm ne_el_q))
 have f2182 := (F_q_end.other W2164 (Or.inl (Ne.symm ne_ec_q))).other W2170 (Or.inl (Ne.symm ne_el_q))
 have f2184 := (F_q_size.other W2164 (Or.inl (Ne.symm ne_ec_q))).other W2170 (Or.inl (Ne.symm ne_el_q))
 have f2186 := (F_b_capacity.other W2164 (Or.inl (Ne.symm ne_ec_b))).other W2170 (Or.inl (Ne.symm ne_el_b))
 obtain ⟨cq2174, kq2174, q2174a, q2174b, q2174c⟩ := isOf hZ e2173 f2176
 obtain ⟨_, _, ⟨T2174, L2174, k2174, n2174⟩, -, X2174, ⟨Lc2174, hQ2174, l2174, y2174, z2174⟩, st2174⟩ := X2173.virtualBack hx (y := (⟨sRQ, "removeFirst", "()V"⟩ : MethodName)) (z := (⟨sRQ, "removeFirst", "()V"⟩ : MethodName)) hown (mvT hZ (wd hw 180 rfl)) (mvT hZ (wd hw 181 rfl)) (notFace_of_selects (args := #[]) (mvT hZ (wd hw 183 rfl))) (mvT hZ (wd hw 183 rfl)) (mvT hZ (wd hw 182 rfl)) (by decide) (backOf (W := 0) (rmRF20 l Z a0 hw [] q b (2 : Int32) h2170 n0 (Nat.le_trans Z0 K2170.1) f2176 f2178 f2180 f2182 f2184 f2186 ne_q_b g_q) hZ (wd hw 184 rfl) (wd hw 28 rfl) (by decide) (by decide)) q2174a q2174c (g := (mkF m 154 #[.val (.ref A), .val (.double (FP.l2d it)), .second, .val (.double (FP.l2d (it - 10))), .second, .val (.int p1), .val (.double (FP.l2d l1)), .second] [(.ref q)])) rfl (by rw [hml]; rfl) (Steps.refl _) (argsL := []) (rest := []) (lenOf pd_1 rfl) rfl (by show 2 * 0 + _ ≤ _; exact Nat.le_of_eq rfl) (hb hby dFG_154) (fun _ _ => ⟨rfl, e2173, (by decide : 0 + 0 ≤ _), (by decide : 0 + 0 ≤ _)⟩)
 dsimp only [Pt.U, Pt.locs, Pt.cells, Pt.slots] at X2174 l2174 y2174 z2174 st2174 hQ2174
 rw [l2174, y2174, z2174] at X2174
 obtain ⟨hv2174, Nq2174, Kc2174, Eq2174, Fqfirst2174, Fqhead2174, Fqend2174, Fqsize2174⟩ := hQ2174
 rw [hv2174] at st2174
 have K2174 : Keep h0 T2174.heap [A, ec, el, q, b, bi, i0, bd, d0, d1] := K2170.trans Kc2174 (allS (P := fun x => x ∈ [A, ec, el, q, b, bi, i0, bd, d0, d1] ∨ h0.size ≤ x) (Or.inl (List.mem_of_getElem? (i := 3) rfl)) all0)
 have hgb2 : ∀ i, own_B 6442450944 (own_upd g p1.toNatClampNeg ((g p1.toNatClampNeg) - l1) i) := own_updB (fun j => own_Bm (hgb j) (by decide)) (own_Bm (own_subB (hgb _) hlb1 (by decide)) (by decide))
 have N2174 := Fr.app N2170F Nq2174
 have f2187 := f2172.keep Kc2174 (ninS ne_A_q nin0)
 obtain ⟨T2188, X2188, e2188, st2188⟩ := getF X2174 hx hZ hown (host := "") (Or.inl (wd hw 58 rfl)) Via.refl rfl f2187 (g := (mkF m 85 #[.val (.ref A), .val (.double (FP.l2d it)), .second, .val (.double (FP.l2d (it - 10))), .second, .val (.int p1), .val (.double (FP.l2d l1)), .second] [(.ref A)])) rfl rfl (hb hby dFG_85)
 obtain ⟨cq2189, kq2189, q2189a, q2189b, q2189c⟩ := isOf hZ e2188 Eq2174
 obtain ⟨_, _, ⟨T2189, L2189, k2189, n2189⟩, -, X2189, ⟨Lc2189, hQ2189, l2189, y2189, z2189⟩, st2189⟩ := X2188.virtualBack hx (y := (⟨sRQ, "isEmpty", "()Z"⟩ : MethodName)) (z := (⟨sRQ, "isEmpty", "()Z"⟩ : MethodName)) hown (mvT hZ (wd hw 163 rfl)) (mvT hZ (wd hw 164 rfl)) (notFace_of_selects (args := #[]) (mvT hZ (wd hw 166 rfl))) (mvT hZ (wd hw 166 rfl)) (mvT hZ (wd hw 165 rfl)) (by decide) (backOf (W := 0) (rmIE1 l Z a0 hw [] q T2174.heap n0 (Nat.le_trans Z0 K2174.1) Fqsize2174) hZ (wd hw 167 rfl) (wd hw 28 rfl) (by decide) (by decide)) q2189a q2189c (g := (mkF m 88 #[.val (.ref A), .val (.double (FP.l2d it)), .second, .val (.double (FP.l2d (it - 10))), .second, .val (.int p1), .val (.double (FP.l2d l1)), .second] [(.ref q)])) rfl (by rw [hml]; rfl) (Steps.refl _) (argsL := []) (rest := []) (lenOf pd_10 rfl) rfl (by show 2 * 0 + _ ≤ _; exact Nat.le_of_eq rfl) (hb hby dFG_88) (fun _ _ => ⟨rfl, e2188, (by decide : 0 + 0 ≤ _), (by decide : 0 + 0 ≤ _)⟩)
 dsimp only [Pt.U, Pt.locs, Pt.cells, Pt.slots] at X2189 l2189 y2189 z2189 st2189 hQ2189
 rw [l2189, y2189, z2189] at X2189
 obtain ⟨hv2189, Nq2189, eq2189⟩ := hQ2189
 rw [hv2189] at st2189
 have N2189 := Fr.app N2174 Nq2189
 obtain ⟨T2190, X2190, e2190, st2190⟩ := getF X2189 hx hZ hown (host := "") (Or.inl (wd hw 58 rfl)) Via.refl eq2189 f2187 (g := (mkF m 95 #[.val (.ref A), .val (.double (FP.l2d it)), .second, .val (.double (FP.l2d (it - 10))), .second, .val (.int p1), .val (.double (FP.l2d l1)), .second] [(.ref A)])) rfl rfl (hb hby dFG_95)
 have f2194 := ((F_b_doubles.other W2164 (Or.inl (Ne.symm ne_ec_b))).other W2170 (Or.inl (Ne.symm ne_el_b))).keep Kc2174 (ninS (Ne.symm ne_q_b) nin0)
 have f2197 := ((V_bd.other W2164 (Ne.symm ne_ec_bd)).other W2170 (Ne.symm ne_el_bd)).keep Kc2174 (ninS (Ne.symm ne_q_bd) nin0)
 have f2200 := ((V_d0.other W2164 (Ne.symm ne_ec_d0)).other W2170 (Ne.symm ne_el_d0)).keep Kc2174 (ninS (Ne.symm ne_q_d0) nin0)
 obtain ⟨cq2191, kq2191, q2191a, q2191b, q2191c⟩ := isOf hZ e2190 Eq2174
 obtain ⟨_, _, ⟨T2191, L2191, k2191, n2191⟩, -, X2191, ⟨Lc2191, hQ2191, l2191, y2191, z2191⟩, st2191⟩ := X2190.virtualBack hx (y := (⟨sRQ, "firstDouble", "(I)D"⟩ : MethodName)) (z := (⟨sRQ, "firstDouble", "(I)D"⟩ : MethodName)) hown (mvT hZ (wd hw 168 rfl)) (mvT hZ (wd hw 169 rfl)) (notFace_of_selects (args := #[]) (mvT hZ (wd hw 171 rfl))) (mvT hZ (wd hw 171 rfl)) (mvT hZ (wd hw 170 rfl)) (by decide) (backOf (W := 0) (rmFD01 l Z a0 hw [] q b bd d0 d1 kbd kd t1 t2 T2174.heap n0 (Nat.le_trans Z0 K2174.1) Fqfirst2174 Fqhead2174 f2194 f2197 f2200) hZ (wd hw 172 rfl) (wd hw 28 rfl) (by decide) (by decide)) q2191a q2191c (g := (mkF m 99 #[.val (.ref A), .val (.double (FP.l2d it)), .second, .val (.double (FP.l2d (it - 10))), .second, .val (.int p1), .val (.double (FP.l2d l1)), .second] [(.int (0 : Int32)), (.ref q)])) rfl (by rw [hml]; rfl) (Steps.refl _) (argsL := [(.int (0 : Int32))]) (rest := []) (lenOf pd_11 rfl) rfl (by show 2 * 0 + _ ≤ _; exact Nat.le_of_eq rfl) (hb hby dFG_99) (fun _ _ => ⟨rfl, e2190, (by decide : 0 + 0 ≤ _), (by decide : 0 + 0 ≤ _)⟩)
 dsimp only [Pt.U, Pt.locs, Pt.cells, Pt.slots] at X2191 l2191 y2191 z2191 st2191 hQ2191
 rw [l2191, y2191, z2191] at X2191
 obtain ⟨hv2191, Nq2191, eq2191⟩ := hQ2191
 rw [hv2191] at st2191
 have N2191 := Fr.app N2189 Nq2191
 obtain ⟨T2201, X2201, e2201, st2201⟩ := getF X2191 hx hZ hown (host := "") (Or.inl (wd hw 58 rfl)) Via.refl eq2191 f2187 (g := (mkF m 108 #[.val (.ref A), .val (.double (FP.l2d it)), .second, .val (.double (FP.l2d (it - 10))), .second, .val (.int p1), .val (.double (FP.l2d l1)), .second] [(.ref A)])) rfl rfl (hb hby dFG_108)
 have f2205 := ((F_b_ints.other W2164 (Or.inl (Ne.symm ne_ec_b))).other W2170 (Or.inl (Ne.symm ne_el_b))).keep Kc2174 (ninS (Ne.symm ne_q_b) nin0)
 have f2208 := ((V_bi.other W2164 (Ne.symm ne_ec_bi)).other W2170 (Ne.symm ne_el_bi)).keep Kc2174 (ninS (Ne.symm ne_q_bi) nin0)
 have f2211 := ((V_i0.other W2164 (Ne.symm ne_ec_i0)).other W2170 (Ne.symm ne_el_i0)).keep Kc2174 (ninS (Ne.symm ne_q_i0) nin0)
 obtain ⟨cq2202, kq2202, q2202a, q2202b, q2202c⟩ := isOf hZ e2201 Eq2174
 obtain ⟨_, _, ⟨T2202, L2202, k2202, n2202⟩, -, X2202, ⟨Lc2202, hQ2202, l2202, y2202, z2202⟩, st2202⟩ := X2201.virtualBack hx (y := (⟨sRQ, "firstInt", "(I)I"⟩ : MethodName)) (z := (⟨sRQ, "firstInt", "(I)I"⟩ : MethodName)) hown (mvT hZ (wd hw 175 rfl)) (mvT hZ (wd hw 176 rfl)) (notFace_of_selects (args := #[]) (mvT hZ (wd hw 178 rfl))) (mvT hZ (wd hw 178 rfl)) (mvT hZ (wd hw 177 rfl)) (by decide) (backOf (W := 0) (rmFI1 l Z a0 hw [] q b bi i0 kbi ki p1 p2 T2174.heap n0 (Nat.le_trans Z0 K2174.1) Fqfirst2174 Fqhead2174 f2205 f2208 f2211) hZ (wd hw 179 rfl) (wd hw 28 rfl) (by decide) (by decide)) q2202a q2202c (g := (mkF m 112 #[.val (.ref A), .val (.double (FP.l2d it)), .second, .val (.double (FP.l2d (it - 10))), .second, .val (.int p1), .val (.double (FP.l2d l1)), .second] [(.int (0 : Int32)), (.ref q)])) rfl (by rw [hml]; rfl) (Steps.refl _) (argsL := [(.int (0 : Int32))]) (rest := []) (lenOf pd_12 rfl) rfl (by show 2 * 0 + _ ≤ _; exact Nat.le_of_eq rfl) (hb hby dFG_112) (fun _ _ => ⟨rfl, e2201, (by decide : 0 + 0 ≤ _), (by decide : 0 + 0 ≤ _)⟩)
 dsimp only [Pt.U, Pt.locs, Pt.cells, Pt.slots] at X2202 l2202 y2202 z2202 st2202 hQ2202
 rw [l2202, y2202, z2202] at X2202
 obtain ⟨hv2202, Nq2202, eq2202⟩ := hQ2202
 rw [hv2202] at st2202
 have N2202 := Fr.app N2191 Nq2202
 obtain ⟨T2212, X2212, e2212, st2212⟩ := getF X2202 hx hZ hown (host := "") (Or.inl (wd hw 58 rfl)) Via.refl eq2202 f2187 (g := (mkF m 118 #[.val (.ref A), .val (.double (FP.l2d it)), .second, .val (.double (FP.l2d (it - 10))), .second, .val (.int p2), .val (.double (FP.l2d l1)), .second] [(.ref A)])) rfl rfl (hb hby dFG_118)
 have f2216 := ((V_d1.other W2164 (Ne.symm ne_ec_d1)).other W2170 (Ne.symm ne_el_d1)).keep Kc2174 (ninS (Ne.symm ne_q_d1) nin0)
 obtain ⟨cq2213, kq2213, q2213a, q2213b, q2213c⟩ := isOf hZ e2212 Eq2174
 obtain ⟨_, _, ⟨T2213, L2213, k2213, n2213⟩, -, X2213, ⟨Lc2213, hQ2213, l2213, y2213, z2213⟩, st2213⟩ := X2212.virtualBack hx (y := (⟨sRQ, "firstDouble", "(I)D"⟩ : MethodName)) (z := (⟨sRQ, "firstDouble", "(I)D"⟩ : MethodName)) hown (mvT hZ (wd hw 168 rfl)) (mvT hZ (wd hw 169 rfl)) (notFace_of_selects (args := #[]) (mvT hZ (wd hw 171 rfl))) (mvT hZ (wd hw 171 rfl)) (mvT hZ (wd hw 170 rfl)) (by decide) (backOf (W := 0) (rmFD11 l Z a0 hw [] q b bd d0 d1 kbd kd l1 l2 T2174.heap n0 (Nat.le_trans Z0 K2174.1) Fqfirst2174 Fqhead2174 f2194 f2197 f2216) hZ (wd hw 172 rfl) (wd hw 28 rfl) (by decide) (by decide)) q2213a q2213c (g := (mkF m 122 #[.val (.ref A), .val (.double (FP.l2d it)), .second, .val (.double (FP.l2d (it - 10))), .second, .val (.int p2), .val (.double (FP.l2d l1)), .second] [(.int (1 : Int32)), (.ref q)])) rfl (by rw [hml]; rfl) (Steps.refl _) (argsL := [(.int (1 : Int32))]) (rest := []) (lenOf pd_11 rfl) rfl (by show 2 * 0 + _ ≤ _; exact Nat.le_of_eq rfl) (hb hby dFG_122) (fun _ _ => ⟨rfl, e2212, (by decide : 0 + 0 ≤ _), (by decide : 0 + 0 ≤ _)⟩)
 dsimp only [Pt.U, Pt.locs, Pt.cells, Pt.slots] at X2213 l2213 y2213 z2213 st2213 hQ2213
 rw [l2213, y2213, z2213] at X2213
 obtain ⟨hv2213, Nq2213, eq2213⟩ := hQ2213
 rw [hv2213] at st2213
 have N2213 := Fr.app N2202 Nq2213
 have f2219 := ((F_A_executorCompleted.other W2164 (Or.inl (Ne.symm ne_ec_A))).other W2170 (Or.inl (Ne.symm ne_el_A))).keep Kc2174 (ninS ne_A_q nin0)
 obtain ⟨T2220, X2220, e2220, st2220⟩ := getF X2213 hx hZ hown (host := "") (Or.inl (wd hw 21 rfl)) Via.refl eq2213 f2219 (g := (mkF m 128 #[.val (.ref A), .val (.double (FP.l2d it)), .second, .val (.double (FP.l2d (it - 10))), .second, .val (.int p2), .val (.double (FP.l2d l2)), .second] [(.ref A)])) rfl rfl (hb hby dFG_128)
 have f2223 := (V2164.other W2170 ne_ec_el).keep Kc2174 (ninS ne_ec_q nin0)
 obtain ⟨cl2221, Ar2221, q2221, S2221, N2221, H2221, G2221⟩ := id f2223
 have hin2221 : ¬ (p2 < 0 ∨ cl2221.slots.size ≤ (p2).toNatClampNeg) := (inb_of S2221 ⟨hq20, hq2n⟩)
 have hat2221 : cl2221.slots[(p2).toNatClampNeg]? = some (.long ((own_upd f p1.toNatClampNeg ((f p1.toNatClampNeg) - (1 : Int64))) p2.toNatClampNeg)) := (H2221.at (inb_of S2221 ⟨hq20, hq2n⟩) (own_Lget _ hx2 _))
 obtain ⟨cl2224, Ar2224, q2224, S2224, N2224, H2224, G2224⟩ := id f2223
 have hin2224 : ¬ (p2 < 0 ∨ cl2224.slots.size ≤ (p2).toNatClampNeg) := (inb_of S2224 ⟨hq20, hq2n⟩)
 obtain ⟨T2225, h2225, X2225, e2225, W2225, st2225⟩ := stJ X2220 hx hZ e2220 Ar2224 (j := p2) hin2224 (g := (mkF m 137 #[.val (.ref A), .val (.double (FP.l2d it)), .second, .val (.double (FP.l2d (it - 10))), .second, .val (.int p2), .val (.double (FP.l2d l2)), .second] [(.long (((own_upd f p1.toNatClampNeg ((f p1.toNatClampNeg) - (1 : Int64))) p2.toNatClampNeg) - (1 : Int64))), (.int p2), (.ref ec)])) rfl rfl (hb hby dFG_137)
 have V2225 := Arv.set Ar2224 q2224 S2224 N2224 H2224 G2224 rfl W2225 p2.toNatClampNeg rfl (by rw [own_Llen]; exact hx2)
 rw [own_Lset] at V2225
 have K2225 : Keep h0 h2225 [A, ec, el, q, b, bi, i0, bd, d0, d1] := K2174.wr W2225 (Or.inl (List.mem_of_getElem? (i := 1) rfl))
 have N2225F := Fr.snoc X2225 N2213 g_ec
 have f2228 := ((f2165.other W2170 (Or.inl (Ne.symm ne_el_A))).keep Kc2174 (ninS ne_A_q nin0)).other W2225 (Or.inl (Ne.symm ne_ec_A))
 obtain ⟨T2229, X2229, e2229, st2229⟩ := getF X2225 hx hZ hown (host := "") (Or.inl (wd hw 24 rfl)) Via.refl e2225 f2228 (g := (mkF m 139 #[.val (.ref A), .val (.double (FP.l2d it)), .second, .val (.double (FP.l2d (it - 10))), .second, .val (.int p2), .val (.double (FP.l2d l2)), .second] [(.ref A)])) rfl rfl (hb hby dFG_139)
 have f2232 := (V2170.keep Kc2174 (ninS ne_el_q nin0)).other W2225 (Ne.symm ne_ec_el)
 obtain ⟨cl2230, Ar2230, q2230, S2230, N2230, H2230, G2230⟩ := id f2232
 have hin2230 : ¬ (p2 < 0 ∨ cl2230.slots.size ≤ (p2).toNatClampNeg) := (inb_of S2230 ⟨hq20, hq2n⟩)
 have hat2230 : cl2230.slots[(p2).toNatClampNeg]? = some (.double (FP.l2d ((own_upd g p1.toNatClampNeg ((g p1.toNatClampNeg) - l1)) p2.toNatClampNeg))) := (H2230.at (inb_of S2230 ⟨hq20, hq2n⟩) (own_Dget _ hx2 _))
 obtain ⟨cl2233, Ar2233, q2233, S2233, N2233, H2233, G2233⟩ := id f2232
 have hin2233 : ¬ (p2 < 0 ∨ cl2233.slots.size ≤ (p2).toNatClampNeg) := (inb_of S2233 ⟨hq20, hq2n⟩)
 obtain ⟨T2234, h2234, X2234, e2234, W2234, st2234⟩ := stD X2229 hx hZ e2229 Ar2233 (j := p2) hin2233 (g := (mkF m 149 #[.val (.ref A), .val (.double (FP.l2d it)), .second, .val (.double (FP.l2d (it - 10))), .second, .val (.int p2), .val (.double (FP.l2d l2)), .second] [(.double (FP.l2d (((own_upd g p1.toNatClampNeg ((g p1.toNatClampNeg) - l1)) p2.toNatClampNeg) - l2))), (.int p2), (.ref el)])) rfl rfl (hb hby dFG_149)
 have V2234 := Arv.set Ar2233 q2233 S2233 N2233 H2233 G2233 rfl W2234 p2.toNatClampNeg rfl (by rw [own_Dlen]; exact hx2)
 rw [own_Dset] at V2234
 have K2234 : Keep h0 h2234 [A, ec, el, q, b, bi, i0, bd, d0, d1] := K2225.wr W2234 (Or.inl (List.mem_of_getElem? (i := 2) rfl))
 have N2234F := Fr.snoc X2234 N2225F g_el
 have f2236 := (f2187.other W2225 (Or.inl (Ne.symm ne_ec_A))).other W2234 (Or.inl (Ne.symm ne_el_A))
 obtain ⟨T2237, X2237, e2237, st2237⟩ := getF X2234 hx hZ hown (host := "") (Or.inl (wd hw 58 rfl)) Via.refl e2234 f2236 (g := (mkF m 151 #[.val (.ref A), .val (.double (FP.l2d it)), .second, .val (.double (FP.l2d (it - 10))), .second, .val (.int p2), .val (.double (FP.l2d l2)), .second] [(.ref A)])) rfl rfl (hb hby dFG_151)
 have f2240 := (Eq2174.wr W2225).wr W2234
 have f2242 := (Fqfirst2174.other W2225 (Or.inl (Ne.symm ne_ec_q))).other W2234 (Or.inl (Ne.symm ne_el_q))
 have f2244 := (Fqhead2174.other W2225 (Or.inl (Ne.symm ne_ec_q))).other W2234 (Or.inl (Ne.symm ne_el_q))
 have f2246 := (Fqend2174.other W2225 (Or.inl (Ne.symm ne_ec_q))).other W2234 (Or.inl (Ne.symm ne_el_q))
 have f2248 := (Fqsize2174.other W2225 (Or.inl (Ne.symm ne_ec_q))).other W2234 (Or.inl (Ne.symm ne_el_q))
 have f2251 := ((f2186.keep Kc2174 (ninS (Ne.symm ne_q_b) nin0)).other W2225 (Or.inl (Ne.symm ne_ec_b))).other W2234 (Or.inl (Ne.symm ne_el_b))
 obtain ⟨cq2238, kq2238, q2238a, q2238b, q2238c⟩ := isOf hZ e2237 f2240
 obtain ⟨_, _, ⟨T2238, L2238, k2238, n2238⟩, -, X2238, ⟨Lc2238, hQ2238, l2238, y2238, z2238⟩, st2238⟩ := X2237.virtualBack hx (y := (⟨sRQ, "removeFirst", "()V"⟩ : MethodName)) (z := (⟨sRQ, "removeFirst", "()V"⟩ : MethodName)) hown (mvT hZ (wd hw 180 rfl)) (mvT hZ (wd hw 181 rfl)) (notFace_of_selects (args := #[]) (mvT hZ (wd hw 183 rfl))) (mvT hZ (wd hw 183 rfl)) (mvT hZ (wd hw 182 rfl)) (by decide) (backOf (W := 0) (rmRF11 l Z a0 hw [] q b (2 : Int32) h2234 n0 (Nat.le_trans Z0 K2234.1) f2240 f2242 f2244 f2246 f2248 f2251 ne_q_b g_q) hZ (wd hw 184 rfl) (wd hw 28 rfl) (by decide) (by decide)) q2238a q2238c (g := (mkF m 154 #[.val (.ref A), .val (.double (FP.l2d it)), .second, .val (.double (FP.l2d (it - 10))), .second, .val (.int p2), .val (.double (FP.l2d l2)), .second] [(.ref q)])) rfl (by rw [hml]; rfl) (Steps.refl _) (argsL := []) (rest := []) (lenOf pd_1 rfl) rfl (by show 2 * 0 + _ ≤ _; exact Nat.le_of_eq rfl) (hb hby dFG_154) (fun _ _ => ⟨rfl, e2237, (by decide : 0 + 0 ≤ _), (by decide : 0 + 0 ≤ _)⟩)
 dsimp only [Pt.U, Pt.locs, Pt.cells, Pt.slots] at X2238 l2238 y2238 z2238 st2238 hQ2238
 rw [l2238, y2238, z2238] at X2238
 obtain ⟨hv2238, Nq2238, Kc2238, Eq2238, Fqfirst2238, Fqhead2238, Fqend2238, Fqsize2238⟩ := hQ2238
 rw [hv2238] at st2238
 have K2238 : Keep h0 T2238.heap [A, ec, el, q, b, bi, i0, bd, d0, d1] := K2234.trans Kc2238 (allS (P := fun x => x ∈ [A, ec, el, q, b, bi, i0, bd, d0, d1] ∨ h0.size ≤ x) (Or.inl (List.mem_of_getElem? (i := 3) rfl)) all0)
 have N2238 := Fr.app N2234F Nq2238
 have f2252 := f2236.keep Kc2238 (ninS ne_A_q nin0)
 obtain ⟨T2253, X2253, e2253, st2253⟩ := getF X2238 hx hZ hown (host := "") (Or.inl (wd hw 58 rfl)) Via.refl rfl f2252 (g := (mkF m 85 #[.val (.ref A), .val (.double (FP.l2d it)), .second, .val (.double (FP.l2d (it - 10))), .second, .val (.int p2), .val (.double (FP.l2d l2)), .second] [(.ref A)])) rfl rfl (hb hby dFG_85)
 obtain ⟨cq2254, kq2254, q2254a, q2254b, q2254c⟩ := isOf hZ e2253 Eq2238
 obtain ⟨_, _, ⟨T2254, L2254, k2254, n2254⟩, -, X2254, ⟨Lc2254, hQ2254, l2254, y2254, z2254⟩, st2254⟩ := X2253.virtualBack hx (y := (⟨sRQ, "isEmpty", "()Z"⟩ : MethodName)) (z := (⟨sRQ, "isEmpty", "()Z"⟩ : MethodName)) hown (mvT hZ (wd hw 163 rfl)) (mvT hZ (wd hw 164 rfl)) (notFace_of_selects (args := #[]) (mvT hZ (wd hw 166 rfl))) (mvT hZ (wd hw 166 rfl)) (mvT hZ (wd hw 165 rfl)) (by decide) (backOf (W := 0) (rmIE0 l Z a0 hw [] q T2238.heap n0 (Nat.le_trans Z0 K2238.1) Fqsize2238) hZ (wd hw 167 rfl) (wd hw 28 rfl) (by decide) (by decide)) q2254a q2254c (g := (mkF m 88 #[.val (.ref A), .val (.double (FP.l2d it)), .second, .val (.double (FP.l2d (it - 10))), .second, .val (.int p2), .val (.double (FP.l2d l2)), .second] [(.ref q)])) rfl (by rw [hml]; rfl) (Steps.refl _) (argsL := []) (rest := []) (lenOf pd_10 rfl) rfl (by show 2 * 0 + _ ≤ _; exact Nat.le_of_eq rfl) (hb hby dFG_88) (fun _ _ => ⟨rfl, e2253, (by decide : 0 + 0 ≤ _), (by decide : 0 + 0 ≤ _)⟩)
 dsimp only [Pt.U, Pt.locs, Pt.cells, Pt.slots] at X2254 l2254 y2254 z2254 st2254 hQ2254
 rw [l2254, y2254, z2254] at X2254
 obtain ⟨hv2254, Nq2254, eq2254⟩ := hQ2254
 rw [hv2254] at st2254
 have N2254 := Fr.app N2238 Nq2254
 have f2260 := (((((E_A.wr W2164).wr W2170).keep Kc2174).wr W2225).wr W2234).keep Kc2238
 have f2263 := ((f2219.other W2225 (Or.inl (Ne.symm ne_ec_A))).other W2234 (Or.inl (Ne.symm ne_el_A))).keep Kc2238 (ninS ne_A_q nin0)
 have f2265 := (f2228.other W2234 (Or.inl (Ne.symm ne_el_A))).keep Kc2238 (ninS ne_A_q nin0)
 have f2267 := (V2225.other W2234 ne_ec_el).keep Kc2238 (ninS ne_ec_q nin0)
 have f2268 := V2234.keep Kc2238 (ninS ne_el_q nin0)
 obtain ⟨fs, hr, hrun, hended, hW, hsame⟩ := X2254.leave (v := none) (fun _ => rfl)
 refine ⟨_, _, ?_, hrun, hended, _, _, rfl, ?_, ⟨_, rfl⟩, hW, hsame.mono (by decide) (by decide)⟩
 ·refine pre0 _ ?_
  show Steps _ _ _ (s₁.setTop (mkF m 0 #[.val (.ref A), .val (.double (FP.l2d it)), .second, .unset, .unset, .unset, .unset, .unset] [])) _
  refine XS.dloadN X0.here hx rfl (hb hby dFG_0) rfl ?_
  refine XS.aloadN X0.here hx rfl (hb hby dFG_1) rfl rfl ?_
  refine st2149 _ ?_
  refine XS.dcmpS X2149.here hx rfl (hb hby dFG_5) rfl (v := (lcmpW it 100)) (own_cmpw hib own_b100 (by decide) (by decide) _) ?_
  show Steps _ _ _ (T2149.setTop (mkF m 6 #[.val (.ref A), .val (.double (FP.l2d it)), .second, .unset, .unset, .unset, .unset, .unset] [(.int (lcmpW it 100))])) _
  refine XS.ifYes X2149.here hx rfl (pc0 := 6) (pc' := 27) rfl (hb hby dFG_6) rfl ((if0 _ _).trans (tlt ((lw_lt _ _).mpr hi100)).1) (by decide) (by decide) ?_
  refine XS.dloadN X2149.here hx rfl (hb hby dFG_27) rfl ?_
  refine XS.aloadN X2149.here hx rfl (hb hby dFG_28) rfl rfl ?_
  refine st2150 _ ?_
  show Steps _ _ _ (T2150.setTop (mkF m 32 #[.val (.ref A), .val (.double (FP.l2d it)), .second, .unset, .unset, .unset, .unset, .unset] [(.double (FP.l2d 10)), (.double (FP.l2d it))])) _
  refine XS.dsubS X2150.here hx rfl (hb hby dFG_32) rfl (v := (FP.l2d (it - 10))) (nn_w (own_sub hib own_b10 (by decide) (by decide))) (own_sub hib own_b10 (by decide) (by decide)) ?_
  refine XS.dstoreN X2150.here hx rfl (hb hby dFG_33) rfl (l' := #[.val (.ref A), .val (.double (FP.l2d it)), .second, .val (.double (FP.l2d (it - 10))), .second, .unset, .unset, .unset]) rfl ?_
  refine XS.aloadN X2150.here hx rfl (hb hby dFG_34) rfl rfl ?_
  refine st2151 _ ?_
  refine st2152.trans ?_
  show Steps _ _ _ (T2152.setTop (mkF m 41 #[.val (.ref A), .val (.double (FP.l2d it)), .second, .val (.double (FP.l2d (it - 10))), .second, .unset, .unset, .unset] [(.int (1 : Int32))])) _
  refine XS.ifYes X2152.here hx rfl (pc0 := 41) (pc' := 84) rfl (hb hby dFG_41) rfl (by decide) (by decide) (by decide) ?_
  refine XS.aloadN X2152.here hx rfl (hb hby dFG_84) rfl rfl ?_
  refine st2153 _ ?_
  refine st2154.trans ?_
  show Steps _ _ _ (T2154.setTop (mkF m 91 #[.val (.ref A), .val (.double (FP.l2d it)), .second, .val (.double (FP.l2d (it - 10))), .second, .unset, .unset, .unset] [(.int (0 : Int32))])) _
  refine XS.ifNo X2154.here hx rfl (hb hby dFG_91) rfl (by decide) ?_
  refine XS.aloadN X2154.here hx rfl (hb hby dFG_94) rfl rfl ?_
  refine st2155 _ ?_
  refine XS.iconst X2155.here hx rfl (hb hby dFG_98) ?_
  refine st2156.trans ?_
  show Steps _ _ _ (T2156.setTop (mkF m 102 #[.val (.ref A), .val (.double (FP.l2d it)), .second, .val (.double (FP.l2d (it - 10))), .second, .unset, .unset, .unset] [(.double (FP.l2d t1))])) _
  refine XS.dloadN X2156.here hx rfl (hb hby dFG_102) rfl ?_
  refine XS.dcmpS X2156.here hx rfl (hb hby dFG_103) rfl (v := (lcmpW t1 (it - 10))) (own_cmpw htb1 hob (by decide) (by decide) _) ?_
  refine XS.ifNo X2156.here hx rfl (hb hby dFG_104) rfl ((if0 _ _).trans (flt (fun q => hr1 ((lw_gt _ _).mp q))).2.2.1) ?_
  refine XS.aloadN X2156.here hx rfl (hb hby dFG_107) rfl rfl ?_
  refine st2157 _ ?_
  show Steps _ _ _ (T2157.setTop (mkF m 111 #[.val (.ref A), .val (.double (FP.l2d it)), .second, .val (.double (FP.l2d (it - 10))), .second, .unset, .unset, .unset] [(.ref q)])) _
  refine XS.iconst X2157.here hx rfl (hb hby dFG_111) ?_
  refine st2158.trans ?_
  show Steps _ _ _ (T2158.setTop (mkF m 115 #[.val (.ref A), .val (.double (FP.l2d it)), .second, .val (.double (FP.l2d (it - 10))), .second, .unset, .unset, .unset] [(.int p1)])) _
  refine XS.istore X2158.here hx rfl (hb hby dFG_115) rfl (l' := #[.val (.ref A), .val (.double (FP.l2d it)), .second, .val (.double (FP.l2d (it - 10))), .second, .val (.int p1), .unset, .unset]) rfl ?_
  refine XS.aloadN X2158.here hx rfl (hb hby dFG_117) rfl rfl ?_
  refine st2159 _ ?_
  refine XS.iconst X2159.here hx rfl (hb hby dFG_121) ?_
  refine st2160.trans ?_
  show Steps _ _ _ (T2160.setTop (mkF m 125 #[.val (.ref A), .val (.double (FP.l2d it)), .second, .val (.double (FP.l2d (it - 10))), .second, .val (.int p1), .unset, .unset] [(.double (FP.l2d l1))])) _
  refine XS.dstore X2160.here hx rfl (hb hby dFG_125) rfl (l' := #[.val (.ref A), .val (.double (FP.l2d it)), .second, .val (.double (FP.l2d (it - 10))), .second, .val (.int p1), .val (.double (FP.l2d l1)), .second]) rfl ?_
  refine XS.aloadN X2160.here hx rfl (hb hby dFG_127) rfl rfl ?_
  refine st2161 _ ?_
  refine XS.iload X2161.here hx rfl (hb hby dFG_131) rfl ?_
  show Steps _ _ _ (T2161.setTop (mkF m 133 #[.val (.ref A), .val (.double (FP.l2d it)), .second, .val (.double (FP.l2d (it - 10))), .second, .val (.int p1), .val (.double (FP.l2d l1)), .second] [(.int p1), (.ref ec)])) _
  jvm_step X2161.here [X2161.here.top, hx, (hb hby dFG_133), Value.category]
  show Steps _ _ _ (T2161.setTop (mkF m 134 #[.val (.ref A), .val (.double (FP.l2d it)), .second, .val (.double (FP.l2d (it - 10))), .second, .val (.int p1), .val (.double (FP.l2d l1)), .second] [(.int p1), (.ref ec), (.int p1), (.ref ec)])) _
  refine X2161.laload hx (j := p1) (v := (.long (f p1.toNatClampNeg))) (by rw [e2161]; exact Ar2162.1) (State.isArrayOf_alike hZ.alike Ar2162.2.1) Ar2162.2.2 hin2162 hat2162 (g := (mkF m 134 #[.val (.ref A), .val (.double (FP.l2d it)), .second, .val (.double (FP.l2d (it - 10))), .second, .val (.int p1), .val (.double (FP.l2d l1)), .second] [(.int p1), (.ref ec), (.int p1), (.ref ec)])) rfl rfl (hb hby dFG_134) _ ?_
  refine XS.lconst X2161.here hx rfl (hb hby dFG_135) ?_
  refine XS.lsub X2161.here hx rfl (hb hby dFG_136) rfl ?_
  show Steps _ _ _ (T2161.setTop (mkF m 137 #[.val (.ref A), .val (.double (FP.l2d it)), .second, .val (.double (FP.l2d (it - 10))), .second, .val (.int p1), .val (.double (FP.l2d l1)), .second] [(.long ((f p1.toNatClampNeg) - (1 : Int64))), (.int p1), (.ref ec)])) _
  refine st2164 _ ?_
  refine XS.aloadN X2164.here hx rfl (hb hby dFG_138) rfl rfl ?_
  refine st2166 _ ?_
  refine XS.iload X2166.here hx rfl (hb hby dFG_142) rfl ?_
  show Steps _ _ _ (T2166.setTop (mkF m 144 #[.val (.ref A), .val (.double (FP.l2d it)), .second, .val (.double (FP.l2d (it - 10))), .second, .val (.int p1), .val (.double (FP.l2d l1)), .second] [(.int p1), (.ref el)])) _
  jvm_step X2166.here [X2166.here.top, hx, (hb hby dFG_144), Value.category]
  show Steps _ _ _ (T2166.setTop (mkF m 145 #[.val (.ref A), .val (.double (FP.l2d it)), .second, .val (.double (FP.l2d (it - 10))), .second, .val (.int p1), .val (.double (FP.l2d l1)), .second] [(.int p1), (.ref el), (.int p1), (.ref el)])) _
  refine X2166.daload hx (j := p1) (v := (.double (FP.l2d (g p1.toNatClampNeg)))) (by rw [e2166]; exact Ar2167.1) (State.isArrayOf_alike hZ.alike Ar2167.2.1) Ar2167.2.2 hin2167 hat2167 (g := (mkF m 145 #[.val (.ref A), .val (.double (FP.l2d it)), .second, .val (.double (FP.l2d (it - 10))), .second, .val (.int p1), .val (.double (FP.l2d l1)), .second] [(.int p1), (.ref el), (.int p1), (.ref el)])) rfl rfl (hb hby dFG_145) _ ?_
  refine XS.dload X2166.here hx rfl (hb hby dFG_146) rfl ?_
  refine XS.dsubS X2166.here hx rfl (hb hby dFG_148) rfl (v := (FP.l2d ((g p1.toNatClampNeg) - l1))) (nn_w (own_sub (hgb _) hlb1 (by decide) (by decide))) (own_sub (hgb _) hlb1 (by decide) (by decide)) ?_
  show Steps _ _ _ (T2166.setTop (mkF m 149 #[.val (.ref A), .val (.double (FP.l2d it)), .second, .val (.double (FP.l2d (it - 10))), .second, .val (.int p1), .val (.double (FP.l2d l1)), .second] [(.double (FP.l2d ((g p1.toNatClampNeg) - l1))), (.int p1), (.ref el)])) _
  refine st2170 _ ?_
  refine XS.aloadN X2170.here hx rfl (hb hby dFG_150) rfl rfl ?_
  refine st2173 _ ?_
  refine st2174.trans ?_
  show Steps _ _ _ (T2174.setTop (mkF m 157 #[.val (.ref A), .val (.double (FP.l2d it)), .second, .val (.double (FP.l2d (it - 10))), .second, .val (.int p1), .val (.double (FP.l2d l1)), .second] [])) _
  refine XS.goto X2174.here hx rfl (pc0 := 157) (pc' := 84) rfl (hb hby dFG_157) (by decide) (by decide) ?_
  refine XS.aloadN X2174.here hx rfl (hb hby dFG_84) rfl rfl ?_
  refine st2188 _ ?_
  refine st2189.trans ?_
  show Steps _ _ _ (T2189.setTop (mkF m 91 #[.val (.ref A), .val (.double (FP.l2d it)), .second, .val (.double (FP.l2d (it - 10))), .second, .val (.int p1), .val (.double (FP.l2d l1)), .second] [(.int (0 : Int32))])) _
  refine XS.ifNo X2189.here hx rfl (hb hby dFG_91) rfl (by decide) ?_
  refine XS.aloadN X2189.here hx rfl (hb hby dFG_94) rfl rfl ?_
  refine st2190 _ ?_
  refine XS.iconst X2190.here hx rfl (hb hby dFG_98) ?_
  refine st2191.trans ?_
  show Steps _ _ _ (T2191.setTop (mkF m 102 #[.val (.ref A), .val (.double (FP.l2d it)), .second, .val (.double (FP.l2d (it - 10))), .second, .val (.int p1), .val (.double (FP.l2d l1)), .second] [(.double (FP.l2d t2))])) _
  refine XS.dloadN X2191.here hx rfl (hb hby dFG_102) rfl ?_
  refine XS.dcmpS X2191.here hx rfl (hb hby dFG_103) rfl (v := (lcmpW t2 (it - 10))) (own_cmpw htb2 hob (by decide) (by decide) _) ?_
  refine XS.ifNo X2191.here hx rfl (hb hby dFG_104) rfl ((if0 _ _).trans (flt (fun q => hr2 ((lw_gt _ _).mp q))).2.2.1) ?_
  refine XS.aloadN X2191.here hx rfl (hb hby dFG_107) rfl rfl ?_
  refine st2201 _ ?_
  show Steps _ _ _ (T2201.setTop (mkF m 111 #[.val (.ref A), .val (.double (FP.l2d it)), .second, .val (.double (FP.l2d (it - 10))), .second, .val (.int p1), .val (.double (FP.l2d l1)), .second] [(.ref q)])) _
  refine XS.iconst X2201.here hx rfl (hb hby dFG_111) ?_
  refine st2202.trans ?_
  show Steps _ _ _ (T2202.setTop (mkF m 115 #[.val (.ref A), .val (.double (FP.l2d it)), .second, .val (.double (FP.l2d (it - 10))), .second, .val (.int p1), .val (.double (FP.l2d l1)), .second] [(.int p2)])) _
  refine XS.istore X2202.here hx rfl (hb hby dFG_115) rfl (l' := #[.val (.ref A), .val (.double (FP.l2d it)), .second, .val (.double (FP.l2d (it - 10))), .second, .val (.int p2), .val (.double (FP.l2d l1)), .second]) rfl ?_
  refine XS.aloadN X2202.here hx rfl (hb hby dFG_117) rfl rfl ?_
  refine st2212 _ ?_
  refine XS.iconst X2212.here hx rfl (hb hby dFG_121) ?_
  refine st2213.trans ?_
  show Steps _ _ _ (T2213.setTop (mkF m 125 #[.val (.ref A), .val (.double (FP.l2d it)), .second, .val (.double (FP.l2d (it - 10))), .second, .val (.int p2), .val (.double (FP.l2d l1)), .second] [(.double (FP.l2d l2))])) _
  refine XS.dstore X2213.here hx rfl (hb hby dFG_125) rfl (l' := #[.val (.ref A), .val (.double (FP.l2d it)), .second, .val (.double (FP.l2d (it - 10))), .second, .val (.int p2), .val (.double (FP.l2d l2)), .second]) rfl ?_
  refine XS.aloadN X2213.here hx rfl (hb hby dFG_127) rfl rfl ?_
  refine st2220 _ ?_
  refine XS.iload X2220.here hx rfl (hb hby dFG_131) rfl ?_
  show Steps _ _ _ (T2220.setTop (mkF m 133 #[.val (.ref A), .val (.double (FP.l2d it)), .second, .val (.double (FP.l2d (it - 10))), .second, .val (.int p2), .val (.double (FP.l2d l2)), .second] [(.int p2), (.ref ec)])) _
  jvm_step X2220.here [X2220.here.top, hx, (hb hby dFG_133), Value.category]
  show Steps _ _ _ (T2220.setTop (mkF m 134 #[.val (.ref A), .val (.double (FP.l2d it)), .second, .val (.double (FP.l2d (it - 10))), .second, .val (.int p2), .val (.double (FP.l2d l2)), .second] [(.int p2), (.ref ec), (.int p2), (.ref ec)])) _
  refine X2220.laload hx (j := p2) (v := (.long ((own_upd f p1.toNatClampNeg ((f p1.toNatClampNeg) - (1 : Int64))) p2.toNatClampNeg))) (by rw [e2220]; exact Ar2221.1) (State.isArrayOf_alike hZ.alike Ar2221.2.1) Ar2221.2.2 hin2221 hat2221 (g := (mkF m 134 #[.val (.ref A), .val (.double (FP.l2d it)), .second, .val (.double (FP.l2d (it - 10))), .second, .val (.int p2), .val (.double (FP.l2d l2)), .second] [(.int p2), (.ref ec), (.int p2), (.ref ec)])) rfl rfl (hb hby dFG_134) _ ?_
  refine XS.lconst X2220.here hx rfl (hb hby dFG_135) ?_
  refine XS.lsub X2220.here hx rfl (hb hby dFG_136) rfl ?_
  show Steps _ _ _ (T2220.setTop (mkF m 137 #[.val (.ref A), .val (.double (FP.l2d it)), .second, .val (.double (FP.l2d (it - 10))), .second, .val (.int p2), .val (.double (FP.l2d l2)), .second] [(.long (((own_upd f p1.toNatClampNeg ((f p1.toNatClampNeg) - (1 : Int64))) p2.toNatClampNeg) - (1 : Int64))), (.int p2), (.ref ec)])) _
  refine st2225 _ ?_
  refine XS.aloadN X2225.here hx rfl (hb hby dFG_138) rfl rfl ?_
  refine st2229 _ ?_
  refine XS.iload X2229.here hx rfl (hb hby dFG_142) rfl ?_
  show Steps _ _ _ (T2229.setTop (mkF m 144 #[.val (.ref A), .val (.double (FP.l2d it)), .second, .val (.double (FP.l2d (it - 10))), .second, .val (.int p2), .val (.double (FP.l2d l2)), .second] [(.int p2), (.ref el)])) _
  jvm_step X2229.here [X2229.here.top, hx, (hb hby dFG_144), Value.category]
  show Steps _ _ _ (T2229.setTop (mkF m 145 #[.val (.ref A), .val (.double (FP.l2d it)), .second, .val (.double (FP.l2d (it - 10))), .second, .val (.int p2), .val (.double (FP.l2d l2)), .second] [(.int p2), (.ref el), (.int p2), (.ref el)])) _
  refine X2229.daload hx (j := p2) (v := (.double (FP.l2d ((own_upd g p1.toNatClampNeg ((g p1.toNatClampNeg) - l1)) p2.toNatClampNeg)))) (by rw [e2229]; exact Ar2230.1) (State.isArrayOf_alike hZ.alike Ar2230.2.1) Ar2230.2.2 hin2230 hat2230 (g := (mkF m 145 #[.val (.ref A), .val (.double (FP.l2d it)), .second, .val (.double (FP.l2d (it - 10))), .second, .val (.int p2), .val (.double (FP.l2d l2)), .second] [(.int p2), (.ref el), (.int p2), (.ref el)])) rfl rfl (hb hby dFG_145) _ ?_
  refine XS.dload X2229.here hx rfl (hb hby dFG_146) rfl ?_
  refine XS.dsubS X2229.here hx rfl (hb hby dFG_148) rfl (v := (FP.l2d (((own_upd g p1.toNatClampNeg ((g p1.toNatClampNeg) - l1)) p2.toNatClampNeg) - l2))) (nn_w (own_sub (hgb2 _) hlb2 (by decide) (by decide))) (own_sub (hgb2 _) hlb2 (by decide) (by decide)) ?_
  show Steps _ _ _ (T2229.setTop (mkF m 149 #[.val (.ref A), .val (.double (FP.l2d it)), .second, .val (.double (FP.l2d (it - 10))), .second, .val (.int p2), .val (.double (FP.l2d l2)), .second] [(.double (FP.l2d (((own_upd g p1.toNatClampNeg ((g p1.toNatClampNeg) - l1)) p2.toNatClampNeg) - l2))), (.int p2), (.ref el)])) _
  refine st2234 _ ?_
  refine XS.aloadN X2234.here hx rfl (hb hby dFG_150) rfl rfl ?_
  refine st2237 _ ?_
  refine st2238.trans ?_
  show Steps _ _ _ (T2238.setTop (mkF m 157 #[.val (.ref A), .val (.double (FP.l2d it)), .second, .val (.double (FP.l2d (it - 10))), .second, .val (.int p2), .val (.double (FP.l2d l2)), .second] [])) _
  refine XS.goto X2238.here hx rfl (pc0 := 157) (pc' := 84) rfl (hb hby dFG_157) (by decide) (by decide) ?_
  refine XS.aloadN X2238.here hx rfl (hb hby dFG_84) rfl rfl ?_
  refine st2253 _ ?_
  refine st2254.trans ?_
  show Steps _ _ _ (T2254.setTop (mkF m 91 #[.val (.ref A), .val (.double (FP.l2d it)), .second, .val (.double (FP.l2d (it - 10))), .second, .val (.int p2), .val (.double (FP.l2d l2)), .second] [(.int (1 : Int32))])) _
  refine XS.ifYes X2254.here hx rfl (pc0 := 91) (pc' := 160) rfl (hb hby dFG_91) rfl (by decide) (by decide) (by decide) ?_
  show Steps _ _ _ (T2254.setTop (mkF m 160 #[.val (.ref A), .val (.double (FP.l2d it)), .second, .val (.double (FP.l2d (it - 10))), .second, .val (.int p2), .val (.double (FP.l2d l2)), .second] [])) _
  exact X2254.returnOut hx Bd.returns (hb hby dFG_160) hr
 ·show QFG22 Z A it ec el qa q kec kel n f g p1 t1 l1 p2 t2 l2 h0 n0 _ T2254.heap _
  rw [eq2254]
  exact ⟨rfl, N2254, K2238.1, f2260, f2263, f2265, f2267, f2268⟩
theorem own_genat {x y : Int32} (h0 : ¬ x < 0) (h : ¬ x < y) : y.toNatClampNeg ≤ x.toNatClampNeg := by
 have e : (0 : Int32).toInt = 0 := by decide
 have h1 := nat_of h0
 rw [Int32.lt_iff_toInt_lt] at h
 show y.toInt.toNat ≤ x.toNatClampNeg
 omega
theorem dEX_0 : decode prog_63_method_7_code 0 = .ok (.iload_n 1, 1) := by decide +kernel
theorem dEX_1 : decode prog_63_method_7_code 1 = .ok (.aload_n 0, 1) := by decide +kernel
theorem dEX_2 : decode prog_63_method_7_code 2 = .ok (.getfield 7, 3) := by decide +kernel
theorem dEX_5 : decode prog_63_method_7_code 5 = .ok (.arraylength, 1) := by decide +kernel
theorem dEX_6 : decode prog_63_method_7_code 6 = .ok (.if_icmp .ge 14, 3) := by decide +kernel
theorem dEX_9 : decode prog_63_method_7_code 9 = .ok (.aload_n 0, 1) := by decide +kernel
theorem dEX_10 : decode prog_63_method_7_code 10 = .ok (.getfield 7, 3) := by decide +kernel
theorem dEX_13 : decode prog_63_method_7_code 13 = .ok (.iload_n 1, 1) := by decide +kernel
theorem dEX_14 : decode prog_63_method_7_code 14 = .ok (.laload, 1) := by decide +kernel
theorem dEX_15 : decode prog_63_method_7_code 15 = .ok (.lconst 0, 1) := by decide +kernel
theorem dEX_16 : decode prog_63_method_7_code 16 = .ok (.lcmp, 1) := by decide +kernel
theorem dEX_17 : decode prog_63_method_7_code 17 = .ok (.ifCond .ne 7, 3) := by decide +kernel
theorem dEX_20 : decode prog_63_method_7_code 20 = .ok (.iconst 1, 1) := by decide +kernel
theorem dEX_21 : decode prog_63_method_7_code 21 = .ok (.goto 4, 3) := by decide +kernel
theorem dEX_25 : decode prog_63_method_7_code 25 = .ok (.istore_n 2, 1) := by decide +kernel
theorem dEX_26 : decode prog_63_method_7_code 26 = .ok (.iload_n 2, 1) := by decide +kernel
theorem dEX_27 : decode prog_63_method_7_code 27 = .ok (.ifCond .eq 7, 3) := by decide +kernel
theorem dEX_30 : decode prog_63_method_7_code 30 = .ok (.dconst 0, 1) := by decide +kernel
theorem dEX_31 : decode prog_63_method_7_code 31 = .ok (.goto 17, 3) := by decide +kernel
theorem dEX_48 : decode prog_63_method_7_code 48 = .ok (.dreturn, 1) := by decide +kernel
theorem dEX_24 : decode prog_63_method_7_code 24 = .ok (.iconst 0, 1) := by decide +kernel
theorem dEX_34 : decode prog_63_method_7_code 34 = .ok (.aload_n 0, 1) := by decide +kernel
theorem dEX_35 : decode prog_63_method_7_code 35 = .ok (.getfield 13, 3) := by decide +kernel
theorem dEX_38 : decode prog_63_method_7_code 38 = .ok (.iload_n 1, 1) := by decide +kernel
theorem dEX_39 : decode prog_63_method_7_code 39 = .ok (.daload, 1) := by decide +kernel
theorem dEX_40 : decode prog_63_method_7_code 40 = .ok (.aload_n 0, 1) := by decide +kernel
theorem dEX_41 : decode prog_63_method_7_code 41 = .ok (.getfield 7, 3) := by decide +kernel
theorem dEX_44 : decode prog_63_method_7_code 44 = .ok (.iload_n 1, 1) := by decide +kernel
theorem dEX_45 : decode prog_63_method_7_code 45 = .ok (.laload, 1) := by decide +kernel
theorem dEX_46 : decode prog_63_method_7_code 46 = .ok (.l2d, 1) := by decide +kernel
theorem dEX_47 : decode prog_63_method_7_code 47 = .ok (.ddiv, 1) := by decide +kernel
theorem ef_EX (m : MethodId) (x0 : Addr) (x1 : Int32) : entryFrame m #[(.ref x0), (.int x1)] 3 = mkF m 0 #[.val (.ref x0), .val (.int x1), .unset] [] := by first | (simp [entryFrame, mkF, argsToLocals, Value.category]; done) | rfl
def QEX (Z : State) (A : Addr) (ask : Int32) (ec : Addr) (el : Addr) (kec : ClassId) (kel : ClassId) (n : Int32) (f : Nat → Int64) (g : Nat → Int64) (h0 : Heap) (n0 : Nat) (v : Option Value) (h : Heap) (L : List Loc) : Prop := v = some (.double (own_lat (f ask.toNatClampNeg) (g ask.toNatClampNeg))) ∧ Fr n0 L ∧ h = h0
set_option maxRecDepth 65536 in
set_option maxHeartbeats 40000000 in
theorem rmEX (l : Launch) (Z : State) (a0 : Array Value) (hw : HW Z a0) (ws : List Jvm.Cond) (A : Addr) (ask : Int32) (ec : Addr) (el : Addr) (kec : ClassId) (kel : ClassId) (n : Int32) (f : Nat → Int64) (g : Nat → Int64) (h0 : Heap) (n0 : Nat) (Z0 : n0 ≤ h0.size) (F_A_executorCompleted : Fld Z h0 A sRA "executorCompleted" "[J" (.ref ec)) (F_A_executorLatencySum : Fld Z h0 A sRA "executorLatencySum" "[D" (.ref el)) (V_ec : Arv Z h0 ec kec .long n (own_L f) (.long 0)) (V_el : Arv Z h0 el kel .double n (own_D g) (.double (FP.l2d 0))) (hzf : ∀ i, n.toNatClampNeg ≤ i → f i = 0) (hq0 : ¬ ask < 0) (hq1 : ¬ (63 : Int32) < ask) :
  MetFree l (⟨sRA, "executorLatency", "(I)D"⟩ : MethodName) (head1 (Jvm.Cond.code (⟨sRA, "executorLatency", "(I)D"⟩ : MethodName) prog_63_method_7_code 3 (some .double) :: ws) (Rm 0 0 0 0)) (fun a U => a = #[(.ref A), (.int ask)] ∧ Z.Warmed39 U.vm ∧ U.heap = h0) (fun _ _ _ _ _ => True) (fun _ U o U' => ∃ v L, o = .returned v ∧ QEX Z A ask ec el kec kel n f g h0 n0 v U'.heap L ∧ FrameEnd U o U' L (Rm 0 0 0 0).cells (Rm 0 0 0 0).slots) := by
 refine MetFree.of_bodySF (plainFor_of_name pn_com_example_frugal_weir_frugalweir_replay_RecentActivity) hisR ?_
 intro p e s m args below meth c s₁ Bd hml0 hP hK
 obtain ⟨rfl, hZ, hh⟩ := hP
 have hx := Bd.exec
 have hby := Bd.bytes
 have hml : c.maxLocals = 3 := hml0
 have hown : s.vm.findClass sRA = some m.cls := findClass_of_methodNamed Bd.named
 have hnm := (name_of_methodNamed Bd.named Bd.method).1
 have X0 : Stand p l e (Rm 0 0 0 0) s m #[(.ref A), (.int ask)] below meth c s₁ [] 0 0 := Stand.of_body Bd
 have e0 : s₁.heap = h0 := by rw [← hh, Bd.state]; rfl
 have N0 := Fr.nil n0
 have K0 : Keep h0 h0 [] := Keep.refl h0 []
 have pre0 : ∀ t, Steps p.tables e below (s₁.setTop (mkF m 0 #[.val (.ref A), .val (.int ask), .unset] [])) t → Steps p.tables e below (s₁.setTop (entryFrame m #[(.ref A), (.int ask)] 3)) t := fun t k => castTop (ef_EX m A ask) k
 have hx1 : ask.toNatClampNeg < 128 := own_pn hq0 (fun q => hq1 (own_tr (by decide) q))
 obtain ⟨T2269, X2269, e2269, st2269⟩ := getF X0 hx hZ hown (host := "") (Or.inl (wd hw 21 rfl)) Via.refl e0 F_A_executorCompleted (g := (mkF m 2 #[.val (.ref A), .val (.int ask), .unset] [(.ref A), (.int ask)])) rfl rfl (hb hby dEX_2)
 obtain ⟨cl2270, Ar2270, -, S2270, N2270, -, -⟩ := id V_ec
 have R2271 : ∀ t, Steps p.tables e below (T2269.setTop (mkF m 6 #[.val (.ref A), .val (.int ask), .unset] [(.int n), (.int ask)])) t → Steps p.tables e below (s₁.setTop (entryFrame m #[(.ref A), (.int ask)] 3)) t := by
  intro t kt
  refine pre0 _ ?_
  show Steps _ _ _ (s₁.setTop (mkF m 0 #[.val (.ref A), .val (.int ask), .unset] [])) _
  refine XS.iloadN X0.here hx rfl (hb hby dEX_0) rfl ?_
  refine XS.aloadN X0.here hx rfl (hb hby dEX_1) rfl rfl ?_
  refine st2269 _ ?_
  show Steps _ _ _ (T2269.setTop (mkF m 5 #[.val (.ref A), .val (.int ask), .unset] [(.ref ec), (.int ask)])) _
  refine X2269.arraylength hx (by rw [e2269]; exact Ar2270.1) (State.isArrayOf_alike hZ.alike Ar2270.2.1) (g := (mkF m 5 #[.val (.ref A), .val (.int ask), .unset] [(.ref ec), (.int ask)])) rfl rfl (hb hby dEX_5) _ ?_
  rw [len_of S2270 N2270]
  show Steps _ _ _ (T2269.setTop (mkF m 6 #[.val (.ref A), .val (.int ask), .unset] [(.int n), (.int ask)])) _
  exact kt
 by_cases hlt : ask < n
 ·
  obtain ⟨T2272, X2272, e2272, st2272⟩ := getF X2269 hx hZ hown (host := "") (Or.inl (wd hw 21 rfl)) Via.refl e2269 F_A_executorCompleted (g := (mkF m 10 #[.val (.ref A), .val (.int ask), .unset] [(.ref A)])) rfl rfl (hb hby dEX_10)
  obtain ⟨cl2273, Ar2273, q2273, S2273, N2273, H2273, G2273⟩ := id V_ec
  have hin2273 : ¬ (ask < 0 ∨ cl2273.slots.size ≤ (ask).toNatClampNeg) := (inb_of S2273 ⟨hq0, hlt⟩)
  have hat2273 : cl2273.slots[(ask).toNatClampNeg]? = some (.long (f ask.toNatClampNeg)) := (H2273.at (inb_of S2273 ⟨hq0, hlt⟩) (own_Lget _ hx1 _))
  have R2274 : ∀ t, Steps p.tables e below (T2272.setTop (mkF m 17 #[.val (.ref A), .val (.int ask), .unset] [(.int (lcmpW (f ask.toNatClampNeg) (0 : Int64)))])) t → Steps p.tables e below (s₁.setTop (entryFrame m #[(.ref A), (.int ask)] 3)) t := by
   intro t kt
   refine R2271 _ ?_
   show Steps _ _ _ (T2269.setTop (mkF m 6 #[.val (.ref A), .val (.int ask), .unset] [(.int n), (.int ask)])) _
   refine XS.icmpNo X2269.here hx rfl (hb hby dEX_6) rfl (tlt hlt).2.1 ?_
   refine XS.aloadN X2269.here hx rfl (hb hby dEX_9) rfl rfl ?_
   refine st2272 _ ?_
   refine XS.iloadN X2272.here hx rfl (hb hby dEX_13) rfl ?_
   show Steps _ _ _ (T2272.setTop (mkF m 14 #[.val (.ref A), .val (.int ask), .unset] [(.int ask), (.ref ec)])) _
   refine X2272.laload hx (j := ask) (v := (.long (f ask.toNatClampNeg))) (by rw [e2272]; exact Ar2273.1) (State.isArrayOf_alike hZ.alike Ar2273.2.1) Ar2273.2.2 hin2273 hat2273 (g := (mkF m 14 #[.val (.ref A), .val (.int ask), .unset] [(.int ask), (.ref ec)])) rfl rfl (hb hby dEX_14) _ ?_
   refine XS.lconst X2272.here hx rfl (hb hby dEX_15) ?_
   refine XS.lcmp X2272.here hx rfl (hb hby dEX_16) rfl ?_
   show Steps _ _ _ (T2272.setTop (mkF m 17 #[.val (.ref A), .val (.int ask), .unset] [(.int (lcmpW (f ask.toNatClampNeg) (0 : Int64)))])) _
   exact kt
  by_cases hf0 : (f ask.toNatClampNeg) = 0
  ·
   obtain ⟨fs, hr, hrun, hended, hW, hsame⟩ := X2272.leave (v := some (.double (FP.l2d 0))) (fun h => by rw [Bd.returns] at h; cases h)
   refine ⟨_, _, ?_, hrun, hended, _, _, rfl, ?_, ⟨_, rfl⟩, hW, hsame.mono (by decide) (by decide)⟩
   ·refine R2274 _ ?_
    show Steps _ _ _ (T2272.setTop (mkF m 17 #[.val (.ref A), .val (.int ask), .unset] [(.int (lcmpW (f ask.toNatClampNeg) (0 : Int64)))])) _
    refine XS.ifNo X2272.here hx rfl (hb hby dEX_17) rfl ((if0 _ _).trans (teq ((lw_eq _ _).mpr hf0)).2) ?_
    refine XS.iconst X2272.here hx rfl (hb hby dEX_20) ?_
    refine XS.goto X2272.here hx rfl (pc0 := 21) (pc' := 25) rfl (hb hby dEX_21) (by decide) (by decide) ?_
    refine XS.istoreN X2272.here hx rfl (hb hby dEX_25) rfl (l' := #[.val (.ref A), .val (.int ask), .val (.int (1 : Int32))]) rfl ?_
    show Steps _ _ _ (T2272.setTop (mkF m 26 #[.val (.ref A), .val (.int ask), .val (.int (1 : Int32))] [])) _
    refine XS.iloadN X2272.here hx rfl (hb hby dEX_26) rfl ?_
    refine XS.ifNo X2272.here hx rfl (hb hby dEX_27) rfl (by decide) ?_
    refine XS.dconst0 X2272.here hx rfl (hb hby dEX_30) (v := (FP.l2d 0)) own_d0 ?_
    refine XS.goto X2272.here hx rfl (pc0 := 31) (pc' := 48) rfl (hb hby dEX_31) (by decide) (by decide) ?_
    show Steps _ _ _ (T2272.setTop (mkF m 48 #[.val (.ref A), .val (.int ask), .val (.int (1 : Int32))] [(.double (FP.l2d 0))])) _
    exact retD X2272 hx Bd.returns (hb hby dEX_48) hr
   ·show QEX Z A ask ec el kec kel n f g h0 n0 _ T2272.heap _
    rw [e2272]
    exact ⟨by rw [own_lat, if_pos hf0], N0, rfl⟩
  ·
   obtain ⟨T2275, X2275, e2275, st2275⟩ := getF X2272 hx hZ hown (host := "") (Or.inl (wd hw 24 rfl)) Via.refl e2272 F_A_executorLatencySum (g := (mkF m 35 #[.val (.ref A), .val (.int ask), .val (.int (0 : Int32))] [(.ref A)])) rfl rfl (hb hby dEX_35)
   obtain ⟨cl2276, Ar2276, q2276, S2276, N2276, H2276, G2276⟩ := id V_el
   have hin2276 : ¬ (ask < 0 ∨ cl2276.slots.size ≤ (ask).toNatClampNeg) := (inb_of S2276 ⟨hq0, hlt⟩)
   have hat2276 : cl2276.slots[(ask).toNatClampNeg]? = some (.double (FP.l2d (g ask.toNatClampNeg))) := (H2276.at (inb_of S2276 ⟨hq0, hlt⟩) (own_Dget _ hx1 _))
   obtain ⟨T2277, X2277, e2277, st2277⟩ := getF X2275 hx hZ hown (host := "") (Or.inl (wd hw 21 rfl)) Via.refl e2275 F_A_executorCompleted (g := (mkF m 41 #[.val (.ref A), .val (.int ask), .val (.int (0 : Int32))] [(.ref A), (.double (FP.l2d (g ask.toNatClampNeg)))])) rfl rfl (hb hby dEX_41)
   obtain ⟨cl2278, Ar2278, q2278, S2278, N2278, H2278, G2278⟩ := id V_ec
   have hin2278 : ¬ (ask < 0 ∨ cl2278.slots.size ≤ (ask).toNatClampNeg) := (inb_of S2278 ⟨hq0, hlt⟩)
   have hat2278 : cl2278.slots[(ask).toNatClampNeg]? = some (.long (f ask.toNatClampNeg)) := (H2278.at (inb_of S2278 ⟨hq0, hlt⟩) (own_Lget _ hx1 _))
   obtain ⟨fs, hr, hrun, hended, hW, hsame⟩ := X2277.leave (v := some (.double (FP.ddiv (FP.l2d (g ask.toNatClampNeg)) (FP.l2d (f ask.toNatClampNeg))))) (fun h => by rw [Bd.returns] at h; cases h)
   refine ⟨_, _, ?_, hrun, hended, _, _, rfl, ?_, ⟨_, rfl⟩, hW, hsame.mono (by decide) (by decide)⟩
   ·refine R2274 _ ?_
    show Steps _ _ _ (T2272.setTop (mkF m 17 #[.val (.ref A), .val (.int ask), .unset] [(.int (lcmpW (f ask.toNatClampNeg) (0 : Int64)))])) _
    refine XS.ifYes X2272.here hx rfl (pc0 := 17) (pc' := 24) rfl (hb hby dEX_17) rfl ((if0 _ _).trans (feq (fun q => hf0 ((lw_eq _ _).mp q))).2) (by decide) (by decide) ?_
    refine XS.iconst X2272.here hx rfl (hb hby dEX_24) ?_
    refine XS.istoreN X2272.here hx rfl (hb hby dEX_25) rfl (l' := #[.val (.ref A), .val (.int ask), .val (.int (0 : Int32))]) rfl ?_
    refine XS.iloadN X2272.here hx rfl (hb hby dEX_26) rfl ?_
    show Steps _ _ _ (T2272.setTop (mkF m 27 #[.val (.ref A), .val (.int ask), .val (.int (0 : Int32))] [(.int (0 : Int32))])) _
    refine XS.ifYes X2272.here hx rfl (pc0 := 27) (pc' := 34) rfl (hb hby dEX_27) rfl (by decide) (by decide) (by decide) ?_
    refine XS.aloadN X2272.here hx rfl (hb hby dEX_34) rfl rfl ?_
    refine st2275 _ ?_
    refine XS.iloadN X2275.here hx rfl (hb hby dEX_38) rfl ?_
    show Steps _ _ _ (T2275.setTop (mkF m 39 #[.val (.ref A), .val (.int ask), .val (.int (0 : Int32))] [(.int ask), (.ref el)])) _
    refine X2275.daload hx (j := ask) (v := (.double (FP.l2d (g ask.toNatClampNeg)))) (by rw [e2275]; exact Ar2276.1) (State.isArrayOf_alike hZ.alike Ar2276.2.1) Ar2276.2.2 hin2276 hat2276 (g := (mkF m 39 #[.val (.ref A), .val (.int ask), .val (.int (0 : Int32))] [(.int ask), (.ref el)])) rfl rfl (hb hby dEX_39) _ ?_
    refine XS.aloadN X2275.here hx rfl (hb hby dEX_40) rfl rfl ?_
    refine st2277 _ ?_
    refine XS.iloadN X2277.here hx rfl (hb hby dEX_44) rfl ?_
    show Steps _ _ _ (T2277.setTop (mkF m 45 #[.val (.ref A), .val (.int ask), .val (.int (0 : Int32))] [(.int ask), (.ref ec), (.double (FP.l2d (g ask.toNatClampNeg)))])) _
    refine X2277.laload hx (j := ask) (v := (.long (f ask.toNatClampNeg))) (by rw [e2277]; exact Ar2278.1) (State.isArrayOf_alike hZ.alike Ar2278.2.1) Ar2278.2.2 hin2278 hat2278 (g := (mkF m 45 #[.val (.ref A), .val (.int ask), .val (.int (0 : Int32))] [(.int ask), (.ref ec), (.double (FP.l2d (g ask.toNatClampNeg)))])) rfl rfl (hb hby dEX_45) _ ?_
    refine XS.l2dS X2277.here hx rfl (hb hby dEX_46) rfl (v := (FP.l2d (f ask.toNatClampNeg))) rfl ?_
    refine XS.ddivS X2277.here hx rfl (hb hby dEX_47) rfl (v := (FP.ddiv (FP.l2d (g ask.toNatClampNeg)) (FP.l2d (f ask.toNatClampNeg)))) (own_divNN hf0) rfl ?_
    show Steps _ _ _ (T2277.setTop (mkF m 48 #[.val (.ref A), .val (.int ask), .val (.int (0 : Int32))] [(.double (FP.ddiv (FP.l2d (g ask.toNatClampNeg)) (FP.l2d (f ask.toNatClampNeg))))])) _
    exact retD X2277 hx Bd.returns (hb hby dEX_48) hr
   ·show QEX Z A ask ec el kec kel n f g h0 n0 _ T2277.heap _
    rw [e2277]
    exact ⟨by rw [own_lat, if_neg hf0], N0, rfl⟩
 ·
  have hf0 : (f ask.toNatClampNeg) = 0 := hzf _ (own_genat hq0 hlt)
  obtain ⟨fs, hr, hrun, hended, hW, hsame⟩ := X2269.leave (v := some (.double (FP.l2d 0))) (fun h => by rw [Bd.returns] at h; cases h)
  refine ⟨_, _, ?_, hrun, hended, _, _, rfl, ?_, ⟨_, rfl⟩, hW, hsame.mono (by decide) (by decide)⟩
  ·refine R2271 _ ?_
   show Steps _ _ _ (T2269.setTop (mkF m 6 #[.val (.ref A), .val (.int ask), .unset] [(.int n), (.int ask)])) _
   refine XS.icmpYes X2269.here hx rfl (pc0 := 6) (pc' := 20) rfl (hb hby dEX_6) rfl (flt hlt).2.1 (by decide) (by decide) ?_
   refine XS.iconst X2269.here hx rfl (hb hby dEX_20) ?_
   refine XS.goto X2269.here hx rfl (pc0 := 21) (pc' := 25) rfl (hb hby dEX_21) (by decide) (by decide) ?_
   refine XS.istoreN X2269.here hx rfl (hb hby dEX_25) rfl (l' := #[.val (.ref A), .val (.int ask), .val (.int (1 : Int32))]) rfl ?_
   show Steps _ _ _ (T2269.setTop (mkF m 26 #[.val (.ref A), .val (.int ask), .val (.int (1 : Int32))] [])) _
   refine XS.iloadN X2269.here hx rfl (hb hby dEX_26) rfl ?_
   refine XS.ifNo X2269.here hx rfl (hb hby dEX_27) rfl (by decide) ?_
   refine XS.dconst0 X2269.here hx rfl (hb hby dEX_30) (v := (FP.l2d 0)) own_d0 ?_
   refine XS.goto X2269.here hx rfl (pc0 := 31) (pc' := 48) rfl (hb hby dEX_31) (by decide) (by decide) ?_
   show Steps _ _ _ (T2269.setTop (mkF m 48 #[.val (.ref A), .val (.int ask), .val (.int (1 : Int32))] [(.double (FP.l2d 0))])) _
   exact retD X2269 hx Bd.returns (hb hby dEX_48) hr
  ·show QEX Z A ask ec el kec kel n f g h0 n0 _ T2269.heap _
   rw [e2269]
   exact ⟨by rw [own_lat, if_pos hf0], N0, rfl⟩
def own_St (Z : State) (h : Heap) (n0 : Nat) (A ec el qa q : Addr) (kec kel : ClassId) (n : Int32) (f g : Nat → Int64) : List (Int32 × Int64 × Int64) → Prop
 | [] => own_S0 Z h n0 A ec el qa q kec kel n f g
 | [(p1, t1, l1)] => own_S1 Z h n0 A ec el qa q kec kel n f g p1 t1 l1
 | [(p1, t1, l1), (p2, t2, l2)] => own_S2 Z h n0 A ec el qa q kec kel n f g p1 t1 l1 p2 t2 l2
 | _ => False
def QCM (Z : State) (A : Addr) (pl : Int32) (lt : Int64) (tt : Int64) (ec : Addr) (el : Addr) (qa : Addr) (q : Addr) (kec : ClassId) (kel : ClassId) (n : Int32) (f : Nat → Int64) (g : Nat → Int64) (recs : List (Int32 × Int64 × Int64)) (h0 : Heap) (n0 : Nat) (v : Option Value) (h : Heap) (L : List Loc) : Prop := v = none ∧ Fr n0 L ∧ h0.size ≤ h.size ∧ ∃ (ec' el' : Addr) (kec' kel' : ClassId) (n' : Int32), own_St Z h n0 A ec' el' qa q kec' kel' n' (own_upd f pl.toNatClampNeg ((f pl.toNatClampNeg) + (1 : Int64))) (own_upd g pl.toNatClampNeg ((g pl.toNatClampNeg) + lt)) (if 90 < tt then recs else recs ++ [(pl, tt, lt)]) ∧ ¬ n' < n ∧ pl < n' ∧ ¬ (128 : Int32) < n' ∧ (n = 16 → ¬ (64 : Int32) < n')
theorem rmCM (l : Launch) (Z : State) (a0 : Array Value) (hw : HW Z a0) (ws : List Jvm.Cond) (A : Addr) (pl : Int32) (lt : Int64) (tt : Int64) (ec : Addr) (el : Addr) (qa : Addr) (q : Addr) (kec : ClassId) (kel : ClassId) (n : Int32) (f : Nat → Int64) (g : Nat → Int64) (recs : List (Int32 × Int64 × Int64)) (h0 : Heap) (n0 : Nat) (Z0 : n0 ≤ h0.size) (S : own_St Z h0 n0 A ec el qa q kec kel n f g recs) (hlen : recs.length ≤ 1) (hp0 : ¬ pl < 0) (hp1 : ¬ (63 : Int32) < pl) (hn0 : ¬ n < 16) (hn1 : ¬ (64 : Int32) < n) (hzf : ∀ i, n.toNatClampNeg ≤ i → f i = 0) (hzg : ∀ i, n.toNatClampNeg ≤ i → g i = 0) (hlb : own_B 2147483648 lt) (hgb : ∀ i, own_B 4294967296 (g i)) (htb : own_B 1000 tt) :
  MetFree l (⟨sRA, "completed", "(IDD)V"⟩ : MethodName) (head1 (Jvm.Cond.code (⟨sRA, "completed", "(IDD)V"⟩ : MethodName) prog_63_method_4_code 7 none :: ws) (Rm 4 8 310 55)) (fun a U => a = #[(.ref A), (.int pl), (.double (FP.l2d lt)), (.double (FP.l2d tt))] ∧ Z.Warmed39 U.vm ∧ U.heap = h0) (fun _ _ _ _ _ => True) (fun _ U o U' => ∃ v L, o = .returned v ∧ QCM Z A pl lt tt ec el qa q kec kel n f g recs h0 n0 v U'.heap L ∧ FrameEnd U o U' L (Rm 4 8 310 55).cells (Rm 4 8 310 55).slots) := by
 intro p e ha hc hk' s m args below hf happ hP hK
 match recs, hlen, S with
 | [], _, S =>
  by_cases hk : 90 < tt
  ·
   obtain ⟨nn, o, h1, h2, h3, v, L, ho, ⟨a1, a2, a3, ec', el', kec', kel', n', a4, a5⟩, hFE⟩ := rmCN0 l Z a0 hw ws A pl lt tt ec el qa q kec kel n f g h0 n0 Z0 S hp0 hp1 hn0 hn1 hzf hzg hlb hgb htb hk p e ha hc hk' s m args below hf happ hP hK
   exact ⟨nn, o, h1, h2, h3, v, L, ho, ⟨a1, a2, a3, ec', el', kec', kel', n', by rw [if_pos hk]; exact a4, a5⟩, hFE⟩
  ·
   obtain ⟨nn, o, h1, h2, h3, v, L, ho, ⟨a1, a2, a3, ec', el', kec', kel', n', a4, a5⟩, hFE⟩ := rmCK0 l Z a0 hw ws A pl lt tt ec el qa q kec kel n f g h0 n0 Z0 S hp0 hp1 hn0 hn1 hzf hzg hlb hgb htb hk p e ha hc hk' s m args below hf happ hP hK
   exact ⟨nn, o, h1, h2, h3, v, L, ho, ⟨a1, a2, a3, ec', el', kec', kel', n', by rw [if_neg hk]; exact a4, a5⟩, hFE⟩
 | [(p1, t1, l1)], _, S =>
  by_cases hk : 90 < tt
  ·
   obtain ⟨nn, o, h1, h2, h3, v, L, ho, ⟨a1, a2, a3, ec', el', kec', kel', n', a4, a5⟩, hFE⟩ := rmCN1 l Z a0 hw ws A pl lt tt ec el qa q kec kel n f g p1 t1 l1 h0 n0 Z0 S hp0 hp1 hn0 hn1 hzf hzg hlb hgb htb hk p e ha hc hk' s m args below hf happ hP hK
   exact ⟨nn, o, h1, h2, h3, v, L, ho, ⟨a1, a2, a3, ec', el', kec', kel', n', by rw [if_pos hk]; exact a4, a5⟩, hFE⟩
  ·
   obtain ⟨nn, o, h1, h2, h3, v, L, ho, ⟨a1, a2, a3, ec', el', kec', kel', n', a4, a5⟩, hFE⟩ := rmCK1 l Z a0 hw ws A pl lt tt ec el qa q kec kel n f g p1 t1 l1 h0 n0 Z0 S hp0 hp1 hn0 hn1 hzf hzg hlb hgb htb hk p e ha hc hk' s m args below hf happ hP hK
   exact ⟨nn, o, h1, h2, h3, v, L, ho, ⟨a1, a2, a3, ec', el', kec', kel', n', by rw [if_neg hk]; exact a4, a5⟩, hFE⟩
 | _ :: _ :: _, hl, _ => exact absurd hl (by simp)
def own_fgC : List (Int32 × Int64 × Int64) → Int64 → (Nat → Int64) → (Nat → Int64)
 | [], _, f => f
 | (p1, t1, _) :: rs, o, f => if o < t1 then f else own_fgC rs o (own_upd f p1.toNatClampNeg ((f p1.toNatClampNeg) - 1))
def own_fgS : List (Int32 × Int64 × Int64) → Int64 → (Nat → Int64) → (Nat → Int64)
 | [], _, g => g
 | (p1, t1, l1) :: rs, o, g => if o < t1 then g else own_fgS rs o (own_upd g p1.toNatClampNeg ((g p1.toNatClampNeg) - l1))
def QFG (Z : State) (A : Addr) (it : Int64) (ec : Addr) (el : Addr) (qa : Addr) (q : Addr) (kec : ClassId) (kel : ClassId) (n : Int32) (f : Nat → Int64) (g : Nat → Int64) (recs : List (Int32 × Int64 × Int64)) (h0 : Heap) (n0 : Nat) (v : Option Value) (h : Heap) (L : List Loc) : Prop := v = none ∧ Fr n0 L ∧ h0.size ≤ h.size ∧ Exa Z h A sRA ∧ Fld Z h A sRA "executorCompleted" "[J" (.ref ec) ∧ Fld Z h A sRA "executorLatencySum" "[D" (.ref el) ∧ Arv Z h ec kec .long n (own_L (own_fgC recs (it - 10) f)) (.long 0) ∧ Arv Z h el kel .double n (own_D (own_fgS recs (it - 10) g)) (.double (FP.l2d 0))
theorem rmFG (l : Launch) (Z : State) (a0 : Array Value) (hw : HW Z a0) (ws : List Jvm.Cond) (A : Addr) (it : Int64) (ec : Addr) (el : Addr) (qa : Addr) (q : Addr) (kec : ClassId) (kel : ClassId) (n : Int32) (f : Nat → Int64) (g : Nat → Int64) (recs : List (Int32 × Int64 × Int64)) (h0 : Heap) (n0 : Nat) (Z0 : n0 ≤ h0.size) (S : own_St Z h0 n0 A ec el qa q kec kel n f g recs) (hlen : recs.length ≤ 2) (hib : own_B 1000 it) (hi100 : it < 100) (hgb : ∀ i, own_B 4294967296 (g i)) (hrec : ∀ r ∈ recs, ¬ r.1 < 0 ∧ ¬ (63 : Int32) < r.1 ∧ r.1 < n ∧ own_B 1000 r.2.1 ∧ own_B 2147483648 r.2.2) :
  MetFree l (⟨sRA, "forgetUntil", "(D)V"⟩ : MethodName) (head1 (Jvm.Cond.code (⟨sRA, "forgetUntil", "(D)V"⟩ : MethodName) prog_63_method_5_code 8 none :: ws) (Rm 1 0 0 13)) (fun a U => a = #[(.ref A), (.double (FP.l2d it))] ∧ Z.Warmed39 U.vm ∧ U.heap = h0) (fun _ _ _ _ _ => True) (fun _ U o U' => ∃ v L, o = .returned v ∧ QFG Z A it ec el qa q kec kel n f g recs h0 n0 v U'.heap L ∧ FrameEnd U o U' L (Rm 1 0 0 13).cells (Rm 1 0 0 13).slots) := by
 intro p e ha hc hk' s m args below hf happ hP hK
 match recs, hlen, S, hrec with
 | [], _, S, _ =>
  obtain ⟨nn, o, h1, h2, h3, v, L, ho, ⟨a1, a2, a3, aE, a4, a5, a6, a7⟩, hFE⟩ := rmFG00 l Z a0 hw ws A it ec el qa q kec kel n f g  h0 n0 Z0 S hib hi100 hgb   p e ha hc hk' s m args below hf happ hP hK
  refine ⟨nn, o, h1, h2, h3, v, L, ho, ⟨a1, a2, a3, aE, a4, a5, ?_, ?_⟩, hFE⟩
  ·have eC : own_fgC [] (it - 10) f = f := by simp only [own_fgC]
   rw [eC]; exact a6
  ·have eS : own_fgS [] (it - 10) g = g := by simp only [own_fgS]
   rw [eS]; exact a7
 | [(p1, t1, l1)], _, S, hrec =>
  obtain ⟨b10, b11, b1n, b1t, b1l⟩ := hrec (p1, t1, l1) (List.mem_of_getElem? (i := 0) rfl)
  by_cases h1r : (it - 10) < t1
  ·
   obtain ⟨nn, o, h1, h2, h3, v, L, ho, ⟨a1, a2, a3, aE, a4, a5, a6, a7⟩, hFE⟩ := rmFG10 l Z a0 hw ws A it ec el qa q kec kel n f g p1 t1 l1 h0 n0 Z0 S hib hi100 hgb b10 b11 b1n b1t b1l h1r p e ha hc hk' s m args below hf happ hP hK
   refine ⟨nn, o, h1, h2, h3, v, L, ho, ⟨a1, a2, a3, aE, a4, a5, ?_, ?_⟩, hFE⟩
   ·have eC : own_fgC [(p1, t1, l1)] (it - 10) f = f := by simp only [own_fgC, if_pos h1r]
    rw [eC]; exact a6
   ·have eS : own_fgS [(p1, t1, l1)] (it - 10) g = g := by simp only [own_fgS, if_pos h1r]
    rw [eS]; exact a7
  ·
   obtain ⟨nn, o, h1, h2, h3, v, L, ho, ⟨a1, a2, a3, aE, a4, a5, a6, a7⟩, hFE⟩ := rmFG11 l Z a0 hw ws A it ec el qa q kec kel n f g p1 t1 l1 h0 n0 Z0 S hib hi100 hgb b10 b11 b1n b1t b1l h1r p e ha hc hk' s m args below hf happ hP hK
   refine ⟨nn, o, h1, h2, h3, v, L, ho, ⟨a1, a2, a3, aE, a4, a5, ?_, ?_⟩, hFE⟩
   ·have eC : own_fgC [(p1, t1, l1)] (it - 10) f = (own_upd f p1.toNatClampNeg ((f p1.toNatClampNeg) - 1)) := by simp only [own_fgC, if_neg h1r]
    rw [eC]; exact a6
   ·have eS : own_fgS [(p1, t1, l1)] (it - 10) g = (own_upd g p1.toNatClampNeg ((g p1.toNatClampNeg) - l1)) := by simp only [own_fgS, if_neg h1r]
    rw [eS]; exact a7
 | [(p1, t1, l1), (p2, t2, l2)], _, S, hrec =>
  obtain ⟨b10, b11, b1n, b1t, b1l⟩ := hrec (p1, t1, l1) (List.mem_of_getElem? (i := 0) rfl)
  obtain ⟨b20, b21, b2n, b2t, b2l⟩ := hrec (p2, t2, l2) (List.mem_of_getElem? (i := 1) rfl)
  by_cases h1r : (it - 10) < t1
  ·
   obtain ⟨nn, o, h1, h2, h3, v, L, ho, ⟨a1, a2, a3, aE, a4, a5, a6, a7⟩, hFE⟩ := rmFG20 l Z a0 hw ws A it ec el qa q kec kel n f g p1 t1 l1 p2 t2 l2 h0 n0 Z0 S hib hi100 hgb b10 b11 b1n b1t b1l b20 b21 b2n b2t b2l h1r p e ha hc hk' s m args below hf happ hP hK
   refine ⟨nn, o, h1, h2, h3, v, L, ho, ⟨a1, a2, a3, aE, a4, a5, ?_, ?_⟩, hFE⟩
   ·have eC : own_fgC [(p1, t1, l1), (p2, t2, l2)] (it - 10) f = f := by simp only [own_fgC, if_pos h1r]
    rw [eC]; exact a6
   ·have eS : own_fgS [(p1, t1, l1), (p2, t2, l2)] (it - 10) g = g := by simp only [own_fgS, if_pos h1r]
    rw [eS]; exact a7
  ·
   by_cases h2r : (it - 10) < t2
   ·
    obtain ⟨nn, o, h1, h2, h3, v, L, ho, ⟨a1, a2, a3, aE, a4, a5, a6, a7⟩, hFE⟩ := rmFG21 l Z a0 hw ws A it ec el qa q kec kel n f g p1 t1 l1 p2 t2 l2 h0 n0 Z0 S hib hi100 hgb b10 b11 b1n b1t b1l b20 b21 b2n b2t b2l h1r h2r p e ha hc hk' s m args below hf happ hP hK
    refine ⟨nn, o, h1, h2, h3, v, L, ho, ⟨a1, a2, a3, aE, a4, a5, ?_, ?_⟩, hFE⟩
    ·have eC : own_fgC [(p1, t1, l1), (p2, t2, l2)] (it - 10) f = (own_upd f p1.toNatClampNeg ((f p1.toNatClampNeg) - 1)) := by simp only [own_fgC, if_neg h1r, if_pos h2r]
     rw [eC]; exact a6
    ·have eS : own_fgS [(p1, t1, l1), (p2, t2, l2)] (it - 10) g = (own_upd g p1.toNatClampNeg ((g p1.toNatClampNeg) - l1)) := by simp only [own_fgS, if_neg h1r, if_pos h2r]
     rw [eS]; exact a7
   ·
    obtain ⟨nn, o, h1, h2, h3, v, L, ho, ⟨a1, a2, a3, aE, a4, a5, a6, a7⟩, hFE⟩ := rmFG22 l Z a0 hw ws A it ec el qa q kec kel n f g p1 t1 l1 p2 t2 l2 h0 n0 Z0 S hib hi100 hgb b10 b11 b1n b1t b1l b20 b21 b2n b2t b2l h1r h2r p e ha hc hk' s m args below hf happ hP hK
    refine ⟨nn, o, h1, h2, h3, v, L, ho, ⟨a1, a2, a3, aE, a4, a5, ?_, ?_⟩, hFE⟩
    ·have eC : own_fgC [(p1, t1, l1), (p2, t2, l2)] (it - 10) f = (own_upd (own_upd f p1.toNatClampNeg ((f p1.toNatClampNeg) - 1)) p2.toNatClampNeg (((own_upd f p1.toNatClampNeg ((f p1.toNatClampNeg) - 1)) p2.toNatClampNeg) - 1)) := by simp only [own_fgC, if_neg h1r, if_neg h2r]
     rw [eC]; exact a6
    ·have eS : own_fgS [(p1, t1, l1), (p2, t2, l2)] (it - 10) g = (own_upd (own_upd g p1.toNatClampNeg ((g p1.toNatClampNeg) - l1)) p2.toNatClampNeg (((own_upd g p1.toNatClampNeg ((g p1.toNatClampNeg) - l1)) p2.toNatClampNeg) - l2)) := by simp only [own_fgS, if_neg h1r, if_neg h2r]
     rw [eS]; exact a7
 | _ :: _ :: _ :: _, hl, _, _ => exact absurd hl (by simp)
theorem own_StE {Z : State} {h : Heap} {n0 : Nat} {A ec el qa q : Addr} {kec kel : ClassId} {n : Int32} {f g : Nat → Int64} {recs : List (Int32 × Int64 × Int64)} (S : own_St Z h n0 A ec el qa q kec kel n f g recs) : Exa Z h A sRA ∧ Fld Z h A sRA "executorCompleted" "[J" (.ref ec) ∧ Fld Z h A sRA "executorLatencySum" "[D" (.ref el) ∧ Arv Z h ec kec .long n (own_L f) (.long 0) ∧ Arv Z h el kel .double n (own_D g) (.double (FP.l2d 0)) := by
 match recs, S with
 | [], S => exact ⟨S.1, S.2.2.2.2.1, S.2.2.2.2.2.1, S.2.2.2.2.2.2.2.2.2.2.1, S.2.2.2.2.2.2.2.2.2.2.2.1⟩
 | [(p1, t1, l1)], S => exact ⟨S.1, S.2.2.2.2.1, S.2.2.2.2.2.1, S.2.2.2.2.2.2.2.2.2.2.1, S.2.2.2.2.2.2.2.2.2.2.2.1⟩
 | [(p1, t1, l1), (p2, t2, l2)], S => exact ⟨S.1, S.2.2.2.2.1, S.2.2.2.2.2.1, S.2.2.2.2.2.2.2.2.2.2.1, S.2.2.2.2.2.2.2.2.2.2.2.1⟩
 | _ :: _ :: _ :: _, S => exact S.elim
theorem own_g4 {g : Int32} (h : g = 0 ∨ g = 1 ∨ g = 2 ∨ g = 3) : g = 0 ∨ (¬ g = 0 ∧ g = 1) ∨ (¬ g = 0 ∧ ¬ g = 1 ∧ g = 2) ∨ (¬ g = 0 ∧ ¬ g = 1 ∧ ¬ g = 2) := by
 rcases h with rfl | rfl | rfl | rfl <;> decide
theorem own_Bz {K : Int} (h : 0 ≤ K := by decide) : own_B K 0 := by
 have e : (0 : Int64).toInt = 0 := by decide
 unfold own_B; rw [e]; omega
theorem own_ltge {a b c : Int32} (h : a < b) (h2 : ¬ c < b) : a < c := by rw [Int32.lt_iff_toInt_lt] at *; omega
theorem own_ge0 {a b : Int32} (h : ¬ a < 16) (h2 : ¬ b < a) : ¬ b < 0 := fun q => by
 have e : (16 : Int32).toInt = 16 := by decide
 have e0 : (0 : Int32).toInt = 0 := by decide
 rw [Int32.lt_iff_toInt_lt] at *; omega
theorem own_G2 {G1 G2 : Nat → Int64} {i j : Nat} {a b : Int64} (h1 : G1 = own_upd (fun _ => 0) i (((fun _ => 0 : Nat → Int64) i) + a)) (h2 : G2 = own_upd G1 j ((G1 j) + b)) (ha : own_B 2147483648 a) (hb : own_B 2147483648 b) : ∀ k, own_B 4294967296 (G2 k) := by
 have g1 : ∀ k, own_B 2147483648 (G1 k) := by rw [h1]; exact own_updB (fun _ => own_Bz) (own_Bm (own_addB (A := 0) own_Bz ha (by decide)) (by decide))
 rw [h2]
 exact own_updB (fun k => own_Bm (g1 k) (by decide)) (own_Bm (own_addB (g1 j) hb (by decide)) (by decide))
theorem own_R2 {R1 R2 : List (Int32 × Int64 × Int64)} {p1 p2 : Int32} {t1 t2 l1 l2 : Int64} {P : Int32 × Int64 × Int64 → Prop} (h1 : R1 = if 90 < t1 then [] else [] ++ [(p1, t1, l1)]) (h2 : R2 = if 90 < t2 then R1 else R1 ++ [(p2, t2, l2)]) (a1 : P (p1, t1, l1)) (a2 : P (p2, t2, l2)) : ∀ r ∈ R2, P r := by
 have b1 : ∀ r ∈ R1, P r := by
  rw [h1]; split
  ·intro r hr; cases hr
  ·intro r hr; simp at hr; rw [hr]; exact a1
 rw [h2]; split
 ·exact b1
 ·intro r hr
  rcases List.mem_append.mp hr with hr | hr
  ·exact b1 r hr
  ·simp at hr; rw [hr]; exact a2
theorem own_three (A B : Prop) : ¬ A ∨ (A ∧ ¬ B) ∨ (A ∧ B) := by
 by_cases A <;> by_cases B <;> simp_all
theorem own_gne {x : Int32} (h : x = 1) : ¬ x = 0 := by rw [h]; decide
theorem own_fgz {f1 : Nat → Int64} {R1 R2 : List (Int32 × Int64 × Int64)} {p1 p2 n : Int32} {t1 t2 l1 l2 o : Int64} (hz : ∀ i, n.toNatClampNeg ≤ i → f1 i = 0) (h1 : R1 = if 90 < t1 then [] else [] ++ [(p1, t1, l1)]) (h2 : R2 = if 90 < t2 then R1 else R1 ++ [(p2, t2, l2)]) (a1 : p1 < n) (a2 : p2 < n) (b1 : ¬ p1 < 0) (b2 : ¬ p2 < 0) : ∀ i, n.toNatClampNeg ≤ i → own_fgC R2 o f1 i = 0 := by
 have key : ∀ (R : List (Int32 × Int64 × Int64)) (f : Nat → Int64), (∀ r ∈ R, r.1.toNatClampNeg < n.toNatClampNeg) → (∀ i, n.toNatClampNeg ≤ i → f i = 0) → ∀ i, n.toNatClampNeg ≤ i → own_fgC R o f i = 0 := by
  intro R
  induction R with
  | nil => intro f _ hf i hi; exact hf i hi
  | cons r rs ih =>
   obtain ⟨p, t, l⟩ := r
   intro f hr hf i hi
   unfold own_fgC
   split
   ·exact hf i hi
   ·exact ih _ (fun r hr' => hr r (List.mem_cons_of_mem _ hr')) (own_updz hf (hr (p, t, l) (List.mem_cons_self ..)) (Nat.le_refl _)) i hi
 exact key R2 f1 (own_R2 (P := fun r => r.1.toNatClampNeg < n.toNatClampNeg) h1 h2 (own_ltnat b1 a1) (own_ltnat b2 a2)) hz
theorem own_asc (a b : Int64) : a + b - a = b := by rw [Int64.add_comm]; exact Int64.add_sub_cancel ..
theorem own_asc2 (b : Int64) : b - b = 0 := Int64.sub_self ..
theorem own_fin0 {F1 F2 G1 G2 : Nat → Int64} {pl1 pl2 ask ol t1v t2v la1 la2 gv : Int32} {c1v c2v s1v s2v : Int64}
  (hF1 : F1 = (own_upd (fun _ => 0) pl1.toNatClampNeg (((fun _ => 0 : Nat → Int64) pl1.toNatClampNeg) + (1 : Int64)))) (hF2 : F2 = (own_upd F1 pl2.toNatClampNeg ((F1 pl2.toNatClampNeg) + (1 : Int64))))
  (hG1 : G1 = (own_upd (fun _ => 0) pl1.toNatClampNeg (((fun _ => 0 : Nat → Int64) pl1.toNatClampNeg) + (la1.toInt64)))) (hG2 : G2 = (own_upd G1 pl2.toNatClampNeg ((G1 pl2.toNatClampNeg) + (la2.toInt64))))
  (hb1 : ¬ pl1 < 0 ∧ ¬ (63 : Int32) < pl1) (hb2 : ¬ pl2 < 0 ∧ ¬ (63 : Int32) < pl2) (hb3 : ¬ ask < 0 ∧ ¬ (63 : Int32) < ask)
  (htt : (t1v = 50 ∧ t2v = 50) ∨ (t1v = 50 ∧ t2v = 65) ∨ (t1v = 50 ∧ t2v = 95) ∨ (t1v = 65 ∧ t2v = 65) ∨ (t1v = 65 ∧ t2v = 95) ∨ (t1v = 95 ∧ t2v = 95)) (hol : ol = own_old gv) (hg0 : gv = 0)
  (hcs1 : c1v = own_c pl1 ask ol t1v (0 : Int64) ∧ s1v = own_s pl1 ask ol t1v la1 (0 : Int64)) (hcs2 : c2v = own_c pl2 ask ol t2v c1v ∧ s2v = own_s pl2 ask ol t2v la2 s1v) :
  (F2 ask.toNatClampNeg) = c2v ∧ (G2 ask.toNatClampNeg) = s2v := by
 obtain ⟨h1, h2⟩ := hcs1
 obtain ⟨h3, h4⟩ := hcs2
 subst h3 h4 h1 h2 hF2 hG2 hF1 hG1 hol hg0
 have l1 : own_old 0 < t1v ∧ own_old 0 < t2v := by rcases htt with ⟨rfl, rfl⟩ | ⟨rfl, rfl⟩ | ⟨rfl, rfl⟩ | ⟨rfl, rfl⟩ | ⟨rfl, rfl⟩ | ⟨rfl, rfl⟩ <;> decide
 have i1 := own_nat_inj hb3.1 hb1.1
 have i2 := own_nat_inj hb3.1 hb2.1
 by_cases q1 : ask = pl1 <;> by_cases q2 : ask = pl2
 ·subst q1; subst q2
  simp only [own_upd, own_c, own_s, l1, and_self, if_true, ite_true, and_true]
 ·subst q1
  have n2 : ¬ ask.toNatClampNeg = pl2.toNatClampNeg := fun z => q2 (i2.mp z)
  simp only [own_upd, own_c, own_s, l1, n2, Ne.symm q2, false_and, and_self, if_true, if_false, and_true]
 ·subst q2
  have n2 : ¬ ask.toNatClampNeg = pl1.toNatClampNeg := fun z => q1 (i1.mp z)
  simp only [own_upd, own_c, own_s, l1, n2, Ne.symm q1, false_and, and_self, if_true, if_false, and_true]
 ·have n1 : ¬ ask.toNatClampNeg = pl1.toNatClampNeg := fun z => q1 (i1.mp z)
  have n2 : ¬ ask.toNatClampNeg = pl2.toNatClampNeg := fun z => q2 (i2.mp z)
  simp only [own_upd, own_c, own_s, l1, n1, n2, Ne.symm q1, Ne.symm q2, false_and, and_self, if_true, if_false, and_true]
theorem own_fin1 {F1 F2 G1 G2 : Nat → Int64} {pl1 pl2 ask ol t1v t2v la1 la2 gv : Int32} {c1v c2v s1v s2v : Int64} {R1 R2 : List (Int32 × Int64 × Int64)}
  (hF1 : F1 = (own_upd (fun _ => 0) pl1.toNatClampNeg (((fun _ => 0 : Nat → Int64) pl1.toNatClampNeg) + (1 : Int64)))) (hF2 : F2 = (own_upd F1 pl2.toNatClampNeg ((F1 pl2.toNatClampNeg) + (1 : Int64))))
  (hG1 : G1 = (own_upd (fun _ => 0) pl1.toNatClampNeg (((fun _ => 0 : Nat → Int64) pl1.toNatClampNeg) + (la1.toInt64)))) (hG2 : G2 = (own_upd G1 pl2.toNatClampNeg ((G1 pl2.toNatClampNeg) + (la2.toInt64))))
  (hb1 : ¬ pl1 < 0 ∧ ¬ (63 : Int32) < pl1) (hb2 : ¬ pl2 < 0 ∧ ¬ (63 : Int32) < pl2) (hb3 : ¬ ask < 0 ∧ ¬ (63 : Int32) < ask) (hR1 : R1 = if 90 < t1v.toInt64 then [] else [] ++ [(pl1, t1v.toInt64, la1.toInt64)]) (hR2 : R2 = if 90 < t2v.toInt64 then R1 else R1 ++ [(pl2, t2v.toInt64, la2.toInt64)])
  (htt : (t1v = 50 ∧ t2v = 50) ∨ (t1v = 50 ∧ t2v = 65) ∨ (t1v = 50 ∧ t2v = 95) ∨ (t1v = 65 ∧ t2v = 65) ∨ (t1v = 65 ∧ t2v = 95) ∨ (t1v = 95 ∧ t2v = 95)) (hol : ol = own_old gv) (hg4 : gv = 0 ∨ gv = 1 ∨ gv = 2 ∨ gv = 3) (hg0 : ¬ gv = 0)
  (hcs1 : c1v = own_c pl1 ask ol t1v (0 : Int64) ∧ s1v = own_s pl1 ask ol t1v la1 (0 : Int64)) (hcs2 : c2v = own_c pl2 ask ol t2v c1v ∧ s2v = own_s pl2 ask ol t2v la2 s1v) :
  ((own_fgC R2 (((ol + (10 : Int32)).toInt64) - 10) F2) ask.toNatClampNeg) = c2v ∧ ((own_fgS R2 (((ol + (10 : Int32)).toInt64) - 10) G2) ask.toNatClampNeg) = s2v := by
 obtain ⟨h1, h2⟩ := hcs1
 obtain ⟨h3, h4⟩ := hcs2
 subst h3 h4 h1 h2 hF2 hG2 hF1 hG1 hR2 hR1
 have i1 := own_nat_inj hb3.1 hb1.1
 have i2 := own_nat_inj hb3.1 hb2.1
 have i3 := own_nat_inj hb2.1 hb1.1
 have ho : ol = 45 ∨ ol = 60 ∨ ol = 75 := by rcases hg4 with rfl | rfl | rfl | rfl <;> first | exact absurd rfl hg0 | (subst hol; decide)
 have e1 : ((50 : Int32)).toInt64 = 50 := by decide
 have e2 : ((65 : Int32)).toInt64 = 65 := by decide
 have e3 : ((95 : Int32)).toInt64 = 95 := by decide
 have o1 : (((45 : Int32) + (10 : Int32)).toInt64 - 10) = 45 := by decide
 have o2 : (((60 : Int32) + (10 : Int32)).toInt64 - 10) = 60 := by decide
 have o3 : (((75 : Int32) + (10 : Int32)).toInt64 - 10) = 75 := by decide
 have c1 : ¬ (90 : Int64) < 50 := by decide
 have c2 : ¬ (90 : Int64) < 65 := by decide
 have c3 : (90 : Int64) < 95 := by decide
 have d1 : (45 : Int64) < 50 := by decide
 have d2 : (45 : Int64) < 65 := by decide
 have d3 : ¬ (60 : Int64) < 50 := by decide
 have d4 : (60 : Int64) < 65 := by decide
 have d5 : ¬ (75 : Int64) < 50 := by decide
 have d6 : ¬ (75 : Int64) < 65 := by decide
 have f1 : (45 : Int32) < 50 := by decide
 have f2 : (45 : Int32) < 65 := by decide
 have f3 : ¬ (60 : Int32) < 50 := by decide
 have f4 : (60 : Int32) < 65 := by decide
 have f5 : ¬ (75 : Int32) < 50 := by decide
 have f6 : ¬ (75 : Int32) < 65 := by decide
 have f7 : (45 : Int32) < 95 := by decide
 have f8 : (60 : Int32) < 95 := by decide
 have f9 : (75 : Int32) < 95 := by decide
 clear hol hg4 hg0
 by_cases q1 : ask = pl1 <;> by_cases q2 : ask = pl2
 ·subst q1; subst q2
  rcases htt with ⟨rfl, rfl⟩ | ⟨rfl, rfl⟩ | ⟨rfl, rfl⟩ | ⟨rfl, rfl⟩ | ⟨rfl, rfl⟩ | ⟨rfl, rfl⟩ <;> rcases ho with rfl | rfl | rfl <;>
   simp only [own_upd, own_c, own_s, own_fgC, own_fgS, e1, e2, e3, o1, o2, o3, c1, c2, c3, d1, d2, d3, d4, d5, d6, f1, f2, f3, f4, f5, f6, f7, f8, f9, List.nil_append, List.cons_append, and_self, and_true, and_false, if_true, if_false, Int64.zero_add, Int64.add_sub_cancel, own_asc, own_asc2]
 ·subst q1
  have n2 : ¬ ask.toNatClampNeg = pl2.toNatClampNeg := fun z => q2 (i2.mp z)
  rcases htt with ⟨rfl, rfl⟩ | ⟨rfl, rfl⟩ | ⟨rfl, rfl⟩ | ⟨rfl, rfl⟩ | ⟨rfl, rfl⟩ | ⟨rfl, rfl⟩ <;> rcases ho with rfl | rfl | rfl <;>
   simp only [own_upd, own_c, own_s, own_fgC, own_fgS, e1, e2, e3, o1, o2, o3, c1, c2, c3, d1, d2, d3, d4, d5, d6, f1, f2, f3, f4, f5, f6, f7, f8, f9, n2, Ne.symm q2, List.nil_append, List.cons_append, and_self, and_true, and_false, false_and, if_true, if_false, Int64.zero_add, Int64.add_sub_cancel, own_asc, own_asc2]
 ·subst q2
  have n1 : ¬ ask.toNatClampNeg = pl1.toNatClampNeg := fun z => q1 (i1.mp z)
  rcases htt with ⟨rfl, rfl⟩ | ⟨rfl, rfl⟩ | ⟨rfl, rfl⟩ | ⟨rfl, rfl⟩ | ⟨rfl, rfl⟩ | ⟨rfl, rfl⟩ <;> rcases ho with rfl | rfl | rfl <;>
   simp only [own_upd, own_c, own_s, own_fgC, own_fgS, e1, e2, e3, o1, o2, o3, c1, c2, c3, d1, d2, d3, d4, d5, d6, f1, f2, f3, f4, f5, f6, f7, f8, f9, n1, Ne.symm q1, List.nil_append, List.cons_append, and_self, and_true, and_false, false_and, if_true, if_false, Int64.zero_add, Int64.add_sub_cancel, own_asc, own_asc2]
 ·have n1 : ¬ ask.toNatClampNeg = pl1.toNatClampNeg := fun z => q1 (i1.mp z)
  have n2 : ¬ ask.toNatClampNeg = pl2.toNatClampNeg := fun z => q2 (i2.mp z)
  rcases htt with ⟨rfl, rfl⟩ | ⟨rfl, rfl⟩ | ⟨rfl, rfl⟩ | ⟨rfl, rfl⟩ | ⟨rfl, rfl⟩ | ⟨rfl, rfl⟩ <;> rcases ho with rfl | rfl | rfl <;>
   simp only [own_upd, own_c, own_s, own_fgC, own_fgS, e1, e2, e3, o1, o2, o3, c1, c2, c3, d1, d2, d3, d4, d5, d6, f1, f2, f3, f4, f5, f6, f7, f8, f9, n1, n2, Ne.symm q1, Ne.symm q2, List.nil_append, List.cons_append, and_self, and_true, and_false, false_and, if_true, if_false, Int64.zero_add, Int64.add_sub_cancel, own_asc, own_asc2]
theorem pd_13 : parseMethodDescriptor "(IDD)V" = some ⟨[.int, .double, .double], none⟩ := by decide +kernel
theorem pd_14 : parseMethodDescriptor "(D)V" = some ⟨[.double], none⟩ := by decide +kernel
theorem ef_0 (m : MethodId) (x0 : Int32) (x1 : Int32) (x2 : Int32) (x3 : Int32) (x4 : Int32) (x5 : Int32) : entryFrame m #[(.int x0), (.int x1), (.int x2), (.int x3), (.int x4), (.int x5)] maxLocals = mkF m 0 #[.val (.int x0), .val (.int x1), .val (.int x2), .val (.int x3), .val (.int x4), .val (.int x5), .unset, .unset, .unset, .unset, .unset, .unset, .unset, .unset, .unset, .unset, .unset, .unset, .unset, .unset, .unset, .unset, .unset, .unset, .unset, .unset, .unset, .unset] [] := by first | (simp [entryFrame, mkF, argsToLocals, Value.category, maxLocals]; done) | rfl
def Q0 (Z : State) (ap : Int32) (aq1 : Int32) (aq2 : Int32) (al1 : Int32) (al2 : Int32) (fl : Int32) (h0 : Heap) (n0 : Nat) (v : Option Value) (h : Heap) (L : List Loc) : Prop := v = some (.int 1) ∧ Fr n0 L
set_option maxRecDepth 65536 in
set_option maxHeartbeats 40000000 in
theorem rm0 (l : Launch) (Z : State) (a0 : Array Value) (hw : HW Z a0) (ws : List Jvm.Cond) (ap : Int32) (aq1 : Int32) (aq2 : Int32) (al1 : Int32) (al2 : Int32) (fl : Int32) (h0 : Heap) (n0 : Nat) (Z0 : n0 ≤ h0.size) :
  MetFree l x (head1 (Jvm.Cond.code x code maxLocals ret :: ws) room_1) (fun a U => a = #[(.int ap), (.int aq1), (.int aq2), (.int al1), (.int al2), (.int fl)] ∧ Z.Warmed39 U.vm ∧ U.heap = h0) (fun _ _ _ _ _ => True) (fun _ U o U' => ∃ v L, o = .returned v ∧ Q0 Z ap aq1 aq2 al1 al2 fl h0 n0 v U'.heap L ∧ FrameEnd U o U' L 26 719) := by
 refine MetFree.of_bodySF (plainFor_of_name pn_com_example_frugal_weir_frugalweir_replay_RecentActivityExecutorLatencyPinLaw) hisR ?_
 intro p e s m args below meth c s₁ Bd hml0 hP hK
 obtain ⟨rfl, hZ, hh⟩ := hP
 have hx := Bd.exec
 have hby := Bd.bytes
 have hml : c.maxLocals = 28 := hml0
 have hown : s.vm.findClass "com/example/frugal_weir/frugalweir/replay/RecentActivityExecutorLatencyPinLaw" = some m.cls := findClass_of_methodNamed Bd.named
 have hnm := (name_of_methodNamed Bd.named Bd.method).1
 have X0 : Stand p l e room_1 s m #[(.int ap), (.int aq1), (.int aq2), (.int al1), (.int al2), (.int fl)] below meth c s₁ [] 0 0 := Stand.of_body Bd
 have e0 : s₁.heap = h0 := by rw [← hh, Bd.state]; rfl
 have N0 := Fr.nil n0
 have K0 : Keep h0 h0 [] := Keep.refl h0 []
 have pre0 : ∀ t, Steps p.tables e below (s₁.setTop (mkF m 0 #[.val (.int ap), .val (.int aq1), .val (.int aq2), .val (.int al1), .val (.int al2), .val (.int fl), .unset, .unset, .unset, .unset, .unset, .unset, .unset, .unset, .unset, .unset, .unset, .unset, .unset, .unset, .unset, .unset, .unset, .unset, .unset, .unset, .unset, .unset] [])) t → Steps p.tables e below (s₁.setTop (entryFrame m #[(.int ap), (.int aq1), (.int aq2), (.int al1), (.int al2), (.int fl)] maxLocals)) t := fun t k => castTop (ef_0 m ap aq1 aq2 al1 al2 fl) k
 obtain ⟨pl1, hpl1⟩ : ∃ z, aq1 &&& (63 : Int32) = z := ⟨_, rfl⟩
 have hb1 := own_63 aq1
 rw [hpl1] at hb1
 obtain ⟨la1, hla1⟩ : ∃ z, al1 &&& (2147483647 : Int32) = z := ⟨_, rfl⟩
 have hlb1 := own_latB al1
 rw [hla1] at hlb1
 obtain ⟨la2, hla2⟩ : ∃ z, al2 &&& (2147483647 : Int32) = z := ⟨_, rfl⟩
 have hlb2 := own_latB al2
 rw [hla2] at hlb2
 obtain ⟨a1v, ha1⟩ : ∃ z, ((fl &&& (3 : Int32)) % (3 : Int32)) = z := ⟨_, rfl⟩
 have hc1 := own_rem3 fl
 rw [ha1] at hc1
 obtain ⟨xv, hxv⟩ : ∃ z, (((fl >>> ((2 : Int32) &&& 31)) &&& (3 : Int32)) % (3 : Int32)) = z := ⟨_, rfl⟩
 have hc2 := own_rem3 (fl >>> ((2 : Int32) &&& 31))
 rw [hxv] at hc2
 have htt := own_tt hc1 hc2
 obtain ⟨t1v, ht1⟩ : ∃ z, own_inst a1v = z := ⟨_, rfl⟩
 have htb1 := own_instB a1v
 rw [ht1] at htb1
 obtain ⟨a2v, ha2⟩ : ∃ z, own_min (2 : Int32) (a1v + xv) = z := ⟨_, rfl⟩
 obtain ⟨t2v, ht2⟩ : ∃ z, own_inst a2v = z := ⟨_, rfl⟩
 have htb2 := own_instB a2v
 rw [ht2] at htb2
 rw [ht1, ha2, ht2] at htt
 obtain ⟨gv, hgv⟩ : ∃ z, ((fl >>> ((4 : Int32) &&& 31)) &&& (3 : Int32)) = z := ⟨_, rfl⟩
 have hg4 := own_and3 (fl >>> ((4 : Int32) &&& 31))
 rw [hgv] at hg4
 have R2279 : ∀ t, Steps p.tables e below (s₁.setTop (mkF m 13 #[.val (.int ap), .val (.int aq1), .val (.int aq2), .val (.int al1), .val (.int al2), .val (.int fl), .val (.int pl1), .unset, .unset, .unset, .unset, .unset, .unset, .unset, .unset, .unset, .unset, .unset, .unset, .unset, .unset, .unset, .unset, .unset, .unset, .unset, .unset, .unset] [(.int ((fl >>> ((6 : Int32) &&& 31)) &&& (1 : Int32)))])) t → Steps p.tables e below (s₁.setTop (entryFrame m #[(.int ap), (.int aq1), (.int aq2), (.int al1), (.int al2), (.int fl)] maxLocals)) t := by
  intro t kt
  refine pre0 _ ?_
  show Steps _ _ _ (s₁.setTop (mkF m 0 #[.val (.int ap), .val (.int aq1), .val (.int aq2), .val (.int al1), .val (.int al2), .val (.int fl), .unset, .unset, .unset, .unset, .unset, .unset, .unset, .unset, .unset, .unset, .unset, .unset, .unset, .unset, .unset, .unset, .unset, .unset, .unset, .unset, .unset, .unset] [])) _
  refine XS.iloadN X0.here hx rfl (hb hby at_0) rfl ?_
  refine XS.bipush X0.here hx rfl (hb hby at_1) ?_
  refine XS.iand X0.here hx rfl (hb hby at_3) rfl ?_
  show Steps _ _ _ (s₁.setTop (mkF m 4 #[.val (.int ap), .val (.int aq1), .val (.int aq2), .val (.int al1), .val (.int al2), .val (.int fl), .unset, .unset, .unset, .unset, .unset, .unset, .unset, .unset, .unset, .unset, .unset, .unset, .unset, .unset, .unset, .unset, .unset, .unset, .unset, .unset, .unset, .unset] [(.int (aq1 &&& (63 : Int32)))])) _
  rw [hpl1]
  refine XS.istore X0.here hx rfl (hb hby at_4) rfl (l' := #[.val (.int ap), .val (.int aq1), .val (.int aq2), .val (.int al1), .val (.int al2), .val (.int fl), .val (.int pl1), .unset, .unset, .unset, .unset, .unset, .unset, .unset, .unset, .unset, .unset, .unset, .unset, .unset, .unset, .unset, .unset, .unset, .unset, .unset, .unset, .unset]) rfl ?_
  show Steps _ _ _ (s₁.setTop (mkF m 6 #[.val (.int ap), .val (.int aq1), .val (.int aq2), .val (.int al1), .val (.int al2), .val (.int fl), .val (.int pl1), .unset, .unset, .unset, .unset, .unset, .unset, .unset, .unset, .unset, .unset, .unset, .unset, .unset, .unset, .unset, .unset, .unset, .unset, .unset, .unset, .unset] [])) _
  refine XS.iload X0.here hx rfl (hb hby at_6) rfl ?_
  refine XS.bipush X0.here hx rfl (hb hby at_8) ?_
  refine XS.ishr X0.here hx rfl (hb hby at_10) rfl ?_
  refine XS.iconst X0.here hx rfl (hb hby at_11) ?_
  show Steps _ _ _ (s₁.setTop (mkF m 12 #[.val (.int ap), .val (.int aq1), .val (.int aq2), .val (.int al1), .val (.int al2), .val (.int fl), .val (.int pl1), .unset, .unset, .unset, .unset, .unset, .unset, .unset, .unset, .unset, .unset, .unset, .unset, .unset, .unset, .unset, .unset, .unset, .unset, .unset, .unset, .unset] [(.int (1 : Int32)), (.int (fl >>> ((6 : Int32) &&& 31)))])) _
  refine XS.iand X0.here hx rfl (hb hby at_12) rfl ?_
  show Steps _ _ _ (s₁.setTop (mkF m 13 #[.val (.int ap), .val (.int aq1), .val (.int aq2), .val (.int al1), .val (.int al2), .val (.int fl), .val (.int pl1), .unset, .unset, .unset, .unset, .unset, .unset, .unset, .unset, .unset, .unset, .unset, .unset, .unset, .unset, .unset, .unset, .unset, .unset, .unset, .unset, .unset] [(.int ((fl >>> ((6 : Int32) &&& 31)) &&& (1 : Int32)))])) _
  exact kt
 obtain ⟨pl2, hp2280, R2280⟩ : ∃ (pl2 : Int32), (¬ pl2 < 0 ∧ ¬ (63 : Int32) < pl2) ∧ ∀ t, Steps p.tables e below (s₁.setTop (mkF m 27 #[.val (.int ap), .val (.int aq1), .val (.int aq2), .val (.int al1), .val (.int al2), .val (.int fl), .val (.int pl1), .val (.int pl2), .unset, .unset, .unset, .unset, .unset, .unset, .unset, .unset, .unset, .unset, .unset, .unset, .unset, .unset, .unset, .unset, .unset, .unset, .unset, .unset] [])) t → Steps p.tables e below (s₁.setTop (entryFrame m #[(.int ap), (.int aq1), (.int aq2), (.int al1), (.int al2), (.int fl)] maxLocals)) t := by
  by_cases hq : (fl >>> ((6 : Int32) &&& 31)) &&& (1 : Int32) = 0
  ·refine ⟨(aq2 &&& (63 : Int32)), (own_63 _), fun t kt => ?_⟩
   refine R2279 _ ?_
   show Steps _ _ _ (s₁.setTop (mkF m 13 #[.val (.int ap), .val (.int aq1), .val (.int aq2), .val (.int al1), .val (.int al2), .val (.int fl), .val (.int pl1), .unset, .unset, .unset, .unset, .unset, .unset, .unset, .unset, .unset, .unset, .unset, .unset, .unset, .unset, .unset, .unset, .unset, .unset, .unset, .unset, .unset] [(.int ((fl >>> ((6 : Int32) &&& 31)) &&& (1 : Int32)))])) _
   refine XS.ifYes X0.here hx rfl (pc0 := 13) (pc' := 21) rfl (hb hby at_13) rfl ((if0 _ _).trans (teq hq).1) (by decide) (by decide) ?_
   refine XS.iloadN X0.here hx rfl (hb hby at_21) rfl ?_
   refine XS.bipush X0.here hx rfl (hb hby at_22) ?_
   refine XS.iand X0.here hx rfl (hb hby at_24) rfl ?_
   show Steps _ _ _ (s₁.setTop (mkF m 25 #[.val (.int ap), .val (.int aq1), .val (.int aq2), .val (.int al1), .val (.int al2), .val (.int fl), .val (.int pl1), .unset, .unset, .unset, .unset, .unset, .unset, .unset, .unset, .unset, .unset, .unset, .unset, .unset, .unset, .unset, .unset, .unset, .unset, .unset, .unset, .unset] [(.int (aq2 &&& (63 : Int32)))])) _
   refine XS.istore X0.here hx rfl (hb hby at_25) rfl (l' := #[.val (.int ap), .val (.int aq1), .val (.int aq2), .val (.int al1), .val (.int al2), .val (.int fl), .val (.int pl1), .val (.int (aq2 &&& (63 : Int32))), .unset, .unset, .unset, .unset, .unset, .unset, .unset, .unset, .unset, .unset, .unset, .unset, .unset, .unset, .unset, .unset, .unset, .unset, .unset, .unset]) rfl ?_
   exact kt
  ·refine ⟨pl1, hb1, fun t kt => ?_⟩
   refine R2279 _ ?_
   show Steps _ _ _ (s₁.setTop (mkF m 13 #[.val (.int ap), .val (.int aq1), .val (.int aq2), .val (.int al1), .val (.int al2), .val (.int fl), .val (.int pl1), .unset, .unset, .unset, .unset, .unset, .unset, .unset, .unset, .unset, .unset, .unset, .unset, .unset, .unset, .unset, .unset, .unset, .unset, .unset, .unset, .unset] [(.int ((fl >>> ((6 : Int32) &&& 31)) &&& (1 : Int32)))])) _
   refine XS.ifNo X0.here hx rfl (hb hby at_13) rfl ((if0 _ _).trans (feq hq).1) ?_
   refine XS.iload X0.here hx rfl (hb hby at_16) rfl ?_
   refine XS.goto X0.here hx rfl (pc0 := 18) (pc' := 25) rfl (hb hby at_18) (by decide) (by decide) ?_
   show Steps _ _ _ (s₁.setTop (mkF m 25 #[.val (.int ap), .val (.int aq1), .val (.int aq2), .val (.int al1), .val (.int al2), .val (.int fl), .val (.int pl1), .unset, .unset, .unset, .unset, .unset, .unset, .unset, .unset, .unset, .unset, .unset, .unset, .unset, .unset, .unset, .unset, .unset, .unset, .unset, .unset, .unset] [(.int pl1)])) _
   refine XS.istore X0.here hx rfl (hb hby at_25) rfl (l' := #[.val (.int ap), .val (.int aq1), .val (.int aq2), .val (.int al1), .val (.int al2), .val (.int fl), .val (.int pl1), .val (.int pl1), .unset, .unset, .unset, .unset, .unset, .unset, .unset, .unset, .unset, .unset, .unset, .unset, .unset, .unset, .unset, .unset, .unset, .unset, .unset, .unset]) rfl ?_
   exact kt
 have hb2 := hp2280
 have R2281 : ∀ t, Steps p.tables e below (s₁.setTop (mkF m 34 #[.val (.int ap), .val (.int aq1), .val (.int aq2), .val (.int al1), .val (.int al2), .val (.int fl), .val (.int pl1), .val (.int pl2), .unset, .unset, .unset, .unset, .unset, .unset, .unset, .unset, .unset, .unset, .unset, .unset, .unset, .unset, .unset, .unset, .unset, .unset, .unset, .unset] [(.int ((fl >>> ((7 : Int32) &&& 31)) &&& (1 : Int32)))])) t → Steps p.tables e below (s₁.setTop (entryFrame m #[(.int ap), (.int aq1), (.int aq2), (.int al1), (.int al2), (.int fl)] maxLocals)) t := by
  intro t kt
  refine R2280 _ ?_
  show Steps _ _ _ (s₁.setTop (mkF m 27 #[.val (.int ap), .val (.int aq1), .val (.int aq2), .val (.int al1), .val (.int al2), .val (.int fl), .val (.int pl1), .val (.int pl2), .unset, .unset, .unset, .unset, .unset, .unset, .unset, .unset, .unset, .unset, .unset, .unset, .unset, .unset, .unset, .unset, .unset, .unset, .unset, .unset] [])) _
  refine XS.iload X0.here hx rfl (hb hby at_27) rfl ?_
  refine XS.bipush X0.here hx rfl (hb hby at_29) ?_
  refine XS.ishr X0.here hx rfl (hb hby at_31) rfl ?_
  refine XS.iconst X0.here hx rfl (hb hby at_32) ?_
  show Steps _ _ _ (s₁.setTop (mkF m 33 #[.val (.int ap), .val (.int aq1), .val (.int aq2), .val (.int al1), .val (.int al2), .val (.int fl), .val (.int pl1), .val (.int pl2), .unset, .unset, .unset, .unset, .unset, .unset, .unset, .unset, .unset, .unset, .unset, .unset, .unset, .unset, .unset, .unset, .unset, .unset, .unset, .unset] [(.int (1 : Int32)), (.int (fl >>> ((7 : Int32) &&& 31)))])) _
  refine XS.iand X0.here hx rfl (hb hby at_33) rfl ?_
  show Steps _ _ _ (s₁.setTop (mkF m 34 #[.val (.int ap), .val (.int aq1), .val (.int aq2), .val (.int al1), .val (.int al2), .val (.int fl), .val (.int pl1), .val (.int pl2), .unset, .unset, .unset, .unset, .unset, .unset, .unset, .unset, .unset, .unset, .unset, .unset, .unset, .unset, .unset, .unset, .unset, .unset, .unset, .unset] [(.int ((fl >>> ((7 : Int32) &&& 31)) &&& (1 : Int32)))])) _
  exact kt
 obtain ⟨ask, hp2282, R2282⟩ : ∃ (ask : Int32), (¬ ask < 0 ∧ ¬ (63 : Int32) < ask) ∧ ∀ t, Steps p.tables e below (s₁.setTop (mkF m 48 #[.val (.int ap), .val (.int aq1), .val (.int aq2), .val (.int al1), .val (.int al2), .val (.int fl), .val (.int pl1), .val (.int pl2), .val (.int ask), .unset, .unset, .unset, .unset, .unset, .unset, .unset, .unset, .unset, .unset, .unset, .unset, .unset, .unset, .unset, .unset, .unset, .unset, .unset] [])) t → Steps p.tables e below (s₁.setTop (entryFrame m #[(.int ap), (.int aq1), (.int aq2), (.int al1), (.int al2), (.int fl)] maxLocals)) t := by
  by_cases hq : (fl >>> ((7 : Int32) &&& 31)) &&& (1 : Int32) = 0
  ·refine ⟨(ap &&& (63 : Int32)), (own_63 _), fun t kt => ?_⟩
   refine R2281 _ ?_
   show Steps _ _ _ (s₁.setTop (mkF m 34 #[.val (.int ap), .val (.int aq1), .val (.int aq2), .val (.int al1), .val (.int al2), .val (.int fl), .val (.int pl1), .val (.int pl2), .unset, .unset, .unset, .unset, .unset, .unset, .unset, .unset, .unset, .unset, .unset, .unset, .unset, .unset, .unset, .unset, .unset, .unset, .unset, .unset] [(.int ((fl >>> ((7 : Int32) &&& 31)) &&& (1 : Int32)))])) _
   refine XS.ifYes X0.here hx rfl (pc0 := 34) (pc' := 42) rfl (hb hby at_34) rfl ((if0 _ _).trans (teq hq).1) (by decide) (by decide) ?_
   refine XS.iloadN X0.here hx rfl (hb hby at_42) rfl ?_
   refine XS.bipush X0.here hx rfl (hb hby at_43) ?_
   refine XS.iand X0.here hx rfl (hb hby at_45) rfl ?_
   show Steps _ _ _ (s₁.setTop (mkF m 46 #[.val (.int ap), .val (.int aq1), .val (.int aq2), .val (.int al1), .val (.int al2), .val (.int fl), .val (.int pl1), .val (.int pl2), .unset, .unset, .unset, .unset, .unset, .unset, .unset, .unset, .unset, .unset, .unset, .unset, .unset, .unset, .unset, .unset, .unset, .unset, .unset, .unset] [(.int (ap &&& (63 : Int32)))])) _
   refine XS.istore X0.here hx rfl (hb hby at_46) rfl (l' := #[.val (.int ap), .val (.int aq1), .val (.int aq2), .val (.int al1), .val (.int al2), .val (.int fl), .val (.int pl1), .val (.int pl2), .val (.int (ap &&& (63 : Int32))), .unset, .unset, .unset, .unset, .unset, .unset, .unset, .unset, .unset, .unset, .unset, .unset, .unset, .unset, .unset, .unset, .unset, .unset, .unset]) rfl ?_
   exact kt
  ·refine ⟨pl2, hb2, fun t kt => ?_⟩
   refine R2281 _ ?_
   show Steps _ _ _ (s₁.setTop (mkF m 34 #[.val (.int ap), .val (.int aq1), .val (.int aq2), .val (.int al1), .val (.int al2), .val (.int fl), .val (.int pl1), .val (.int pl2), .unset, .unset, .unset, .unset, .unset, .unset, .unset, .unset, .unset, .unset, .unset, .unset, .unset, .unset, .unset, .unset, .unset, .unset, .unset, .unset] [(.int ((fl >>> ((7 : Int32) &&& 31)) &&& (1 : Int32)))])) _
   refine XS.ifNo X0.here hx rfl (hb hby at_34) rfl ((if0 _ _).trans (feq hq).1) ?_
   refine XS.iload X0.here hx rfl (hb hby at_37) rfl ?_
   refine XS.goto X0.here hx rfl (pc0 := 39) (pc' := 46) rfl (hb hby at_39) (by decide) (by decide) ?_
   show Steps _ _ _ (s₁.setTop (mkF m 46 #[.val (.int ap), .val (.int aq1), .val (.int aq2), .val (.int al1), .val (.int al2), .val (.int fl), .val (.int pl1), .val (.int pl2), .unset, .unset, .unset, .unset, .unset, .unset, .unset, .unset, .unset, .unset, .unset, .unset, .unset, .unset, .unset, .unset, .unset, .unset, .unset, .unset] [(.int pl2)])) _
   refine XS.istore X0.here hx rfl (hb hby at_46) rfl (l' := #[.val (.int ap), .val (.int aq1), .val (.int aq2), .val (.int al1), .val (.int al2), .val (.int fl), .val (.int pl1), .val (.int pl2), .val (.int pl2), .unset, .unset, .unset, .unset, .unset, .unset, .unset, .unset, .unset, .unset, .unset, .unset, .unset, .unset, .unset, .unset, .unset, .unset, .unset]) rfl ?_
   exact kt
 have hb3 := hp2282
 obtain ⟨_, _, ⟨T2283, L2283, k2283, n2283⟩, -, X2283, ⟨Lc2283, hQ2283, l2283, y2283, z2283⟩, st2283⟩ := Jvm.LawKit.callS X0 hx (y := (⟨"java/lang/Math", "min", "(II)I"⟩ : MethodName)) hown (mvT hZ (wd hw 1 rfl)) (mvT hZ (wd hw 2 rfl)) (mvT hZ (wd hw 3 rfl)) (mvT hZ (wd hw 4 rfl)) (by decide) (backOf (W := 0) (rmMN l Z a0 hw [] (2 : Int32) (a1v + xv) h0 n0 (Nat.le_trans Z0 K0.1) ) hZ (wd hw 4 rfl) (wd hw 3 rfl) (by decide) (by decide)) (g := (mkF m 81 #[.val (.int ap), .val (.int aq1), .val (.int aq2), .val (.int al1), .val (.int al2), .val (.int fl), .val (.int pl1), .val (.int pl2), .val (.int ask), .val (.int la1), .val (.int la2), .val (.int a1v), .unset, .unset, .unset, .unset, .unset, .unset, .unset, .unset, .unset, .unset, .unset, .unset, .unset, .unset, .unset, .unset] [(.int (a1v + xv)), (.int (2 : Int32))])) rfl (by rw [hml]; rfl) (argsL := [(.int (2 : Int32)), (.int (a1v + xv))]) (rest := []) (lenOf pd_4 rfl) rfl (by show 2 * 0 + _ ≤ _; exact Nat.le_of_eq rfl) (hb hby at_81) (fun _ _ => ⟨rfl, e0, (by decide : 0 + 0 ≤ _), (by decide : 0 + 0 ≤ _)⟩)
 dsimp only [Pt.U, Pt.locs, Pt.cells, Pt.slots] at X2283 l2283 y2283 z2283 st2283 hQ2283
 rw [l2283, y2283, z2283] at X2283
 obtain ⟨hv2283, Nq2283, eq2283⟩ := hQ2283
 rw [hv2283] at st2283
 have N2283 := Fr.app N0 Nq2283
 rw [ha2] at st2283
 obtain ⟨_, _, ⟨T2284, L2284, k2284, n2284⟩, -, X2284, ⟨Lc2284, hQ2284, l2284, y2284, z2284⟩, st2284⟩ := Jvm.LawKit.callS X2283 hx (y := (⟨"com/example/frugal_weir/frugalweir/replay/RecentActivityExecutorLatencyPinLaw", "instant", "(I)I"⟩ : MethodName)) hown (mvT hZ (wd hw 5 rfl)) (mvT hZ (wd hw 6 rfl)) (mvT hZ (wd hw 7 rfl)) (mvT hZ (wd hw 8 rfl)) (by decide) (backOf (W := 0) (rmINS l Z a0 hw [] a1v h0 n0 (Nat.le_trans Z0 K0.1) ) hZ (wd hw 8 rfl) (wd hw 7 rfl) (by decide) (by decide)) (g := (mkF m 96 #[.val (.int ap), .val (.int aq1), .val (.int aq2), .val (.int al1), .val (.int al2), .val (.int fl), .val (.int pl1), .val (.int pl2), .val (.int ask), .val (.int la1), .val (.int la2), .val (.int a1v), .val (.int a2v), .val (.int gv), .unset, .unset, .unset, .unset, .unset, .unset, .unset, .unset, .unset, .unset, .unset, .unset, .unset, .unset] [(.int a1v)])) rfl (by rw [hml]; rfl) (argsL := [(.int a1v)]) (rest := []) (lenOf pd_12 rfl) rfl (by show 2 * 0 + _ ≤ _; exact Nat.le_of_eq rfl) (hb hby at_96) (fun _ _ => ⟨rfl, eq2283, (by decide : 0 + 0 ≤ _), (by decide : 0 + 0 ≤ _)⟩)
 dsimp only [Pt.U, Pt.locs, Pt.cells, Pt.slots] at X2284 l2284 y2284 z2284 st2284 hQ2284
 rw [l2284, y2284, z2284] at X2284
 obtain ⟨hv2284, Nq2284, eq2284⟩ := hQ2284
 rw [hv2284] at st2284
 have N2284 := Fr.app N2283 Nq2284
 rw [ht1] at st2284
 obtain ⟨_, _, ⟨T2285, L2285, k2285, n2285⟩, -, X2285, ⟨Lc2285, hQ2285, l2285, y2285, z2285⟩, st2285⟩ := Jvm.LawKit.callS X2284 hx (y := (⟨"com/example/frugal_weir/frugalweir/replay/RecentActivityExecutorLatencyPinLaw", "instant", "(I)I"⟩ : MethodName)) hown (mvT hZ (wd hw 5 rfl)) (mvT hZ (wd hw 6 rfl)) (mvT hZ (wd hw 7 rfl)) (mvT hZ (wd hw 8 rfl)) (by decide) (backOf (W := 0) (rmINS l Z a0 hw [] a2v h0 n0 (Nat.le_trans Z0 K0.1) ) hZ (wd hw 8 rfl) (wd hw 7 rfl) (by decide) (by decide)) (g := (mkF m 103 #[.val (.int ap), .val (.int aq1), .val (.int aq2), .val (.int al1), .val (.int al2), .val (.int fl), .val (.int pl1), .val (.int pl2), .val (.int ask), .val (.int la1), .val (.int la2), .val (.int a1v), .val (.int a2v), .val (.int gv), .val (.int t1v), .unset, .unset, .unset, .unset, .unset, .unset, .unset, .unset, .unset, .unset, .unset, .unset, .unset] [(.int a2v)])) rfl (by rw [hml]; rfl) (argsL := [(.int a2v)]) (rest := []) (lenOf pd_12 rfl) rfl (by show 2 * 0 + _ ≤ _; exact Nat.le_of_eq rfl) (hb hby at_103) (fun _ _ => ⟨rfl, eq2284, (by decide : 0 + 0 ≤ _), (by decide : 0 + 0 ≤ _)⟩)
 dsimp only [Pt.U, Pt.locs, Pt.cells, Pt.slots] at X2285 l2285 y2285 z2285 st2285 hQ2285
 rw [l2285, y2285, z2285] at X2285
 obtain ⟨hv2285, Nq2285, eq2285⟩ := hQ2285
 rw [hv2285] at st2285
 have N2285 := Fr.app N2284 Nq2285
 rw [ht2] at st2285
 have R2286 : ∀ t, Steps p.tables e below (T2285.setTop (mkF m 110 #[.val (.int ap), .val (.int aq1), .val (.int aq2), .val (.int al1), .val (.int al2), .val (.int fl), .val (.int pl1), .val (.int pl2), .val (.int ask), .val (.int la1), .val (.int la2), .val (.int a1v), .val (.int a2v), .val (.int gv), .val (.int t1v), .val (.int t2v), .unset, .unset, .unset, .unset, .unset, .unset, .unset, .unset, .unset, .unset, .unset, .unset] [(.int gv)])) t → Steps p.tables e below (s₁.setTop (entryFrame m #[(.int ap), (.int aq1), (.int aq2), (.int al1), (.int al2), (.int fl)] maxLocals)) t := by
  intro t kt
  refine R2282 _ ?_
  show Steps _ _ _ (s₁.setTop (mkF m 48 #[.val (.int ap), .val (.int aq1), .val (.int aq2), .val (.int al1), .val (.int al2), .val (.int fl), .val (.int pl1), .val (.int pl2), .val (.int ask), .unset, .unset, .unset, .unset, .unset, .unset, .unset, .unset, .unset, .unset, .unset, .unset, .unset, .unset, .unset, .unset, .unset, .unset, .unset] [])) _
  refine XS.iloadN X0.here hx rfl (hb hby at_48) rfl ?_
  show Steps _ _ _ (s₁.setTop (mkF m 49 #[.val (.int ap), .val (.int aq1), .val (.int aq2), .val (.int al1), .val (.int al2), .val (.int fl), .val (.int pl1), .val (.int pl2), .val (.int ask), .unset, .unset, .unset, .unset, .unset, .unset, .unset, .unset, .unset, .unset, .unset, .unset, .unset, .unset, .unset, .unset, .unset, .unset, .unset] [(.int al1)])) _
  refine X0.ldcInt hx hown (mvT hZ (wd hw 0 rfl)) (g := (mkF m 49 #[.val (.int ap), .val (.int aq1), .val (.int aq2), .val (.int al1), .val (.int al2), .val (.int fl), .val (.int pl1), .val (.int pl2), .val (.int ask), .unset, .unset, .unset, .unset, .unset, .unset, .unset, .unset, .unset, .unset, .unset, .unset, .unset, .unset, .unset, .unset, .unset, .unset, .unset] [(.int al1)])) rfl (hb hby at_49) _ ?_
  refine XS.iand X0.here hx rfl (hb hby at_51) rfl ?_
  show Steps _ _ _ (s₁.setTop (mkF m 52 #[.val (.int ap), .val (.int aq1), .val (.int aq2), .val (.int al1), .val (.int al2), .val (.int fl), .val (.int pl1), .val (.int pl2), .val (.int ask), .unset, .unset, .unset, .unset, .unset, .unset, .unset, .unset, .unset, .unset, .unset, .unset, .unset, .unset, .unset, .unset, .unset, .unset, .unset] [(.int (al1 &&& (2147483647 : Int32)))])) _
  rw [hla1]
  refine XS.istore X0.here hx rfl (hb hby at_52) rfl (l' := #[.val (.int ap), .val (.int aq1), .val (.int aq2), .val (.int al1), .val (.int al2), .val (.int fl), .val (.int pl1), .val (.int pl2), .val (.int ask), .val (.int la1), .unset, .unset, .unset, .unset, .unset, .unset, .unset, .unset, .unset, .unset, .unset, .unset, .unset, .unset, .unset, .unset, .unset, .unset]) rfl ?_
  show Steps _ _ _ (s₁.setTop (mkF m 54 #[.val (.int ap), .val (.int aq1), .val (.int aq2), .val (.int al1), .val (.int al2), .val (.int fl), .val (.int pl1), .val (.int pl2), .val (.int ask), .val (.int la1), .unset, .unset, .unset, .unset, .unset, .unset, .unset, .unset, .unset, .unset, .unset, .unset, .unset, .unset, .unset, .unset, .unset, .unset] [])) _
  refine XS.iload X0.here hx rfl (hb hby at_54) rfl ?_
  show Steps _ _ _ (s₁.setTop (mkF m 56 #[.val (.int ap), .val (.int aq1), .val (.int aq2), .val (.int al1), .val (.int al2), .val (.int fl), .val (.int pl1), .val (.int pl2), .val (.int ask), .val (.int la1), .unset, .unset, .unset, .unset, .unset, .unset, .unset, .unset, .unset, .unset, .unset, .unset, .unset, .unset, .unset, .unset, .unset, .unset] [(.int al2)])) _
  refine X0.ldcInt hx hown (mvT hZ (wd hw 0 rfl)) (g := (mkF m 56 #[.val (.int ap), .val (.int aq1), .val (.int aq2), .val (.int al1), .val (.int al2), .val (.int fl), .val (.int pl1), .val (.int pl2), .val (.int ask), .val (.int la1), .unset, .unset, .unset, .unset, .unset, .unset, .unset, .unset, .unset, .unset, .unset, .unset, .unset, .unset, .unset, .unset, .unset, .unset] [(.int al2)])) rfl (hb hby at_56) _ ?_
  refine XS.iand X0.here hx rfl (hb hby at_58) rfl ?_
  show Steps _ _ _ (s₁.setTop (mkF m 59 #[.val (.int ap), .val (.int aq1), .val (.int aq2), .val (.int al1), .val (.int al2), .val (.int fl), .val (.int pl1), .val (.int pl2), .val (.int ask), .val (.int la1), .unset, .unset, .unset, .unset, .unset, .unset, .unset, .unset, .unset, .unset, .unset, .unset, .unset, .unset, .unset, .unset, .unset, .unset] [(.int (al2 &&& (2147483647 : Int32)))])) _
  rw [hla2]
  refine XS.istore X0.here hx rfl (hb hby at_59) rfl (l' := #[.val (.int ap), .val (.int aq1), .val (.int aq2), .val (.int al1), .val (.int al2), .val (.int fl), .val (.int pl1), .val (.int pl2), .val (.int ask), .val (.int la1), .val (.int la2), .unset, .unset, .unset, .unset, .unset, .unset, .unset, .unset, .unset, .unset, .unset, .unset, .unset, .unset, .unset, .unset, .unset]) rfl ?_
  show Steps _ _ _ (s₁.setTop (mkF m 61 #[.val (.int ap), .val (.int aq1), .val (.int aq2), .val (.int al1), .val (.int al2), .val (.int fl), .val (.int pl1), .val (.int pl2), .val (.int ask), .val (.int la1), .val (.int la2), .unset, .unset, .unset, .unset, .unset, .unset, .unset, .unset, .unset, .unset, .unset, .unset, .unset, .unset, .unset, .unset, .unset] [])) _
  refine XS.iload X0.here hx rfl (hb hby at_61) rfl ?_
  refine XS.iconst X0.here hx rfl (hb hby at_63) ?_
  refine XS.iand X0.here hx rfl (hb hby at_64) rfl ?_
  refine XS.iconst X0.here hx rfl (hb hby at_65) ?_
  show Steps _ _ _ (s₁.setTop (mkF m 66 #[.val (.int ap), .val (.int aq1), .val (.int aq2), .val (.int al1), .val (.int al2), .val (.int fl), .val (.int pl1), .val (.int pl2), .val (.int ask), .val (.int la1), .val (.int la2), .unset, .unset, .unset, .unset, .unset, .unset, .unset, .unset, .unset, .unset, .unset, .unset, .unset, .unset, .unset, .unset, .unset] [(.int (3 : Int32)), (.int (fl &&& (3 : Int32)))])) _
  refine iremM X0 hx rfl (hb hby at_66) rfl (by decide) ?_
  show Steps _ _ _ (s₁.setTop (mkF m 67 #[.val (.int ap), .val (.int aq1), .val (.int aq2), .val (.int al1), .val (.int al2), .val (.int fl), .val (.int pl1), .val (.int pl2), .val (.int ask), .val (.int la1), .val (.int la2), .unset, .unset, .unset, .unset, .unset, .unset, .unset, .unset, .unset, .unset, .unset, .unset, .unset, .unset, .unset, .unset, .unset] [(.int ((fl &&& (3 : Int32)) % (3 : Int32)))])) _
  rw [ha1]
  refine XS.istore X0.here hx rfl (hb hby at_67) rfl (l' := #[.val (.int ap), .val (.int aq1), .val (.int aq2), .val (.int al1), .val (.int al2), .val (.int fl), .val (.int pl1), .val (.int pl2), .val (.int ask), .val (.int la1), .val (.int la2), .val (.int a1v), .unset, .unset, .unset, .unset, .unset, .unset, .unset, .unset, .unset, .unset, .unset, .unset, .unset, .unset, .unset, .unset]) rfl ?_
  show Steps _ _ _ (s₁.setTop (mkF m 69 #[.val (.int ap), .val (.int aq1), .val (.int aq2), .val (.int al1), .val (.int al2), .val (.int fl), .val (.int pl1), .val (.int pl2), .val (.int ask), .val (.int la1), .val (.int la2), .val (.int a1v), .unset, .unset, .unset, .unset, .unset, .unset, .unset, .unset, .unset, .unset, .unset, .unset, .unset, .unset, .unset, .unset] [])) _
  refine XS.iconst X0.here hx rfl (hb hby at_69) ?_
  refine XS.iload X0.here hx rfl (hb hby at_70) rfl ?_
  refine XS.iload X0.here hx rfl (hb hby at_72) rfl ?_
  refine XS.iconst X0.here hx rfl (hb hby at_74) ?_
  show Steps _ _ _ (s₁.setTop (mkF m 75 #[.val (.int ap), .val (.int aq1), .val (.int aq2), .val (.int al1), .val (.int al2), .val (.int fl), .val (.int pl1), .val (.int pl2), .val (.int ask), .val (.int la1), .val (.int la2), .val (.int a1v), .unset, .unset, .unset, .unset, .unset, .unset, .unset, .unset, .unset, .unset, .unset, .unset, .unset, .unset, .unset, .unset] [(.int (2 : Int32)), (.int fl), (.int a1v), (.int (2 : Int32))])) _
  refine XS.ishr X0.here hx rfl (hb hby at_75) rfl ?_
  refine XS.iconst X0.here hx rfl (hb hby at_76) ?_
  refine XS.iand X0.here hx rfl (hb hby at_77) rfl ?_
  refine XS.iconst X0.here hx rfl (hb hby at_78) ?_
  show Steps _ _ _ (s₁.setTop (mkF m 79 #[.val (.int ap), .val (.int aq1), .val (.int aq2), .val (.int al1), .val (.int al2), .val (.int fl), .val (.int pl1), .val (.int pl2), .val (.int ask), .val (.int la1), .val (.int la2), .val (.int a1v), .unset, .unset, .unset, .unset, .unset, .unset, .unset, .unset, .unset, .unset, .unset, .unset, .unset, .unset, .unset, .unset] [(.int (3 : Int32)), (.int ((fl >>> ((2 : Int32) &&& 31)) &&& (3 : Int32))), (.int a1v), (.int (2 : Int32))])) _
  refine iremM X0 hx rfl (hb hby at_79) rfl (by decide) ?_
  show Steps _ _ _ (s₁.setTop (mkF m 80 #[.val (.int ap), .val (.int aq1), .val (.int aq2), .val (.int al1), .val (.int al2), .val (.int fl), .val (.int pl1), .val (.int pl2), .val (.int ask), .val (.int la1), .val (.int la2), .val (.int a1v), .unset, .unset, .unset, .unset, .unset, .unset, .unset, .unset, .unset, .unset, .unset, .unset, .unset, .unset, .unset, .unset] [(.int (((fl >>> ((2 : Int32) &&& 31)) &&& (3 : Int32)) % (3 : Int32))), (.int a1v), (.int (2 : Int32))])) _
  rw [hxv]
  refine XS.iadd X0.here hx rfl (hb hby at_80) rfl ?_
  refine st2283 _ ?_
  show Steps _ _ _ (T2283.setTop (mkF m 84 #[.val (.int ap), .val (.int aq1), .val (.int aq2), .val (.int al1), .val (.int al2), .val (.int fl), .val (.int pl1), .val (.int pl2), .val (.int ask), .val (.int la1), .val (.int la2), .val (.int a1v), .unset, .unset, .unset, .unset, .unset, .unset, .unset, .unset, .unset, .unset, .unset, .unset, .unset, .unset, .unset, .unset] [(.int a2v)])) _
  refine XS.istore X2283.here hx rfl (hb hby at_84) rfl (l' := #[.val (.int ap), .val (.int aq1), .val (.int aq2), .val (.int al1), .val (.int al2), .val (.int fl), .val (.int pl1), .val (.int pl2), .val (.int ask), .val (.int la1), .val (.int la2), .val (.int a1v), .val (.int a2v), .unset, .unset, .unset, .unset, .unset, .unset, .unset, .unset, .unset, .unset, .unset, .unset, .unset, .unset, .unset]) rfl ?_
  refine XS.iload X2283.here hx rfl (hb hby at_86) rfl ?_
  refine XS.iconst X2283.here hx rfl (hb hby at_88) ?_
  refine XS.ishr X2283.here hx rfl (hb hby at_89) rfl ?_
  show Steps _ _ _ (T2283.setTop (mkF m 90 #[.val (.int ap), .val (.int aq1), .val (.int aq2), .val (.int al1), .val (.int al2), .val (.int fl), .val (.int pl1), .val (.int pl2), .val (.int ask), .val (.int la1), .val (.int la2), .val (.int a1v), .val (.int a2v), .unset, .unset, .unset, .unset, .unset, .unset, .unset, .unset, .unset, .unset, .unset, .unset, .unset, .unset, .unset] [(.int (fl >>> ((4 : Int32) &&& 31)))])) _
  refine XS.iconst X2283.here hx rfl (hb hby at_90) ?_
  refine XS.iand X2283.here hx rfl (hb hby at_91) rfl ?_
  show Steps _ _ _ (T2283.setTop (mkF m 92 #[.val (.int ap), .val (.int aq1), .val (.int aq2), .val (.int al1), .val (.int al2), .val (.int fl), .val (.int pl1), .val (.int pl2), .val (.int ask), .val (.int la1), .val (.int la2), .val (.int a1v), .val (.int a2v), .unset, .unset, .unset, .unset, .unset, .unset, .unset, .unset, .unset, .unset, .unset, .unset, .unset, .unset, .unset] [(.int ((fl >>> ((4 : Int32) &&& 31)) &&& (3 : Int32)))])) _
  rw [hgv]
  refine XS.istore X2283.here hx rfl (hb hby at_92) rfl (l' := #[.val (.int ap), .val (.int aq1), .val (.int aq2), .val (.int al1), .val (.int al2), .val (.int fl), .val (.int pl1), .val (.int pl2), .val (.int ask), .val (.int la1), .val (.int la2), .val (.int a1v), .val (.int a2v), .val (.int gv), .unset, .unset, .unset, .unset, .unset, .unset, .unset, .unset, .unset, .unset, .unset, .unset, .unset, .unset]) rfl ?_
  show Steps _ _ _ (T2283.setTop (mkF m 94 #[.val (.int ap), .val (.int aq1), .val (.int aq2), .val (.int al1), .val (.int al2), .val (.int fl), .val (.int pl1), .val (.int pl2), .val (.int ask), .val (.int la1), .val (.int la2), .val (.int a1v), .val (.int a2v), .val (.int gv), .unset, .unset, .unset, .unset, .unset, .unset, .unset, .unset, .unset, .unset, .unset, .unset, .unset, .unset] [])) _
  refine XS.iload X2283.here hx rfl (hb hby at_94) rfl ?_
  refine st2284 _ ?_
  show Steps _ _ _ (T2284.setTop (mkF m 99 #[.val (.int ap), .val (.int aq1), .val (.int aq2), .val (.int al1), .val (.int al2), .val (.int fl), .val (.int pl1), .val (.int pl2), .val (.int ask), .val (.int la1), .val (.int la2), .val (.int a1v), .val (.int a2v), .val (.int gv), .unset, .unset, .unset, .unset, .unset, .unset, .unset, .unset, .unset, .unset, .unset, .unset, .unset, .unset] [(.int t1v)])) _
  refine XS.istore X2284.here hx rfl (hb hby at_99) rfl (l' := #[.val (.int ap), .val (.int aq1), .val (.int aq2), .val (.int al1), .val (.int al2), .val (.int fl), .val (.int pl1), .val (.int pl2), .val (.int ask), .val (.int la1), .val (.int la2), .val (.int a1v), .val (.int a2v), .val (.int gv), .val (.int t1v), .unset, .unset, .unset, .unset, .unset, .unset, .unset, .unset, .unset, .unset, .unset, .unset, .unset]) rfl ?_
  refine XS.iload X2284.here hx rfl (hb hby at_101) rfl ?_
  refine st2285 _ ?_
  show Steps _ _ _ (T2285.setTop (mkF m 106 #[.val (.int ap), .val (.int aq1), .val (.int aq2), .val (.int al1), .val (.int al2), .val (.int fl), .val (.int pl1), .val (.int pl2), .val (.int ask), .val (.int la1), .val (.int la2), .val (.int a1v), .val (.int a2v), .val (.int gv), .val (.int t1v), .unset, .unset, .unset, .unset, .unset, .unset, .unset, .unset, .unset, .unset, .unset, .unset, .unset] [(.int t2v)])) _
  refine XS.istore X2285.here hx rfl (hb hby at_106) rfl (l' := #[.val (.int ap), .val (.int aq1), .val (.int aq2), .val (.int al1), .val (.int al2), .val (.int fl), .val (.int pl1), .val (.int pl2), .val (.int ask), .val (.int la1), .val (.int la2), .val (.int a1v), .val (.int a2v), .val (.int gv), .val (.int t1v), .val (.int t2v), .unset, .unset, .unset, .unset, .unset, .unset, .unset, .unset, .unset, .unset, .unset, .unset]) rfl ?_
  refine XS.iload X2285.here hx rfl (hb hby at_108) rfl ?_
  show Steps _ _ _ (T2285.setTop (mkF m 110 #[.val (.int ap), .val (.int aq1), .val (.int aq2), .val (.int al1), .val (.int al2), .val (.int fl), .val (.int pl1), .val (.int pl2), .val (.int ask), .val (.int la1), .val (.int la2), .val (.int a1v), .val (.int a2v), .val (.int gv), .val (.int t1v), .val (.int t2v), .unset, .unset, .unset, .unset, .unset, .unset, .unset, .unset, .unset, .unset, .unset, .unset] [(.int gv)])) _
  exact kt
 obtain ⟨ol, hp2287, R2287⟩ : ∃ (ol : Int32), (ol = own_old gv) ∧ ∀ t, Steps p.tables e below (T2285.setTop (mkF m 145 #[.val (.int ap), .val (.int aq1), .val (.int aq2), .val (.int al1), .val (.int al2), .val (.int fl), .val (.int pl1), .val (.int pl2), .val (.int ask), .val (.int la1), .val (.int la2), .val (.int a1v), .val (.int a2v), .val (.int gv), .val (.int t1v), .val (.int t2v), .val (.int ol), .unset, .unset, .unset, .unset, .unset, .unset, .unset, .unset, .unset, .unset, .unset] [])) t → Steps p.tables e below (s₁.setTop (entryFrame m #[(.int ap), (.int aq1), (.int aq2), (.int al1), (.int al2), (.int fl)] maxLocals)) t := by
  rcases own_g4 hg4 with hq | ⟨hq, h1⟩ | ⟨hq, h1, h2⟩ | ⟨hq, h1, h2⟩
  ·refine ⟨(-1000 : Int32), (by rw [own_old, if_pos hq]), fun t kt => ?_⟩
   refine R2286 _ ?_
   show Steps _ _ _ (T2285.setTop (mkF m 110 #[.val (.int ap), .val (.int aq1), .val (.int aq2), .val (.int al1), .val (.int al2), .val (.int fl), .val (.int pl1), .val (.int pl2), .val (.int ask), .val (.int la1), .val (.int la2), .val (.int a1v), .val (.int a2v), .val (.int gv), .val (.int t1v), .val (.int t2v), .unset, .unset, .unset, .unset, .unset, .unset, .unset, .unset, .unset, .unset, .unset, .unset] [(.int gv)])) _
   refine XS.ifNo X2285.here hx rfl (hb hby at_110) rfl ((if0 _ _).trans (teq hq).2) ?_
   refine XS.sipush X2285.here hx rfl (hb hby at_113) ?_
   refine XS.goto X2285.here hx rfl (pc0 := 116) (pc' := 143) rfl (hb hby at_116) (by decide) (by decide) ?_
   refine XS.istore X2285.here hx rfl (hb hby at_143) rfl (l' := #[.val (.int ap), .val (.int aq1), .val (.int aq2), .val (.int al1), .val (.int al2), .val (.int fl), .val (.int pl1), .val (.int pl2), .val (.int ask), .val (.int la1), .val (.int la2), .val (.int a1v), .val (.int a2v), .val (.int gv), .val (.int t1v), .val (.int t2v), .val (.int (-1000 : Int32)), .unset, .unset, .unset, .unset, .unset, .unset, .unset, .unset, .unset, .unset, .unset]) rfl ?_
   exact kt
  ·refine ⟨(45 : Int32), (by rw [own_old, if_neg hq, if_pos h1]), fun t kt => ?_⟩
   refine R2286 _ ?_
   show Steps _ _ _ (T2285.setTop (mkF m 110 #[.val (.int ap), .val (.int aq1), .val (.int aq2), .val (.int al1), .val (.int al2), .val (.int fl), .val (.int pl1), .val (.int pl2), .val (.int ask), .val (.int la1), .val (.int la2), .val (.int a1v), .val (.int a2v), .val (.int gv), .val (.int t1v), .val (.int t2v), .unset, .unset, .unset, .unset, .unset, .unset, .unset, .unset, .unset, .unset, .unset, .unset] [(.int gv)])) _
   refine XS.ifYes X2285.here hx rfl (pc0 := 110) (pc' := 119) rfl (hb hby at_110) rfl ((if0 _ _).trans (feq hq).2) (by decide) (by decide) ?_
   refine XS.iload X2285.here hx rfl (hb hby at_119) rfl ?_
   refine XS.iconst X2285.here hx rfl (hb hby at_121) ?_
   refine XS.icmpNo X2285.here hx rfl (hb hby at_122) rfl (teq h1).2 ?_
   show Steps _ _ _ (T2285.setTop (mkF m 125 #[.val (.int ap), .val (.int aq1), .val (.int aq2), .val (.int al1), .val (.int al2), .val (.int fl), .val (.int pl1), .val (.int pl2), .val (.int ask), .val (.int la1), .val (.int la2), .val (.int a1v), .val (.int a2v), .val (.int gv), .val (.int t1v), .val (.int t2v), .unset, .unset, .unset, .unset, .unset, .unset, .unset, .unset, .unset, .unset, .unset, .unset] [])) _
   refine XS.bipush X2285.here hx rfl (hb hby at_125) ?_
   refine XS.goto X2285.here hx rfl (pc0 := 127) (pc' := 143) rfl (hb hby at_127) (by decide) (by decide) ?_
   refine XS.istore X2285.here hx rfl (hb hby at_143) rfl (l' := #[.val (.int ap), .val (.int aq1), .val (.int aq2), .val (.int al1), .val (.int al2), .val (.int fl), .val (.int pl1), .val (.int pl2), .val (.int ask), .val (.int la1), .val (.int la2), .val (.int a1v), .val (.int a2v), .val (.int gv), .val (.int t1v), .val (.int t2v), .val (.int (45 : Int32)), .unset, .unset, .unset, .unset, .unset, .unset, .unset, .unset, .unset, .unset, .unset]) rfl ?_
   exact kt
  ·refine ⟨(60 : Int32), (by rw [own_old, if_neg hq, if_neg h1, if_pos h2]), fun t kt => ?_⟩
   refine R2286 _ ?_
   show Steps _ _ _ (T2285.setTop (mkF m 110 #[.val (.int ap), .val (.int aq1), .val (.int aq2), .val (.int al1), .val (.int al2), .val (.int fl), .val (.int pl1), .val (.int pl2), .val (.int ask), .val (.int la1), .val (.int la2), .val (.int a1v), .val (.int a2v), .val (.int gv), .val (.int t1v), .val (.int t2v), .unset, .unset, .unset, .unset, .unset, .unset, .unset, .unset, .unset, .unset, .unset, .unset] [(.int gv)])) _
   refine XS.ifYes X2285.here hx rfl (pc0 := 110) (pc' := 119) rfl (hb hby at_110) rfl ((if0 _ _).trans (feq hq).2) (by decide) (by decide) ?_
   refine XS.iload X2285.here hx rfl (hb hby at_119) rfl ?_
   refine XS.iconst X2285.here hx rfl (hb hby at_121) ?_
   refine XS.icmpYes X2285.here hx rfl (pc0 := 122) (pc' := 130) rfl (hb hby at_122) rfl (feq h1).2 (by decide) (by decide) ?_
   show Steps _ _ _ (T2285.setTop (mkF m 130 #[.val (.int ap), .val (.int aq1), .val (.int aq2), .val (.int al1), .val (.int al2), .val (.int fl), .val (.int pl1), .val (.int pl2), .val (.int ask), .val (.int la1), .val (.int la2), .val (.int a1v), .val (.int a2v), .val (.int gv), .val (.int t1v), .val (.int t2v), .unset, .unset, .unset, .unset, .unset, .unset, .unset, .unset, .unset, .unset, .unset, .unset] [])) _
   refine XS.iload X2285.here hx rfl (hb hby at_130) rfl ?_
   refine XS.iconst X2285.here hx rfl (hb hby at_132) ?_
   refine XS.icmpNo X2285.here hx rfl (hb hby at_133) rfl (teq h2).2 ?_
   refine XS.bipush X2285.here hx rfl (hb hby at_136) ?_
   show Steps _ _ _ (T2285.setTop (mkF m 138 #[.val (.int ap), .val (.int aq1), .val (.int aq2), .val (.int al1), .val (.int al2), .val (.int fl), .val (.int pl1), .val (.int pl2), .val (.int ask), .val (.int la1), .val (.int la2), .val (.int a1v), .val (.int a2v), .val (.int gv), .val (.int t1v), .val (.int t2v), .unset, .unset, .unset, .unset, .unset, .unset, .unset, .unset, .unset, .unset, .unset, .unset] [(.int (60 : Int32))])) _
   refine XS.goto X2285.here hx rfl (pc0 := 138) (pc' := 143) rfl (hb hby at_138) (by decide) (by decide) ?_
   refine XS.istore X2285.here hx rfl (hb hby at_143) rfl (l' := #[.val (.int ap), .val (.int aq1), .val (.int aq2), .val (.int al1), .val (.int al2), .val (.int fl), .val (.int pl1), .val (.int pl2), .val (.int ask), .val (.int la1), .val (.int la2), .val (.int a1v), .val (.int a2v), .val (.int gv), .val (.int t1v), .val (.int t2v), .val (.int (60 : Int32)), .unset, .unset, .unset, .unset, .unset, .unset, .unset, .unset, .unset, .unset, .unset]) rfl ?_
   exact kt
  ·refine ⟨(75 : Int32), (by rw [own_old, if_neg hq, if_neg h1, if_neg h2]), fun t kt => ?_⟩
   refine R2286 _ ?_
   show Steps _ _ _ (T2285.setTop (mkF m 110 #[.val (.int ap), .val (.int aq1), .val (.int aq2), .val (.int al1), .val (.int al2), .val (.int fl), .val (.int pl1), .val (.int pl2), .val (.int ask), .val (.int la1), .val (.int la2), .val (.int a1v), .val (.int a2v), .val (.int gv), .val (.int t1v), .val (.int t2v), .unset, .unset, .unset, .unset, .unset, .unset, .unset, .unset, .unset, .unset, .unset, .unset] [(.int gv)])) _
   refine XS.ifYes X2285.here hx rfl (pc0 := 110) (pc' := 119) rfl (hb hby at_110) rfl ((if0 _ _).trans (feq hq).2) (by decide) (by decide) ?_
   refine XS.iload X2285.here hx rfl (hb hby at_119) rfl ?_
   refine XS.iconst X2285.here hx rfl (hb hby at_121) ?_
   refine XS.icmpYes X2285.here hx rfl (pc0 := 122) (pc' := 130) rfl (hb hby at_122) rfl (feq h1).2 (by decide) (by decide) ?_
   show Steps _ _ _ (T2285.setTop (mkF m 130 #[.val (.int ap), .val (.int aq1), .val (.int aq2), .val (.int al1), .val (.int al2), .val (.int fl), .val (.int pl1), .val (.int pl2), .val (.int ask), .val (.int la1), .val (.int la2), .val (.int a1v), .val (.int a2v), .val (.int gv), .val (.int t1v), .val (.int t2v), .unset, .unset, .unset, .unset, .unset, .unset, .unset, .unset, .unset, .unset, .unset, .unset] [])) _
   refine XS.iload X2285.here hx rfl (hb hby at_130) rfl ?_
   refine XS.iconst X2285.here hx rfl (hb hby at_132) ?_
   refine XS.icmpYes X2285.here hx rfl (pc0 := 133) (pc' := 141) rfl (hb hby at_133) rfl (feq h2).2 (by decide) (by decide) ?_
   refine XS.bipush X2285.here hx rfl (hb hby at_141) ?_
   show Steps _ _ _ (T2285.setTop (mkF m 143 #[.val (.int ap), .val (.int aq1), .val (.int aq2), .val (.int al1), .val (.int al2), .val (.int fl), .val (.int pl1), .val (.int pl2), .val (.int ask), .val (.int la1), .val (.int la2), .val (.int a1v), .val (.int a2v), .val (.int gv), .val (.int t1v), .val (.int t2v), .unset, .unset, .unset, .unset, .unset, .unset, .unset, .unset, .unset, .unset, .unset, .unset] [(.int (75 : Int32))])) _
   refine XS.istore X2285.here hx rfl (hb hby at_143) rfl (l' := #[.val (.int ap), .val (.int aq1), .val (.int aq2), .val (.int al1), .val (.int al2), .val (.int fl), .val (.int pl1), .val (.int pl2), .val (.int ask), .val (.int la1), .val (.int la2), .val (.int a1v), .val (.int a2v), .val (.int gv), .val (.int t1v), .val (.int t2v), .val (.int (75 : Int32)), .unset, .unset, .unset, .unset, .unset, .unset, .unset, .unset, .unset, .unset, .unset]) rfl ?_
   exact kt
 have hol := hp2287
 obtain ⟨T2288, h2288, X2288, e2288, E2288, A2288, D2288, -, st2288⟩ := newO X2285 hx hZ hown (wd hw 9 rfl) (wd hw 10 rfl) (wd hw 11 rfl) eq2285 (g := (mkF m 145 #[.val (.int ap), .val (.int aq1), .val (.int aq2), .val (.int al1), .val (.int al2), .val (.int fl), .val (.int pl1), .val (.int pl2), .val (.int ask), .val (.int la1), .val (.int la2), .val (.int a1v), .val (.int a2v), .val (.int gv), .val (.int t1v), .val (.int t2v), .val (.int ol), .unset, .unset, .unset, .unset, .unset, .unset, .unset, .unset, .unset, .unset, .unset] [])) rfl (hb hby at_145) (by decide) (by decide)
 obtain ⟨b2288, g2288⟩ : ∃ z, z = h0.size := ⟨_, rfl⟩
 rw [← g2288] at A2288 D2288 st2288
 have g_b2288 : n0 ≤ b2288 := Nat.le_trans (Nat.le_trans Z0 K0.1) (Nat.le_of_eq g2288.symm)
 have sz_b2288 : h0.size ≤ b2288 := Nat.le_trans K0.1 (Nat.le_of_eq g2288.symm)
 have K2288 : Keep h0 h2288 [] := K0.ext E2288
 have F2288_executorCompleted : Fld Z h2288 b2288 sRA "executorCompleted" "[J" .null := D2288 (Or.inl (wd hw 22 rfl)) (ty := (.array .long)) (by decide)
 have F2288_executorLatencySum : Fld Z h2288 b2288 sRA "executorLatencySum" "[D" .null := D2288 (Or.inl (wd hw 25 rfl)) (ty := (.array .double)) (by decide)
 have F2288_arrivalEvents : Fld Z h2288 b2288 sRA "arrivalEvents" dRQ .null := D2288 (Or.inr (wd hw 57 rfl)) (ty := (.object sRQ)) (by decide)
 have F2288_completionEvents : Fld Z h2288 b2288 sRA "completionEvents" dRQ .null := D2288 (Or.inr (wd hw 59 rfl)) (ty := (.object sRQ)) (by decide)
 have F2288_window : Fld Z h2288 b2288 sRA "window" "D" (.double (FP.l2d 0)) := Fld.zeroD (D2288 (Or.inr (wd hw 61 rfl)) (ty := .double) (by decide))
 have F2288_asksBefore : Fld Z h2288 b2288 sRA "asksBefore" "D" (.double (FP.l2d 0)) := Fld.zeroD (D2288 (Or.inr (wd hw 63 rfl)) (ty := .double) (by decide))
 have F2288_keptUntil : Fld Z h2288 b2288 sRA "keptUntil" "D" (.double (FP.l2d 0)) := Fld.zeroD (D2288 (Or.inr (wd hw 65 rfl)) (ty := .double) (by decide))
 have F2288_keyArrivals : Fld Z h2288 b2288 sRA "keyArrivals" "[J" .null := D2288 (Or.inr (wd hw 67 rfl)) (ty := (.array .long)) (by decide)
 obtain ⟨_, _, ⟨T2289, L2289, k2289, n2289⟩, -, X2289, ⟨Lc2289, hQ2289, l2289, y2289, z2289⟩, st2289⟩ := X2288.specialBack hx (y := (⟨sRA, "<init>", "(IDD)V"⟩ : MethodName)) rfl hown (mvT hZ (wd hw 14 rfl)) (mvT hZ (wd hw 15 rfl)) (mvT hZ (wd hw 16 rfl)) (by decide) (backOf (W := 1) (rmRA l Z a0 hw [] b2288 h2288 n0 (Nat.le_trans Z0 K2288.1) A2288 F2288_window F2288_asksBefore F2288_keptUntil F2288_keyArrivals F2288_executorCompleted F2288_executorLatencySum F2288_arrivalEvents F2288_completionEvents g_b2288) hZ (wd hw 16 rfl) (wd hw 11 rfl) (by decide) (by decide)) (g := (mkF m 156 #[.val (.int ap), .val (.int aq1), .val (.int aq2), .val (.int al1), .val (.int al2), .val (.int fl), .val (.int pl1), .val (.int pl2), .val (.int ask), .val (.int la1), .val (.int la2), .val (.int a1v), .val (.int a2v), .val (.int gv), .val (.int t1v), .val (.int t2v), .val (.int ol), .unset, .unset, .unset, .unset, .unset, .unset, .unset, .unset, .unset, .unset, .unset] [(.double (FP.l2d 100)), (.double (FP.l2d 10)), (.int (1 : Int32)), (.ref b2288), (.ref b2288)])) rfl (by rw [hml]; rfl) (Steps.refl _) (a := b2288) (argsL := [(.int (1 : Int32)), (.double (FP.l2d 10)), (.double (FP.l2d 100))]) (rest := [(.ref b2288)]) (lenOf pd_13 rfl) rfl (by show 2 * 0 + _ ≤ _; exact Nat.le_of_eq rfl) (hb hby at_156) (fun _ _ => ⟨rfl, e2288, (by decide : 1 + 9 ≤ _), (by decide : 8 + 91 ≤ _)⟩)
 dsimp only [Pt.U, Pt.locs, Pt.cells, Pt.slots] at X2289 l2289 y2289 z2289 st2289 hQ2289
 rw [l2289, y2289, z2289] at X2289
 obtain ⟨hv2289, Nq2289, Kc2289, ec, qel, qa, q, kec, kel, S2289⟩ := hQ2289
 rw [hv2289] at st2289
 have K2289 : Keep h0 T2289.heap [] := K2288.trans Kc2289 (allS (P := fun x => x ∈ [] ∨ h0.size ≤ x) (Or.inr sz_b2288) all0)
 have SA : own_St Z T2289.heap n0 b2288 ec qel qa q kec kel (16 : Int32) (fun _ => 0) (fun _ => 0) [] := S2289
 have EA := (own_StE SA).1
 have N2289 := Fr.app N2285 Nq2289
 obtain ⟨F1, hF1⟩ : ∃ z, z = (own_upd (fun _ => 0) pl1.toNatClampNeg (((fun _ => 0) pl1.toNatClampNeg) + (1 : Int64))) := ⟨_, rfl⟩
 obtain ⟨G1, hG1⟩ : ∃ z, z = (own_upd (fun _ => 0) pl1.toNatClampNeg (((fun _ => 0) pl1.toNatClampNeg) + (la1.toInt64))) := ⟨_, rfl⟩
 obtain ⟨R1, hR1⟩ : ∃ z : List (Int32 × Int64 × Int64), z = if 90 < (t1v.toInt64) then [] else [] ++ [(pl1, (t1v.toInt64), (la1.toInt64))] := ⟨_, rfl⟩
 obtain ⟨cq2290, kq2290, q2290a, q2290b, q2290c⟩ := isOf hZ rfl EA
 obtain ⟨_, _, ⟨T2290, L2290, k2290, n2290⟩, -, X2290, ⟨Lc2290, hQ2290, l2290, y2290, z2290⟩, st2290⟩ := X2289.virtualBack hx (y := (⟨sRA, "completed", "(IDD)V"⟩ : MethodName)) (z := (⟨sRA, "completed", "(IDD)V"⟩ : MethodName)) hown (mvT hZ (wd hw 68 rfl)) (mvT hZ (wd hw 69 rfl)) (notFace_of_selects (args := #[]) (mvT hZ (wd hw 71 rfl))) (mvT hZ (wd hw 71 rfl)) (mvT hZ (wd hw 70 rfl)) (by decide) (backOf (W := 0) (rmCM l Z a0 hw [] b2288 pl1 (la1.toInt64) (t1v.toInt64) ec qel qa q kec kel (16 : Int32) (fun _ => 0) (fun _ => 0) [] T2289.heap n0 (Nat.le_trans Z0 K2289.1) SA (by decide) hb1.1 hb1.2 (by decide) (by decide) (fun _ _ => rfl) (fun _ _ => rfl) hlb1 (fun _ => own_Bz) htb1) hZ (wd hw 72 rfl) (wd hw 11 rfl) (by decide) (by decide)) q2290a q2290c (g := (mkF m 171 #[.val (.int ap), .val (.int aq1), .val (.int aq2), .val (.int al1), .val (.int al2), .val (.int fl), .val (.int pl1), .val (.int pl2), .val (.int ask), .val (.int la1), .val (.int la2), .val (.int a1v), .val (.int a2v), .val (.int gv), .val (.int t1v), .val (.int t2v), .val (.int ol), .val (.ref b2288), .unset, .unset, .unset, .unset, .unset, .unset, .unset, .unset, .unset, .unset] [(.double (FP.l2d (t1v.toInt64))), (.double (FP.l2d (la1.toInt64))), (.int pl1), (.ref b2288)])) rfl (by rw [hml]; rfl) (Steps.refl _) (argsL := [(.int pl1), (.double (FP.l2d (la1.toInt64))), (.double (FP.l2d (t1v.toInt64)))]) (rest := []) (lenOf pd_13 rfl) rfl (by show 2 * 0 + _ ≤ _; exact Nat.le_of_eq rfl) (hb hby at_171) (fun _ _ => ⟨rfl, rfl, (by decide : 10 + 8 ≤ _), (by decide : 99 + 310 ≤ _)⟩)
 dsimp only [Pt.U, Pt.locs, Pt.cells, Pt.slots] at X2290 l2290 y2290 z2290 st2290 hQ2290
 rw [l2290, y2290, z2290] at X2290
 obtain ⟨hv2290, Nq2290, Kc2290, ec1, el1, kec1, kel1, n1, S2290, ha2290, hb2290, hc2290, hd2290⟩ := hQ2290
 rw [hv2290] at st2290
 have K2290 : h0.size ≤ T2290.heap.size ∧ True := ⟨Nat.le_trans K2289.1 Kc2290, trivial⟩
 rw [← hF1, ← hG1, ← hR1] at S2290
 have EA2290 := (own_StE S2290).1
 have hn0 : ¬ n1 < 16 := ha2290
 have hn1 : ¬ (64 : Int32) < n1 := hd2290 rfl
 have hpn1 : pl1 < n1 := hb2290
 have hzf : ∀ i, n1.toNatClampNeg ≤ i → F1 i = 0 := by rw [hF1]; exact own_updz (N := 0) (fun _ _ => rfl) (own_ltnat hb1.1 hpn1) (Nat.zero_le _)
 have hzg : ∀ i, n1.toNatClampNeg ≤ i → G1 i = 0 := by rw [hG1]; exact own_updz (N := 0) (fun _ _ => rfl) (own_ltnat hb1.1 hpn1) (Nat.zero_le _)
 have hgb : ∀ i, own_B 4294967296 (G1 i) := by rw [hG1]; exact own_updB (fun _ => own_Bz) (own_Bm (own_addB (A := 0) own_Bz hlb1 (by decide)) (by decide))
 have hR1l : R1.length ≤ 1 := by rw [hR1]; split <;> simp
 have N2290 := Fr.app N2289 Nq2290
 obtain ⟨F2, hF2⟩ : ∃ z, z = (own_upd F1 pl2.toNatClampNeg ((F1 pl2.toNatClampNeg) + (1 : Int64))) := ⟨_, rfl⟩
 obtain ⟨G2, hG2⟩ : ∃ z, z = (own_upd G1 pl2.toNatClampNeg ((G1 pl2.toNatClampNeg) + (la2.toInt64))) := ⟨_, rfl⟩
 obtain ⟨R2, hR2⟩ : ∃ z : List (Int32 × Int64 × Int64), z = if 90 < (t2v.toInt64) then R1 else R1 ++ [(pl2, (t2v.toInt64), (la2.toInt64))] := ⟨_, rfl⟩
 obtain ⟨cq2291, kq2291, q2291a, q2291b, q2291c⟩ := isOf hZ rfl EA2290
 obtain ⟨_, _, ⟨T2291, L2291, k2291, n2291⟩, -, X2291, ⟨Lc2291, hQ2291, l2291, y2291, z2291⟩, st2291⟩ := X2290.virtualBack hx (y := (⟨sRA, "completed", "(IDD)V"⟩ : MethodName)) (z := (⟨sRA, "completed", "(IDD)V"⟩ : MethodName)) hown (mvT hZ (wd hw 68 rfl)) (mvT hZ (wd hw 69 rfl)) (notFace_of_selects (args := #[]) (mvT hZ (wd hw 71 rfl))) (mvT hZ (wd hw 71 rfl)) (mvT hZ (wd hw 70 rfl)) (by decide) (backOf (W := 0) (rmCM l Z a0 hw [] b2288 pl2 (la2.toInt64) (t2v.toInt64) ec1 el1 qa q kec1 kel1 n1 F1 G1 R1 T2290.heap n0 (Nat.le_trans Z0 K2290.1) S2290 hR1l hb2.1 hb2.2 hn0 hn1 hzf hzg hlb2 hgb htb2) hZ (wd hw 72 rfl) (wd hw 11 rfl) (by decide) (by decide)) q2291a q2291c (g := (mkF m 184 #[.val (.int ap), .val (.int aq1), .val (.int aq2), .val (.int al1), .val (.int al2), .val (.int fl), .val (.int pl1), .val (.int pl2), .val (.int ask), .val (.int la1), .val (.int la2), .val (.int a1v), .val (.int a2v), .val (.int gv), .val (.int t1v), .val (.int t2v), .val (.int ol), .val (.ref b2288), .unset, .unset, .unset, .unset, .unset, .unset, .unset, .unset, .unset, .unset] [(.double (FP.l2d (t2v.toInt64))), (.double (FP.l2d (la2.toInt64))), (.int pl2), (.ref b2288)])) rfl (by rw [hml]; rfl) (Steps.refl _) (argsL := [(.int pl2), (.double (FP.l2d (la2.toInt64))), (.double (FP.l2d (t2v.toInt64)))]) (rest := []) (lenOf pd_13 rfl) rfl (by show 2 * 0 + _ ≤ _; exact Nat.le_of_eq rfl) (hb hby at_184) (fun _ _ => ⟨rfl, rfl, (by decide : 18 + 8 ≤ _), (by decide : 409 + 310 ≤ _)⟩)
 dsimp only [Pt.U, Pt.locs, Pt.cells, Pt.slots] at X2291 l2291 y2291 z2291 st2291 hQ2291
 rw [l2291, y2291, z2291] at X2291
 obtain ⟨hv2291, Nq2291, Kc2291, ec2, el2, kec2, kel2, n2, S2291, ha2291, hb2291, hc2291, hd2291⟩ := hQ2291
 rw [hv2291] at st2291
 have K2291 : h0.size ≤ T2291.heap.size ∧ True := ⟨Nat.le_trans K2290.1 Kc2291, trivial⟩
 rw [← hF2, ← hG2, ← hR2] at S2291
 have EA2291 := (own_StE S2291).1
 have hpn2 : pl2 < n2 := hb2291
 have hn12 : ¬ n2 < n1 := ha2291
 have hpn12 : pl1 < n2 := own_ltge hpn1 hn12
 have hzf2 : ∀ i, n2.toNatClampNeg ≤ i → F2 i = 0 := by rw [hF2]; exact own_updz hzf (own_ltnat hb2.1 hpn2) (own_genat (own_ge0 hn0 hn12) hn12)
 have N2291 := Fr.app N2290 Nq2291
 have R2292 : ∀ t, Steps p.tables e below (T2291.setTop (mkF m 189 #[.val (.int ap), .val (.int aq1), .val (.int aq2), .val (.int al1), .val (.int al2), .val (.int fl), .val (.int pl1), .val (.int pl2), .val (.int ask), .val (.int la1), .val (.int la2), .val (.int a1v), .val (.int a2v), .val (.int gv), .val (.int t1v), .val (.int t2v), .val (.int ol), .val (.ref b2288), .unset, .unset, .unset, .unset, .unset, .unset, .unset, .unset, .unset, .unset] [(.int gv)])) t → Steps p.tables e below (s₁.setTop (entryFrame m #[(.int ap), (.int aq1), (.int aq2), (.int al1), (.int al2), (.int fl)] maxLocals)) t := by
  intro t kt
  refine R2287 _ ?_
  show Steps _ _ _ (T2285.setTop (mkF m 145 #[.val (.int ap), .val (.int aq1), .val (.int aq2), .val (.int al1), .val (.int al2), .val (.int fl), .val (.int pl1), .val (.int pl2), .val (.int ask), .val (.int la1), .val (.int la2), .val (.int a1v), .val (.int a2v), .val (.int gv), .val (.int t1v), .val (.int t2v), .val (.int ol), .unset, .unset, .unset, .unset, .unset, .unset, .unset, .unset, .unset, .unset, .unset] [])) _
  refine st2288 _ ?_
  refine XS.dup X2288.here hx rfl (hb hby at_148) rfl rfl ?_
  refine XS.iconst X2288.here hx rfl (hb hby at_149) ?_
  show Steps _ _ _ (T2288.setTop (mkF m 150 #[.val (.int ap), .val (.int aq1), .val (.int aq2), .val (.int al1), .val (.int al2), .val (.int fl), .val (.int pl1), .val (.int pl2), .val (.int ask), .val (.int la1), .val (.int la2), .val (.int a1v), .val (.int a2v), .val (.int gv), .val (.int t1v), .val (.int t2v), .val (.int ol), .unset, .unset, .unset, .unset, .unset, .unset, .unset, .unset, .unset, .unset, .unset] [(.int (1 : Int32)), (.ref b2288), (.ref b2288)])) _
  refine X2288.ldc2DoubleC hx hown (mvT hZ (wd hw 12 rfl)) (g := (mkF m 150 #[.val (.int ap), .val (.int aq1), .val (.int aq2), .val (.int al1), .val (.int al2), .val (.int fl), .val (.int pl1), .val (.int pl2), .val (.int ask), .val (.int la1), .val (.int la2), .val (.int a1v), .val (.int a2v), .val (.int gv), .val (.int t1v), .val (.int t2v), .val (.int ol), .unset, .unset, .unset, .unset, .unset, .unset, .unset, .unset, .unset, .unset, .unset] [(.int (1 : Int32)), (.ref b2288), (.ref b2288)])) rfl (hb hby at_150) _ ?_
  show Steps _ _ _ (T2288.setTop (mkF m 153 #[.val (.int ap), .val (.int aq1), .val (.int aq2), .val (.int al1), .val (.int al2), .val (.int fl), .val (.int pl1), .val (.int pl2), .val (.int ask), .val (.int la1), .val (.int la2), .val (.int a1v), .val (.int a2v), .val (.int gv), .val (.int t1v), .val (.int t2v), .val (.int ol), .unset, .unset, .unset, .unset, .unset, .unset, .unset, .unset, .unset, .unset, .unset] [(.double (4621819117588971520 : UInt64)), (.int (1 : Int32)), (.ref b2288), (.ref b2288)])) _
  rw [own_k10]
  refine X2288.ldc2DoubleC hx hown (mvT hZ (wd hw 13 rfl)) (g := (mkF m 153 #[.val (.int ap), .val (.int aq1), .val (.int aq2), .val (.int al1), .val (.int al2), .val (.int fl), .val (.int pl1), .val (.int pl2), .val (.int ask), .val (.int la1), .val (.int la2), .val (.int a1v), .val (.int a2v), .val (.int gv), .val (.int t1v), .val (.int t2v), .val (.int ol), .unset, .unset, .unset, .unset, .unset, .unset, .unset, .unset, .unset, .unset, .unset] [(.double (FP.l2d 10)), (.int (1 : Int32)), (.ref b2288), (.ref b2288)])) rfl (hb hby at_153) _ ?_
  show Steps _ _ _ (T2288.setTop (mkF m 156 #[.val (.int ap), .val (.int aq1), .val (.int aq2), .val (.int al1), .val (.int al2), .val (.int fl), .val (.int pl1), .val (.int pl2), .val (.int ask), .val (.int la1), .val (.int la2), .val (.int a1v), .val (.int a2v), .val (.int gv), .val (.int t1v), .val (.int t2v), .val (.int ol), .unset, .unset, .unset, .unset, .unset, .unset, .unset, .unset, .unset, .unset, .unset] [(.double (4636737291354636288 : UInt64)), (.double (FP.l2d 10)), (.int (1 : Int32)), (.ref b2288), (.ref b2288)])) _
  rw [own_k100]
  refine st2289.trans ?_
  show Steps _ _ _ (T2289.setTop (mkF m 159 #[.val (.int ap), .val (.int aq1), .val (.int aq2), .val (.int al1), .val (.int al2), .val (.int fl), .val (.int pl1), .val (.int pl2), .val (.int ask), .val (.int la1), .val (.int la2), .val (.int a1v), .val (.int a2v), .val (.int gv), .val (.int t1v), .val (.int t2v), .val (.int ol), .unset, .unset, .unset, .unset, .unset, .unset, .unset, .unset, .unset, .unset, .unset] [(.ref b2288)])) _
  refine XS.astore X2289.here hx rfl (hb hby at_159) rfl rfl (l' := #[.val (.int ap), .val (.int aq1), .val (.int aq2), .val (.int al1), .val (.int al2), .val (.int fl), .val (.int pl1), .val (.int pl2), .val (.int ask), .val (.int la1), .val (.int la2), .val (.int a1v), .val (.int a2v), .val (.int gv), .val (.int t1v), .val (.int t2v), .val (.int ol), .val (.ref b2288), .unset, .unset, .unset, .unset, .unset, .unset, .unset, .unset, .unset, .unset]) rfl ?_
  refine XS.aload X2289.here hx rfl (hb hby at_161) rfl rfl ?_
  refine XS.iload X2289.here hx rfl (hb hby at_163) rfl ?_
  refine XS.iload X2289.here hx rfl (hb hby at_165) rfl ?_
  show Steps _ _ _ (T2289.setTop (mkF m 167 #[.val (.int ap), .val (.int aq1), .val (.int aq2), .val (.int al1), .val (.int al2), .val (.int fl), .val (.int pl1), .val (.int pl2), .val (.int ask), .val (.int la1), .val (.int la2), .val (.int a1v), .val (.int a2v), .val (.int gv), .val (.int t1v), .val (.int t2v), .val (.int ol), .val (.ref b2288), .unset, .unset, .unset, .unset, .unset, .unset, .unset, .unset, .unset, .unset] [(.int la1), (.int pl1), (.ref b2288)])) _
  refine XS.i2dS X2289.here hx rfl (hb hby at_167) rfl (v := (FP.l2d (la1.toInt64))) (i2d_w _) ?_
  refine XS.iload X2289.here hx rfl (hb hby at_168) rfl ?_
  refine XS.i2dS X2289.here hx rfl (hb hby at_170) rfl (v := (FP.l2d (t1v.toInt64))) (i2d_w _) ?_
  refine st2290.trans ?_
  show Steps _ _ _ (T2290.setTop (mkF m 174 #[.val (.int ap), .val (.int aq1), .val (.int aq2), .val (.int al1), .val (.int al2), .val (.int fl), .val (.int pl1), .val (.int pl2), .val (.int ask), .val (.int la1), .val (.int la2), .val (.int a1v), .val (.int a2v), .val (.int gv), .val (.int t1v), .val (.int t2v), .val (.int ol), .val (.ref b2288), .unset, .unset, .unset, .unset, .unset, .unset, .unset, .unset, .unset, .unset] [])) _
  refine XS.aload X2290.here hx rfl (hb hby at_174) rfl rfl ?_
  refine XS.iload X2290.here hx rfl (hb hby at_176) rfl ?_
  refine XS.iload X2290.here hx rfl (hb hby at_178) rfl ?_
  refine XS.i2dS X2290.here hx rfl (hb hby at_180) rfl (v := (FP.l2d (la2.toInt64))) (i2d_w _) ?_
  show Steps _ _ _ (T2290.setTop (mkF m 181 #[.val (.int ap), .val (.int aq1), .val (.int aq2), .val (.int al1), .val (.int al2), .val (.int fl), .val (.int pl1), .val (.int pl2), .val (.int ask), .val (.int la1), .val (.int la2), .val (.int a1v), .val (.int a2v), .val (.int gv), .val (.int t1v), .val (.int t2v), .val (.int ol), .val (.ref b2288), .unset, .unset, .unset, .unset, .unset, .unset, .unset, .unset, .unset, .unset] [(.double (FP.l2d (la2.toInt64))), (.int pl2), (.ref b2288)])) _
  refine XS.iload X2290.here hx rfl (hb hby at_181) rfl ?_
  refine XS.i2dS X2290.here hx rfl (hb hby at_183) rfl (v := (FP.l2d (t2v.toInt64))) (i2d_w _) ?_
  refine st2291.trans ?_
  show Steps _ _ _ (T2291.setTop (mkF m 187 #[.val (.int ap), .val (.int aq1), .val (.int aq2), .val (.int al1), .val (.int al2), .val (.int fl), .val (.int pl1), .val (.int pl2), .val (.int ask), .val (.int la1), .val (.int la2), .val (.int a1v), .val (.int a2v), .val (.int gv), .val (.int t1v), .val (.int t2v), .val (.int ol), .val (.ref b2288), .unset, .unset, .unset, .unset, .unset, .unset, .unset, .unset, .unset, .unset] [])) _
  refine XS.iload X2291.here hx rfl (hb hby at_187) rfl ?_
  show Steps _ _ _ (T2291.setTop (mkF m 189 #[.val (.int ap), .val (.int aq1), .val (.int aq2), .val (.int al1), .val (.int al2), .val (.int fl), .val (.int pl1), .val (.int pl2), .val (.int ask), .val (.int la1), .val (.int la2), .val (.int a1v), .val (.int a2v), .val (.int gv), .val (.int t1v), .val (.int t2v), .val (.int ol), .val (.ref b2288), .unset, .unset, .unset, .unset, .unset, .unset, .unset, .unset, .unset, .unset] [(.int gv)])) _
  exact kt
 by_cases hg0 : gv = 0
 ·
  obtain ⟨EAz, Fe, Fl, Ve, Vl⟩ := own_StE S2291
  obtain ⟨gotv, hgot⟩ : ∃ z, own_lat (F2 ask.toNatClampNeg) (G2 ask.toNatClampNeg) = z := ⟨_, rfl⟩
  obtain ⟨cq2293, kq2293, q2293a, q2293b, q2293c⟩ := isOf hZ rfl EA2291
  obtain ⟨_, _, ⟨T2293, L2293, k2293, n2293⟩, -, X2293, ⟨Lc2293, hQ2293, l2293, y2293, z2293⟩, st2293⟩ := X2291.virtualBack hx (y := (⟨sRA, "executorLatency", "(I)D"⟩ : MethodName)) (z := (⟨sRA, "executorLatency", "(I)D"⟩ : MethodName)) hown (mvT hZ (wd hw 140 rfl)) (mvT hZ (wd hw 141 rfl)) (notFace_of_selects (args := #[]) (mvT hZ (wd hw 143 rfl))) (mvT hZ (wd hw 143 rfl)) (mvT hZ (wd hw 142 rfl)) (by decide) (backOf (W := 0) (rmEX l Z a0 hw [] b2288 ask ec2 el2 kec2 kel2 n2 F2 G2 T2291.heap n0 (Nat.le_trans Z0 K2291.1) Fe Fl Ve Vl hzf2 hb3.1 hb3.2) hZ (wd hw 144 rfl) (wd hw 11 rfl) (by decide) (by decide)) q2293a q2293c (g := (mkF m 207 #[.val (.int ap), .val (.int aq1), .val (.int aq2), .val (.int al1), .val (.int al2), .val (.int fl), .val (.int pl1), .val (.int pl2), .val (.int ask), .val (.int la1), .val (.int la2), .val (.int a1v), .val (.int a2v), .val (.int gv), .val (.int t1v), .val (.int t2v), .val (.int ol), .val (.ref b2288), .unset, .unset, .unset, .unset, .unset, .unset, .unset, .unset, .unset, .unset] [(.int ask), (.ref b2288)])) rfl (by rw [hml]; rfl) (Steps.refl _) (argsL := [(.int ask)]) (rest := []) (lenOf pd_11 rfl) rfl (by show 2 * 0 + _ ≤ _; exact Nat.le_of_eq rfl) (hb hby at_207) (fun _ _ => ⟨rfl, rfl, (by decide : 26 + 0 ≤ _), (by decide : 719 + 0 ≤ _)⟩)
  dsimp only [Pt.U, Pt.locs, Pt.cells, Pt.slots] at X2293 l2293 y2293 z2293 st2293 hQ2293
  rw [l2293, y2293, z2293] at X2293
  obtain ⟨hv2293, Nq2293, eq2293⟩ := hQ2293
  rw [hv2293] at st2293
  have N2293 := Fr.app N2291 Nq2293
  rw [hgot] at st2293
  have R2294 : ∀ t, Steps p.tables e below (T2293.setTop (mkF m 216 #[.val (.int ap), .val (.int aq1), .val (.int aq2), .val (.int al1), .val (.int al2), .val (.int fl), .val (.int pl1), .val (.int pl2), .val (.int ask), .val (.int la1), .val (.int la2), .val (.int a1v), .val (.int a2v), .val (.int gv), .val (.int t1v), .val (.int t2v), .val (.int ol), .val (.ref b2288), .val (.double gotv), .second, .unset, .unset, .unset, .unset, .unset, .unset, .unset, .unset] [(.int ol), (.int t1v)])) t → Steps p.tables e below (s₁.setTop (entryFrame m #[(.int ap), (.int aq1), (.int aq2), (.int al1), (.int al2), (.int fl)] maxLocals)) t := by
   intro t kt
   refine R2292 _ ?_
   show Steps _ _ _ (T2291.setTop (mkF m 189 #[.val (.int ap), .val (.int aq1), .val (.int aq2), .val (.int al1), .val (.int al2), .val (.int fl), .val (.int pl1), .val (.int pl2), .val (.int ask), .val (.int la1), .val (.int la2), .val (.int a1v), .val (.int a2v), .val (.int gv), .val (.int t1v), .val (.int t2v), .val (.int ol), .val (.ref b2288), .unset, .unset, .unset, .unset, .unset, .unset, .unset, .unset, .unset, .unset] [(.int gv)])) _
   refine XS.ifYes X2291.here hx rfl (pc0 := 189) (pc' := 203) rfl (hb hby at_189) rfl ((if0 _ _).trans (teq hg0).1) (by decide) (by decide) ?_
   refine XS.aload X2291.here hx rfl (hb hby at_203) rfl rfl ?_
   refine XS.iload X2291.here hx rfl (hb hby at_205) rfl ?_
   refine st2293.trans ?_
   show Steps _ _ _ (T2293.setTop (mkF m 210 #[.val (.int ap), .val (.int aq1), .val (.int aq2), .val (.int al1), .val (.int al2), .val (.int fl), .val (.int pl1), .val (.int pl2), .val (.int ask), .val (.int la1), .val (.int la2), .val (.int a1v), .val (.int a2v), .val (.int gv), .val (.int t1v), .val (.int t2v), .val (.int ol), .val (.ref b2288), .unset, .unset, .unset, .unset, .unset, .unset, .unset, .unset, .unset, .unset] [(.double gotv)])) _
   refine XS.dstore X2293.here hx rfl (hb hby at_210) rfl (l' := #[.val (.int ap), .val (.int aq1), .val (.int aq2), .val (.int al1), .val (.int al2), .val (.int fl), .val (.int pl1), .val (.int pl2), .val (.int ask), .val (.int la1), .val (.int la2), .val (.int a1v), .val (.int a2v), .val (.int gv), .val (.int t1v), .val (.int t2v), .val (.int ol), .val (.ref b2288), .val (.double gotv), .second, .unset, .unset, .unset, .unset, .unset, .unset, .unset, .unset]) rfl ?_
   refine XS.iload X2293.here hx rfl (hb hby at_212) rfl ?_
   refine XS.iload X2293.here hx rfl (hb hby at_214) rfl ?_
   show Steps _ _ _ (T2293.setTop (mkF m 216 #[.val (.int ap), .val (.int aq1), .val (.int aq2), .val (.int al1), .val (.int al2), .val (.int fl), .val (.int pl1), .val (.int pl2), .val (.int ask), .val (.int la1), .val (.int la2), .val (.int a1v), .val (.int a2v), .val (.int gv), .val (.int t1v), .val (.int t2v), .val (.int ol), .val (.ref b2288), .val (.double gotv), .second, .unset, .unset, .unset, .unset, .unset, .unset, .unset, .unset] [(.int ol), (.int t1v)])) _
   exact kt
  obtain ⟨gn1, hp2295, R2295⟩ : ∃ (gn1 : Int32), (gn1 = if ol < t1v then (0 : Int32) else 1) ∧ ∀ t, Steps p.tables e below (T2293.setTop (mkF m 226 #[.val (.int ap), .val (.int aq1), .val (.int aq2), .val (.int al1), .val (.int al2), .val (.int fl), .val (.int pl1), .val (.int pl2), .val (.int ask), .val (.int la1), .val (.int la2), .val (.int a1v), .val (.int a2v), .val (.int gv), .val (.int t1v), .val (.int t2v), .val (.int ol), .val (.ref b2288), .val (.double gotv), .second, .val (.int gn1), .unset, .unset, .unset, .unset, .unset, .unset, .unset] [])) t → Steps p.tables e below (s₁.setTop (entryFrame m #[(.int ap), (.int aq1), (.int aq2), (.int al1), (.int al2), (.int fl)] maxLocals)) t := by
   by_cases hq : ol < t1v
   ·refine ⟨(0 : Int32), (by rw [if_pos hq]), fun t kt => ?_⟩
    refine R2294 _ ?_
    show Steps _ _ _ (T2293.setTop (mkF m 216 #[.val (.int ap), .val (.int aq1), .val (.int aq2), .val (.int al1), .val (.int al2), .val (.int fl), .val (.int pl1), .val (.int pl2), .val (.int ask), .val (.int la1), .val (.int la2), .val (.int a1v), .val (.int a2v), .val (.int gv), .val (.int t1v), .val (.int t2v), .val (.int ol), .val (.ref b2288), .val (.double gotv), .second, .unset, .unset, .unset, .unset, .unset, .unset, .unset, .unset] [(.int ol), (.int t1v)])) _
    refine XS.icmpYes X2293.here hx rfl (pc0 := 216) (pc' := 223) rfl (hb hby at_216) rfl (tlt hq).2.2.1 (by decide) (by decide) ?_
    refine XS.iconst X2293.here hx rfl (hb hby at_223) ?_
    refine XS.istore X2293.here hx rfl (hb hby at_224) rfl (l' := #[.val (.int ap), .val (.int aq1), .val (.int aq2), .val (.int al1), .val (.int al2), .val (.int fl), .val (.int pl1), .val (.int pl2), .val (.int ask), .val (.int la1), .val (.int la2), .val (.int a1v), .val (.int a2v), .val (.int gv), .val (.int t1v), .val (.int t2v), .val (.int ol), .val (.ref b2288), .val (.double gotv), .second, .val (.int (0 : Int32)), .unset, .unset, .unset, .unset, .unset, .unset, .unset]) rfl ?_
    exact kt
   ·refine ⟨(1 : Int32), (by rw [if_neg hq]), fun t kt => ?_⟩
    refine R2294 _ ?_
    show Steps _ _ _ (T2293.setTop (mkF m 216 #[.val (.int ap), .val (.int aq1), .val (.int aq2), .val (.int al1), .val (.int al2), .val (.int fl), .val (.int pl1), .val (.int pl2), .val (.int ask), .val (.int la1), .val (.int la2), .val (.int a1v), .val (.int a2v), .val (.int gv), .val (.int t1v), .val (.int t2v), .val (.int ol), .val (.ref b2288), .val (.double gotv), .second, .unset, .unset, .unset, .unset, .unset, .unset, .unset, .unset] [(.int ol), (.int t1v)])) _
    refine XS.icmpNo X2293.here hx rfl (hb hby at_216) rfl (flt hq).2.2.1 ?_
    show Steps _ _ _ (T2293.setTop (mkF m 219 #[.val (.int ap), .val (.int aq1), .val (.int aq2), .val (.int al1), .val (.int al2), .val (.int fl), .val (.int pl1), .val (.int pl2), .val (.int ask), .val (.int la1), .val (.int la2), .val (.int a1v), .val (.int a2v), .val (.int gv), .val (.int t1v), .val (.int t2v), .val (.int ol), .val (.ref b2288), .val (.double gotv), .second, .unset, .unset, .unset, .unset, .unset, .unset, .unset, .unset] [])) _
    refine XS.iconst X2293.here hx rfl (hb hby at_219) ?_
    refine XS.goto X2293.here hx rfl (pc0 := 220) (pc' := 224) rfl (hb hby at_220) (by decide) (by decide) ?_
    refine XS.istore X2293.here hx rfl (hb hby at_224) rfl (l' := #[.val (.int ap), .val (.int aq1), .val (.int aq2), .val (.int al1), .val (.int al2), .val (.int fl), .val (.int pl1), .val (.int pl2), .val (.int ask), .val (.int la1), .val (.int la2), .val (.int a1v), .val (.int a2v), .val (.int gv), .val (.int t1v), .val (.int t2v), .val (.int ol), .val (.ref b2288), .val (.double gotv), .second, .val (.int (1 : Int32)), .unset, .unset, .unset, .unset, .unset, .unset, .unset]) rfl ?_
    exact kt
  have hgn1 := hp2295
  have R2296 : ∀ t, Steps p.tables e below (T2293.setTop (mkF m 230 #[.val (.int ap), .val (.int aq1), .val (.int aq2), .val (.int al1), .val (.int al2), .val (.int fl), .val (.int pl1), .val (.int pl2), .val (.int ask), .val (.int la1), .val (.int la2), .val (.int a1v), .val (.int a2v), .val (.int gv), .val (.int t1v), .val (.int t2v), .val (.int ol), .val (.ref b2288), .val (.double gotv), .second, .val (.int gn1), .unset, .unset, .unset, .unset, .unset, .unset, .unset] [(.int ol), (.int t2v)])) t → Steps p.tables e below (s₁.setTop (entryFrame m #[(.int ap), (.int aq1), (.int aq2), (.int al1), (.int al2), (.int fl)] maxLocals)) t := by
   intro t kt
   refine R2295 _ ?_
   show Steps _ _ _ (T2293.setTop (mkF m 226 #[.val (.int ap), .val (.int aq1), .val (.int aq2), .val (.int al1), .val (.int al2), .val (.int fl), .val (.int pl1), .val (.int pl2), .val (.int ask), .val (.int la1), .val (.int la2), .val (.int a1v), .val (.int a2v), .val (.int gv), .val (.int t1v), .val (.int t2v), .val (.int ol), .val (.ref b2288), .val (.double gotv), .second, .val (.int gn1), .unset, .unset, .unset, .unset, .unset, .unset, .unset] [])) _
   refine XS.iload X2293.here hx rfl (hb hby at_226) rfl ?_
   refine XS.iload X2293.here hx rfl (hb hby at_228) rfl ?_
   show Steps _ _ _ (T2293.setTop (mkF m 230 #[.val (.int ap), .val (.int aq1), .val (.int aq2), .val (.int al1), .val (.int al2), .val (.int fl), .val (.int pl1), .val (.int pl2), .val (.int ask), .val (.int la1), .val (.int la2), .val (.int a1v), .val (.int a2v), .val (.int gv), .val (.int t1v), .val (.int t2v), .val (.int ol), .val (.ref b2288), .val (.double gotv), .second, .val (.int gn1), .unset, .unset, .unset, .unset, .unset, .unset, .unset] [(.int ol), (.int t2v)])) _
   exact kt
  obtain ⟨gn2, hp2297, R2297⟩ : ∃ (gn2 : Int32), (gn2 = if ol < t2v then (0 : Int32) else 1) ∧ ∀ t, Steps p.tables e below (T2293.setTop (mkF m 240 #[.val (.int ap), .val (.int aq1), .val (.int aq2), .val (.int al1), .val (.int al2), .val (.int fl), .val (.int pl1), .val (.int pl2), .val (.int ask), .val (.int la1), .val (.int la2), .val (.int a1v), .val (.int a2v), .val (.int gv), .val (.int t1v), .val (.int t2v), .val (.int ol), .val (.ref b2288), .val (.double gotv), .second, .val (.int gn1), .val (.int gn2), .unset, .unset, .unset, .unset, .unset, .unset] [])) t → Steps p.tables e below (s₁.setTop (entryFrame m #[(.int ap), (.int aq1), (.int aq2), (.int al1), (.int al2), (.int fl)] maxLocals)) t := by
   by_cases hq : ol < t2v
   ·refine ⟨(0 : Int32), (by rw [if_pos hq]), fun t kt => ?_⟩
    refine R2296 _ ?_
    show Steps _ _ _ (T2293.setTop (mkF m 230 #[.val (.int ap), .val (.int aq1), .val (.int aq2), .val (.int al1), .val (.int al2), .val (.int fl), .val (.int pl1), .val (.int pl2), .val (.int ask), .val (.int la1), .val (.int la2), .val (.int a1v), .val (.int a2v), .val (.int gv), .val (.int t1v), .val (.int t2v), .val (.int ol), .val (.ref b2288), .val (.double gotv), .second, .val (.int gn1), .unset, .unset, .unset, .unset, .unset, .unset, .unset] [(.int ol), (.int t2v)])) _
    refine XS.icmpYes X2293.here hx rfl (pc0 := 230) (pc' := 237) rfl (hb hby at_230) rfl (tlt hq).2.2.1 (by decide) (by decide) ?_
    refine XS.iconst X2293.here hx rfl (hb hby at_237) ?_
    refine XS.istore X2293.here hx rfl (hb hby at_238) rfl (l' := #[.val (.int ap), .val (.int aq1), .val (.int aq2), .val (.int al1), .val (.int al2), .val (.int fl), .val (.int pl1), .val (.int pl2), .val (.int ask), .val (.int la1), .val (.int la2), .val (.int a1v), .val (.int a2v), .val (.int gv), .val (.int t1v), .val (.int t2v), .val (.int ol), .val (.ref b2288), .val (.double gotv), .second, .val (.int gn1), .val (.int (0 : Int32)), .unset, .unset, .unset, .unset, .unset, .unset]) rfl ?_
    exact kt
   ·refine ⟨(1 : Int32), (by rw [if_neg hq]), fun t kt => ?_⟩
    refine R2296 _ ?_
    show Steps _ _ _ (T2293.setTop (mkF m 230 #[.val (.int ap), .val (.int aq1), .val (.int aq2), .val (.int al1), .val (.int al2), .val (.int fl), .val (.int pl1), .val (.int pl2), .val (.int ask), .val (.int la1), .val (.int la2), .val (.int a1v), .val (.int a2v), .val (.int gv), .val (.int t1v), .val (.int t2v), .val (.int ol), .val (.ref b2288), .val (.double gotv), .second, .val (.int gn1), .unset, .unset, .unset, .unset, .unset, .unset, .unset] [(.int ol), (.int t2v)])) _
    refine XS.icmpNo X2293.here hx rfl (hb hby at_230) rfl (flt hq).2.2.1 ?_
    show Steps _ _ _ (T2293.setTop (mkF m 233 #[.val (.int ap), .val (.int aq1), .val (.int aq2), .val (.int al1), .val (.int al2), .val (.int fl), .val (.int pl1), .val (.int pl2), .val (.int ask), .val (.int la1), .val (.int la2), .val (.int a1v), .val (.int a2v), .val (.int gv), .val (.int t1v), .val (.int t2v), .val (.int ol), .val (.ref b2288), .val (.double gotv), .second, .val (.int gn1), .unset, .unset, .unset, .unset, .unset, .unset, .unset] [])) _
    refine XS.iconst X2293.here hx rfl (hb hby at_233) ?_
    refine XS.goto X2293.here hx rfl (pc0 := 234) (pc' := 238) rfl (hb hby at_234) (by decide) (by decide) ?_
    refine XS.istore X2293.here hx rfl (hb hby at_238) rfl (l' := #[.val (.int ap), .val (.int aq1), .val (.int aq2), .val (.int al1), .val (.int al2), .val (.int fl), .val (.int pl1), .val (.int pl2), .val (.int ask), .val (.int la1), .val (.int la2), .val (.int a1v), .val (.int a2v), .val (.int gv), .val (.int t1v), .val (.int t2v), .val (.int ol), .val (.ref b2288), .val (.double gotv), .second, .val (.int gn1), .val (.int (1 : Int32)), .unset, .unset, .unset, .unset, .unset, .unset]) rfl ?_
    exact kt
  have hgn2 := hp2297
  have R2298 : ∀ t, Steps p.tables e below (T2293.setTop (mkF m 250 #[.val (.int ap), .val (.int aq1), .val (.int aq2), .val (.int al1), .val (.int al2), .val (.int fl), .val (.int pl1), .val (.int pl2), .val (.int ask), .val (.int la1), .val (.int la2), .val (.int a1v), .val (.int a2v), .val (.int gv), .val (.int t1v), .val (.int t2v), .val (.int ol), .val (.ref b2288), .val (.double gotv), .second, .val (.int gn1), .val (.int gn2), .val (.long (0 : Int64)), .second, .val (.long (0 : Int64)), .second, .unset, .unset] [(.int ask), (.int pl1)])) t → Steps p.tables e below (s₁.setTop (entryFrame m #[(.int ap), (.int aq1), (.int aq2), (.int al1), (.int al2), (.int fl)] maxLocals)) t := by
   intro t kt
   refine R2297 _ ?_
   show Steps _ _ _ (T2293.setTop (mkF m 240 #[.val (.int ap), .val (.int aq1), .val (.int aq2), .val (.int al1), .val (.int al2), .val (.int fl), .val (.int pl1), .val (.int pl2), .val (.int ask), .val (.int la1), .val (.int la2), .val (.int a1v), .val (.int a2v), .val (.int gv), .val (.int t1v), .val (.int t2v), .val (.int ol), .val (.ref b2288), .val (.double gotv), .second, .val (.int gn1), .val (.int gn2), .unset, .unset, .unset, .unset, .unset, .unset] [])) _
   refine XS.lconst X2293.here hx rfl (hb hby at_240) ?_
   refine XS.lstore X2293.here hx rfl (hb hby at_241) rfl (l' := #[.val (.int ap), .val (.int aq1), .val (.int aq2), .val (.int al1), .val (.int al2), .val (.int fl), .val (.int pl1), .val (.int pl2), .val (.int ask), .val (.int la1), .val (.int la2), .val (.int a1v), .val (.int a2v), .val (.int gv), .val (.int t1v), .val (.int t2v), .val (.int ol), .val (.ref b2288), .val (.double gotv), .second, .val (.int gn1), .val (.int gn2), .val (.long (0 : Int64)), .second, .unset, .unset, .unset, .unset]) rfl ?_
   refine XS.lconst X2293.here hx rfl (hb hby at_243) ?_
   refine XS.lstore X2293.here hx rfl (hb hby at_244) rfl (l' := #[.val (.int ap), .val (.int aq1), .val (.int aq2), .val (.int al1), .val (.int al2), .val (.int fl), .val (.int pl1), .val (.int pl2), .val (.int ask), .val (.int la1), .val (.int la2), .val (.int a1v), .val (.int a2v), .val (.int gv), .val (.int t1v), .val (.int t2v), .val (.int ol), .val (.ref b2288), .val (.double gotv), .second, .val (.int gn1), .val (.int gn2), .val (.long (0 : Int64)), .second, .val (.long (0 : Int64)), .second, .unset, .unset]) rfl ?_
   show Steps _ _ _ (T2293.setTop (mkF m 246 #[.val (.int ap), .val (.int aq1), .val (.int aq2), .val (.int al1), .val (.int al2), .val (.int fl), .val (.int pl1), .val (.int pl2), .val (.int ask), .val (.int la1), .val (.int la2), .val (.int a1v), .val (.int a2v), .val (.int gv), .val (.int t1v), .val (.int t2v), .val (.int ol), .val (.ref b2288), .val (.double gotv), .second, .val (.int gn1), .val (.int gn2), .val (.long (0 : Int64)), .second, .val (.long (0 : Int64)), .second, .unset, .unset] [])) _
   refine XS.iload X2293.here hx rfl (hb hby at_246) rfl ?_
   refine XS.iload X2293.here hx rfl (hb hby at_248) rfl ?_
   show Steps _ _ _ (T2293.setTop (mkF m 250 #[.val (.int ap), .val (.int aq1), .val (.int aq2), .val (.int al1), .val (.int al2), .val (.int fl), .val (.int pl1), .val (.int pl2), .val (.int ask), .val (.int la1), .val (.int la2), .val (.int a1v), .val (.int a2v), .val (.int gv), .val (.int t1v), .val (.int t2v), .val (.int ol), .val (.ref b2288), .val (.double gotv), .second, .val (.int gn1), .val (.int gn2), .val (.long (0 : Int64)), .second, .val (.long (0 : Int64)), .second, .unset, .unset] [(.int ask), (.int pl1)])) _
   exact kt
  obtain ⟨c1v, s1v, hp2299, R2299⟩ : ∃ (c1v : Int64) (s1v : Int64), (c1v = own_c pl1 ask ol t1v (0 : Int64) ∧ s1v = own_s pl1 ask ol t1v la1 (0 : Int64)) ∧ ∀ t, Steps p.tables e below (T2293.setTop (mkF m 272 #[.val (.int ap), .val (.int aq1), .val (.int aq2), .val (.int al1), .val (.int al2), .val (.int fl), .val (.int pl1), .val (.int pl2), .val (.int ask), .val (.int la1), .val (.int la2), .val (.int a1v), .val (.int a2v), .val (.int gv), .val (.int t1v), .val (.int t2v), .val (.int ol), .val (.ref b2288), .val (.double gotv), .second, .val (.int gn1), .val (.int gn2), .val (.long c1v), .second, .val (.long s1v), .second, .unset, .unset] [])) t → Steps p.tables e below (s₁.setTop (entryFrame m #[(.int ap), (.int aq1), (.int aq2), (.int al1), (.int al2), (.int fl)] maxLocals)) t := by
   rcases own_three (pl1 = ask) (ol < t1v) with hq | ⟨hq, h1⟩ | ⟨hq, h1⟩
   ·refine ⟨(0 : Int64), (0 : Int64), ⟨by rw [own_c, if_neg (fun q => hq q.1)], by rw [own_s, if_neg (fun q => hq q.1)]⟩, fun t kt => ?_⟩
    refine R2298 _ ?_
    show Steps _ _ _ (T2293.setTop (mkF m 250 #[.val (.int ap), .val (.int aq1), .val (.int aq2), .val (.int al1), .val (.int al2), .val (.int fl), .val (.int pl1), .val (.int pl2), .val (.int ask), .val (.int la1), .val (.int la2), .val (.int a1v), .val (.int a2v), .val (.int gv), .val (.int t1v), .val (.int t2v), .val (.int ol), .val (.ref b2288), .val (.double gotv), .second, .val (.int gn1), .val (.int gn2), .val (.long (0 : Int64)), .second, .val (.long (0 : Int64)), .second, .unset, .unset] [(.int ask), (.int pl1)])) _
    refine XS.icmpYes X2293.here hx rfl (pc0 := 250) (pc' := 272) rfl (hb hby at_250) rfl (feq hq).2 (by decide) (by decide) ?_
    exact kt
   ·refine ⟨(0 : Int64), (0 : Int64), ⟨by rw [own_c, if_neg (fun q => h1 q.2)], by rw [own_s, if_neg (fun q => h1 q.2)]⟩, fun t kt => ?_⟩
    refine R2298 _ ?_
    show Steps _ _ _ (T2293.setTop (mkF m 250 #[.val (.int ap), .val (.int aq1), .val (.int aq2), .val (.int al1), .val (.int al2), .val (.int fl), .val (.int pl1), .val (.int pl2), .val (.int ask), .val (.int la1), .val (.int la2), .val (.int a1v), .val (.int a2v), .val (.int gv), .val (.int t1v), .val (.int t2v), .val (.int ol), .val (.ref b2288), .val (.double gotv), .second, .val (.int gn1), .val (.int gn2), .val (.long (0 : Int64)), .second, .val (.long (0 : Int64)), .second, .unset, .unset] [(.int ask), (.int pl1)])) _
    refine XS.icmpNo X2293.here hx rfl (hb hby at_250) rfl (teq hq).2 ?_
    refine XS.iload X2293.here hx rfl (hb hby at_253) rfl ?_
    refine XS.ifYes X2293.here hx rfl (pc0 := 255) (pc' := 272) rfl (hb hby at_255) rfl ((if0 _ _).trans (feq (own_gne (hgn1.trans (if_neg h1)))).2) (by decide) (by decide) ?_
    exact kt
   ·refine ⟨(1 : Int64), ((0 : Int64) + (la1.toInt64)), ⟨by rw [own_c, if_pos ⟨hq, h1⟩] <;> decide, by rw [own_s, if_pos ⟨hq, h1⟩]⟩, fun t kt => ?_⟩
    refine R2298 _ ?_
    show Steps _ _ _ (T2293.setTop (mkF m 250 #[.val (.int ap), .val (.int aq1), .val (.int aq2), .val (.int al1), .val (.int al2), .val (.int fl), .val (.int pl1), .val (.int pl2), .val (.int ask), .val (.int la1), .val (.int la2), .val (.int a1v), .val (.int a2v), .val (.int gv), .val (.int t1v), .val (.int t2v), .val (.int ol), .val (.ref b2288), .val (.double gotv), .second, .val (.int gn1), .val (.int gn2), .val (.long (0 : Int64)), .second, .val (.long (0 : Int64)), .second, .unset, .unset] [(.int ask), (.int pl1)])) _
    refine XS.icmpNo X2293.here hx rfl (hb hby at_250) rfl (teq hq).2 ?_
    refine XS.iload X2293.here hx rfl (hb hby at_253) rfl ?_
    refine XS.ifNo X2293.here hx rfl (hb hby at_255) rfl ((if0 _ _).trans (teq (hgn1.trans (if_pos h1))).2) ?_
    refine XS.lload X2293.here hx rfl (hb hby at_258) rfl ?_
    show Steps _ _ _ (T2293.setTop (mkF m 260 #[.val (.int ap), .val (.int aq1), .val (.int aq2), .val (.int al1), .val (.int al2), .val (.int fl), .val (.int pl1), .val (.int pl2), .val (.int ask), .val (.int la1), .val (.int la2), .val (.int a1v), .val (.int a2v), .val (.int gv), .val (.int t1v), .val (.int t2v), .val (.int ol), .val (.ref b2288), .val (.double gotv), .second, .val (.int gn1), .val (.int gn2), .val (.long (0 : Int64)), .second, .val (.long (0 : Int64)), .second, .unset, .unset] [(.long (0 : Int64))])) _
    refine XS.lconst X2293.here hx rfl (hb hby at_260) ?_
    refine XS.ladd X2293.here hx rfl (hb hby at_261) rfl ?_
    refine XS.lstore X2293.here hx rfl (hb hby at_262) rfl (l' := #[.val (.int ap), .val (.int aq1), .val (.int aq2), .val (.int al1), .val (.int al2), .val (.int fl), .val (.int pl1), .val (.int pl2), .val (.int ask), .val (.int la1), .val (.int la2), .val (.int a1v), .val (.int a2v), .val (.int gv), .val (.int t1v), .val (.int t2v), .val (.int ol), .val (.ref b2288), .val (.double gotv), .second, .val (.int gn1), .val (.int gn2), .val (.long (1 : Int64)), .second, .val (.long (0 : Int64)), .second, .unset, .unset]) rfl ?_
    refine XS.lload X2293.here hx rfl (hb hby at_264) rfl ?_
    show Steps _ _ _ (T2293.setTop (mkF m 266 #[.val (.int ap), .val (.int aq1), .val (.int aq2), .val (.int al1), .val (.int al2), .val (.int fl), .val (.int pl1), .val (.int pl2), .val (.int ask), .val (.int la1), .val (.int la2), .val (.int a1v), .val (.int a2v), .val (.int gv), .val (.int t1v), .val (.int t2v), .val (.int ol), .val (.ref b2288), .val (.double gotv), .second, .val (.int gn1), .val (.int gn2), .val (.long (1 : Int64)), .second, .val (.long (0 : Int64)), .second, .unset, .unset] [(.long (0 : Int64))])) _
    refine XS.iload X2293.here hx rfl (hb hby at_266) rfl ?_
    refine XS.i2l X2293.here hx rfl (hb hby at_268) rfl ?_
    refine XS.ladd X2293.here hx rfl (hb hby at_269) rfl ?_
    refine XS.lstore X2293.here hx rfl (hb hby at_270) rfl (l' := #[.val (.int ap), .val (.int aq1), .val (.int aq2), .val (.int al1), .val (.int al2), .val (.int fl), .val (.int pl1), .val (.int pl2), .val (.int ask), .val (.int la1), .val (.int la2), .val (.int a1v), .val (.int a2v), .val (.int gv), .val (.int t1v), .val (.int t2v), .val (.int ol), .val (.ref b2288), .val (.double gotv), .second, .val (.int gn1), .val (.int gn2), .val (.long (1 : Int64)), .second, .val (.long ((0 : Int64) + (la1.toInt64))), .second, .unset, .unset]) rfl ?_
    exact kt
  have hcs1 := hp2299
  have R2300 : ∀ t, Steps p.tables e below (T2293.setTop (mkF m 276 #[.val (.int ap), .val (.int aq1), .val (.int aq2), .val (.int al1), .val (.int al2), .val (.int fl), .val (.int pl1), .val (.int pl2), .val (.int ask), .val (.int la1), .val (.int la2), .val (.int a1v), .val (.int a2v), .val (.int gv), .val (.int t1v), .val (.int t2v), .val (.int ol), .val (.ref b2288), .val (.double gotv), .second, .val (.int gn1), .val (.int gn2), .val (.long c1v), .second, .val (.long s1v), .second, .unset, .unset] [(.int ask), (.int pl2)])) t → Steps p.tables e below (s₁.setTop (entryFrame m #[(.int ap), (.int aq1), (.int aq2), (.int al1), (.int al2), (.int fl)] maxLocals)) t := by
   intro t kt
   refine R2299 _ ?_
   show Steps _ _ _ (T2293.setTop (mkF m 272 #[.val (.int ap), .val (.int aq1), .val (.int aq2), .val (.int al1), .val (.int al2), .val (.int fl), .val (.int pl1), .val (.int pl2), .val (.int ask), .val (.int la1), .val (.int la2), .val (.int a1v), .val (.int a2v), .val (.int gv), .val (.int t1v), .val (.int t2v), .val (.int ol), .val (.ref b2288), .val (.double gotv), .second, .val (.int gn1), .val (.int gn2), .val (.long c1v), .second, .val (.long s1v), .second, .unset, .unset] [])) _
   refine XS.iload X2293.here hx rfl (hb hby at_272) rfl ?_
   refine XS.iload X2293.here hx rfl (hb hby at_274) rfl ?_
   show Steps _ _ _ (T2293.setTop (mkF m 276 #[.val (.int ap), .val (.int aq1), .val (.int aq2), .val (.int al1), .val (.int al2), .val (.int fl), .val (.int pl1), .val (.int pl2), .val (.int ask), .val (.int la1), .val (.int la2), .val (.int a1v), .val (.int a2v), .val (.int gv), .val (.int t1v), .val (.int t2v), .val (.int ol), .val (.ref b2288), .val (.double gotv), .second, .val (.int gn1), .val (.int gn2), .val (.long c1v), .second, .val (.long s1v), .second, .unset, .unset] [(.int ask), (.int pl2)])) _
   exact kt
  obtain ⟨c2v, s2v, hp2301, R2301⟩ : ∃ (c2v : Int64) (s2v : Int64), (c2v = own_c pl2 ask ol t2v c1v ∧ s2v = own_s pl2 ask ol t2v la2 s1v) ∧ ∀ t, Steps p.tables e below (T2293.setTop (mkF m 298 #[.val (.int ap), .val (.int aq1), .val (.int aq2), .val (.int al1), .val (.int al2), .val (.int fl), .val (.int pl1), .val (.int pl2), .val (.int ask), .val (.int la1), .val (.int la2), .val (.int a1v), .val (.int a2v), .val (.int gv), .val (.int t1v), .val (.int t2v), .val (.int ol), .val (.ref b2288), .val (.double gotv), .second, .val (.int gn1), .val (.int gn2), .val (.long c2v), .second, .val (.long s2v), .second, .unset, .unset] [])) t → Steps p.tables e below (s₁.setTop (entryFrame m #[(.int ap), (.int aq1), (.int aq2), (.int al1), (.int al2), (.int fl)] maxLocals)) t := by
   rcases own_three (pl2 = ask) (ol < t2v) with hq | ⟨hq, h1⟩ | ⟨hq, h1⟩
   ·refine ⟨c1v, s1v, ⟨by rw [own_c, if_neg (fun q => hq q.1)], by rw [own_s, if_neg (fun q => hq q.1)]⟩, fun t kt => ?_⟩
    refine R2300 _ ?_
    show Steps _ _ _ (T2293.setTop (mkF m 276 #[.val (.int ap), .val (.int aq1), .val (.int aq2), .val (.int al1), .val (.int al2), .val (.int fl), .val (.int pl1), .val (.int pl2), .val (.int ask), .val (.int la1), .val (.int la2), .val (.int a1v), .val (.int a2v), .val (.int gv), .val (.int t1v), .val (.int t2v), .val (.int ol), .val (.ref b2288), .val (.double gotv), .second, .val (.int gn1), .val (.int gn2), .val (.long c1v), .second, .val (.long s1v), .second, .unset, .unset] [(.int ask), (.int pl2)])) _
    refine XS.icmpYes X2293.here hx rfl (pc0 := 276) (pc' := 298) rfl (hb hby at_276) rfl (feq hq).2 (by decide) (by decide) ?_
    exact kt
   ·refine ⟨c1v, s1v, ⟨by rw [own_c, if_neg (fun q => h1 q.2)], by rw [own_s, if_neg (fun q => h1 q.2)]⟩, fun t kt => ?_⟩
    refine R2300 _ ?_
    show Steps _ _ _ (T2293.setTop (mkF m 276 #[.val (.int ap), .val (.int aq1), .val (.int aq2), .val (.int al1), .val (.int al2), .val (.int fl), .val (.int pl1), .val (.int pl2), .val (.int ask), .val (.int la1), .val (.int la2), .val (.int a1v), .val (.int a2v), .val (.int gv), .val (.int t1v), .val (.int t2v), .val (.int ol), .val (.ref b2288), .val (.double gotv), .second, .val (.int gn1), .val (.int gn2), .val (.long c1v), .second, .val (.long s1v), .second, .unset, .unset] [(.int ask), (.int pl2)])) _
    refine XS.icmpNo X2293.here hx rfl (hb hby at_276) rfl (teq hq).2 ?_
    refine XS.iload X2293.here hx rfl (hb hby at_279) rfl ?_
    refine XS.ifYes X2293.here hx rfl (pc0 := 281) (pc' := 298) rfl (hb hby at_281) rfl ((if0 _ _).trans (feq (own_gne (hgn2.trans (if_neg h1)))).2) (by decide) (by decide) ?_
    exact kt
   ·refine ⟨(c1v + (1 : Int64)), (s1v + (la2.toInt64)), ⟨by rw [own_c, if_pos ⟨hq, h1⟩] <;> decide, by rw [own_s, if_pos ⟨hq, h1⟩]⟩, fun t kt => ?_⟩
    refine R2300 _ ?_
    show Steps _ _ _ (T2293.setTop (mkF m 276 #[.val (.int ap), .val (.int aq1), .val (.int aq2), .val (.int al1), .val (.int al2), .val (.int fl), .val (.int pl1), .val (.int pl2), .val (.int ask), .val (.int la1), .val (.int la2), .val (.int a1v), .val (.int a2v), .val (.int gv), .val (.int t1v), .val (.int t2v), .val (.int ol), .val (.ref b2288), .val (.double gotv), .second, .val (.int gn1), .val (.int gn2), .val (.long c1v), .second, .val (.long s1v), .second, .unset, .unset] [(.int ask), (.int pl2)])) _
    refine XS.icmpNo X2293.here hx rfl (hb hby at_276) rfl (teq hq).2 ?_
    refine XS.iload X2293.here hx rfl (hb hby at_279) rfl ?_
    refine XS.ifNo X2293.here hx rfl (hb hby at_281) rfl ((if0 _ _).trans (teq (hgn2.trans (if_pos h1))).2) ?_
    refine XS.lload X2293.here hx rfl (hb hby at_284) rfl ?_
    show Steps _ _ _ (T2293.setTop (mkF m 286 #[.val (.int ap), .val (.int aq1), .val (.int aq2), .val (.int al1), .val (.int al2), .val (.int fl), .val (.int pl1), .val (.int pl2), .val (.int ask), .val (.int la1), .val (.int la2), .val (.int a1v), .val (.int a2v), .val (.int gv), .val (.int t1v), .val (.int t2v), .val (.int ol), .val (.ref b2288), .val (.double gotv), .second, .val (.int gn1), .val (.int gn2), .val (.long c1v), .second, .val (.long s1v), .second, .unset, .unset] [(.long c1v)])) _
    refine XS.lconst X2293.here hx rfl (hb hby at_286) ?_
    refine XS.ladd X2293.here hx rfl (hb hby at_287) rfl ?_
    refine XS.lstore X2293.here hx rfl (hb hby at_288) rfl (l' := #[.val (.int ap), .val (.int aq1), .val (.int aq2), .val (.int al1), .val (.int al2), .val (.int fl), .val (.int pl1), .val (.int pl2), .val (.int ask), .val (.int la1), .val (.int la2), .val (.int a1v), .val (.int a2v), .val (.int gv), .val (.int t1v), .val (.int t2v), .val (.int ol), .val (.ref b2288), .val (.double gotv), .second, .val (.int gn1), .val (.int gn2), .val (.long (c1v + (1 : Int64))), .second, .val (.long s1v), .second, .unset, .unset]) rfl ?_
    refine XS.lload X2293.here hx rfl (hb hby at_290) rfl ?_
    show Steps _ _ _ (T2293.setTop (mkF m 292 #[.val (.int ap), .val (.int aq1), .val (.int aq2), .val (.int al1), .val (.int al2), .val (.int fl), .val (.int pl1), .val (.int pl2), .val (.int ask), .val (.int la1), .val (.int la2), .val (.int a1v), .val (.int a2v), .val (.int gv), .val (.int t1v), .val (.int t2v), .val (.int ol), .val (.ref b2288), .val (.double gotv), .second, .val (.int gn1), .val (.int gn2), .val (.long (c1v + (1 : Int64))), .second, .val (.long s1v), .second, .unset, .unset] [(.long s1v)])) _
    refine XS.iload X2293.here hx rfl (hb hby at_292) rfl ?_
    refine XS.i2l X2293.here hx rfl (hb hby at_294) rfl ?_
    refine XS.ladd X2293.here hx rfl (hb hby at_295) rfl ?_
    refine XS.lstore X2293.here hx rfl (hb hby at_296) rfl (l' := #[.val (.int ap), .val (.int aq1), .val (.int aq2), .val (.int al1), .val (.int al2), .val (.int fl), .val (.int pl1), .val (.int pl2), .val (.int ask), .val (.int la1), .val (.int la2), .val (.int a1v), .val (.int a2v), .val (.int gv), .val (.int t1v), .val (.int t2v), .val (.int ol), .val (.ref b2288), .val (.double gotv), .second, .val (.int gn1), .val (.int gn2), .val (.long (c1v + (1 : Int64))), .second, .val (.long (s1v + (la2.toInt64))), .second, .unset, .unset]) rfl ?_
    exact kt
  have hcs2 := hp2301
  have hfin : (F2 ask.toNatClampNeg) = c2v ∧ (G2 ask.toNatClampNeg) = s2v := own_fin0 hF1 hF2 hG1 hG2 hb1 hb2 hb3 htt hol hg0 hcs1 hcs2
  have R2302 : ∀ t, Steps p.tables e below (T2293.setTop (mkF m 302 #[.val (.int ap), .val (.int aq1), .val (.int aq2), .val (.int al1), .val (.int al2), .val (.int fl), .val (.int pl1), .val (.int pl2), .val (.int ask), .val (.int la1), .val (.int la2), .val (.int a1v), .val (.int a2v), .val (.int gv), .val (.int t1v), .val (.int t2v), .val (.int ol), .val (.ref b2288), .val (.double gotv), .second, .val (.int gn1), .val (.int gn2), .val (.long c2v), .second, .val (.long s2v), .second, .unset, .unset] [(.int (lcmpW c2v (0 : Int64)))])) t → Steps p.tables e below (s₁.setTop (entryFrame m #[(.int ap), (.int aq1), (.int aq2), (.int al1), (.int al2), (.int fl)] maxLocals)) t := by
   intro t kt
   refine R2301 _ ?_
   show Steps _ _ _ (T2293.setTop (mkF m 298 #[.val (.int ap), .val (.int aq1), .val (.int aq2), .val (.int al1), .val (.int al2), .val (.int fl), .val (.int pl1), .val (.int pl2), .val (.int ask), .val (.int la1), .val (.int la2), .val (.int a1v), .val (.int a2v), .val (.int gv), .val (.int t1v), .val (.int t2v), .val (.int ol), .val (.ref b2288), .val (.double gotv), .second, .val (.int gn1), .val (.int gn2), .val (.long c2v), .second, .val (.long s2v), .second, .unset, .unset] [])) _
   refine XS.lload X2293.here hx rfl (hb hby at_298) rfl ?_
   refine XS.lconst X2293.here hx rfl (hb hby at_300) ?_
   refine XS.lcmp X2293.here hx rfl (hb hby at_301) rfl ?_
   show Steps _ _ _ (T2293.setTop (mkF m 302 #[.val (.int ap), .val (.int aq1), .val (.int aq2), .val (.int al1), .val (.int al2), .val (.int fl), .val (.int pl1), .val (.int pl2), .val (.int ask), .val (.int la1), .val (.int la2), .val (.int a1v), .val (.int a2v), .val (.int gv), .val (.int t1v), .val (.int t2v), .val (.int ol), .val (.ref b2288), .val (.double gotv), .second, .val (.int gn1), .val (.int gn2), .val (.long c2v), .second, .val (.long s2v), .second, .unset, .unset] [(.int (lcmpW c2v (0 : Int64)))])) _
   exact kt
  obtain ⟨exv, hp2303, R2303⟩ : ∃ (exv : UInt64), (exv = own_lat c2v s2v) ∧ ∀ t, Steps p.tables e below (T2293.setTop (mkF m 318 #[.val (.int ap), .val (.int aq1), .val (.int aq2), .val (.int al1), .val (.int al2), .val (.int fl), .val (.int pl1), .val (.int pl2), .val (.int ask), .val (.int la1), .val (.int la2), .val (.int a1v), .val (.int a2v), .val (.int gv), .val (.int t1v), .val (.int t2v), .val (.int ol), .val (.ref b2288), .val (.double gotv), .second, .val (.int gn1), .val (.int gn2), .val (.long c2v), .second, .val (.long s2v), .second, .val (.double exv), .second] [])) t → Steps p.tables e below (s₁.setTop (entryFrame m #[(.int ap), (.int aq1), (.int aq2), (.int al1), (.int al2), (.int fl)] maxLocals)) t := by
   by_cases hq : c2v = 0
   ·refine ⟨(FP.l2d 0), (by rw [own_lat, if_pos hq]), fun t kt => ?_⟩
    refine R2302 _ ?_
    show Steps _ _ _ (T2293.setTop (mkF m 302 #[.val (.int ap), .val (.int aq1), .val (.int aq2), .val (.int al1), .val (.int al2), .val (.int fl), .val (.int pl1), .val (.int pl2), .val (.int ask), .val (.int la1), .val (.int la2), .val (.int a1v), .val (.int a2v), .val (.int gv), .val (.int t1v), .val (.int t2v), .val (.int ol), .val (.ref b2288), .val (.double gotv), .second, .val (.int gn1), .val (.int gn2), .val (.long c2v), .second, .val (.long s2v), .second, .unset, .unset] [(.int (lcmpW c2v (0 : Int64)))])) _
    refine XS.ifNo X2293.here hx rfl (hb hby at_302) rfl ((if0 _ _).trans (teq ((lw_eq _ _).mpr hq)).2) ?_
    refine XS.dconst0 X2293.here hx rfl (hb hby at_305) (v := (FP.l2d 0)) own_d0 ?_
    refine XS.goto X2293.here hx rfl (pc0 := 306) (pc' := 316) rfl (hb hby at_306) (by decide) (by decide) ?_
    refine XS.dstore X2293.here hx rfl (hb hby at_316) rfl (l' := #[.val (.int ap), .val (.int aq1), .val (.int aq2), .val (.int al1), .val (.int al2), .val (.int fl), .val (.int pl1), .val (.int pl2), .val (.int ask), .val (.int la1), .val (.int la2), .val (.int a1v), .val (.int a2v), .val (.int gv), .val (.int t1v), .val (.int t2v), .val (.int ol), .val (.ref b2288), .val (.double gotv), .second, .val (.int gn1), .val (.int gn2), .val (.long c2v), .second, .val (.long s2v), .second, .val (.double (FP.l2d 0)), .second]) rfl ?_
    exact kt
   ·refine ⟨(FP.ddiv (FP.l2d s2v) (FP.l2d c2v)), (by rw [own_lat, if_neg hq]), fun t kt => ?_⟩
    refine R2302 _ ?_
    show Steps _ _ _ (T2293.setTop (mkF m 302 #[.val (.int ap), .val (.int aq1), .val (.int aq2), .val (.int al1), .val (.int al2), .val (.int fl), .val (.int pl1), .val (.int pl2), .val (.int ask), .val (.int la1), .val (.int la2), .val (.int a1v), .val (.int a2v), .val (.int gv), .val (.int t1v), .val (.int t2v), .val (.int ol), .val (.ref b2288), .val (.double gotv), .second, .val (.int gn1), .val (.int gn2), .val (.long c2v), .second, .val (.long s2v), .second, .unset, .unset] [(.int (lcmpW c2v (0 : Int64)))])) _
    refine XS.ifYes X2293.here hx rfl (pc0 := 302) (pc' := 309) rfl (hb hby at_302) rfl ((if0 _ _).trans (feq (fun q => hq ((lw_eq _ _).mp q))).2) (by decide) (by decide) ?_
    refine XS.lload X2293.here hx rfl (hb hby at_309) rfl ?_
    refine XS.l2dS X2293.here hx rfl (hb hby at_311) rfl (v := (FP.l2d s2v)) rfl ?_
    refine XS.lload X2293.here hx rfl (hb hby at_312) rfl ?_
    show Steps _ _ _ (T2293.setTop (mkF m 314 #[.val (.int ap), .val (.int aq1), .val (.int aq2), .val (.int al1), .val (.int al2), .val (.int fl), .val (.int pl1), .val (.int pl2), .val (.int ask), .val (.int la1), .val (.int la2), .val (.int a1v), .val (.int a2v), .val (.int gv), .val (.int t1v), .val (.int t2v), .val (.int ol), .val (.ref b2288), .val (.double gotv), .second, .val (.int gn1), .val (.int gn2), .val (.long c2v), .second, .val (.long s2v), .second, .unset, .unset] [(.long c2v), (.double (FP.l2d s2v))])) _
    refine XS.l2dS X2293.here hx rfl (hb hby at_314) rfl (v := (FP.l2d c2v)) rfl ?_
    refine XS.ddivS X2293.here hx rfl (hb hby at_315) rfl (v := (FP.ddiv (FP.l2d s2v) (FP.l2d c2v))) (own_divNN hq) rfl ?_
    refine XS.dstore X2293.here hx rfl (hb hby at_316) rfl (l' := #[.val (.int ap), .val (.int aq1), .val (.int aq2), .val (.int al1), .val (.int al2), .val (.int fl), .val (.int pl1), .val (.int pl2), .val (.int ask), .val (.int la1), .val (.int la2), .val (.int a1v), .val (.int a2v), .val (.int gv), .val (.int t1v), .val (.int t2v), .val (.int ol), .val (.ref b2288), .val (.double gotv), .second, .val (.int gn1), .val (.int gn2), .val (.long c2v), .second, .val (.long s2v), .second, .val (.double (FP.ddiv (FP.l2d s2v) (FP.l2d c2v))), .second]) rfl ?_
    exact kt
  have hex := hp2303
  obtain ⟨fs, hr, hrun, hended, hW, hsame⟩ := X2293.leave (v := some (.int (1 : Int32))) (fun h => by rw [Bd.returns] at h; cases h)
  refine ⟨_, _, ?_, hrun, hended, _, _, rfl, ?_, ⟨_, rfl⟩, hW, hsame.mono (by decide) (by decide)⟩
  ·refine R2303 _ ?_
   show Steps _ _ _ (T2293.setTop (mkF m 318 #[.val (.int ap), .val (.int aq1), .val (.int aq2), .val (.int al1), .val (.int al2), .val (.int fl), .val (.int pl1), .val (.int pl2), .val (.int ask), .val (.int la1), .val (.int la2), .val (.int a1v), .val (.int a2v), .val (.int gv), .val (.int t1v), .val (.int t2v), .val (.int ol), .val (.ref b2288), .val (.double gotv), .second, .val (.int gn1), .val (.int gn2), .val (.long c2v), .second, .val (.long s2v), .second, .val (.double exv), .second] [])) _
   refine XS.dload X2293.here hx rfl (hb hby at_318) rfl ?_
   refine XS.dload X2293.here hx rfl (hb hby at_320) rfl ?_
   refine XS.dcmpS X2293.here hx rfl (hb hby at_322) rfl (v := (0 : Int32)) (by rw [hex, ← hgot]; exact own_eqlat hfin.1 hfin.2 _) ?_
   refine XS.ifNo X2293.here hx rfl (hb hby at_323) rfl (by decide) ?_
   show Steps _ _ _ (T2293.setTop (mkF m 326 #[.val (.int ap), .val (.int aq1), .val (.int aq2), .val (.int al1), .val (.int al2), .val (.int fl), .val (.int pl1), .val (.int pl2), .val (.int ask), .val (.int la1), .val (.int la2), .val (.int a1v), .val (.int a2v), .val (.int gv), .val (.int t1v), .val (.int t2v), .val (.int ol), .val (.ref b2288), .val (.double gotv), .second, .val (.int gn1), .val (.int gn2), .val (.long c2v), .second, .val (.long s2v), .second, .val (.double exv), .second] [])) _
   refine XS.iconst X2293.here hx rfl (hb hby at_326) ?_
   refine XS.goto X2293.here hx rfl (pc0 := 327) (pc' := 331) rfl (hb hby at_327) (by decide) (by decide) ?_
   show Steps _ _ _ (T2293.setTop (mkF m 331 #[.val (.int ap), .val (.int aq1), .val (.int aq2), .val (.int al1), .val (.int al2), .val (.int fl), .val (.int pl1), .val (.int pl2), .val (.int ask), .val (.int la1), .val (.int la2), .val (.int a1v), .val (.int a2v), .val (.int gv), .val (.int t1v), .val (.int t2v), .val (.int ol), .val (.ref b2288), .val (.double gotv), .second, .val (.int gn1), .val (.int gn2), .val (.long c2v), .second, .val (.long s2v), .second, .val (.double exv), .second] [(.int (1 : Int32))])) _
   exact retN X2293 hx (t := .boolean) Bd.returns (by simp) (hb hby at_331) hr
  ·show Q0 Z ap aq1 aq2 al1 al2 fl h0 n0 _ T2293.heap _
   rw [eq2293]
   exact ⟨rfl, N2293⟩
 ·
  have hit := own_itB gv
  rw [← hol] at hit
  have hgb2 : ∀ i, own_B 4294967296 (G2 i) := own_G2 hG1 hG2 hlb1 hlb2
  have hR2l : R2.length ≤ 2 := by rw [hR2]; split <;> (try rw [List.length_append]) <;> (try show R1.length + 1 ≤ 2) <;> omega
  have hrec : ∀ r ∈ R2, ¬ r.1 < 0 ∧ ¬ (63 : Int32) < r.1 ∧ r.1 < n2 ∧ own_B 1000 r.2.1 ∧ own_B 2147483648 r.2.2 := own_R2 hR1 hR2 ⟨hb1.1, hb1.2, hpn12, htb1, hlb1⟩ ⟨hb2.1, hb2.2, hpn2, htb2, hlb2⟩
  obtain ⟨cq2304, kq2304, q2304a, q2304b, q2304c⟩ := isOf hZ rfl EA2291
  obtain ⟨_, _, ⟨T2304, L2304, k2304, n2304⟩, -, X2304, ⟨Lc2304, hQ2304, l2304, y2304, z2304⟩, st2304⟩ := X2291.virtualBack hx (y := (⟨sRA, "forgetUntil", "(D)V"⟩ : MethodName)) (z := (⟨sRA, "forgetUntil", "(D)V"⟩ : MethodName)) hown (mvT hZ (wd hw 158 rfl)) (mvT hZ (wd hw 159 rfl)) (notFace_of_selects (args := #[]) (mvT hZ (wd hw 161 rfl))) (mvT hZ (wd hw 161 rfl)) (mvT hZ (wd hw 160 rfl)) (by decide) (backOf (W := 0) (rmFG l Z a0 hw [] b2288 ((ol + (10 : Int32)).toInt64) ec2 el2 qa q kec2 kel2 n2 F2 G2 R2 T2291.heap n0 (Nat.le_trans Z0 K2291.1) S2291 hR2l hit.1 hit.2 hgb2 hrec) hZ (wd hw 162 rfl) (wd hw 11 rfl) (by decide) (by decide)) q2304a q2304c (g := (mkF m 200 #[.val (.int ap), .val (.int aq1), .val (.int aq2), .val (.int al1), .val (.int al2), .val (.int fl), .val (.int pl1), .val (.int pl2), .val (.int ask), .val (.int la1), .val (.int la2), .val (.int a1v), .val (.int a2v), .val (.int gv), .val (.int t1v), .val (.int t2v), .val (.int ol), .val (.ref b2288), .unset, .unset, .unset, .unset, .unset, .unset, .unset, .unset, .unset, .unset] [(.double (FP.l2d ((ol + (10 : Int32)).toInt64))), (.ref b2288)])) rfl (by rw [hml]; rfl) (Steps.refl _) (argsL := [(.double (FP.l2d ((ol + (10 : Int32)).toInt64)))]) (rest := []) (lenOf pd_14 rfl) rfl (by show 2 * 0 + _ ≤ _; exact Nat.le_of_eq rfl) (hb hby at_200) (fun _ _ => ⟨rfl, rfl, (by decide : 26 + 0 ≤ _), (by decide : 719 + 0 ≤ _)⟩)
  dsimp only [Pt.U, Pt.locs, Pt.cells, Pt.slots] at X2304 l2304 y2304 z2304 st2304 hQ2304
  rw [l2304, y2304, z2304] at X2304
  obtain ⟨hv2304, Nq2304, Kc2304, Ex2304, Fe2304, Fl2304, Ve2304, Vl2304⟩ := hQ2304
  rw [hv2304] at st2304
  have K2304 : h0.size ≤ T2304.heap.size ∧ True := ⟨Nat.le_trans K2291.1 Kc2304, trivial⟩
  have N2304 := Fr.app N2291 Nq2304
  obtain ⟨gotv, hgot⟩ : ∃ z, own_lat ((own_fgC R2 (((ol + (10 : Int32)).toInt64) - 10) F2) ask.toNatClampNeg) ((own_fgS R2 (((ol + (10 : Int32)).toInt64) - 10) G2) ask.toNatClampNeg) = z := ⟨_, rfl⟩
  obtain ⟨cq2305, kq2305, q2305a, q2305b, q2305c⟩ := isOf hZ rfl Ex2304
  obtain ⟨_, _, ⟨T2305, L2305, k2305, n2305⟩, -, X2305, ⟨Lc2305, hQ2305, l2305, y2305, z2305⟩, st2305⟩ := X2304.virtualBack hx (y := (⟨sRA, "executorLatency", "(I)D"⟩ : MethodName)) (z := (⟨sRA, "executorLatency", "(I)D"⟩ : MethodName)) hown (mvT hZ (wd hw 140 rfl)) (mvT hZ (wd hw 141 rfl)) (notFace_of_selects (args := #[]) (mvT hZ (wd hw 143 rfl))) (mvT hZ (wd hw 143 rfl)) (mvT hZ (wd hw 142 rfl)) (by decide) (backOf (W := 0) (rmEX l Z a0 hw [] b2288 ask ec2 el2 kec2 kel2 n2 (own_fgC R2 (((ol + (10 : Int32)).toInt64) - 10) F2) (own_fgS R2 (((ol + (10 : Int32)).toInt64) - 10) G2) T2304.heap n0 (Nat.le_trans Z0 K2304.1) Fe2304 Fl2304 Ve2304 Vl2304 (own_fgz hzf2 hR1 hR2 hpn12 hpn2 hb1.1 hb2.1) hb3.1 hb3.2) hZ (wd hw 144 rfl) (wd hw 11 rfl) (by decide) (by decide)) q2305a q2305c (g := (mkF m 207 #[.val (.int ap), .val (.int aq1), .val (.int aq2), .val (.int al1), .val (.int al2), .val (.int fl), .val (.int pl1), .val (.int pl2), .val (.int ask), .val (.int la1), .val (.int la2), .val (.int a1v), .val (.int a2v), .val (.int gv), .val (.int t1v), .val (.int t2v), .val (.int ol), .val (.ref b2288), .unset, .unset, .unset, .unset, .unset, .unset, .unset, .unset, .unset, .unset] [(.int ask), (.ref b2288)])) rfl (by rw [hml]; rfl) (Steps.refl _) (argsL := [(.int ask)]) (rest := []) (lenOf pd_11 rfl) rfl (by show 2 * 0 + _ ≤ _; exact Nat.le_of_eq rfl) (hb hby at_207) (fun _ _ => ⟨rfl, rfl, (by decide : 26 + 0 ≤ _), (by decide : 719 + 0 ≤ _)⟩)
  dsimp only [Pt.U, Pt.locs, Pt.cells, Pt.slots] at X2305 l2305 y2305 z2305 st2305 hQ2305
  rw [l2305, y2305, z2305] at X2305
  obtain ⟨hv2305, Nq2305, eq2305⟩ := hQ2305
  rw [hv2305] at st2305
  have N2305 := Fr.app N2304 Nq2305
  rw [hgot] at st2305
  have R2306 : ∀ t, Steps p.tables e below (T2305.setTop (mkF m 216 #[.val (.int ap), .val (.int aq1), .val (.int aq2), .val (.int al1), .val (.int al2), .val (.int fl), .val (.int pl1), .val (.int pl2), .val (.int ask), .val (.int la1), .val (.int la2), .val (.int a1v), .val (.int a2v), .val (.int gv), .val (.int t1v), .val (.int t2v), .val (.int ol), .val (.ref b2288), .val (.double gotv), .second, .unset, .unset, .unset, .unset, .unset, .unset, .unset, .unset] [(.int ol), (.int t1v)])) t → Steps p.tables e below (s₁.setTop (entryFrame m #[(.int ap), (.int aq1), (.int aq2), (.int al1), (.int al2), (.int fl)] maxLocals)) t := by
   intro t kt
   refine R2292 _ ?_
   show Steps _ _ _ (T2291.setTop (mkF m 189 #[.val (.int ap), .val (.int aq1), .val (.int aq2), .val (.int al1), .val (.int al2), .val (.int fl), .val (.int pl1), .val (.int pl2), .val (.int ask), .val (.int la1), .val (.int la2), .val (.int a1v), .val (.int a2v), .val (.int gv), .val (.int t1v), .val (.int t2v), .val (.int ol), .val (.ref b2288), .unset, .unset, .unset, .unset, .unset, .unset, .unset, .unset, .unset, .unset] [(.int gv)])) _
   refine XS.ifNo X2291.here hx rfl (hb hby at_189) rfl ((if0 _ _).trans (feq hg0).1) ?_
   refine XS.aload X2291.here hx rfl (hb hby at_192) rfl rfl ?_
   refine XS.iload X2291.here hx rfl (hb hby at_194) rfl ?_
   refine XS.bipush X2291.here hx rfl (hb hby at_196) ?_
   show Steps _ _ _ (T2291.setTop (mkF m 198 #[.val (.int ap), .val (.int aq1), .val (.int aq2), .val (.int al1), .val (.int al2), .val (.int fl), .val (.int pl1), .val (.int pl2), .val (.int ask), .val (.int la1), .val (.int la2), .val (.int a1v), .val (.int a2v), .val (.int gv), .val (.int t1v), .val (.int t2v), .val (.int ol), .val (.ref b2288), .unset, .unset, .unset, .unset, .unset, .unset, .unset, .unset, .unset, .unset] [(.int (10 : Int32)), (.int ol), (.ref b2288)])) _
   refine XS.iadd X2291.here hx rfl (hb hby at_198) rfl ?_
   refine XS.i2dS X2291.here hx rfl (hb hby at_199) rfl (v := (FP.l2d ((ol + (10 : Int32)).toInt64))) (i2d_w _) ?_
   refine st2304.trans ?_
   show Steps _ _ _ (T2304.setTop (mkF m 203 #[.val (.int ap), .val (.int aq1), .val (.int aq2), .val (.int al1), .val (.int al2), .val (.int fl), .val (.int pl1), .val (.int pl2), .val (.int ask), .val (.int la1), .val (.int la2), .val (.int a1v), .val (.int a2v), .val (.int gv), .val (.int t1v), .val (.int t2v), .val (.int ol), .val (.ref b2288), .unset, .unset, .unset, .unset, .unset, .unset, .unset, .unset, .unset, .unset] [])) _
   refine XS.aload X2304.here hx rfl (hb hby at_203) rfl rfl ?_
   refine XS.iload X2304.here hx rfl (hb hby at_205) rfl ?_
   refine st2305.trans ?_
   show Steps _ _ _ (T2305.setTop (mkF m 210 #[.val (.int ap), .val (.int aq1), .val (.int aq2), .val (.int al1), .val (.int al2), .val (.int fl), .val (.int pl1), .val (.int pl2), .val (.int ask), .val (.int la1), .val (.int la2), .val (.int a1v), .val (.int a2v), .val (.int gv), .val (.int t1v), .val (.int t2v), .val (.int ol), .val (.ref b2288), .unset, .unset, .unset, .unset, .unset, .unset, .unset, .unset, .unset, .unset] [(.double gotv)])) _
   refine XS.dstore X2305.here hx rfl (hb hby at_210) rfl (l' := #[.val (.int ap), .val (.int aq1), .val (.int aq2), .val (.int al1), .val (.int al2), .val (.int fl), .val (.int pl1), .val (.int pl2), .val (.int ask), .val (.int la1), .val (.int la2), .val (.int a1v), .val (.int a2v), .val (.int gv), .val (.int t1v), .val (.int t2v), .val (.int ol), .val (.ref b2288), .val (.double gotv), .second, .unset, .unset, .unset, .unset, .unset, .unset, .unset, .unset]) rfl ?_
   refine XS.iload X2305.here hx rfl (hb hby at_212) rfl ?_
   refine XS.iload X2305.here hx rfl (hb hby at_214) rfl ?_
   show Steps _ _ _ (T2305.setTop (mkF m 216 #[.val (.int ap), .val (.int aq1), .val (.int aq2), .val (.int al1), .val (.int al2), .val (.int fl), .val (.int pl1), .val (.int pl2), .val (.int ask), .val (.int la1), .val (.int la2), .val (.int a1v), .val (.int a2v), .val (.int gv), .val (.int t1v), .val (.int t2v), .val (.int ol), .val (.ref b2288), .val (.double gotv), .second, .unset, .unset, .unset, .unset, .unset, .unset, .unset, .unset] [(.int ol), (.int t1v)])) _
   exact kt
  obtain ⟨gn1, hp2307, R2307⟩ : ∃ (gn1 : Int32), (gn1 = if ol < t1v then (0 : Int32) else 1) ∧ ∀ t, Steps p.tables e below (T2305.setTop (mkF m 226 #[.val (.int ap), .val (.int aq1), .val (.int aq2), .val (.int al1), .val (.int al2), .val (.int fl), .val (.int pl1), .val (.int pl2), .val (.int ask), .val (.int la1), .val (.int la2), .val (.int a1v), .val (.int a2v), .val (.int gv), .val (.int t1v), .val (.int t2v), .val (.int ol), .val (.ref b2288), .val (.double gotv), .second, .val (.int gn1), .unset, .unset, .unset, .unset, .unset, .unset, .unset] [])) t → Steps p.tables e below (s₁.setTop (entryFrame m #[(.int ap), (.int aq1), (.int aq2), (.int al1), (.int al2), (.int fl)] maxLocals)) t := by
   by_cases hq : ol < t1v
   ·refine ⟨(0 : Int32), (by rw [if_pos hq]), fun t kt => ?_⟩
    refine R2306 _ ?_
    show Steps _ _ _ (T2305.setTop (mkF m 216 #[.val (.int ap), .val (.int aq1), .val (.int aq2), .val (.int al1), .val (.int al2), .val (.int fl), .val (.int pl1), .val (.int pl2), .val (.int ask), .val (.int la1), .val (.int la2), .val (.int a1v), .val (.int a2v), .val (.int gv), .val (.int t1v), .val (.int t2v), .val (.int ol), .val (.ref b2288), .val (.double gotv), .second, .unset, .unset, .unset, .unset, .unset, .unset, .unset, .unset] [(.int ol), (.int t1v)])) _
    refine XS.icmpYes X2305.here hx rfl (pc0 := 216) (pc' := 223) rfl (hb hby at_216) rfl (tlt hq).2.2.1 (by decide) (by decide) ?_
    refine XS.iconst X2305.here hx rfl (hb hby at_223) ?_
    refine XS.istore X2305.here hx rfl (hb hby at_224) rfl (l' := #[.val (.int ap), .val (.int aq1), .val (.int aq2), .val (.int al1), .val (.int al2), .val (.int fl), .val (.int pl1), .val (.int pl2), .val (.int ask), .val (.int la1), .val (.int la2), .val (.int a1v), .val (.int a2v), .val (.int gv), .val (.int t1v), .val (.int t2v), .val (.int ol), .val (.ref b2288), .val (.double gotv), .second, .val (.int (0 : Int32)), .unset, .unset, .unset, .unset, .unset, .unset, .unset]) rfl ?_
    exact kt
   ·refine ⟨(1 : Int32), (by rw [if_neg hq]), fun t kt => ?_⟩
    refine R2306 _ ?_
    show Steps _ _ _ (T2305.setTop (mkF m 216 #[.val (.int ap), .val (.int aq1), .val (.int aq2), .val (.int al1), .val (.int al2), .val (.int fl), .val (.int pl1), .val (.int pl2), .val (.int ask), .val (.int la1), .val (.int la2), .val (.int a1v), .val (.int a2v), .val (.int gv), .val (.int t1v), .val (.int t2v), .val (.int ol), .val (.ref b2288), .val (.double gotv), .second, .unset, .unset, .unset, .unset, .unset, .unset, .unset, .unset] [(.int ol), (.int t1v)])) _
    refine XS.icmpNo X2305.here hx rfl (hb hby at_216) rfl (flt hq).2.2.1 ?_
    show Steps _ _ _ (T2305.setTop (mkF m 219 #[.val (.int ap), .val (.int aq1), .val (.int aq2), .val (.int al1), .val (.int al2), .val (.int fl), .val (.int pl1), .val (.int pl2), .val (.int ask), .val (.int la1), .val (.int la2), .val (.int a1v), .val (.int a2v), .val (.int gv), .val (.int t1v), .val (.int t2v), .val (.int ol), .val (.ref b2288), .val (.double gotv), .second, .unset, .unset, .unset, .unset, .unset, .unset, .unset, .unset] [])) _
    refine XS.iconst X2305.here hx rfl (hb hby at_219) ?_
    refine XS.goto X2305.here hx rfl (pc0 := 220) (pc' := 224) rfl (hb hby at_220) (by decide) (by decide) ?_
    refine XS.istore X2305.here hx rfl (hb hby at_224) rfl (l' := #[.val (.int ap), .val (.int aq1), .val (.int aq2), .val (.int al1), .val (.int al2), .val (.int fl), .val (.int pl1), .val (.int pl2), .val (.int ask), .val (.int la1), .val (.int la2), .val (.int a1v), .val (.int a2v), .val (.int gv), .val (.int t1v), .val (.int t2v), .val (.int ol), .val (.ref b2288), .val (.double gotv), .second, .val (.int (1 : Int32)), .unset, .unset, .unset, .unset, .unset, .unset, .unset]) rfl ?_
    exact kt
  have hgn1 := hp2307
  have R2308 : ∀ t, Steps p.tables e below (T2305.setTop (mkF m 230 #[.val (.int ap), .val (.int aq1), .val (.int aq2), .val (.int al1), .val (.int al2), .val (.int fl), .val (.int pl1), .val (.int pl2), .val (.int ask), .val (.int la1), .val (.int la2), .val (.int a1v), .val (.int a2v), .val (.int gv), .val (.int t1v), .val (.int t2v), .val (.int ol), .val (.ref b2288), .val (.double gotv), .second, .val (.int gn1), .unset, .unset, .unset, .unset, .unset, .unset, .unset] [(.int ol), (.int t2v)])) t → Steps p.tables e below (s₁.setTop (entryFrame m #[(.int ap), (.int aq1), (.int aq2), (.int al1), (.int al2), (.int fl)] maxLocals)) t := by
   intro t kt
   refine R2307 _ ?_
   show Steps _ _ _ (T2305.setTop (mkF m 226 #[.val (.int ap), .val (.int aq1), .val (.int aq2), .val (.int al1), .val (.int al2), .val (.int fl), .val (.int pl1), .val (.int pl2), .val (.int ask), .val (.int la1), .val (.int la2), .val (.int a1v), .val (.int a2v), .val (.int gv), .val (.int t1v), .val (.int t2v), .val (.int ol), .val (.ref b2288), .val (.double gotv), .second, .val (.int gn1), .unset, .unset, .unset, .unset, .unset, .unset, .unset] [])) _
   refine XS.iload X2305.here hx rfl (hb hby at_226) rfl ?_
   refine XS.iload X2305.here hx rfl (hb hby at_228) rfl ?_
   show Steps _ _ _ (T2305.setTop (mkF m 230 #[.val (.int ap), .val (.int aq1), .val (.int aq2), .val (.int al1), .val (.int al2), .val (.int fl), .val (.int pl1), .val (.int pl2), .val (.int ask), .val (.int la1), .val (.int la2), .val (.int a1v), .val (.int a2v), .val (.int gv), .val (.int t1v), .val (.int t2v), .val (.int ol), .val (.ref b2288), .val (.double gotv), .second, .val (.int gn1), .unset, .unset, .unset, .unset, .unset, .unset, .unset] [(.int ol), (.int t2v)])) _
   exact kt
  obtain ⟨gn2, hp2309, R2309⟩ : ∃ (gn2 : Int32), (gn2 = if ol < t2v then (0 : Int32) else 1) ∧ ∀ t, Steps p.tables e below (T2305.setTop (mkF m 240 #[.val (.int ap), .val (.int aq1), .val (.int aq2), .val (.int al1), .val (.int al2), .val (.int fl), .val (.int pl1), .val (.int pl2), .val (.int ask), .val (.int la1), .val (.int la2), .val (.int a1v), .val (.int a2v), .val (.int gv), .val (.int t1v), .val (.int t2v), .val (.int ol), .val (.ref b2288), .val (.double gotv), .second, .val (.int gn1), .val (.int gn2), .unset, .unset, .unset, .unset, .unset, .unset] [])) t → Steps p.tables e below (s₁.setTop (entryFrame m #[(.int ap), (.int aq1), (.int aq2), (.int al1), (.int al2), (.int fl)] maxLocals)) t := by
   by_cases hq : ol < t2v
   ·refine ⟨(0 : Int32), (by rw [if_pos hq]), fun t kt => ?_⟩
    refine R2308 _ ?_
    show Steps _ _ _ (T2305.setTop (mkF m 230 #[.val (.int ap), .val (.int aq1), .val (.int aq2), .val (.int al1), .val (.int al2), .val (.int fl), .val (.int pl1), .val (.int pl2), .val (.int ask), .val (.int la1), .val (.int la2), .val (.int a1v), .val (.int a2v), .val (.int gv), .val (.int t1v), .val (.int t2v), .val (.int ol), .val (.ref b2288), .val (.double gotv), .second, .val (.int gn1), .unset, .unset, .unset, .unset, .unset, .unset, .unset] [(.int ol), (.int t2v)])) _
    refine XS.icmpYes X2305.here hx rfl (pc0 := 230) (pc' := 237) rfl (hb hby at_230) rfl (tlt hq).2.2.1 (by decide) (by decide) ?_
    refine XS.iconst X2305.here hx rfl (hb hby at_237) ?_
    refine XS.istore X2305.here hx rfl (hb hby at_238) rfl (l' := #[.val (.int ap), .val (.int aq1), .val (.int aq2), .val (.int al1), .val (.int al2), .val (.int fl), .val (.int pl1), .val (.int pl2), .val (.int ask), .val (.int la1), .val (.int la2), .val (.int a1v), .val (.int a2v), .val (.int gv), .val (.int t1v), .val (.int t2v), .val (.int ol), .val (.ref b2288), .val (.double gotv), .second, .val (.int gn1), .val (.int (0 : Int32)), .unset, .unset, .unset, .unset, .unset, .unset]) rfl ?_
    exact kt
   ·refine ⟨(1 : Int32), (by rw [if_neg hq]), fun t kt => ?_⟩
    refine R2308 _ ?_
    show Steps _ _ _ (T2305.setTop (mkF m 230 #[.val (.int ap), .val (.int aq1), .val (.int aq2), .val (.int al1), .val (.int al2), .val (.int fl), .val (.int pl1), .val (.int pl2), .val (.int ask), .val (.int la1), .val (.int la2), .val (.int a1v), .val (.int a2v), .val (.int gv), .val (.int t1v), .val (.int t2v), .val (.int ol), .val (.ref b2288), .val (.double gotv), .second, .val (.int gn1), .unset, .unset, .unset, .unset, .unset, .unset, .unset] [(.int ol), (.int t2v)])) _
    refine XS.icmpNo X2305.here hx rfl (hb hby at_230) rfl (flt hq).2.2.1 ?_
    show Steps _ _ _ (T2305.setTop (mkF m 233 #[.val (.int ap), .val (.int aq1), .val (.int aq2), .val (.int al1), .val (.int al2), .val (.int fl), .val (.int pl1), .val (.int pl2), .val (.int ask), .val (.int la1), .val (.int la2), .val (.int a1v), .val (.int a2v), .val (.int gv), .val (.int t1v), .val (.int t2v), .val (.int ol), .val (.ref b2288), .val (.double gotv), .second, .val (.int gn1), .unset, .unset, .unset, .unset, .unset, .unset, .unset] [])) _
    refine XS.iconst X2305.here hx rfl (hb hby at_233) ?_
    refine XS.goto X2305.here hx rfl (pc0 := 234) (pc' := 238) rfl (hb hby at_234) (by decide) (by decide) ?_
    refine XS.istore X2305.here hx rfl (hb hby at_238) rfl (l' := #[.val (.int ap), .val (.int aq1), .val (.int aq2), .val (.int al1), .val (.int al2), .val (.int fl), .val (.int pl1), .val (.int pl2), .val (.int ask), .val (.int la1), .val (.int la2), .val (.int a1v), .val (.int a2v), .val (.int gv), .val (.int t1v), .val (.int t2v), .val (.int ol), .val (.ref b2288), .val (.double gotv), .second, .val (.int gn1), .val (.int (1 : Int32)), .unset, .unset, .unset, .unset, .unset, .unset]) rfl ?_
    exact kt
  have hgn2 := hp2309
  have R2310 : ∀ t, Steps p.tables e below (T2305.setTop (mkF m 250 #[.val (.int ap), .val (.int aq1), .val (.int aq2), .val (.int al1), .val (.int al2), .val (.int fl), .val (.int pl1), .val (.int pl2), .val (.int ask), .val (.int la1), .val (.int la2), .val (.int a1v), .val (.int a2v), .val (.int gv), .val (.int t1v), .val (.int t2v), .val (.int ol), .val (.ref b2288), .val (.double gotv), .second, .val (.int gn1), .val (.int gn2), .val (.long (0 : Int64)), .second, .val (.long (0 : Int64)), .second, .unset, .unset] [(.int ask), (.int pl1)])) t → Steps p.tables e below (s₁.setTop (entryFrame m #[(.int ap), (.int aq1), (.int aq2), (.int al1), (.int al2), (.int fl)] maxLocals)) t := by
   intro t kt
   refine R2309 _ ?_
   show Steps _ _ _ (T2305.setTop (mkF m 240 #[.val (.int ap), .val (.int aq1), .val (.int aq2), .val (.int al1), .val (.int al2), .val (.int fl), .val (.int pl1), .val (.int pl2), .val (.int ask), .val (.int la1), .val (.int la2), .val (.int a1v), .val (.int a2v), .val (.int gv), .val (.int t1v), .val (.int t2v), .val (.int ol), .val (.ref b2288), .val (.double gotv), .second, .val (.int gn1), .val (.int gn2), .unset, .unset, .unset, .unset, .unset, .unset] [])) _
   refine XS.lconst X2305.here hx rfl (hb hby at_240) ?_
   refine XS.lstore X2305.here hx rfl (hb hby at_241) rfl (l' := #[.val (.int ap), .val (.int aq1), .val (.int aq2), .val (.int al1), .val (.int al2), .val (.int fl), .val (.int pl1), .val (.int pl2), .val (.int ask), .val (.int la1), .val (.int la2), .val (.int a1v), .val (.int a2v), .val (.int gv), .val (.int t1v), .val (.int t2v), .val (.int ol), .val (.ref b2288), .val (.double gotv), .second, .val (.int gn1), .val (.int gn2), .val (.long (0 : Int64)), .second, .unset, .unset, .unset, .unset]) rfl ?_
   refine XS.lconst X2305.here hx rfl (hb hby at_243) ?_
   refine XS.lstore X2305.here hx rfl (hb hby at_244) rfl (l' := #[.val (.int ap), .val (.int aq1), .val (.int aq2), .val (.int al1), .val (.int al2), .val (.int fl), .val (.int pl1), .val (.int pl2), .val (.int ask), .val (.int la1), .val (.int la2), .val (.int a1v), .val (.int a2v), .val (.int gv), .val (.int t1v), .val (.int t2v), .val (.int ol), .val (.ref b2288), .val (.double gotv), .second, .val (.int gn1), .val (.int gn2), .val (.long (0 : Int64)), .second, .val (.long (0 : Int64)), .second, .unset, .unset]) rfl ?_
   show Steps _ _ _ (T2305.setTop (mkF m 246 #[.val (.int ap), .val (.int aq1), .val (.int aq2), .val (.int al1), .val (.int al2), .val (.int fl), .val (.int pl1), .val (.int pl2), .val (.int ask), .val (.int la1), .val (.int la2), .val (.int a1v), .val (.int a2v), .val (.int gv), .val (.int t1v), .val (.int t2v), .val (.int ol), .val (.ref b2288), .val (.double gotv), .second, .val (.int gn1), .val (.int gn2), .val (.long (0 : Int64)), .second, .val (.long (0 : Int64)), .second, .unset, .unset] [])) _
   refine XS.iload X2305.here hx rfl (hb hby at_246) rfl ?_
   refine XS.iload X2305.here hx rfl (hb hby at_248) rfl ?_
   show Steps _ _ _ (T2305.setTop (mkF m 250 #[.val (.int ap), .val (.int aq1), .val (.int aq2), .val (.int al1), .val (.int al2), .val (.int fl), .val (.int pl1), .val (.int pl2), .val (.int ask), .val (.int la1), .val (.int la2), .val (.int a1v), .val (.int a2v), .val (.int gv), .val (.int t1v), .val (.int t2v), .val (.int ol), .val (.ref b2288), .val (.double gotv), .second, .val (.int gn1), .val (.int gn2), .val (.long (0 : Int64)), .second, .val (.long (0 : Int64)), .second, .unset, .unset] [(.int ask), (.int pl1)])) _
   exact kt
  obtain ⟨c1v, s1v, hp2311, R2311⟩ : ∃ (c1v : Int64) (s1v : Int64), (c1v = own_c pl1 ask ol t1v (0 : Int64) ∧ s1v = own_s pl1 ask ol t1v la1 (0 : Int64)) ∧ ∀ t, Steps p.tables e below (T2305.setTop (mkF m 272 #[.val (.int ap), .val (.int aq1), .val (.int aq2), .val (.int al1), .val (.int al2), .val (.int fl), .val (.int pl1), .val (.int pl2), .val (.int ask), .val (.int la1), .val (.int la2), .val (.int a1v), .val (.int a2v), .val (.int gv), .val (.int t1v), .val (.int t2v), .val (.int ol), .val (.ref b2288), .val (.double gotv), .second, .val (.int gn1), .val (.int gn2), .val (.long c1v), .second, .val (.long s1v), .second, .unset, .unset] [])) t → Steps p.tables e below (s₁.setTop (entryFrame m #[(.int ap), (.int aq1), (.int aq2), (.int al1), (.int al2), (.int fl)] maxLocals)) t := by
   rcases own_three (pl1 = ask) (ol < t1v) with hq | ⟨hq, h1⟩ | ⟨hq, h1⟩
   ·refine ⟨(0 : Int64), (0 : Int64), ⟨by rw [own_c, if_neg (fun q => hq q.1)], by rw [own_s, if_neg (fun q => hq q.1)]⟩, fun t kt => ?_⟩
    refine R2310 _ ?_
    show Steps _ _ _ (T2305.setTop (mkF m 250 #[.val (.int ap), .val (.int aq1), .val (.int aq2), .val (.int al1), .val (.int al2), .val (.int fl), .val (.int pl1), .val (.int pl2), .val (.int ask), .val (.int la1), .val (.int la2), .val (.int a1v), .val (.int a2v), .val (.int gv), .val (.int t1v), .val (.int t2v), .val (.int ol), .val (.ref b2288), .val (.double gotv), .second, .val (.int gn1), .val (.int gn2), .val (.long (0 : Int64)), .second, .val (.long (0 : Int64)), .second, .unset, .unset] [(.int ask), (.int pl1)])) _
    refine XS.icmpYes X2305.here hx rfl (pc0 := 250) (pc' := 272) rfl (hb hby at_250) rfl (feq hq).2 (by decide) (by decide) ?_
    exact kt
   ·refine ⟨(0 : Int64), (0 : Int64), ⟨by rw [own_c, if_neg (fun q => h1 q.2)], by rw [own_s, if_neg (fun q => h1 q.2)]⟩, fun t kt => ?_⟩
    refine R2310 _ ?_
    show Steps _ _ _ (T2305.setTop (mkF m 250 #[.val (.int ap), .val (.int aq1), .val (.int aq2), .val (.int al1), .val (.int al2), .val (.int fl), .val (.int pl1), .val (.int pl2), .val (.int ask), .val (.int la1), .val (.int la2), .val (.int a1v), .val (.int a2v), .val (.int gv), .val (.int t1v), .val (.int t2v), .val (.int ol), .val (.ref b2288), .val (.double gotv), .second, .val (.int gn1), .val (.int gn2), .val (.long (0 : Int64)), .second, .val (.long (0 : Int64)), .second, .unset, .unset] [(.int ask), (.int pl1)])) _
    refine XS.icmpNo X2305.here hx rfl (hb hby at_250) rfl (teq hq).2 ?_
    refine XS.iload X2305.here hx rfl (hb hby at_253) rfl ?_
    refine XS.ifYes X2305.here hx rfl (pc0 := 255) (pc' := 272) rfl (hb hby at_255) rfl ((if0 _ _).trans (feq (own_gne (hgn1.trans (if_neg h1)))).2) (by decide) (by decide) ?_
    exact kt
   ·refine ⟨(1 : Int64), ((0 : Int64) + (la1.toInt64)), ⟨by rw [own_c, if_pos ⟨hq, h1⟩] <;> decide, by rw [own_s, if_pos ⟨hq, h1⟩]⟩, fun t kt => ?_⟩
    refine R2310 _ ?_
    show Steps _ _ _ (T2305.setTop (mkF m 250 #[.val (.int ap), .val (.int aq1), .val (.int aq2), .val (.int al1), .val (.int al2), .val (.int fl), .val (.int pl1), .val (.int pl2), .val (.int ask), .val (.int la1), .val (.int la2), .val (.int a1v), .val (.int a2v), .val (.int gv), .val (.int t1v), .val (.int t2v), .val (.int ol), .val (.ref b2288), .val (.double gotv), .second, .val (.int gn1), .val (.int gn2), .val (.long (0 : Int64)), .second, .val (.long (0 : Int64)), .second, .unset, .unset] [(.int ask), (.int pl1)])) _
    refine XS.icmpNo X2305.here hx rfl (hb hby at_250) rfl (teq hq).2 ?_
    refine XS.iload X2305.here hx rfl (hb hby at_253) rfl ?_
    refine XS.ifNo X2305.here hx rfl (hb hby at_255) rfl ((if0 _ _).trans (teq (hgn1.trans (if_pos h1))).2) ?_
    refine XS.lload X2305.here hx rfl (hb hby at_258) rfl ?_
    show Steps _ _ _ (T2305.setTop (mkF m 260 #[.val (.int ap), .val (.int aq1), .val (.int aq2), .val (.int al1), .val (.int al2), .val (.int fl), .val (.int pl1), .val (.int pl2), .val (.int ask), .val (.int la1), .val (.int la2), .val (.int a1v), .val (.int a2v), .val (.int gv), .val (.int t1v), .val (.int t2v), .val (.int ol), .val (.ref b2288), .val (.double gotv), .second, .val (.int gn1), .val (.int gn2), .val (.long (0 : Int64)), .second, .val (.long (0 : Int64)), .second, .unset, .unset] [(.long (0 : Int64))])) _
    refine XS.lconst X2305.here hx rfl (hb hby at_260) ?_
    refine XS.ladd X2305.here hx rfl (hb hby at_261) rfl ?_
    refine XS.lstore X2305.here hx rfl (hb hby at_262) rfl (l' := #[.val (.int ap), .val (.int aq1), .val (.int aq2), .val (.int al1), .val (.int al2), .val (.int fl), .val (.int pl1), .val (.int pl2), .val (.int ask), .val (.int la1), .val (.int la2), .val (.int a1v), .val (.int a2v), .val (.int gv), .val (.int t1v), .val (.int t2v), .val (.int ol), .val (.ref b2288), .val (.double gotv), .second, .val (.int gn1), .val (.int gn2), .val (.long (1 : Int64)), .second, .val (.long (0 : Int64)), .second, .unset, .unset]) rfl ?_
    refine XS.lload X2305.here hx rfl (hb hby at_264) rfl ?_
    show Steps _ _ _ (T2305.setTop (mkF m 266 #[.val (.int ap), .val (.int aq1), .val (.int aq2), .val (.int al1), .val (.int al2), .val (.int fl), .val (.int pl1), .val (.int pl2), .val (.int ask), .val (.int la1), .val (.int la2), .val (.int a1v), .val (.int a2v), .val (.int gv), .val (.int t1v), .val (.int t2v), .val (.int ol), .val (.ref b2288), .val (.double gotv), .second, .val (.int gn1), .val (.int gn2), .val (.long (1 : Int64)), .second, .val (.long (0 : Int64)), .second, .unset, .unset] [(.long (0 : Int64))])) _
    refine XS.iload X2305.here hx rfl (hb hby at_266) rfl ?_
    refine XS.i2l X2305.here hx rfl (hb hby at_268) rfl ?_
    refine XS.ladd X2305.here hx rfl (hb hby at_269) rfl ?_
    refine XS.lstore X2305.here hx rfl (hb hby at_270) rfl (l' := #[.val (.int ap), .val (.int aq1), .val (.int aq2), .val (.int al1), .val (.int al2), .val (.int fl), .val (.int pl1), .val (.int pl2), .val (.int ask), .val (.int la1), .val (.int la2), .val (.int a1v), .val (.int a2v), .val (.int gv), .val (.int t1v), .val (.int t2v), .val (.int ol), .val (.ref b2288), .val (.double gotv), .second, .val (.int gn1), .val (.int gn2), .val (.long (1 : Int64)), .second, .val (.long ((0 : Int64) + (la1.toInt64))), .second, .unset, .unset]) rfl ?_
    exact kt
  have hcs1 := hp2311
  have R2312 : ∀ t, Steps p.tables e below (T2305.setTop (mkF m 276 #[.val (.int ap), .val (.int aq1), .val (.int aq2), .val (.int al1), .val (.int al2), .val (.int fl), .val (.int pl1), .val (.int pl2), .val (.int ask), .val (.int la1), .val (.int la2), .val (.int a1v), .val (.int a2v), .val (.int gv), .val (.int t1v), .val (.int t2v), .val (.int ol), .val (.ref b2288), .val (.double gotv), .second, .val (.int gn1), .val (.int gn2), .val (.long c1v), .second, .val (.long s1v), .second, .unset, .unset] [(.int ask), (.int pl2)])) t → Steps p.tables e below (s₁.setTop (entryFrame m #[(.int ap), (.int aq1), (.int aq2), (.int al1), (.int al2), (.int fl)] maxLocals)) t := by
   intro t kt
   refine R2311 _ ?_
   show Steps _ _ _ (T2305.setTop (mkF m 272 #[.val (.int ap), .val (.int aq1), .val (.int aq2), .val (.int al1), .val (.int al2), .val (.int fl), .val (.int pl1), .val (.int pl2), .val (.int ask), .val (.int la1), .val (.int la2), .val (.int a1v), .val (.int a2v), .val (.int gv), .val (.int t1v), .val (.int t2v), .val (.int ol), .val (.ref b2288), .val (.double gotv), .second, .val (.int gn1), .val (.int gn2), .val (.long c1v), .second, .val (.long s1v), .second, .unset, .unset] [])) _
   refine XS.iload X2305.here hx rfl (hb hby at_272) rfl ?_
   refine XS.iload X2305.here hx rfl (hb hby at_274) rfl ?_
   show Steps _ _ _ (T2305.setTop (mkF m 276 #[.val (.int ap), .val (.int aq1), .val (.int aq2), .val (.int al1), .val (.int al2), .val (.int fl), .val (.int pl1), .val (.int pl2), .val (.int ask), .val (.int la1), .val (.int la2), .val (.int a1v), .val (.int a2v), .val (.int gv), .val (.int t1v), .val (.int t2v), .val (.int ol), .val (.ref b2288), .val (.double gotv), .second, .val (.int gn1), .val (.int gn2), .val (.long c1v), .second, .val (.long s1v), .second, .unset, .unset] [(.int ask), (.int pl2)])) _
   exact kt
  obtain ⟨c2v, s2v, hp2313, R2313⟩ : ∃ (c2v : Int64) (s2v : Int64), (c2v = own_c pl2 ask ol t2v c1v ∧ s2v = own_s pl2 ask ol t2v la2 s1v) ∧ ∀ t, Steps p.tables e below (T2305.setTop (mkF m 298 #[.val (.int ap), .val (.int aq1), .val (.int aq2), .val (.int al1), .val (.int al2), .val (.int fl), .val (.int pl1), .val (.int pl2), .val (.int ask), .val (.int la1), .val (.int la2), .val (.int a1v), .val (.int a2v), .val (.int gv), .val (.int t1v), .val (.int t2v), .val (.int ol), .val (.ref b2288), .val (.double gotv), .second, .val (.int gn1), .val (.int gn2), .val (.long c2v), .second, .val (.long s2v), .second, .unset, .unset] [])) t → Steps p.tables e below (s₁.setTop (entryFrame m #[(.int ap), (.int aq1), (.int aq2), (.int al1), (.int al2), (.int fl)] maxLocals)) t := by
   rcases own_three (pl2 = ask) (ol < t2v) with hq | ⟨hq, h1⟩ | ⟨hq, h1⟩
   ·refine ⟨c1v, s1v, ⟨by rw [own_c, if_neg (fun q => hq q.1)], by rw [own_s, if_neg (fun q => hq q.1)]⟩, fun t kt => ?_⟩
    refine R2312 _ ?_
    show Steps _ _ _ (T2305.setTop (mkF m 276 #[.val (.int ap), .val (.int aq1), .val (.int aq2), .val (.int al1), .val (.int al2), .val (.int fl), .val (.int pl1), .val (.int pl2), .val (.int ask), .val (.int la1), .val (.int la2), .val (.int a1v), .val (.int a2v), .val (.int gv), .val (.int t1v), .val (.int t2v), .val (.int ol), .val (.ref b2288), .val (.double gotv), .second, .val (.int gn1), .val (.int gn2), .val (.long c1v), .second, .val (.long s1v), .second, .unset, .unset] [(.int ask), (.int pl2)])) _
    refine XS.icmpYes X2305.here hx rfl (pc0 := 276) (pc' := 298) rfl (hb hby at_276) rfl (feq hq).2 (by decide) (by decide) ?_
    exact kt
   ·refine ⟨c1v, s1v, ⟨by rw [own_c, if_neg (fun q => h1 q.2)], by rw [own_s, if_neg (fun q => h1 q.2)]⟩, fun t kt => ?_⟩
    refine R2312 _ ?_
    show Steps _ _ _ (T2305.setTop (mkF m 276 #[.val (.int ap), .val (.int aq1), .val (.int aq2), .val (.int al1), .val (.int al2), .val (.int fl), .val (.int pl1), .val (.int pl2), .val (.int ask), .val (.int la1), .val (.int la2), .val (.int a1v), .val (.int a2v), .val (.int gv), .val (.int t1v), .val (.int t2v), .val (.int ol), .val (.ref b2288), .val (.double gotv), .second, .val (.int gn1), .val (.int gn2), .val (.long c1v), .second, .val (.long s1v), .second, .unset, .unset] [(.int ask), (.int pl2)])) _
    refine XS.icmpNo X2305.here hx rfl (hb hby at_276) rfl (teq hq).2 ?_
    refine XS.iload X2305.here hx rfl (hb hby at_279) rfl ?_
    refine XS.ifYes X2305.here hx rfl (pc0 := 281) (pc' := 298) rfl (hb hby at_281) rfl ((if0 _ _).trans (feq (own_gne (hgn2.trans (if_neg h1)))).2) (by decide) (by decide) ?_
    exact kt
   ·refine ⟨(c1v + (1 : Int64)), (s1v + (la2.toInt64)), ⟨by rw [own_c, if_pos ⟨hq, h1⟩] <;> decide, by rw [own_s, if_pos ⟨hq, h1⟩]⟩, fun t kt => ?_⟩
    refine R2312 _ ?_
    show Steps _ _ _ (T2305.setTop (mkF m 276 #[.val (.int ap), .val (.int aq1), .val (.int aq2), .val (.int al1), .val (.int al2), .val (.int fl), .val (.int pl1), .val (.int pl2), .val (.int ask), .val (.int la1), .val (.int la2), .val (.int a1v), .val (.int a2v), .val (.int gv), .val (.int t1v), .val (.int t2v), .val (.int ol), .val (.ref b2288), .val (.double gotv), .second, .val (.int gn1), .val (.int gn2), .val (.long c1v), .second, .val (.long s1v), .second, .unset, .unset] [(.int ask), (.int pl2)])) _
    refine XS.icmpNo X2305.here hx rfl (hb hby at_276) rfl (teq hq).2 ?_
    refine XS.iload X2305.here hx rfl (hb hby at_279) rfl ?_
    refine XS.ifNo X2305.here hx rfl (hb hby at_281) rfl ((if0 _ _).trans (teq (hgn2.trans (if_pos h1))).2) ?_
    refine XS.lload X2305.here hx rfl (hb hby at_284) rfl ?_
    show Steps _ _ _ (T2305.setTop (mkF m 286 #[.val (.int ap), .val (.int aq1), .val (.int aq2), .val (.int al1), .val (.int al2), .val (.int fl), .val (.int pl1), .val (.int pl2), .val (.int ask), .val (.int la1), .val (.int la2), .val (.int a1v), .val (.int a2v), .val (.int gv), .val (.int t1v), .val (.int t2v), .val (.int ol), .val (.ref b2288), .val (.double gotv), .second, .val (.int gn1), .val (.int gn2), .val (.long c1v), .second, .val (.long s1v), .second, .unset, .unset] [(.long c1v)])) _
    refine XS.lconst X2305.here hx rfl (hb hby at_286) ?_
    refine XS.ladd X2305.here hx rfl (hb hby at_287) rfl ?_
    refine XS.lstore X2305.here hx rfl (hb hby at_288) rfl (l' := #[.val (.int ap), .val (.int aq1), .val (.int aq2), .val (.int al1), .val (.int al2), .val (.int fl), .val (.int pl1), .val (.int pl2), .val (.int ask), .val (.int la1), .val (.int la2), .val (.int a1v), .val (.int a2v), .val (.int gv), .val (.int t1v), .val (.int t2v), .val (.int ol), .val (.ref b2288), .val (.double gotv), .second, .val (.int gn1), .val (.int gn2), .val (.long (c1v + (1 : Int64))), .second, .val (.long s1v), .second, .unset, .unset]) rfl ?_
    refine XS.lload X2305.here hx rfl (hb hby at_290) rfl ?_
    show Steps _ _ _ (T2305.setTop (mkF m 292 #[.val (.int ap), .val (.int aq1), .val (.int aq2), .val (.int al1), .val (.int al2), .val (.int fl), .val (.int pl1), .val (.int pl2), .val (.int ask), .val (.int la1), .val (.int la2), .val (.int a1v), .val (.int a2v), .val (.int gv), .val (.int t1v), .val (.int t2v), .val (.int ol), .val (.ref b2288), .val (.double gotv), .second, .val (.int gn1), .val (.int gn2), .val (.long (c1v + (1 : Int64))), .second, .val (.long s1v), .second, .unset, .unset] [(.long s1v)])) _
    refine XS.iload X2305.here hx rfl (hb hby at_292) rfl ?_
    refine XS.i2l X2305.here hx rfl (hb hby at_294) rfl ?_
    refine XS.ladd X2305.here hx rfl (hb hby at_295) rfl ?_
    refine XS.lstore X2305.here hx rfl (hb hby at_296) rfl (l' := #[.val (.int ap), .val (.int aq1), .val (.int aq2), .val (.int al1), .val (.int al2), .val (.int fl), .val (.int pl1), .val (.int pl2), .val (.int ask), .val (.int la1), .val (.int la2), .val (.int a1v), .val (.int a2v), .val (.int gv), .val (.int t1v), .val (.int t2v), .val (.int ol), .val (.ref b2288), .val (.double gotv), .second, .val (.int gn1), .val (.int gn2), .val (.long (c1v + (1 : Int64))), .second, .val (.long (s1v + (la2.toInt64))), .second, .unset, .unset]) rfl ?_
    exact kt
  have hcs2 := hp2313
  have hfin : ((own_fgC R2 (((ol + (10 : Int32)).toInt64) - 10) F2) ask.toNatClampNeg) = c2v ∧ ((own_fgS R2 (((ol + (10 : Int32)).toInt64) - 10) G2) ask.toNatClampNeg) = s2v := own_fin1 hF1 hF2 hG1 hG2 hb1 hb2 hb3 hR1 hR2 htt hol hg4 hg0 hcs1 hcs2
  have R2314 : ∀ t, Steps p.tables e below (T2305.setTop (mkF m 302 #[.val (.int ap), .val (.int aq1), .val (.int aq2), .val (.int al1), .val (.int al2), .val (.int fl), .val (.int pl1), .val (.int pl2), .val (.int ask), .val (.int la1), .val (.int la2), .val (.int a1v), .val (.int a2v), .val (.int gv), .val (.int t1v), .val (.int t2v), .val (.int ol), .val (.ref b2288), .val (.double gotv), .second, .val (.int gn1), .val (.int gn2), .val (.long c2v), .second, .val (.long s2v), .second, .unset, .unset] [(.int (lcmpW c2v (0 : Int64)))])) t → Steps p.tables e below (s₁.setTop (entryFrame m #[(.int ap), (.int aq1), (.int aq2), (.int al1), (.int al2), (.int fl)] maxLocals)) t := by
   intro t kt
   refine R2313 _ ?_
   show Steps _ _ _ (T2305.setTop (mkF m 298 #[.val (.int ap), .val (.int aq1), .val (.int aq2), .val (.int al1), .val (.int al2), .val (.int fl), .val (.int pl1), .val (.int pl2), .val (.int ask), .val (.int la1), .val (.int la2), .val (.int a1v), .val (.int a2v), .val (.int gv), .val (.int t1v), .val (.int t2v), .val (.int ol), .val (.ref b2288), .val (.double gotv), .second, .val (.int gn1), .val (.int gn2), .val (.long c2v), .second, .val (.long s2v), .second, .unset, .unset] [])) _
   refine XS.lload X2305.here hx rfl (hb hby at_298) rfl ?_
   refine XS.lconst X2305.here hx rfl (hb hby at_300) ?_
   refine XS.lcmp X2305.here hx rfl (hb hby at_301) rfl ?_
   show Steps _ _ _ (T2305.setTop (mkF m 302 #[.val (.int ap), .val (.int aq1), .val (.int aq2), .val (.int al1), .val (.int al2), .val (.int fl), .val (.int pl1), .val (.int pl2), .val (.int ask), .val (.int la1), .val (.int la2), .val (.int a1v), .val (.int a2v), .val (.int gv), .val (.int t1v), .val (.int t2v), .val (.int ol), .val (.ref b2288), .val (.double gotv), .second, .val (.int gn1), .val (.int gn2), .val (.long c2v), .second, .val (.long s2v), .second, .unset, .unset] [(.int (lcmpW c2v (0 : Int64)))])) _
   exact kt
  obtain ⟨exv, hp2315, R2315⟩ : ∃ (exv : UInt64), (exv = own_lat c2v s2v) ∧ ∀ t, Steps p.tables e below (T2305.setTop (mkF m 318 #[.val (.int ap), .val (.int aq1), .val (.int aq2), .val (.int al1), .val (.int al2), .val (.int fl), .val (.int pl1), .val (.int pl2), .val (.int ask), .val (.int la1), .val (.int la2), .val (.int a1v), .val (.int a2v), .val (.int gv), .val (.int t1v), .val (.int t2v), .val (.int ol), .val (.ref b2288), .val (.double gotv), .second, .val (.int gn1), .val (.int gn2), .val (.long c2v), .second, .val (.long s2v), .second, .val (.double exv), .second] [])) t → Steps p.tables e below (s₁.setTop (entryFrame m #[(.int ap), (.int aq1), (.int aq2), (.int al1), (.int al2), (.int fl)] maxLocals)) t := by
   by_cases hq : c2v = 0
   ·refine ⟨(FP.l2d 0), (by rw [own_lat, if_pos hq]), fun t kt => ?_⟩
    refine R2314 _ ?_
    show Steps _ _ _ (T2305.setTop (mkF m 302 #[.val (.int ap), .val (.int aq1), .val (.int aq2), .val (.int al1), .val (.int al2), .val (.int fl), .val (.int pl1), .val (.int pl2), .val (.int ask), .val (.int la1), .val (.int la2), .val (.int a1v), .val (.int a2v), .val (.int gv), .val (.int t1v), .val (.int t2v), .val (.int ol), .val (.ref b2288), .val (.double gotv), .second, .val (.int gn1), .val (.int gn2), .val (.long c2v), .second, .val (.long s2v), .second, .unset, .unset] [(.int (lcmpW c2v (0 : Int64)))])) _
    refine XS.ifNo X2305.here hx rfl (hb hby at_302) rfl ((if0 _ _).trans (teq ((lw_eq _ _).mpr hq)).2) ?_
    refine XS.dconst0 X2305.here hx rfl (hb hby at_305) (v := (FP.l2d 0)) own_d0 ?_
    refine XS.goto X2305.here hx rfl (pc0 := 306) (pc' := 316) rfl (hb hby at_306) (by decide) (by decide) ?_
    refine XS.dstore X2305.here hx rfl (hb hby at_316) rfl (l' := #[.val (.int ap), .val (.int aq1), .val (.int aq2), .val (.int al1), .val (.int al2), .val (.int fl), .val (.int pl1), .val (.int pl2), .val (.int ask), .val (.int la1), .val (.int la2), .val (.int a1v), .val (.int a2v), .val (.int gv), .val (.int t1v), .val (.int t2v), .val (.int ol), .val (.ref b2288), .val (.double gotv), .second, .val (.int gn1), .val (.int gn2), .val (.long c2v), .second, .val (.long s2v), .second, .val (.double (FP.l2d 0)), .second]) rfl ?_
    exact kt
   ·refine ⟨(FP.ddiv (FP.l2d s2v) (FP.l2d c2v)), (by rw [own_lat, if_neg hq]), fun t kt => ?_⟩
    refine R2314 _ ?_
    show Steps _ _ _ (T2305.setTop (mkF m 302 #[.val (.int ap), .val (.int aq1), .val (.int aq2), .val (.int al1), .val (.int al2), .val (.int fl), .val (.int pl1), .val (.int pl2), .val (.int ask), .val (.int la1), .val (.int la2), .val (.int a1v), .val (.int a2v), .val (.int gv), .val (.int t1v), .val (.int t2v), .val (.int ol), .val (.ref b2288), .val (.double gotv), .second, .val (.int gn1), .val (.int gn2), .val (.long c2v), .second, .val (.long s2v), .second, .unset, .unset] [(.int (lcmpW c2v (0 : Int64)))])) _
    refine XS.ifYes X2305.here hx rfl (pc0 := 302) (pc' := 309) rfl (hb hby at_302) rfl ((if0 _ _).trans (feq (fun q => hq ((lw_eq _ _).mp q))).2) (by decide) (by decide) ?_
    refine XS.lload X2305.here hx rfl (hb hby at_309) rfl ?_
    refine XS.l2dS X2305.here hx rfl (hb hby at_311) rfl (v := (FP.l2d s2v)) rfl ?_
    refine XS.lload X2305.here hx rfl (hb hby at_312) rfl ?_
    show Steps _ _ _ (T2305.setTop (mkF m 314 #[.val (.int ap), .val (.int aq1), .val (.int aq2), .val (.int al1), .val (.int al2), .val (.int fl), .val (.int pl1), .val (.int pl2), .val (.int ask), .val (.int la1), .val (.int la2), .val (.int a1v), .val (.int a2v), .val (.int gv), .val (.int t1v), .val (.int t2v), .val (.int ol), .val (.ref b2288), .val (.double gotv), .second, .val (.int gn1), .val (.int gn2), .val (.long c2v), .second, .val (.long s2v), .second, .unset, .unset] [(.long c2v), (.double (FP.l2d s2v))])) _
    refine XS.l2dS X2305.here hx rfl (hb hby at_314) rfl (v := (FP.l2d c2v)) rfl ?_
    refine XS.ddivS X2305.here hx rfl (hb hby at_315) rfl (v := (FP.ddiv (FP.l2d s2v) (FP.l2d c2v))) (own_divNN hq) rfl ?_
    refine XS.dstore X2305.here hx rfl (hb hby at_316) rfl (l' := #[.val (.int ap), .val (.int aq1), .val (.int aq2), .val (.int al1), .val (.int al2), .val (.int fl), .val (.int pl1), .val (.int pl2), .val (.int ask), .val (.int la1), .val (.int la2), .val (.int a1v), .val (.int a2v), .val (.int gv), .val (.int t1v), .val (.int t2v), .val (.int ol), .val (.ref b2288), .val (.double gotv), .second, .val (.int gn1), .val (.int gn2), .val (.long c2v), .second, .val (.long s2v), .second, .val (.double (FP.ddiv (FP.l2d s2v) (FP.l2d c2v))), .second]) rfl ?_
    exact kt
  have hex := hp2315
  obtain ⟨fs, hr, hrun, hended, hW, hsame⟩ := X2305.leave (v := some (.int (1 : Int32))) (fun h => by rw [Bd.returns] at h; cases h)
  refine ⟨_, _, ?_, hrun, hended, _, _, rfl, ?_, ⟨_, rfl⟩, hW, hsame.mono (by decide) (by decide)⟩
  ·refine R2315 _ ?_
   show Steps _ _ _ (T2305.setTop (mkF m 318 #[.val (.int ap), .val (.int aq1), .val (.int aq2), .val (.int al1), .val (.int al2), .val (.int fl), .val (.int pl1), .val (.int pl2), .val (.int ask), .val (.int la1), .val (.int la2), .val (.int a1v), .val (.int a2v), .val (.int gv), .val (.int t1v), .val (.int t2v), .val (.int ol), .val (.ref b2288), .val (.double gotv), .second, .val (.int gn1), .val (.int gn2), .val (.long c2v), .second, .val (.long s2v), .second, .val (.double exv), .second] [])) _
   refine XS.dload X2305.here hx rfl (hb hby at_318) rfl ?_
   refine XS.dload X2305.here hx rfl (hb hby at_320) rfl ?_
   refine XS.dcmpS X2305.here hx rfl (hb hby at_322) rfl (v := (0 : Int32)) (by rw [hex, ← hgot]; exact own_eqlat hfin.1 hfin.2 _) ?_
   refine XS.ifNo X2305.here hx rfl (hb hby at_323) rfl (by decide) ?_
   show Steps _ _ _ (T2305.setTop (mkF m 326 #[.val (.int ap), .val (.int aq1), .val (.int aq2), .val (.int al1), .val (.int al2), .val (.int fl), .val (.int pl1), .val (.int pl2), .val (.int ask), .val (.int la1), .val (.int la2), .val (.int a1v), .val (.int a2v), .val (.int gv), .val (.int t1v), .val (.int t2v), .val (.int ol), .val (.ref b2288), .val (.double gotv), .second, .val (.int gn1), .val (.int gn2), .val (.long c2v), .second, .val (.long s2v), .second, .val (.double exv), .second] [])) _
   refine XS.iconst X2305.here hx rfl (hb hby at_326) ?_
   refine XS.goto X2305.here hx rfl (pc0 := 327) (pc' := 331) rfl (hb hby at_327) (by decide) (by decide) ?_
   show Steps _ _ _ (T2305.setTop (mkF m 331 #[.val (.int ap), .val (.int aq1), .val (.int aq2), .val (.int al1), .val (.int al2), .val (.int fl), .val (.int pl1), .val (.int pl2), .val (.int ask), .val (.int la1), .val (.int la2), .val (.int a1v), .val (.int a2v), .val (.int gv), .val (.int t1v), .val (.int t2v), .val (.int ol), .val (.ref b2288), .val (.double gotv), .second, .val (.int gn1), .val (.int gn2), .val (.long c2v), .second, .val (.long s2v), .second, .val (.double exv), .second] [(.int (1 : Int32))])) _
   exact retN X2305 hx (t := .boolean) Bd.returns (by simp) (hb hby at_331) hr
  ·show Q0 Z ap aq1 aq2 al1 al2 fl h0 n0 _ T2305.heap _
   rw [eq2305]
   exact ⟨rfl, N2305⟩
set_option maxRecDepth 65536 in
set_option maxHeartbeats 40000000 in
theorem comes_1 {Post : Tables → Env → Array Value → State → Outcome → State → Prop} (hpost : ∀ tb e args s v u, (limb_1_1.after args s (.returned v) u = true ∧ limb_1_2.after args s (.returned v) u = true ∧ True) → FrameEnd s (.returned v) u (Jvm.fieldLocs frame_1_writes args s ++ Jvm.arrayLocs frame_1_arrays args s ++ Jvm.staticLocs frame_1_statics s) 48 1088 → Post tb e args s (.returned v) u) :
  ArmFor flags0 classFile x code maxLocals ret World_1 tables_1 room_1 Calls_1 rest_1 Pre_1 Post := by
 intro l hfl _ _ p e ha hc hk s m args below hf hA hF happ hP
 obtain ⟨hcalls, hrest, hpre⟩ := hP
 obtain ⟨-, -, -, hnamed, -, -, -, hat⟩ := (Spec.applies_iff hf).mp happ
 obtain ⟨hg, hn⟩ := and_e (Cond.before_iff.mp (show (Jvm.Cond.and given_1 narrow_1).before args s = true from hpre))
 obtain ⟨h1, h2⟩ := and_e hg
 obtain ⟨i0, h3⟩ := and_e h2
 obtain ⟨i1, h4⟩ := and_e h3
 obtain ⟨i2, h5⟩ := and_e h4
 obtain ⟨i3, h6⟩ := and_e h5
 obtain ⟨i4, i5⟩ := and_e h6
 obtain ⟨w0, w1, w2, w3, w4, w5, rfl⟩ : ∃ w0 w1 w2 w3 w4 w5 : Value, args = #[w0, w1, w2, w3, w4, w5] := by
  have hs : args.size = 6 := by simpa [Cond.value, given_1] using h1
  obtain ⟨L⟩ := args
  match L, hs with
  | [w0, w1, w2, w3, w4, w5], _ => exact ⟨w0, w1, w2, w3, w4, w5, rfl⟩
 have hw := fun d (hd : d ∈ tables_1) => atoms_spec (ws := Jvm.Cond.code x code maxLocals ret :: tables_1) hat d (List.mem_cons_of_mem _ hd)
 obtain ⟨j0, e0⟩ := is_v i0
 obtain rfl : w0 = (.int j0) := Option.some.inj e0
 obtain ⟨j1, e1⟩ := is_v i1
 obtain rfl : w1 = (.int j1) := Option.some.inj e1
 obtain ⟨j2, e2⟩ := is_v i2
 obtain rfl : w2 = (.int j2) := Option.some.inj e2
 obtain ⟨j3, e3⟩ := is_v i3
 obtain rfl : w3 = (.int j3) := Option.some.inj e3
 obtain ⟨j4, e4⟩ := is_v i4
 obtain rfl : w4 = (.int j4) := Option.some.inj e4
 obtain ⟨j5, e5⟩ := is_v i5
 obtain rfl : w5 = (.int j5) := Option.some.inj e5
 obtain ⟨n, o, h1, h2, h3, _, L, rfl, ⟨rfl, N⟩, hq⟩ := rm0 l s _ hw tables_1 j0 j1 j2 j3 j4 j5 s.heap s.heap.size (Nat.le_refl _) p e ha hc hk s m _ below hf ((Spec.applies_iff_loose hf).mp happ).1 ⟨rfl, State.Warmed39.refl s, rfl⟩ trivial
 refine ⟨n, _, h1, h2, h3, hpost _ _ _ _ _ _ ⟨Cond.after_iff.mpr rfl, Cond.after_iff.mpr (eq_i res_at (Term.int_eval (1)) rfl), trivial⟩ ⟨hq.1, hq.2.1, (hq.2.2.sift fun y hy => Or.inr (N y hy)).mono (by decide) (by decide)⟩⟩
theorem main_1_1 : Claimed_1_1 := comes_1 fun _ _ _ _ _ _ h hF => ⟨h.1, hF⟩
theorem main_1_2 : Claimed_1_2 := comes_1 fun _ _ _ _ _ _ h hF => ⟨h.2.1, hF⟩
end Jvm.Pilot.@@N@@

namespace Jvm.Pilot.@@N@@
open Jvm Jvm.ClassFile Sem Op Lib Jvm.Free Jvm.Stand Jvm.Pilot.@@N@@.Jvm.D
/-! MADE BY PROGRAM (witnessworld.py; the classes of double arrays are added by hand) out of the Statement's table words and the real class files: 24 classes; the members and pool entries that the words name. The judged class is class 1, her method 1. -/
namespace start1
open Jvm.ClassFile
def u (s : String) : CpInfo := .utf8 (stringToUtf16 s)
/-- a pool by its gaps: so many unusable entries, then the entry; so many at the end -/
def gap : Nat → List CpInfo → List CpInfo
  | 0, r => r
  | n + 1, r => .unusable :: gap n r
def poolList (es : List (Nat × CpInfo)) (last : Nat) : List CpInfo := es.foldr (fun e r => gap e.1 (e.2 :: r)) (gap last [])
def pool (es : List (Nat × CpInfo)) (last : Nat) : Array CpInfo := ⟨poolList es last⟩
def fileOf (pool : Array CpInfo) (this : Nat) (attrs : Array Attribute := #[]) (ms : Array MethodInfo := #[]) (fl : Nat := 33) (sup : Nat := 0) (ifs : Array Nat := #[]) (fds : Array FieldInfo := #[]) : ClassFile where
  minorVersion := 0
  majorVersion := 65
  constantPool := pool
  accessFlags := fl
  thisClass := this
  superClass := sup
  interfaces := ifs
  fields := fds
  methods := ms
  attributes := attrs
def plain (name : String) (sup : Option ClassId) : Class where
  name := name
  kind := .ordinary
  loader := none
  accessFlags := 33
  super := sup
  interfaces := #[]
  cf := none
  fields := #[]
  methods := #[]
  instanceTypes := #[]
  staticTypes := #[]
  resolved := #[]
  callSites := []
  init := .initialized
  statics := none
  mirror := none

def pool0 : Array CpInfo := pool [(5, u "<init>"), (0, u "()V"), (1, .class_ 10), (1, u "java/lang/Object")] 113

def k0c0 : Code := { maxStack := 0, maxLocals := 1, code := object_method_1_code, exceptionTable := #[], attributes := #[] }
def k0m0 : Method := { name := "<init>", desc := "()V", sig := { parameters := [], returnType := none }, accessFlags := 1, code := some k0c0 }
/-- java/lang/Object -/
def k0 : Class := { plain "java/lang/Object" none with
  accessFlags := 33
  interfaces := #[]
  cf := some (fileOf pool0 8 #[] #[{ accessFlags := 1, nameIndex := 5, descriptorIndex := 6, attributes := #[] }] 33 0 #[] #[])
  fields := #[]
  methods := #[k0m0]
  instanceTypes := #[]
  staticTypes := #[]
  resolved := Array.replicate 124 none
  statics := none }

def pool1 : Array CpInfo := pool [(2, .class_ 4), (1, u "java/lang/Object"), (0, u "<init>"), (0, u "()V"), (0, .integer 2147483647), (0, .methodref 9 10), (0, .class_ 11), (0, .nameAndType 12 13), (0, u "java/lang/Math"), (0, u "min"), (0, u "(II)I"), (0, .methodref 15 16), (0, .class_ 17), (0, .nameAndType 18 19), (0, u "com/example/frugal_weir/frugalweir/replay/RecentActivityExecutorLatencyPinLaw"), (0, u "instant"), (0, u "(I)I"), (0, .class_ 21), (0, u "com/example/frugal_weir/frugalweir/replay/RecentActivity"), (0, .double 4621819117588971520), (1, .double 4636737291354636288), (1, .methodref 20 27), (0, .nameAndType 5 28), (0, u "(IDD)V"), (0, .methodref 20 30), (0, .nameAndType 31 28), (0, u "completed"), (0, .methodref 20 33), (0, .nameAndType 34 35), (0, u "forgetUntil"), (0, u "(D)V"), (0, .methodref 20 37), (0, .nameAndType 38 39), (0, u "executorLatency"), (0, u "(I)D"), (2, u "law"), (0, u "(IIIIII)Z")] 3

def k1m0 : Method := { name := "<init>", desc := "()V", sig := { parameters := [], returnType := none }, accessFlags := 1, code := none }
def k1c1 : Code := { maxStack := 7, maxLocals := 28, code := code, exceptionTable := #[], attributes := #[] }
def k1m1 : Method := { name := "law", desc := "(IIIIII)Z", sig := { parameters := [.int, .int, .int, .int, .int, .int], returnType := some .boolean }, accessFlags := 9, code := some k1c1 }
def k1c2 : Code := { maxStack := 2, maxLocals := 1, code := method_3_code, exceptionTable := #[], attributes := #[] }
def k1m2 : Method := { name := "instant", desc := "(I)I", sig := { parameters := [.int], returnType := some .int }, accessFlags := 10, code := some k1c2 }
/-- com/example/frugal_weir/frugalweir/replay/RecentActivityExecutorLatencyPinLaw -/
def k1 : Class := { plain "com/example/frugal_weir/frugalweir/replay/RecentActivityExecutorLatencyPinLaw" (some 0) with
  accessFlags := 49
  interfaces := #[]
  cf := some (fileOf pool1 15 #[] #[{ accessFlags := 1, nameIndex := 5, descriptorIndex := 6, attributes := #[] }, { accessFlags := 9, nameIndex := 42, descriptorIndex := 43, attributes := #[] }, { accessFlags := 10, nameIndex := 18, descriptorIndex := 19, attributes := #[] }] 49 2 #[] #[])
  fields := #[]
  methods := #[k1m0, k1m1, k1m2]
  instanceTypes := #[]
  staticTypes := #[]
  resolved := Array.replicate 47 none
  statics := none }

def pool2 : Array CpInfo := pool [(1, .class_ 2), (0, u "java/lang/Math"), (1, .class_ 6), (1, u "java/lang/Object"), (0, u "<init>"), (0, u "()V"), (89, .class_ 100), (1, u "java/lang/Math$RandomNumberGeneratorHolder"), (71, u "negativeZeroFloatBits"), (0, u "J"), (2, u "negativeZeroDoubleBits"), (21, u "max"), (2, u "min"), (43, u "$assertionsDisabled"), (0, u "Z"), (88, u "(II)I"), (2, u "twoToTheDoubleScaleDown"), (0, u "D"), (4, u "twoToTheDoubleScaleUp"), (9, u "E"), (3, u "PI"), (2, u "TAU"), (2, u "DEGREES_TO_RADIANS"), (0, u "RADIANS_TO_DEGREES")] 94

def k2m0 : Method := { name := "<init>", desc := "()V", sig := { parameters := [], returnType := none }, accessFlags := 2, code := none }
def k2c1 : Code := { maxStack := 2, maxLocals := 2, code := jdk_29_method_65_code, exceptionTable := #[], attributes := #[] }
def k2m1 : Method := { name := "max", desc := "(II)I", sig := { parameters := [.int, .int], returnType := some .int }, accessFlags := 9, code := some k2c1 }
def k2c2 : Code := { maxStack := 2, maxLocals := 2, code := jdk_29_method_69_code, exceptionTable := #[], attributes := #[] }
def k2m2 : Method := { name := "min", desc := "(II)I", sig := { parameters := [.int, .int], returnType := some .int }, accessFlags := 9, code := some k2c2 }
/-- java/lang/Math -/
def k2 : Class := { plain "java/lang/Math" (some 0) with
  accessFlags := 49
  interfaces := #[]
  cf := some (fileOf pool2 1 #[.nestMembers #[98]] #[{ accessFlags := 2, nameIndex := 7, descriptorIndex := 8, attributes := #[] }, { accessFlags := 9, nameIndex := 198, descriptorIndex := 335, attributes := #[] }, { accessFlags := 9, nameIndex := 201, descriptorIndex := 335, attributes := #[] }] 49 4 #[] #[{ accessFlags := 25, nameIndex := 354, descriptorIndex := 339, attributes := #[] }, { accessFlags := 25, nameIndex := 358, descriptorIndex := 339, attributes := #[] }, { accessFlags := 25, nameIndex := 361, descriptorIndex := 339, attributes := #[] }, { accessFlags := 26, nameIndex := 364, descriptorIndex := 339, attributes := #[] }, { accessFlags := 26, nameIndex := 365, descriptorIndex := 339, attributes := #[] }, { accessFlags := 26, nameIndex := 172, descriptorIndex := 173, attributes := #[] }, { accessFlags := 26, nameIndex := 176, descriptorIndex := 173, attributes := #[] }, { accessFlags := 8, nameIndex := 344, descriptorIndex := 339, attributes := #[] }, { accessFlags := 8, nameIndex := 338, descriptorIndex := 339, attributes := #[] }, { accessFlags := 4120, nameIndex := 245, descriptorIndex := 246, attributes := #[] }])
  fields := #[{ name := "E", type := .double, accessFlags := 25, slot := 0, constantValue := 0 }, { name := "PI", type := .double, accessFlags := 25, slot := 1, constantValue := 0 }, { name := "TAU", type := .double, accessFlags := 25, slot := 2, constantValue := 0 }, { name := "DEGREES_TO_RADIANS", type := .double, accessFlags := 26, slot := 3, constantValue := 0 }, { name := "RADIANS_TO_DEGREES", type := .double, accessFlags := 26, slot := 4, constantValue := 0 }, { name := "negativeZeroFloatBits", type := .long, accessFlags := 26, slot := 5, constantValue := 0 }, { name := "negativeZeroDoubleBits", type := .long, accessFlags := 26, slot := 6, constantValue := 0 }, { name := "twoToTheDoubleScaleUp", type := .double, accessFlags := 8, slot := 7, constantValue := 0 }, { name := "twoToTheDoubleScaleDown", type := .double, accessFlags := 8, slot := 8, constantValue := 0 }, { name := "$assertionsDisabled", type := .boolean, accessFlags := 4120, slot := 9, constantValue := 0 }]
  methods := #[k2m0, k2m1, k2m2]
  instanceTypes := #[]
  staticTypes := #[.double, .double, .double, .double, .double, .long, .long, .double, .double, .boolean]
  resolved := Array.replicate 460 none
  statics := none }

def pool3 : Array CpInfo := pool [(1, .methodref 2 3), (0, .class_ 4), (0, .nameAndType 5 6), (0, u "java/lang/Object"), (0, u "<init>"), (0, u "()V"), (0, .fieldref 8 9), (0, .class_ 10), (0, .nameAndType 11 12), (0, u "com/example/frugal_weir/frugalweir/replay/RecentActivity"), (0, u "executorCompleted"), (0, u "[J"), (0, .fieldref 8 14), (0, .nameAndType 15 16), (0, u "executorLatencySum"), (0, u "[D"), (0, .class_ 18), (0, u "com/example/frugal_weir/frugalweir/replay/RecordQueue"), (0, .methodref 17 20), (0, .nameAndType 5 21), (0, u "(II)V"), (0, .fieldref 8 23), (0, .nameAndType 24 25), (0, u "arrivalEvents"), (0, u "Lcom/example/frugal_weir/frugalweir/replay/RecordQueue;"), (0, .fieldref 8 27), (0, .nameAndType 28 25), (0, u "completionEvents"), (0, .fieldref 8 30), (0, .nameAndType 31 32), (0, u "window"), (0, u "D"), (0, .fieldref 8 34), (0, .nameAndType 35 32), (0, u "asksBefore"), (0, .fieldref 8 37), (0, .nameAndType 38 32), (0, u "keptUntil"), (0, .fieldref 8 40), (0, .nameAndType 41 12), (0, u "keyArrivals"), (0, .methodref 17 43), (0, .nameAndType 44 6), (0, u "addLast"), (0, .methodref 17 46), (0, .nameAndType 47 21), (0, u "setLastInt"), (0, .methodref 17 49), (0, .nameAndType 50 51), (0, u "setLastDouble"), (0, u "(ID)V"), (0, .methodref 53 54), (0, .class_ 55), (0, .nameAndType 56 57), (0, u "java/lang/Math"), (0, u "max"), (0, u "(II)I"), (0, .methodref 59 60), (0, .class_ 61), (0, .nameAndType 62 63), (0, u "java/util/Arrays"), (0, u "copyOf"), (0, u "([JI)[J"), (0, .methodref 59 65), (0, .nameAndType 62 66), (0, u "([DI)[D"), (9, .methodref 17 77), (0, .nameAndType 78 79), (0, u "isEmpty"), (0, u "()Z"), (0, .methodref 17 81), (0, .nameAndType 82 83), (0, u "firstDouble"), (0, u "(I)D"), (0, .methodref 17 85), (0, .nameAndType 86 87), (0, u "firstInt"), (0, u "(I)I"), (0, .methodref 17 89), (0, .nameAndType 90 6), (0, u "removeFirst"), (0, u "KEY"), (0, u "I"), (2, u "PLACE"), (0, u "INSTANT"), (0, u "LATENCY"), (1, u "(IDD)V"), (5, u "completed"), (0, u "forgetUntil"), (0, u "(D)V"), (2, u "executorLatency")] 17

def k3c0 : Code := { maxStack := 5, maxLocals := 6, code := prog_63_method_1_code, exceptionTable := #[], attributes := #[] }
def k3m0 : Method := { name := "<init>", desc := "(IDD)V", sig := { parameters := [.int, .double, .double], returnType := none }, accessFlags := 0, code := some k3c0 }
def k3c1 : Code := { maxStack := 6, maxLocals := 7, code := prog_63_method_4_code, exceptionTable := #[], attributes := #[] }
def k3m1 : Method := { name := "completed", desc := "(IDD)V", sig := { parameters := [.int, .double, .double], returnType := none }, accessFlags := 0, code := some k3c1 }
def k3c2 : Code := { maxStack := 6, maxLocals := 8, code := prog_63_method_5_code, exceptionTable := #[], attributes := #[] }
def k3m2 : Method := { name := "forgetUntil", desc := "(D)V", sig := { parameters := [.double], returnType := none }, accessFlags := 0, code := some k3c2 }
def k3c3 : Code := { maxStack := 4, maxLocals := 3, code := prog_63_method_7_code, exceptionTable := #[], attributes := #[] }
def k3m3 : Method := { name := "executorLatency", desc := "(I)D", sig := { parameters := [.int], returnType := some .double }, accessFlags := 0, code := some k3c3 }
/-- com/example/frugal_weir/frugalweir/replay/RecentActivity -/
def k3 : Class := { plain "com/example/frugal_weir/frugalweir/replay/RecentActivity" (some 0) with
  accessFlags := 48
  interfaces := #[]
  cf := some (fileOf pool3 8 #[] #[{ accessFlags := 0, nameIndex := 5, descriptorIndex := 99, attributes := #[] }, { accessFlags := 0, nameIndex := 105, descriptorIndex := 99, attributes := #[] }, { accessFlags := 0, nameIndex := 106, descriptorIndex := 107, attributes := #[] }, { accessFlags := 0, nameIndex := 110, descriptorIndex := 83, attributes := #[] }] 48 2 #[] #[{ accessFlags := 26, nameIndex := 91, descriptorIndex := 92, attributes := #[] }, { accessFlags := 26, nameIndex := 95, descriptorIndex := 92, attributes := #[] }, { accessFlags := 26, nameIndex := 96, descriptorIndex := 92, attributes := #[] }, { accessFlags := 26, nameIndex := 97, descriptorIndex := 92, attributes := #[] }, { accessFlags := 18, nameIndex := 31, descriptorIndex := 32, attributes := #[] }, { accessFlags := 18, nameIndex := 35, descriptorIndex := 32, attributes := #[] }, { accessFlags := 18, nameIndex := 38, descriptorIndex := 32, attributes := #[] }, { accessFlags := 18, nameIndex := 41, descriptorIndex := 12, attributes := #[] }, { accessFlags := 2, nameIndex := 11, descriptorIndex := 12, attributes := #[] }, { accessFlags := 2, nameIndex := 15, descriptorIndex := 16, attributes := #[] }, { accessFlags := 18, nameIndex := 24, descriptorIndex := 25, attributes := #[] }, { accessFlags := 18, nameIndex := 28, descriptorIndex := 25, attributes := #[] }])
  fields := #[{ name := "KEY", type := .int, accessFlags := 26, slot := 0, constantValue := 0 }, { name := "PLACE", type := .int, accessFlags := 26, slot := 1, constantValue := 0 }, { name := "INSTANT", type := .int, accessFlags := 26, slot := 2, constantValue := 0 }, { name := "LATENCY", type := .int, accessFlags := 26, slot := 3, constantValue := 0 }, { name := "window", type := .double, accessFlags := 18, slot := 0, constantValue := 0 }, { name := "asksBefore", type := .double, accessFlags := 18, slot := 1, constantValue := 0 }, { name := "keptUntil", type := .double, accessFlags := 18, slot := 2, constantValue := 0 }, { name := "keyArrivals", type := (.array .long), accessFlags := 18, slot := 3, constantValue := 0 }, { name := "executorCompleted", type := (.array .long), accessFlags := 2, slot := 4, constantValue := 0 }, { name := "executorLatencySum", type := (.array .double), accessFlags := 2, slot := 5, constantValue := 0 }, { name := "arrivalEvents", type := (.object "com/example/frugal_weir/frugalweir/replay/RecordQueue"), accessFlags := 18, slot := 6, constantValue := 0 }, { name := "completionEvents", type := (.object "com/example/frugal_weir/frugalweir/replay/RecordQueue"), accessFlags := 18, slot := 7, constantValue := 0 }]
  methods := #[k3m0, k3m1, k3m2, k3m3]
  instanceTypes := #[.double, .double, .double, (.array .long), (.array .long), (.array .double), (.object "com/example/frugal_weir/frugalweir/replay/RecordQueue"), (.object "com/example/frugal_weir/frugalweir/replay/RecordQueue")]
  staticTypes := #[.int, .int, .int, .int]
  resolved := Array.replicate 128 none
  statics := none }

def pool4 : Array CpInfo := pool [(1, .methodref 2 3), (0, .class_ 4), (0, .nameAndType 5 6), (0, u "java/lang/Object"), (0, u "<init>"), (0, u "()V"), (0, .class_ 8), (0, u "java/util/ArrayDeque"), (0, .methodref 7 3), (0, .fieldref 11 12), (0, .class_ 13), (0, .nameAndType 14 15), (0, u "com/example/frugal_weir/frugalweir/replay/RecordQueue"), (0, u "blocks"), (0, u "Ljava/util/ArrayDeque;"), (0, .fieldref 11 17), (0, .nameAndType 18 19), (0, u "intFields"), (0, u "I"), (0, .fieldref 11 21), (0, .nameAndType 22 19), (0, u "doubleFields"), (0, .fieldref 11 24), (0, .nameAndType 25 19), (0, u "size"), (0, .fieldref 11 27), (0, .nameAndType 28 29), (0, u "last"), (0, u "Lcom/example/frugal_weir/frugalweir/replay/RecordQueue$Block;"), (0, .fieldref 11 31), (0, .nameAndType 32 19), (0, u "end"), (0, .fieldref 34 35), (0, .class_ 36), (0, .nameAndType 37 19), (0, u "com/example/frugal_weir/frugalweir/replay/RecordQueue$Block"), (0, u "capacity"), (0, .methodref 39 40), (0, .class_ 41), (0, .nameAndType 42 43), (0, u "java/lang/Math"), (0, u "max"), (0, u "(II)I"), (0, .methodref 39 45), (0, .nameAndType 46 43), (0, u "min"), (0, .methodref 11 48), (0, .nameAndType 49 50), (0, u "block"), (0, u "(I)Lcom/example/frugal_weir/frugalweir/replay/RecordQueue$Block;"), (0, .methodref 7 52), (0, .nameAndType 53 54), (0, u "addLast"), (0, u "(Ljava/lang/Object;)V"), (0, .fieldref 11 56), (0, .nameAndType 57 29), (0, u "first"), (0, .fieldref 34 59), (0, .nameAndType 60 61), (0, u "ints"), (0, u "[[I"), (0, .fieldref 34 63), (0, .nameAndType 64 65), (0, u "doubles"), (0, u "[[D"), (0, .fieldref 11 67), (0, .nameAndType 68 19), (0, u "head"), (2, u "removeFirst"), (1, .fieldref 11 74), (0, .nameAndType 75 29), (0, u "spare"), (3, .methodref 34 80), (0, .nameAndType 5 81), (0, u "(III)V"), (0, u "FIRST_ROOM"), (2, u "BLOCK"), (3, u "(II)V"), (2, u "isEmpty"), (0, u "()Z"), (2, u "setLastInt"), (0, u "setLastDouble"), (0, u "(ID)V"), (0, u "firstInt"), (0, u "(I)I"), (0, u "firstDouble"), (0, u "(I)D")] 5

def k4c0 : Code := { maxStack := 3, maxLocals := 3, code := prog_65_method_1_code, exceptionTable := #[], attributes := #[] }
def k4m0 : Method := { name := "<init>", desc := "(II)V", sig := { parameters := [.int, .int], returnType := none }, accessFlags := 0, code := some k4c0 }
def k4c1 : Code := { maxStack := 1, maxLocals := 1, code := prog_65_method_2_code, exceptionTable := #[], attributes := #[] }
def k4m1 : Method := { name := "isEmpty", desc := "()Z", sig := { parameters := [], returnType := some .boolean }, accessFlags := 0, code := some k4c1 }
def k4c2 : Code := { maxStack := 5, maxLocals := 1, code := prog_65_method_4_code, exceptionTable := #[], attributes := #[] }
def k4m2 : Method := { name := "addLast", desc := "()V", sig := { parameters := [], returnType := none }, accessFlags := 0, code := some k4c2 }
def k4c3 : Code := { maxStack := 3, maxLocals := 3, code := prog_65_method_5_code, exceptionTable := #[], attributes := #[] }
def k4m3 : Method := { name := "setLastInt", desc := "(II)V", sig := { parameters := [.int, .int], returnType := none }, accessFlags := 0, code := some k4c3 }
def k4c4 : Code := { maxStack := 4, maxLocals := 4, code := prog_65_method_6_code, exceptionTable := #[], attributes := #[] }
def k4m4 : Method := { name := "setLastDouble", desc := "(ID)V", sig := { parameters := [.int, .double], returnType := none }, accessFlags := 0, code := some k4c4 }
def k4c5 : Code := { maxStack := 2, maxLocals := 2, code := prog_65_method_7_code, exceptionTable := #[], attributes := #[] }
def k4m5 : Method := { name := "firstInt", desc := "(I)I", sig := { parameters := [.int], returnType := some .int }, accessFlags := 0, code := some k4c5 }
def k4c6 : Code := { maxStack := 2, maxLocals := 2, code := prog_65_method_8_code, exceptionTable := #[], attributes := #[] }
def k4m6 : Method := { name := "firstDouble", desc := "(I)D", sig := { parameters := [.int], returnType := some .double }, accessFlags := 0, code := some k4c6 }
def k4c7 : Code := { maxStack := 3, maxLocals := 1, code := prog_65_method_9_code, exceptionTable := #[], attributes := #[] }
def k4m7 : Method := { name := "removeFirst", desc := "()V", sig := { parameters := [], returnType := none }, accessFlags := 0, code := some k4c7 }
def k4c8 : Code := { maxStack := 5, maxLocals := 3, code := prog_65_method_10_code, exceptionTable := #[], attributes := #[] }
def k4m8 : Method := { name := "block", desc := "(I)Lcom/example/frugal_weir/frugalweir/replay/RecordQueue$Block;", sig := { parameters := [.int], returnType := some (.object "com/example/frugal_weir/frugalweir/replay/RecordQueue$Block") }, accessFlags := 2, code := some k4c8 }
/-- com/example/frugal_weir/frugalweir/replay/RecordQueue -/
def k4 : Class := { plain "com/example/frugal_weir/frugalweir/replay/RecordQueue" (some 0) with
  accessFlags := 48
  interfaces := #[]
  cf := some (fileOf pool4 11 #[.nestMembers #[34]] #[{ accessFlags := 0, nameIndex := 5, descriptorIndex := 89, attributes := #[] }, { accessFlags := 0, nameIndex := 92, descriptorIndex := 93, attributes := #[] }, { accessFlags := 0, nameIndex := 53, descriptorIndex := 6, attributes := #[] }, { accessFlags := 0, nameIndex := 96, descriptorIndex := 89, attributes := #[] }, { accessFlags := 0, nameIndex := 97, descriptorIndex := 98, attributes := #[] }, { accessFlags := 0, nameIndex := 99, descriptorIndex := 100, attributes := #[] }, { accessFlags := 0, nameIndex := 101, descriptorIndex := 102, attributes := #[] }, { accessFlags := 0, nameIndex := 71, descriptorIndex := 6, attributes := #[] }, { accessFlags := 2, nameIndex := 49, descriptorIndex := 50, attributes := #[] }] 48 2 #[] #[{ accessFlags := 26, nameIndex := 82, descriptorIndex := 19, attributes := #[] }, { accessFlags := 26, nameIndex := 85, descriptorIndex := 19, attributes := #[] }, { accessFlags := 18, nameIndex := 18, descriptorIndex := 19, attributes := #[] }, { accessFlags := 18, nameIndex := 22, descriptorIndex := 19, attributes := #[] }, { accessFlags := 18, nameIndex := 14, descriptorIndex := 15, attributes := #[] }, { accessFlags := 2, nameIndex := 57, descriptorIndex := 29, attributes := #[] }, { accessFlags := 2, nameIndex := 28, descriptorIndex := 29, attributes := #[] }, { accessFlags := 2, nameIndex := 75, descriptorIndex := 29, attributes := #[] }, { accessFlags := 2, nameIndex := 68, descriptorIndex := 19, attributes := #[] }, { accessFlags := 2, nameIndex := 32, descriptorIndex := 19, attributes := #[] }, { accessFlags := 2, nameIndex := 25, descriptorIndex := 19, attributes := #[] }])
  fields := #[{ name := "FIRST_ROOM", type := .int, accessFlags := 26, slot := 0, constantValue := 0 }, { name := "BLOCK", type := .int, accessFlags := 26, slot := 1, constantValue := 0 }, { name := "intFields", type := .int, accessFlags := 18, slot := 0, constantValue := 0 }, { name := "doubleFields", type := .int, accessFlags := 18, slot := 1, constantValue := 0 }, { name := "blocks", type := (.object "java/util/ArrayDeque"), accessFlags := 18, slot := 2, constantValue := 0 }, { name := "first", type := (.object "com/example/frugal_weir/frugalweir/replay/RecordQueue$Block"), accessFlags := 2, slot := 3, constantValue := 0 }, { name := "last", type := (.object "com/example/frugal_weir/frugalweir/replay/RecordQueue$Block"), accessFlags := 2, slot := 4, constantValue := 0 }, { name := "spare", type := (.object "com/example/frugal_weir/frugalweir/replay/RecordQueue$Block"), accessFlags := 2, slot := 5, constantValue := 0 }, { name := "head", type := .int, accessFlags := 2, slot := 6, constantValue := 0 }, { name := "end", type := .int, accessFlags := 2, slot := 7, constantValue := 0 }, { name := "size", type := .int, accessFlags := 2, slot := 8, constantValue := 0 }]
  methods := #[k4m0, k4m1, k4m2, k4m3, k4m4, k4m5, k4m6, k4m7, k4m8]
  instanceTypes := #[.int, .int, (.object "java/util/ArrayDeque"), (.object "com/example/frugal_weir/frugalweir/replay/RecordQueue$Block"), (.object "com/example/frugal_weir/frugalweir/replay/RecordQueue$Block"), (.object "com/example/frugal_weir/frugalweir/replay/RecordQueue$Block"), .int, .int, .int]
  staticTypes := #[.int, .int]
  resolved := (((Array.replicate 108 none).setIfInBounds 58 (some (.field 14 1))).setIfInBounds 62 (some (.field 14 2))).setIfInBounds 33 (some (.field 14 0))
  statics := none }

def pool5 : Array CpInfo := pool [(8, .class_ 10), (1, u "java/lang/Iterable"), (24, .class_ 36), (0, u "java/lang/Object")] 25

/-- java/lang/Iterable -/
def k5 : Class := { plain "java/lang/Iterable" (some 0) with
  accessFlags := 1537
  interfaces := #[]
  cf := some (fileOf pool5 8 #[] #[] 1537 35 #[] #[])
  fields := #[]
  methods := #[]
  instanceTypes := #[]
  staticTypes := #[]
  resolved := Array.replicate 62 none
  statics := none }

def pool6 : Array CpInfo := pool [(10, .class_ 12), (1, u "java/util/Collection"), (47, .class_ 61), (0, u "java/lang/Object"), (0, .class_ 63), (0, u "java/lang/Iterable")] 51

/-- java/util/Collection -/
def k6 : Class := { plain "java/util/Collection" (some 0) with
  accessFlags := 1537
  interfaces := #[5]
  cf := some (fileOf pool6 10 #[] #[] 1537 60 #[62] #[])
  fields := #[]
  methods := #[]
  instanceTypes := #[]
  staticTypes := #[]
  resolved := Array.replicate 115 none
  statics := none }

def pool7 : Array CpInfo := pool [(1, .methodref 2 3), (0, .class_ 4), (0, .nameAndType 5 6), (0, u "java/lang/Object"), (0, u "<init>"), (0, u "()V"), (1, .class_ 10), (1, u "java/util/AbstractCollection"), (66, .class_ 78), (0, u "java/util/Collection")] 81

def k7c0 : Code := { maxStack := 1, maxLocals := 1, code := jdk_22_method_1_code, exceptionTable := #[], attributes := #[] }
def k7m0 : Method := { name := "<init>", desc := "()V", sig := { parameters := [], returnType := none }, accessFlags := 4, code := some k7c0 }
/-- java/util/AbstractCollection -/
def k7 : Class := { plain "java/util/AbstractCollection" (some 0) with
  accessFlags := 1057
  interfaces := #[6]
  cf := some (fileOf pool7 8 #[] #[{ accessFlags := 4, nameIndex := 5, descriptorIndex := 6, attributes := #[] }] 1057 2 #[77] #[])
  fields := #[]
  methods := #[k7m0]
  instanceTypes := #[]
  staticTypes := #[]
  resolved := Array.replicate 160 none
  statics := none }

def pool8 : Array CpInfo := pool [(1, .class_ 2), (0, u "java/util/Queue"), (0, .class_ 4), (0, u "java/lang/Object"), (0, .class_ 6), (0, u "java/util/Collection")] 14

/-- java/util/Queue -/
def k8 : Class := { plain "java/util/Queue" (some 0) with
  accessFlags := 1537
  interfaces := #[6]
  cf := some (fileOf pool8 1 #[] #[] 1537 3 #[5] #[])
  fields := #[]
  methods := #[]
  instanceTypes := #[]
  staticTypes := #[]
  resolved := Array.replicate 21 none
  statics := none }

def pool9 : Array CpInfo := pool [(8, .class_ 10), (1, u "java/util/SequencedCollection"), (15, .class_ 27), (0, u "java/lang/Object"), (0, .class_ 29), (0, u "java/util/Collection")] 27

/-- java/util/SequencedCollection -/
def k9 : Class := { plain "java/util/SequencedCollection" (some 0) with
  accessFlags := 1537
  interfaces := #[6]
  cf := some (fileOf pool9 8 #[] #[] 1537 26 #[28] #[])
  fields := #[]
  methods := #[]
  instanceTypes := #[]
  staticTypes := #[]
  resolved := Array.replicate 57 none
  statics := none }

def pool10 : Array CpInfo := pool [(8, .class_ 10), (1, u "java/util/Deque"), (2, .class_ 14), (0, u "java/lang/Object"), (0, .class_ 16), (0, u "java/util/Queue"), (0, .class_ 18), (0, u "java/util/SequencedCollection")] 51

/-- java/util/Deque -/
def k10 : Class := { plain "java/util/Deque" (some 0) with
  accessFlags := 1537
  interfaces := #[8, 9]
  cf := some (fileOf pool10 8 #[] #[] 1537 13 #[15, 17] #[])
  fields := #[]
  methods := #[]
  instanceTypes := #[]
  staticTypes := #[]
  resolved := Array.replicate 70 none
  statics := none }

def pool11 : Array CpInfo := pool [(1, .class_ 2), (0, u "java/lang/Cloneable"), (0, .class_ 4), (0, u "java/lang/Object")] 2

/-- java/lang/Cloneable -/
def k11 : Class := { plain "java/lang/Cloneable" (some 0) with
  accessFlags := 1537
  interfaces := #[]
  cf := some (fileOf pool11 1 #[] #[] 1537 3 #[] #[])
  fields := #[]
  methods := #[]
  instanceTypes := #[]
  staticTypes := #[]
  resolved := Array.replicate 7 none
  statics := none }

def pool12 : Array CpInfo := pool [(1, .class_ 2), (0, u "java/io/Serializable"), (0, .class_ 4), (0, u "java/lang/Object")] 2

/-- java/io/Serializable -/
def k12 : Class := { plain "java/io/Serializable" (some 0) with
  accessFlags := 1537
  interfaces := #[]
  cf := some (fileOf pool12 1 #[] #[] 1537 3 #[] #[])
  fields := #[]
  methods := #[]
  instanceTypes := #[]
  staticTypes := #[]
  resolved := Array.replicate 7 none
  statics := none }

def pool13 : Array CpInfo := pool [(3, .fieldref 4 5), (0, .class_ 6), (0, .nameAndType 7 8), (0, u "java/util/ArrayDeque"), (0, u "elements"), (0, u "[Ljava/lang/Object;"), (4, u "(II)I"), (6, .fieldref 4 21), (0, .nameAndType 22 23), (0, u "tail"), (0, u "I"), (0, .fieldref 4 25), (0, .nameAndType 26 23), (0, u "head"), (12, u "<init>"), (2, .methodref 43 44), (0, .class_ 45), (0, .nameAndType 39 46), (0, u "java/util/AbstractCollection"), (0, u "()V"), (0, .class_ 48), (0, u "java/lang/Object"), (25, .methodref 4 75), (0, .nameAndType 76 13), (0, u "inc"), (12, u "(Ljava/lang/Object;)V"), (2, u "addLast"), (38, .class_ 132), (0, u "java/util/ArrayDeque$DeqIterator"), (3, .class_ 137), (0, u "java/util/ArrayDeque$DescendingIterator"), (1, .class_ 140), (0, u "java/util/ArrayDeque$DeqSpliterator"), (137, .class_ 279), (0, u "java/util/Deque"), (0, .class_ 281), (0, u "java/lang/Cloneable"), (0, .class_ 283), (0, u "java/io/Serializable"), (0, u "MAX_ARRAY_SIZE"), (1, u "serialVersionUID"), (0, u "J")] 150

def k13c0 : Code := { maxStack := 2, maxLocals := 1, code := jdk_21_method_3_code, exceptionTable := #[], attributes := #[] }
def k13m0 : Method := { name := "<init>", desc := "()V", sig := { parameters := [], returnType := none }, accessFlags := 1, code := some k13c0 }
def k13c1 : Code := { maxStack := 2, maxLocals := 2, code := jdk_21_method_6_code, exceptionTable := #[], attributes := #[] }
def k13m1 : Method := { name := "inc", desc := "(II)I", sig := { parameters := [.int, .int], returnType := some .int }, accessFlags := 24, code := some k13c1 }
def k13c2 : Code := { maxStack := 4, maxLocals := 3, code := jdk_21_method_13_code, exceptionTable := #[], attributes := #[] }
def k13m2 : Method := { name := "addLast", desc := "(Ljava/lang/Object;)V", sig := { parameters := [(.object "java/lang/Object")], returnType := none }, accessFlags := 1, code := some k13c2 }
/-- java/util/ArrayDeque -/
def k13 : Class := { plain "java/util/ArrayDeque" (some 7) with
  accessFlags := 33
  interfaces := #[10, 11, 12]
  cf := some (fileOf pool13 4 #[.nestMembers #[139, 136, 131]] #[{ accessFlags := 1, nameIndex := 39, descriptorIndex := 46, attributes := #[] }, { accessFlags := 24, nameIndex := 76, descriptorIndex := 13, attributes := #[] }, { accessFlags := 1, nameIndex := 92, descriptorIndex := 89, attributes := #[] }] 33 43 #[278, 280, 282] #[{ accessFlags := 128, nameIndex := 7, descriptorIndex := 8, attributes := #[] }, { accessFlags := 128, nameIndex := 26, descriptorIndex := 23, attributes := #[] }, { accessFlags := 128, nameIndex := 22, descriptorIndex := 23, attributes := #[] }, { accessFlags := 26, nameIndex := 284, descriptorIndex := 23, attributes := #[] }, { accessFlags := 26, nameIndex := 286, descriptorIndex := 287, attributes := #[] }])
  fields := #[{ name := "elements", type := (.array (.object "java/lang/Object")), accessFlags := 128, slot := 0, constantValue := 0 }, { name := "head", type := .int, accessFlags := 128, slot := 1, constantValue := 0 }, { name := "tail", type := .int, accessFlags := 128, slot := 2, constantValue := 0 }, { name := "MAX_ARRAY_SIZE", type := .int, accessFlags := 26, slot := 0, constantValue := 0 }, { name := "serialVersionUID", type := .long, accessFlags := 26, slot := 1, constantValue := 0 }]
  methods := #[k13m0, k13m1, k13m2]
  instanceTypes := #[(.array (.object "java/lang/Object")), .int, .int]
  staticTypes := #[.int, .long]
  resolved := Array.replicate 438 none
  statics := none }

def pool14 : Array CpInfo := pool [(1, .methodref 2 3), (0, .class_ 4), (0, .nameAndType 5 6), (0, u "java/lang/Object"), (0, u "<init>"), (0, u "()V"), (0, .fieldref 8 9), (0, .class_ 10), (0, .nameAndType 11 12), (0, u "com/example/frugal_weir/frugalweir/replay/RecordQueue$Block"), (0, u "capacity"), (0, u "I"), (0, .class_ 14), (0, u "[[I"), (0, .fieldref 8 16), (0, .nameAndType 17 14), (0, u "ints"), (0, .class_ 19), (0, u "[[D"), (0, .fieldref 8 21), (0, .nameAndType 22 19), (0, u "doubles"), (0, u "(III)V"), (5, .class_ 30), (0, u "com/example/frugal_weir/frugalweir/replay/RecordQueue")] 2

def k14c0 : Code := { maxStack := 3, maxLocals := 4, code := prog_66_method_1_code, exceptionTable := #[], attributes := #[] }
def k14m0 : Method := { name := "<init>", desc := "(III)V", sig := { parameters := [.int, .int, .int], returnType := none }, accessFlags := 0, code := some k14c0 }
/-- com/example/frugal_weir/frugalweir/replay/RecordQueue$Block -/
def k14 : Class := { plain "com/example/frugal_weir/frugalweir/replay/RecordQueue$Block" (some 0) with
  accessFlags := 48
  interfaces := #[]
  cf := some (fileOf pool14 8 #[.nestHost 29] #[{ accessFlags := 0, nameIndex := 5, descriptorIndex := 23, attributes := #[] }] 48 2 #[] #[{ accessFlags := 18, nameIndex := 11, descriptorIndex := 12, attributes := #[] }, { accessFlags := 18, nameIndex := 17, descriptorIndex := 14, attributes := #[] }, { accessFlags := 18, nameIndex := 22, descriptorIndex := 19, attributes := #[] }])
  fields := #[{ name := "capacity", type := .int, accessFlags := 18, slot := 0, constantValue := 0 }, { name := "ints", type := (.array (.array .int)), accessFlags := 18, slot := 1, constantValue := 0 }, { name := "doubles", type := (.array (.array .double)), accessFlags := 18, slot := 2, constantValue := 0 }]
  methods := #[k14m0]
  instanceTypes := #[.int, (.array (.array .int)), (.array (.array .double))]
  staticTypes := #[]
  resolved := Array.replicate 33 none
  statics := none }

def pool15 : Array CpInfo := pool [(2, .class_ 4), (1, u "java/lang/Object"), (0, u "<init>"), (0, u "()V"), (7, .class_ 16), (1, u "java/util/Arrays"), (57, .class_ 76), (1, u "java/util/Arrays$NaturalOrder"), (36, .class_ 115), (1, u "java/util/Arrays$LegacyMergeSort"), (1, u "Z"), (32, .methodref 151 152), (0, .class_ 153), (0, .nameAndType 154 155), (0, u "java/lang/System"), (0, u "arraycopy"), (0, u "(Ljava/lang/Object;ILjava/lang/Object;II)V"), (146, u "copyOf"), (1, .methodref 305 306), (0, .class_ 307), (0, .nameAndType 308 309), (0, u "java/lang/Math"), (0, u "min"), (0, u "(II)I"), (65, .class_ 376), (0, u "java/util/Arrays$ArrayList"), (68, u "$assertionsDisabled"), (269, u "MIN_ARRAY_SORT_GRAN"), (0, u "I"), (2, u "INSERTIONSORT_THRESHOLD"), (152, u "([JI)[J"), (2, u "([DI)[D"), (99, .class_ 976), (0, u "java/util/Arrays$ArrayItr")] 52

def k15m0 : Method := { name := "<init>", desc := "()V", sig := { parameters := [], returnType := none }, accessFlags := 2, code := none }
def k15c1 : Code := { maxStack := 6, maxLocals := 3, code := jdk_65_method_124_code, exceptionTable := #[], attributes := #[] }
def k15m1 : Method := { name := "copyOf", desc := "([JI)[J", sig := { parameters := [(.array .long), .int], returnType := some (.array .long) }, accessFlags := 9, code := some k15c1 }
def k15c2 : Code := { maxStack := 6, maxLocals := 3, code := jdk_65_method_127_code, exceptionTable := #[], attributes := #[] }
def k15m2 : Method := { name := "copyOf", desc := "([DI)[D", sig := { parameters := [(.array .double), .int], returnType := some (.array .double) }, accessFlags := 9, code := some k15c2 }
/-- java/util/Arrays -/
def k15 : Class := { plain "java/util/Arrays" (some 0) with
  accessFlags := 49
  interfaces := #[]
  cf := some (fileOf pool15 14 #[.nestMembers #[975, 375, 113, 74]] #[{ accessFlags := 2, nameIndex := 5, descriptorIndex := 6, attributes := #[] }, { accessFlags := 9, nameIndex := 302, descriptorIndex := 872, attributes := #[] }, { accessFlags := 9, nameIndex := 302, descriptorIndex := 875, attributes := #[] }] 49 2 #[] #[{ accessFlags := 26, nameIndex := 715, descriptorIndex := 716, attributes := #[] }, { accessFlags := 26, nameIndex := 719, descriptorIndex := 716, attributes := #[] }, { accessFlags := 4120, nameIndex := 445, descriptorIndex := 117, attributes := #[] }])
  fields := #[{ name := "MIN_ARRAY_SORT_GRAN", type := .int, accessFlags := 26, slot := 0, constantValue := 0 }, { name := "INSERTIONSORT_THRESHOLD", type := .int, accessFlags := 26, slot := 1, constantValue := 0 }, { name := "$assertionsDisabled", type := .boolean, accessFlags := 4120, slot := 2, constantValue := 0 }]
  methods := #[k15m0, k15m1, k15m2]
  instanceTypes := #[]
  staticTypes := #[.int, .int, .boolean]
  resolved := Array.replicate 1029 none
  statics := none }

def pool16 : Array CpInfo := pool [(2, .class_ 4), (1, u "java/lang/Object"), (0, u "<init>"), (0, u "()V"), (1, .class_ 10), (1, u "java/lang/System"), (0, u "allowSecurityManager"), (0, u "I"), (16, u "cons"), (0, u "Ljava/io/Console;"), (77, .class_ 110), (1, u "java/lang/System$CallersHolder"), (43, u "initialErrStream"), (0, u "Ljava/io/PrintStream;"), (19, u "security"), (0, u "Ljava/lang/SecurityManager;"), (31, .class_ 209), (0, u "java/lang/System$1"), (7, u "props"), (0, u "Ljava/util/Properties;"), (2, u "lineSeparator"), (0, u "Ljava/lang/String;"), (96, .class_ 321), (1, u "java/lang/System$LoggerFinder"), (5, .class_ 328), (0, u "java/lang/System$Logger"), (67, u "err"), (2, u "out"), (91, u "notSupportedJnuEncoding"), (15, u "in"), (17, u "initialIn"), (0, u "Ljava/io/InputStream;"), (35, u "bootLayer"), (0, u "Ljava/lang/ModuleLayer;"), (99, .class_ 664), (0, u "java/lang/System$2"), (9, u "NEVER"), (2, u "MAYBE"), (49, u "arraycopy"), (0, u "(Ljava/lang/Object;ILjava/lang/Object;II)V"), (72, .class_ 802), (0, u "java/lang/System$Logger$Level")] 31

def k16m0 : Method := { name := "<init>", desc := "()V", sig := { parameters := [], returnType := none }, accessFlags := 2, code := none }
def k16m1 : Method := { name := "arraycopy", desc := "(Ljava/lang/Object;ILjava/lang/Object;II)V", sig := { parameters := [(.object "java/lang/Object"), .int, (.object "java/lang/Object"), .int, .int], returnType := none }, accessFlags := 265, code := none }
/-- java/lang/System -/
def k16 : Class := { plain "java/lang/System" (some 0) with
  accessFlags := 49
  interfaces := #[]
  cf := some (fileOf pool16 8 #[.nestMembers #[319, 327, 801, 108, 663, 208]] #[{ accessFlags := 2, nameIndex := 5, descriptorIndex := 6, attributes := #[] }, { accessFlags := 265, nameIndex := 727, descriptorIndex := 728, attributes := #[] }] 49 2 #[] #[{ accessFlags := 25, nameIndex := 507, descriptorIndex := 526, attributes := #[] }, { accessFlags := 25, nameIndex := 399, descriptorIndex := 155, attributes := #[] }, { accessFlags := 25, nameIndex := 396, descriptorIndex := 155, attributes := #[] }, { accessFlags := 10, nameIndex := 525, descriptorIndex := 526, attributes := #[] }, { accessFlags := 26, nameIndex := 674, descriptorIndex := 12, attributes := #[] }, { accessFlags := 26, nameIndex := 677, descriptorIndex := 12, attributes := #[] }, { accessFlags := 10, nameIndex := 11, descriptorIndex := 12, attributes := #[] }, { accessFlags := 74, nameIndex := 175, descriptorIndex := 176, attributes := #[] }, { accessFlags := 10, nameIndex := 491, descriptorIndex := 222, attributes := #[] }, { accessFlags := 74, nameIndex := 29, descriptorIndex := 30, attributes := #[] }, { accessFlags := 74, nameIndex := 154, descriptorIndex := 155, attributes := #[] }, { accessFlags := 10, nameIndex := 217, descriptorIndex := 218, attributes := #[] }, { accessFlags := 10, nameIndex := 221, descriptorIndex := 222, attributes := #[] }, { accessFlags := 8, nameIndex := 562, descriptorIndex := 563, attributes := #[] }])
  fields := #[{ name := "in", type := (.object "java/io/InputStream"), accessFlags := 25, slot := 0, constantValue := 0 }, { name := "out", type := (.object "java/io/PrintStream"), accessFlags := 25, slot := 1, constantValue := 0 }, { name := "err", type := (.object "java/io/PrintStream"), accessFlags := 25, slot := 2, constantValue := 0 }, { name := "initialIn", type := (.object "java/io/InputStream"), accessFlags := 10, slot := 3, constantValue := 0 }, { name := "NEVER", type := .int, accessFlags := 26, slot := 4, constantValue := 0 }, { name := "MAYBE", type := .int, accessFlags := 26, slot := 5, constantValue := 0 }, { name := "allowSecurityManager", type := .int, accessFlags := 10, slot := 6, constantValue := 0 }, { name := "security", type := (.object "java/lang/SecurityManager"), accessFlags := 74, slot := 7, constantValue := 0 }, { name := "notSupportedJnuEncoding", type := (.object "java/lang/String"), accessFlags := 10, slot := 8, constantValue := 0 }, { name := "cons", type := (.object "java/io/Console"), accessFlags := 74, slot := 9, constantValue := 0 }, { name := "initialErrStream", type := (.object "java/io/PrintStream"), accessFlags := 74, slot := 10, constantValue := 0 }, { name := "props", type := (.object "java/util/Properties"), accessFlags := 10, slot := 11, constantValue := 0 }, { name := "lineSeparator", type := (.object "java/lang/String"), accessFlags := 10, slot := 12, constantValue := 0 }, { name := "bootLayer", type := (.object "java/lang/ModuleLayer"), accessFlags := 8, slot := 13, constantValue := 0 }]
  methods := #[k16m0, k16m1]
  instanceTypes := #[]
  staticTypes := #[(.object "java/io/InputStream"), (.object "java/io/PrintStream"), (.object "java/io/PrintStream"), (.object "java/io/InputStream"), .int, .int, .int, (.object "java/lang/SecurityManager"), (.object "java/lang/String"), (.object "java/io/Console"), (.object "java/io/PrintStream"), (.object "java/util/Properties"), (.object "java/lang/String"), (.object "java/lang/ModuleLayer")]
  resolved := Array.replicate 834 none
  statics := none }

/-- the primitive byte -/
def k17 : Class := { plain "byte" none with kind := .primitive 'B', accessFlags := 0x411 }
/-- [B -/
def k18 : Class := { plain "[B" (some 0) with kind := .array 17 .byte, interfaces := #[11, 12], accessFlags := 1041 }

/-- the primitive int -/
def k19 : Class := { plain "int" none with kind := .primitive 'I', accessFlags := 0x411 }
/-- [I -/
def k20 : Class := { plain "[I" (some 0) with kind := .array 19 .int, interfaces := #[11, 12], accessFlags := 1041 }

/-- the primitive long -/
def k21 : Class := { plain "long" none with kind := .primitive 'J', accessFlags := 0x411 }
/-- [J -/
def k22 : Class := { plain "[J" (some 0) with kind := .array 21 .long, interfaces := #[11, 12], accessFlags := 1041 }

/-- [Ljava/lang/Object; -/
def k23 : Class := { plain "[Ljava/lang/Object;" (some 0) with kind := .array 0 (.object "java/lang/Object"), interfaces := #[11, 12], accessFlags := 1041 }

/-- the primitive double -/
def k24 : Class := { plain "double" none with kind := .primitive 'D', accessFlags := 0x411 }
/-- [D -/
def k25 : Class := { plain "[D" (some 0) with kind := .array 24 .double, interfaces := #[11, 12], accessFlags := 1041 }
/-- [[D -/
def k26 : Class := { plain "[[D" (some 0) with kind := .array 25 (.array .double), interfaces := #[11, 12], accessFlags := 1041 }
/-- [[I -/
def k27 : Class := { plain "[[I" (some 0) with kind := .array 20 (.array .int), interfaces := #[11, 12], accessFlags := 1041 }

def heap : Heap := #[]
def classes : Array Class := #[k0, k1, k2, k3, k4, k5, k6, k7, k8, k9, k10, k11, k12, k13, k14, k15, k16, k17, k18, k19, k20, k21, k22, k23, k24, k25, k26, k27]
def interned : List (Array UInt16 × Addr) := []
def slotsUsed : Nat := 0
def theMethod : MethodId := ⟨1, 1⟩
def args0 : Array Value := #[.int 5, .int 6, .int 7, .int 8, .int 9, .int 3]
def aboutOver (below : List Frame) : State where
  vm := { classes := classes, interned := interned.toArray }
  heap := heap
  slotsUsed := slotsUsed
  threads := #[{ frames := .invoking theMethod args0 :: below }]
def below0 : List Frame := [.native { method := ⟨0, 0⟩, args := #[] }]
def about1 : State := aboutOver below0
def p0 : Program := .bare "" "" ""
def e0 : Env := launch0.env 0 0 0
theorem w_frames : about1.frames = Frame.invoking theMethod args0 :: below0 := rfl
set_option maxRecDepth 65536 in
theorem w_args : argsFit about1.vm theMethod args0 = true := by decide +kernel
set_option maxRecDepth 65536 in
theorem w_heap : heapFits about1 = true := by decide +kernel
set_option maxRecDepth 65536 in
theorem w_runnable : about1.curStatus? = some .runnable := by decide +kernel
set_option maxRecDepth 65536 in
theorem w_alone : about1.alone = true := by decide +kernel
set_option maxRecDepth 65536 in
theorem w_named : about1.methodNamed? x = some theMethod := by decide +kernel
set_option maxRecDepth 65536 in
theorem w_hears : about1.hears theMethod below0 = true := by decide +kernel
set_option maxRecDepth 65536 in
theorem w_ripe : about1.ripe theMethod args0 below0 = true := by decide +kernel
theorem w_running : about1.status = .running := rfl
set_option maxRecDepth 65536 in
theorem w_room : about1.hasRoom e0.platform room_1 = true :=
  launch0.hasRoom_least _ room_1 (by decide +kernel) (by decide +kernel) (by decide +kernel) (by decide +kernel) (by decide +kernel) (by decide +kernel)
theorem allAtoms_all (ts : List Jvm.Cond) (a : Array Jvm.Value) (st : Jvm.State) : (allAtoms ts).before a st = ts.all (fun c => c.before a st) := by
  induction ts with
  | nil => rfl
  | cons c t ih =>
    show (Jvm.Cond.and c (allAtoms t)).before a st = _
    rw [Jvm.Cond.before_and, ih, List.all_cons]
def words1 : List Jvm.Cond := Jvm.Cond.code x code maxLocals ret :: tables_1
/-- a 'code' word, met by the world's own term for the bytes: nothing is compared byte by byte -/
theorem code_word {y : MethodName} {bytes : ByteArray} {mx : Nat} {rt : Option FieldType} {a : Array Value} {s : State} {m : MethodId} {meth : Method} {c : Code} (h1 : s.methodNamed? y = some m) (h2 : s.vm.method? m = some meth) (h3 : meth.code = some c) (h4 : c.code = bytes)
    (h5 : (c.maxLocals == mx && c.exceptionTable.isEmpty && decide (c.maxStack ≤ mostOperands) && decide (meth.sig.returnType = rt) && !meth.locks && decide (parseMethodDescriptor y.desc = some meth.sig)) = true) : (Jvm.Cond.code y bytes mx rt).before a s = true := by
  simp only [Bool.and_eq_true, beq_iff_eq, Bool.not_eq_true', decide_eq_true_eq] at h5
  obtain ⟨⟨⟨⟨⟨g1, g2⟩, g3⟩, g4⟩, g5⟩, g6⟩ := h5
  simp [Cond.before, Cond.holds, Cond.value, h1, h2, h3, h4, g1, g2, g3, g4, g5, g6]
def isCode : Jvm.Cond → Bool
  | .code _ _ _ _ => true
  | _ => false
theorem all_split {L : List Jvm.Cond} {P : Jvm.Cond → Bool} (h1 : L.all (fun c => isCode c || P c) = true) (h2 : ∀ c ∈ L.filter isCode, P c = true) : L.all P = true := by
  refine List.all_eq_true.mpr fun c hc => ?_
  have h := List.all_eq_true.mp h1 c hc
  rcases Bool.eq_false_or_eq_true (isCode c) with hi | hi
  · exact h2 c (List.mem_filter.mpr ⟨hc, hi⟩)
  · simpa [hi] using h
set_option maxRecDepth 65536 in
theorem w_c0 : (Jvm.Cond.code x code maxLocals ret).before args0 about1 = true := code_word (m := ⟨1, 1⟩) (meth := k1m1) (c := k1c1) (by decide +kernel) rfl rfl rfl (by decide +kernel)
set_option maxRecDepth 65536 in
theorem w_c1 : (Jvm.Cond.code ({ cls := "java/lang/Math", name := "min", desc := "(II)I" } : Jvm.MethodName) jdk_29_method_69_code (2 : Nat) (Option.some Jvm.ClassFile.FieldType.int)).before args0 about1 = true := code_word (m := ⟨2, 2⟩) (meth := k2m2) (c := k2c2) (by decide +kernel) rfl rfl rfl (by decide +kernel)
set_option maxRecDepth 65536 in
theorem w_c2 : (Jvm.Cond.code ({ cls := "com/example/frugal_weir/frugalweir/replay/RecentActivityExecutorLatencyPinLaw", name := "instant", desc := "(I)I" } : Jvm.MethodName) method_3_code (1 : Nat) (Option.some Jvm.ClassFile.FieldType.int)).before args0 about1 = true := code_word (m := ⟨1, 2⟩) (meth := k1m2) (c := k1c2) (by decide +kernel) rfl rfl rfl (by decide +kernel)
set_option maxRecDepth 65536 in
theorem w_c3 : (Jvm.Cond.code ({ cls := "com/example/frugal_weir/frugalweir/replay/RecentActivity", name := "<init>", desc := "(IDD)V" } : Jvm.MethodName) prog_63_method_1_code (6 : Nat) (Option.none : Option Jvm.ClassFile.FieldType)).before args0 about1 = true := code_word (m := ⟨3, 0⟩) (meth := k3m0) (c := k3c0) (by decide +kernel) rfl rfl rfl (by decide +kernel)
set_option maxRecDepth 65536 in
theorem w_c4 : (Jvm.Cond.code ({ cls := "java/lang/Object", name := "<init>", desc := "()V" } : Jvm.MethodName) object_method_1_code (1 : Nat) (Option.none : Option Jvm.ClassFile.FieldType)).before args0 about1 = true := code_word (m := ⟨0, 0⟩) (meth := k0m0) (c := k0c0) (by decide +kernel) rfl rfl rfl (by decide +kernel)
set_option maxRecDepth 65536 in
theorem w_c5 : (Jvm.Cond.code ({ cls := "com/example/frugal_weir/frugalweir/replay/RecordQueue", name := "<init>", desc := "(II)V" } : Jvm.MethodName) prog_65_method_1_code (3 : Nat) (Option.none : Option Jvm.ClassFile.FieldType)).before args0 about1 = true := code_word (m := ⟨4, 0⟩) (meth := k4m0) (c := k4c0) (by decide +kernel) rfl rfl rfl (by decide +kernel)
set_option maxRecDepth 65536 in
theorem w_c6 : (Jvm.Cond.code ({ cls := "java/util/ArrayDeque", name := "<init>", desc := "()V" } : Jvm.MethodName) jdk_21_method_3_code (1 : Nat) (Option.none : Option Jvm.ClassFile.FieldType)).before args0 about1 = true := code_word (m := ⟨13, 0⟩) (meth := k13m0) (c := k13c0) (by decide +kernel) rfl rfl rfl (by decide +kernel)
set_option maxRecDepth 65536 in
theorem w_c7 : (Jvm.Cond.code ({ cls := "java/util/AbstractCollection", name := "<init>", desc := "()V" } : Jvm.MethodName) jdk_22_method_1_code (1 : Nat) (Option.none : Option Jvm.ClassFile.FieldType)).before args0 about1 = true := code_word (m := ⟨7, 0⟩) (meth := k7m0) (c := k7c0) (by decide +kernel) rfl rfl rfl (by decide +kernel)
set_option maxRecDepth 65536 in
theorem w_c8 : (Jvm.Cond.code ({ cls := "com/example/frugal_weir/frugalweir/replay/RecentActivity", name := "completed", desc := "(IDD)V" } : Jvm.MethodName) prog_63_method_4_code (7 : Nat) (Option.none : Option Jvm.ClassFile.FieldType)).before args0 about1 = true := code_word (m := ⟨3, 1⟩) (meth := k3m1) (c := k3c1) (by decide +kernel) rfl rfl rfl (by decide +kernel)
set_option maxRecDepth 65536 in
theorem w_c9 : (Jvm.Cond.code ({ cls := "com/example/frugal_weir/frugalweir/replay/RecordQueue", name := "addLast", desc := "()V" } : Jvm.MethodName) prog_65_method_4_code (1 : Nat) (Option.none : Option Jvm.ClassFile.FieldType)).before args0 about1 = true := code_word (m := ⟨4, 2⟩) (meth := k4m2) (c := k4c2) (by decide +kernel) rfl rfl rfl (by decide +kernel)
set_option maxRecDepth 65536 in
theorem w_c10 : (Jvm.Cond.code ({ cls := "java/lang/Math", name := "max", desc := "(II)I" } : Jvm.MethodName) jdk_29_method_65_code (2 : Nat) (Option.some Jvm.ClassFile.FieldType.int)).before args0 about1 = true := code_word (m := ⟨2, 1⟩) (meth := k2m1) (c := k2c1) (by decide +kernel) rfl rfl rfl (by decide +kernel)
set_option maxRecDepth 65536 in
theorem w_c11 : (Jvm.Cond.code ({ cls := "com/example/frugal_weir/frugalweir/replay/RecordQueue", name := "block", desc := "(I)Lcom/example/frugal_weir/frugalweir/replay/RecordQueue$Block;" } : Jvm.MethodName) prog_65_method_10_code (3 : Nat) (Option.some (Jvm.ClassFile.FieldType.object "com/example/frugal_weir/frugalweir/replay/RecordQueue$Block"))).before args0 about1 = true := code_word (m := ⟨4, 8⟩) (meth := k4m8) (c := k4c8) (by decide +kernel) rfl rfl rfl (by decide +kernel)
set_option maxRecDepth 65536 in
theorem w_c12 : (Jvm.Cond.code ({ cls := "com/example/frugal_weir/frugalweir/replay/RecordQueue$Block", name := "<init>", desc := "(III)V" } : Jvm.MethodName) prog_66_method_1_code (4 : Nat) (Option.none : Option Jvm.ClassFile.FieldType)).before args0 about1 = true := code_word (m := ⟨14, 0⟩) (meth := k14m0) (c := k14c0) (by decide +kernel) rfl rfl rfl (by decide +kernel)
set_option maxRecDepth 65536 in
theorem w_c13 : (Jvm.Cond.code ({ cls := "java/util/ArrayDeque", name := "addLast", desc := "(Ljava/lang/Object;)V" } : Jvm.MethodName) jdk_21_method_13_code (3 : Nat) (Option.none : Option Jvm.ClassFile.FieldType)).before args0 about1 = true := code_word (m := ⟨13, 2⟩) (meth := k13m2) (c := k13c2) (by decide +kernel) rfl rfl rfl (by decide +kernel)
set_option maxRecDepth 65536 in
theorem w_c14 : (Jvm.Cond.code ({ cls := "java/util/ArrayDeque", name := "inc", desc := "(II)I" } : Jvm.MethodName) jdk_21_method_6_code (2 : Nat) (Option.some Jvm.ClassFile.FieldType.int)).before args0 about1 = true := code_word (m := ⟨13, 1⟩) (meth := k13m1) (c := k13c1) (by decide +kernel) rfl rfl rfl (by decide +kernel)
set_option maxRecDepth 65536 in
theorem w_c15 : (Jvm.Cond.code ({ cls := "com/example/frugal_weir/frugalweir/replay/RecordQueue", name := "setLastInt", desc := "(II)V" } : Jvm.MethodName) prog_65_method_5_code (3 : Nat) (Option.none : Option Jvm.ClassFile.FieldType)).before args0 about1 = true := code_word (m := ⟨4, 3⟩) (meth := k4m3) (c := k4c3) (by decide +kernel) rfl rfl rfl (by decide +kernel)
set_option maxRecDepth 65536 in
theorem w_c16 : (Jvm.Cond.code ({ cls := "com/example/frugal_weir/frugalweir/replay/RecordQueue", name := "setLastDouble", desc := "(ID)V" } : Jvm.MethodName) prog_65_method_6_code (4 : Nat) (Option.none : Option Jvm.ClassFile.FieldType)).before args0 about1 = true := code_word (m := ⟨4, 4⟩) (meth := k4m4) (c := k4c4) (by decide +kernel) rfl rfl rfl (by decide +kernel)
set_option maxRecDepth 65536 in
theorem w_c17 : (Jvm.Cond.code ({ cls := "com/example/frugal_weir/frugalweir/replay/RecentActivity", name := "executorLatency", desc := "(I)D" } : Jvm.MethodName) prog_63_method_7_code (3 : Nat) (Option.some Jvm.ClassFile.FieldType.double)).before args0 about1 = true := code_word (m := ⟨3, 3⟩) (meth := k3m3) (c := k3c3) (by decide +kernel) rfl rfl rfl (by decide +kernel)
set_option maxRecDepth 65536 in
theorem w_c18 : (Jvm.Cond.code ({ cls := "java/util/Arrays", name := "copyOf", desc := "([JI)[J" } : Jvm.MethodName) jdk_65_method_124_code (3 : Nat) (Option.some (Jvm.ClassFile.FieldType.array Jvm.ClassFile.FieldType.long))).before args0 about1 = true := code_word (m := ⟨15, 1⟩) (meth := k15m1) (c := k15c1) (by decide +kernel) rfl rfl rfl (by decide +kernel)
set_option maxRecDepth 65536 in
theorem w_c19 : (Jvm.Cond.code ({ cls := "java/util/Arrays", name := "copyOf", desc := "([DI)[D" } : Jvm.MethodName) jdk_65_method_127_code (3 : Nat) (Option.some (Jvm.ClassFile.FieldType.array Jvm.ClassFile.FieldType.double))).before args0 about1 = true := code_word (m := ⟨15, 2⟩) (meth := k15m2) (c := k15c2) (by decide +kernel) rfl rfl rfl (by decide +kernel)
set_option maxRecDepth 65536 in
theorem w_c20 : (Jvm.Cond.code ({ cls := "com/example/frugal_weir/frugalweir/replay/RecentActivity", name := "forgetUntil", desc := "(D)V" } : Jvm.MethodName) prog_63_method_5_code (8 : Nat) (Option.none : Option Jvm.ClassFile.FieldType)).before args0 about1 = true := code_word (m := ⟨3, 2⟩) (meth := k3m2) (c := k3c2) (by decide +kernel) rfl rfl rfl (by decide +kernel)
set_option maxRecDepth 65536 in
theorem w_c21 : (Jvm.Cond.code ({ cls := "com/example/frugal_weir/frugalweir/replay/RecordQueue", name := "isEmpty", desc := "()Z" } : Jvm.MethodName) prog_65_method_2_code (1 : Nat) (Option.some Jvm.ClassFile.FieldType.boolean)).before args0 about1 = true := code_word (m := ⟨4, 1⟩) (meth := k4m1) (c := k4c1) (by decide +kernel) rfl rfl rfl (by decide +kernel)
set_option maxRecDepth 65536 in
theorem w_c22 : (Jvm.Cond.code ({ cls := "com/example/frugal_weir/frugalweir/replay/RecordQueue", name := "firstDouble", desc := "(I)D" } : Jvm.MethodName) prog_65_method_8_code (2 : Nat) (Option.some Jvm.ClassFile.FieldType.double)).before args0 about1 = true := code_word (m := ⟨4, 6⟩) (meth := k4m6) (c := k4c6) (by decide +kernel) rfl rfl rfl (by decide +kernel)
set_option maxRecDepth 65536 in
theorem w_c23 : (Jvm.Cond.code ({ cls := "com/example/frugal_weir/frugalweir/replay/RecordQueue", name := "firstInt", desc := "(I)I" } : Jvm.MethodName) prog_65_method_7_code (2 : Nat) (Option.some Jvm.ClassFile.FieldType.int)).before args0 about1 = true := code_word (m := ⟨4, 5⟩) (meth := k4m5) (c := k4c5) (by decide +kernel) rfl rfl rfl (by decide +kernel)
set_option maxRecDepth 65536 in
theorem w_c24 : (Jvm.Cond.code ({ cls := "com/example/frugal_weir/frugalweir/replay/RecordQueue", name := "removeFirst", desc := "()V" } : Jvm.MethodName) prog_65_method_9_code (1 : Nat) (Option.none : Option Jvm.ClassFile.FieldType)).before args0 about1 = true := code_word (m := ⟨4, 7⟩) (meth := k4m7) (c := k4c7) (by decide +kernel) rfl rfl rfl (by decide +kernel)
def codes1 : List Jvm.Cond := [Jvm.Cond.code x code maxLocals ret, Jvm.Cond.code ({ cls := "java/lang/Math", name := "min", desc := "(II)I" } : Jvm.MethodName) jdk_29_method_69_code (2 : Nat) (Option.some Jvm.ClassFile.FieldType.int), Jvm.Cond.code ({ cls := "com/example/frugal_weir/frugalweir/replay/RecentActivityExecutorLatencyPinLaw", name := "instant", desc := "(I)I" } : Jvm.MethodName) method_3_code (1 : Nat) (Option.some Jvm.ClassFile.FieldType.int), Jvm.Cond.code ({ cls := "com/example/frugal_weir/frugalweir/replay/RecentActivity", name := "<init>", desc := "(IDD)V" } : Jvm.MethodName) prog_63_method_1_code (6 : Nat) (Option.none : Option Jvm.ClassFile.FieldType), Jvm.Cond.code ({ cls := "java/lang/Object", name := "<init>", desc := "()V" } : Jvm.MethodName) object_method_1_code (1 : Nat) (Option.none : Option Jvm.ClassFile.FieldType), Jvm.Cond.code ({ cls := "com/example/frugal_weir/frugalweir/replay/RecordQueue", name := "<init>", desc := "(II)V" } : Jvm.MethodName) prog_65_method_1_code (3 : Nat) (Option.none : Option Jvm.ClassFile.FieldType), Jvm.Cond.code ({ cls := "java/util/ArrayDeque", name := "<init>", desc := "()V" } : Jvm.MethodName) jdk_21_method_3_code (1 : Nat) (Option.none : Option Jvm.ClassFile.FieldType), Jvm.Cond.code ({ cls := "java/util/AbstractCollection", name := "<init>", desc := "()V" } : Jvm.MethodName) jdk_22_method_1_code (1 : Nat) (Option.none : Option Jvm.ClassFile.FieldType), Jvm.Cond.code ({ cls := "com/example/frugal_weir/frugalweir/replay/RecentActivity", name := "completed", desc := "(IDD)V" } : Jvm.MethodName) prog_63_method_4_code (7 : Nat) (Option.none : Option Jvm.ClassFile.FieldType), Jvm.Cond.code ({ cls := "com/example/frugal_weir/frugalweir/replay/RecordQueue", name := "addLast", desc := "()V" } : Jvm.MethodName) prog_65_method_4_code (1 : Nat) (Option.none : Option Jvm.ClassFile.FieldType), Jvm.Cond.code ({ cls := "java/lang/Math", name := "max", desc := "(II)I" } : Jvm.MethodName) jdk_29_method_65_code (2 : Nat) (Option.some Jvm.ClassFile.FieldType.int), Jvm.Cond.code ({ cls := "com/example/frugal_weir/frugalweir/replay/RecordQueue", name := "block", desc := "(I)Lcom/example/frugal_weir/frugalweir/replay/RecordQueue$Block;" } : Jvm.MethodName) prog_65_method_10_code (3 : Nat) (Option.some (Jvm.ClassFile.FieldType.object "com/example/frugal_weir/frugalweir/replay/RecordQueue$Block")), Jvm.Cond.code ({ cls := "com/example/frugal_weir/frugalweir/replay/RecordQueue$Block", name := "<init>", desc := "(III)V" } : Jvm.MethodName) prog_66_method_1_code (4 : Nat) (Option.none : Option Jvm.ClassFile.FieldType), Jvm.Cond.code ({ cls := "java/util/ArrayDeque", name := "addLast", desc := "(Ljava/lang/Object;)V" } : Jvm.MethodName) jdk_21_method_13_code (3 : Nat) (Option.none : Option Jvm.ClassFile.FieldType), Jvm.Cond.code ({ cls := "java/util/ArrayDeque", name := "inc", desc := "(II)I" } : Jvm.MethodName) jdk_21_method_6_code (2 : Nat) (Option.some Jvm.ClassFile.FieldType.int), Jvm.Cond.code ({ cls := "com/example/frugal_weir/frugalweir/replay/RecordQueue", name := "setLastInt", desc := "(II)V" } : Jvm.MethodName) prog_65_method_5_code (3 : Nat) (Option.none : Option Jvm.ClassFile.FieldType), Jvm.Cond.code ({ cls := "com/example/frugal_weir/frugalweir/replay/RecordQueue", name := "setLastDouble", desc := "(ID)V" } : Jvm.MethodName) prog_65_method_6_code (4 : Nat) (Option.none : Option Jvm.ClassFile.FieldType), Jvm.Cond.code ({ cls := "com/example/frugal_weir/frugalweir/replay/RecentActivity", name := "executorLatency", desc := "(I)D" } : Jvm.MethodName) prog_63_method_7_code (3 : Nat) (Option.some Jvm.ClassFile.FieldType.double), Jvm.Cond.code ({ cls := "java/util/Arrays", name := "copyOf", desc := "([JI)[J" } : Jvm.MethodName) jdk_65_method_124_code (3 : Nat) (Option.some (Jvm.ClassFile.FieldType.array Jvm.ClassFile.FieldType.long)), Jvm.Cond.code ({ cls := "java/util/Arrays", name := "copyOf", desc := "([DI)[D" } : Jvm.MethodName) jdk_65_method_127_code (3 : Nat) (Option.some (Jvm.ClassFile.FieldType.array Jvm.ClassFile.FieldType.double)), Jvm.Cond.code ({ cls := "com/example/frugal_weir/frugalweir/replay/RecentActivity", name := "forgetUntil", desc := "(D)V" } : Jvm.MethodName) prog_63_method_5_code (8 : Nat) (Option.none : Option Jvm.ClassFile.FieldType), Jvm.Cond.code ({ cls := "com/example/frugal_weir/frugalweir/replay/RecordQueue", name := "isEmpty", desc := "()Z" } : Jvm.MethodName) prog_65_method_2_code (1 : Nat) (Option.some Jvm.ClassFile.FieldType.boolean), Jvm.Cond.code ({ cls := "com/example/frugal_weir/frugalweir/replay/RecordQueue", name := "firstDouble", desc := "(I)D" } : Jvm.MethodName) prog_65_method_8_code (2 : Nat) (Option.some Jvm.ClassFile.FieldType.double), Jvm.Cond.code ({ cls := "com/example/frugal_weir/frugalweir/replay/RecordQueue", name := "firstInt", desc := "(I)I" } : Jvm.MethodName) prog_65_method_7_code (2 : Nat) (Option.some Jvm.ClassFile.FieldType.int), Jvm.Cond.code ({ cls := "com/example/frugal_weir/frugalweir/replay/RecordQueue", name := "removeFirst", desc := "()V" } : Jvm.MethodName) prog_65_method_9_code (1 : Nat) (Option.none : Option Jvm.ClassFile.FieldType)]
set_option maxRecDepth 65536 in
theorem codes_eq : words1.filter isCode = codes1 := rfl
theorem w_codes : ∀ c ∈ words1.filter isCode, c.before args0 about1 = true := by
  rw [codes_eq]
  intro c hc
  simp only [codes1, List.mem_cons, List.not_mem_nil, or_false] at hc
  rcases hc with rfl | rfl | rfl | rfl | rfl | rfl | rfl | rfl | rfl | rfl | rfl | rfl | rfl | rfl | rfl | rfl | rfl | rfl | rfl | rfl | rfl | rfl | rfl | rfl | rfl
  · exact w_c0
  · exact w_c1
  · exact w_c2
  · exact w_c3
  · exact w_c4
  · exact w_c5
  · exact w_c6
  · exact w_c7
  · exact w_c8
  · exact w_c9
  · exact w_c10
  · exact w_c11
  · exact w_c12
  · exact w_c13
  · exact w_c14
  · exact w_c15
  · exact w_c16
  · exact w_c17
  · exact w_c18
  · exact w_c19
  · exact w_c20
  · exact w_c21
  · exact w_c22
  · exact w_c23
  · exact w_c24
set_option maxRecDepth 65536 in
theorem w_t1 : (words1.take 24).all (fun c => isCode c || c.before args0 about1) = true := by decide +kernel
set_option maxRecDepth 65536 in
theorem w_t2 : ((words1.drop 24).take 24).all (fun c => isCode c || c.before args0 about1) = true := by decide +kernel
set_option maxRecDepth 65536 in
theorem w_t3 : (((words1.drop 24).drop 24).take 24).all (fun c => isCode c || c.before args0 about1) = true := by decide +kernel
set_option maxRecDepth 65536 in
theorem w_t4 : ((((words1.drop 24).drop 24).drop 24).take 24).all (fun c => isCode c || c.before args0 about1) = true := by decide +kernel
set_option maxRecDepth 65536 in
theorem w_t5 : (((((words1.drop 24).drop 24).drop 24).drop 24).take 24).all (fun c => isCode c || c.before args0 about1) = true := by decide +kernel
set_option maxRecDepth 65536 in
theorem w_t6 : ((((((words1.drop 24).drop 24).drop 24).drop 24).drop 24).take 24).all (fun c => isCode c || c.before args0 about1) = true := by decide +kernel
set_option maxRecDepth 65536 in
theorem w_t7 : (((((((words1.drop 24).drop 24).drop 24).drop 24).drop 24).drop 24).take 24).all (fun c => isCode c || c.before args0 about1) = true := by decide +kernel
set_option maxRecDepth 65536 in
theorem w_t8 : (((((((words1.drop 24).drop 24).drop 24).drop 24).drop 24).drop 24).drop 24).all (fun c => isCode c || c.before args0 about1) = true := by decide +kernel
theorem w_tables : (allAtoms (Jvm.Cond.code x code maxLocals ret :: tables_1)).before args0 about1 = true := by
  rw [allAtoms_all]
  show words1.all (fun c => c.before args0 about1) = true
  refine all_split ?_ w_codes
  rw [← List.take_append_drop 24 words1, List.all_append, w_t1, ← List.take_append_drop 24 (words1.drop 24), List.all_append, w_t2, ← List.take_append_drop 24 ((words1.drop 24).drop 24), List.all_append, w_t3, ← List.take_append_drop 24 (((words1.drop 24).drop 24).drop 24), List.all_append, w_t4, ← List.take_append_drop 24 ((((words1.drop 24).drop 24).drop 24).drop 24), List.all_append, w_t5, ← List.take_append_drop 24 (((((words1.drop 24).drop 24).drop 24).drop 24).drop 24), List.all_append, w_t6, ← List.take_append_drop 24 ((((((words1.drop 24).drop 24).drop 24).drop 24).drop 24).drop 24), List.all_append, w_t7, w_t8]
  rfl
set_option maxRecDepth 65536 in
theorem w_case : (Jvm.Cond.and given_1 narrow_1).before args0 about1 = true := by decide +kernel
theorem w_applies : (headSpec (Jvm.Cond.code x code maxLocals ret :: tables_1) room_1).applies x e0.platform about1 = true :=
  (Spec.applies_iff w_frames).mpr ⟨w_running, w_runnable, w_alone, w_named, w_hears, w_ripe, w_room, w_tables⟩
theorem atStart : AtStart classFile x code maxLocals ret World_1 tables_1 room_1 Calls_1 rest_1 Pre_1 launch0 p0 e0 about1 theMethod args0 below0 :=
  ⟨lists_1, trivial, launch0.admits_env _ _ _, launch0.least_env, fairChoices_fair.cas, fairChoices_fair.clock, w_frames, w_args, w_heap, w_applies, trivial, trivial, w_case⟩
end start1
theorem witness_1 : WitnessClaimed_1 := ⟨start1.p0, start1.e0, start1.about1, start1.theMethod, start1.args0, start1.below0, start1.atStart⟩
end Jvm.Pilot.@@N@@
