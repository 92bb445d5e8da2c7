import JvmDerived
import JvmDerived.Pilot.@@N@@Statement
import JvmDerived.Pilot.@@N@@Code
set_option linter.unusedVariables false
set_option linter.unusedSimpArgs false
namespace Jvm.RoadKit
open Sem ClassFile Op Lib Jvm.Stand Jvm.Free Jvm.LawKit
section New
variable {p : Program} {l : Launch} {e : Env} {R : Room} {s : State} {m : MethodId} {args : Array Value} {below : List Frame} {meth : Method} {c : Code} {T : State} {locs : List Loc} {cells slots : Nat}
theorem retI (X : Stand p l e R s m args below meth c T locs cells slots) (hx : p.tables.exec = Jvm.exec) {pc : Nat} {Ls : Array Slot} {z : Int32} {rest : List Value} (hret : meth.sig.returnType = some .int) (hd : decode c.code pc = .ok (.ireturn, 1)) {fs : List Frame}
    (hl : ∀ (f : JFrame) (acts : List Action), f.method = m → f.locked = none → f.entered = [] → (doReturn e (T.setTop f) acts (some (.int z))).1 = T.setFrames fs) : Steps p.tables e below (T.setTop (mkF m pc Ls (.int z :: rest))) (T.setFrames fs) := by
  have hm' : T.vm.method? m = some meth := X.method'
  have hn : narrow .int (.int z) = .int z := rfl
  show Steps p.tables e below (T.setTop { method := m, pc := pc, locals := Ls, stack := _ :: rest, locked := none }) _
  jvm_step X.here [X.here.top, hx, hd, hm', hret, hn]
  first | (intro acts; rw [hl _ acts rfl rfl rfl]) | rw [hl _ _ rfl rfl rfl]
  exact Steps.refl _
end New
end Jvm.RoadKit
namespace Jvm.Pilot.@@N@@
open Jvm Jvm.ClassFile Sem Op Lib Jvm.Free Jvm.Stand Jvm.LawKit Jvm.RoadKit Bundle Jvm.Pilot.@@N@@.Jvm.D
theorem own_noface {a b : Bool} (h : (a || b) = false) : a = false := by
  cases a
  · rfl
  · cases h
/-- who comes to t from this place of the method comes to t from G -/
abbrev Kt (p : Program) (e : Env) (below : List Frame) (m : MethodId) (G T : State) (pc : Nat) (Ls : Array Slot) (st : List Value) : Prop :=
  ∀ t, Steps p.tables e below (T.setTop (mkF m pc Ls st)) t → Steps p.tables e below G t
/-! plain facts -/
def own_b (P : Prop) [Decidable P] : Int32 := if P then 1 else 0
theorem own_b1 {P : Prop} [Decidable P] (h : P) : (1 : Int32) = own_b P := (if_pos h).symm
theorem own_b0 {P : Prop} [Decidable P] (h : ¬ P) : (0 : Int32) = own_b P := (if_neg h).symm
def own_lo (x y : Int64) : Int64 := if y < x then y else x
def own_hi (x y : Int64) : Int64 := if y < x then x else y
theorem own_lo1 {x y : Int64} (h : y < x) : own_lo x y = y := if_pos h
theorem own_lo0 {x y : Int64} (h : ¬ y < x) : own_lo x y = x := if_neg h
theorem own_hi1 {x y : Int64} (h : y < x) : own_hi x y = x := if_pos h
theorem own_hi0 {x y : Int64} (h : ¬ y < x) : own_hi x y = y := if_neg h
theorem own_lh (x y : Int64) : ((own_lo x y).toInt = x.toInt ∧ (own_hi x y).toInt = y.toInt ∧ x.toInt ≤ y.toInt) ∨ ((own_lo x y).toInt = y.toInt ∧ (own_hi x y).toInt = x.toInt ∧ y.toInt ≤ x.toInt) := by
  by_cases h : y < x
  · rw [own_lo1 h, own_hi1 h]
    rw [Int64.lt_iff_toInt_lt] at h
    omega
  · rw [own_lo0 h, own_hi0 h]
    rw [Int64.lt_iff_toInt_lt] at h
    omega
/-- the network sorts -/
theorem own_net (a b c d a1 b1 c1 d1 a2 c2 b2 d2 b3 c3 : Int64) (e1 : a1 = own_lo a b) (e2 : b1 = own_hi a b) (e3 : c1 = own_lo c d) (e4 : d1 = own_hi c d) (e5 : a2 = own_lo a1 c1) (e6 : c2 = own_hi a1 c1) (e7 : b2 = own_lo b1 d1) (e8 : d2 = own_hi b1 d1) (e9 : b3 = own_lo b2 c2) (e10 : c3 = own_hi b2 c2) :
    ¬ b3 < a2 ∧ ¬ c3 < b3 ∧ ¬ d2 < c3 := by
  have h1 := own_lh a b
  have h2 := own_lh c d
  have h3 := own_lh a1 c1
  have h4 := own_lh b1 d1
  have h5 := own_lh b2 c2
  rw [← e1, ← e2] at h1
  rw [← e3, ← e4] at h2
  rw [← e5, ← e6] at h3
  rw [← e7, ← e8] at h4
  rw [← e9, ← e10] at h5
  clear e1 e2 e3 e4 e5 e6 e7 e8 e9 e10
  rw [Int64.lt_iff_toInt_lt, Int64.lt_iff_toInt_lt, Int64.lt_iff_toInt_lt]
  omega
theorem own_tr {a b q : Int64} (h : ¬ b < a) (t : b < q) : a < q := by
  rw [Int64.lt_iff_toInt_lt] at *
  omega
theorem own_tn {a b q : Int64} (h : ¬ b < a) (t : ¬ a < q) : ¬ b < q := fun z => t (own_tr h z)
theorem own_lt {a b : Int32} : a < b ↔ a.toInt < b.toInt := Int32.lt_iff_toInt_lt
theorem own_0 : (0 : Int32).toInt = 0 := by decide
theorem own_4 : (4 : Int32).toInt = 4 := by decide
theorem own_6 : (6 : Int32).toInt = 6 := by decide
theorem own_get4 (i : Nat) (a b c d z : Int64) : ∃ y : Int64, ([.long a, .long b, .long c, .long d] : List Value).getD i (.long z) = .long y := by
  match i with
  | 0 => exact ⟨_, rfl⟩
  | 1 => exact ⟨_, rfl⟩
  | 2 => exact ⟨_, rfl⟩
  | 3 => exact ⟨_, rfl⟩
  | n + 4 => exact ⟨_, rfl⟩
theorem own_md (x : Int32) : 0 ≤ (x &&& (7 : Int32)).toInt ∧ (x &&& (7 : Int32)).toInt ≤ 7 := by
  have h := c_mask x 7 3 (by decide) (by decide)
  omega
theorem own_i1 {j : Int32} (h : 0 ≤ j.toInt) (h4 : j < (4 : Int32)) : ¬ j < 0 ∧ j < (4 : Int32) := ⟨by rw [own_lt, own_0]; omega, h4⟩
theorem own_i2 {j : Int32} (h4 : ¬ j < (4 : Int32)) (h6 : j < (6 : Int32)) : ¬ (j - (4 : Int32)) < 0 ∧ (j - (4 : Int32)) < (4 : Int32) := by
  have q := c_isub j 4
  have r := rng32 (j - 4)
  rw [own_lt] at *
  rw [own_lt, own_0]
  rw [own_4] at *
  rw [own_6] at h6
  omega
theorem own_n5 (x : Int32) : (x &&& (7 : Int32)) % (5 : Int32) = 0 ∨ (x &&& (7 : Int32)) % (5 : Int32) = 1 ∨ (x &&& (7 : Int32)) % (5 : Int32) = 2 ∨ (x &&& (7 : Int32)) % (5 : Int32) = 3 ∨ (x &&& (7 : Int32)) % (5 : Int32) = 4 := by
  have h := own_md x
  have q := (c_irem (x &&& (7 : Int32)) 5 5 (by decide)).1 h.1
  generalize (x &&& (7 : Int32)) % (5 : Int32) = w at *
  have q2 : w.toInt = 0 ∨ w.toInt = 1 ∨ w.toInt = 2 ∨ w.toInt = 3 ∨ w.toInt = 4 := by omega
  rcases q2 with q | q | q | q | q
  · exact Or.inl (Int32.toInt_inj.mp q)
  · exact Or.inr (Or.inl (Int32.toInt_inj.mp q))
  · exact Or.inr (Or.inr (Or.inl (Int32.toInt_inj.mp q)))
  · exact Or.inr (Or.inr (Or.inr (Or.inl (Int32.toInt_inj.mp q))))
  · exact Or.inr (Or.inr (Or.inr (Or.inr (Int32.toInt_inj.mp q))))
theorem dcs01_0 : decode method_2_code 0 = .ok (.aload_n 0, 1) := by decide +kernel
theorem dcs01_1 : decode method_2_code 1 = .ok (.iload_n 2, 1) := by decide +kernel
theorem dcs01_2 : decode method_2_code 2 = .ok (.laload, 1) := by decide +kernel
theorem dcs01_3 : decode method_2_code 3 = .ok (.aload_n 0, 1) := by decide +kernel
theorem dcs01_4 : decode method_2_code 4 = .ok (.iload_n 1, 1) := by decide +kernel
theorem dcs01_5 : decode method_2_code 5 = .ok (.laload, 1) := by decide +kernel
theorem dcs01_6 : decode method_2_code 6 = .ok (.lcmp, 1) := by decide +kernel
theorem dcs01_7 : decode method_2_code 7 = .ok (.ifCond .ge 17, 3) := by decide +kernel
theorem dcs01_10 : decode method_2_code 10 = .ok (.aload_n 0, 1) := by decide +kernel
theorem dcs01_11 : decode method_2_code 11 = .ok (.iload_n 1, 1) := by decide +kernel
theorem dcs01_12 : decode method_2_code 12 = .ok (.laload, 1) := by decide +kernel
theorem dcs01_13 : decode method_2_code 13 = .ok (.lstore_n 3, 1) := by decide +kernel
theorem dcs01_14 : decode method_2_code 14 = .ok (.aload_n 0, 1) := by decide +kernel
theorem dcs01_15 : decode method_2_code 15 = .ok (.iload_n 1, 1) := by decide +kernel
theorem dcs01_16 : decode method_2_code 16 = .ok (.aload_n 0, 1) := by decide +kernel
theorem dcs01_17 : decode method_2_code 17 = .ok (.iload_n 2, 1) := by decide +kernel
theorem dcs01_18 : decode method_2_code 18 = .ok (.laload, 1) := by decide +kernel
theorem dcs01_19 : decode method_2_code 19 = .ok (.lastore, 1) := by decide +kernel
theorem dcs01_20 : decode method_2_code 20 = .ok (.aload_n 0, 1) := by decide +kernel
theorem dcs01_21 : decode method_2_code 21 = .ok (.iload_n 2, 1) := by decide +kernel
theorem dcs01_22 : decode method_2_code 22 = .ok (.lload_n 3, 1) := by decide +kernel
theorem dcs01_23 : decode method_2_code 23 = .ok (.lastore, 1) := by decide +kernel
theorem dcs01_24 : decode method_2_code 24 = .ok (.return_, 1) := by decide +kernel
theorem pncs01 : plainName "com/example/clearhour/clearhour/market/TimelineIndexFromPinLaw" = true := by first | (simp [plainName, overriddenIn]; done) | decide +kernel
theorem pd_0 : parseMethodDescriptor "()V" = some ⟨[], none⟩ := by decide +kernel
theorem pd_1 : parseMethodDescriptor "(J)I" = some ⟨[.long], some .int⟩ := by decide +kernel
theorem pd_2 : parseMethodDescriptor "(JJ)I" = some ⟨[.long, .long], some .int⟩ := by decide +kernel
theorem pd_3 : parseMethodDescriptor "(JLjava/lang/Object;)V" = some ⟨[.long, (.object "java/lang/Object")], none⟩ := by decide +kernel
theorem pd_4 : parseMethodDescriptor "([JII)V" = some ⟨[(.array .long), .int, .int], none⟩ := by decide +kernel
theorem efcs01 (m : MethodId) (a : Addr) : entryFrame m #[(.ref a), (.int (0 : Int32)), (.int (1 : Int32))] 5 = mkF m 0 #[.val (.ref a), .val (.int (0 : Int32)), .val (.int (1 : Int32)), .unset, .unset] [] := by first | (simp [entryFrame, mkF, argsToLocals, Value.category]; done) | rfl
def Qcs01 (Z : State) (a : Addr) (k : ClassId) (x0 : Int64) (x1 : Int64) (x2 : Int64) (x3 : Int64) (h0 : Heap) (n0 : Nat) (v : Option Value) (h : Heap) (L : List Loc) : Prop := v = none ∧ Fr n0 L ∧ Keep h0 h [a] ∧ Arv Z h a k .long (4 : Int32) [(.long (own_lo x0 x1)), (.long (own_hi x0 x1)), (.long x2), (.long x3)] (.long (0 : Int64))
set_option maxRecDepth 65536 in
set_option maxHeartbeats 40000000 in
theorem rmcs01 (l : Launch) (Z : State) (a0 : Array Value) (hw : ∀ d ∈ tables_1, d.before a0 Z = true) (ws : List Jvm.Cond) (a : Addr) (k : ClassId) (x0 : Int64) (x1 : Int64) (x2 : Int64) (x3 : Int64) (h0 : Heap) (n0 : Nat) (Z0 : n0 ≤ h0.size) (V : Arv Z h0 a k .long (4 : Int32) [(.long x0), (.long x1), (.long x2), (.long x3)] (.long (0 : Int64))) (g_a : n0 ≤ a) :
    MetFree l (⟨"com/example/clearhour/clearhour/market/TimelineIndexFromPinLaw", "cs", "([JII)V"⟩ : MethodName) (head1 (Jvm.Cond.code (⟨"com/example/clearhour/clearhour/market/TimelineIndexFromPinLaw", "cs", "([JII)V"⟩ : MethodName) method_2_code 5 none :: ws) ({ frames := 0, cells := 0, slots := 0, locals := 0 } : Room)) (fun gs' U => gs' = #[(.ref a), (.int (0 : Int32)), (.int (1 : Int32))] ∧ Z.Warmed39 U.vm ∧ U.heap = h0) (fun _ _ _ _ _ => True) (fun _ U o U' => ∃ v L, o = .returned v ∧ Qcs01 Z a k x0 x1 x2 x3 h0 n0 v U'.heap L ∧ FrameEnd U o U' L ({ frames := 0, cells := 0, slots := 0, locals := 0 } : Room).cells ({ frames := 0, cells := 0, slots := 0, locals := 0 } : Room).slots) := by
  refine MetFree.of_bodySF (plainFor_of_name pncs01) hisR ?_
  intro p e s m args below meth c s₁ Bd hml0 hP hK
  obtain ⟨rfl, hZ, hh⟩ := hP
  have hx := Bd.exec
  have hby := Bd.bytes
  have hml : c.maxLocals = 5 := hml0
  have hown : s.vm.findClass "com/example/clearhour/clearhour/market/TimelineIndexFromPinLaw" = some m.cls := findClass_of_methodNamed Bd.named
  have hnm := (name_of_methodNamed Bd.named Bd.method).1
  have X0 : Stand p l e ({ frames := 0, cells := 0, slots := 0, locals := 0 } : Room) s m #[(.ref a), (.int (0 : Int32)), (.int (1 : Int32))] below meth c s₁ [] 0 0 := Stand.of_body Bd
  have e0 : s₁.heap = h0 := by rw [← hh, Bd.state]; rfl
  have N0 := Fr.nil n0
  have k0 : Kt p e below m (s₁.setTop (entryFrame m #[(.ref a), (.int (0 : Int32)), (.int (1 : Int32))] 5)) s₁ 0 #[.val (.ref a), .val (.int (0 : Int32)), .val (.int (1 : Int32)), .unset, .unset] [] := fun t ht => castTop (efcs01 m a) ht
  have K0 : Keep h0 h0 [a] := Keep.refl _ _
  have k1 : Kt p e below m (s₁.setTop (entryFrame m #[(.ref a), (.int (0 : Int32)), (.int (1 : Int32))] 5)) s₁ 2 #[.val (.ref a), .val (.int (0 : Int32)), .val (.int (1 : Int32)), .unset, .unset] [(.int (1 : Int32)), (.ref a)] := by
    intro t ht
    refine k0 t ?_
    show Steps p.tables e below (s₁.setTop (mkF m 0 #[.val (.ref a), .val (.int (0 : Int32)), .val (.int (1 : Int32)), .unset, .unset] [])) t
    refine XS.aloadN X0.here hx rfl (hb hby dcs01_0) rfl rfl ?_
    show Steps p.tables e below (s₁.setTop (mkF m 1 #[.val (.ref a), .val (.int (0 : Int32)), .val (.int (1 : Int32)), .unset, .unset] [(.ref a)])) t
    refine XS.iloadN X0.here hx rfl (hb hby dcs01_1) rfl ?_
    exact ht
  obtain ⟨cl2, Ar2, qc2, Sz2, Nn2, Hh2, Gg2⟩ := id V
  have hin2 : ¬ ((1 : Int32) < 0 ∨ cl2.slots.size ≤ ((1 : Int32)).toNatClampNeg) := inb_of Sz2 ⟨by decide, by decide⟩
  have hat2 : cl2.slots[((1 : Int32)).toNatClampNeg]? = some (.long x1) := Hh2.at hin2 rfl
  have k3 : Kt p e below m (s₁.setTop (entryFrame m #[(.ref a), (.int (0 : Int32)), (.int (1 : Int32))] 5)) s₁ 5 #[.val (.ref a), .val (.int (0 : Int32)), .val (.int (1 : Int32)), .unset, .unset] [(.int (0 : Int32)), (.ref a), (.long x1)] := by
    intro t ht
    refine k1 t ?_
    show Steps p.tables e below (s₁.setTop (mkF m 2 #[.val (.ref a), .val (.int (0 : Int32)), .val (.int (1 : Int32)), .unset, .unset] [(.int (1 : Int32)), (.ref a)])) t
    refine X0.laload hx (j := (1 : Int32)) (v := (.long x1)) (by rw [e0]; exact Ar2.1) (State.isArrayOf_alike hZ.alike Ar2.2.1) Ar2.2.2 hin2 hat2 (g := (mkF m 2 #[.val (.ref a), .val (.int (0 : Int32)), .val (.int (1 : Int32)), .unset, .unset] [(.int (1 : Int32)), (.ref a)])) rfl rfl (hb hby dcs01_2) _ ?_
    show Steps p.tables e below (s₁.setTop (mkF m 3 #[.val (.ref a), .val (.int (0 : Int32)), .val (.int (1 : Int32)), .unset, .unset] [(.long x1)])) t
    refine XS.aloadN X0.here hx rfl (hb hby dcs01_3) rfl rfl ?_
    show Steps p.tables e below (s₁.setTop (mkF m 4 #[.val (.ref a), .val (.int (0 : Int32)), .val (.int (1 : Int32)), .unset, .unset] [(.ref a), (.long x1)])) t
    refine XS.iloadN X0.here hx rfl (hb hby dcs01_4) rfl ?_
    exact ht
  obtain ⟨cl4, Ar4, qc4, Sz4, Nn4, Hh4, Gg4⟩ := id V
  have hin4 : ¬ ((0 : Int32) < 0 ∨ cl4.slots.size ≤ ((0 : Int32)).toNatClampNeg) := inb_of Sz4 ⟨by decide, by decide⟩
  have hat4 : cl4.slots[((0 : Int32)).toNatClampNeg]? = some (.long x0) := Hh4.at hin4 rfl
  have k5 : Kt p e below m (s₁.setTop (entryFrame m #[(.ref a), (.int (0 : Int32)), (.int (1 : Int32))] 5)) s₁ 7 #[.val (.ref a), .val (.int (0 : Int32)), .val (.int (1 : Int32)), .unset, .unset] [(.int (lcmpW x1 x0))] := by
    intro t ht
    refine k3 t ?_
    show Steps p.tables e below (s₁.setTop (mkF m 5 #[.val (.ref a), .val (.int (0 : Int32)), .val (.int (1 : Int32)), .unset, .unset] [(.int (0 : Int32)), (.ref a), (.long x1)])) t
    refine X0.laload hx (j := (0 : Int32)) (v := (.long x0)) (by rw [e0]; exact Ar4.1) (State.isArrayOf_alike hZ.alike Ar4.2.1) Ar4.2.2 hin4 hat4 (g := (mkF m 5 #[.val (.ref a), .val (.int (0 : Int32)), .val (.int (1 : Int32)), .unset, .unset] [(.int (0 : Int32)), (.ref a), (.long x1)])) rfl rfl (hb hby dcs01_5) _ ?_
    show Steps p.tables e below (s₁.setTop (mkF m 6 #[.val (.ref a), .val (.int (0 : Int32)), .val (.int (1 : Int32)), .unset, .unset] [(.long x0), (.long x1)])) t
    refine XS.lcmp X0.here hx rfl (hb hby dcs01_6) rfl ?_
    exact ht
  by_cases h1 : x1 < x0
  · have k6 : Kt p e below m (s₁.setTop (entryFrame m #[(.ref a), (.int (0 : Int32)), (.int (1 : Int32))] 5)) s₁ 12 #[.val (.ref a), .val (.int (0 : Int32)), .val (.int (1 : Int32)), .unset, .unset] [(.int (0 : Int32)), (.ref a)] := by
      intro t ht
      refine k5 t ?_
      show Steps p.tables e below (s₁.setTop (mkF m 7 #[.val (.ref a), .val (.int (0 : Int32)), .val (.int (1 : Int32)), .unset, .unset] [(.int (lcmpW x1 x0))])) t
      refine XS.ifNo X0.here hx rfl (hb hby dcs01_7) rfl ((if0 _ _).trans (tlt ((lw_lt _ _).mpr h1)).2.1) ?_
      show Steps p.tables e below (s₁.setTop (mkF m 10 #[.val (.ref a), .val (.int (0 : Int32)), .val (.int (1 : Int32)), .unset, .unset] [])) t
      refine XS.aloadN X0.here hx rfl (hb hby dcs01_10) rfl rfl ?_
      show Steps p.tables e below (s₁.setTop (mkF m 11 #[.val (.ref a), .val (.int (0 : Int32)), .val (.int (1 : Int32)), .unset, .unset] [(.ref a)])) t
      refine XS.iloadN X0.here hx rfl (hb hby dcs01_11) rfl ?_
      exact ht
    obtain ⟨cl7, Ar7, qc7, Sz7, Nn7, Hh7, Gg7⟩ := id V
    have hin7 : ¬ ((0 : Int32) < 0 ∨ cl7.slots.size ≤ ((0 : Int32)).toNatClampNeg) := inb_of Sz7 ⟨by decide, by decide⟩
    have hat7 : cl7.slots[((0 : Int32)).toNatClampNeg]? = some (.long x0) := Hh7.at hin7 rfl
    have k8 : Kt p e below m (s₁.setTop (entryFrame m #[(.ref a), (.int (0 : Int32)), (.int (1 : Int32))] 5)) s₁ 18 #[.val (.ref a), .val (.int (0 : Int32)), .val (.int (1 : Int32)), .val (.long x0), .second] [(.int (1 : Int32)), (.ref a), (.int (0 : Int32)), (.ref a)] := by
      intro t ht
      refine k6 t ?_
      show Steps p.tables e below (s₁.setTop (mkF m 12 #[.val (.ref a), .val (.int (0 : Int32)), .val (.int (1 : Int32)), .unset, .unset] [(.int (0 : Int32)), (.ref a)])) t
      refine X0.laload hx (j := (0 : Int32)) (v := (.long x0)) (by rw [e0]; exact Ar7.1) (State.isArrayOf_alike hZ.alike Ar7.2.1) Ar7.2.2 hin7 hat7 (g := (mkF m 12 #[.val (.ref a), .val (.int (0 : Int32)), .val (.int (1 : Int32)), .unset, .unset] [(.int (0 : Int32)), (.ref a)])) rfl rfl (hb hby dcs01_12) _ ?_
      show Steps p.tables e below (s₁.setTop (mkF m 13 #[.val (.ref a), .val (.int (0 : Int32)), .val (.int (1 : Int32)), .unset, .unset] [(.long x0)])) t
      refine XS.lstoreN X0.here hx rfl (hb hby dcs01_13) rfl (l' := #[.val (.ref a), .val (.int (0 : Int32)), .val (.int (1 : Int32)), .val (.long x0), .second]) rfl ?_
      show Steps p.tables e below (s₁.setTop (mkF m 14 #[.val (.ref a), .val (.int (0 : Int32)), .val (.int (1 : Int32)), .val (.long x0), .second] [])) t
      refine XS.aloadN X0.here hx rfl (hb hby dcs01_14) rfl rfl ?_
      show Steps p.tables e below (s₁.setTop (mkF m 15 #[.val (.ref a), .val (.int (0 : Int32)), .val (.int (1 : Int32)), .val (.long x0), .second] [(.ref a)])) t
      refine XS.iloadN X0.here hx rfl (hb hby dcs01_15) rfl ?_
      show Steps p.tables e below (s₁.setTop (mkF m 16 #[.val (.ref a), .val (.int (0 : Int32)), .val (.int (1 : Int32)), .val (.long x0), .second] [(.int (0 : Int32)), (.ref a)])) t
      refine XS.aloadN X0.here hx rfl (hb hby dcs01_16) rfl rfl ?_
      show Steps p.tables e below (s₁.setTop (mkF m 17 #[.val (.ref a), .val (.int (0 : Int32)), .val (.int (1 : Int32)), .val (.long x0), .second] [(.ref a), (.int (0 : Int32)), (.ref a)])) t
      refine XS.iloadN X0.here hx rfl (hb hby dcs01_17) rfl ?_
      exact ht
    obtain ⟨cl9, Ar9, qc9, Sz9, Nn9, Hh9, Gg9⟩ := id V
    have hin9 : ¬ ((1 : Int32) < 0 ∨ cl9.slots.size ≤ ((1 : Int32)).toNatClampNeg) := inb_of Sz9 ⟨by decide, by decide⟩
    have hat9 : cl9.slots[((1 : Int32)).toNatClampNeg]? = some (.long x1) := Hh9.at hin9 rfl
    have k10 : Kt p e below m (s₁.setTop (entryFrame m #[(.ref a), (.int (0 : Int32)), (.int (1 : Int32))] 5)) s₁ 19 #[.val (.ref a), .val (.int (0 : Int32)), .val (.int (1 : Int32)), .val (.long x0), .second] [(.long x1), (.int (0 : Int32)), (.ref a)] := by
      intro t ht
      refine k8 t ?_
      show Steps p.tables e below (s₁.setTop (mkF m 18 #[.val (.ref a), .val (.int (0 : Int32)), .val (.int (1 : Int32)), .val (.long x0), .second] [(.int (1 : Int32)), (.ref a), (.int (0 : Int32)), (.ref a)])) t
      refine X0.laload hx (j := (1 : Int32)) (v := (.long x1)) (by rw [e0]; exact Ar9.1) (State.isArrayOf_alike hZ.alike Ar9.2.1) Ar9.2.2 hin9 hat9 (g := (mkF m 18 #[.val (.ref a), .val (.int (0 : Int32)), .val (.int (1 : Int32)), .val (.long x0), .second] [(.int (1 : Int32)), (.ref a), (.int (0 : Int32)), (.ref a)])) rfl rfl (hb hby dcs01_18) _ ?_
      exact ht
    obtain ⟨cl11, Ar11, qc11, Sz11, Nn11, Hh11, Gg11⟩ := id V
    have hin11 : ¬ ((0 : Int32) < 0 ∨ cl11.slots.size ≤ ((0 : Int32)).toNatClampNeg) := inb_of Sz11 ⟨by decide, by decide⟩
    obtain ⟨T11, h11, X11, e11, W11, st11⟩ := stJ X0 hx hZ e0 Ar11 (j := (0 : Int32)) hin11 (g := (mkF m 19 #[.val (.ref a), .val (.int (0 : Int32)), .val (.int (1 : Int32)), .val (.long x0), .second] [(.long x1), (.int (0 : Int32)), (.ref a)])) rfl rfl (hb hby dcs01_19)
    have N11 := Fr.snoc X11 N0 g_a
    have f12 : n0 ≤ h11.size := Nat.le_trans Z0 (Keep.of_wr W11).1
    have f13 : Arv Z h11 a k .long (4 : Int32) [(.long x1), (.long x1), (.long x2), (.long x3)] (.long (0 : Int64)) := Arv.set Ar11 qc11 Sz11 Nn11 Hh11 Gg11 rfl W11 0 rfl (Nat.le_of_ble_eq_true rfl)
    have f14 : Keep h0 h11 [a] := K0.wr W11 (Or.inl (List.mem_of_getElem? (i := 0) rfl))
    have k11 : Kt p e below m (s₁.setTop (entryFrame m #[(.ref a), (.int (0 : Int32)), (.int (1 : Int32))] 5)) T11 20 #[.val (.ref a), .val (.int (0 : Int32)), .val (.int (1 : Int32)), .val (.long x0), .second] [] := fun t ht => k10 t (st11 t ht)
    have k15 : Kt p e below m (s₁.setTop (entryFrame m #[(.ref a), (.int (0 : Int32)), (.int (1 : Int32))] 5)) T11 23 #[.val (.ref a), .val (.int (0 : Int32)), .val (.int (1 : Int32)), .val (.long x0), .second] [(.long x0), (.int (1 : Int32)), (.ref a)] := by
      intro t ht
      refine k11 t ?_
      show Steps p.tables e below (T11.setTop (mkF m 20 #[.val (.ref a), .val (.int (0 : Int32)), .val (.int (1 : Int32)), .val (.long x0), .second] [])) t
      refine XS.aloadN X11.here hx rfl (hb hby dcs01_20) rfl rfl ?_
      show Steps p.tables e below (T11.setTop (mkF m 21 #[.val (.ref a), .val (.int (0 : Int32)), .val (.int (1 : Int32)), .val (.long x0), .second] [(.ref a)])) t
      refine XS.iloadN X11.here hx rfl (hb hby dcs01_21) rfl ?_
      show Steps p.tables e below (T11.setTop (mkF m 22 #[.val (.ref a), .val (.int (0 : Int32)), .val (.int (1 : Int32)), .val (.long x0), .second] [(.int (1 : Int32)), (.ref a)])) t
      refine XS.lloadN X11.here hx rfl (hb hby dcs01_22) rfl ?_
      exact ht
    obtain ⟨cl16, Ar16, qc16, Sz16, Nn16, Hh16, Gg16⟩ := id f13
    have hin16 : ¬ ((1 : Int32) < 0 ∨ cl16.slots.size ≤ ((1 : Int32)).toNatClampNeg) := inb_of Sz16 ⟨by decide, by decide⟩
    obtain ⟨T16, h16, X16, e16, W16, st16⟩ := stJ X11 hx hZ e11 Ar16 (j := (1 : Int32)) hin16 (g := (mkF m 23 #[.val (.ref a), .val (.int (0 : Int32)), .val (.int (1 : Int32)), .val (.long x0), .second] [(.long x0), (.int (1 : Int32)), (.ref a)])) rfl rfl (hb hby dcs01_23)
    have N16 := Fr.snoc X16 N11 g_a
    have f17 : n0 ≤ h16.size := Nat.le_trans f12 (Keep.of_wr W16).1
    have f18 : Arv Z h16 a k .long (4 : Int32) [(.long x1), (.long x0), (.long x2), (.long x3)] (.long (0 : Int64)) := Arv.set Ar16 qc16 Sz16 Nn16 Hh16 Gg16 rfl W16 1 rfl (Nat.le_of_ble_eq_true rfl)
    have f19 : Keep h0 h16 [a] := f14.wr W16 (Or.inl (List.mem_of_getElem? (i := 0) rfl))
    have k16 : Kt p e below m (s₁.setTop (entryFrame m #[(.ref a), (.int (0 : Int32)), (.int (1 : Int32))] 5)) T16 24 #[.val (.ref a), .val (.int (0 : Int32)), .val (.int (1 : Int32)), .val (.long x0), .second] [] := fun t ht => k15 t (st16 t ht)
    obtain ⟨fs, hr, hrun, hended, hW, hsame⟩ := X16.leave (v := none) (fun _ => rfl)
    refine ⟨_, _, k16 _ ?_, hrun, hended, _, _, rfl, ?_, ⟨_, rfl⟩, hW, hsame.mono (by decide) (by decide)⟩
    · exact X16.returnOut hx Bd.returns (hb hby dcs01_24) hr
    · show Qcs01 Z a k x0 x1 x2 x3 h0 n0 _ T16.heap _
      rw [e16]
      exact ⟨rfl, N16, f19, by rw [own_lo1 h1, own_hi1 h1]; exact f18⟩
  · have k20 : Kt p e below m (s₁.setTop (entryFrame m #[(.ref a), (.int (0 : Int32)), (.int (1 : Int32))] 5)) s₁ 24 #[.val (.ref a), .val (.int (0 : Int32)), .val (.int (1 : Int32)), .unset, .unset] [] := by
      intro t ht
      refine k5 t ?_
      show Steps p.tables e below (s₁.setTop (mkF m 7 #[.val (.ref a), .val (.int (0 : Int32)), .val (.int (1 : Int32)), .unset, .unset] [(.int (lcmpW x1 x0))])) t
      refine XS.ifYes X0.here hx rfl (pc0 := 7) (pc' := 24) rfl (hb hby dcs01_7) rfl ((if0 _ _).trans (flt (mt (lw_lt _ _).mp h1)).2.1) (by decide) (by decide) ?_
      exact ht
    obtain ⟨fs, hr, hrun, hended, hW, hsame⟩ := X0.leave (v := none) (fun _ => rfl)
    refine ⟨_, _, k20 _ ?_, hrun, hended, _, _, rfl, ?_, ⟨_, rfl⟩, hW, hsame.mono (by decide) (by decide)⟩
    · exact X0.returnOut hx Bd.returns (hb hby dcs01_24) hr
    · show Qcs01 Z a k x0 x1 x2 x3 h0 n0 _ s₁.heap _
      rw [e0]
      exact ⟨rfl, N0, K0, by rw [own_lo0 h1, own_hi0 h1]; exact V⟩
theorem dcs23_0 : decode method_2_code 0 = .ok (.aload_n 0, 1) := by decide +kernel
theorem dcs23_1 : decode method_2_code 1 = .ok (.iload_n 2, 1) := by decide +kernel
theorem dcs23_2 : decode method_2_code 2 = .ok (.laload, 1) := by decide +kernel
theorem dcs23_3 : decode method_2_code 3 = .ok (.aload_n 0, 1) := by decide +kernel
theorem dcs23_4 : decode method_2_code 4 = .ok (.iload_n 1, 1) := by decide +kernel
theorem dcs23_5 : decode method_2_code 5 = .ok (.laload, 1) := by decide +kernel
theorem dcs23_6 : decode method_2_code 6 = .ok (.lcmp, 1) := by decide +kernel
theorem dcs23_7 : decode method_2_code 7 = .ok (.ifCond .ge 17, 3) := by decide +kernel
theorem dcs23_10 : decode method_2_code 10 = .ok (.aload_n 0, 1) := by decide +kernel
theorem dcs23_11 : decode method_2_code 11 = .ok (.iload_n 1, 1) := by decide +kernel
theorem dcs23_12 : decode method_2_code 12 = .ok (.laload, 1) := by decide +kernel
theorem dcs23_13 : decode method_2_code 13 = .ok (.lstore_n 3, 1) := by decide +kernel
theorem dcs23_14 : decode method_2_code 14 = .ok (.aload_n 0, 1) := by decide +kernel
theorem dcs23_15 : decode method_2_code 15 = .ok (.iload_n 1, 1) := by decide +kernel
theorem dcs23_16 : decode method_2_code 16 = .ok (.aload_n 0, 1) := by decide +kernel
theorem dcs23_17 : decode method_2_code 17 = .ok (.iload_n 2, 1) := by decide +kernel
theorem dcs23_18 : decode method_2_code 18 = .ok (.laload, 1) := by decide +kernel
theorem dcs23_19 : decode method_2_code 19 = .ok (.lastore, 1) := by decide +kernel
theorem dcs23_20 : decode method_2_code 20 = .ok (.aload_n 0, 1) := by decide +kernel
theorem dcs23_21 : decode method_2_code 21 = .ok (.iload_n 2, 1) := by decide +kernel
theorem dcs23_22 : decode method_2_code 22 = .ok (.lload_n 3, 1) := by decide +kernel
theorem dcs23_23 : decode method_2_code 23 = .ok (.lastore, 1) := by decide +kernel
theorem dcs23_24 : decode method_2_code 24 = .ok (.return_, 1) := by decide +kernel
theorem pncs23 : plainName "com/example/clearhour/clearhour/market/TimelineIndexFromPinLaw" = true := by first | (simp [plainName, overriddenIn]; done) | decide +kernel
theorem efcs23 (m : MethodId) (a : Addr) : entryFrame m #[(.ref a), (.int (2 : Int32)), (.int (3 : Int32))] 5 = mkF m 0 #[.val (.ref a), .val (.int (2 : Int32)), .val (.int (3 : Int32)), .unset, .unset] [] := by first | (simp [entryFrame, mkF, argsToLocals, Value.category]; done) | rfl
def Qcs23 (Z : State) (a : Addr) (k : ClassId) (x0 : Int64) (x1 : Int64) (x2 : Int64) (x3 : Int64) (h0 : Heap) (n0 : Nat) (v : Option Value) (h : Heap) (L : List Loc) : Prop := v = none ∧ Fr n0 L ∧ Keep h0 h [a] ∧ Arv Z h a k .long (4 : Int32) [(.long x0), (.long x1), (.long (own_lo x2 x3)), (.long (own_hi x2 x3))] (.long (0 : Int64))
set_option maxRecDepth 65536 in
set_option maxHeartbeats 40000000 in
theorem rmcs23 (l : Launch) (Z : State) (a0 : Array Value) (hw : ∀ d ∈ tables_1, d.before a0 Z = true) (ws : List Jvm.Cond) (a : Addr) (k : ClassId) (x0 : Int64) (x1 : Int64) (x2 : Int64) (x3 : Int64) (h0 : Heap) (n0 : Nat) (Z0 : n0 ≤ h0.size) (V : Arv Z h0 a k .long (4 : Int32) [(.long x0), (.long x1), (.long x2), (.long x3)] (.long (0 : Int64))) (g_a : n0 ≤ a) :
    MetFree l (⟨"com/example/clearhour/clearhour/market/TimelineIndexFromPinLaw", "cs", "([JII)V"⟩ : MethodName) (head1 (Jvm.Cond.code (⟨"com/example/clearhour/clearhour/market/TimelineIndexFromPinLaw", "cs", "([JII)V"⟩ : MethodName) method_2_code 5 none :: ws) ({ frames := 0, cells := 0, slots := 0, locals := 0 } : Room)) (fun gs' U => gs' = #[(.ref a), (.int (2 : Int32)), (.int (3 : Int32))] ∧ Z.Warmed39 U.vm ∧ U.heap = h0) (fun _ _ _ _ _ => True) (fun _ U o U' => ∃ v L, o = .returned v ∧ Qcs23 Z a k x0 x1 x2 x3 h0 n0 v U'.heap L ∧ FrameEnd U o U' L ({ frames := 0, cells := 0, slots := 0, locals := 0 } : Room).cells ({ frames := 0, cells := 0, slots := 0, locals := 0 } : Room).slots) := by
  refine MetFree.of_bodySF (plainFor_of_name pncs23) hisR ?_
  intro p e s m args below meth c s₁ Bd hml0 hP hK
  obtain ⟨rfl, hZ, hh⟩ := hP
  have hx := Bd.exec
  have hby := Bd.bytes
  have hml : c.maxLocals = 5 := hml0
  have hown : s.vm.findClass "com/example/clearhour/clearhour/market/TimelineIndexFromPinLaw" = some m.cls := findClass_of_methodNamed Bd.named
  have hnm := (name_of_methodNamed Bd.named Bd.method).1
  have X0 : Stand p l e ({ frames := 0, cells := 0, slots := 0, locals := 0 } : Room) s m #[(.ref a), (.int (2 : Int32)), (.int (3 : Int32))] below meth c s₁ [] 0 0 := Stand.of_body Bd
  have e0 : s₁.heap = h0 := by rw [← hh, Bd.state]; rfl
  have N0 := Fr.nil n0
  have k0 : Kt p e below m (s₁.setTop (entryFrame m #[(.ref a), (.int (2 : Int32)), (.int (3 : Int32))] 5)) s₁ 0 #[.val (.ref a), .val (.int (2 : Int32)), .val (.int (3 : Int32)), .unset, .unset] [] := fun t ht => castTop (efcs23 m a) ht
  have K0 : Keep h0 h0 [a] := Keep.refl _ _
  have k21 : Kt p e below m (s₁.setTop (entryFrame m #[(.ref a), (.int (2 : Int32)), (.int (3 : Int32))] 5)) s₁ 2 #[.val (.ref a), .val (.int (2 : Int32)), .val (.int (3 : Int32)), .unset, .unset] [(.int (3 : Int32)), (.ref a)] := by
    intro t ht
    refine k0 t ?_
    show Steps p.tables e below (s₁.setTop (mkF m 0 #[.val (.ref a), .val (.int (2 : Int32)), .val (.int (3 : Int32)), .unset, .unset] [])) t
    refine XS.aloadN X0.here hx rfl (hb hby dcs23_0) rfl rfl ?_
    show Steps p.tables e below (s₁.setTop (mkF m 1 #[.val (.ref a), .val (.int (2 : Int32)), .val (.int (3 : Int32)), .unset, .unset] [(.ref a)])) t
    refine XS.iloadN X0.here hx rfl (hb hby dcs23_1) rfl ?_
    exact ht
  obtain ⟨cl22, Ar22, qc22, Sz22, Nn22, Hh22, Gg22⟩ := id V
  have hin22 : ¬ ((3 : Int32) < 0 ∨ cl22.slots.size ≤ ((3 : Int32)).toNatClampNeg) := inb_of Sz22 ⟨by decide, by decide⟩
  have hat22 : cl22.slots[((3 : Int32)).toNatClampNeg]? = some (.long x3) := Hh22.at hin22 rfl
  have k23 : Kt p e below m (s₁.setTop (entryFrame m #[(.ref a), (.int (2 : Int32)), (.int (3 : Int32))] 5)) s₁ 5 #[.val (.ref a), .val (.int (2 : Int32)), .val (.int (3 : Int32)), .unset, .unset] [(.int (2 : Int32)), (.ref a), (.long x3)] := by
    intro t ht
    refine k21 t ?_
    show Steps p.tables e below (s₁.setTop (mkF m 2 #[.val (.ref a), .val (.int (2 : Int32)), .val (.int (3 : Int32)), .unset, .unset] [(.int (3 : Int32)), (.ref a)])) t
    refine X0.laload hx (j := (3 : Int32)) (v := (.long x3)) (by rw [e0]; exact Ar22.1) (State.isArrayOf_alike hZ.alike Ar22.2.1) Ar22.2.2 hin22 hat22 (g := (mkF m 2 #[.val (.ref a), .val (.int (2 : Int32)), .val (.int (3 : Int32)), .unset, .unset] [(.int (3 : Int32)), (.ref a)])) rfl rfl (hb hby dcs23_2) _ ?_
    show Steps p.tables e below (s₁.setTop (mkF m 3 #[.val (.ref a), .val (.int (2 : Int32)), .val (.int (3 : Int32)), .unset, .unset] [(.long x3)])) t
    refine XS.aloadN X0.here hx rfl (hb hby dcs23_3) rfl rfl ?_
    show Steps p.tables e below (s₁.setTop (mkF m 4 #[.val (.ref a), .val (.int (2 : Int32)), .val (.int (3 : Int32)), .unset, .unset] [(.ref a), (.long x3)])) t
    refine XS.iloadN X0.here hx rfl (hb hby dcs23_4) rfl ?_
    exact ht
  obtain ⟨cl24, Ar24, qc24, Sz24, Nn24, Hh24, Gg24⟩ := id V
  have hin24 : ¬ ((2 : Int32) < 0 ∨ cl24.slots.size ≤ ((2 : Int32)).toNatClampNeg) := inb_of Sz24 ⟨by decide, by decide⟩
  have hat24 : cl24.slots[((2 : Int32)).toNatClampNeg]? = some (.long x2) := Hh24.at hin24 rfl
  have k25 : Kt p e below m (s₁.setTop (entryFrame m #[(.ref a), (.int (2 : Int32)), (.int (3 : Int32))] 5)) s₁ 7 #[.val (.ref a), .val (.int (2 : Int32)), .val (.int (3 : Int32)), .unset, .unset] [(.int (lcmpW x3 x2))] := by
    intro t ht
    refine k23 t ?_
    show Steps p.tables e below (s₁.setTop (mkF m 5 #[.val (.ref a), .val (.int (2 : Int32)), .val (.int (3 : Int32)), .unset, .unset] [(.int (2 : Int32)), (.ref a), (.long x3)])) t
    refine X0.laload hx (j := (2 : Int32)) (v := (.long x2)) (by rw [e0]; exact Ar24.1) (State.isArrayOf_alike hZ.alike Ar24.2.1) Ar24.2.2 hin24 hat24 (g := (mkF m 5 #[.val (.ref a), .val (.int (2 : Int32)), .val (.int (3 : Int32)), .unset, .unset] [(.int (2 : Int32)), (.ref a), (.long x3)])) rfl rfl (hb hby dcs23_5) _ ?_
    show Steps p.tables e below (s₁.setTop (mkF m 6 #[.val (.ref a), .val (.int (2 : Int32)), .val (.int (3 : Int32)), .unset, .unset] [(.long x2), (.long x3)])) t
    refine XS.lcmp X0.here hx rfl (hb hby dcs23_6) rfl ?_
    exact ht
  by_cases h1 : x3 < x2
  · have k26 : Kt p e below m (s₁.setTop (entryFrame m #[(.ref a), (.int (2 : Int32)), (.int (3 : Int32))] 5)) s₁ 12 #[.val (.ref a), .val (.int (2 : Int32)), .val (.int (3 : Int32)), .unset, .unset] [(.int (2 : Int32)), (.ref a)] := by
      intro t ht
      refine k25 t ?_
      show Steps p.tables e below (s₁.setTop (mkF m 7 #[.val (.ref a), .val (.int (2 : Int32)), .val (.int (3 : Int32)), .unset, .unset] [(.int (lcmpW x3 x2))])) t
      refine XS.ifNo X0.here hx rfl (hb hby dcs23_7) rfl ((if0 _ _).trans (tlt ((lw_lt _ _).mpr h1)).2.1) ?_
      show Steps p.tables e below (s₁.setTop (mkF m 10 #[.val (.ref a), .val (.int (2 : Int32)), .val (.int (3 : Int32)), .unset, .unset] [])) t
      refine XS.aloadN X0.here hx rfl (hb hby dcs23_10) rfl rfl ?_
      show Steps p.tables e below (s₁.setTop (mkF m 11 #[.val (.ref a), .val (.int (2 : Int32)), .val (.int (3 : Int32)), .unset, .unset] [(.ref a)])) t
      refine XS.iloadN X0.here hx rfl (hb hby dcs23_11) rfl ?_
      exact ht
    obtain ⟨cl27, Ar27, qc27, Sz27, Nn27, Hh27, Gg27⟩ := id V
    have hin27 : ¬ ((2 : Int32) < 0 ∨ cl27.slots.size ≤ ((2 : Int32)).toNatClampNeg) := inb_of Sz27 ⟨by decide, by decide⟩
    have hat27 : cl27.slots[((2 : Int32)).toNatClampNeg]? = some (.long x2) := Hh27.at hin27 rfl
    have k28 : Kt p e below m (s₁.setTop (entryFrame m #[(.ref a), (.int (2 : Int32)), (.int (3 : Int32))] 5)) s₁ 18 #[.val (.ref a), .val (.int (2 : Int32)), .val (.int (3 : Int32)), .val (.long x2), .second] [(.int (3 : Int32)), (.ref a), (.int (2 : Int32)), (.ref a)] := by
      intro t ht
      refine k26 t ?_
      show Steps p.tables e below (s₁.setTop (mkF m 12 #[.val (.ref a), .val (.int (2 : Int32)), .val (.int (3 : Int32)), .unset, .unset] [(.int (2 : Int32)), (.ref a)])) t
      refine X0.laload hx (j := (2 : Int32)) (v := (.long x2)) (by rw [e0]; exact Ar27.1) (State.isArrayOf_alike hZ.alike Ar27.2.1) Ar27.2.2 hin27 hat27 (g := (mkF m 12 #[.val (.ref a), .val (.int (2 : Int32)), .val (.int (3 : Int32)), .unset, .unset] [(.int (2 : Int32)), (.ref a)])) rfl rfl (hb hby dcs23_12) _ ?_
      show Steps p.tables e below (s₁.setTop (mkF m 13 #[.val (.ref a), .val (.int (2 : Int32)), .val (.int (3 : Int32)), .unset, .unset] [(.long x2)])) t
      refine XS.lstoreN X0.here hx rfl (hb hby dcs23_13) rfl (l' := #[.val (.ref a), .val (.int (2 : Int32)), .val (.int (3 : Int32)), .val (.long x2), .second]) rfl ?_
      show Steps p.tables e below (s₁.setTop (mkF m 14 #[.val (.ref a), .val (.int (2 : Int32)), .val (.int (3 : Int32)), .val (.long x2), .second] [])) t
      refine XS.aloadN X0.here hx rfl (hb hby dcs23_14) rfl rfl ?_
      show Steps p.tables e below (s₁.setTop (mkF m 15 #[.val (.ref a), .val (.int (2 : Int32)), .val (.int (3 : Int32)), .val (.long x2), .second] [(.ref a)])) t
      refine XS.iloadN X0.here hx rfl (hb hby dcs23_15) rfl ?_
      show Steps p.tables e below (s₁.setTop (mkF m 16 #[.val (.ref a), .val (.int (2 : Int32)), .val (.int (3 : Int32)), .val (.long x2), .second] [(.int (2 : Int32)), (.ref a)])) t
      refine XS.aloadN X0.here hx rfl (hb hby dcs23_16) rfl rfl ?_
      show Steps p.tables e below (s₁.setTop (mkF m 17 #[.val (.ref a), .val (.int (2 : Int32)), .val (.int (3 : Int32)), .val (.long x2), .second] [(.ref a), (.int (2 : Int32)), (.ref a)])) t
      refine XS.iloadN X0.here hx rfl (hb hby dcs23_17) rfl ?_
      exact ht
    obtain ⟨cl29, Ar29, qc29, Sz29, Nn29, Hh29, Gg29⟩ := id V
    have hin29 : ¬ ((3 : Int32) < 0 ∨ cl29.slots.size ≤ ((3 : Int32)).toNatClampNeg) := inb_of Sz29 ⟨by decide, by decide⟩
    have hat29 : cl29.slots[((3 : Int32)).toNatClampNeg]? = some (.long x3) := Hh29.at hin29 rfl
    have k30 : Kt p e below m (s₁.setTop (entryFrame m #[(.ref a), (.int (2 : Int32)), (.int (3 : Int32))] 5)) s₁ 19 #[.val (.ref a), .val (.int (2 : Int32)), .val (.int (3 : Int32)), .val (.long x2), .second] [(.long x3), (.int (2 : Int32)), (.ref a)] := by
      intro t ht
      refine k28 t ?_
      show Steps p.tables e below (s₁.setTop (mkF m 18 #[.val (.ref a), .val (.int (2 : Int32)), .val (.int (3 : Int32)), .val (.long x2), .second] [(.int (3 : Int32)), (.ref a), (.int (2 : Int32)), (.ref a)])) t
      refine X0.laload hx (j := (3 : Int32)) (v := (.long x3)) (by rw [e0]; exact Ar29.1) (State.isArrayOf_alike hZ.alike Ar29.2.1) Ar29.2.2 hin29 hat29 (g := (mkF m 18 #[.val (.ref a), .val (.int (2 : Int32)), .val (.int (3 : Int32)), .val (.long x2), .second] [(.int (3 : Int32)), (.ref a), (.int (2 : Int32)), (.ref a)])) rfl rfl (hb hby dcs23_18) _ ?_
      exact ht
    obtain ⟨cl31, Ar31, qc31, Sz31, Nn31, Hh31, Gg31⟩ := id V
    have hin31 : ¬ ((2 : Int32) < 0 ∨ cl31.slots.size ≤ ((2 : Int32)).toNatClampNeg) := inb_of Sz31 ⟨by decide, by decide⟩
    obtain ⟨T31, h31, X31, e31, W31, st31⟩ := stJ X0 hx hZ e0 Ar31 (j := (2 : Int32)) hin31 (g := (mkF m 19 #[.val (.ref a), .val (.int (2 : Int32)), .val (.int (3 : Int32)), .val (.long x2), .second] [(.long x3), (.int (2 : Int32)), (.ref a)])) rfl rfl (hb hby dcs23_19)
    have N31 := Fr.snoc X31 N0 g_a
    have f32 : n0 ≤ h31.size := Nat.le_trans Z0 (Keep.of_wr W31).1
    have f33 : Arv Z h31 a k .long (4 : Int32) [(.long x0), (.long x1), (.long x3), (.long x3)] (.long (0 : Int64)) := Arv.set Ar31 qc31 Sz31 Nn31 Hh31 Gg31 rfl W31 2 rfl (Nat.le_of_ble_eq_true rfl)
    have f34 : Keep h0 h31 [a] := K0.wr W31 (Or.inl (List.mem_of_getElem? (i := 0) rfl))
    have k31 : Kt p e below m (s₁.setTop (entryFrame m #[(.ref a), (.int (2 : Int32)), (.int (3 : Int32))] 5)) T31 20 #[.val (.ref a), .val (.int (2 : Int32)), .val (.int (3 : Int32)), .val (.long x2), .second] [] := fun t ht => k30 t (st31 t ht)
    have k35 : Kt p e below m (s₁.setTop (entryFrame m #[(.ref a), (.int (2 : Int32)), (.int (3 : Int32))] 5)) T31 23 #[.val (.ref a), .val (.int (2 : Int32)), .val (.int (3 : Int32)), .val (.long x2), .second] [(.long x2), (.int (3 : Int32)), (.ref a)] := by
      intro t ht
      refine k31 t ?_
      show Steps p.tables e below (T31.setTop (mkF m 20 #[.val (.ref a), .val (.int (2 : Int32)), .val (.int (3 : Int32)), .val (.long x2), .second] [])) t
      refine XS.aloadN X31.here hx rfl (hb hby dcs23_20) rfl rfl ?_
      show Steps p.tables e below (T31.setTop (mkF m 21 #[.val (.ref a), .val (.int (2 : Int32)), .val (.int (3 : Int32)), .val (.long x2), .second] [(.ref a)])) t
      refine XS.iloadN X31.here hx rfl (hb hby dcs23_21) rfl ?_
      show Steps p.tables e below (T31.setTop (mkF m 22 #[.val (.ref a), .val (.int (2 : Int32)), .val (.int (3 : Int32)), .val (.long x2), .second] [(.int (3 : Int32)), (.ref a)])) t
      refine XS.lloadN X31.here hx rfl (hb hby dcs23_22) rfl ?_
      exact ht
    obtain ⟨cl36, Ar36, qc36, Sz36, Nn36, Hh36, Gg36⟩ := id f33
    have hin36 : ¬ ((3 : Int32) < 0 ∨ cl36.slots.size ≤ ((3 : Int32)).toNatClampNeg) := inb_of Sz36 ⟨by decide, by decide⟩
    obtain ⟨T36, h36, X36, e36, W36, st36⟩ := stJ X31 hx hZ e31 Ar36 (j := (3 : Int32)) hin36 (g := (mkF m 23 #[.val (.ref a), .val (.int (2 : Int32)), .val (.int (3 : Int32)), .val (.long x2), .second] [(.long x2), (.int (3 : Int32)), (.ref a)])) rfl rfl (hb hby dcs23_23)
    have N36 := Fr.snoc X36 N31 g_a
    have f37 : n0 ≤ h36.size := Nat.le_trans f32 (Keep.of_wr W36).1
    have f38 : Arv Z h36 a k .long (4 : Int32) [(.long x0), (.long x1), (.long x3), (.long x2)] (.long (0 : Int64)) := Arv.set Ar36 qc36 Sz36 Nn36 Hh36 Gg36 rfl W36 3 rfl (Nat.le_of_ble_eq_true rfl)
    have f39 : Keep h0 h36 [a] := f34.wr W36 (Or.inl (List.mem_of_getElem? (i := 0) rfl))
    have k36 : Kt p e below m (s₁.setTop (entryFrame m #[(.ref a), (.int (2 : Int32)), (.int (3 : Int32))] 5)) T36 24 #[.val (.ref a), .val (.int (2 : Int32)), .val (.int (3 : Int32)), .val (.long x2), .second] [] := fun t ht => k35 t (st36 t ht)
    obtain ⟨fs, hr, hrun, hended, hW, hsame⟩ := X36.leave (v := none) (fun _ => rfl)
    refine ⟨_, _, k36 _ ?_, hrun, hended, _, _, rfl, ?_, ⟨_, rfl⟩, hW, hsame.mono (by decide) (by decide)⟩
    · exact X36.returnOut hx Bd.returns (hb hby dcs23_24) hr
    · show Qcs23 Z a k x0 x1 x2 x3 h0 n0 _ T36.heap _
      rw [e36]
      exact ⟨rfl, N36, f39, by rw [own_lo1 h1, own_hi1 h1]; exact f38⟩
  · have k40 : Kt p e below m (s₁.setTop (entryFrame m #[(.ref a), (.int (2 : Int32)), (.int (3 : Int32))] 5)) s₁ 24 #[.val (.ref a), .val (.int (2 : Int32)), .val (.int (3 : Int32)), .unset, .unset] [] := by
      intro t ht
      refine k25 t ?_
      show Steps p.tables e below (s₁.setTop (mkF m 7 #[.val (.ref a), .val (.int (2 : Int32)), .val (.int (3 : Int32)), .unset, .unset] [(.int (lcmpW x3 x2))])) t
      refine XS.ifYes X0.here hx rfl (pc0 := 7) (pc' := 24) rfl (hb hby dcs23_7) rfl ((if0 _ _).trans (flt (mt (lw_lt _ _).mp h1)).2.1) (by decide) (by decide) ?_
      exact ht
    obtain ⟨fs, hr, hrun, hended, hW, hsame⟩ := X0.leave (v := none) (fun _ => rfl)
    refine ⟨_, _, k40 _ ?_, hrun, hended, _, _, rfl, ?_, ⟨_, rfl⟩, hW, hsame.mono (by decide) (by decide)⟩
    · exact X0.returnOut hx Bd.returns (hb hby dcs23_24) hr
    · show Qcs23 Z a k x0 x1 x2 x3 h0 n0 _ s₁.heap _
      rw [e0]
      exact ⟨rfl, N0, K0, by rw [own_lo0 h1, own_hi0 h1]; exact V⟩
theorem dcs02_0 : decode method_2_code 0 = .ok (.aload_n 0, 1) := by decide +kernel
theorem dcs02_1 : decode method_2_code 1 = .ok (.iload_n 2, 1) := by decide +kernel
theorem dcs02_2 : decode method_2_code 2 = .ok (.laload, 1) := by decide +kernel
theorem dcs02_3 : decode method_2_code 3 = .ok (.aload_n 0, 1) := by decide +kernel
theorem dcs02_4 : decode method_2_code 4 = .ok (.iload_n 1, 1) := by decide +kernel
theorem dcs02_5 : decode method_2_code 5 = .ok (.laload, 1) := by decide +kernel
theorem dcs02_6 : decode method_2_code 6 = .ok (.lcmp, 1) := by decide +kernel
theorem dcs02_7 : decode method_2_code 7 = .ok (.ifCond .ge 17, 3) := by decide +kernel
theorem dcs02_10 : decode method_2_code 10 = .ok (.aload_n 0, 1) := by decide +kernel
theorem dcs02_11 : decode method_2_code 11 = .ok (.iload_n 1, 1) := by decide +kernel
theorem dcs02_12 : decode method_2_code 12 = .ok (.laload, 1) := by decide +kernel
theorem dcs02_13 : decode method_2_code 13 = .ok (.lstore_n 3, 1) := by decide +kernel
theorem dcs02_14 : decode method_2_code 14 = .ok (.aload_n 0, 1) := by decide +kernel
theorem dcs02_15 : decode method_2_code 15 = .ok (.iload_n 1, 1) := by decide +kernel
theorem dcs02_16 : decode method_2_code 16 = .ok (.aload_n 0, 1) := by decide +kernel
theorem dcs02_17 : decode method_2_code 17 = .ok (.iload_n 2, 1) := by decide +kernel
theorem dcs02_18 : decode method_2_code 18 = .ok (.laload, 1) := by decide +kernel
theorem dcs02_19 : decode method_2_code 19 = .ok (.lastore, 1) := by decide +kernel
theorem dcs02_20 : decode method_2_code 20 = .ok (.aload_n 0, 1) := by decide +kernel
theorem dcs02_21 : decode method_2_code 21 = .ok (.iload_n 2, 1) := by decide +kernel
theorem dcs02_22 : decode method_2_code 22 = .ok (.lload_n 3, 1) := by decide +kernel
theorem dcs02_23 : decode method_2_code 23 = .ok (.lastore, 1) := by decide +kernel
theorem dcs02_24 : decode method_2_code 24 = .ok (.return_, 1) := by decide +kernel
theorem pncs02 : plainName "com/example/clearhour/clearhour/market/TimelineIndexFromPinLaw" = true := by first | (simp [plainName, overriddenIn]; done) | decide +kernel
theorem efcs02 (m : MethodId) (a : Addr) : entryFrame m #[(.ref a), (.int (0 : Int32)), (.int (2 : Int32))] 5 = mkF m 0 #[.val (.ref a), .val (.int (0 : Int32)), .val (.int (2 : Int32)), .unset, .unset] [] := by first | (simp [entryFrame, mkF, argsToLocals, Value.category]; done) | rfl
def Qcs02 (Z : State) (a : Addr) (k : ClassId) (x0 : Int64) (x1 : Int64) (x2 : Int64) (x3 : Int64) (h0 : Heap) (n0 : Nat) (v : Option Value) (h : Heap) (L : List Loc) : Prop := v = none ∧ Fr n0 L ∧ Keep h0 h [a] ∧ Arv Z h a k .long (4 : Int32) [(.long (own_lo x0 x2)), (.long x1), (.long (own_hi x0 x2)), (.long x3)] (.long (0 : Int64))
set_option maxRecDepth 65536 in
set_option maxHeartbeats 40000000 in
theorem rmcs02 (l : Launch) (Z : State) (a0 : Array Value) (hw : ∀ d ∈ tables_1, d.before a0 Z = true) (ws : List Jvm.Cond) (a : Addr) (k : ClassId) (x0 : Int64) (x1 : Int64) (x2 : Int64) (x3 : Int64) (h0 : Heap) (n0 : Nat) (Z0 : n0 ≤ h0.size) (V : Arv Z h0 a k .long (4 : Int32) [(.long x0), (.long x1), (.long x2), (.long x3)] (.long (0 : Int64))) (g_a : n0 ≤ a) :
    MetFree l (⟨"com/example/clearhour/clearhour/market/TimelineIndexFromPinLaw", "cs", "([JII)V"⟩ : MethodName) (head1 (Jvm.Cond.code (⟨"com/example/clearhour/clearhour/market/TimelineIndexFromPinLaw", "cs", "([JII)V"⟩ : MethodName) method_2_code 5 none :: ws) ({ frames := 0, cells := 0, slots := 0, locals := 0 } : Room)) (fun gs' U => gs' = #[(.ref a), (.int (0 : Int32)), (.int (2 : Int32))] ∧ Z.Warmed39 U.vm ∧ U.heap = h0) (fun _ _ _ _ _ => True) (fun _ U o U' => ∃ v L, o = .returned v ∧ Qcs02 Z a k x0 x1 x2 x3 h0 n0 v U'.heap L ∧ FrameEnd U o U' L ({ frames := 0, cells := 0, slots := 0, locals := 0 } : Room).cells ({ frames := 0, cells := 0, slots := 0, locals := 0 } : Room).slots) := by
  refine MetFree.of_bodySF (plainFor_of_name pncs02) hisR ?_
  intro p e s m args below meth c s₁ Bd hml0 hP hK
  obtain ⟨rfl, hZ, hh⟩ := hP
  have hx := Bd.exec
  have hby := Bd.bytes
  have hml : c.maxLocals = 5 := hml0
  have hown : s.vm.findClass "com/example/clearhour/clearhour/market/TimelineIndexFromPinLaw" = some m.cls := findClass_of_methodNamed Bd.named
  have hnm := (name_of_methodNamed Bd.named Bd.method).1
  have X0 : Stand p l e ({ frames := 0, cells := 0, slots := 0, locals := 0 } : Room) s m #[(.ref a), (.int (0 : Int32)), (.int (2 : Int32))] below meth c s₁ [] 0 0 := Stand.of_body Bd
  have e0 : s₁.heap = h0 := by rw [← hh, Bd.state]; rfl
  have N0 := Fr.nil n0
  have k0 : Kt p e below m (s₁.setTop (entryFrame m #[(.ref a), (.int (0 : Int32)), (.int (2 : Int32))] 5)) s₁ 0 #[.val (.ref a), .val (.int (0 : Int32)), .val (.int (2 : Int32)), .unset, .unset] [] := fun t ht => castTop (efcs02 m a) ht
  have K0 : Keep h0 h0 [a] := Keep.refl _ _
  have k41 : Kt p e below m (s₁.setTop (entryFrame m #[(.ref a), (.int (0 : Int32)), (.int (2 : Int32))] 5)) s₁ 2 #[.val (.ref a), .val (.int (0 : Int32)), .val (.int (2 : Int32)), .unset, .unset] [(.int (2 : Int32)), (.ref a)] := by
    intro t ht
    refine k0 t ?_
    show Steps p.tables e below (s₁.setTop (mkF m 0 #[.val (.ref a), .val (.int (0 : Int32)), .val (.int (2 : Int32)), .unset, .unset] [])) t
    refine XS.aloadN X0.here hx rfl (hb hby dcs02_0) rfl rfl ?_
    show Steps p.tables e below (s₁.setTop (mkF m 1 #[.val (.ref a), .val (.int (0 : Int32)), .val (.int (2 : Int32)), .unset, .unset] [(.ref a)])) t
    refine XS.iloadN X0.here hx rfl (hb hby dcs02_1) rfl ?_
    exact ht
  obtain ⟨cl42, Ar42, qc42, Sz42, Nn42, Hh42, Gg42⟩ := id V
  have hin42 : ¬ ((2 : Int32) < 0 ∨ cl42.slots.size ≤ ((2 : Int32)).toNatClampNeg) := inb_of Sz42 ⟨by decide, by decide⟩
  have hat42 : cl42.slots[((2 : Int32)).toNatClampNeg]? = some (.long x2) := Hh42.at hin42 rfl
  have k43 : Kt p e below m (s₁.setTop (entryFrame m #[(.ref a), (.int (0 : Int32)), (.int (2 : Int32))] 5)) s₁ 5 #[.val (.ref a), .val (.int (0 : Int32)), .val (.int (2 : Int32)), .unset, .unset] [(.int (0 : Int32)), (.ref a), (.long x2)] := by
    intro t ht
    refine k41 t ?_
    show Steps p.tables e below (s₁.setTop (mkF m 2 #[.val (.ref a), .val (.int (0 : Int32)), .val (.int (2 : Int32)), .unset, .unset] [(.int (2 : Int32)), (.ref a)])) t
    refine X0.laload hx (j := (2 : Int32)) (v := (.long x2)) (by rw [e0]; exact Ar42.1) (State.isArrayOf_alike hZ.alike Ar42.2.1) Ar42.2.2 hin42 hat42 (g := (mkF m 2 #[.val (.ref a), .val (.int (0 : Int32)), .val (.int (2 : Int32)), .unset, .unset] [(.int (2 : Int32)), (.ref a)])) rfl rfl (hb hby dcs02_2) _ ?_
    show Steps p.tables e below (s₁.setTop (mkF m 3 #[.val (.ref a), .val (.int (0 : Int32)), .val (.int (2 : Int32)), .unset, .unset] [(.long x2)])) t
    refine XS.aloadN X0.here hx rfl (hb hby dcs02_3) rfl rfl ?_
    show Steps p.tables e below (s₁.setTop (mkF m 4 #[.val (.ref a), .val (.int (0 : Int32)), .val (.int (2 : Int32)), .unset, .unset] [(.ref a), (.long x2)])) t
    refine XS.iloadN X0.here hx rfl (hb hby dcs02_4) rfl ?_
    exact ht
  obtain ⟨cl44, Ar44, qc44, Sz44, Nn44, Hh44, Gg44⟩ := id V
  have hin44 : ¬ ((0 : Int32) < 0 ∨ cl44.slots.size ≤ ((0 : Int32)).toNatClampNeg) := inb_of Sz44 ⟨by decide, by decide⟩
  have hat44 : cl44.slots[((0 : Int32)).toNatClampNeg]? = some (.long x0) := Hh44.at hin44 rfl
  have k45 : Kt p e below m (s₁.setTop (entryFrame m #[(.ref a), (.int (0 : Int32)), (.int (2 : Int32))] 5)) s₁ 7 #[.val (.ref a), .val (.int (0 : Int32)), .val (.int (2 : Int32)), .unset, .unset] [(.int (lcmpW x2 x0))] := by
    intro t ht
    refine k43 t ?_
    show Steps p.tables e below (s₁.setTop (mkF m 5 #[.val (.ref a), .val (.int (0 : Int32)), .val (.int (2 : Int32)), .unset, .unset] [(.int (0 : Int32)), (.ref a), (.long x2)])) t
    refine X0.laload hx (j := (0 : Int32)) (v := (.long x0)) (by rw [e0]; exact Ar44.1) (State.isArrayOf_alike hZ.alike Ar44.2.1) Ar44.2.2 hin44 hat44 (g := (mkF m 5 #[.val (.ref a), .val (.int (0 : Int32)), .val (.int (2 : Int32)), .unset, .unset] [(.int (0 : Int32)), (.ref a), (.long x2)])) rfl rfl (hb hby dcs02_5) _ ?_
    show Steps p.tables e below (s₁.setTop (mkF m 6 #[.val (.ref a), .val (.int (0 : Int32)), .val (.int (2 : Int32)), .unset, .unset] [(.long x0), (.long x2)])) t
    refine XS.lcmp X0.here hx rfl (hb hby dcs02_6) rfl ?_
    exact ht
  by_cases h1 : x2 < x0
  · have k46 : Kt p e below m (s₁.setTop (entryFrame m #[(.ref a), (.int (0 : Int32)), (.int (2 : Int32))] 5)) s₁ 12 #[.val (.ref a), .val (.int (0 : Int32)), .val (.int (2 : Int32)), .unset, .unset] [(.int (0 : Int32)), (.ref a)] := by
      intro t ht
      refine k45 t ?_
      show Steps p.tables e below (s₁.setTop (mkF m 7 #[.val (.ref a), .val (.int (0 : Int32)), .val (.int (2 : Int32)), .unset, .unset] [(.int (lcmpW x2 x0))])) t
      refine XS.ifNo X0.here hx rfl (hb hby dcs02_7) rfl ((if0 _ _).trans (tlt ((lw_lt _ _).mpr h1)).2.1) ?_
      show Steps p.tables e below (s₁.setTop (mkF m 10 #[.val (.ref a), .val (.int (0 : Int32)), .val (.int (2 : Int32)), .unset, .unset] [])) t
      refine XS.aloadN X0.here hx rfl (hb hby dcs02_10) rfl rfl ?_
      show Steps p.tables e below (s₁.setTop (mkF m 11 #[.val (.ref a), .val (.int (0 : Int32)), .val (.int (2 : Int32)), .unset, .unset] [(.ref a)])) t
      refine XS.iloadN X0.here hx rfl (hb hby dcs02_11) rfl ?_
      exact ht
    obtain ⟨cl47, Ar47, qc47, Sz47, Nn47, Hh47, Gg47⟩ := id V
    have hin47 : ¬ ((0 : Int32) < 0 ∨ cl47.slots.size ≤ ((0 : Int32)).toNatClampNeg) := inb_of Sz47 ⟨by decide, by decide⟩
    have hat47 : cl47.slots[((0 : Int32)).toNatClampNeg]? = some (.long x0) := Hh47.at hin47 rfl
    have k48 : Kt p e below m (s₁.setTop (entryFrame m #[(.ref a), (.int (0 : Int32)), (.int (2 : Int32))] 5)) s₁ 18 #[.val (.ref a), .val (.int (0 : Int32)), .val (.int (2 : Int32)), .val (.long x0), .second] [(.int (2 : Int32)), (.ref a), (.int (0 : Int32)), (.ref a)] := by
      intro t ht
      refine k46 t ?_
      show Steps p.tables e below (s₁.setTop (mkF m 12 #[.val (.ref a), .val (.int (0 : Int32)), .val (.int (2 : Int32)), .unset, .unset] [(.int (0 : Int32)), (.ref a)])) t
      refine X0.laload hx (j := (0 : Int32)) (v := (.long x0)) (by rw [e0]; exact Ar47.1) (State.isArrayOf_alike hZ.alike Ar47.2.1) Ar47.2.2 hin47 hat47 (g := (mkF m 12 #[.val (.ref a), .val (.int (0 : Int32)), .val (.int (2 : Int32)), .unset, .unset] [(.int (0 : Int32)), (.ref a)])) rfl rfl (hb hby dcs02_12) _ ?_
      show Steps p.tables e below (s₁.setTop (mkF m 13 #[.val (.ref a), .val (.int (0 : Int32)), .val (.int (2 : Int32)), .unset, .unset] [(.long x0)])) t
      refine XS.lstoreN X0.here hx rfl (hb hby dcs02_13) rfl (l' := #[.val (.ref a), .val (.int (0 : Int32)), .val (.int (2 : Int32)), .val (.long x0), .second]) rfl ?_
      show Steps p.tables e below (s₁.setTop (mkF m 14 #[.val (.ref a), .val (.int (0 : Int32)), .val (.int (2 : Int32)), .val (.long x0), .second] [])) t
      refine XS.aloadN X0.here hx rfl (hb hby dcs02_14) rfl rfl ?_
      show Steps p.tables e below (s₁.setTop (mkF m 15 #[.val (.ref a), .val (.int (0 : Int32)), .val (.int (2 : Int32)), .val (.long x0), .second] [(.ref a)])) t
      refine XS.iloadN X0.here hx rfl (hb hby dcs02_15) rfl ?_
      show Steps p.tables e below (s₁.setTop (mkF m 16 #[.val (.ref a), .val (.int (0 : Int32)), .val (.int (2 : Int32)), .val (.long x0), .second] [(.int (0 : Int32)), (.ref a)])) t
      refine XS.aloadN X0.here hx rfl (hb hby dcs02_16) rfl rfl ?_
      show Steps p.tables e below (s₁.setTop (mkF m 17 #[.val (.ref a), .val (.int (0 : Int32)), .val (.int (2 : Int32)), .val (.long x0), .second] [(.ref a), (.int (0 : Int32)), (.ref a)])) t
      refine XS.iloadN X0.here hx rfl (hb hby dcs02_17) rfl ?_
      exact ht
    obtain ⟨cl49, Ar49, qc49, Sz49, Nn49, Hh49, Gg49⟩ := id V
    have hin49 : ¬ ((2 : Int32) < 0 ∨ cl49.slots.size ≤ ((2 : Int32)).toNatClampNeg) := inb_of Sz49 ⟨by decide, by decide⟩
    have hat49 : cl49.slots[((2 : Int32)).toNatClampNeg]? = some (.long x2) := Hh49.at hin49 rfl
    have k50 : Kt p e below m (s₁.setTop (entryFrame m #[(.ref a), (.int (0 : Int32)), (.int (2 : Int32))] 5)) s₁ 19 #[.val (.ref a), .val (.int (0 : Int32)), .val (.int (2 : Int32)), .val (.long x0), .second] [(.long x2), (.int (0 : Int32)), (.ref a)] := by
      intro t ht
      refine k48 t ?_
      show Steps p.tables e below (s₁.setTop (mkF m 18 #[.val (.ref a), .val (.int (0 : Int32)), .val (.int (2 : Int32)), .val (.long x0), .second] [(.int (2 : Int32)), (.ref a), (.int (0 : Int32)), (.ref a)])) t
      refine X0.laload hx (j := (2 : Int32)) (v := (.long x2)) (by rw [e0]; exact Ar49.1) (State.isArrayOf_alike hZ.alike Ar49.2.1) Ar49.2.2 hin49 hat49 (g := (mkF m 18 #[.val (.ref a), .val (.int (0 : Int32)), .val (.int (2 : Int32)), .val (.long x0), .second] [(.int (2 : Int32)), (.ref a), (.int (0 : Int32)), (.ref a)])) rfl rfl (hb hby dcs02_18) _ ?_
      exact ht
    obtain ⟨cl51, Ar51, qc51, Sz51, Nn51, Hh51, Gg51⟩ := id V
    have hin51 : ¬ ((0 : Int32) < 0 ∨ cl51.slots.size ≤ ((0 : Int32)).toNatClampNeg) := inb_of Sz51 ⟨by decide, by decide⟩
    obtain ⟨T51, h51, X51, e51, W51, st51⟩ := stJ X0 hx hZ e0 Ar51 (j := (0 : Int32)) hin51 (g := (mkF m 19 #[.val (.ref a), .val (.int (0 : Int32)), .val (.int (2 : Int32)), .val (.long x0), .second] [(.long x2), (.int (0 : Int32)), (.ref a)])) rfl rfl (hb hby dcs02_19)
    have N51 := Fr.snoc X51 N0 g_a
    have f52 : n0 ≤ h51.size := Nat.le_trans Z0 (Keep.of_wr W51).1
    have f53 : Arv Z h51 a k .long (4 : Int32) [(.long x2), (.long x1), (.long x2), (.long x3)] (.long (0 : Int64)) := Arv.set Ar51 qc51 Sz51 Nn51 Hh51 Gg51 rfl W51 0 rfl (Nat.le_of_ble_eq_true rfl)
    have f54 : Keep h0 h51 [a] := K0.wr W51 (Or.inl (List.mem_of_getElem? (i := 0) rfl))
    have k51 : Kt p e below m (s₁.setTop (entryFrame m #[(.ref a), (.int (0 : Int32)), (.int (2 : Int32))] 5)) T51 20 #[.val (.ref a), .val (.int (0 : Int32)), .val (.int (2 : Int32)), .val (.long x0), .second] [] := fun t ht => k50 t (st51 t ht)
    have k55 : Kt p e below m (s₁.setTop (entryFrame m #[(.ref a), (.int (0 : Int32)), (.int (2 : Int32))] 5)) T51 23 #[.val (.ref a), .val (.int (0 : Int32)), .val (.int (2 : Int32)), .val (.long x0), .second] [(.long x0), (.int (2 : Int32)), (.ref a)] := by
      intro t ht
      refine k51 t ?_
      show Steps p.tables e below (T51.setTop (mkF m 20 #[.val (.ref a), .val (.int (0 : Int32)), .val (.int (2 : Int32)), .val (.long x0), .second] [])) t
      refine XS.aloadN X51.here hx rfl (hb hby dcs02_20) rfl rfl ?_
      show Steps p.tables e below (T51.setTop (mkF m 21 #[.val (.ref a), .val (.int (0 : Int32)), .val (.int (2 : Int32)), .val (.long x0), .second] [(.ref a)])) t
      refine XS.iloadN X51.here hx rfl (hb hby dcs02_21) rfl ?_
      show Steps p.tables e below (T51.setTop (mkF m 22 #[.val (.ref a), .val (.int (0 : Int32)), .val (.int (2 : Int32)), .val (.long x0), .second] [(.int (2 : Int32)), (.ref a)])) t
      refine XS.lloadN X51.here hx rfl (hb hby dcs02_22) rfl ?_
      exact ht
    obtain ⟨cl56, Ar56, qc56, Sz56, Nn56, Hh56, Gg56⟩ := id f53
    have hin56 : ¬ ((2 : Int32) < 0 ∨ cl56.slots.size ≤ ((2 : Int32)).toNatClampNeg) := inb_of Sz56 ⟨by decide, by decide⟩
    obtain ⟨T56, h56, X56, e56, W56, st56⟩ := stJ X51 hx hZ e51 Ar56 (j := (2 : Int32)) hin56 (g := (mkF m 23 #[.val (.ref a), .val (.int (0 : Int32)), .val (.int (2 : Int32)), .val (.long x0), .second] [(.long x0), (.int (2 : Int32)), (.ref a)])) rfl rfl (hb hby dcs02_23)
    have N56 := Fr.snoc X56 N51 g_a
    have f57 : n0 ≤ h56.size := Nat.le_trans f52 (Keep.of_wr W56).1
    have f58 : Arv Z h56 a k .long (4 : Int32) [(.long x2), (.long x1), (.long x0), (.long x3)] (.long (0 : Int64)) := Arv.set Ar56 qc56 Sz56 Nn56 Hh56 Gg56 rfl W56 2 rfl (Nat.le_of_ble_eq_true rfl)
    have f59 : Keep h0 h56 [a] := f54.wr W56 (Or.inl (List.mem_of_getElem? (i := 0) rfl))
    have k56 : Kt p e below m (s₁.setTop (entryFrame m #[(.ref a), (.int (0 : Int32)), (.int (2 : Int32))] 5)) T56 24 #[.val (.ref a), .val (.int (0 : Int32)), .val (.int (2 : Int32)), .val (.long x0), .second] [] := fun t ht => k55 t (st56 t ht)
    obtain ⟨fs, hr, hrun, hended, hW, hsame⟩ := X56.leave (v := none) (fun _ => rfl)
    refine ⟨_, _, k56 _ ?_, hrun, hended, _, _, rfl, ?_, ⟨_, rfl⟩, hW, hsame.mono (by decide) (by decide)⟩
    · exact X56.returnOut hx Bd.returns (hb hby dcs02_24) hr
    · show Qcs02 Z a k x0 x1 x2 x3 h0 n0 _ T56.heap _
      rw [e56]
      exact ⟨rfl, N56, f59, by rw [own_lo1 h1, own_hi1 h1]; exact f58⟩
  · have k60 : Kt p e below m (s₁.setTop (entryFrame m #[(.ref a), (.int (0 : Int32)), (.int (2 : Int32))] 5)) s₁ 24 #[.val (.ref a), .val (.int (0 : Int32)), .val (.int (2 : Int32)), .unset, .unset] [] := by
      intro t ht
      refine k45 t ?_
      show Steps p.tables e below (s₁.setTop (mkF m 7 #[.val (.ref a), .val (.int (0 : Int32)), .val (.int (2 : Int32)), .unset, .unset] [(.int (lcmpW x2 x0))])) t
      refine XS.ifYes X0.here hx rfl (pc0 := 7) (pc' := 24) rfl (hb hby dcs02_7) rfl ((if0 _ _).trans (flt (mt (lw_lt _ _).mp h1)).2.1) (by decide) (by decide) ?_
      exact ht
    obtain ⟨fs, hr, hrun, hended, hW, hsame⟩ := X0.leave (v := none) (fun _ => rfl)
    refine ⟨_, _, k60 _ ?_, hrun, hended, _, _, rfl, ?_, ⟨_, rfl⟩, hW, hsame.mono (by decide) (by decide)⟩
    · exact X0.returnOut hx Bd.returns (hb hby dcs02_24) hr
    · show Qcs02 Z a k x0 x1 x2 x3 h0 n0 _ s₁.heap _
      rw [e0]
      exact ⟨rfl, N0, K0, by rw [own_lo0 h1, own_hi0 h1]; exact V⟩
theorem dcs13_0 : decode method_2_code 0 = .ok (.aload_n 0, 1) := by decide +kernel
theorem dcs13_1 : decode method_2_code 1 = .ok (.iload_n 2, 1) := by decide +kernel
theorem dcs13_2 : decode method_2_code 2 = .ok (.laload, 1) := by decide +kernel
theorem dcs13_3 : decode method_2_code 3 = .ok (.aload_n 0, 1) := by decide +kernel
theorem dcs13_4 : decode method_2_code 4 = .ok (.iload_n 1, 1) := by decide +kernel
theorem dcs13_5 : decode method_2_code 5 = .ok (.laload, 1) := by decide +kernel
theorem dcs13_6 : decode method_2_code 6 = .ok (.lcmp, 1) := by decide +kernel
theorem dcs13_7 : decode method_2_code 7 = .ok (.ifCond .ge 17, 3) := by decide +kernel
theorem dcs13_10 : decode method_2_code 10 = .ok (.aload_n 0, 1) := by decide +kernel
theorem dcs13_11 : decode method_2_code 11 = .ok (.iload_n 1, 1) := by decide +kernel
theorem dcs13_12 : decode method_2_code 12 = .ok (.laload, 1) := by decide +kernel
theorem dcs13_13 : decode method_2_code 13 = .ok (.lstore_n 3, 1) := by decide +kernel
theorem dcs13_14 : decode method_2_code 14 = .ok (.aload_n 0, 1) := by decide +kernel
theorem dcs13_15 : decode method_2_code 15 = .ok (.iload_n 1, 1) := by decide +kernel
theorem dcs13_16 : decode method_2_code 16 = .ok (.aload_n 0, 1) := by decide +kernel
theorem dcs13_17 : decode method_2_code 17 = .ok (.iload_n 2, 1) := by decide +kernel
theorem dcs13_18 : decode method_2_code 18 = .ok (.laload, 1) := by decide +kernel
theorem dcs13_19 : decode method_2_code 19 = .ok (.lastore, 1) := by decide +kernel
theorem dcs13_20 : decode method_2_code 20 = .ok (.aload_n 0, 1) := by decide +kernel
theorem dcs13_21 : decode method_2_code 21 = .ok (.iload_n 2, 1) := by decide +kernel
theorem dcs13_22 : decode method_2_code 22 = .ok (.lload_n 3, 1) := by decide +kernel
theorem dcs13_23 : decode method_2_code 23 = .ok (.lastore, 1) := by decide +kernel
theorem dcs13_24 : decode method_2_code 24 = .ok (.return_, 1) := by decide +kernel
theorem pncs13 : plainName "com/example/clearhour/clearhour/market/TimelineIndexFromPinLaw" = true := by first | (simp [plainName, overriddenIn]; done) | decide +kernel
theorem efcs13 (m : MethodId) (a : Addr) : entryFrame m #[(.ref a), (.int (1 : Int32)), (.int (3 : Int32))] 5 = mkF m 0 #[.val (.ref a), .val (.int (1 : Int32)), .val (.int (3 : Int32)), .unset, .unset] [] := by first | (simp [entryFrame, mkF, argsToLocals, Value.category]; done) | rfl
def Qcs13 (Z : State) (a : Addr) (k : ClassId) (x0 : Int64) (x1 : Int64) (x2 : Int64) (x3 : Int64) (h0 : Heap) (n0 : Nat) (v : Option Value) (h : Heap) (L : List Loc) : Prop := v = none ∧ Fr n0 L ∧ Keep h0 h [a] ∧ Arv Z h a k .long (4 : Int32) [(.long x0), (.long (own_lo x1 x3)), (.long x2), (.long (own_hi x1 x3))] (.long (0 : Int64))
set_option maxRecDepth 65536 in
set_option maxHeartbeats 40000000 in
theorem rmcs13 (l : Launch) (Z : State) (a0 : Array Value) (hw : ∀ d ∈ tables_1, d.before a0 Z = true) (ws : List Jvm.Cond) (a : Addr) (k : ClassId) (x0 : Int64) (x1 : Int64) (x2 : Int64) (x3 : Int64) (h0 : Heap) (n0 : Nat) (Z0 : n0 ≤ h0.size) (V : Arv Z h0 a k .long (4 : Int32) [(.long x0), (.long x1), (.long x2), (.long x3)] (.long (0 : Int64))) (g_a : n0 ≤ a) :
    MetFree l (⟨"com/example/clearhour/clearhour/market/TimelineIndexFromPinLaw", "cs", "([JII)V"⟩ : MethodName) (head1 (Jvm.Cond.code (⟨"com/example/clearhour/clearhour/market/TimelineIndexFromPinLaw", "cs", "([JII)V"⟩ : MethodName) method_2_code 5 none :: ws) ({ frames := 0, cells := 0, slots := 0, locals := 0 } : Room)) (fun gs' U => gs' = #[(.ref a), (.int (1 : Int32)), (.int (3 : Int32))] ∧ Z.Warmed39 U.vm ∧ U.heap = h0) (fun _ _ _ _ _ => True) (fun _ U o U' => ∃ v L, o = .returned v ∧ Qcs13 Z a k x0 x1 x2 x3 h0 n0 v U'.heap L ∧ FrameEnd U o U' L ({ frames := 0, cells := 0, slots := 0, locals := 0 } : Room).cells ({ frames := 0, cells := 0, slots := 0, locals := 0 } : Room).slots) := by
  refine MetFree.of_bodySF (plainFor_of_name pncs13) hisR ?_
  intro p e s m args below meth c s₁ Bd hml0 hP hK
  obtain ⟨rfl, hZ, hh⟩ := hP
  have hx := Bd.exec
  have hby := Bd.bytes
  have hml : c.maxLocals = 5 := hml0
  have hown : s.vm.findClass "com/example/clearhour/clearhour/market/TimelineIndexFromPinLaw" = some m.cls := findClass_of_methodNamed Bd.named
  have hnm := (name_of_methodNamed Bd.named Bd.method).1
  have X0 : Stand p l e ({ frames := 0, cells := 0, slots := 0, locals := 0 } : Room) s m #[(.ref a), (.int (1 : Int32)), (.int (3 : Int32))] below meth c s₁ [] 0 0 := Stand.of_body Bd
  have e0 : s₁.heap = h0 := by rw [← hh, Bd.state]; rfl
  have N0 := Fr.nil n0
  have k0 : Kt p e below m (s₁.setTop (entryFrame m #[(.ref a), (.int (1 : Int32)), (.int (3 : Int32))] 5)) s₁ 0 #[.val (.ref a), .val (.int (1 : Int32)), .val (.int (3 : Int32)), .unset, .unset] [] := fun t ht => castTop (efcs13 m a) ht
  have K0 : Keep h0 h0 [a] := Keep.refl _ _
  have k61 : Kt p e below m (s₁.setTop (entryFrame m #[(.ref a), (.int (1 : Int32)), (.int (3 : Int32))] 5)) s₁ 2 #[.val (.ref a), .val (.int (1 : Int32)), .val (.int (3 : Int32)), .unset, .unset] [(.int (3 : Int32)), (.ref a)] := by
    intro t ht
    refine k0 t ?_
    show Steps p.tables e below (s₁.setTop (mkF m 0 #[.val (.ref a), .val (.int (1 : Int32)), .val (.int (3 : Int32)), .unset, .unset] [])) t
    refine XS.aloadN X0.here hx rfl (hb hby dcs13_0) rfl rfl ?_
    show Steps p.tables e below (s₁.setTop (mkF m 1 #[.val (.ref a), .val (.int (1 : Int32)), .val (.int (3 : Int32)), .unset, .unset] [(.ref a)])) t
    refine XS.iloadN X0.here hx rfl (hb hby dcs13_1) rfl ?_
    exact ht
  obtain ⟨cl62, Ar62, qc62, Sz62, Nn62, Hh62, Gg62⟩ := id V
  have hin62 : ¬ ((3 : Int32) < 0 ∨ cl62.slots.size ≤ ((3 : Int32)).toNatClampNeg) := inb_of Sz62 ⟨by decide, by decide⟩
  have hat62 : cl62.slots[((3 : Int32)).toNatClampNeg]? = some (.long x3) := Hh62.at hin62 rfl
  have k63 : Kt p e below m (s₁.setTop (entryFrame m #[(.ref a), (.int (1 : Int32)), (.int (3 : Int32))] 5)) s₁ 5 #[.val (.ref a), .val (.int (1 : Int32)), .val (.int (3 : Int32)), .unset, .unset] [(.int (1 : Int32)), (.ref a), (.long x3)] := by
    intro t ht
    refine k61 t ?_
    show Steps p.tables e below (s₁.setTop (mkF m 2 #[.val (.ref a), .val (.int (1 : Int32)), .val (.int (3 : Int32)), .unset, .unset] [(.int (3 : Int32)), (.ref a)])) t
    refine X0.laload hx (j := (3 : Int32)) (v := (.long x3)) (by rw [e0]; exact Ar62.1) (State.isArrayOf_alike hZ.alike Ar62.2.1) Ar62.2.2 hin62 hat62 (g := (mkF m 2 #[.val (.ref a), .val (.int (1 : Int32)), .val (.int (3 : Int32)), .unset, .unset] [(.int (3 : Int32)), (.ref a)])) rfl rfl (hb hby dcs13_2) _ ?_
    show Steps p.tables e below (s₁.setTop (mkF m 3 #[.val (.ref a), .val (.int (1 : Int32)), .val (.int (3 : Int32)), .unset, .unset] [(.long x3)])) t
    refine XS.aloadN X0.here hx rfl (hb hby dcs13_3) rfl rfl ?_
    show Steps p.tables e below (s₁.setTop (mkF m 4 #[.val (.ref a), .val (.int (1 : Int32)), .val (.int (3 : Int32)), .unset, .unset] [(.ref a), (.long x3)])) t
    refine XS.iloadN X0.here hx rfl (hb hby dcs13_4) rfl ?_
    exact ht
  obtain ⟨cl64, Ar64, qc64, Sz64, Nn64, Hh64, Gg64⟩ := id V
  have hin64 : ¬ ((1 : Int32) < 0 ∨ cl64.slots.size ≤ ((1 : Int32)).toNatClampNeg) := inb_of Sz64 ⟨by decide, by decide⟩
  have hat64 : cl64.slots[((1 : Int32)).toNatClampNeg]? = some (.long x1) := Hh64.at hin64 rfl
  have k65 : Kt p e below m (s₁.setTop (entryFrame m #[(.ref a), (.int (1 : Int32)), (.int (3 : Int32))] 5)) s₁ 7 #[.val (.ref a), .val (.int (1 : Int32)), .val (.int (3 : Int32)), .unset, .unset] [(.int (lcmpW x3 x1))] := by
    intro t ht
    refine k63 t ?_
    show Steps p.tables e below (s₁.setTop (mkF m 5 #[.val (.ref a), .val (.int (1 : Int32)), .val (.int (3 : Int32)), .unset, .unset] [(.int (1 : Int32)), (.ref a), (.long x3)])) t
    refine X0.laload hx (j := (1 : Int32)) (v := (.long x1)) (by rw [e0]; exact Ar64.1) (State.isArrayOf_alike hZ.alike Ar64.2.1) Ar64.2.2 hin64 hat64 (g := (mkF m 5 #[.val (.ref a), .val (.int (1 : Int32)), .val (.int (3 : Int32)), .unset, .unset] [(.int (1 : Int32)), (.ref a), (.long x3)])) rfl rfl (hb hby dcs13_5) _ ?_
    show Steps p.tables e below (s₁.setTop (mkF m 6 #[.val (.ref a), .val (.int (1 : Int32)), .val (.int (3 : Int32)), .unset, .unset] [(.long x1), (.long x3)])) t
    refine XS.lcmp X0.here hx rfl (hb hby dcs13_6) rfl ?_
    exact ht
  by_cases h1 : x3 < x1
  · have k66 : Kt p e below m (s₁.setTop (entryFrame m #[(.ref a), (.int (1 : Int32)), (.int (3 : Int32))] 5)) s₁ 12 #[.val (.ref a), .val (.int (1 : Int32)), .val (.int (3 : Int32)), .unset, .unset] [(.int (1 : Int32)), (.ref a)] := by
      intro t ht
      refine k65 t ?_
      show Steps p.tables e below (s₁.setTop (mkF m 7 #[.val (.ref a), .val (.int (1 : Int32)), .val (.int (3 : Int32)), .unset, .unset] [(.int (lcmpW x3 x1))])) t
      refine XS.ifNo X0.here hx rfl (hb hby dcs13_7) rfl ((if0 _ _).trans (tlt ((lw_lt _ _).mpr h1)).2.1) ?_
      show Steps p.tables e below (s₁.setTop (mkF m 10 #[.val (.ref a), .val (.int (1 : Int32)), .val (.int (3 : Int32)), .unset, .unset] [])) t
      refine XS.aloadN X0.here hx rfl (hb hby dcs13_10) rfl rfl ?_
      show Steps p.tables e below (s₁.setTop (mkF m 11 #[.val (.ref a), .val (.int (1 : Int32)), .val (.int (3 : Int32)), .unset, .unset] [(.ref a)])) t
      refine XS.iloadN X0.here hx rfl (hb hby dcs13_11) rfl ?_
      exact ht
    obtain ⟨cl67, Ar67, qc67, Sz67, Nn67, Hh67, Gg67⟩ := id V
    have hin67 : ¬ ((1 : Int32) < 0 ∨ cl67.slots.size ≤ ((1 : Int32)).toNatClampNeg) := inb_of Sz67 ⟨by decide, by decide⟩
    have hat67 : cl67.slots[((1 : Int32)).toNatClampNeg]? = some (.long x1) := Hh67.at hin67 rfl
    have k68 : Kt p e below m (s₁.setTop (entryFrame m #[(.ref a), (.int (1 : Int32)), (.int (3 : Int32))] 5)) s₁ 18 #[.val (.ref a), .val (.int (1 : Int32)), .val (.int (3 : Int32)), .val (.long x1), .second] [(.int (3 : Int32)), (.ref a), (.int (1 : Int32)), (.ref a)] := by
      intro t ht
      refine k66 t ?_
      show Steps p.tables e below (s₁.setTop (mkF m 12 #[.val (.ref a), .val (.int (1 : Int32)), .val (.int (3 : Int32)), .unset, .unset] [(.int (1 : Int32)), (.ref a)])) t
      refine X0.laload hx (j := (1 : Int32)) (v := (.long x1)) (by rw [e0]; exact Ar67.1) (State.isArrayOf_alike hZ.alike Ar67.2.1) Ar67.2.2 hin67 hat67 (g := (mkF m 12 #[.val (.ref a), .val (.int (1 : Int32)), .val (.int (3 : Int32)), .unset, .unset] [(.int (1 : Int32)), (.ref a)])) rfl rfl (hb hby dcs13_12) _ ?_
      show Steps p.tables e below (s₁.setTop (mkF m 13 #[.val (.ref a), .val (.int (1 : Int32)), .val (.int (3 : Int32)), .unset, .unset] [(.long x1)])) t
      refine XS.lstoreN X0.here hx rfl (hb hby dcs13_13) rfl (l' := #[.val (.ref a), .val (.int (1 : Int32)), .val (.int (3 : Int32)), .val (.long x1), .second]) rfl ?_
      show Steps p.tables e below (s₁.setTop (mkF m 14 #[.val (.ref a), .val (.int (1 : Int32)), .val (.int (3 : Int32)), .val (.long x1), .second] [])) t
      refine XS.aloadN X0.here hx rfl (hb hby dcs13_14) rfl rfl ?_
      show Steps p.tables e below (s₁.setTop (mkF m 15 #[.val (.ref a), .val (.int (1 : Int32)), .val (.int (3 : Int32)), .val (.long x1), .second] [(.ref a)])) t
      refine XS.iloadN X0.here hx rfl (hb hby dcs13_15) rfl ?_
      show Steps p.tables e below (s₁.setTop (mkF m 16 #[.val (.ref a), .val (.int (1 : Int32)), .val (.int (3 : Int32)), .val (.long x1), .second] [(.int (1 : Int32)), (.ref a)])) t
      refine XS.aloadN X0.here hx rfl (hb hby dcs13_16) rfl rfl ?_
      show Steps p.tables e below (s₁.setTop (mkF m 17 #[.val (.ref a), .val (.int (1 : Int32)), .val (.int (3 : Int32)), .val (.long x1), .second] [(.ref a), (.int (1 : Int32)), (.ref a)])) t
      refine XS.iloadN X0.here hx rfl (hb hby dcs13_17) rfl ?_
      exact ht
    obtain ⟨cl69, Ar69, qc69, Sz69, Nn69, Hh69, Gg69⟩ := id V
    have hin69 : ¬ ((3 : Int32) < 0 ∨ cl69.slots.size ≤ ((3 : Int32)).toNatClampNeg) := inb_of Sz69 ⟨by decide, by decide⟩
    have hat69 : cl69.slots[((3 : Int32)).toNatClampNeg]? = some (.long x3) := Hh69.at hin69 rfl
    have k70 : Kt p e below m (s₁.setTop (entryFrame m #[(.ref a), (.int (1 : Int32)), (.int (3 : Int32))] 5)) s₁ 19 #[.val (.ref a), .val (.int (1 : Int32)), .val (.int (3 : Int32)), .val (.long x1), .second] [(.long x3), (.int (1 : Int32)), (.ref a)] := by
      intro t ht
      refine k68 t ?_
      show Steps p.tables e below (s₁.setTop (mkF m 18 #[.val (.ref a), .val (.int (1 : Int32)), .val (.int (3 : Int32)), .val (.long x1), .second] [(.int (3 : Int32)), (.ref a), (.int (1 : Int32)), (.ref a)])) t
      refine X0.laload hx (j := (3 : Int32)) (v := (.long x3)) (by rw [e0]; exact Ar69.1) (State.isArrayOf_alike hZ.alike Ar69.2.1) Ar69.2.2 hin69 hat69 (g := (mkF m 18 #[.val (.ref a), .val (.int (1 : Int32)), .val (.int (3 : Int32)), .val (.long x1), .second] [(.int (3 : Int32)), (.ref a), (.int (1 : Int32)), (.ref a)])) rfl rfl (hb hby dcs13_18) _ ?_
      exact ht
    obtain ⟨cl71, Ar71, qc71, Sz71, Nn71, Hh71, Gg71⟩ := id V
    have hin71 : ¬ ((1 : Int32) < 0 ∨ cl71.slots.size ≤ ((1 : Int32)).toNatClampNeg) := inb_of Sz71 ⟨by decide, by decide⟩
    obtain ⟨T71, h71, X71, e71, W71, st71⟩ := stJ X0 hx hZ e0 Ar71 (j := (1 : Int32)) hin71 (g := (mkF m 19 #[.val (.ref a), .val (.int (1 : Int32)), .val (.int (3 : Int32)), .val (.long x1), .second] [(.long x3), (.int (1 : Int32)), (.ref a)])) rfl rfl (hb hby dcs13_19)
    have N71 := Fr.snoc X71 N0 g_a
    have f72 : n0 ≤ h71.size := Nat.le_trans Z0 (Keep.of_wr W71).1
    have f73 : Arv Z h71 a k .long (4 : Int32) [(.long x0), (.long x3), (.long x2), (.long x3)] (.long (0 : Int64)) := Arv.set Ar71 qc71 Sz71 Nn71 Hh71 Gg71 rfl W71 1 rfl (Nat.le_of_ble_eq_true rfl)
    have f74 : Keep h0 h71 [a] := K0.wr W71 (Or.inl (List.mem_of_getElem? (i := 0) rfl))
    have k71 : Kt p e below m (s₁.setTop (entryFrame m #[(.ref a), (.int (1 : Int32)), (.int (3 : Int32))] 5)) T71 20 #[.val (.ref a), .val (.int (1 : Int32)), .val (.int (3 : Int32)), .val (.long x1), .second] [] := fun t ht => k70 t (st71 t ht)
    have k75 : Kt p e below m (s₁.setTop (entryFrame m #[(.ref a), (.int (1 : Int32)), (.int (3 : Int32))] 5)) T71 23 #[.val (.ref a), .val (.int (1 : Int32)), .val (.int (3 : Int32)), .val (.long x1), .second] [(.long x1), (.int (3 : Int32)), (.ref a)] := by
      intro t ht
      refine k71 t ?_
      show Steps p.tables e below (T71.setTop (mkF m 20 #[.val (.ref a), .val (.int (1 : Int32)), .val (.int (3 : Int32)), .val (.long x1), .second] [])) t
      refine XS.aloadN X71.here hx rfl (hb hby dcs13_20) rfl rfl ?_
      show Steps p.tables e below (T71.setTop (mkF m 21 #[.val (.ref a), .val (.int (1 : Int32)), .val (.int (3 : Int32)), .val (.long x1), .second] [(.ref a)])) t
      refine XS.iloadN X71.here hx rfl (hb hby dcs13_21) rfl ?_
      show Steps p.tables e below (T71.setTop (mkF m 22 #[.val (.ref a), .val (.int (1 : Int32)), .val (.int (3 : Int32)), .val (.long x1), .second] [(.int (3 : Int32)), (.ref a)])) t
      refine XS.lloadN X71.here hx rfl (hb hby dcs13_22) rfl ?_
      exact ht
    obtain ⟨cl76, Ar76, qc76, Sz76, Nn76, Hh76, Gg76⟩ := id f73
    have hin76 : ¬ ((3 : Int32) < 0 ∨ cl76.slots.size ≤ ((3 : Int32)).toNatClampNeg) := inb_of Sz76 ⟨by decide, by decide⟩
    obtain ⟨T76, h76, X76, e76, W76, st76⟩ := stJ X71 hx hZ e71 Ar76 (j := (3 : Int32)) hin76 (g := (mkF m 23 #[.val (.ref a), .val (.int (1 : Int32)), .val (.int (3 : Int32)), .val (.long x1), .second] [(.long x1), (.int (3 : Int32)), (.ref a)])) rfl rfl (hb hby dcs13_23)
    have N76 := Fr.snoc X76 N71 g_a
    have f77 : n0 ≤ h76.size := Nat.le_trans f72 (Keep.of_wr W76).1
    have f78 : Arv Z h76 a k .long (4 : Int32) [(.long x0), (.long x3), (.long x2), (.long x1)] (.long (0 : Int64)) := Arv.set Ar76 qc76 Sz76 Nn76 Hh76 Gg76 rfl W76 3 rfl (Nat.le_of_ble_eq_true rfl)
    have f79 : Keep h0 h76 [a] := f74.wr W76 (Or.inl (List.mem_of_getElem? (i := 0) rfl))
    have k76 : Kt p e below m (s₁.setTop (entryFrame m #[(.ref a), (.int (1 : Int32)), (.int (3 : Int32))] 5)) T76 24 #[.val (.ref a), .val (.int (1 : Int32)), .val (.int (3 : Int32)), .val (.long x1), .second] [] := fun t ht => k75 t (st76 t ht)
    obtain ⟨fs, hr, hrun, hended, hW, hsame⟩ := X76.leave (v := none) (fun _ => rfl)
    refine ⟨_, _, k76 _ ?_, hrun, hended, _, _, rfl, ?_, ⟨_, rfl⟩, hW, hsame.mono (by decide) (by decide)⟩
    · exact X76.returnOut hx Bd.returns (hb hby dcs13_24) hr
    · show Qcs13 Z a k x0 x1 x2 x3 h0 n0 _ T76.heap _
      rw [e76]
      exact ⟨rfl, N76, f79, by rw [own_lo1 h1, own_hi1 h1]; exact f78⟩
  · have k80 : Kt p e below m (s₁.setTop (entryFrame m #[(.ref a), (.int (1 : Int32)), (.int (3 : Int32))] 5)) s₁ 24 #[.val (.ref a), .val (.int (1 : Int32)), .val (.int (3 : Int32)), .unset, .unset] [] := by
      intro t ht
      refine k65 t ?_
      show Steps p.tables e below (s₁.setTop (mkF m 7 #[.val (.ref a), .val (.int (1 : Int32)), .val (.int (3 : Int32)), .unset, .unset] [(.int (lcmpW x3 x1))])) t
      refine XS.ifYes X0.here hx rfl (pc0 := 7) (pc' := 24) rfl (hb hby dcs13_7) rfl ((if0 _ _).trans (flt (mt (lw_lt _ _).mp h1)).2.1) (by decide) (by decide) ?_
      exact ht
    obtain ⟨fs, hr, hrun, hended, hW, hsame⟩ := X0.leave (v := none) (fun _ => rfl)
    refine ⟨_, _, k80 _ ?_, hrun, hended, _, _, rfl, ?_, ⟨_, rfl⟩, hW, hsame.mono (by decide) (by decide)⟩
    · exact X0.returnOut hx Bd.returns (hb hby dcs13_24) hr
    · show Qcs13 Z a k x0 x1 x2 x3 h0 n0 _ s₁.heap _
      rw [e0]
      exact ⟨rfl, N0, K0, by rw [own_lo0 h1, own_hi0 h1]; exact V⟩
theorem dcs12_0 : decode method_2_code 0 = .ok (.aload_n 0, 1) := by decide +kernel
theorem dcs12_1 : decode method_2_code 1 = .ok (.iload_n 2, 1) := by decide +kernel
theorem dcs12_2 : decode method_2_code 2 = .ok (.laload, 1) := by decide +kernel
theorem dcs12_3 : decode method_2_code 3 = .ok (.aload_n 0, 1) := by decide +kernel
theorem dcs12_4 : decode method_2_code 4 = .ok (.iload_n 1, 1) := by decide +kernel
theorem dcs12_5 : decode method_2_code 5 = .ok (.laload, 1) := by decide +kernel
theorem dcs12_6 : decode method_2_code 6 = .ok (.lcmp, 1) := by decide +kernel
theorem dcs12_7 : decode method_2_code 7 = .ok (.ifCond .ge 17, 3) := by decide +kernel
theorem dcs12_10 : decode method_2_code 10 = .ok (.aload_n 0, 1) := by decide +kernel
theorem dcs12_11 : decode method_2_code 11 = .ok (.iload_n 1, 1) := by decide +kernel
theorem dcs12_12 : decode method_2_code 12 = .ok (.laload, 1) := by decide +kernel
theorem dcs12_13 : decode method_2_code 13 = .ok (.lstore_n 3, 1) := by decide +kernel
theorem dcs12_14 : decode method_2_code 14 = .ok (.aload_n 0, 1) := by decide +kernel
theorem dcs12_15 : decode method_2_code 15 = .ok (.iload_n 1, 1) := by decide +kernel
theorem dcs12_16 : decode method_2_code 16 = .ok (.aload_n 0, 1) := by decide +kernel
theorem dcs12_17 : decode method_2_code 17 = .ok (.iload_n 2, 1) := by decide +kernel
theorem dcs12_18 : decode method_2_code 18 = .ok (.laload, 1) := by decide +kernel
theorem dcs12_19 : decode method_2_code 19 = .ok (.lastore, 1) := by decide +kernel
theorem dcs12_20 : decode method_2_code 20 = .ok (.aload_n 0, 1) := by decide +kernel
theorem dcs12_21 : decode method_2_code 21 = .ok (.iload_n 2, 1) := by decide +kernel
theorem dcs12_22 : decode method_2_code 22 = .ok (.lload_n 3, 1) := by decide +kernel
theorem dcs12_23 : decode method_2_code 23 = .ok (.lastore, 1) := by decide +kernel
theorem dcs12_24 : decode method_2_code 24 = .ok (.return_, 1) := by decide +kernel
theorem pncs12 : plainName "com/example/clearhour/clearhour/market/TimelineIndexFromPinLaw" = true := by first | (simp [plainName, overriddenIn]; done) | decide +kernel
theorem efcs12 (m : MethodId) (a : Addr) : entryFrame m #[(.ref a), (.int (1 : Int32)), (.int (2 : Int32))] 5 = mkF m 0 #[.val (.ref a), .val (.int (1 : Int32)), .val (.int (2 : Int32)), .unset, .unset] [] := by first | (simp [entryFrame, mkF, argsToLocals, Value.category]; done) | rfl
def Qcs12 (Z : State) (a : Addr) (k : ClassId) (x0 : Int64) (x1 : Int64) (x2 : Int64) (x3 : Int64) (h0 : Heap) (n0 : Nat) (v : Option Value) (h : Heap) (L : List Loc) : Prop := v = none ∧ Fr n0 L ∧ Keep h0 h [a] ∧ Arv Z h a k .long (4 : Int32) [(.long x0), (.long (own_lo x1 x2)), (.long (own_hi x1 x2)), (.long x3)] (.long (0 : Int64))
set_option maxRecDepth 65536 in
set_option maxHeartbeats 40000000 in
theorem rmcs12 (l : Launch) (Z : State) (a0 : Array Value) (hw : ∀ d ∈ tables_1, d.before a0 Z = true) (ws : List Jvm.Cond) (a : Addr) (k : ClassId) (x0 : Int64) (x1 : Int64) (x2 : Int64) (x3 : Int64) (h0 : Heap) (n0 : Nat) (Z0 : n0 ≤ h0.size) (V : Arv Z h0 a k .long (4 : Int32) [(.long x0), (.long x1), (.long x2), (.long x3)] (.long (0 : Int64))) (g_a : n0 ≤ a) :
    MetFree l (⟨"com/example/clearhour/clearhour/market/TimelineIndexFromPinLaw", "cs", "([JII)V"⟩ : MethodName) (head1 (Jvm.Cond.code (⟨"com/example/clearhour/clearhour/market/TimelineIndexFromPinLaw", "cs", "([JII)V"⟩ : MethodName) method_2_code 5 none :: ws) ({ frames := 0, cells := 0, slots := 0, locals := 0 } : Room)) (fun gs' U => gs' = #[(.ref a), (.int (1 : Int32)), (.int (2 : Int32))] ∧ Z.Warmed39 U.vm ∧ U.heap = h0) (fun _ _ _ _ _ => True) (fun _ U o U' => ∃ v L, o = .returned v ∧ Qcs12 Z a k x0 x1 x2 x3 h0 n0 v U'.heap L ∧ FrameEnd U o U' L ({ frames := 0, cells := 0, slots := 0, locals := 0 } : Room).cells ({ frames := 0, cells := 0, slots := 0, locals := 0 } : Room).slots) := by
  refine MetFree.of_bodySF (plainFor_of_name pncs12) hisR ?_
  intro p e s m args below meth c s₁ Bd hml0 hP hK
  obtain ⟨rfl, hZ, hh⟩ := hP
  have hx := Bd.exec
  have hby := Bd.bytes
  have hml : c.maxLocals = 5 := hml0
  have hown : s.vm.findClass "com/example/clearhour/clearhour/market/TimelineIndexFromPinLaw" = some m.cls := findClass_of_methodNamed Bd.named
  have hnm := (name_of_methodNamed Bd.named Bd.method).1
  have X0 : Stand p l e ({ frames := 0, cells := 0, slots := 0, locals := 0 } : Room) s m #[(.ref a), (.int (1 : Int32)), (.int (2 : Int32))] below meth c s₁ [] 0 0 := Stand.of_body Bd
  have e0 : s₁.heap = h0 := by rw [← hh, Bd.state]; rfl
  have N0 := Fr.nil n0
  have k0 : Kt p e below m (s₁.setTop (entryFrame m #[(.ref a), (.int (1 : Int32)), (.int (2 : Int32))] 5)) s₁ 0 #[.val (.ref a), .val (.int (1 : Int32)), .val (.int (2 : Int32)), .unset, .unset] [] := fun t ht => castTop (efcs12 m a) ht
  have K0 : Keep h0 h0 [a] := Keep.refl _ _
  have k81 : Kt p e below m (s₁.setTop (entryFrame m #[(.ref a), (.int (1 : Int32)), (.int (2 : Int32))] 5)) s₁ 2 #[.val (.ref a), .val (.int (1 : Int32)), .val (.int (2 : Int32)), .unset, .unset] [(.int (2 : Int32)), (.ref a)] := by
    intro t ht
    refine k0 t ?_
    show Steps p.tables e below (s₁.setTop (mkF m 0 #[.val (.ref a), .val (.int (1 : Int32)), .val (.int (2 : Int32)), .unset, .unset] [])) t
    refine XS.aloadN X0.here hx rfl (hb hby dcs12_0) rfl rfl ?_
    show Steps p.tables e below (s₁.setTop (mkF m 1 #[.val (.ref a), .val (.int (1 : Int32)), .val (.int (2 : Int32)), .unset, .unset] [(.ref a)])) t
    refine XS.iloadN X0.here hx rfl (hb hby dcs12_1) rfl ?_
    exact ht
  obtain ⟨cl82, Ar82, qc82, Sz82, Nn82, Hh82, Gg82⟩ := id V
  have hin82 : ¬ ((2 : Int32) < 0 ∨ cl82.slots.size ≤ ((2 : Int32)).toNatClampNeg) := inb_of Sz82 ⟨by decide, by decide⟩
  have hat82 : cl82.slots[((2 : Int32)).toNatClampNeg]? = some (.long x2) := Hh82.at hin82 rfl
  have k83 : Kt p e below m (s₁.setTop (entryFrame m #[(.ref a), (.int (1 : Int32)), (.int (2 : Int32))] 5)) s₁ 5 #[.val (.ref a), .val (.int (1 : Int32)), .val (.int (2 : Int32)), .unset, .unset] [(.int (1 : Int32)), (.ref a), (.long x2)] := by
    intro t ht
    refine k81 t ?_
    show Steps p.tables e below (s₁.setTop (mkF m 2 #[.val (.ref a), .val (.int (1 : Int32)), .val (.int (2 : Int32)), .unset, .unset] [(.int (2 : Int32)), (.ref a)])) t
    refine X0.laload hx (j := (2 : Int32)) (v := (.long x2)) (by rw [e0]; exact Ar82.1) (State.isArrayOf_alike hZ.alike Ar82.2.1) Ar82.2.2 hin82 hat82 (g := (mkF m 2 #[.val (.ref a), .val (.int (1 : Int32)), .val (.int (2 : Int32)), .unset, .unset] [(.int (2 : Int32)), (.ref a)])) rfl rfl (hb hby dcs12_2) _ ?_
    show Steps p.tables e below (s₁.setTop (mkF m 3 #[.val (.ref a), .val (.int (1 : Int32)), .val (.int (2 : Int32)), .unset, .unset] [(.long x2)])) t
    refine XS.aloadN X0.here hx rfl (hb hby dcs12_3) rfl rfl ?_
    show Steps p.tables e below (s₁.setTop (mkF m 4 #[.val (.ref a), .val (.int (1 : Int32)), .val (.int (2 : Int32)), .unset, .unset] [(.ref a), (.long x2)])) t
    refine XS.iloadN X0.here hx rfl (hb hby dcs12_4) rfl ?_
    exact ht
  obtain ⟨cl84, Ar84, qc84, Sz84, Nn84, Hh84, Gg84⟩ := id V
  have hin84 : ¬ ((1 : Int32) < 0 ∨ cl84.slots.size ≤ ((1 : Int32)).toNatClampNeg) := inb_of Sz84 ⟨by decide, by decide⟩
  have hat84 : cl84.slots[((1 : Int32)).toNatClampNeg]? = some (.long x1) := Hh84.at hin84 rfl
  have k85 : Kt p e below m (s₁.setTop (entryFrame m #[(.ref a), (.int (1 : Int32)), (.int (2 : Int32))] 5)) s₁ 7 #[.val (.ref a), .val (.int (1 : Int32)), .val (.int (2 : Int32)), .unset, .unset] [(.int (lcmpW x2 x1))] := by
    intro t ht
    refine k83 t ?_
    show Steps p.tables e below (s₁.setTop (mkF m 5 #[.val (.ref a), .val (.int (1 : Int32)), .val (.int (2 : Int32)), .unset, .unset] [(.int (1 : Int32)), (.ref a), (.long x2)])) t
    refine X0.laload hx (j := (1 : Int32)) (v := (.long x1)) (by rw [e0]; exact Ar84.1) (State.isArrayOf_alike hZ.alike Ar84.2.1) Ar84.2.2 hin84 hat84 (g := (mkF m 5 #[.val (.ref a), .val (.int (1 : Int32)), .val (.int (2 : Int32)), .unset, .unset] [(.int (1 : Int32)), (.ref a), (.long x2)])) rfl rfl (hb hby dcs12_5) _ ?_
    show Steps p.tables e below (s₁.setTop (mkF m 6 #[.val (.ref a), .val (.int (1 : Int32)), .val (.int (2 : Int32)), .unset, .unset] [(.long x1), (.long x2)])) t
    refine XS.lcmp X0.here hx rfl (hb hby dcs12_6) rfl ?_
    exact ht
  by_cases h1 : x2 < x1
  · have k86 : Kt p e below m (s₁.setTop (entryFrame m #[(.ref a), (.int (1 : Int32)), (.int (2 : Int32))] 5)) s₁ 12 #[.val (.ref a), .val (.int (1 : Int32)), .val (.int (2 : Int32)), .unset, .unset] [(.int (1 : Int32)), (.ref a)] := by
      intro t ht
      refine k85 t ?_
      show Steps p.tables e below (s₁.setTop (mkF m 7 #[.val (.ref a), .val (.int (1 : Int32)), .val (.int (2 : Int32)), .unset, .unset] [(.int (lcmpW x2 x1))])) t
      refine XS.ifNo X0.here hx rfl (hb hby dcs12_7) rfl ((if0 _ _).trans (tlt ((lw_lt _ _).mpr h1)).2.1) ?_
      show Steps p.tables e below (s₁.setTop (mkF m 10 #[.val (.ref a), .val (.int (1 : Int32)), .val (.int (2 : Int32)), .unset, .unset] [])) t
      refine XS.aloadN X0.here hx rfl (hb hby dcs12_10) rfl rfl ?_
      show Steps p.tables e below (s₁.setTop (mkF m 11 #[.val (.ref a), .val (.int (1 : Int32)), .val (.int (2 : Int32)), .unset, .unset] [(.ref a)])) t
      refine XS.iloadN X0.here hx rfl (hb hby dcs12_11) rfl ?_
      exact ht
    obtain ⟨cl87, Ar87, qc87, Sz87, Nn87, Hh87, Gg87⟩ := id V
    have hin87 : ¬ ((1 : Int32) < 0 ∨ cl87.slots.size ≤ ((1 : Int32)).toNatClampNeg) := inb_of Sz87 ⟨by decide, by decide⟩
    have hat87 : cl87.slots[((1 : Int32)).toNatClampNeg]? = some (.long x1) := Hh87.at hin87 rfl
    have k88 : Kt p e below m (s₁.setTop (entryFrame m #[(.ref a), (.int (1 : Int32)), (.int (2 : Int32))] 5)) s₁ 18 #[.val (.ref a), .val (.int (1 : Int32)), .val (.int (2 : Int32)), .val (.long x1), .second] [(.int (2 : Int32)), (.ref a), (.int (1 : Int32)), (.ref a)] := by
      intro t ht
      refine k86 t ?_
      show Steps p.tables e below (s₁.setTop (mkF m 12 #[.val (.ref a), .val (.int (1 : Int32)), .val (.int (2 : Int32)), .unset, .unset] [(.int (1 : Int32)), (.ref a)])) t
      refine X0.laload hx (j := (1 : Int32)) (v := (.long x1)) (by rw [e0]; exact Ar87.1) (State.isArrayOf_alike hZ.alike Ar87.2.1) Ar87.2.2 hin87 hat87 (g := (mkF m 12 #[.val (.ref a), .val (.int (1 : Int32)), .val (.int (2 : Int32)), .unset, .unset] [(.int (1 : Int32)), (.ref a)])) rfl rfl (hb hby dcs12_12) _ ?_
      show Steps p.tables e below (s₁.setTop (mkF m 13 #[.val (.ref a), .val (.int (1 : Int32)), .val (.int (2 : Int32)), .unset, .unset] [(.long x1)])) t
      refine XS.lstoreN X0.here hx rfl (hb hby dcs12_13) rfl (l' := #[.val (.ref a), .val (.int (1 : Int32)), .val (.int (2 : Int32)), .val (.long x1), .second]) rfl ?_
      show Steps p.tables e below (s₁.setTop (mkF m 14 #[.val (.ref a), .val (.int (1 : Int32)), .val (.int (2 : Int32)), .val (.long x1), .second] [])) t
      refine XS.aloadN X0.here hx rfl (hb hby dcs12_14) rfl rfl ?_
      show Steps p.tables e below (s₁.setTop (mkF m 15 #[.val (.ref a), .val (.int (1 : Int32)), .val (.int (2 : Int32)), .val (.long x1), .second] [(.ref a)])) t
      refine XS.iloadN X0.here hx rfl (hb hby dcs12_15) rfl ?_
      show Steps p.tables e below (s₁.setTop (mkF m 16 #[.val (.ref a), .val (.int (1 : Int32)), .val (.int (2 : Int32)), .val (.long x1), .second] [(.int (1 : Int32)), (.ref a)])) t
      refine XS.aloadN X0.here hx rfl (hb hby dcs12_16) rfl rfl ?_
      show Steps p.tables e below (s₁.setTop (mkF m 17 #[.val (.ref a), .val (.int (1 : Int32)), .val (.int (2 : Int32)), .val (.long x1), .second] [(.ref a), (.int (1 : Int32)), (.ref a)])) t
      refine XS.iloadN X0.here hx rfl (hb hby dcs12_17) rfl ?_
      exact ht
    obtain ⟨cl89, Ar89, qc89, Sz89, Nn89, Hh89, Gg89⟩ := id V
    have hin89 : ¬ ((2 : Int32) < 0 ∨ cl89.slots.size ≤ ((2 : Int32)).toNatClampNeg) := inb_of Sz89 ⟨by decide, by decide⟩
    have hat89 : cl89.slots[((2 : Int32)).toNatClampNeg]? = some (.long x2) := Hh89.at hin89 rfl
    have k90 : Kt p e below m (s₁.setTop (entryFrame m #[(.ref a), (.int (1 : Int32)), (.int (2 : Int32))] 5)) s₁ 19 #[.val (.ref a), .val (.int (1 : Int32)), .val (.int (2 : Int32)), .val (.long x1), .second] [(.long x2), (.int (1 : Int32)), (.ref a)] := by
      intro t ht
      refine k88 t ?_
      show Steps p.tables e below (s₁.setTop (mkF m 18 #[.val (.ref a), .val (.int (1 : Int32)), .val (.int (2 : Int32)), .val (.long x1), .second] [(.int (2 : Int32)), (.ref a), (.int (1 : Int32)), (.ref a)])) t
      refine X0.laload hx (j := (2 : Int32)) (v := (.long x2)) (by rw [e0]; exact Ar89.1) (State.isArrayOf_alike hZ.alike Ar89.2.1) Ar89.2.2 hin89 hat89 (g := (mkF m 18 #[.val (.ref a), .val (.int (1 : Int32)), .val (.int (2 : Int32)), .val (.long x1), .second] [(.int (2 : Int32)), (.ref a), (.int (1 : Int32)), (.ref a)])) rfl rfl (hb hby dcs12_18) _ ?_
      exact ht
    obtain ⟨cl91, Ar91, qc91, Sz91, Nn91, Hh91, Gg91⟩ := id V
    have hin91 : ¬ ((1 : Int32) < 0 ∨ cl91.slots.size ≤ ((1 : Int32)).toNatClampNeg) := inb_of Sz91 ⟨by decide, by decide⟩
    obtain ⟨T91, h91, X91, e91, W91, st91⟩ := stJ X0 hx hZ e0 Ar91 (j := (1 : Int32)) hin91 (g := (mkF m 19 #[.val (.ref a), .val (.int (1 : Int32)), .val (.int (2 : Int32)), .val (.long x1), .second] [(.long x2), (.int (1 : Int32)), (.ref a)])) rfl rfl (hb hby dcs12_19)
    have N91 := Fr.snoc X91 N0 g_a
    have f92 : n0 ≤ h91.size := Nat.le_trans Z0 (Keep.of_wr W91).1
    have f93 : Arv Z h91 a k .long (4 : Int32) [(.long x0), (.long x2), (.long x2), (.long x3)] (.long (0 : Int64)) := Arv.set Ar91 qc91 Sz91 Nn91 Hh91 Gg91 rfl W91 1 rfl (Nat.le_of_ble_eq_true rfl)
    have f94 : Keep h0 h91 [a] := K0.wr W91 (Or.inl (List.mem_of_getElem? (i := 0) rfl))
    have k91 : Kt p e below m (s₁.setTop (entryFrame m #[(.ref a), (.int (1 : Int32)), (.int (2 : Int32))] 5)) T91 20 #[.val (.ref a), .val (.int (1 : Int32)), .val (.int (2 : Int32)), .val (.long x1), .second] [] := fun t ht => k90 t (st91 t ht)
    have k95 : Kt p e below m (s₁.setTop (entryFrame m #[(.ref a), (.int (1 : Int32)), (.int (2 : Int32))] 5)) T91 23 #[.val (.ref a), .val (.int (1 : Int32)), .val (.int (2 : Int32)), .val (.long x1), .second] [(.long x1), (.int (2 : Int32)), (.ref a)] := by
      intro t ht
      refine k91 t ?_
      show Steps p.tables e below (T91.setTop (mkF m 20 #[.val (.ref a), .val (.int (1 : Int32)), .val (.int (2 : Int32)), .val (.long x1), .second] [])) t
      refine XS.aloadN X91.here hx rfl (hb hby dcs12_20) rfl rfl ?_
      show Steps p.tables e below (T91.setTop (mkF m 21 #[.val (.ref a), .val (.int (1 : Int32)), .val (.int (2 : Int32)), .val (.long x1), .second] [(.ref a)])) t
      refine XS.iloadN X91.here hx rfl (hb hby dcs12_21) rfl ?_
      show Steps p.tables e below (T91.setTop (mkF m 22 #[.val (.ref a), .val (.int (1 : Int32)), .val (.int (2 : Int32)), .val (.long x1), .second] [(.int (2 : Int32)), (.ref a)])) t
      refine XS.lloadN X91.here hx rfl (hb hby dcs12_22) rfl ?_
      exact ht
    obtain ⟨cl96, Ar96, qc96, Sz96, Nn96, Hh96, Gg96⟩ := id f93
    have hin96 : ¬ ((2 : Int32) < 0 ∨ cl96.slots.size ≤ ((2 : Int32)).toNatClampNeg) := inb_of Sz96 ⟨by decide, by decide⟩
    obtain ⟨T96, h96, X96, e96, W96, st96⟩ := stJ X91 hx hZ e91 Ar96 (j := (2 : Int32)) hin96 (g := (mkF m 23 #[.val (.ref a), .val (.int (1 : Int32)), .val (.int (2 : Int32)), .val (.long x1), .second] [(.long x1), (.int (2 : Int32)), (.ref a)])) rfl rfl (hb hby dcs12_23)
    have N96 := Fr.snoc X96 N91 g_a
    have f97 : n0 ≤ h96.size := Nat.le_trans f92 (Keep.of_wr W96).1
    have f98 : Arv Z h96 a k .long (4 : Int32) [(.long x0), (.long x2), (.long x1), (.long x3)] (.long (0 : Int64)) := Arv.set Ar96 qc96 Sz96 Nn96 Hh96 Gg96 rfl W96 2 rfl (Nat.le_of_ble_eq_true rfl)
    have f99 : Keep h0 h96 [a] := f94.wr W96 (Or.inl (List.mem_of_getElem? (i := 0) rfl))
    have k96 : Kt p e below m (s₁.setTop (entryFrame m #[(.ref a), (.int (1 : Int32)), (.int (2 : Int32))] 5)) T96 24 #[.val (.ref a), .val (.int (1 : Int32)), .val (.int (2 : Int32)), .val (.long x1), .second] [] := fun t ht => k95 t (st96 t ht)
    obtain ⟨fs, hr, hrun, hended, hW, hsame⟩ := X96.leave (v := none) (fun _ => rfl)
    refine ⟨_, _, k96 _ ?_, hrun, hended, _, _, rfl, ?_, ⟨_, rfl⟩, hW, hsame.mono (by decide) (by decide)⟩
    · exact X96.returnOut hx Bd.returns (hb hby dcs12_24) hr
    · show Qcs12 Z a k x0 x1 x2 x3 h0 n0 _ T96.heap _
      rw [e96]
      exact ⟨rfl, N96, f99, by rw [own_lo1 h1, own_hi1 h1]; exact f98⟩
  · have k100 : Kt p e below m (s₁.setTop (entryFrame m #[(.ref a), (.int (1 : Int32)), (.int (2 : Int32))] 5)) s₁ 24 #[.val (.ref a), .val (.int (1 : Int32)), .val (.int (2 : Int32)), .unset, .unset] [] := by
      intro t ht
      refine k85 t ?_
      show Steps p.tables e below (s₁.setTop (mkF m 7 #[.val (.ref a), .val (.int (1 : Int32)), .val (.int (2 : Int32)), .unset, .unset] [(.int (lcmpW x2 x1))])) t
      refine XS.ifYes X0.here hx rfl (pc0 := 7) (pc' := 24) rfl (hb hby dcs12_7) rfl ((if0 _ _).trans (flt (mt (lw_lt _ _).mp h1)).2.1) (by decide) (by decide) ?_
      exact ht
    obtain ⟨fs, hr, hrun, hended, hW, hsame⟩ := X0.leave (v := none) (fun _ => rfl)
    refine ⟨_, _, k100 _ ?_, hrun, hended, _, _, rfl, ?_, ⟨_, rfl⟩, hW, hsame.mono (by decide) (by decide)⟩
    · exact X0.returnOut hx Bd.returns (hb hby dcs12_24) hr
    · show Qcs12 Z a k x0 x1 x2 x3 h0 n0 _ s₁.heap _
      rw [e0]
      exact ⟨rfl, N0, K0, by rw [own_lo0 h1, own_hi0 h1]; exact V⟩
theorem d2_0 : decode prog_61_method_1_code 0 = .ok (.aload_n 0, 1) := by decide +kernel
theorem d2_1 : decode prog_61_method_1_code 1 = .ok (.invokespecial 1, 3) := by decide +kernel
theorem d2_4 : decode prog_61_method_1_code 4 = .ok (.aload_n 0, 1) := by decide +kernel
theorem d2_5 : decode prog_61_method_1_code 5 = .ok (.bipush 16, 2) := by decide +kernel
theorem d2_7 : decode prog_61_method_1_code 7 = .ok (.newarray .long, 2) := by decide +kernel
theorem d2_9 : decode prog_61_method_1_code 9 = .ok (.putfield 9, 3) := by decide +kernel
theorem d2_12 : decode prog_61_method_1_code 12 = .ok (.aload_n 0, 1) := by decide +kernel
theorem d2_13 : decode prog_61_method_1_code 13 = .ok (.bipush 16, 2) := by decide +kernel
theorem d2_15 : decode prog_61_method_1_code 15 = .ok (.anewarray 2, 3) := by decide +kernel
theorem d2_18 : decode prog_61_method_1_code 18 = .ok (.putfield 13, 3) := by decide +kernel
theorem d2_21 : decode prog_61_method_1_code 21 = .ok (.aload_n 0, 1) := by decide +kernel
theorem d2_22 : decode prog_61_method_1_code 22 = .ok (.iconst 1, 1) := by decide +kernel
theorem d2_23 : decode prog_61_method_1_code 23 = .ok (.putfield 17, 3) := by decide +kernel
theorem d2_26 : decode prog_61_method_1_code 26 = .ok (.return_, 1) := by decide +kernel
theorem pn2 : plainName "com/example/clearhour/clearhour/market/Timeline" = true := by first | (simp [plainName, overriddenIn]; done) | decide +kernel
theorem ef2 (m : MethodId) (a : Addr) : entryFrame m #[(.ref a)] 1 = mkF m 0 #[.val (.ref a)] [] := by first | (simp [entryFrame, mkF, argsToLocals, Value.category]; done) | rfl
def Q2 (Z : State) (a : Addr) (h0 : Heap) (n0 : Nat) (v : Option Value) (h : Heap) (L : List Loc) : Prop := v = none ∧ Fr n0 L ∧ ∃ tb vb kt kv, Keep h0 h [a] ∧ h0.size ≤ tb ∧ h0.size ≤ vb ∧ tb ≠ vb ∧ Fld Z h a "com/example/clearhour/clearhour/market/Timeline" "times" "[J" (.ref tb) ∧ Fld Z h a "com/example/clearhour/clearhour/market/Timeline" "values" "[Ljava/lang/Object;" (.ref vb) ∧ Fld Z h a "com/example/clearhour/clearhour/market/Timeline" "size" "I" (.int (0 : Int32)) ∧ Arv Z h tb kt .long (16 : Int32) [(.long (0 : Int64)), (.long (0 : Int64)), (.long (0 : Int64)), (.long (0 : Int64))] (.long (0 : Int64)) ∧ Arv Z h vb kv (.object "java/lang/Object") (16 : Int32) [.null, .null, .null, .null] .null
set_option maxRecDepth 65536 in
set_option maxHeartbeats 40000000 in
theorem rm2 (l : Launch) (Z : State) (a0 : Array Value) (hw : ∀ d ∈ tables_1, d.before a0 Z = true) (ws : List Jvm.Cond) (a : Addr) (h0 : Heap) (n0 : Nat) (Z0 : n0 ≤ h0.size) (E_a : Exa Z h0 a "com/example/clearhour/clearhour/market/Timeline") (F_times : Fld Z h0 a "com/example/clearhour/clearhour/market/Timeline" "times" "[J" .null) (F_values : Fld Z h0 a "com/example/clearhour/clearhour/market/Timeline" "values" "[Ljava/lang/Object;" .null) (F_size : Fld Z h0 a "com/example/clearhour/clearhour/market/Timeline" "size" "I" (.int (0 : Int32))) (F_sorted : Fld Z h0 a "com/example/clearhour/clearhour/market/Timeline" "sorted" "Z" (.int (0 : Int32))) (g_a : n0 ≤ a) :
    MetFree l (⟨"com/example/clearhour/clearhour/market/Timeline", "<init>", "()V"⟩ : MethodName) (head1 (Jvm.Cond.code (⟨"com/example/clearhour/clearhour/market/Timeline", "<init>", "()V"⟩ : MethodName) prog_61_method_1_code 1 none :: ws) ({ frames := 1, cells := 2, slots := 32, locals := 12 } : Room)) (fun gs' U => gs' = #[(.ref a)] ∧ Z.Warmed39 U.vm ∧ U.heap = h0) (fun _ _ _ _ _ => True) (fun _ U o U' => ∃ v L, o = .returned v ∧ Q2 Z a h0 n0 v U'.heap L ∧ FrameEnd U o U' L ({ frames := 1, cells := 2, slots := 32, locals := 12 } : Room).cells ({ frames := 1, cells := 2, slots := 32, locals := 12 } : Room).slots) := by
  refine MetFree.of_bodySF (plainFor_of_name pn2) hisR ?_
  intro p e s m args below meth c s₁ Bd hml0 hP hK
  obtain ⟨rfl, hZ, hh⟩ := hP
  have hx := Bd.exec
  have hby := Bd.bytes
  have hml : c.maxLocals = 1 := hml0
  have hown : s.vm.findClass "com/example/clearhour/clearhour/market/Timeline" = some m.cls := findClass_of_methodNamed Bd.named
  have hnm := (name_of_methodNamed Bd.named Bd.method).1
  have X0 : Stand p l e ({ frames := 1, cells := 2, slots := 32, locals := 12 } : Room) s m #[(.ref a)] below meth c s₁ [] 0 0 := Stand.of_body Bd
  have e0 : s₁.heap = h0 := by rw [← hh, Bd.state]; rfl
  have N0 := Fr.nil n0
  have k0 : Kt p e below m (s₁.setTop (entryFrame m #[(.ref a)] 1)) s₁ 0 #[.val (.ref a)] [] := fun t ht => castTop (ef2 m a) ht
  have K0 : Keep h0 h0 [a] := Keep.refl _ _
  have k101 : Kt p e below m (s₁.setTop (entryFrame m #[(.ref a)] 1)) s₁ 1 #[.val (.ref a)] [(.ref a)] := by
    intro t ht
    refine k0 t ?_
    show Steps p.tables e below (s₁.setTop (mkF m 0 #[.val (.ref a)] [])) t
    refine XS.aloadN X0.here hx rfl (hb hby d2_0) rfl rfl ?_
    exact ht
  obtain ⟨T102, X102, e102, st102⟩ := initO X0 hx hZ hown (hw _ (List.mem_of_getElem? (i := 11) rfl)) (hw _ (List.mem_of_getElem? (i := 12) rfl)) (hw _ (List.mem_of_getElem? (i := 13) rfl)) e0 (g := (mkF m 1 #[.val (.ref a)] [(.ref a)])) rfl (by rw [hml]; rfl) rfl (hb hby d2_1) (by decide) (W := 0) (by show 2 * 0 + _ ≤ _; exact Nat.le_of_eq rfl) (by decide)
  have k102 : Kt p e below m (s₁.setTop (entryFrame m #[(.ref a)] 1)) T102 4 #[.val (.ref a)] [] := fun t ht => k101 t (st102 t ht)
  have k103 : Kt p e below m (s₁.setTop (entryFrame m #[(.ref a)] 1)) T102 7 #[.val (.ref a)] [(.int (16 : Int32)), (.ref a)] := by
    intro t ht
    refine k102 t ?_
    show Steps p.tables e below (T102.setTop (mkF m 4 #[.val (.ref a)] [])) t
    refine XS.aloadN X102.here hx rfl (hb hby d2_4) rfl rfl ?_
    show Steps p.tables e below (T102.setTop (mkF m 5 #[.val (.ref a)] [(.ref a)])) t
    refine XS.bipush X102.here hx rfl (hb hby d2_5) ?_
    exact ht
  obtain ⟨T104, h104, ak104, X104, e104, E104, A104, st104⟩ := newP X102 hx hZ (hw _ (List.mem_of_getElem? (i := 0) rfl)) e102 (g := (mkF m 7 #[.val (.ref a)] [(.int (16 : Int32)), (.ref a)])) rfl (hb hby d2_7) rfl (by decide) (cap := 16) (by decide) (by decide) (by decide) (by decide)
  obtain ⟨tb, q104⟩ : ∃ z, z = h0.size := ⟨_, rfl⟩
  have ne_a_tb : a ≠ tb := by rw [q104]; exact Nat.ne_of_lt E_a.lt
  have g_tb : n0 ≤ tb := by rw [q104]; exact Z0
  have sz_tb : h0.size ≤ tb := by rw [q104]; exact K0.1
  rw [← q104] at A104 st104
  have f105 : n0 ≤ h104.size := Nat.le_trans Z0 E104.1
  have f106 : Exa Z h104 a "com/example/clearhour/clearhour/market/Timeline" := E_a.ext E104
  have f107 : Fld Z h104 a "com/example/clearhour/clearhour/market/Timeline" "times" "[J" .null := F_times.ext E104
  have f108 : Fld Z h104 a "com/example/clearhour/clearhour/market/Timeline" "values" "[Ljava/lang/Object;" .null := F_values.ext E104
  have f109 : Fld Z h104 a "com/example/clearhour/clearhour/market/Timeline" "size" "I" (.int (0 : Int32)) := F_size.ext E104
  have f110 : Fld Z h104 a "com/example/clearhour/clearhour/market/Timeline" "sorted" "Z" (.int (0 : Int32)) := F_sorted.ext E104
  have f111 : Keep h0 h104 [a] := K0.ext E104
  have f104 : Arv Z h104 tb ak104 .long (16 : Int32) [(.long (0 : Int64)), (.long (0 : Int64)), (.long (0 : Int64)), (.long (0 : Int64)), (.long (0 : Int64)), (.long (0 : Int64)), (.long (0 : Int64)), (.long (0 : Int64)), (.long (0 : Int64)), (.long (0 : Int64)), (.long (0 : Int64)), (.long (0 : Int64)), (.long (0 : Int64)), (.long (0 : Int64)), (.long (0 : Int64)), (.long (0 : Int64))] (.long (0 : Int64)) := (Arv.new A104 (by decide)).pad (pad_rep [] (.long (0 : Int64)) 16)
  have k104 : Kt p e below m (s₁.setTop (entryFrame m #[(.ref a)] 1)) T104 9 #[.val (.ref a)] [(.ref tb), (.ref a)] := fun t ht => k103 t (st104 t ht)
  obtain ⟨T112, h112, X112, e112, W112, st112⟩ := putF X104 hx hZ hown (host := "") (Or.inl (hw _ (List.mem_of_getElem? (i := 14) rfl))) Via.refl e104 f107 f106 (Or.inl (hw _ (List.mem_of_getElem? (i := 15) rfl))) (hw _ (List.mem_of_getElem? (i := 6) rfl)) (ty := (.array .long)) (by decide) rfl rfl (g := (mkF m 9 #[.val (.ref a)] [(.ref tb), (.ref a)])) rfl rfl (hb hby d2_9)
  have N112 := Fr.snoc X112 N0 g_a
  have f113 : n0 ≤ h112.size := Nat.le_trans f105 (Keep.of_wr W112).1
  have f114 : Exa Z h112 a "com/example/clearhour/clearhour/market/Timeline" := f106.wr W112
  have f115 : Fld Z h112 a "com/example/clearhour/clearhour/market/Timeline" "times" "[J" (.ref tb) := f107.same W112
  have f116 : Fld Z h112 a "com/example/clearhour/clearhour/market/Timeline" "values" "[Ljava/lang/Object;" .null := f108.other W112 (Or.inr (slot_ne (Or.inl (hw _ (List.mem_of_getElem? (i := 19) rfl))) (Or.inl (hw _ (List.mem_of_getElem? (i := 15) rfl))) (by decide) (t := (.array (.object "java/lang/Object"))) (t' := (.array .long)) (by decide) (by decide)))
  have f117 : Fld Z h112 a "com/example/clearhour/clearhour/market/Timeline" "size" "I" (.int (0 : Int32)) := f109.other W112 (Or.inr (slot_ne (Or.inl (hw _ (List.mem_of_getElem? (i := 28) rfl))) (Or.inl (hw _ (List.mem_of_getElem? (i := 15) rfl))) (by decide) (t := .int) (t' := (.array .long)) (by decide) (by decide)))
  have f118 : Fld Z h112 a "com/example/clearhour/clearhour/market/Timeline" "sorted" "Z" (.int (0 : Int32)) := f110.other W112 (Or.inr (slot_ne (Or.inl (hw _ (List.mem_of_getElem? (i := 21) rfl))) (Or.inl (hw _ (List.mem_of_getElem? (i := 15) rfl))) (by decide) (t := .boolean) (t' := (.array .long)) (by decide) (by decide)))
  have f119 : Keep h0 h112 [a] := f111.wr W112 (Or.inl (List.mem_of_getElem? (i := 0) rfl))
  have f120 : Arv Z h112 tb ak104 .long (16 : Int32) [(.long (0 : Int64)), (.long (0 : Int64)), (.long (0 : Int64)), (.long (0 : Int64)), (.long (0 : Int64)), (.long (0 : Int64)), (.long (0 : Int64)), (.long (0 : Int64)), (.long (0 : Int64)), (.long (0 : Int64)), (.long (0 : Int64)), (.long (0 : Int64)), (.long (0 : Int64)), (.long (0 : Int64)), (.long (0 : Int64)), (.long (0 : Int64))] (.long (0 : Int64)) := f104.other W112 ne_a_tb.symm
  have k112 : Kt p e below m (s₁.setTop (entryFrame m #[(.ref a)] 1)) T112 12 #[.val (.ref a)] [] := fun t ht => k104 t (st112 t ht)
  have k121 : Kt p e below m (s₁.setTop (entryFrame m #[(.ref a)] 1)) T112 15 #[.val (.ref a)] [(.int (16 : Int32)), (.ref a)] := by
    intro t ht
    refine k112 t ?_
    show Steps p.tables e below (T112.setTop (mkF m 12 #[.val (.ref a)] [])) t
    refine XS.aloadN X112.here hx rfl (hb hby d2_12) rfl rfl ?_
    show Steps p.tables e below (T112.setTop (mkF m 13 #[.val (.ref a)] [(.ref a)])) t
    refine XS.bipush X112.here hx rfl (hb hby d2_13) ?_
    exact ht
  obtain ⟨T122, h122, ak122, X122, e122, E122, A122, Ax122, O122, st122⟩ := newRE X112 hx hZ hown (hw _ (List.mem_of_getElem? (i := 16) rfl)) (hw _ (List.mem_of_getElem? (i := 17) rfl)) e112 (g := (mkF m 15 #[.val (.ref a)] [(.int (16 : Int32)), (.ref a)])) rfl (hb hby d2_15) rfl (by decide) (cap := 16) (by decide) (by decide) (by decide) (by decide) (ad := "[Ljava/lang/Object;") (by decide)
  obtain ⟨vb, q122⟩ : ∃ z, z = h112.size := ⟨_, rfl⟩
  have ne_a_vb : a ≠ vb := by rw [q122]; exact Nat.ne_of_lt f114.lt
  have ne_tb_vb : tb ≠ vb := by rw [q122]; exact Nat.ne_of_lt f120.lt
  have g_vb : n0 ≤ vb := by rw [q122]; exact f113
  have sz_vb : h0.size ≤ vb := by rw [q122]; exact f119.1
  rw [← q122] at A122 st122 Ax122
  have f123 : n0 ≤ h122.size := Nat.le_trans f113 E122.1
  have f124 : Exa Z h122 a "com/example/clearhour/clearhour/market/Timeline" := f114.ext E122
  have f125 : Fld Z h122 a "com/example/clearhour/clearhour/market/Timeline" "times" "[J" (.ref tb) := f115.ext E122
  have f126 : Fld Z h122 a "com/example/clearhour/clearhour/market/Timeline" "values" "[Ljava/lang/Object;" .null := f116.ext E122
  have f127 : Fld Z h122 a "com/example/clearhour/clearhour/market/Timeline" "size" "I" (.int (0 : Int32)) := f117.ext E122
  have f128 : Fld Z h122 a "com/example/clearhour/clearhour/market/Timeline" "sorted" "Z" (.int (0 : Int32)) := f118.ext E122
  have f129 : Keep h0 h122 [a] := f119.ext E122
  have f130 : Arv Z h122 tb ak104 .long (16 : Int32) [(.long (0 : Int64)), (.long (0 : Int64)), (.long (0 : Int64)), (.long (0 : Int64)), (.long (0 : Int64)), (.long (0 : Int64)), (.long (0 : Int64)), (.long (0 : Int64)), (.long (0 : Int64)), (.long (0 : Int64)), (.long (0 : Int64)), (.long (0 : Int64)), (.long (0 : Int64)), (.long (0 : Int64)), (.long (0 : Int64)), (.long (0 : Int64))] (.long (0 : Int64)) := f120.ext E122
  have f122 : Arv Z h122 vb ak122 (.object "java/lang/Object") (16 : Int32) [.null, .null, .null, .null, .null, .null, .null, .null, .null, .null, .null, .null, .null, .null, .null, .null] .null := (Arv.new A122 (by decide)).pad (pad_rep [] .null 16)
  have k122 : Kt p e below m (s₁.setTop (entryFrame m #[(.ref a)] 1)) T122 18 #[.val (.ref a)] [(.ref vb), (.ref a)] := fun t ht => k121 t (st122 t ht)
  obtain ⟨T131, h131, X131, e131, W131, st131⟩ := putF X122 hx hZ hown (host := "") (Or.inl (hw _ (List.mem_of_getElem? (i := 18) rfl))) Via.refl e122 f126 f124 (Or.inl (hw _ (List.mem_of_getElem? (i := 19) rfl))) (hw _ (List.mem_of_getElem? (i := 6) rfl)) (ty := (.array (.object "java/lang/Object"))) (by decide) rfl rfl (g := (mkF m 18 #[.val (.ref a)] [(.ref vb), (.ref a)])) rfl rfl (hb hby d2_18)
  have N131 := Fr.snoc X131 N112 g_a
  have f132 : n0 ≤ h131.size := Nat.le_trans f123 (Keep.of_wr W131).1
  have f133 : Exa Z h131 a "com/example/clearhour/clearhour/market/Timeline" := f124.wr W131
  have f134 : Fld Z h131 a "com/example/clearhour/clearhour/market/Timeline" "times" "[J" (.ref tb) := f125.other W131 (Or.inr (slot_ne (Or.inl (hw _ (List.mem_of_getElem? (i := 15) rfl))) (Or.inl (hw _ (List.mem_of_getElem? (i := 19) rfl))) (by decide) (t := (.array .long)) (t' := (.array (.object "java/lang/Object"))) (by decide) (by decide)))
  have f135 : Fld Z h131 a "com/example/clearhour/clearhour/market/Timeline" "values" "[Ljava/lang/Object;" (.ref vb) := f126.same W131
  have f136 : Fld Z h131 a "com/example/clearhour/clearhour/market/Timeline" "size" "I" (.int (0 : Int32)) := f127.other W131 (Or.inr (slot_ne (Or.inl (hw _ (List.mem_of_getElem? (i := 28) rfl))) (Or.inl (hw _ (List.mem_of_getElem? (i := 19) rfl))) (by decide) (t := .int) (t' := (.array (.object "java/lang/Object"))) (by decide) (by decide)))
  have f137 : Fld Z h131 a "com/example/clearhour/clearhour/market/Timeline" "sorted" "Z" (.int (0 : Int32)) := f128.other W131 (Or.inr (slot_ne (Or.inl (hw _ (List.mem_of_getElem? (i := 21) rfl))) (Or.inl (hw _ (List.mem_of_getElem? (i := 19) rfl))) (by decide) (t := .boolean) (t' := (.array (.object "java/lang/Object"))) (by decide) (by decide)))
  have f138 : Keep h0 h131 [a] := f129.wr W131 (Or.inl (List.mem_of_getElem? (i := 0) rfl))
  have f139 : Arv Z h131 tb ak104 .long (16 : Int32) [(.long (0 : Int64)), (.long (0 : Int64)), (.long (0 : Int64)), (.long (0 : Int64)), (.long (0 : Int64)), (.long (0 : Int64)), (.long (0 : Int64)), (.long (0 : Int64)), (.long (0 : Int64)), (.long (0 : Int64)), (.long (0 : Int64)), (.long (0 : Int64)), (.long (0 : Int64)), (.long (0 : Int64)), (.long (0 : Int64)), (.long (0 : Int64))] (.long (0 : Int64)) := f130.other W131 ne_a_tb.symm
  have f140 : Exa Z h131 vb "[Ljava/lang/Object;" := Ax122.wr W131
  have f141 : Arv Z h131 vb ak122 (.object "java/lang/Object") (16 : Int32) [.null, .null, .null, .null, .null, .null, .null, .null, .null, .null, .null, .null, .null, .null, .null, .null] .null := f122.other W131 ne_a_vb.symm
  have k131 : Kt p e below m (s₁.setTop (entryFrame m #[(.ref a)] 1)) T131 21 #[.val (.ref a)] [] := fun t ht => k122 t (st131 t ht)
  have k142 : Kt p e below m (s₁.setTop (entryFrame m #[(.ref a)] 1)) T131 23 #[.val (.ref a)] [(.int (1 : Int32)), (.ref a)] := by
    intro t ht
    refine k131 t ?_
    show Steps p.tables e below (T131.setTop (mkF m 21 #[.val (.ref a)] [])) t
    refine XS.aloadN X131.here hx rfl (hb hby d2_21) rfl rfl ?_
    show Steps p.tables e below (T131.setTop (mkF m 22 #[.val (.ref a)] [(.ref a)])) t
    refine XS.iconst X131.here hx rfl (hb hby d2_22) ?_
    exact ht
  obtain ⟨T143, h143, X143, e143, W143, st143⟩ := putFN X131 hx hZ hown (hw _ (List.mem_of_getElem? (i := 20) rfl)) Via.refl e131 f137 f133 (Or.inl (hw _ (List.mem_of_getElem? (i := 21) rfl))) (hw _ (List.mem_of_getElem? (i := 6) rfl)) (ty := .boolean) (v' := (.int (1 : Int32))) (by decide) rfl rfl (g := (mkF m 23 #[.val (.ref a)] [(.int (1 : Int32)), (.ref a)])) rfl rfl (hb hby d2_23)
  have N143 := Fr.snoc X143 N131 g_a
  have f144 : n0 ≤ h143.size := Nat.le_trans f132 (Keep.of_wr W143).1
  have f145 : Exa Z h143 a "com/example/clearhour/clearhour/market/Timeline" := f133.wr W143
  have f146 : Fld Z h143 a "com/example/clearhour/clearhour/market/Timeline" "times" "[J" (.ref tb) := f134.other W143 (Or.inr (slot_ne (Or.inl (hw _ (List.mem_of_getElem? (i := 15) rfl))) (Or.inl (hw _ (List.mem_of_getElem? (i := 21) rfl))) (by decide) (t := (.array .long)) (t' := .boolean) (by decide) (by decide)))
  have f147 : Fld Z h143 a "com/example/clearhour/clearhour/market/Timeline" "values" "[Ljava/lang/Object;" (.ref vb) := f135.other W143 (Or.inr (slot_ne (Or.inl (hw _ (List.mem_of_getElem? (i := 19) rfl))) (Or.inl (hw _ (List.mem_of_getElem? (i := 21) rfl))) (by decide) (t := (.array (.object "java/lang/Object"))) (t' := .boolean) (by decide) (by decide)))
  have f148 : Fld Z h143 a "com/example/clearhour/clearhour/market/Timeline" "size" "I" (.int (0 : Int32)) := f136.other W143 (Or.inr (slot_ne (Or.inl (hw _ (List.mem_of_getElem? (i := 28) rfl))) (Or.inl (hw _ (List.mem_of_getElem? (i := 21) rfl))) (by decide) (t := .int) (t' := .boolean) (by decide) (by decide)))
  have f149 : Fld Z h143 a "com/example/clearhour/clearhour/market/Timeline" "sorted" "Z" (.int (1 : Int32)) := f137.same W143
  have f150 : Keep h0 h143 [a] := f138.wr W143 (Or.inl (List.mem_of_getElem? (i := 0) rfl))
  have f151 : Arv Z h143 tb ak104 .long (16 : Int32) [(.long (0 : Int64)), (.long (0 : Int64)), (.long (0 : Int64)), (.long (0 : Int64)), (.long (0 : Int64)), (.long (0 : Int64)), (.long (0 : Int64)), (.long (0 : Int64)), (.long (0 : Int64)), (.long (0 : Int64)), (.long (0 : Int64)), (.long (0 : Int64)), (.long (0 : Int64)), (.long (0 : Int64)), (.long (0 : Int64)), (.long (0 : Int64))] (.long (0 : Int64)) := f139.other W143 ne_a_tb.symm
  have f152 : Exa Z h143 vb "[Ljava/lang/Object;" := f140.wr W143
  have f153 : Arv Z h143 vb ak122 (.object "java/lang/Object") (16 : Int32) [.null, .null, .null, .null, .null, .null, .null, .null, .null, .null, .null, .null, .null, .null, .null, .null] .null := f141.other W143 ne_a_vb.symm
  have k143 : Kt p e below m (s₁.setTop (entryFrame m #[(.ref a)] 1)) T143 26 #[.val (.ref a)] [] := fun t ht => k142 t (st143 t ht)
  obtain ⟨fs, hr, hrun, hended, hW, hsame⟩ := X143.leave (v := none) (fun _ => rfl)
  refine ⟨_, _, k143 _ ?_, hrun, hended, _, _, rfl, ?_, ⟨_, rfl⟩, hW, hsame.mono (by decide) (by decide)⟩
  · exact X143.returnOut hx Bd.returns (hb hby d2_26) hr
  · show Q2 Z a h0 n0 _ T143.heap _
    rw [e143]
    exact ⟨rfl, N143, tb, vb, ak104, ak122, f150, sz_tb, sz_vb, ne_tb_vb, f146, f147, f148, f151.pad (fun i => by match i with | 0 => rfl | 1 => rfl | 2 => rfl | 3 => rfl | 4 => rfl | 5 => rfl | 6 => rfl | 7 => rfl | 8 => rfl | 9 => rfl | 10 => rfl | 11 => rfl | 12 => rfl | 13 => rfl | 14 => rfl | 15 => rfl | n + 16 => rfl), f153.pad (fun i => by match i with | 0 => rfl | 1 => rfl | 2 => rfl | 3 => rfl | 4 => rfl | 5 => rfl | 6 => rfl | 7 => rfl | 8 => rfl | 9 => rfl | 10 => rfl | 11 => rfl | 12 => rfl | 13 => rfl | 14 => rfl | 15 => rfl | n + 16 => rfl)⟩
theorem dad0_0 : decode prog_61_method_2_code 0 = .ok (.aload_n 0, 1) := by decide +kernel
theorem dad0_1 : decode prog_61_method_2_code 1 = .ok (.getfield 21, 3) := by decide +kernel
theorem dad0_4 : decode prog_61_method_2_code 4 = .ok (.aload_n 0, 1) := by decide +kernel
theorem dad0_5 : decode prog_61_method_2_code 5 = .ok (.getfield 9, 3) := by decide +kernel
theorem dad0_8 : decode prog_61_method_2_code 8 = .ok (.arraylength, 1) := by decide +kernel
theorem dad0_9 : decode prog_61_method_2_code 9 = .ok (.if_icmp .ne 37, 3) := by decide +kernel
theorem dad0_12 : decode prog_61_method_2_code 12 = .ok (.aload_n 0, 1) := by decide +kernel
theorem dad0_13 : decode prog_61_method_2_code 13 = .ok (.aload_n 0, 1) := by decide +kernel
theorem dad0_14 : decode prog_61_method_2_code 14 = .ok (.getfield 9, 3) := by decide +kernel
theorem dad0_17 : decode prog_61_method_2_code 17 = .ok (.aload_n 0, 1) := by decide +kernel
theorem dad0_18 : decode prog_61_method_2_code 18 = .ok (.getfield 21, 3) := by decide +kernel
theorem dad0_21 : decode prog_61_method_2_code 21 = .ok (.iconst 2, 1) := by decide +kernel
theorem dad0_22 : decode prog_61_method_2_code 22 = .ok (.imul, 1) := by decide +kernel
theorem dad0_23 : decode prog_61_method_2_code 23 = .ok (.invokestatic 25, 3) := by decide +kernel
theorem dad0_26 : decode prog_61_method_2_code 26 = .ok (.putfield 9, 3) := by decide +kernel
theorem dad0_29 : decode prog_61_method_2_code 29 = .ok (.aload_n 0, 1) := by decide +kernel
theorem dad0_30 : decode prog_61_method_2_code 30 = .ok (.aload_n 0, 1) := by decide +kernel
theorem dad0_31 : decode prog_61_method_2_code 31 = .ok (.getfield 13, 3) := by decide +kernel
theorem dad0_34 : decode prog_61_method_2_code 34 = .ok (.aload_n 0, 1) := by decide +kernel
theorem dad0_35 : decode prog_61_method_2_code 35 = .ok (.getfield 21, 3) := by decide +kernel
theorem dad0_38 : decode prog_61_method_2_code 38 = .ok (.iconst 2, 1) := by decide +kernel
theorem dad0_39 : decode prog_61_method_2_code 39 = .ok (.imul, 1) := by decide +kernel
theorem dad0_40 : decode prog_61_method_2_code 40 = .ok (.invokestatic 31, 3) := by decide +kernel
theorem dad0_43 : decode prog_61_method_2_code 43 = .ok (.putfield 13, 3) := by decide +kernel
theorem dad0_46 : decode prog_61_method_2_code 46 = .ok (.aload_n 0, 1) := by decide +kernel
theorem dad0_47 : decode prog_61_method_2_code 47 = .ok (.getfield 21, 3) := by decide +kernel
theorem dad0_50 : decode prog_61_method_2_code 50 = .ok (.ifCond .le 24, 3) := by decide +kernel
theorem dad0_53 : decode prog_61_method_2_code 53 = .ok (.lload_n 1, 1) := by decide +kernel
theorem dad0_54 : decode prog_61_method_2_code 54 = .ok (.aload_n 0, 1) := by decide +kernel
theorem dad0_55 : decode prog_61_method_2_code 55 = .ok (.getfield 9, 3) := by decide +kernel
theorem dad0_58 : decode prog_61_method_2_code 58 = .ok (.aload_n 0, 1) := by decide +kernel
theorem dad0_59 : decode prog_61_method_2_code 59 = .ok (.getfield 21, 3) := by decide +kernel
theorem dad0_62 : decode prog_61_method_2_code 62 = .ok (.iconst 1, 1) := by decide +kernel
theorem dad0_63 : decode prog_61_method_2_code 63 = .ok (.isub, 1) := by decide +kernel
theorem dad0_64 : decode prog_61_method_2_code 64 = .ok (.laload, 1) := by decide +kernel
theorem dad0_65 : decode prog_61_method_2_code 65 = .ok (.lcmp, 1) := by decide +kernel
theorem dad0_66 : decode prog_61_method_2_code 66 = .ok (.ifCond .ge 8, 3) := by decide +kernel
theorem dad0_69 : decode prog_61_method_2_code 69 = .ok (.aload_n 0, 1) := by decide +kernel
theorem dad0_70 : decode prog_61_method_2_code 70 = .ok (.iconst 0, 1) := by decide +kernel
theorem dad0_71 : decode prog_61_method_2_code 71 = .ok (.putfield 17, 3) := by decide +kernel
theorem dad0_74 : decode prog_61_method_2_code 74 = .ok (.aload_n 0, 1) := by decide +kernel
theorem dad0_75 : decode prog_61_method_2_code 75 = .ok (.getfield 9, 3) := by decide +kernel
theorem dad0_78 : decode prog_61_method_2_code 78 = .ok (.aload_n 0, 1) := by decide +kernel
theorem dad0_79 : decode prog_61_method_2_code 79 = .ok (.getfield 21, 3) := by decide +kernel
theorem dad0_82 : decode prog_61_method_2_code 82 = .ok (.lload_n 1, 1) := by decide +kernel
theorem dad0_83 : decode prog_61_method_2_code 83 = .ok (.lastore, 1) := by decide +kernel
theorem dad0_84 : decode prog_61_method_2_code 84 = .ok (.aload_n 0, 1) := by decide +kernel
theorem dad0_85 : decode prog_61_method_2_code 85 = .ok (.getfield 13, 3) := by decide +kernel
theorem dad0_88 : decode prog_61_method_2_code 88 = .ok (.aload_n 0, 1) := by decide +kernel
theorem dad0_89 : decode prog_61_method_2_code 89 = .ok (.getfield 21, 3) := by decide +kernel
theorem dad0_92 : decode prog_61_method_2_code 92 = .ok (.aload_n 3, 1) := by decide +kernel
theorem dad0_93 : decode prog_61_method_2_code 93 = .ok (.aastore, 1) := by decide +kernel
theorem dad0_94 : decode prog_61_method_2_code 94 = .ok (.aload_n 0, 1) := by decide +kernel
theorem dad0_95 : decode prog_61_method_2_code 95 = .ok (.dup, 1) := by decide +kernel
theorem dad0_96 : decode prog_61_method_2_code 96 = .ok (.getfield 21, 3) := by decide +kernel
theorem dad0_99 : decode prog_61_method_2_code 99 = .ok (.iconst 1, 1) := by decide +kernel
theorem dad0_100 : decode prog_61_method_2_code 100 = .ok (.iadd, 1) := by decide +kernel
theorem dad0_101 : decode prog_61_method_2_code 101 = .ok (.putfield 21, 3) := by decide +kernel
theorem dad0_104 : decode prog_61_method_2_code 104 = .ok (.return_, 1) := by decide +kernel
theorem pnad0 : plainName "com/example/clearhour/clearhour/market/Timeline" = true := by first | (simp [plainName, overriddenIn]; done) | decide +kernel
theorem efad0 (m : MethodId) (a : Addr) (q : Int64) : entryFrame m #[(.ref a), (.long q), .null] 4 = mkF m 0 #[.val (.ref a), .val (.long q), .second, .val .null] [] := by first | (simp [entryFrame, mkF, argsToLocals, Value.category]; done) | rfl
def Qad0 (Z : State) (a : Addr) (q : Int64) (tb : Addr) (vb : Addr) (kt : ClassId) (kv : ClassId) (x0 : Int64) (x1 : Int64) (x2 : Int64) (x3 : Int64) (h0 : Heap) (n0 : Nat) (v : Option Value) (h : Heap) (L : List Loc) : Prop := v = none ∧ Fr n0 L ∧ Keep h0 h [a, tb, vb] ∧ Fld Z h a "com/example/clearhour/clearhour/market/Timeline" "times" "[J" (.ref tb) ∧ Fld Z h a "com/example/clearhour/clearhour/market/Timeline" "values" "[Ljava/lang/Object;" (.ref vb) ∧ Fld Z h a "com/example/clearhour/clearhour/market/Timeline" "size" "I" (.int (1 : Int32)) ∧ Arv Z h tb kt .long (16 : Int32) [(.long q), (.long x1), (.long x2), (.long x3)] (.long (0 : Int64)) ∧ Arv Z h vb kv (.object "java/lang/Object") (16 : Int32) [.null, .null, .null, .null] .null
set_option maxRecDepth 65536 in
set_option maxHeartbeats 40000000 in
theorem rmad0 (l : Launch) (Z : State) (a0 : Array Value) (hw : ∀ d ∈ tables_1, d.before a0 Z = true) (ws : List Jvm.Cond) (a : Addr) (q : Int64) (tb : Addr) (vb : Addr) (kt : ClassId) (kv : ClassId) (x0 : Int64) (x1 : Int64) (x2 : Int64) (x3 : Int64) (h0 : Heap) (n0 : Nat) (Z0 : n0 ≤ h0.size) (E_a : Exa Z h0 a "com/example/clearhour/clearhour/market/Timeline") (F_times : Fld Z h0 a "com/example/clearhour/clearhour/market/Timeline" "times" "[J" (.ref tb)) (F_values : Fld Z h0 a "com/example/clearhour/clearhour/market/Timeline" "values" "[Ljava/lang/Object;" (.ref vb)) (F_size : Fld Z h0 a "com/example/clearhour/clearhour/market/Timeline" "size" "I" (.int (0 : Int32))) (V_t : Arv Z h0 tb kt .long (16 : Int32) [(.long x0), (.long x1), (.long x2), (.long x3)] (.long (0 : Int64))) (V_v : Arv Z h0 vb kv (.object "java/lang/Object") (16 : Int32) [.null, .null, .null, .null] .null) (ne_a_tb : a ≠ tb) (ne_a_vb : a ≠ vb) (ne_tb_vb : tb ≠ vb) (g_a : n0 ≤ a) (g_tb : n0 ≤ tb) (g_vb : n0 ≤ vb) :
    MetFree l (⟨"com/example/clearhour/clearhour/market/Timeline", "add", "(JLjava/lang/Object;)V"⟩ : MethodName) (head1 (Jvm.Cond.code (⟨"com/example/clearhour/clearhour/market/Timeline", "add", "(JLjava/lang/Object;)V"⟩ : MethodName) prog_61_method_2_code 4 none :: ws) ({ frames := 0, cells := 0, slots := 0, locals := 0 } : Room)) (fun gs' U => gs' = #[(.ref a), (.long q), .null] ∧ Z.Warmed39 U.vm ∧ U.heap = h0) (fun _ _ _ _ _ => True) (fun _ U o U' => ∃ v L, o = .returned v ∧ Qad0 Z a q tb vb kt kv x0 x1 x2 x3 h0 n0 v U'.heap L ∧ FrameEnd U o U' L ({ frames := 0, cells := 0, slots := 0, locals := 0 } : Room).cells ({ frames := 0, cells := 0, slots := 0, locals := 0 } : Room).slots) := by
  refine MetFree.of_bodySF (plainFor_of_name pnad0) hisR ?_
  intro p e s m args below meth c s₁ Bd hml0 hP hK
  obtain ⟨rfl, hZ, hh⟩ := hP
  have hx := Bd.exec
  have hby := Bd.bytes
  have hml : c.maxLocals = 4 := hml0
  have hown : s.vm.findClass "com/example/clearhour/clearhour/market/Timeline" = some m.cls := findClass_of_methodNamed Bd.named
  have hnm := (name_of_methodNamed Bd.named Bd.method).1
  have X0 : Stand p l e ({ frames := 0, cells := 0, slots := 0, locals := 0 } : Room) s m #[(.ref a), (.long q), .null] below meth c s₁ [] 0 0 := Stand.of_body Bd
  have e0 : s₁.heap = h0 := by rw [← hh, Bd.state]; rfl
  have N0 := Fr.nil n0
  have k0 : Kt p e below m (s₁.setTop (entryFrame m #[(.ref a), (.long q), .null] 4)) s₁ 0 #[.val (.ref a), .val (.long q), .second, .val .null] [] := fun t ht => castTop (efad0 m a q) ht
  have K0 : Keep h0 h0 [a, tb, vb] := Keep.refl _ _
  have k154 : Kt p e below m (s₁.setTop (entryFrame m #[(.ref a), (.long q), .null] 4)) s₁ 1 #[.val (.ref a), .val (.long q), .second, .val .null] [(.ref a)] := by
    intro t ht
    refine k0 t ?_
    show Steps p.tables e below (s₁.setTop (mkF m 0 #[.val (.ref a), .val (.long q), .second, .val .null] [])) t
    refine XS.aloadN X0.here hx rfl (hb hby dad0_0) rfl rfl ?_
    exact ht
  obtain ⟨T155, X155, e155, st155⟩ := getF X0 hx hZ hown (host := "") (Or.inl (hw _ (List.mem_of_getElem? (i := 27) rfl))) Via.refl e0 F_size (g := (mkF m 1 #[.val (.ref a), .val (.long q), .second, .val .null] [(.ref a)])) rfl rfl (hb hby dad0_1)
  have k155 : Kt p e below m (s₁.setTop (entryFrame m #[(.ref a), (.long q), .null] 4)) T155 4 #[.val (.ref a), .val (.long q), .second, .val .null] [(.int (0 : Int32))] := fun t ht => k154 t (st155 t ht)
  have k156 : Kt p e below m (s₁.setTop (entryFrame m #[(.ref a), (.long q), .null] 4)) T155 5 #[.val (.ref a), .val (.long q), .second, .val .null] [(.ref a), (.int (0 : Int32))] := by
    intro t ht
    refine k155 t ?_
    show Steps p.tables e below (T155.setTop (mkF m 4 #[.val (.ref a), .val (.long q), .second, .val .null] [(.int (0 : Int32))])) t
    refine XS.aloadN X155.here hx rfl (hb hby dad0_4) rfl rfl ?_
    exact ht
  obtain ⟨T157, X157, e157, st157⟩ := getF X155 hx hZ hown (host := "") (Or.inl (hw _ (List.mem_of_getElem? (i := 14) rfl))) Via.refl e155 F_times (g := (mkF m 5 #[.val (.ref a), .val (.long q), .second, .val .null] [(.ref a), (.int (0 : Int32))])) rfl rfl (hb hby dad0_5)
  have k157 : Kt p e below m (s₁.setTop (entryFrame m #[(.ref a), (.long q), .null] 4)) T157 8 #[.val (.ref a), .val (.long q), .second, .val .null] [(.ref tb), (.int (0 : Int32))] := fun t ht => k156 t (st157 t ht)
  obtain ⟨cl158, Ar158, qc158, Sz158, Nn158, Hh158, Gg158⟩ := id V_t
  have k159 : Kt p e below m (s₁.setTop (entryFrame m #[(.ref a), (.long q), .null] 4)) T157 47 #[.val (.ref a), .val (.long q), .second, .val .null] [(.ref a)] := by
    intro t ht
    refine k157 t ?_
    show Steps p.tables e below (T157.setTop (mkF m 8 #[.val (.ref a), .val (.long q), .second, .val .null] [(.ref tb), (.int (0 : Int32))])) t
    refine X157.arraylength hx (by rw [e157]; exact Ar158.1) (State.isArrayOf_alike hZ.alike Ar158.2.1) (g := (mkF m 8 #[.val (.ref a), .val (.long q), .second, .val .null] [(.ref tb), (.int (0 : Int32))])) rfl rfl (hb hby dad0_8) _ ?_
    rw [len_of Sz158 Nn158]
    show Steps p.tables e below (T157.setTop (mkF m 9 #[.val (.ref a), .val (.long q), .second, .val .null] [(.int (16 : Int32)), (.int (0 : Int32))])) t
    refine XS.icmpYes X157.here hx rfl (pc0 := 9) (pc' := 46) rfl (hb hby dad0_9) rfl (feq (by decide)).2 (by decide) (by decide) ?_
    show Steps p.tables e below (T157.setTop (mkF m 46 #[.val (.ref a), .val (.long q), .second, .val .null] [])) t
    refine XS.aloadN X157.here hx rfl (hb hby dad0_46) rfl rfl ?_
    exact ht
  obtain ⟨T160, X160, e160, st160⟩ := getF X157 hx hZ hown (host := "") (Or.inl (hw _ (List.mem_of_getElem? (i := 27) rfl))) Via.refl e157 F_size (g := (mkF m 47 #[.val (.ref a), .val (.long q), .second, .val .null] [(.ref a)])) rfl rfl (hb hby dad0_47)
  have k160 : Kt p e below m (s₁.setTop (entryFrame m #[(.ref a), (.long q), .null] 4)) T160 50 #[.val (.ref a), .val (.long q), .second, .val .null] [(.int (0 : Int32))] := fun t ht => k159 t (st160 t ht)
  have k161 : Kt p e below m (s₁.setTop (entryFrame m #[(.ref a), (.long q), .null] 4)) T160 75 #[.val (.ref a), .val (.long q), .second, .val .null] [(.ref a)] := by
    intro t ht
    refine k160 t ?_
    show Steps p.tables e below (T160.setTop (mkF m 50 #[.val (.ref a), .val (.long q), .second, .val .null] [(.int (0 : Int32))])) t
    refine XS.ifYes X160.here hx rfl (pc0 := 50) (pc' := 74) rfl (hb hby dad0_50) rfl ((if0 _ _).trans (flt (by decide)).2.2.2) (by decide) (by decide) ?_
    show Steps p.tables e below (T160.setTop (mkF m 74 #[.val (.ref a), .val (.long q), .second, .val .null] [])) t
    refine XS.aloadN X160.here hx rfl (hb hby dad0_74) rfl rfl ?_
    exact ht
  obtain ⟨T162, X162, e162, st162⟩ := getF X160 hx hZ hown (host := "") (Or.inl (hw _ (List.mem_of_getElem? (i := 14) rfl))) Via.refl e160 F_times (g := (mkF m 75 #[.val (.ref a), .val (.long q), .second, .val .null] [(.ref a)])) rfl rfl (hb hby dad0_75)
  have k162 : Kt p e below m (s₁.setTop (entryFrame m #[(.ref a), (.long q), .null] 4)) T162 78 #[.val (.ref a), .val (.long q), .second, .val .null] [(.ref tb)] := fun t ht => k161 t (st162 t ht)
  have k163 : Kt p e below m (s₁.setTop (entryFrame m #[(.ref a), (.long q), .null] 4)) T162 79 #[.val (.ref a), .val (.long q), .second, .val .null] [(.ref a), (.ref tb)] := by
    intro t ht
    refine k162 t ?_
    show Steps p.tables e below (T162.setTop (mkF m 78 #[.val (.ref a), .val (.long q), .second, .val .null] [(.ref tb)])) t
    refine XS.aloadN X162.here hx rfl (hb hby dad0_78) rfl rfl ?_
    exact ht
  obtain ⟨T164, X164, e164, st164⟩ := getF X162 hx hZ hown (host := "") (Or.inl (hw _ (List.mem_of_getElem? (i := 27) rfl))) Via.refl e162 F_size (g := (mkF m 79 #[.val (.ref a), .val (.long q), .second, .val .null] [(.ref a), (.ref tb)])) rfl rfl (hb hby dad0_79)
  have k164 : Kt p e below m (s₁.setTop (entryFrame m #[(.ref a), (.long q), .null] 4)) T164 82 #[.val (.ref a), .val (.long q), .second, .val .null] [(.int (0 : Int32)), (.ref tb)] := fun t ht => k163 t (st164 t ht)
  have k165 : Kt p e below m (s₁.setTop (entryFrame m #[(.ref a), (.long q), .null] 4)) T164 83 #[.val (.ref a), .val (.long q), .second, .val .null] [(.long q), (.int (0 : Int32)), (.ref tb)] := by
    intro t ht
    refine k164 t ?_
    show Steps p.tables e below (T164.setTop (mkF m 82 #[.val (.ref a), .val (.long q), .second, .val .null] [(.int (0 : Int32)), (.ref tb)])) t
    refine XS.lloadN X164.here hx rfl (hb hby dad0_82) rfl ?_
    exact ht
  obtain ⟨cl166, Ar166, qc166, Sz166, Nn166, Hh166, Gg166⟩ := id V_t
  have hin166 : ¬ ((0 : Int32) < 0 ∨ cl166.slots.size ≤ ((0 : Int32)).toNatClampNeg) := inb_of Sz166 ⟨by decide, by decide⟩
  obtain ⟨T166, h166, X166, e166, W166, st166⟩ := stJ X164 hx hZ e164 Ar166 (j := (0 : Int32)) hin166 (g := (mkF m 83 #[.val (.ref a), .val (.long q), .second, .val .null] [(.long q), (.int (0 : Int32)), (.ref tb)])) rfl rfl (hb hby dad0_83)
  have N166 := Fr.snoc X166 N0 g_tb
  have f167 : n0 ≤ h166.size := Nat.le_trans Z0 (Keep.of_wr W166).1
  have f168 : Exa Z h166 a "com/example/clearhour/clearhour/market/Timeline" := E_a.wr W166
  have f169 : Fld Z h166 a "com/example/clearhour/clearhour/market/Timeline" "times" "[J" (.ref tb) := F_times.other W166 (Or.inl ne_a_tb)
  have f170 : Fld Z h166 a "com/example/clearhour/clearhour/market/Timeline" "values" "[Ljava/lang/Object;" (.ref vb) := F_values.other W166 (Or.inl ne_a_tb)
  have f171 : Fld Z h166 a "com/example/clearhour/clearhour/market/Timeline" "size" "I" (.int (0 : Int32)) := F_size.other W166 (Or.inl ne_a_tb)
  have f172 : Arv Z h166 tb kt .long (16 : Int32) [(.long q), (.long x1), (.long x2), (.long x3)] (.long (0 : Int64)) := Arv.set Ar166 qc166 Sz166 Nn166 Hh166 Gg166 rfl W166 0 rfl (Nat.le_of_ble_eq_true rfl)
  have f173 : Arv Z h166 vb kv (.object "java/lang/Object") (16 : Int32) [.null, .null, .null, .null] .null := V_v.other W166 ne_tb_vb.symm
  have f174 : Keep h0 h166 [a, tb, vb] := K0.wr W166 (Or.inl (List.mem_of_getElem? (i := 1) rfl))
  have k166 : Kt p e below m (s₁.setTop (entryFrame m #[(.ref a), (.long q), .null] 4)) T166 84 #[.val (.ref a), .val (.long q), .second, .val .null] [] := fun t ht => k165 t (st166 t ht)
  have k175 : Kt p e below m (s₁.setTop (entryFrame m #[(.ref a), (.long q), .null] 4)) T166 85 #[.val (.ref a), .val (.long q), .second, .val .null] [(.ref a)] := by
    intro t ht
    refine k166 t ?_
    show Steps p.tables e below (T166.setTop (mkF m 84 #[.val (.ref a), .val (.long q), .second, .val .null] [])) t
    refine XS.aloadN X166.here hx rfl (hb hby dad0_84) rfl rfl ?_
    exact ht
  obtain ⟨T176, X176, e176, st176⟩ := getF X166 hx hZ hown (host := "") (Or.inl (hw _ (List.mem_of_getElem? (i := 18) rfl))) Via.refl e166 f170 (g := (mkF m 85 #[.val (.ref a), .val (.long q), .second, .val .null] [(.ref a)])) rfl rfl (hb hby dad0_85)
  have k176 : Kt p e below m (s₁.setTop (entryFrame m #[(.ref a), (.long q), .null] 4)) T176 88 #[.val (.ref a), .val (.long q), .second, .val .null] [(.ref vb)] := fun t ht => k175 t (st176 t ht)
  have k177 : Kt p e below m (s₁.setTop (entryFrame m #[(.ref a), (.long q), .null] 4)) T176 89 #[.val (.ref a), .val (.long q), .second, .val .null] [(.ref a), (.ref vb)] := by
    intro t ht
    refine k176 t ?_
    show Steps p.tables e below (T176.setTop (mkF m 88 #[.val (.ref a), .val (.long q), .second, .val .null] [(.ref vb)])) t
    refine XS.aloadN X176.here hx rfl (hb hby dad0_88) rfl rfl ?_
    exact ht
  obtain ⟨T178, X178, e178, st178⟩ := getF X176 hx hZ hown (host := "") (Or.inl (hw _ (List.mem_of_getElem? (i := 27) rfl))) Via.refl e176 f171 (g := (mkF m 89 #[.val (.ref a), .val (.long q), .second, .val .null] [(.ref a), (.ref vb)])) rfl rfl (hb hby dad0_89)
  have k178 : Kt p e below m (s₁.setTop (entryFrame m #[(.ref a), (.long q), .null] 4)) T178 92 #[.val (.ref a), .val (.long q), .second, .val .null] [(.int (0 : Int32)), (.ref vb)] := fun t ht => k177 t (st178 t ht)
  have k179 : Kt p e below m (s₁.setTop (entryFrame m #[(.ref a), (.long q), .null] 4)) T178 93 #[.val (.ref a), .val (.long q), .second, .val .null] [.null, (.int (0 : Int32)), (.ref vb)] := by
    intro t ht
    refine k178 t ?_
    show Steps p.tables e below (T178.setTop (mkF m 92 #[.val (.ref a), .val (.long q), .second, .val .null] [(.int (0 : Int32)), (.ref vb)])) t
    refine XS.aloadN X178.here hx rfl (hb hby dad0_92) rfl rfl ?_
    exact ht
  obtain ⟨cl180, Ar180, qc180, Sz180, Nn180, Hh180, Gg180⟩ := id f173
  have hin180 : ¬ ((0 : Int32) < 0 ∨ cl180.slots.size ≤ ((0 : Int32)).toNatClampNeg) := inb_of Sz180 ⟨by decide, by decide⟩
  obtain ⟨T180, h180, X180, e180, W180, st180⟩ := stR X178 hx hZ e178 Ar180 (j := (0 : Int32)) hin180 rfl (Or.inl rfl) (g := (mkF m 93 #[.val (.ref a), .val (.long q), .second, .val .null] [.null, (.int (0 : Int32)), (.ref vb)])) rfl rfl (hb hby dad0_93)
  have N180 := Fr.snoc X180 N166 g_vb
  have f181 : n0 ≤ h180.size := Nat.le_trans f167 (Keep.of_wr W180).1
  have f182 : Exa Z h180 a "com/example/clearhour/clearhour/market/Timeline" := f168.wr W180
  have f183 : Fld Z h180 a "com/example/clearhour/clearhour/market/Timeline" "times" "[J" (.ref tb) := f169.other W180 (Or.inl ne_a_vb)
  have f184 : Fld Z h180 a "com/example/clearhour/clearhour/market/Timeline" "values" "[Ljava/lang/Object;" (.ref vb) := f170.other W180 (Or.inl ne_a_vb)
  have f185 : Fld Z h180 a "com/example/clearhour/clearhour/market/Timeline" "size" "I" (.int (0 : Int32)) := f171.other W180 (Or.inl ne_a_vb)
  have f186 : Arv Z h180 tb kt .long (16 : Int32) [(.long q), (.long x1), (.long x2), (.long x3)] (.long (0 : Int64)) := f172.other W180 ne_tb_vb
  have f187 : Arv Z h180 vb kv (.object "java/lang/Object") (16 : Int32) [.null, .null, .null, .null] .null := Arv.set Ar180 qc180 Sz180 Nn180 Hh180 Gg180 rfl W180 0 rfl (Nat.le_of_ble_eq_true rfl)
  have f188 : Keep h0 h180 [a, tb, vb] := f174.wr W180 (Or.inl (List.mem_of_getElem? (i := 2) rfl))
  have k180 : Kt p e below m (s₁.setTop (entryFrame m #[(.ref a), (.long q), .null] 4)) T180 94 #[.val (.ref a), .val (.long q), .second, .val .null] [] := fun t ht => k179 t (st180 t ht)
  have k189 : Kt p e below m (s₁.setTop (entryFrame m #[(.ref a), (.long q), .null] 4)) T180 96 #[.val (.ref a), .val (.long q), .second, .val .null] [(.ref a), (.ref a)] := by
    intro t ht
    refine k180 t ?_
    show Steps p.tables e below (T180.setTop (mkF m 94 #[.val (.ref a), .val (.long q), .second, .val .null] [])) t
    refine XS.aloadN X180.here hx rfl (hb hby dad0_94) rfl rfl ?_
    show Steps p.tables e below (T180.setTop (mkF m 95 #[.val (.ref a), .val (.long q), .second, .val .null] [(.ref a)])) t
    refine XS.dup X180.here hx rfl (hb hby dad0_95) rfl rfl ?_
    exact ht
  obtain ⟨T190, X190, e190, st190⟩ := getF X180 hx hZ hown (host := "") (Or.inl (hw _ (List.mem_of_getElem? (i := 27) rfl))) Via.refl e180 f185 (g := (mkF m 96 #[.val (.ref a), .val (.long q), .second, .val .null] [(.ref a), (.ref a)])) rfl rfl (hb hby dad0_96)
  have k190 : Kt p e below m (s₁.setTop (entryFrame m #[(.ref a), (.long q), .null] 4)) T190 99 #[.val (.ref a), .val (.long q), .second, .val .null] [(.int (0 : Int32)), (.ref a)] := fun t ht => k189 t (st190 t ht)
  have k191 : Kt p e below m (s₁.setTop (entryFrame m #[(.ref a), (.long q), .null] 4)) T190 101 #[.val (.ref a), .val (.long q), .second, .val .null] [(.int ((0 : Int32) + (1 : Int32))), (.ref a)] := by
    intro t ht
    refine k190 t ?_
    show Steps p.tables e below (T190.setTop (mkF m 99 #[.val (.ref a), .val (.long q), .second, .val .null] [(.int (0 : Int32)), (.ref a)])) t
    refine XS.iconst X190.here hx rfl (hb hby dad0_99) ?_
    show Steps p.tables e below (T190.setTop (mkF m 100 #[.val (.ref a), .val (.long q), .second, .val .null] [(.int (1 : Int32)), (.int (0 : Int32)), (.ref a)])) t
    refine XS.iadd X190.here hx rfl (hb hby dad0_100) rfl ?_
    exact ht
  have q192 : ((0 : Int32) + (1 : Int32)) = (1 : Int32) := by decide
  rw [q192] at k191
  obtain ⟨T193, h193, X193, e193, W193, st193⟩ := putF X190 hx hZ hown (host := "") (Or.inl (hw _ (List.mem_of_getElem? (i := 27) rfl))) Via.refl e190 f185 f182 (Or.inl (hw _ (List.mem_of_getElem? (i := 28) rfl))) (hw _ (List.mem_of_getElem? (i := 6) rfl)) (ty := .int) (by decide) rfl rfl (g := (mkF m 101 #[.val (.ref a), .val (.long q), .second, .val .null] [(.int (1 : Int32)), (.ref a)])) rfl rfl (hb hby dad0_101)
  have N193 := Fr.snoc X193 N180 g_a
  have f194 : n0 ≤ h193.size := Nat.le_trans f181 (Keep.of_wr W193).1
  have f195 : Exa Z h193 a "com/example/clearhour/clearhour/market/Timeline" := f182.wr W193
  have f196 : Fld Z h193 a "com/example/clearhour/clearhour/market/Timeline" "times" "[J" (.ref tb) := f183.other W193 (Or.inr (slot_ne (Or.inl (hw _ (List.mem_of_getElem? (i := 15) rfl))) (Or.inl (hw _ (List.mem_of_getElem? (i := 28) rfl))) (by decide) (t := (.array .long)) (t' := .int) (by decide) (by decide)))
  have f197 : Fld Z h193 a "com/example/clearhour/clearhour/market/Timeline" "values" "[Ljava/lang/Object;" (.ref vb) := f184.other W193 (Or.inr (slot_ne (Or.inl (hw _ (List.mem_of_getElem? (i := 19) rfl))) (Or.inl (hw _ (List.mem_of_getElem? (i := 28) rfl))) (by decide) (t := (.array (.object "java/lang/Object"))) (t' := .int) (by decide) (by decide)))
  have f198 : Fld Z h193 a "com/example/clearhour/clearhour/market/Timeline" "size" "I" (.int (1 : Int32)) := f185.same W193
  have f199 : Arv Z h193 tb kt .long (16 : Int32) [(.long q), (.long x1), (.long x2), (.long x3)] (.long (0 : Int64)) := f186.other W193 ne_a_tb.symm
  have f200 : Arv Z h193 vb kv (.object "java/lang/Object") (16 : Int32) [.null, .null, .null, .null] .null := f187.other W193 ne_a_vb.symm
  have f201 : Keep h0 h193 [a, tb, vb] := f188.wr W193 (Or.inl (List.mem_of_getElem? (i := 0) rfl))
  have k193 : Kt p e below m (s₁.setTop (entryFrame m #[(.ref a), (.long q), .null] 4)) T193 104 #[.val (.ref a), .val (.long q), .second, .val .null] [] := fun t ht => k191 t (st193 t ht)
  obtain ⟨fs, hr, hrun, hended, hW, hsame⟩ := X193.leave (v := none) (fun _ => rfl)
  refine ⟨_, _, k193 _ ?_, hrun, hended, _, _, rfl, ?_, ⟨_, rfl⟩, hW, hsame.mono (by decide) (by decide)⟩
  · exact X193.returnOut hx Bd.returns (hb hby dad0_104) hr
  · show Qad0 Z a q tb vb kt kv x0 x1 x2 x3 h0 n0 _ T193.heap _
    rw [e193]
    exact ⟨rfl, N193, f201, f196, f197, f198, f199, f200⟩
theorem dad1_0 : decode prog_61_method_2_code 0 = .ok (.aload_n 0, 1) := by decide +kernel
theorem dad1_1 : decode prog_61_method_2_code 1 = .ok (.getfield 21, 3) := by decide +kernel
theorem dad1_4 : decode prog_61_method_2_code 4 = .ok (.aload_n 0, 1) := by decide +kernel
theorem dad1_5 : decode prog_61_method_2_code 5 = .ok (.getfield 9, 3) := by decide +kernel
theorem dad1_8 : decode prog_61_method_2_code 8 = .ok (.arraylength, 1) := by decide +kernel
theorem dad1_9 : decode prog_61_method_2_code 9 = .ok (.if_icmp .ne 37, 3) := by decide +kernel
theorem dad1_12 : decode prog_61_method_2_code 12 = .ok (.aload_n 0, 1) := by decide +kernel
theorem dad1_13 : decode prog_61_method_2_code 13 = .ok (.aload_n 0, 1) := by decide +kernel
theorem dad1_14 : decode prog_61_method_2_code 14 = .ok (.getfield 9, 3) := by decide +kernel
theorem dad1_17 : decode prog_61_method_2_code 17 = .ok (.aload_n 0, 1) := by decide +kernel
theorem dad1_18 : decode prog_61_method_2_code 18 = .ok (.getfield 21, 3) := by decide +kernel
theorem dad1_21 : decode prog_61_method_2_code 21 = .ok (.iconst 2, 1) := by decide +kernel
theorem dad1_22 : decode prog_61_method_2_code 22 = .ok (.imul, 1) := by decide +kernel
theorem dad1_23 : decode prog_61_method_2_code 23 = .ok (.invokestatic 25, 3) := by decide +kernel
theorem dad1_26 : decode prog_61_method_2_code 26 = .ok (.putfield 9, 3) := by decide +kernel
theorem dad1_29 : decode prog_61_method_2_code 29 = .ok (.aload_n 0, 1) := by decide +kernel
theorem dad1_30 : decode prog_61_method_2_code 30 = .ok (.aload_n 0, 1) := by decide +kernel
theorem dad1_31 : decode prog_61_method_2_code 31 = .ok (.getfield 13, 3) := by decide +kernel
theorem dad1_34 : decode prog_61_method_2_code 34 = .ok (.aload_n 0, 1) := by decide +kernel
theorem dad1_35 : decode prog_61_method_2_code 35 = .ok (.getfield 21, 3) := by decide +kernel
theorem dad1_38 : decode prog_61_method_2_code 38 = .ok (.iconst 2, 1) := by decide +kernel
theorem dad1_39 : decode prog_61_method_2_code 39 = .ok (.imul, 1) := by decide +kernel
theorem dad1_40 : decode prog_61_method_2_code 40 = .ok (.invokestatic 31, 3) := by decide +kernel
theorem dad1_43 : decode prog_61_method_2_code 43 = .ok (.putfield 13, 3) := by decide +kernel
theorem dad1_46 : decode prog_61_method_2_code 46 = .ok (.aload_n 0, 1) := by decide +kernel
theorem dad1_47 : decode prog_61_method_2_code 47 = .ok (.getfield 21, 3) := by decide +kernel
theorem dad1_50 : decode prog_61_method_2_code 50 = .ok (.ifCond .le 24, 3) := by decide +kernel
theorem dad1_53 : decode prog_61_method_2_code 53 = .ok (.lload_n 1, 1) := by decide +kernel
theorem dad1_54 : decode prog_61_method_2_code 54 = .ok (.aload_n 0, 1) := by decide +kernel
theorem dad1_55 : decode prog_61_method_2_code 55 = .ok (.getfield 9, 3) := by decide +kernel
theorem dad1_58 : decode prog_61_method_2_code 58 = .ok (.aload_n 0, 1) := by decide +kernel
theorem dad1_59 : decode prog_61_method_2_code 59 = .ok (.getfield 21, 3) := by decide +kernel
theorem dad1_62 : decode prog_61_method_2_code 62 = .ok (.iconst 1, 1) := by decide +kernel
theorem dad1_63 : decode prog_61_method_2_code 63 = .ok (.isub, 1) := by decide +kernel
theorem dad1_64 : decode prog_61_method_2_code 64 = .ok (.laload, 1) := by decide +kernel
theorem dad1_65 : decode prog_61_method_2_code 65 = .ok (.lcmp, 1) := by decide +kernel
theorem dad1_66 : decode prog_61_method_2_code 66 = .ok (.ifCond .ge 8, 3) := by decide +kernel
theorem dad1_69 : decode prog_61_method_2_code 69 = .ok (.aload_n 0, 1) := by decide +kernel
theorem dad1_70 : decode prog_61_method_2_code 70 = .ok (.iconst 0, 1) := by decide +kernel
theorem dad1_71 : decode prog_61_method_2_code 71 = .ok (.putfield 17, 3) := by decide +kernel
theorem dad1_74 : decode prog_61_method_2_code 74 = .ok (.aload_n 0, 1) := by decide +kernel
theorem dad1_75 : decode prog_61_method_2_code 75 = .ok (.getfield 9, 3) := by decide +kernel
theorem dad1_78 : decode prog_61_method_2_code 78 = .ok (.aload_n 0, 1) := by decide +kernel
theorem dad1_79 : decode prog_61_method_2_code 79 = .ok (.getfield 21, 3) := by decide +kernel
theorem dad1_82 : decode prog_61_method_2_code 82 = .ok (.lload_n 1, 1) := by decide +kernel
theorem dad1_83 : decode prog_61_method_2_code 83 = .ok (.lastore, 1) := by decide +kernel
theorem dad1_84 : decode prog_61_method_2_code 84 = .ok (.aload_n 0, 1) := by decide +kernel
theorem dad1_85 : decode prog_61_method_2_code 85 = .ok (.getfield 13, 3) := by decide +kernel
theorem dad1_88 : decode prog_61_method_2_code 88 = .ok (.aload_n 0, 1) := by decide +kernel
theorem dad1_89 : decode prog_61_method_2_code 89 = .ok (.getfield 21, 3) := by decide +kernel
theorem dad1_92 : decode prog_61_method_2_code 92 = .ok (.aload_n 3, 1) := by decide +kernel
theorem dad1_93 : decode prog_61_method_2_code 93 = .ok (.aastore, 1) := by decide +kernel
theorem dad1_94 : decode prog_61_method_2_code 94 = .ok (.aload_n 0, 1) := by decide +kernel
theorem dad1_95 : decode prog_61_method_2_code 95 = .ok (.dup, 1) := by decide +kernel
theorem dad1_96 : decode prog_61_method_2_code 96 = .ok (.getfield 21, 3) := by decide +kernel
theorem dad1_99 : decode prog_61_method_2_code 99 = .ok (.iconst 1, 1) := by decide +kernel
theorem dad1_100 : decode prog_61_method_2_code 100 = .ok (.iadd, 1) := by decide +kernel
theorem dad1_101 : decode prog_61_method_2_code 101 = .ok (.putfield 21, 3) := by decide +kernel
theorem dad1_104 : decode prog_61_method_2_code 104 = .ok (.return_, 1) := by decide +kernel
theorem pnad1 : plainName "com/example/clearhour/clearhour/market/Timeline" = true := by first | (simp [plainName, overriddenIn]; done) | decide +kernel
theorem efad1 (m : MethodId) (a : Addr) (q : Int64) : entryFrame m #[(.ref a), (.long q), .null] 4 = mkF m 0 #[.val (.ref a), .val (.long q), .second, .val .null] [] := by first | (simp [entryFrame, mkF, argsToLocals, Value.category]; done) | rfl
def Qad1 (Z : State) (a : Addr) (q : Int64) (tb : Addr) (vb : Addr) (kt : ClassId) (kv : ClassId) (x0 : Int64) (x1 : Int64) (x2 : Int64) (x3 : Int64) (h0 : Heap) (n0 : Nat) (v : Option Value) (h : Heap) (L : List Loc) : Prop := v = none ∧ Fr n0 L ∧ Keep h0 h [a, tb, vb] ∧ Fld Z h a "com/example/clearhour/clearhour/market/Timeline" "times" "[J" (.ref tb) ∧ Fld Z h a "com/example/clearhour/clearhour/market/Timeline" "values" "[Ljava/lang/Object;" (.ref vb) ∧ Fld Z h a "com/example/clearhour/clearhour/market/Timeline" "size" "I" (.int (2 : Int32)) ∧ Arv Z h tb kt .long (16 : Int32) [(.long x0), (.long q), (.long x2), (.long x3)] (.long (0 : Int64)) ∧ Arv Z h vb kv (.object "java/lang/Object") (16 : Int32) [.null, .null, .null, .null] .null
set_option maxRecDepth 65536 in
set_option maxHeartbeats 40000000 in
theorem rmad1 (l : Launch) (Z : State) (a0 : Array Value) (hw : ∀ d ∈ tables_1, d.before a0 Z = true) (ws : List Jvm.Cond) (a : Addr) (q : Int64) (tb : Addr) (vb : Addr) (kt : ClassId) (kv : ClassId) (x0 : Int64) (x1 : Int64) (x2 : Int64) (x3 : Int64) (h0 : Heap) (n0 : Nat) (Z0 : n0 ≤ h0.size) (E_a : Exa Z h0 a "com/example/clearhour/clearhour/market/Timeline") (F_times : Fld Z h0 a "com/example/clearhour/clearhour/market/Timeline" "times" "[J" (.ref tb)) (F_values : Fld Z h0 a "com/example/clearhour/clearhour/market/Timeline" "values" "[Ljava/lang/Object;" (.ref vb)) (F_size : Fld Z h0 a "com/example/clearhour/clearhour/market/Timeline" "size" "I" (.int (1 : Int32))) (V_t : Arv Z h0 tb kt .long (16 : Int32) [(.long x0), (.long x1), (.long x2), (.long x3)] (.long (0 : Int64))) (V_v : Arv Z h0 vb kv (.object "java/lang/Object") (16 : Int32) [.null, .null, .null, .null] .null) (ne_a_tb : a ≠ tb) (ne_a_vb : a ≠ vb) (ne_tb_vb : tb ≠ vb) (g_a : n0 ≤ a) (g_tb : n0 ≤ tb) (g_vb : n0 ≤ vb) (hord : ¬ q < x0) :
    MetFree l (⟨"com/example/clearhour/clearhour/market/Timeline", "add", "(JLjava/lang/Object;)V"⟩ : MethodName) (head1 (Jvm.Cond.code (⟨"com/example/clearhour/clearhour/market/Timeline", "add", "(JLjava/lang/Object;)V"⟩ : MethodName) prog_61_method_2_code 4 none :: ws) ({ frames := 0, cells := 0, slots := 0, locals := 0 } : Room)) (fun gs' U => gs' = #[(.ref a), (.long q), .null] ∧ Z.Warmed39 U.vm ∧ U.heap = h0) (fun _ _ _ _ _ => True) (fun _ U o U' => ∃ v L, o = .returned v ∧ Qad1 Z a q tb vb kt kv x0 x1 x2 x3 h0 n0 v U'.heap L ∧ FrameEnd U o U' L ({ frames := 0, cells := 0, slots := 0, locals := 0 } : Room).cells ({ frames := 0, cells := 0, slots := 0, locals := 0 } : Room).slots) := by
  refine MetFree.of_bodySF (plainFor_of_name pnad1) hisR ?_
  intro p e s m args below meth c s₁ Bd hml0 hP hK
  obtain ⟨rfl, hZ, hh⟩ := hP
  have hx := Bd.exec
  have hby := Bd.bytes
  have hml : c.maxLocals = 4 := hml0
  have hown : s.vm.findClass "com/example/clearhour/clearhour/market/Timeline" = some m.cls := findClass_of_methodNamed Bd.named
  have hnm := (name_of_methodNamed Bd.named Bd.method).1
  have X0 : Stand p l e ({ frames := 0, cells := 0, slots := 0, locals := 0 } : Room) s m #[(.ref a), (.long q), .null] below meth c s₁ [] 0 0 := Stand.of_body Bd
  have e0 : s₁.heap = h0 := by rw [← hh, Bd.state]; rfl
  have N0 := Fr.nil n0
  have k0 : Kt p e below m (s₁.setTop (entryFrame m #[(.ref a), (.long q), .null] 4)) s₁ 0 #[.val (.ref a), .val (.long q), .second, .val .null] [] := fun t ht => castTop (efad1 m a q) ht
  have K0 : Keep h0 h0 [a, tb, vb] := Keep.refl _ _
  have k202 : Kt p e below m (s₁.setTop (entryFrame m #[(.ref a), (.long q), .null] 4)) s₁ 1 #[.val (.ref a), .val (.long q), .second, .val .null] [(.ref a)] := by
    intro t ht
    refine k0 t ?_
    show Steps p.tables e below (s₁.setTop (mkF m 0 #[.val (.ref a), .val (.long q), .second, .val .null] [])) t
    refine XS.aloadN X0.here hx rfl (hb hby dad1_0) rfl rfl ?_
    exact ht
  obtain ⟨T203, X203, e203, st203⟩ := getF X0 hx hZ hown (host := "") (Or.inl (hw _ (List.mem_of_getElem? (i := 27) rfl))) Via.refl e0 F_size (g := (mkF m 1 #[.val (.ref a), .val (.long q), .second, .val .null] [(.ref a)])) rfl rfl (hb hby dad1_1)
  have k203 : Kt p e below m (s₁.setTop (entryFrame m #[(.ref a), (.long q), .null] 4)) T203 4 #[.val (.ref a), .val (.long q), .second, .val .null] [(.int (1 : Int32))] := fun t ht => k202 t (st203 t ht)
  have k204 : Kt p e below m (s₁.setTop (entryFrame m #[(.ref a), (.long q), .null] 4)) T203 5 #[.val (.ref a), .val (.long q), .second, .val .null] [(.ref a), (.int (1 : Int32))] := by
    intro t ht
    refine k203 t ?_
    show Steps p.tables e below (T203.setTop (mkF m 4 #[.val (.ref a), .val (.long q), .second, .val .null] [(.int (1 : Int32))])) t
    refine XS.aloadN X203.here hx rfl (hb hby dad1_4) rfl rfl ?_
    exact ht
  obtain ⟨T205, X205, e205, st205⟩ := getF X203 hx hZ hown (host := "") (Or.inl (hw _ (List.mem_of_getElem? (i := 14) rfl))) Via.refl e203 F_times (g := (mkF m 5 #[.val (.ref a), .val (.long q), .second, .val .null] [(.ref a), (.int (1 : Int32))])) rfl rfl (hb hby dad1_5)
  have k205 : Kt p e below m (s₁.setTop (entryFrame m #[(.ref a), (.long q), .null] 4)) T205 8 #[.val (.ref a), .val (.long q), .second, .val .null] [(.ref tb), (.int (1 : Int32))] := fun t ht => k204 t (st205 t ht)
  obtain ⟨cl206, Ar206, qc206, Sz206, Nn206, Hh206, Gg206⟩ := id V_t
  have k207 : Kt p e below m (s₁.setTop (entryFrame m #[(.ref a), (.long q), .null] 4)) T205 47 #[.val (.ref a), .val (.long q), .second, .val .null] [(.ref a)] := by
    intro t ht
    refine k205 t ?_
    show Steps p.tables e below (T205.setTop (mkF m 8 #[.val (.ref a), .val (.long q), .second, .val .null] [(.ref tb), (.int (1 : Int32))])) t
    refine X205.arraylength hx (by rw [e205]; exact Ar206.1) (State.isArrayOf_alike hZ.alike Ar206.2.1) (g := (mkF m 8 #[.val (.ref a), .val (.long q), .second, .val .null] [(.ref tb), (.int (1 : Int32))])) rfl rfl (hb hby dad1_8) _ ?_
    rw [len_of Sz206 Nn206]
    show Steps p.tables e below (T205.setTop (mkF m 9 #[.val (.ref a), .val (.long q), .second, .val .null] [(.int (16 : Int32)), (.int (1 : Int32))])) t
    refine XS.icmpYes X205.here hx rfl (pc0 := 9) (pc' := 46) rfl (hb hby dad1_9) rfl (feq (by decide)).2 (by decide) (by decide) ?_
    show Steps p.tables e below (T205.setTop (mkF m 46 #[.val (.ref a), .val (.long q), .second, .val .null] [])) t
    refine XS.aloadN X205.here hx rfl (hb hby dad1_46) rfl rfl ?_
    exact ht
  obtain ⟨T208, X208, e208, st208⟩ := getF X205 hx hZ hown (host := "") (Or.inl (hw _ (List.mem_of_getElem? (i := 27) rfl))) Via.refl e205 F_size (g := (mkF m 47 #[.val (.ref a), .val (.long q), .second, .val .null] [(.ref a)])) rfl rfl (hb hby dad1_47)
  have k208 : Kt p e below m (s₁.setTop (entryFrame m #[(.ref a), (.long q), .null] 4)) T208 50 #[.val (.ref a), .val (.long q), .second, .val .null] [(.int (1 : Int32))] := fun t ht => k207 t (st208 t ht)
  have k209 : Kt p e below m (s₁.setTop (entryFrame m #[(.ref a), (.long q), .null] 4)) T208 55 #[.val (.ref a), .val (.long q), .second, .val .null] [(.ref a), (.long q)] := by
    intro t ht
    refine k208 t ?_
    show Steps p.tables e below (T208.setTop (mkF m 50 #[.val (.ref a), .val (.long q), .second, .val .null] [(.int (1 : Int32))])) t
    refine XS.ifNo X208.here hx rfl (hb hby dad1_50) rfl ((if0 _ _).trans (tlt (by decide)).2.2.2) ?_
    show Steps p.tables e below (T208.setTop (mkF m 53 #[.val (.ref a), .val (.long q), .second, .val .null] [])) t
    refine XS.lloadN X208.here hx rfl (hb hby dad1_53) rfl ?_
    show Steps p.tables e below (T208.setTop (mkF m 54 #[.val (.ref a), .val (.long q), .second, .val .null] [(.long q)])) t
    refine XS.aloadN X208.here hx rfl (hb hby dad1_54) rfl rfl ?_
    exact ht
  obtain ⟨T210, X210, e210, st210⟩ := getF X208 hx hZ hown (host := "") (Or.inl (hw _ (List.mem_of_getElem? (i := 14) rfl))) Via.refl e208 F_times (g := (mkF m 55 #[.val (.ref a), .val (.long q), .second, .val .null] [(.ref a), (.long q)])) rfl rfl (hb hby dad1_55)
  have k210 : Kt p e below m (s₁.setTop (entryFrame m #[(.ref a), (.long q), .null] 4)) T210 58 #[.val (.ref a), .val (.long q), .second, .val .null] [(.ref tb), (.long q)] := fun t ht => k209 t (st210 t ht)
  have k211 : Kt p e below m (s₁.setTop (entryFrame m #[(.ref a), (.long q), .null] 4)) T210 59 #[.val (.ref a), .val (.long q), .second, .val .null] [(.ref a), (.ref tb), (.long q)] := by
    intro t ht
    refine k210 t ?_
    show Steps p.tables e below (T210.setTop (mkF m 58 #[.val (.ref a), .val (.long q), .second, .val .null] [(.ref tb), (.long q)])) t
    refine XS.aloadN X210.here hx rfl (hb hby dad1_58) rfl rfl ?_
    exact ht
  obtain ⟨T212, X212, e212, st212⟩ := getF X210 hx hZ hown (host := "") (Or.inl (hw _ (List.mem_of_getElem? (i := 27) rfl))) Via.refl e210 F_size (g := (mkF m 59 #[.val (.ref a), .val (.long q), .second, .val .null] [(.ref a), (.ref tb), (.long q)])) rfl rfl (hb hby dad1_59)
  have k212 : Kt p e below m (s₁.setTop (entryFrame m #[(.ref a), (.long q), .null] 4)) T212 62 #[.val (.ref a), .val (.long q), .second, .val .null] [(.int (1 : Int32)), (.ref tb), (.long q)] := fun t ht => k211 t (st212 t ht)
  have k213 : Kt p e below m (s₁.setTop (entryFrame m #[(.ref a), (.long q), .null] 4)) T212 64 #[.val (.ref a), .val (.long q), .second, .val .null] [(.int ((1 : Int32) - (1 : Int32))), (.ref tb), (.long q)] := by
    intro t ht
    refine k212 t ?_
    show Steps p.tables e below (T212.setTop (mkF m 62 #[.val (.ref a), .val (.long q), .second, .val .null] [(.int (1 : Int32)), (.ref tb), (.long q)])) t
    refine XS.iconst X212.here hx rfl (hb hby dad1_62) ?_
    show Steps p.tables e below (T212.setTop (mkF m 63 #[.val (.ref a), .val (.long q), .second, .val .null] [(.int (1 : Int32)), (.int (1 : Int32)), (.ref tb), (.long q)])) t
    refine XS.isub X212.here hx rfl (hb hby dad1_63) rfl ?_
    exact ht
  have q214 : ((1 : Int32) - (1 : Int32)) = (0 : Int32) := by decide
  rw [q214] at k213
  obtain ⟨cl215, Ar215, qc215, Sz215, Nn215, Hh215, Gg215⟩ := id V_t
  have hin215 : ¬ ((0 : Int32) < 0 ∨ cl215.slots.size ≤ ((0 : Int32)).toNatClampNeg) := inb_of Sz215 ⟨by decide, by decide⟩
  have hat215 : cl215.slots[((0 : Int32)).toNatClampNeg]? = some (.long x0) := Hh215.at hin215 rfl
  have k216 : Kt p e below m (s₁.setTop (entryFrame m #[(.ref a), (.long q), .null] 4)) T212 75 #[.val (.ref a), .val (.long q), .second, .val .null] [(.ref a)] := by
    intro t ht
    refine k213 t ?_
    show Steps p.tables e below (T212.setTop (mkF m 64 #[.val (.ref a), .val (.long q), .second, .val .null] [(.int (0 : Int32)), (.ref tb), (.long q)])) t
    refine X212.laload hx (j := (0 : Int32)) (v := (.long x0)) (by rw [e212]; exact Ar215.1) (State.isArrayOf_alike hZ.alike Ar215.2.1) Ar215.2.2 hin215 hat215 (g := (mkF m 64 #[.val (.ref a), .val (.long q), .second, .val .null] [(.int (0 : Int32)), (.ref tb), (.long q)])) rfl rfl (hb hby dad1_64) _ ?_
    show Steps p.tables e below (T212.setTop (mkF m 65 #[.val (.ref a), .val (.long q), .second, .val .null] [(.long x0), (.long q)])) t
    refine XS.lcmp X212.here hx rfl (hb hby dad1_65) rfl ?_
    show Steps p.tables e below (T212.setTop (mkF m 66 #[.val (.ref a), .val (.long q), .second, .val .null] [(.int (lcmpW q x0))])) t
    refine XS.ifYes X212.here hx rfl (pc0 := 66) (pc' := 74) rfl (hb hby dad1_66) rfl ((if0 _ _).trans (flt (mt (lw_lt _ _).mp hord)).2.1) (by decide) (by decide) ?_
    show Steps p.tables e below (T212.setTop (mkF m 74 #[.val (.ref a), .val (.long q), .second, .val .null] [])) t
    refine XS.aloadN X212.here hx rfl (hb hby dad1_74) rfl rfl ?_
    exact ht
  obtain ⟨T217, X217, e217, st217⟩ := getF X212 hx hZ hown (host := "") (Or.inl (hw _ (List.mem_of_getElem? (i := 14) rfl))) Via.refl e212 F_times (g := (mkF m 75 #[.val (.ref a), .val (.long q), .second, .val .null] [(.ref a)])) rfl rfl (hb hby dad1_75)
  have k217 : Kt p e below m (s₁.setTop (entryFrame m #[(.ref a), (.long q), .null] 4)) T217 78 #[.val (.ref a), .val (.long q), .second, .val .null] [(.ref tb)] := fun t ht => k216 t (st217 t ht)
  have k218 : Kt p e below m (s₁.setTop (entryFrame m #[(.ref a), (.long q), .null] 4)) T217 79 #[.val (.ref a), .val (.long q), .second, .val .null] [(.ref a), (.ref tb)] := by
    intro t ht
    refine k217 t ?_
    show Steps p.tables e below (T217.setTop (mkF m 78 #[.val (.ref a), .val (.long q), .second, .val .null] [(.ref tb)])) t
    refine XS.aloadN X217.here hx rfl (hb hby dad1_78) rfl rfl ?_
    exact ht
  obtain ⟨T219, X219, e219, st219⟩ := getF X217 hx hZ hown (host := "") (Or.inl (hw _ (List.mem_of_getElem? (i := 27) rfl))) Via.refl e217 F_size (g := (mkF m 79 #[.val (.ref a), .val (.long q), .second, .val .null] [(.ref a), (.ref tb)])) rfl rfl (hb hby dad1_79)
  have k219 : Kt p e below m (s₁.setTop (entryFrame m #[(.ref a), (.long q), .null] 4)) T219 82 #[.val (.ref a), .val (.long q), .second, .val .null] [(.int (1 : Int32)), (.ref tb)] := fun t ht => k218 t (st219 t ht)
  have k220 : Kt p e below m (s₁.setTop (entryFrame m #[(.ref a), (.long q), .null] 4)) T219 83 #[.val (.ref a), .val (.long q), .second, .val .null] [(.long q), (.int (1 : Int32)), (.ref tb)] := by
    intro t ht
    refine k219 t ?_
    show Steps p.tables e below (T219.setTop (mkF m 82 #[.val (.ref a), .val (.long q), .second, .val .null] [(.int (1 : Int32)), (.ref tb)])) t
    refine XS.lloadN X219.here hx rfl (hb hby dad1_82) rfl ?_
    exact ht
  obtain ⟨cl221, Ar221, qc221, Sz221, Nn221, Hh221, Gg221⟩ := id V_t
  have hin221 : ¬ ((1 : Int32) < 0 ∨ cl221.slots.size ≤ ((1 : Int32)).toNatClampNeg) := inb_of Sz221 ⟨by decide, by decide⟩
  obtain ⟨T221, h221, X221, e221, W221, st221⟩ := stJ X219 hx hZ e219 Ar221 (j := (1 : Int32)) hin221 (g := (mkF m 83 #[.val (.ref a), .val (.long q), .second, .val .null] [(.long q), (.int (1 : Int32)), (.ref tb)])) rfl rfl (hb hby dad1_83)
  have N221 := Fr.snoc X221 N0 g_tb
  have f222 : n0 ≤ h221.size := Nat.le_trans Z0 (Keep.of_wr W221).1
  have f223 : Exa Z h221 a "com/example/clearhour/clearhour/market/Timeline" := E_a.wr W221
  have f224 : Fld Z h221 a "com/example/clearhour/clearhour/market/Timeline" "times" "[J" (.ref tb) := F_times.other W221 (Or.inl ne_a_tb)
  have f225 : Fld Z h221 a "com/example/clearhour/clearhour/market/Timeline" "values" "[Ljava/lang/Object;" (.ref vb) := F_values.other W221 (Or.inl ne_a_tb)
  have f226 : Fld Z h221 a "com/example/clearhour/clearhour/market/Timeline" "size" "I" (.int (1 : Int32)) := F_size.other W221 (Or.inl ne_a_tb)
  have f227 : Arv Z h221 tb kt .long (16 : Int32) [(.long x0), (.long q), (.long x2), (.long x3)] (.long (0 : Int64)) := Arv.set Ar221 qc221 Sz221 Nn221 Hh221 Gg221 rfl W221 1 rfl (Nat.le_of_ble_eq_true rfl)
  have f228 : Arv Z h221 vb kv (.object "java/lang/Object") (16 : Int32) [.null, .null, .null, .null] .null := V_v.other W221 ne_tb_vb.symm
  have f229 : Keep h0 h221 [a, tb, vb] := K0.wr W221 (Or.inl (List.mem_of_getElem? (i := 1) rfl))
  have k221 : Kt p e below m (s₁.setTop (entryFrame m #[(.ref a), (.long q), .null] 4)) T221 84 #[.val (.ref a), .val (.long q), .second, .val .null] [] := fun t ht => k220 t (st221 t ht)
  have k230 : Kt p e below m (s₁.setTop (entryFrame m #[(.ref a), (.long q), .null] 4)) T221 85 #[.val (.ref a), .val (.long q), .second, .val .null] [(.ref a)] := by
    intro t ht
    refine k221 t ?_
    show Steps p.tables e below (T221.setTop (mkF m 84 #[.val (.ref a), .val (.long q), .second, .val .null] [])) t
    refine XS.aloadN X221.here hx rfl (hb hby dad1_84) rfl rfl ?_
    exact ht
  obtain ⟨T231, X231, e231, st231⟩ := getF X221 hx hZ hown (host := "") (Or.inl (hw _ (List.mem_of_getElem? (i := 18) rfl))) Via.refl e221 f225 (g := (mkF m 85 #[.val (.ref a), .val (.long q), .second, .val .null] [(.ref a)])) rfl rfl (hb hby dad1_85)
  have k231 : Kt p e below m (s₁.setTop (entryFrame m #[(.ref a), (.long q), .null] 4)) T231 88 #[.val (.ref a), .val (.long q), .second, .val .null] [(.ref vb)] := fun t ht => k230 t (st231 t ht)
  have k232 : Kt p e below m (s₁.setTop (entryFrame m #[(.ref a), (.long q), .null] 4)) T231 89 #[.val (.ref a), .val (.long q), .second, .val .null] [(.ref a), (.ref vb)] := by
    intro t ht
    refine k231 t ?_
    show Steps p.tables e below (T231.setTop (mkF m 88 #[.val (.ref a), .val (.long q), .second, .val .null] [(.ref vb)])) t
    refine XS.aloadN X231.here hx rfl (hb hby dad1_88) rfl rfl ?_
    exact ht
  obtain ⟨T233, X233, e233, st233⟩ := getF X231 hx hZ hown (host := "") (Or.inl (hw _ (List.mem_of_getElem? (i := 27) rfl))) Via.refl e231 f226 (g := (mkF m 89 #[.val (.ref a), .val (.long q), .second, .val .null] [(.ref a), (.ref vb)])) rfl rfl (hb hby dad1_89)
  have k233 : Kt p e below m (s₁.setTop (entryFrame m #[(.ref a), (.long q), .null] 4)) T233 92 #[.val (.ref a), .val (.long q), .second, .val .null] [(.int (1 : Int32)), (.ref vb)] := fun t ht => k232 t (st233 t ht)
  have k234 : Kt p e below m (s₁.setTop (entryFrame m #[(.ref a), (.long q), .null] 4)) T233 93 #[.val (.ref a), .val (.long q), .second, .val .null] [.null, (.int (1 : Int32)), (.ref vb)] := by
    intro t ht
    refine k233 t ?_
    show Steps p.tables e below (T233.setTop (mkF m 92 #[.val (.ref a), .val (.long q), .second, .val .null] [(.int (1 : Int32)), (.ref vb)])) t
    refine XS.aloadN X233.here hx rfl (hb hby dad1_92) rfl rfl ?_
    exact ht
  obtain ⟨cl235, Ar235, qc235, Sz235, Nn235, Hh235, Gg235⟩ := id f228
  have hin235 : ¬ ((1 : Int32) < 0 ∨ cl235.slots.size ≤ ((1 : Int32)).toNatClampNeg) := inb_of Sz235 ⟨by decide, by decide⟩
  obtain ⟨T235, h235, X235, e235, W235, st235⟩ := stR X233 hx hZ e233 Ar235 (j := (1 : Int32)) hin235 rfl (Or.inl rfl) (g := (mkF m 93 #[.val (.ref a), .val (.long q), .second, .val .null] [.null, (.int (1 : Int32)), (.ref vb)])) rfl rfl (hb hby dad1_93)
  have N235 := Fr.snoc X235 N221 g_vb
  have f236 : n0 ≤ h235.size := Nat.le_trans f222 (Keep.of_wr W235).1
  have f237 : Exa Z h235 a "com/example/clearhour/clearhour/market/Timeline" := f223.wr W235
  have f238 : Fld Z h235 a "com/example/clearhour/clearhour/market/Timeline" "times" "[J" (.ref tb) := f224.other W235 (Or.inl ne_a_vb)
  have f239 : Fld Z h235 a "com/example/clearhour/clearhour/market/Timeline" "values" "[Ljava/lang/Object;" (.ref vb) := f225.other W235 (Or.inl ne_a_vb)
  have f240 : Fld Z h235 a "com/example/clearhour/clearhour/market/Timeline" "size" "I" (.int (1 : Int32)) := f226.other W235 (Or.inl ne_a_vb)
  have f241 : Arv Z h235 tb kt .long (16 : Int32) [(.long x0), (.long q), (.long x2), (.long x3)] (.long (0 : Int64)) := f227.other W235 ne_tb_vb
  have f242 : Arv Z h235 vb kv (.object "java/lang/Object") (16 : Int32) [.null, .null, .null, .null] .null := Arv.set Ar235 qc235 Sz235 Nn235 Hh235 Gg235 rfl W235 1 rfl (Nat.le_of_ble_eq_true rfl)
  have f243 : Keep h0 h235 [a, tb, vb] := f229.wr W235 (Or.inl (List.mem_of_getElem? (i := 2) rfl))
  have k235 : Kt p e below m (s₁.setTop (entryFrame m #[(.ref a), (.long q), .null] 4)) T235 94 #[.val (.ref a), .val (.long q), .second, .val .null] [] := fun t ht => k234 t (st235 t ht)
  have k244 : Kt p e below m (s₁.setTop (entryFrame m #[(.ref a), (.long q), .null] 4)) T235 96 #[.val (.ref a), .val (.long q), .second, .val .null] [(.ref a), (.ref a)] := by
    intro t ht
    refine k235 t ?_
    show Steps p.tables e below (T235.setTop (mkF m 94 #[.val (.ref a), .val (.long q), .second, .val .null] [])) t
    refine XS.aloadN X235.here hx rfl (hb hby dad1_94) rfl rfl ?_
    show Steps p.tables e below (T235.setTop (mkF m 95 #[.val (.ref a), .val (.long q), .second, .val .null] [(.ref a)])) t
    refine XS.dup X235.here hx rfl (hb hby dad1_95) rfl rfl ?_
    exact ht
  obtain ⟨T245, X245, e245, st245⟩ := getF X235 hx hZ hown (host := "") (Or.inl (hw _ (List.mem_of_getElem? (i := 27) rfl))) Via.refl e235 f240 (g := (mkF m 96 #[.val (.ref a), .val (.long q), .second, .val .null] [(.ref a), (.ref a)])) rfl rfl (hb hby dad1_96)
  have k245 : Kt p e below m (s₁.setTop (entryFrame m #[(.ref a), (.long q), .null] 4)) T245 99 #[.val (.ref a), .val (.long q), .second, .val .null] [(.int (1 : Int32)), (.ref a)] := fun t ht => k244 t (st245 t ht)
  have k246 : Kt p e below m (s₁.setTop (entryFrame m #[(.ref a), (.long q), .null] 4)) T245 101 #[.val (.ref a), .val (.long q), .second, .val .null] [(.int ((1 : Int32) + (1 : Int32))), (.ref a)] := by
    intro t ht
    refine k245 t ?_
    show Steps p.tables e below (T245.setTop (mkF m 99 #[.val (.ref a), .val (.long q), .second, .val .null] [(.int (1 : Int32)), (.ref a)])) t
    refine XS.iconst X245.here hx rfl (hb hby dad1_99) ?_
    show Steps p.tables e below (T245.setTop (mkF m 100 #[.val (.ref a), .val (.long q), .second, .val .null] [(.int (1 : Int32)), (.int (1 : Int32)), (.ref a)])) t
    refine XS.iadd X245.here hx rfl (hb hby dad1_100) rfl ?_
    exact ht
  have q247 : ((1 : Int32) + (1 : Int32)) = (2 : Int32) := by decide
  rw [q247] at k246
  obtain ⟨T248, h248, X248, e248, W248, st248⟩ := putF X245 hx hZ hown (host := "") (Or.inl (hw _ (List.mem_of_getElem? (i := 27) rfl))) Via.refl e245 f240 f237 (Or.inl (hw _ (List.mem_of_getElem? (i := 28) rfl))) (hw _ (List.mem_of_getElem? (i := 6) rfl)) (ty := .int) (by decide) rfl rfl (g := (mkF m 101 #[.val (.ref a), .val (.long q), .second, .val .null] [(.int (2 : Int32)), (.ref a)])) rfl rfl (hb hby dad1_101)
  have N248 := Fr.snoc X248 N235 g_a
  have f249 : n0 ≤ h248.size := Nat.le_trans f236 (Keep.of_wr W248).1
  have f250 : Exa Z h248 a "com/example/clearhour/clearhour/market/Timeline" := f237.wr W248
  have f251 : Fld Z h248 a "com/example/clearhour/clearhour/market/Timeline" "times" "[J" (.ref tb) := f238.other W248 (Or.inr (slot_ne (Or.inl (hw _ (List.mem_of_getElem? (i := 15) rfl))) (Or.inl (hw _ (List.mem_of_getElem? (i := 28) rfl))) (by decide) (t := (.array .long)) (t' := .int) (by decide) (by decide)))
  have f252 : Fld Z h248 a "com/example/clearhour/clearhour/market/Timeline" "values" "[Ljava/lang/Object;" (.ref vb) := f239.other W248 (Or.inr (slot_ne (Or.inl (hw _ (List.mem_of_getElem? (i := 19) rfl))) (Or.inl (hw _ (List.mem_of_getElem? (i := 28) rfl))) (by decide) (t := (.array (.object "java/lang/Object"))) (t' := .int) (by decide) (by decide)))
  have f253 : Fld Z h248 a "com/example/clearhour/clearhour/market/Timeline" "size" "I" (.int (2 : Int32)) := f240.same W248
  have f254 : Arv Z h248 tb kt .long (16 : Int32) [(.long x0), (.long q), (.long x2), (.long x3)] (.long (0 : Int64)) := f241.other W248 ne_a_tb.symm
  have f255 : Arv Z h248 vb kv (.object "java/lang/Object") (16 : Int32) [.null, .null, .null, .null] .null := f242.other W248 ne_a_vb.symm
  have f256 : Keep h0 h248 [a, tb, vb] := f243.wr W248 (Or.inl (List.mem_of_getElem? (i := 0) rfl))
  have k248 : Kt p e below m (s₁.setTop (entryFrame m #[(.ref a), (.long q), .null] 4)) T248 104 #[.val (.ref a), .val (.long q), .second, .val .null] [] := fun t ht => k246 t (st248 t ht)
  obtain ⟨fs, hr, hrun, hended, hW, hsame⟩ := X248.leave (v := none) (fun _ => rfl)
  refine ⟨_, _, k248 _ ?_, hrun, hended, _, _, rfl, ?_, ⟨_, rfl⟩, hW, hsame.mono (by decide) (by decide)⟩
  · exact X248.returnOut hx Bd.returns (hb hby dad1_104) hr
  · show Qad1 Z a q tb vb kt kv x0 x1 x2 x3 h0 n0 _ T248.heap _
    rw [e248]
    exact ⟨rfl, N248, f256, f251, f252, f253, f254, f255⟩
theorem dad2_0 : decode prog_61_method_2_code 0 = .ok (.aload_n 0, 1) := by decide +kernel
theorem dad2_1 : decode prog_61_method_2_code 1 = .ok (.getfield 21, 3) := by decide +kernel
theorem dad2_4 : decode prog_61_method_2_code 4 = .ok (.aload_n 0, 1) := by decide +kernel
theorem dad2_5 : decode prog_61_method_2_code 5 = .ok (.getfield 9, 3) := by decide +kernel
theorem dad2_8 : decode prog_61_method_2_code 8 = .ok (.arraylength, 1) := by decide +kernel
theorem dad2_9 : decode prog_61_method_2_code 9 = .ok (.if_icmp .ne 37, 3) := by decide +kernel
theorem dad2_12 : decode prog_61_method_2_code 12 = .ok (.aload_n 0, 1) := by decide +kernel
theorem dad2_13 : decode prog_61_method_2_code 13 = .ok (.aload_n 0, 1) := by decide +kernel
theorem dad2_14 : decode prog_61_method_2_code 14 = .ok (.getfield 9, 3) := by decide +kernel
theorem dad2_17 : decode prog_61_method_2_code 17 = .ok (.aload_n 0, 1) := by decide +kernel
theorem dad2_18 : decode prog_61_method_2_code 18 = .ok (.getfield 21, 3) := by decide +kernel
theorem dad2_21 : decode prog_61_method_2_code 21 = .ok (.iconst 2, 1) := by decide +kernel
theorem dad2_22 : decode prog_61_method_2_code 22 = .ok (.imul, 1) := by decide +kernel
theorem dad2_23 : decode prog_61_method_2_code 23 = .ok (.invokestatic 25, 3) := by decide +kernel
theorem dad2_26 : decode prog_61_method_2_code 26 = .ok (.putfield 9, 3) := by decide +kernel
theorem dad2_29 : decode prog_61_method_2_code 29 = .ok (.aload_n 0, 1) := by decide +kernel
theorem dad2_30 : decode prog_61_method_2_code 30 = .ok (.aload_n 0, 1) := by decide +kernel
theorem dad2_31 : decode prog_61_method_2_code 31 = .ok (.getfield 13, 3) := by decide +kernel
theorem dad2_34 : decode prog_61_method_2_code 34 = .ok (.aload_n 0, 1) := by decide +kernel
theorem dad2_35 : decode prog_61_method_2_code 35 = .ok (.getfield 21, 3) := by decide +kernel
theorem dad2_38 : decode prog_61_method_2_code 38 = .ok (.iconst 2, 1) := by decide +kernel
theorem dad2_39 : decode prog_61_method_2_code 39 = .ok (.imul, 1) := by decide +kernel
theorem dad2_40 : decode prog_61_method_2_code 40 = .ok (.invokestatic 31, 3) := by decide +kernel
theorem dad2_43 : decode prog_61_method_2_code 43 = .ok (.putfield 13, 3) := by decide +kernel
theorem dad2_46 : decode prog_61_method_2_code 46 = .ok (.aload_n 0, 1) := by decide +kernel
theorem dad2_47 : decode prog_61_method_2_code 47 = .ok (.getfield 21, 3) := by decide +kernel
theorem dad2_50 : decode prog_61_method_2_code 50 = .ok (.ifCond .le 24, 3) := by decide +kernel
theorem dad2_53 : decode prog_61_method_2_code 53 = .ok (.lload_n 1, 1) := by decide +kernel
theorem dad2_54 : decode prog_61_method_2_code 54 = .ok (.aload_n 0, 1) := by decide +kernel
theorem dad2_55 : decode prog_61_method_2_code 55 = .ok (.getfield 9, 3) := by decide +kernel
theorem dad2_58 : decode prog_61_method_2_code 58 = .ok (.aload_n 0, 1) := by decide +kernel
theorem dad2_59 : decode prog_61_method_2_code 59 = .ok (.getfield 21, 3) := by decide +kernel
theorem dad2_62 : decode prog_61_method_2_code 62 = .ok (.iconst 1, 1) := by decide +kernel
theorem dad2_63 : decode prog_61_method_2_code 63 = .ok (.isub, 1) := by decide +kernel
theorem dad2_64 : decode prog_61_method_2_code 64 = .ok (.laload, 1) := by decide +kernel
theorem dad2_65 : decode prog_61_method_2_code 65 = .ok (.lcmp, 1) := by decide +kernel
theorem dad2_66 : decode prog_61_method_2_code 66 = .ok (.ifCond .ge 8, 3) := by decide +kernel
theorem dad2_69 : decode prog_61_method_2_code 69 = .ok (.aload_n 0, 1) := by decide +kernel
theorem dad2_70 : decode prog_61_method_2_code 70 = .ok (.iconst 0, 1) := by decide +kernel
theorem dad2_71 : decode prog_61_method_2_code 71 = .ok (.putfield 17, 3) := by decide +kernel
theorem dad2_74 : decode prog_61_method_2_code 74 = .ok (.aload_n 0, 1) := by decide +kernel
theorem dad2_75 : decode prog_61_method_2_code 75 = .ok (.getfield 9, 3) := by decide +kernel
theorem dad2_78 : decode prog_61_method_2_code 78 = .ok (.aload_n 0, 1) := by decide +kernel
theorem dad2_79 : decode prog_61_method_2_code 79 = .ok (.getfield 21, 3) := by decide +kernel
theorem dad2_82 : decode prog_61_method_2_code 82 = .ok (.lload_n 1, 1) := by decide +kernel
theorem dad2_83 : decode prog_61_method_2_code 83 = .ok (.lastore, 1) := by decide +kernel
theorem dad2_84 : decode prog_61_method_2_code 84 = .ok (.aload_n 0, 1) := by decide +kernel
theorem dad2_85 : decode prog_61_method_2_code 85 = .ok (.getfield 13, 3) := by decide +kernel
theorem dad2_88 : decode prog_61_method_2_code 88 = .ok (.aload_n 0, 1) := by decide +kernel
theorem dad2_89 : decode prog_61_method_2_code 89 = .ok (.getfield 21, 3) := by decide +kernel
theorem dad2_92 : decode prog_61_method_2_code 92 = .ok (.aload_n 3, 1) := by decide +kernel
theorem dad2_93 : decode prog_61_method_2_code 93 = .ok (.aastore, 1) := by decide +kernel
theorem dad2_94 : decode prog_61_method_2_code 94 = .ok (.aload_n 0, 1) := by decide +kernel
theorem dad2_95 : decode prog_61_method_2_code 95 = .ok (.dup, 1) := by decide +kernel
theorem dad2_96 : decode prog_61_method_2_code 96 = .ok (.getfield 21, 3) := by decide +kernel
theorem dad2_99 : decode prog_61_method_2_code 99 = .ok (.iconst 1, 1) := by decide +kernel
theorem dad2_100 : decode prog_61_method_2_code 100 = .ok (.iadd, 1) := by decide +kernel
theorem dad2_101 : decode prog_61_method_2_code 101 = .ok (.putfield 21, 3) := by decide +kernel
theorem dad2_104 : decode prog_61_method_2_code 104 = .ok (.return_, 1) := by decide +kernel
theorem pnad2 : plainName "com/example/clearhour/clearhour/market/Timeline" = true := by first | (simp [plainName, overriddenIn]; done) | decide +kernel
theorem efad2 (m : MethodId) (a : Addr) (q : Int64) : entryFrame m #[(.ref a), (.long q), .null] 4 = mkF m 0 #[.val (.ref a), .val (.long q), .second, .val .null] [] := by first | (simp [entryFrame, mkF, argsToLocals, Value.category]; done) | rfl
def Qad2 (Z : State) (a : Addr) (q : Int64) (tb : Addr) (vb : Addr) (kt : ClassId) (kv : ClassId) (x0 : Int64) (x1 : Int64) (x2 : Int64) (x3 : Int64) (h0 : Heap) (n0 : Nat) (v : Option Value) (h : Heap) (L : List Loc) : Prop := v = none ∧ Fr n0 L ∧ Keep h0 h [a, tb, vb] ∧ Fld Z h a "com/example/clearhour/clearhour/market/Timeline" "times" "[J" (.ref tb) ∧ Fld Z h a "com/example/clearhour/clearhour/market/Timeline" "values" "[Ljava/lang/Object;" (.ref vb) ∧ Fld Z h a "com/example/clearhour/clearhour/market/Timeline" "size" "I" (.int (3 : Int32)) ∧ Arv Z h tb kt .long (16 : Int32) [(.long x0), (.long x1), (.long q), (.long x3)] (.long (0 : Int64)) ∧ Arv Z h vb kv (.object "java/lang/Object") (16 : Int32) [.null, .null, .null, .null] .null
set_option maxRecDepth 65536 in
set_option maxHeartbeats 40000000 in
theorem rmad2 (l : Launch) (Z : State) (a0 : Array Value) (hw : ∀ d ∈ tables_1, d.before a0 Z = true) (ws : List Jvm.Cond) (a : Addr) (q : Int64) (tb : Addr) (vb : Addr) (kt : ClassId) (kv : ClassId) (x0 : Int64) (x1 : Int64) (x2 : Int64) (x3 : Int64) (h0 : Heap) (n0 : Nat) (Z0 : n0 ≤ h0.size) (E_a : Exa Z h0 a "com/example/clearhour/clearhour/market/Timeline") (F_times : Fld Z h0 a "com/example/clearhour/clearhour/market/Timeline" "times" "[J" (.ref tb)) (F_values : Fld Z h0 a "com/example/clearhour/clearhour/market/Timeline" "values" "[Ljava/lang/Object;" (.ref vb)) (F_size : Fld Z h0 a "com/example/clearhour/clearhour/market/Timeline" "size" "I" (.int (2 : Int32))) (V_t : Arv Z h0 tb kt .long (16 : Int32) [(.long x0), (.long x1), (.long x2), (.long x3)] (.long (0 : Int64))) (V_v : Arv Z h0 vb kv (.object "java/lang/Object") (16 : Int32) [.null, .null, .null, .null] .null) (ne_a_tb : a ≠ tb) (ne_a_vb : a ≠ vb) (ne_tb_vb : tb ≠ vb) (g_a : n0 ≤ a) (g_tb : n0 ≤ tb) (g_vb : n0 ≤ vb) (hord : ¬ q < x1) :
    MetFree l (⟨"com/example/clearhour/clearhour/market/Timeline", "add", "(JLjava/lang/Object;)V"⟩ : MethodName) (head1 (Jvm.Cond.code (⟨"com/example/clearhour/clearhour/market/Timeline", "add", "(JLjava/lang/Object;)V"⟩ : MethodName) prog_61_method_2_code 4 none :: ws) ({ frames := 0, cells := 0, slots := 0, locals := 0 } : Room)) (fun gs' U => gs' = #[(.ref a), (.long q), .null] ∧ Z.Warmed39 U.vm ∧ U.heap = h0) (fun _ _ _ _ _ => True) (fun _ U o U' => ∃ v L, o = .returned v ∧ Qad2 Z a q tb vb kt kv x0 x1 x2 x3 h0 n0 v U'.heap L ∧ FrameEnd U o U' L ({ frames := 0, cells := 0, slots := 0, locals := 0 } : Room).cells ({ frames := 0, cells := 0, slots := 0, locals := 0 } : Room).slots) := by
  refine MetFree.of_bodySF (plainFor_of_name pnad2) hisR ?_
  intro p e s m args below meth c s₁ Bd hml0 hP hK
  obtain ⟨rfl, hZ, hh⟩ := hP
  have hx := Bd.exec
  have hby := Bd.bytes
  have hml : c.maxLocals = 4 := hml0
  have hown : s.vm.findClass "com/example/clearhour/clearhour/market/Timeline" = some m.cls := findClass_of_methodNamed Bd.named
  have hnm := (name_of_methodNamed Bd.named Bd.method).1
  have X0 : Stand p l e ({ frames := 0, cells := 0, slots := 0, locals := 0 } : Room) s m #[(.ref a), (.long q), .null] below meth c s₁ [] 0 0 := Stand.of_body Bd
  have e0 : s₁.heap = h0 := by rw [← hh, Bd.state]; rfl
  have N0 := Fr.nil n0
  have k0 : Kt p e below m (s₁.setTop (entryFrame m #[(.ref a), (.long q), .null] 4)) s₁ 0 #[.val (.ref a), .val (.long q), .second, .val .null] [] := fun t ht => castTop (efad2 m a q) ht
  have K0 : Keep h0 h0 [a, tb, vb] := Keep.refl _ _
  have k257 : Kt p e below m (s₁.setTop (entryFrame m #[(.ref a), (.long q), .null] 4)) s₁ 1 #[.val (.ref a), .val (.long q), .second, .val .null] [(.ref a)] := by
    intro t ht
    refine k0 t ?_
    show Steps p.tables e below (s₁.setTop (mkF m 0 #[.val (.ref a), .val (.long q), .second, .val .null] [])) t
    refine XS.aloadN X0.here hx rfl (hb hby dad2_0) rfl rfl ?_
    exact ht
  obtain ⟨T258, X258, e258, st258⟩ := getF X0 hx hZ hown (host := "") (Or.inl (hw _ (List.mem_of_getElem? (i := 27) rfl))) Via.refl e0 F_size (g := (mkF m 1 #[.val (.ref a), .val (.long q), .second, .val .null] [(.ref a)])) rfl rfl (hb hby dad2_1)
  have k258 : Kt p e below m (s₁.setTop (entryFrame m #[(.ref a), (.long q), .null] 4)) T258 4 #[.val (.ref a), .val (.long q), .second, .val .null] [(.int (2 : Int32))] := fun t ht => k257 t (st258 t ht)
  have k259 : Kt p e below m (s₁.setTop (entryFrame m #[(.ref a), (.long q), .null] 4)) T258 5 #[.val (.ref a), .val (.long q), .second, .val .null] [(.ref a), (.int (2 : Int32))] := by
    intro t ht
    refine k258 t ?_
    show Steps p.tables e below (T258.setTop (mkF m 4 #[.val (.ref a), .val (.long q), .second, .val .null] [(.int (2 : Int32))])) t
    refine XS.aloadN X258.here hx rfl (hb hby dad2_4) rfl rfl ?_
    exact ht
  obtain ⟨T260, X260, e260, st260⟩ := getF X258 hx hZ hown (host := "") (Or.inl (hw _ (List.mem_of_getElem? (i := 14) rfl))) Via.refl e258 F_times (g := (mkF m 5 #[.val (.ref a), .val (.long q), .second, .val .null] [(.ref a), (.int (2 : Int32))])) rfl rfl (hb hby dad2_5)
  have k260 : Kt p e below m (s₁.setTop (entryFrame m #[(.ref a), (.long q), .null] 4)) T260 8 #[.val (.ref a), .val (.long q), .second, .val .null] [(.ref tb), (.int (2 : Int32))] := fun t ht => k259 t (st260 t ht)
  obtain ⟨cl261, Ar261, qc261, Sz261, Nn261, Hh261, Gg261⟩ := id V_t
  have k262 : Kt p e below m (s₁.setTop (entryFrame m #[(.ref a), (.long q), .null] 4)) T260 47 #[.val (.ref a), .val (.long q), .second, .val .null] [(.ref a)] := by
    intro t ht
    refine k260 t ?_
    show Steps p.tables e below (T260.setTop (mkF m 8 #[.val (.ref a), .val (.long q), .second, .val .null] [(.ref tb), (.int (2 : Int32))])) t
    refine X260.arraylength hx (by rw [e260]; exact Ar261.1) (State.isArrayOf_alike hZ.alike Ar261.2.1) (g := (mkF m 8 #[.val (.ref a), .val (.long q), .second, .val .null] [(.ref tb), (.int (2 : Int32))])) rfl rfl (hb hby dad2_8) _ ?_
    rw [len_of Sz261 Nn261]
    show Steps p.tables e below (T260.setTop (mkF m 9 #[.val (.ref a), .val (.long q), .second, .val .null] [(.int (16 : Int32)), (.int (2 : Int32))])) t
    refine XS.icmpYes X260.here hx rfl (pc0 := 9) (pc' := 46) rfl (hb hby dad2_9) rfl (feq (by decide)).2 (by decide) (by decide) ?_
    show Steps p.tables e below (T260.setTop (mkF m 46 #[.val (.ref a), .val (.long q), .second, .val .null] [])) t
    refine XS.aloadN X260.here hx rfl (hb hby dad2_46) rfl rfl ?_
    exact ht
  obtain ⟨T263, X263, e263, st263⟩ := getF X260 hx hZ hown (host := "") (Or.inl (hw _ (List.mem_of_getElem? (i := 27) rfl))) Via.refl e260 F_size (g := (mkF m 47 #[.val (.ref a), .val (.long q), .second, .val .null] [(.ref a)])) rfl rfl (hb hby dad2_47)
  have k263 : Kt p e below m (s₁.setTop (entryFrame m #[(.ref a), (.long q), .null] 4)) T263 50 #[.val (.ref a), .val (.long q), .second, .val .null] [(.int (2 : Int32))] := fun t ht => k262 t (st263 t ht)
  have k264 : Kt p e below m (s₁.setTop (entryFrame m #[(.ref a), (.long q), .null] 4)) T263 55 #[.val (.ref a), .val (.long q), .second, .val .null] [(.ref a), (.long q)] := by
    intro t ht
    refine k263 t ?_
    show Steps p.tables e below (T263.setTop (mkF m 50 #[.val (.ref a), .val (.long q), .second, .val .null] [(.int (2 : Int32))])) t
    refine XS.ifNo X263.here hx rfl (hb hby dad2_50) rfl ((if0 _ _).trans (tlt (by decide)).2.2.2) ?_
    show Steps p.tables e below (T263.setTop (mkF m 53 #[.val (.ref a), .val (.long q), .second, .val .null] [])) t
    refine XS.lloadN X263.here hx rfl (hb hby dad2_53) rfl ?_
    show Steps p.tables e below (T263.setTop (mkF m 54 #[.val (.ref a), .val (.long q), .second, .val .null] [(.long q)])) t
    refine XS.aloadN X263.here hx rfl (hb hby dad2_54) rfl rfl ?_
    exact ht
  obtain ⟨T265, X265, e265, st265⟩ := getF X263 hx hZ hown (host := "") (Or.inl (hw _ (List.mem_of_getElem? (i := 14) rfl))) Via.refl e263 F_times (g := (mkF m 55 #[.val (.ref a), .val (.long q), .second, .val .null] [(.ref a), (.long q)])) rfl rfl (hb hby dad2_55)
  have k265 : Kt p e below m (s₁.setTop (entryFrame m #[(.ref a), (.long q), .null] 4)) T265 58 #[.val (.ref a), .val (.long q), .second, .val .null] [(.ref tb), (.long q)] := fun t ht => k264 t (st265 t ht)
  have k266 : Kt p e below m (s₁.setTop (entryFrame m #[(.ref a), (.long q), .null] 4)) T265 59 #[.val (.ref a), .val (.long q), .second, .val .null] [(.ref a), (.ref tb), (.long q)] := by
    intro t ht
    refine k265 t ?_
    show Steps p.tables e below (T265.setTop (mkF m 58 #[.val (.ref a), .val (.long q), .second, .val .null] [(.ref tb), (.long q)])) t
    refine XS.aloadN X265.here hx rfl (hb hby dad2_58) rfl rfl ?_
    exact ht
  obtain ⟨T267, X267, e267, st267⟩ := getF X265 hx hZ hown (host := "") (Or.inl (hw _ (List.mem_of_getElem? (i := 27) rfl))) Via.refl e265 F_size (g := (mkF m 59 #[.val (.ref a), .val (.long q), .second, .val .null] [(.ref a), (.ref tb), (.long q)])) rfl rfl (hb hby dad2_59)
  have k267 : Kt p e below m (s₁.setTop (entryFrame m #[(.ref a), (.long q), .null] 4)) T267 62 #[.val (.ref a), .val (.long q), .second, .val .null] [(.int (2 : Int32)), (.ref tb), (.long q)] := fun t ht => k266 t (st267 t ht)
  have k268 : Kt p e below m (s₁.setTop (entryFrame m #[(.ref a), (.long q), .null] 4)) T267 64 #[.val (.ref a), .val (.long q), .second, .val .null] [(.int ((2 : Int32) - (1 : Int32))), (.ref tb), (.long q)] := by
    intro t ht
    refine k267 t ?_
    show Steps p.tables e below (T267.setTop (mkF m 62 #[.val (.ref a), .val (.long q), .second, .val .null] [(.int (2 : Int32)), (.ref tb), (.long q)])) t
    refine XS.iconst X267.here hx rfl (hb hby dad2_62) ?_
    show Steps p.tables e below (T267.setTop (mkF m 63 #[.val (.ref a), .val (.long q), .second, .val .null] [(.int (1 : Int32)), (.int (2 : Int32)), (.ref tb), (.long q)])) t
    refine XS.isub X267.here hx rfl (hb hby dad2_63) rfl ?_
    exact ht
  have q269 : ((2 : Int32) - (1 : Int32)) = (1 : Int32) := by decide
  rw [q269] at k268
  obtain ⟨cl270, Ar270, qc270, Sz270, Nn270, Hh270, Gg270⟩ := id V_t
  have hin270 : ¬ ((1 : Int32) < 0 ∨ cl270.slots.size ≤ ((1 : Int32)).toNatClampNeg) := inb_of Sz270 ⟨by decide, by decide⟩
  have hat270 : cl270.slots[((1 : Int32)).toNatClampNeg]? = some (.long x1) := Hh270.at hin270 rfl
  have k271 : Kt p e below m (s₁.setTop (entryFrame m #[(.ref a), (.long q), .null] 4)) T267 75 #[.val (.ref a), .val (.long q), .second, .val .null] [(.ref a)] := by
    intro t ht
    refine k268 t ?_
    show Steps p.tables e below (T267.setTop (mkF m 64 #[.val (.ref a), .val (.long q), .second, .val .null] [(.int (1 : Int32)), (.ref tb), (.long q)])) t
    refine X267.laload hx (j := (1 : Int32)) (v := (.long x1)) (by rw [e267]; exact Ar270.1) (State.isArrayOf_alike hZ.alike Ar270.2.1) Ar270.2.2 hin270 hat270 (g := (mkF m 64 #[.val (.ref a), .val (.long q), .second, .val .null] [(.int (1 : Int32)), (.ref tb), (.long q)])) rfl rfl (hb hby dad2_64) _ ?_
    show Steps p.tables e below (T267.setTop (mkF m 65 #[.val (.ref a), .val (.long q), .second, .val .null] [(.long x1), (.long q)])) t
    refine XS.lcmp X267.here hx rfl (hb hby dad2_65) rfl ?_
    show Steps p.tables e below (T267.setTop (mkF m 66 #[.val (.ref a), .val (.long q), .second, .val .null] [(.int (lcmpW q x1))])) t
    refine XS.ifYes X267.here hx rfl (pc0 := 66) (pc' := 74) rfl (hb hby dad2_66) rfl ((if0 _ _).trans (flt (mt (lw_lt _ _).mp hord)).2.1) (by decide) (by decide) ?_
    show Steps p.tables e below (T267.setTop (mkF m 74 #[.val (.ref a), .val (.long q), .second, .val .null] [])) t
    refine XS.aloadN X267.here hx rfl (hb hby dad2_74) rfl rfl ?_
    exact ht
  obtain ⟨T272, X272, e272, st272⟩ := getF X267 hx hZ hown (host := "") (Or.inl (hw _ (List.mem_of_getElem? (i := 14) rfl))) Via.refl e267 F_times (g := (mkF m 75 #[.val (.ref a), .val (.long q), .second, .val .null] [(.ref a)])) rfl rfl (hb hby dad2_75)
  have k272 : Kt p e below m (s₁.setTop (entryFrame m #[(.ref a), (.long q), .null] 4)) T272 78 #[.val (.ref a), .val (.long q), .second, .val .null] [(.ref tb)] := fun t ht => k271 t (st272 t ht)
  have k273 : Kt p e below m (s₁.setTop (entryFrame m #[(.ref a), (.long q), .null] 4)) T272 79 #[.val (.ref a), .val (.long q), .second, .val .null] [(.ref a), (.ref tb)] := by
    intro t ht
    refine k272 t ?_
    show Steps p.tables e below (T272.setTop (mkF m 78 #[.val (.ref a), .val (.long q), .second, .val .null] [(.ref tb)])) t
    refine XS.aloadN X272.here hx rfl (hb hby dad2_78) rfl rfl ?_
    exact ht
  obtain ⟨T274, X274, e274, st274⟩ := getF X272 hx hZ hown (host := "") (Or.inl (hw _ (List.mem_of_getElem? (i := 27) rfl))) Via.refl e272 F_size (g := (mkF m 79 #[.val (.ref a), .val (.long q), .second, .val .null] [(.ref a), (.ref tb)])) rfl rfl (hb hby dad2_79)
  have k274 : Kt p e below m (s₁.setTop (entryFrame m #[(.ref a), (.long q), .null] 4)) T274 82 #[.val (.ref a), .val (.long q), .second, .val .null] [(.int (2 : Int32)), (.ref tb)] := fun t ht => k273 t (st274 t ht)
  have k275 : Kt p e below m (s₁.setTop (entryFrame m #[(.ref a), (.long q), .null] 4)) T274 83 #[.val (.ref a), .val (.long q), .second, .val .null] [(.long q), (.int (2 : Int32)), (.ref tb)] := by
    intro t ht
    refine k274 t ?_
    show Steps p.tables e below (T274.setTop (mkF m 82 #[.val (.ref a), .val (.long q), .second, .val .null] [(.int (2 : Int32)), (.ref tb)])) t
    refine XS.lloadN X274.here hx rfl (hb hby dad2_82) rfl ?_
    exact ht
  obtain ⟨cl276, Ar276, qc276, Sz276, Nn276, Hh276, Gg276⟩ := id V_t
  have hin276 : ¬ ((2 : Int32) < 0 ∨ cl276.slots.size ≤ ((2 : Int32)).toNatClampNeg) := inb_of Sz276 ⟨by decide, by decide⟩
  obtain ⟨T276, h276, X276, e276, W276, st276⟩ := stJ X274 hx hZ e274 Ar276 (j := (2 : Int32)) hin276 (g := (mkF m 83 #[.val (.ref a), .val (.long q), .second, .val .null] [(.long q), (.int (2 : Int32)), (.ref tb)])) rfl rfl (hb hby dad2_83)
  have N276 := Fr.snoc X276 N0 g_tb
  have f277 : n0 ≤ h276.size := Nat.le_trans Z0 (Keep.of_wr W276).1
  have f278 : Exa Z h276 a "com/example/clearhour/clearhour/market/Timeline" := E_a.wr W276
  have f279 : Fld Z h276 a "com/example/clearhour/clearhour/market/Timeline" "times" "[J" (.ref tb) := F_times.other W276 (Or.inl ne_a_tb)
  have f280 : Fld Z h276 a "com/example/clearhour/clearhour/market/Timeline" "values" "[Ljava/lang/Object;" (.ref vb) := F_values.other W276 (Or.inl ne_a_tb)
  have f281 : Fld Z h276 a "com/example/clearhour/clearhour/market/Timeline" "size" "I" (.int (2 : Int32)) := F_size.other W276 (Or.inl ne_a_tb)
  have f282 : Arv Z h276 tb kt .long (16 : Int32) [(.long x0), (.long x1), (.long q), (.long x3)] (.long (0 : Int64)) := Arv.set Ar276 qc276 Sz276 Nn276 Hh276 Gg276 rfl W276 2 rfl (Nat.le_of_ble_eq_true rfl)
  have f283 : Arv Z h276 vb kv (.object "java/lang/Object") (16 : Int32) [.null, .null, .null, .null] .null := V_v.other W276 ne_tb_vb.symm
  have f284 : Keep h0 h276 [a, tb, vb] := K0.wr W276 (Or.inl (List.mem_of_getElem? (i := 1) rfl))
  have k276 : Kt p e below m (s₁.setTop (entryFrame m #[(.ref a), (.long q), .null] 4)) T276 84 #[.val (.ref a), .val (.long q), .second, .val .null] [] := fun t ht => k275 t (st276 t ht)
  have k285 : Kt p e below m (s₁.setTop (entryFrame m #[(.ref a), (.long q), .null] 4)) T276 85 #[.val (.ref a), .val (.long q), .second, .val .null] [(.ref a)] := by
    intro t ht
    refine k276 t ?_
    show Steps p.tables e below (T276.setTop (mkF m 84 #[.val (.ref a), .val (.long q), .second, .val .null] [])) t
    refine XS.aloadN X276.here hx rfl (hb hby dad2_84) rfl rfl ?_
    exact ht
  obtain ⟨T286, X286, e286, st286⟩ := getF X276 hx hZ hown (host := "") (Or.inl (hw _ (List.mem_of_getElem? (i := 18) rfl))) Via.refl e276 f280 (g := (mkF m 85 #[.val (.ref a), .val (.long q), .second, .val .null] [(.ref a)])) rfl rfl (hb hby dad2_85)
  have k286 : Kt p e below m (s₁.setTop (entryFrame m #[(.ref a), (.long q), .null] 4)) T286 88 #[.val (.ref a), .val (.long q), .second, .val .null] [(.ref vb)] := fun t ht => k285 t (st286 t ht)
  have k287 : Kt p e below m (s₁.setTop (entryFrame m #[(.ref a), (.long q), .null] 4)) T286 89 #[.val (.ref a), .val (.long q), .second, .val .null] [(.ref a), (.ref vb)] := by
    intro t ht
    refine k286 t ?_
    show Steps p.tables e below (T286.setTop (mkF m 88 #[.val (.ref a), .val (.long q), .second, .val .null] [(.ref vb)])) t
    refine XS.aloadN X286.here hx rfl (hb hby dad2_88) rfl rfl ?_
    exact ht
  obtain ⟨T288, X288, e288, st288⟩ := getF X286 hx hZ hown (host := "") (Or.inl (hw _ (List.mem_of_getElem? (i := 27) rfl))) Via.refl e286 f281 (g := (mkF m 89 #[.val (.ref a), .val (.long q), .second, .val .null] [(.ref a), (.ref vb)])) rfl rfl (hb hby dad2_89)
  have k288 : Kt p e below m (s₁.setTop (entryFrame m #[(.ref a), (.long q), .null] 4)) T288 92 #[.val (.ref a), .val (.long q), .second, .val .null] [(.int (2 : Int32)), (.ref vb)] := fun t ht => k287 t (st288 t ht)
  have k289 : Kt p e below m (s₁.setTop (entryFrame m #[(.ref a), (.long q), .null] 4)) T288 93 #[.val (.ref a), .val (.long q), .second, .val .null] [.null, (.int (2 : Int32)), (.ref vb)] := by
    intro t ht
    refine k288 t ?_
    show Steps p.tables e below (T288.setTop (mkF m 92 #[.val (.ref a), .val (.long q), .second, .val .null] [(.int (2 : Int32)), (.ref vb)])) t
    refine XS.aloadN X288.here hx rfl (hb hby dad2_92) rfl rfl ?_
    exact ht
  obtain ⟨cl290, Ar290, qc290, Sz290, Nn290, Hh290, Gg290⟩ := id f283
  have hin290 : ¬ ((2 : Int32) < 0 ∨ cl290.slots.size ≤ ((2 : Int32)).toNatClampNeg) := inb_of Sz290 ⟨by decide, by decide⟩
  obtain ⟨T290, h290, X290, e290, W290, st290⟩ := stR X288 hx hZ e288 Ar290 (j := (2 : Int32)) hin290 rfl (Or.inl rfl) (g := (mkF m 93 #[.val (.ref a), .val (.long q), .second, .val .null] [.null, (.int (2 : Int32)), (.ref vb)])) rfl rfl (hb hby dad2_93)
  have N290 := Fr.snoc X290 N276 g_vb
  have f291 : n0 ≤ h290.size := Nat.le_trans f277 (Keep.of_wr W290).1
  have f292 : Exa Z h290 a "com/example/clearhour/clearhour/market/Timeline" := f278.wr W290
  have f293 : Fld Z h290 a "com/example/clearhour/clearhour/market/Timeline" "times" "[J" (.ref tb) := f279.other W290 (Or.inl ne_a_vb)
  have f294 : Fld Z h290 a "com/example/clearhour/clearhour/market/Timeline" "values" "[Ljava/lang/Object;" (.ref vb) := f280.other W290 (Or.inl ne_a_vb)
  have f295 : Fld Z h290 a "com/example/clearhour/clearhour/market/Timeline" "size" "I" (.int (2 : Int32)) := f281.other W290 (Or.inl ne_a_vb)
  have f296 : Arv Z h290 tb kt .long (16 : Int32) [(.long x0), (.long x1), (.long q), (.long x3)] (.long (0 : Int64)) := f282.other W290 ne_tb_vb
  have f297 : Arv Z h290 vb kv (.object "java/lang/Object") (16 : Int32) [.null, .null, .null, .null] .null := Arv.set Ar290 qc290 Sz290 Nn290 Hh290 Gg290 rfl W290 2 rfl (Nat.le_of_ble_eq_true rfl)
  have f298 : Keep h0 h290 [a, tb, vb] := f284.wr W290 (Or.inl (List.mem_of_getElem? (i := 2) rfl))
  have k290 : Kt p e below m (s₁.setTop (entryFrame m #[(.ref a), (.long q), .null] 4)) T290 94 #[.val (.ref a), .val (.long q), .second, .val .null] [] := fun t ht => k289 t (st290 t ht)
  have k299 : Kt p e below m (s₁.setTop (entryFrame m #[(.ref a), (.long q), .null] 4)) T290 96 #[.val (.ref a), .val (.long q), .second, .val .null] [(.ref a), (.ref a)] := by
    intro t ht
    refine k290 t ?_
    show Steps p.tables e below (T290.setTop (mkF m 94 #[.val (.ref a), .val (.long q), .second, .val .null] [])) t
    refine XS.aloadN X290.here hx rfl (hb hby dad2_94) rfl rfl ?_
    show Steps p.tables e below (T290.setTop (mkF m 95 #[.val (.ref a), .val (.long q), .second, .val .null] [(.ref a)])) t
    refine XS.dup X290.here hx rfl (hb hby dad2_95) rfl rfl ?_
    exact ht
  obtain ⟨T300, X300, e300, st300⟩ := getF X290 hx hZ hown (host := "") (Or.inl (hw _ (List.mem_of_getElem? (i := 27) rfl))) Via.refl e290 f295 (g := (mkF m 96 #[.val (.ref a), .val (.long q), .second, .val .null] [(.ref a), (.ref a)])) rfl rfl (hb hby dad2_96)
  have k300 : Kt p e below m (s₁.setTop (entryFrame m #[(.ref a), (.long q), .null] 4)) T300 99 #[.val (.ref a), .val (.long q), .second, .val .null] [(.int (2 : Int32)), (.ref a)] := fun t ht => k299 t (st300 t ht)
  have k301 : Kt p e below m (s₁.setTop (entryFrame m #[(.ref a), (.long q), .null] 4)) T300 101 #[.val (.ref a), .val (.long q), .second, .val .null] [(.int ((2 : Int32) + (1 : Int32))), (.ref a)] := by
    intro t ht
    refine k300 t ?_
    show Steps p.tables e below (T300.setTop (mkF m 99 #[.val (.ref a), .val (.long q), .second, .val .null] [(.int (2 : Int32)), (.ref a)])) t
    refine XS.iconst X300.here hx rfl (hb hby dad2_99) ?_
    show Steps p.tables e below (T300.setTop (mkF m 100 #[.val (.ref a), .val (.long q), .second, .val .null] [(.int (1 : Int32)), (.int (2 : Int32)), (.ref a)])) t
    refine XS.iadd X300.here hx rfl (hb hby dad2_100) rfl ?_
    exact ht
  have q302 : ((2 : Int32) + (1 : Int32)) = (3 : Int32) := by decide
  rw [q302] at k301
  obtain ⟨T303, h303, X303, e303, W303, st303⟩ := putF X300 hx hZ hown (host := "") (Or.inl (hw _ (List.mem_of_getElem? (i := 27) rfl))) Via.refl e300 f295 f292 (Or.inl (hw _ (List.mem_of_getElem? (i := 28) rfl))) (hw _ (List.mem_of_getElem? (i := 6) rfl)) (ty := .int) (by decide) rfl rfl (g := (mkF m 101 #[.val (.ref a), .val (.long q), .second, .val .null] [(.int (3 : Int32)), (.ref a)])) rfl rfl (hb hby dad2_101)
  have N303 := Fr.snoc X303 N290 g_a
  have f304 : n0 ≤ h303.size := Nat.le_trans f291 (Keep.of_wr W303).1
  have f305 : Exa Z h303 a "com/example/clearhour/clearhour/market/Timeline" := f292.wr W303
  have f306 : Fld Z h303 a "com/example/clearhour/clearhour/market/Timeline" "times" "[J" (.ref tb) := f293.other W303 (Or.inr (slot_ne (Or.inl (hw _ (List.mem_of_getElem? (i := 15) rfl))) (Or.inl (hw _ (List.mem_of_getElem? (i := 28) rfl))) (by decide) (t := (.array .long)) (t' := .int) (by decide) (by decide)))
  have f307 : Fld Z h303 a "com/example/clearhour/clearhour/market/Timeline" "values" "[Ljava/lang/Object;" (.ref vb) := f294.other W303 (Or.inr (slot_ne (Or.inl (hw _ (List.mem_of_getElem? (i := 19) rfl))) (Or.inl (hw _ (List.mem_of_getElem? (i := 28) rfl))) (by decide) (t := (.array (.object "java/lang/Object"))) (t' := .int) (by decide) (by decide)))
  have f308 : Fld Z h303 a "com/example/clearhour/clearhour/market/Timeline" "size" "I" (.int (3 : Int32)) := f295.same W303
  have f309 : Arv Z h303 tb kt .long (16 : Int32) [(.long x0), (.long x1), (.long q), (.long x3)] (.long (0 : Int64)) := f296.other W303 ne_a_tb.symm
  have f310 : Arv Z h303 vb kv (.object "java/lang/Object") (16 : Int32) [.null, .null, .null, .null] .null := f297.other W303 ne_a_vb.symm
  have f311 : Keep h0 h303 [a, tb, vb] := f298.wr W303 (Or.inl (List.mem_of_getElem? (i := 0) rfl))
  have k303 : Kt p e below m (s₁.setTop (entryFrame m #[(.ref a), (.long q), .null] 4)) T303 104 #[.val (.ref a), .val (.long q), .second, .val .null] [] := fun t ht => k301 t (st303 t ht)
  obtain ⟨fs, hr, hrun, hended, hW, hsame⟩ := X303.leave (v := none) (fun _ => rfl)
  refine ⟨_, _, k303 _ ?_, hrun, hended, _, _, rfl, ?_, ⟨_, rfl⟩, hW, hsame.mono (by decide) (by decide)⟩
  · exact X303.returnOut hx Bd.returns (hb hby dad2_104) hr
  · show Qad2 Z a q tb vb kt kv x0 x1 x2 x3 h0 n0 _ T303.heap _
    rw [e303]
    exact ⟨rfl, N303, f311, f306, f307, f308, f309, f310⟩
theorem dad3_0 : decode prog_61_method_2_code 0 = .ok (.aload_n 0, 1) := by decide +kernel
theorem dad3_1 : decode prog_61_method_2_code 1 = .ok (.getfield 21, 3) := by decide +kernel
theorem dad3_4 : decode prog_61_method_2_code 4 = .ok (.aload_n 0, 1) := by decide +kernel
theorem dad3_5 : decode prog_61_method_2_code 5 = .ok (.getfield 9, 3) := by decide +kernel
theorem dad3_8 : decode prog_61_method_2_code 8 = .ok (.arraylength, 1) := by decide +kernel
theorem dad3_9 : decode prog_61_method_2_code 9 = .ok (.if_icmp .ne 37, 3) := by decide +kernel
theorem dad3_12 : decode prog_61_method_2_code 12 = .ok (.aload_n 0, 1) := by decide +kernel
theorem dad3_13 : decode prog_61_method_2_code 13 = .ok (.aload_n 0, 1) := by decide +kernel
theorem dad3_14 : decode prog_61_method_2_code 14 = .ok (.getfield 9, 3) := by decide +kernel
theorem dad3_17 : decode prog_61_method_2_code 17 = .ok (.aload_n 0, 1) := by decide +kernel
theorem dad3_18 : decode prog_61_method_2_code 18 = .ok (.getfield 21, 3) := by decide +kernel
theorem dad3_21 : decode prog_61_method_2_code 21 = .ok (.iconst 2, 1) := by decide +kernel
theorem dad3_22 : decode prog_61_method_2_code 22 = .ok (.imul, 1) := by decide +kernel
theorem dad3_23 : decode prog_61_method_2_code 23 = .ok (.invokestatic 25, 3) := by decide +kernel
theorem dad3_26 : decode prog_61_method_2_code 26 = .ok (.putfield 9, 3) := by decide +kernel
theorem dad3_29 : decode prog_61_method_2_code 29 = .ok (.aload_n 0, 1) := by decide +kernel
theorem dad3_30 : decode prog_61_method_2_code 30 = .ok (.aload_n 0, 1) := by decide +kernel
theorem dad3_31 : decode prog_61_method_2_code 31 = .ok (.getfield 13, 3) := by decide +kernel
theorem dad3_34 : decode prog_61_method_2_code 34 = .ok (.aload_n 0, 1) := by decide +kernel
theorem dad3_35 : decode prog_61_method_2_code 35 = .ok (.getfield 21, 3) := by decide +kernel
theorem dad3_38 : decode prog_61_method_2_code 38 = .ok (.iconst 2, 1) := by decide +kernel
theorem dad3_39 : decode prog_61_method_2_code 39 = .ok (.imul, 1) := by decide +kernel
theorem dad3_40 : decode prog_61_method_2_code 40 = .ok (.invokestatic 31, 3) := by decide +kernel
theorem dad3_43 : decode prog_61_method_2_code 43 = .ok (.putfield 13, 3) := by decide +kernel
theorem dad3_46 : decode prog_61_method_2_code 46 = .ok (.aload_n 0, 1) := by decide +kernel
theorem dad3_47 : decode prog_61_method_2_code 47 = .ok (.getfield 21, 3) := by decide +kernel
theorem dad3_50 : decode prog_61_method_2_code 50 = .ok (.ifCond .le 24, 3) := by decide +kernel
theorem dad3_53 : decode prog_61_method_2_code 53 = .ok (.lload_n 1, 1) := by decide +kernel
theorem dad3_54 : decode prog_61_method_2_code 54 = .ok (.aload_n 0, 1) := by decide +kernel
theorem dad3_55 : decode prog_61_method_2_code 55 = .ok (.getfield 9, 3) := by decide +kernel
theorem dad3_58 : decode prog_61_method_2_code 58 = .ok (.aload_n 0, 1) := by decide +kernel
theorem dad3_59 : decode prog_61_method_2_code 59 = .ok (.getfield 21, 3) := by decide +kernel
theorem dad3_62 : decode prog_61_method_2_code 62 = .ok (.iconst 1, 1) := by decide +kernel
theorem dad3_63 : decode prog_61_method_2_code 63 = .ok (.isub, 1) := by decide +kernel
theorem dad3_64 : decode prog_61_method_2_code 64 = .ok (.laload, 1) := by decide +kernel
theorem dad3_65 : decode prog_61_method_2_code 65 = .ok (.lcmp, 1) := by decide +kernel
theorem dad3_66 : decode prog_61_method_2_code 66 = .ok (.ifCond .ge 8, 3) := by decide +kernel
theorem dad3_69 : decode prog_61_method_2_code 69 = .ok (.aload_n 0, 1) := by decide +kernel
theorem dad3_70 : decode prog_61_method_2_code 70 = .ok (.iconst 0, 1) := by decide +kernel
theorem dad3_71 : decode prog_61_method_2_code 71 = .ok (.putfield 17, 3) := by decide +kernel
theorem dad3_74 : decode prog_61_method_2_code 74 = .ok (.aload_n 0, 1) := by decide +kernel
theorem dad3_75 : decode prog_61_method_2_code 75 = .ok (.getfield 9, 3) := by decide +kernel
theorem dad3_78 : decode prog_61_method_2_code 78 = .ok (.aload_n 0, 1) := by decide +kernel
theorem dad3_79 : decode prog_61_method_2_code 79 = .ok (.getfield 21, 3) := by decide +kernel
theorem dad3_82 : decode prog_61_method_2_code 82 = .ok (.lload_n 1, 1) := by decide +kernel
theorem dad3_83 : decode prog_61_method_2_code 83 = .ok (.lastore, 1) := by decide +kernel
theorem dad3_84 : decode prog_61_method_2_code 84 = .ok (.aload_n 0, 1) := by decide +kernel
theorem dad3_85 : decode prog_61_method_2_code 85 = .ok (.getfield 13, 3) := by decide +kernel
theorem dad3_88 : decode prog_61_method_2_code 88 = .ok (.aload_n 0, 1) := by decide +kernel
theorem dad3_89 : decode prog_61_method_2_code 89 = .ok (.getfield 21, 3) := by decide +kernel
theorem dad3_92 : decode prog_61_method_2_code 92 = .ok (.aload_n 3, 1) := by decide +kernel
theorem dad3_93 : decode prog_61_method_2_code 93 = .ok (.aastore, 1) := by decide +kernel
theorem dad3_94 : decode prog_61_method_2_code 94 = .ok (.aload_n 0, 1) := by decide +kernel
theorem dad3_95 : decode prog_61_method_2_code 95 = .ok (.dup, 1) := by decide +kernel
theorem dad3_96 : decode prog_61_method_2_code 96 = .ok (.getfield 21, 3) := by decide +kernel
theorem dad3_99 : decode prog_61_method_2_code 99 = .ok (.iconst 1, 1) := by decide +kernel
theorem dad3_100 : decode prog_61_method_2_code 100 = .ok (.iadd, 1) := by decide +kernel
theorem dad3_101 : decode prog_61_method_2_code 101 = .ok (.putfield 21, 3) := by decide +kernel
theorem dad3_104 : decode prog_61_method_2_code 104 = .ok (.return_, 1) := by decide +kernel
theorem pnad3 : plainName "com/example/clearhour/clearhour/market/Timeline" = true := by first | (simp [plainName, overriddenIn]; done) | decide +kernel
theorem efad3 (m : MethodId) (a : Addr) (q : Int64) : entryFrame m #[(.ref a), (.long q), .null] 4 = mkF m 0 #[.val (.ref a), .val (.long q), .second, .val .null] [] := by first | (simp [entryFrame, mkF, argsToLocals, Value.category]; done) | rfl
def Qad3 (Z : State) (a : Addr) (q : Int64) (tb : Addr) (vb : Addr) (kt : ClassId) (kv : ClassId) (x0 : Int64) (x1 : Int64) (x2 : Int64) (x3 : Int64) (h0 : Heap) (n0 : Nat) (v : Option Value) (h : Heap) (L : List Loc) : Prop := v = none ∧ Fr n0 L ∧ Keep h0 h [a, tb, vb] ∧ Fld Z h a "com/example/clearhour/clearhour/market/Timeline" "times" "[J" (.ref tb) ∧ Fld Z h a "com/example/clearhour/clearhour/market/Timeline" "values" "[Ljava/lang/Object;" (.ref vb) ∧ Fld Z h a "com/example/clearhour/clearhour/market/Timeline" "size" "I" (.int (4 : Int32)) ∧ Arv Z h tb kt .long (16 : Int32) [(.long x0), (.long x1), (.long x2), (.long q)] (.long (0 : Int64)) ∧ Arv Z h vb kv (.object "java/lang/Object") (16 : Int32) [.null, .null, .null, .null] .null
set_option maxRecDepth 65536 in
set_option maxHeartbeats 40000000 in
theorem rmad3 (l : Launch) (Z : State) (a0 : Array Value) (hw : ∀ d ∈ tables_1, d.before a0 Z = true) (ws : List Jvm.Cond) (a : Addr) (q : Int64) (tb : Addr) (vb : Addr) (kt : ClassId) (kv : ClassId) (x0 : Int64) (x1 : Int64) (x2 : Int64) (x3 : Int64) (h0 : Heap) (n0 : Nat) (Z0 : n0 ≤ h0.size) (E_a : Exa Z h0 a "com/example/clearhour/clearhour/market/Timeline") (F_times : Fld Z h0 a "com/example/clearhour/clearhour/market/Timeline" "times" "[J" (.ref tb)) (F_values : Fld Z h0 a "com/example/clearhour/clearhour/market/Timeline" "values" "[Ljava/lang/Object;" (.ref vb)) (F_size : Fld Z h0 a "com/example/clearhour/clearhour/market/Timeline" "size" "I" (.int (3 : Int32))) (V_t : Arv Z h0 tb kt .long (16 : Int32) [(.long x0), (.long x1), (.long x2), (.long x3)] (.long (0 : Int64))) (V_v : Arv Z h0 vb kv (.object "java/lang/Object") (16 : Int32) [.null, .null, .null, .null] .null) (ne_a_tb : a ≠ tb) (ne_a_vb : a ≠ vb) (ne_tb_vb : tb ≠ vb) (g_a : n0 ≤ a) (g_tb : n0 ≤ tb) (g_vb : n0 ≤ vb) (hord : ¬ q < x2) :
    MetFree l (⟨"com/example/clearhour/clearhour/market/Timeline", "add", "(JLjava/lang/Object;)V"⟩ : MethodName) (head1 (Jvm.Cond.code (⟨"com/example/clearhour/clearhour/market/Timeline", "add", "(JLjava/lang/Object;)V"⟩ : MethodName) prog_61_method_2_code 4 none :: ws) ({ frames := 0, cells := 0, slots := 0, locals := 0 } : Room)) (fun gs' U => gs' = #[(.ref a), (.long q), .null] ∧ Z.Warmed39 U.vm ∧ U.heap = h0) (fun _ _ _ _ _ => True) (fun _ U o U' => ∃ v L, o = .returned v ∧ Qad3 Z a q tb vb kt kv x0 x1 x2 x3 h0 n0 v U'.heap L ∧ FrameEnd U o U' L ({ frames := 0, cells := 0, slots := 0, locals := 0 } : Room).cells ({ frames := 0, cells := 0, slots := 0, locals := 0 } : Room).slots) := by
  refine MetFree.of_bodySF (plainFor_of_name pnad3) hisR ?_
  intro p e s m args below meth c s₁ Bd hml0 hP hK
  obtain ⟨rfl, hZ, hh⟩ := hP
  have hx := Bd.exec
  have hby := Bd.bytes
  have hml : c.maxLocals = 4 := hml0
  have hown : s.vm.findClass "com/example/clearhour/clearhour/market/Timeline" = some m.cls := findClass_of_methodNamed Bd.named
  have hnm := (name_of_methodNamed Bd.named Bd.method).1
  have X0 : Stand p l e ({ frames := 0, cells := 0, slots := 0, locals := 0 } : Room) s m #[(.ref a), (.long q), .null] below meth c s₁ [] 0 0 := Stand.of_body Bd
  have e0 : s₁.heap = h0 := by rw [← hh, Bd.state]; rfl
  have N0 := Fr.nil n0
  have k0 : Kt p e below m (s₁.setTop (entryFrame m #[(.ref a), (.long q), .null] 4)) s₁ 0 #[.val (.ref a), .val (.long q), .second, .val .null] [] := fun t ht => castTop (efad3 m a q) ht
  have K0 : Keep h0 h0 [a, tb, vb] := Keep.refl _ _
  have k312 : Kt p e below m (s₁.setTop (entryFrame m #[(.ref a), (.long q), .null] 4)) s₁ 1 #[.val (.ref a), .val (.long q), .second, .val .null] [(.ref a)] := by
    intro t ht
    refine k0 t ?_
    show Steps p.tables e below (s₁.setTop (mkF m 0 #[.val (.ref a), .val (.long q), .second, .val .null] [])) t
    refine XS.aloadN X0.here hx rfl (hb hby dad3_0) rfl rfl ?_
    exact ht
  obtain ⟨T313, X313, e313, st313⟩ := getF X0 hx hZ hown (host := "") (Or.inl (hw _ (List.mem_of_getElem? (i := 27) rfl))) Via.refl e0 F_size (g := (mkF m 1 #[.val (.ref a), .val (.long q), .second, .val .null] [(.ref a)])) rfl rfl (hb hby dad3_1)
  have k313 : Kt p e below m (s₁.setTop (entryFrame m #[(.ref a), (.long q), .null] 4)) T313 4 #[.val (.ref a), .val (.long q), .second, .val .null] [(.int (3 : Int32))] := fun t ht => k312 t (st313 t ht)
  have k314 : Kt p e below m (s₁.setTop (entryFrame m #[(.ref a), (.long q), .null] 4)) T313 5 #[.val (.ref a), .val (.long q), .second, .val .null] [(.ref a), (.int (3 : Int32))] := by
    intro t ht
    refine k313 t ?_
    show Steps p.tables e below (T313.setTop (mkF m 4 #[.val (.ref a), .val (.long q), .second, .val .null] [(.int (3 : Int32))])) t
    refine XS.aloadN X313.here hx rfl (hb hby dad3_4) rfl rfl ?_
    exact ht
  obtain ⟨T315, X315, e315, st315⟩ := getF X313 hx hZ hown (host := "") (Or.inl (hw _ (List.mem_of_getElem? (i := 14) rfl))) Via.refl e313 F_times (g := (mkF m 5 #[.val (.ref a), .val (.long q), .second, .val .null] [(.ref a), (.int (3 : Int32))])) rfl rfl (hb hby dad3_5)
  have k315 : Kt p e below m (s₁.setTop (entryFrame m #[(.ref a), (.long q), .null] 4)) T315 8 #[.val (.ref a), .val (.long q), .second, .val .null] [(.ref tb), (.int (3 : Int32))] := fun t ht => k314 t (st315 t ht)
  obtain ⟨cl316, Ar316, qc316, Sz316, Nn316, Hh316, Gg316⟩ := id V_t
  have k317 : Kt p e below m (s₁.setTop (entryFrame m #[(.ref a), (.long q), .null] 4)) T315 47 #[.val (.ref a), .val (.long q), .second, .val .null] [(.ref a)] := by
    intro t ht
    refine k315 t ?_
    show Steps p.tables e below (T315.setTop (mkF m 8 #[.val (.ref a), .val (.long q), .second, .val .null] [(.ref tb), (.int (3 : Int32))])) t
    refine X315.arraylength hx (by rw [e315]; exact Ar316.1) (State.isArrayOf_alike hZ.alike Ar316.2.1) (g := (mkF m 8 #[.val (.ref a), .val (.long q), .second, .val .null] [(.ref tb), (.int (3 : Int32))])) rfl rfl (hb hby dad3_8) _ ?_
    rw [len_of Sz316 Nn316]
    show Steps p.tables e below (T315.setTop (mkF m 9 #[.val (.ref a), .val (.long q), .second, .val .null] [(.int (16 : Int32)), (.int (3 : Int32))])) t
    refine XS.icmpYes X315.here hx rfl (pc0 := 9) (pc' := 46) rfl (hb hby dad3_9) rfl (feq (by decide)).2 (by decide) (by decide) ?_
    show Steps p.tables e below (T315.setTop (mkF m 46 #[.val (.ref a), .val (.long q), .second, .val .null] [])) t
    refine XS.aloadN X315.here hx rfl (hb hby dad3_46) rfl rfl ?_
    exact ht
  obtain ⟨T318, X318, e318, st318⟩ := getF X315 hx hZ hown (host := "") (Or.inl (hw _ (List.mem_of_getElem? (i := 27) rfl))) Via.refl e315 F_size (g := (mkF m 47 #[.val (.ref a), .val (.long q), .second, .val .null] [(.ref a)])) rfl rfl (hb hby dad3_47)
  have k318 : Kt p e below m (s₁.setTop (entryFrame m #[(.ref a), (.long q), .null] 4)) T318 50 #[.val (.ref a), .val (.long q), .second, .val .null] [(.int (3 : Int32))] := fun t ht => k317 t (st318 t ht)
  have k319 : Kt p e below m (s₁.setTop (entryFrame m #[(.ref a), (.long q), .null] 4)) T318 55 #[.val (.ref a), .val (.long q), .second, .val .null] [(.ref a), (.long q)] := by
    intro t ht
    refine k318 t ?_
    show Steps p.tables e below (T318.setTop (mkF m 50 #[.val (.ref a), .val (.long q), .second, .val .null] [(.int (3 : Int32))])) t
    refine XS.ifNo X318.here hx rfl (hb hby dad3_50) rfl ((if0 _ _).trans (tlt (by decide)).2.2.2) ?_
    show Steps p.tables e below (T318.setTop (mkF m 53 #[.val (.ref a), .val (.long q), .second, .val .null] [])) t
    refine XS.lloadN X318.here hx rfl (hb hby dad3_53) rfl ?_
    show Steps p.tables e below (T318.setTop (mkF m 54 #[.val (.ref a), .val (.long q), .second, .val .null] [(.long q)])) t
    refine XS.aloadN X318.here hx rfl (hb hby dad3_54) rfl rfl ?_
    exact ht
  obtain ⟨T320, X320, e320, st320⟩ := getF X318 hx hZ hown (host := "") (Or.inl (hw _ (List.mem_of_getElem? (i := 14) rfl))) Via.refl e318 F_times (g := (mkF m 55 #[.val (.ref a), .val (.long q), .second, .val .null] [(.ref a), (.long q)])) rfl rfl (hb hby dad3_55)
  have k320 : Kt p e below m (s₁.setTop (entryFrame m #[(.ref a), (.long q), .null] 4)) T320 58 #[.val (.ref a), .val (.long q), .second, .val .null] [(.ref tb), (.long q)] := fun t ht => k319 t (st320 t ht)
  have k321 : Kt p e below m (s₁.setTop (entryFrame m #[(.ref a), (.long q), .null] 4)) T320 59 #[.val (.ref a), .val (.long q), .second, .val .null] [(.ref a), (.ref tb), (.long q)] := by
    intro t ht
    refine k320 t ?_
    show Steps p.tables e below (T320.setTop (mkF m 58 #[.val (.ref a), .val (.long q), .second, .val .null] [(.ref tb), (.long q)])) t
    refine XS.aloadN X320.here hx rfl (hb hby dad3_58) rfl rfl ?_
    exact ht
  obtain ⟨T322, X322, e322, st322⟩ := getF X320 hx hZ hown (host := "") (Or.inl (hw _ (List.mem_of_getElem? (i := 27) rfl))) Via.refl e320 F_size (g := (mkF m 59 #[.val (.ref a), .val (.long q), .second, .val .null] [(.ref a), (.ref tb), (.long q)])) rfl rfl (hb hby dad3_59)
  have k322 : Kt p e below m (s₁.setTop (entryFrame m #[(.ref a), (.long q), .null] 4)) T322 62 #[.val (.ref a), .val (.long q), .second, .val .null] [(.int (3 : Int32)), (.ref tb), (.long q)] := fun t ht => k321 t (st322 t ht)
  have k323 : Kt p e below m (s₁.setTop (entryFrame m #[(.ref a), (.long q), .null] 4)) T322 64 #[.val (.ref a), .val (.long q), .second, .val .null] [(.int ((3 : Int32) - (1 : Int32))), (.ref tb), (.long q)] := by
    intro t ht
    refine k322 t ?_
    show Steps p.tables e below (T322.setTop (mkF m 62 #[.val (.ref a), .val (.long q), .second, .val .null] [(.int (3 : Int32)), (.ref tb), (.long q)])) t
    refine XS.iconst X322.here hx rfl (hb hby dad3_62) ?_
    show Steps p.tables e below (T322.setTop (mkF m 63 #[.val (.ref a), .val (.long q), .second, .val .null] [(.int (1 : Int32)), (.int (3 : Int32)), (.ref tb), (.long q)])) t
    refine XS.isub X322.here hx rfl (hb hby dad3_63) rfl ?_
    exact ht
  have q324 : ((3 : Int32) - (1 : Int32)) = (2 : Int32) := by decide
  rw [q324] at k323
  obtain ⟨cl325, Ar325, qc325, Sz325, Nn325, Hh325, Gg325⟩ := id V_t
  have hin325 : ¬ ((2 : Int32) < 0 ∨ cl325.slots.size ≤ ((2 : Int32)).toNatClampNeg) := inb_of Sz325 ⟨by decide, by decide⟩
  have hat325 : cl325.slots[((2 : Int32)).toNatClampNeg]? = some (.long x2) := Hh325.at hin325 rfl
  have k326 : Kt p e below m (s₁.setTop (entryFrame m #[(.ref a), (.long q), .null] 4)) T322 75 #[.val (.ref a), .val (.long q), .second, .val .null] [(.ref a)] := by
    intro t ht
    refine k323 t ?_
    show Steps p.tables e below (T322.setTop (mkF m 64 #[.val (.ref a), .val (.long q), .second, .val .null] [(.int (2 : Int32)), (.ref tb), (.long q)])) t
    refine X322.laload hx (j := (2 : Int32)) (v := (.long x2)) (by rw [e322]; exact Ar325.1) (State.isArrayOf_alike hZ.alike Ar325.2.1) Ar325.2.2 hin325 hat325 (g := (mkF m 64 #[.val (.ref a), .val (.long q), .second, .val .null] [(.int (2 : Int32)), (.ref tb), (.long q)])) rfl rfl (hb hby dad3_64) _ ?_
    show Steps p.tables e below (T322.setTop (mkF m 65 #[.val (.ref a), .val (.long q), .second, .val .null] [(.long x2), (.long q)])) t
    refine XS.lcmp X322.here hx rfl (hb hby dad3_65) rfl ?_
    show Steps p.tables e below (T322.setTop (mkF m 66 #[.val (.ref a), .val (.long q), .second, .val .null] [(.int (lcmpW q x2))])) t
    refine XS.ifYes X322.here hx rfl (pc0 := 66) (pc' := 74) rfl (hb hby dad3_66) rfl ((if0 _ _).trans (flt (mt (lw_lt _ _).mp hord)).2.1) (by decide) (by decide) ?_
    show Steps p.tables e below (T322.setTop (mkF m 74 #[.val (.ref a), .val (.long q), .second, .val .null] [])) t
    refine XS.aloadN X322.here hx rfl (hb hby dad3_74) rfl rfl ?_
    exact ht
  obtain ⟨T327, X327, e327, st327⟩ := getF X322 hx hZ hown (host := "") (Or.inl (hw _ (List.mem_of_getElem? (i := 14) rfl))) Via.refl e322 F_times (g := (mkF m 75 #[.val (.ref a), .val (.long q), .second, .val .null] [(.ref a)])) rfl rfl (hb hby dad3_75)
  have k327 : Kt p e below m (s₁.setTop (entryFrame m #[(.ref a), (.long q), .null] 4)) T327 78 #[.val (.ref a), .val (.long q), .second, .val .null] [(.ref tb)] := fun t ht => k326 t (st327 t ht)
  have k328 : Kt p e below m (s₁.setTop (entryFrame m #[(.ref a), (.long q), .null] 4)) T327 79 #[.val (.ref a), .val (.long q), .second, .val .null] [(.ref a), (.ref tb)] := by
    intro t ht
    refine k327 t ?_
    show Steps p.tables e below (T327.setTop (mkF m 78 #[.val (.ref a), .val (.long q), .second, .val .null] [(.ref tb)])) t
    refine XS.aloadN X327.here hx rfl (hb hby dad3_78) rfl rfl ?_
    exact ht
  obtain ⟨T329, X329, e329, st329⟩ := getF X327 hx hZ hown (host := "") (Or.inl (hw _ (List.mem_of_getElem? (i := 27) rfl))) Via.refl e327 F_size (g := (mkF m 79 #[.val (.ref a), .val (.long q), .second, .val .null] [(.ref a), (.ref tb)])) rfl rfl (hb hby dad3_79)
  have k329 : Kt p e below m (s₁.setTop (entryFrame m #[(.ref a), (.long q), .null] 4)) T329 82 #[.val (.ref a), .val (.long q), .second, .val .null] [(.int (3 : Int32)), (.ref tb)] := fun t ht => k328 t (st329 t ht)
  have k330 : Kt p e below m (s₁.setTop (entryFrame m #[(.ref a), (.long q), .null] 4)) T329 83 #[.val (.ref a), .val (.long q), .second, .val .null] [(.long q), (.int (3 : Int32)), (.ref tb)] := by
    intro t ht
    refine k329 t ?_
    show Steps p.tables e below (T329.setTop (mkF m 82 #[.val (.ref a), .val (.long q), .second, .val .null] [(.int (3 : Int32)), (.ref tb)])) t
    refine XS.lloadN X329.here hx rfl (hb hby dad3_82) rfl ?_
    exact ht
  obtain ⟨cl331, Ar331, qc331, Sz331, Nn331, Hh331, Gg331⟩ := id V_t
  have hin331 : ¬ ((3 : Int32) < 0 ∨ cl331.slots.size ≤ ((3 : Int32)).toNatClampNeg) := inb_of Sz331 ⟨by decide, by decide⟩
  obtain ⟨T331, h331, X331, e331, W331, st331⟩ := stJ X329 hx hZ e329 Ar331 (j := (3 : Int32)) hin331 (g := (mkF m 83 #[.val (.ref a), .val (.long q), .second, .val .null] [(.long q), (.int (3 : Int32)), (.ref tb)])) rfl rfl (hb hby dad3_83)
  have N331 := Fr.snoc X331 N0 g_tb
  have f332 : n0 ≤ h331.size := Nat.le_trans Z0 (Keep.of_wr W331).1
  have f333 : Exa Z h331 a "com/example/clearhour/clearhour/market/Timeline" := E_a.wr W331
  have f334 : Fld Z h331 a "com/example/clearhour/clearhour/market/Timeline" "times" "[J" (.ref tb) := F_times.other W331 (Or.inl ne_a_tb)
  have f335 : Fld Z h331 a "com/example/clearhour/clearhour/market/Timeline" "values" "[Ljava/lang/Object;" (.ref vb) := F_values.other W331 (Or.inl ne_a_tb)
  have f336 : Fld Z h331 a "com/example/clearhour/clearhour/market/Timeline" "size" "I" (.int (3 : Int32)) := F_size.other W331 (Or.inl ne_a_tb)
  have f337 : Arv Z h331 tb kt .long (16 : Int32) [(.long x0), (.long x1), (.long x2), (.long q)] (.long (0 : Int64)) := Arv.set Ar331 qc331 Sz331 Nn331 Hh331 Gg331 rfl W331 3 rfl (Nat.le_of_ble_eq_true rfl)
  have f338 : Arv Z h331 vb kv (.object "java/lang/Object") (16 : Int32) [.null, .null, .null, .null] .null := V_v.other W331 ne_tb_vb.symm
  have f339 : Keep h0 h331 [a, tb, vb] := K0.wr W331 (Or.inl (List.mem_of_getElem? (i := 1) rfl))
  have k331 : Kt p e below m (s₁.setTop (entryFrame m #[(.ref a), (.long q), .null] 4)) T331 84 #[.val (.ref a), .val (.long q), .second, .val .null] [] := fun t ht => k330 t (st331 t ht)
  have k340 : Kt p e below m (s₁.setTop (entryFrame m #[(.ref a), (.long q), .null] 4)) T331 85 #[.val (.ref a), .val (.long q), .second, .val .null] [(.ref a)] := by
    intro t ht
    refine k331 t ?_
    show Steps p.tables e below (T331.setTop (mkF m 84 #[.val (.ref a), .val (.long q), .second, .val .null] [])) t
    refine XS.aloadN X331.here hx rfl (hb hby dad3_84) rfl rfl ?_
    exact ht
  obtain ⟨T341, X341, e341, st341⟩ := getF X331 hx hZ hown (host := "") (Or.inl (hw _ (List.mem_of_getElem? (i := 18) rfl))) Via.refl e331 f335 (g := (mkF m 85 #[.val (.ref a), .val (.long q), .second, .val .null] [(.ref a)])) rfl rfl (hb hby dad3_85)
  have k341 : Kt p e below m (s₁.setTop (entryFrame m #[(.ref a), (.long q), .null] 4)) T341 88 #[.val (.ref a), .val (.long q), .second, .val .null] [(.ref vb)] := fun t ht => k340 t (st341 t ht)
  have k342 : Kt p e below m (s₁.setTop (entryFrame m #[(.ref a), (.long q), .null] 4)) T341 89 #[.val (.ref a), .val (.long q), .second, .val .null] [(.ref a), (.ref vb)] := by
    intro t ht
    refine k341 t ?_
    show Steps p.tables e below (T341.setTop (mkF m 88 #[.val (.ref a), .val (.long q), .second, .val .null] [(.ref vb)])) t
    refine XS.aloadN X341.here hx rfl (hb hby dad3_88) rfl rfl ?_
    exact ht
  obtain ⟨T343, X343, e343, st343⟩ := getF X341 hx hZ hown (host := "") (Or.inl (hw _ (List.mem_of_getElem? (i := 27) rfl))) Via.refl e341 f336 (g := (mkF m 89 #[.val (.ref a), .val (.long q), .second, .val .null] [(.ref a), (.ref vb)])) rfl rfl (hb hby dad3_89)
  have k343 : Kt p e below m (s₁.setTop (entryFrame m #[(.ref a), (.long q), .null] 4)) T343 92 #[.val (.ref a), .val (.long q), .second, .val .null] [(.int (3 : Int32)), (.ref vb)] := fun t ht => k342 t (st343 t ht)
  have k344 : Kt p e below m (s₁.setTop (entryFrame m #[(.ref a), (.long q), .null] 4)) T343 93 #[.val (.ref a), .val (.long q), .second, .val .null] [.null, (.int (3 : Int32)), (.ref vb)] := by
    intro t ht
    refine k343 t ?_
    show Steps p.tables e below (T343.setTop (mkF m 92 #[.val (.ref a), .val (.long q), .second, .val .null] [(.int (3 : Int32)), (.ref vb)])) t
    refine XS.aloadN X343.here hx rfl (hb hby dad3_92) rfl rfl ?_
    exact ht
  obtain ⟨cl345, Ar345, qc345, Sz345, Nn345, Hh345, Gg345⟩ := id f338
  have hin345 : ¬ ((3 : Int32) < 0 ∨ cl345.slots.size ≤ ((3 : Int32)).toNatClampNeg) := inb_of Sz345 ⟨by decide, by decide⟩
  obtain ⟨T345, h345, X345, e345, W345, st345⟩ := stR X343 hx hZ e343 Ar345 (j := (3 : Int32)) hin345 rfl (Or.inl rfl) (g := (mkF m 93 #[.val (.ref a), .val (.long q), .second, .val .null] [.null, (.int (3 : Int32)), (.ref vb)])) rfl rfl (hb hby dad3_93)
  have N345 := Fr.snoc X345 N331 g_vb
  have f346 : n0 ≤ h345.size := Nat.le_trans f332 (Keep.of_wr W345).1
  have f347 : Exa Z h345 a "com/example/clearhour/clearhour/market/Timeline" := f333.wr W345
  have f348 : Fld Z h345 a "com/example/clearhour/clearhour/market/Timeline" "times" "[J" (.ref tb) := f334.other W345 (Or.inl ne_a_vb)
  have f349 : Fld Z h345 a "com/example/clearhour/clearhour/market/Timeline" "values" "[Ljava/lang/Object;" (.ref vb) := f335.other W345 (Or.inl ne_a_vb)
  have f350 : Fld Z h345 a "com/example/clearhour/clearhour/market/Timeline" "size" "I" (.int (3 : Int32)) := f336.other W345 (Or.inl ne_a_vb)
  have f351 : Arv Z h345 tb kt .long (16 : Int32) [(.long x0), (.long x1), (.long x2), (.long q)] (.long (0 : Int64)) := f337.other W345 ne_tb_vb
  have f352 : Arv Z h345 vb kv (.object "java/lang/Object") (16 : Int32) [.null, .null, .null, .null] .null := Arv.set Ar345 qc345 Sz345 Nn345 Hh345 Gg345 rfl W345 3 rfl (Nat.le_of_ble_eq_true rfl)
  have f353 : Keep h0 h345 [a, tb, vb] := f339.wr W345 (Or.inl (List.mem_of_getElem? (i := 2) rfl))
  have k345 : Kt p e below m (s₁.setTop (entryFrame m #[(.ref a), (.long q), .null] 4)) T345 94 #[.val (.ref a), .val (.long q), .second, .val .null] [] := fun t ht => k344 t (st345 t ht)
  have k354 : Kt p e below m (s₁.setTop (entryFrame m #[(.ref a), (.long q), .null] 4)) T345 96 #[.val (.ref a), .val (.long q), .second, .val .null] [(.ref a), (.ref a)] := by
    intro t ht
    refine k345 t ?_
    show Steps p.tables e below (T345.setTop (mkF m 94 #[.val (.ref a), .val (.long q), .second, .val .null] [])) t
    refine XS.aloadN X345.here hx rfl (hb hby dad3_94) rfl rfl ?_
    show Steps p.tables e below (T345.setTop (mkF m 95 #[.val (.ref a), .val (.long q), .second, .val .null] [(.ref a)])) t
    refine XS.dup X345.here hx rfl (hb hby dad3_95) rfl rfl ?_
    exact ht
  obtain ⟨T355, X355, e355, st355⟩ := getF X345 hx hZ hown (host := "") (Or.inl (hw _ (List.mem_of_getElem? (i := 27) rfl))) Via.refl e345 f350 (g := (mkF m 96 #[.val (.ref a), .val (.long q), .second, .val .null] [(.ref a), (.ref a)])) rfl rfl (hb hby dad3_96)
  have k355 : Kt p e below m (s₁.setTop (entryFrame m #[(.ref a), (.long q), .null] 4)) T355 99 #[.val (.ref a), .val (.long q), .second, .val .null] [(.int (3 : Int32)), (.ref a)] := fun t ht => k354 t (st355 t ht)
  have k356 : Kt p e below m (s₁.setTop (entryFrame m #[(.ref a), (.long q), .null] 4)) T355 101 #[.val (.ref a), .val (.long q), .second, .val .null] [(.int ((3 : Int32) + (1 : Int32))), (.ref a)] := by
    intro t ht
    refine k355 t ?_
    show Steps p.tables e below (T355.setTop (mkF m 99 #[.val (.ref a), .val (.long q), .second, .val .null] [(.int (3 : Int32)), (.ref a)])) t
    refine XS.iconst X355.here hx rfl (hb hby dad3_99) ?_
    show Steps p.tables e below (T355.setTop (mkF m 100 #[.val (.ref a), .val (.long q), .second, .val .null] [(.int (1 : Int32)), (.int (3 : Int32)), (.ref a)])) t
    refine XS.iadd X355.here hx rfl (hb hby dad3_100) rfl ?_
    exact ht
  have q357 : ((3 : Int32) + (1 : Int32)) = (4 : Int32) := by decide
  rw [q357] at k356
  obtain ⟨T358, h358, X358, e358, W358, st358⟩ := putF X355 hx hZ hown (host := "") (Or.inl (hw _ (List.mem_of_getElem? (i := 27) rfl))) Via.refl e355 f350 f347 (Or.inl (hw _ (List.mem_of_getElem? (i := 28) rfl))) (hw _ (List.mem_of_getElem? (i := 6) rfl)) (ty := .int) (by decide) rfl rfl (g := (mkF m 101 #[.val (.ref a), .val (.long q), .second, .val .null] [(.int (4 : Int32)), (.ref a)])) rfl rfl (hb hby dad3_101)
  have N358 := Fr.snoc X358 N345 g_a
  have f359 : n0 ≤ h358.size := Nat.le_trans f346 (Keep.of_wr W358).1
  have f360 : Exa Z h358 a "com/example/clearhour/clearhour/market/Timeline" := f347.wr W358
  have f361 : Fld Z h358 a "com/example/clearhour/clearhour/market/Timeline" "times" "[J" (.ref tb) := f348.other W358 (Or.inr (slot_ne (Or.inl (hw _ (List.mem_of_getElem? (i := 15) rfl))) (Or.inl (hw _ (List.mem_of_getElem? (i := 28) rfl))) (by decide) (t := (.array .long)) (t' := .int) (by decide) (by decide)))
  have f362 : Fld Z h358 a "com/example/clearhour/clearhour/market/Timeline" "values" "[Ljava/lang/Object;" (.ref vb) := f349.other W358 (Or.inr (slot_ne (Or.inl (hw _ (List.mem_of_getElem? (i := 19) rfl))) (Or.inl (hw _ (List.mem_of_getElem? (i := 28) rfl))) (by decide) (t := (.array (.object "java/lang/Object"))) (t' := .int) (by decide) (by decide)))
  have f363 : Fld Z h358 a "com/example/clearhour/clearhour/market/Timeline" "size" "I" (.int (4 : Int32)) := f350.same W358
  have f364 : Arv Z h358 tb kt .long (16 : Int32) [(.long x0), (.long x1), (.long x2), (.long q)] (.long (0 : Int64)) := f351.other W358 ne_a_tb.symm
  have f365 : Arv Z h358 vb kv (.object "java/lang/Object") (16 : Int32) [.null, .null, .null, .null] .null := f352.other W358 ne_a_vb.symm
  have f366 : Keep h0 h358 [a, tb, vb] := f353.wr W358 (Or.inl (List.mem_of_getElem? (i := 0) rfl))
  have k358 : Kt p e below m (s₁.setTop (entryFrame m #[(.ref a), (.long q), .null] 4)) T358 104 #[.val (.ref a), .val (.long q), .second, .val .null] [] := fun t ht => k356 t (st358 t ht)
  obtain ⟨fs, hr, hrun, hended, hW, hsame⟩ := X358.leave (v := none) (fun _ => rfl)
  refine ⟨_, _, k358 _ ?_, hrun, hended, _, _, rfl, ?_, ⟨_, rfl⟩, hW, hsame.mono (by decide) (by decide)⟩
  · exact X358.returnOut hx Bd.returns (hb hby dad3_104) hr
  · show Qad3 Z a q tb vb kt kv x0 x1 x2 x3 h0 n0 _ T358.heap _
    rw [e358]
    exact ⟨rfl, N358, f366, f361, f362, f363, f364, f365⟩
theorem d5_0 : decode method_3_code 0 = .ok (.lload_n 0, 1) := by decide +kernel
theorem d5_1 : decode method_3_code 1 = .ok (.lload_n 2, 1) := by decide +kernel
theorem d5_2 : decode method_3_code 2 = .ok (.lcmp, 1) := by decide +kernel
theorem d5_3 : decode method_3_code 3 = .ok (.ifCond .ge 7, 3) := by decide +kernel
theorem d5_6 : decode method_3_code 6 = .ok (.iconst 1, 1) := by decide +kernel
theorem d5_7 : decode method_3_code 7 = .ok (.goto 4, 3) := by decide +kernel
theorem d5_10 : decode method_3_code 10 = .ok (.iconst 0, 1) := by decide +kernel
theorem d5_11 : decode method_3_code 11 = .ok (.ireturn, 1) := by decide +kernel
theorem pn5 : plainName "com/example/clearhour/clearhour/market/TimelineIndexFromPinLaw" = true := by first | (simp [plainName, overriddenIn]; done) | decide +kernel
theorem ef5 (m : MethodId) (q1 : Int64) (q2 : Int64) : entryFrame m #[(.long q1), (.long q2)] 4 = mkF m 0 #[.val (.long q1), .second, .val (.long q2), .second] [] := by first | (simp [entryFrame, mkF, argsToLocals, Value.category]; done) | rfl
def Q5 (Z : State) (q1 : Int64) (q2 : Int64) (h0 : Heap) (n0 : Nat) (v : Option Value) (h : Heap) (L : List Loc) : Prop := v = some (.int (own_b (q1 < q2))) ∧ Fr n0 L ∧ h = h0
set_option maxRecDepth 65536 in
set_option maxHeartbeats 40000000 in
theorem rm5 (l : Launch) (Z : State) (a0 : Array Value) (hw : ∀ d ∈ tables_1, d.before a0 Z = true) (ws : List Jvm.Cond) (q1 : Int64) (q2 : Int64) (h0 : Heap) (n0 : Nat) (Z0 : n0 ≤ h0.size)  :
    MetFree l (⟨"com/example/clearhour/clearhour/market/TimelineIndexFromPinLaw", "lt", "(JJ)I"⟩ : MethodName) (head1 (Jvm.Cond.code (⟨"com/example/clearhour/clearhour/market/TimelineIndexFromPinLaw", "lt", "(JJ)I"⟩ : MethodName) method_3_code 4 (some .int) :: ws) ({ frames := 0, cells := 0, slots := 0, locals := 0 } : Room)) (fun gs' U => gs' = #[(.long q1), (.long q2)] ∧ Z.Warmed39 U.vm ∧ U.heap = h0) (fun _ _ _ _ _ => True) (fun _ U o U' => ∃ v L, o = .returned v ∧ Q5 Z q1 q2 h0 n0 v U'.heap L ∧ FrameEnd U o U' L ({ frames := 0, cells := 0, slots := 0, locals := 0 } : Room).cells ({ frames := 0, cells := 0, slots := 0, locals := 0 } : Room).slots) := by
  refine MetFree.of_bodySF (plainFor_of_name pn5) hisR ?_
  intro p e s m args below meth c s₁ Bd hml0 hP hK
  obtain ⟨rfl, hZ, hh⟩ := hP
  have hx := Bd.exec
  have hby := Bd.bytes
  have hml : c.maxLocals = 4 := hml0
  have hown : s.vm.findClass "com/example/clearhour/clearhour/market/TimelineIndexFromPinLaw" = some m.cls := findClass_of_methodNamed Bd.named
  have hnm := (name_of_methodNamed Bd.named Bd.method).1
  have X0 : Stand p l e ({ frames := 0, cells := 0, slots := 0, locals := 0 } : Room) s m #[(.long q1), (.long q2)] below meth c s₁ [] 0 0 := Stand.of_body Bd
  have e0 : s₁.heap = h0 := by rw [← hh, Bd.state]; rfl
  have N0 := Fr.nil n0
  have k0 : Kt p e below m (s₁.setTop (entryFrame m #[(.long q1), (.long q2)] 4)) s₁ 0 #[.val (.long q1), .second, .val (.long q2), .second] [] := fun t ht => castTop (ef5 m q1 q2) ht
  have k367 : Kt p e below m (s₁.setTop (entryFrame m #[(.long q1), (.long q2)] 4)) s₁ 3 #[.val (.long q1), .second, .val (.long q2), .second] [(.int (lcmpW q1 q2))] := by
    intro t ht
    refine k0 t ?_
    show Steps p.tables e below (s₁.setTop (mkF m 0 #[.val (.long q1), .second, .val (.long q2), .second] [])) t
    refine XS.lloadN X0.here hx rfl (hb hby d5_0) rfl ?_
    show Steps p.tables e below (s₁.setTop (mkF m 1 #[.val (.long q1), .second, .val (.long q2), .second] [(.long q1)])) t
    refine XS.lloadN X0.here hx rfl (hb hby d5_1) rfl ?_
    show Steps p.tables e below (s₁.setTop (mkF m 2 #[.val (.long q1), .second, .val (.long q2), .second] [(.long q2), (.long q1)])) t
    refine XS.lcmp X0.here hx rfl (hb hby d5_2) rfl ?_
    exact ht
  by_cases h1 : q1 < q2
  · have k368 : Kt p e below m (s₁.setTop (entryFrame m #[(.long q1), (.long q2)] 4)) s₁ 11 #[.val (.long q1), .second, .val (.long q2), .second] [(.int (1 : Int32))] := by
      intro t ht
      refine k367 t ?_
      show Steps p.tables e below (s₁.setTop (mkF m 3 #[.val (.long q1), .second, .val (.long q2), .second] [(.int (lcmpW q1 q2))])) t
      refine XS.ifNo X0.here hx rfl (hb hby d5_3) rfl ((if0 _ _).trans (tlt ((lw_lt _ _).mpr h1)).2.1) ?_
      show Steps p.tables e below (s₁.setTop (mkF m 6 #[.val (.long q1), .second, .val (.long q2), .second] [])) t
      refine XS.iconst X0.here hx rfl (hb hby d5_6) ?_
      show Steps p.tables e below (s₁.setTop (mkF m 7 #[.val (.long q1), .second, .val (.long q2), .second] [(.int (1 : Int32))])) t
      refine XS.goto X0.here hx rfl (pc0 := 7) (pc' := 11) rfl (hb hby d5_7) (by decide) (by decide) ?_
      exact ht
    obtain ⟨fs, hr, hrun, hended, hW, hsame⟩ := X0.leave (v := some (.int (1 : Int32))) (fun h => by rw [Bd.returns] at h; cases h)
    refine ⟨_, _, k368 _ ?_, hrun, hended, _, _, rfl, ?_, ⟨_, rfl⟩, hW, hsame.mono (by decide) (by decide)⟩
    · exact retI X0 hx Bd.returns (hb hby d5_11) hr
    · show Q5 Z q1 q2 h0 n0 _ s₁.heap _
      rw [e0]
      exact ⟨congrArg (fun z => some (Value.int z)) (own_b1 h1), N0, rfl⟩
  · have k369 : Kt p e below m (s₁.setTop (entryFrame m #[(.long q1), (.long q2)] 4)) s₁ 11 #[.val (.long q1), .second, .val (.long q2), .second] [(.int (0 : Int32))] := by
      intro t ht
      refine k367 t ?_
      show Steps p.tables e below (s₁.setTop (mkF m 3 #[.val (.long q1), .second, .val (.long q2), .second] [(.int (lcmpW q1 q2))])) t
      refine XS.ifYes X0.here hx rfl (pc0 := 3) (pc' := 10) rfl (hb hby d5_3) rfl ((if0 _ _).trans (flt (mt (lw_lt _ _).mp h1)).2.1) (by decide) (by decide) ?_
      show Steps p.tables e below (s₁.setTop (mkF m 10 #[.val (.long q1), .second, .val (.long q2), .second] [])) t
      refine XS.iconst X0.here hx rfl (hb hby d5_10) ?_
      exact ht
    obtain ⟨fs, hr, hrun, hended, hW, hsame⟩ := X0.leave (v := some (.int (0 : Int32))) (fun h => by rw [Bd.returns] at h; cases h)
    refine ⟨_, _, k369 _ ?_, hrun, hended, _, _, rfl, ?_, ⟨_, rfl⟩, hW, hsame.mono (by decide) (by decide)⟩
    · exact retI X0 hx Bd.returns (hb hby d5_11) hr
    · show Q5 Z q1 q2 h0 n0 _ s₁.heap _
      rw [e0]
      exact ⟨congrArg (fun z => some (Value.int z)) (own_b0 h1), N0, rfl⟩
theorem dix0_0 : decode prog_61_method_8_code 0 = .ok (.iconst 0, 1) := by decide +kernel
theorem dix0_1 : decode prog_61_method_8_code 1 = .ok (.istore_n 3, 1) := by decide +kernel
theorem dix0_2 : decode prog_61_method_8_code 2 = .ok (.aload_n 0, 1) := by decide +kernel
theorem dix0_3 : decode prog_61_method_8_code 3 = .ok (.getfield 21, 3) := by decide +kernel
theorem dix0_6 : decode prog_61_method_8_code 6 = .ok (.istore 4, 2) := by decide +kernel
theorem dix0_8 : decode prog_61_method_8_code 8 = .ok (.iload_n 3, 1) := by decide +kernel
theorem dix0_9 : decode prog_61_method_8_code 9 = .ok (.iload 4, 2) := by decide +kernel
theorem dix0_11 : decode prog_61_method_8_code 11 = .ok (.if_icmp .ge 38, 3) := by decide +kernel
theorem dix0_14 : decode prog_61_method_8_code 14 = .ok (.iload_n 3, 1) := by decide +kernel
theorem dix0_15 : decode prog_61_method_8_code 15 = .ok (.iload 4, 2) := by decide +kernel
theorem dix0_17 : decode prog_61_method_8_code 17 = .ok (.iadd, 1) := by decide +kernel
theorem dix0_18 : decode prog_61_method_8_code 18 = .ok (.iconst 1, 1) := by decide +kernel
theorem dix0_19 : decode prog_61_method_8_code 19 = .ok (.iushr, 1) := by decide +kernel
theorem dix0_20 : decode prog_61_method_8_code 20 = .ok (.istore 5, 2) := by decide +kernel
theorem dix0_22 : decode prog_61_method_8_code 22 = .ok (.aload_n 0, 1) := by decide +kernel
theorem dix0_23 : decode prog_61_method_8_code 23 = .ok (.getfield 9, 3) := by decide +kernel
theorem dix0_26 : decode prog_61_method_8_code 26 = .ok (.iload 5, 2) := by decide +kernel
theorem dix0_28 : decode prog_61_method_8_code 28 = .ok (.laload, 1) := by decide +kernel
theorem dix0_29 : decode prog_61_method_8_code 29 = .ok (.lload_n 1, 1) := by decide +kernel
theorem dix0_30 : decode prog_61_method_8_code 30 = .ok (.lcmp, 1) := by decide +kernel
theorem dix0_31 : decode prog_61_method_8_code 31 = .ok (.ifCond .ge 11, 3) := by decide +kernel
theorem dix0_34 : decode prog_61_method_8_code 34 = .ok (.iload 5, 2) := by decide +kernel
theorem dix0_36 : decode prog_61_method_8_code 36 = .ok (.iconst 1, 1) := by decide +kernel
theorem dix0_37 : decode prog_61_method_8_code 37 = .ok (.iadd, 1) := by decide +kernel
theorem dix0_38 : decode prog_61_method_8_code 38 = .ok (.istore_n 3, 1) := by decide +kernel
theorem dix0_39 : decode prog_61_method_8_code 39 = .ok (.goto 7, 3) := by decide +kernel
theorem dix0_42 : decode prog_61_method_8_code 42 = .ok (.iload 5, 2) := by decide +kernel
theorem dix0_44 : decode prog_61_method_8_code 44 = .ok (.istore 4, 2) := by decide +kernel
theorem dix0_46 : decode prog_61_method_8_code 46 = .ok (.goto (-38), 3) := by decide +kernel
theorem dix0_49 : decode prog_61_method_8_code 49 = .ok (.iload_n 3, 1) := by decide +kernel
theorem dix0_50 : decode prog_61_method_8_code 50 = .ok (.ireturn, 1) := by decide +kernel
theorem pnix0 : plainName "com/example/clearhour/clearhour/market/Timeline" = true := by first | (simp [plainName, overriddenIn]; done) | decide +kernel
theorem efix0 (m : MethodId) (a : Addr) (q : Int64) : entryFrame m #[(.ref a), (.long q)] 6 = mkF m 0 #[.val (.ref a), .val (.long q), .second, .unset, .unset, .unset] [] := by first | (simp [entryFrame, mkF, argsToLocals, Value.category]; done) | rfl
def Qix0 (Z : State) (a : Addr) (q : Int64) (tb : Addr) (kt : ClassId) (x0 : Int64) (x1 : Int64) (x2 : Int64) (x3 : Int64) (h0 : Heap) (n0 : Nat) (v : Option Value) (h : Heap) (L : List Loc) : Prop := v = some (.int (0 : Int32)) ∧ Fr n0 L ∧ h = h0
set_option maxRecDepth 65536 in
set_option maxHeartbeats 40000000 in
theorem rmix0 (l : Launch) (Z : State) (a0 : Array Value) (hw : ∀ d ∈ tables_1, d.before a0 Z = true) (ws : List Jvm.Cond) (a : Addr) (q : Int64) (tb : Addr) (kt : ClassId) (x0 : Int64) (x1 : Int64) (x2 : Int64) (x3 : Int64) (h0 : Heap) (n0 : Nat) (Z0 : n0 ≤ h0.size) (F_times : Fld Z h0 a "com/example/clearhour/clearhour/market/Timeline" "times" "[J" (.ref tb)) (F_size : Fld Z h0 a "com/example/clearhour/clearhour/market/Timeline" "size" "I" (.int (0 : Int32))) (V_t : Arv Z h0 tb kt .long (16 : Int32) [(.long x0), (.long x1), (.long x2), (.long x3)] (.long (0 : Int64))) :
    MetFree l (⟨"com/example/clearhour/clearhour/market/Timeline", "indexFrom", "(J)I"⟩ : MethodName) (head1 (Jvm.Cond.code (⟨"com/example/clearhour/clearhour/market/Timeline", "indexFrom", "(J)I"⟩ : MethodName) prog_61_method_8_code 6 (some .int) :: ws) ({ frames := 0, cells := 0, slots := 0, locals := 0 } : Room)) (fun gs' U => gs' = #[(.ref a), (.long q)] ∧ Z.Warmed39 U.vm ∧ U.heap = h0) (fun _ _ _ _ _ => True) (fun _ U o U' => ∃ v L, o = .returned v ∧ Qix0 Z a q tb kt x0 x1 x2 x3 h0 n0 v U'.heap L ∧ FrameEnd U o U' L ({ frames := 0, cells := 0, slots := 0, locals := 0 } : Room).cells ({ frames := 0, cells := 0, slots := 0, locals := 0 } : Room).slots) := by
  refine MetFree.of_bodySF (plainFor_of_name pnix0) hisR ?_
  intro p e s m args below meth c s₁ Bd hml0 hP hK
  obtain ⟨rfl, hZ, hh⟩ := hP
  have hx := Bd.exec
  have hby := Bd.bytes
  have hml : c.maxLocals = 6 := hml0
  have hown : s.vm.findClass "com/example/clearhour/clearhour/market/Timeline" = some m.cls := findClass_of_methodNamed Bd.named
  have hnm := (name_of_methodNamed Bd.named Bd.method).1
  have X0 : Stand p l e ({ frames := 0, cells := 0, slots := 0, locals := 0 } : Room) s m #[(.ref a), (.long q)] below meth c s₁ [] 0 0 := Stand.of_body Bd
  have e0 : s₁.heap = h0 := by rw [← hh, Bd.state]; rfl
  have N0 := Fr.nil n0
  have k0 : Kt p e below m (s₁.setTop (entryFrame m #[(.ref a), (.long q)] 6)) s₁ 0 #[.val (.ref a), .val (.long q), .second, .unset, .unset, .unset] [] := fun t ht => castTop (efix0 m a q) ht
  have k370 : Kt p e below m (s₁.setTop (entryFrame m #[(.ref a), (.long q)] 6)) s₁ 3 #[.val (.ref a), .val (.long q), .second, .val (.int (0 : Int32)), .unset, .unset] [(.ref a)] := by
    intro t ht
    refine k0 t ?_
    show Steps p.tables e below (s₁.setTop (mkF m 0 #[.val (.ref a), .val (.long q), .second, .unset, .unset, .unset] [])) t
    refine XS.iconst X0.here hx rfl (hb hby dix0_0) ?_
    show Steps p.tables e below (s₁.setTop (mkF m 1 #[.val (.ref a), .val (.long q), .second, .unset, .unset, .unset] [(.int (0 : Int32))])) t
    refine XS.istoreN X0.here hx rfl (hb hby dix0_1) rfl (l' := #[.val (.ref a), .val (.long q), .second, .val (.int (0 : Int32)), .unset, .unset]) rfl ?_
    show Steps p.tables e below (s₁.setTop (mkF m 2 #[.val (.ref a), .val (.long q), .second, .val (.int (0 : Int32)), .unset, .unset] [])) t
    refine XS.aloadN X0.here hx rfl (hb hby dix0_2) rfl rfl ?_
    exact ht
  obtain ⟨T371, X371, e371, st371⟩ := getF X0 hx hZ hown (host := "") (Or.inl (hw _ (List.mem_of_getElem? (i := 27) rfl))) Via.refl e0 F_size (g := (mkF m 3 #[.val (.ref a), .val (.long q), .second, .val (.int (0 : Int32)), .unset, .unset] [(.ref a)])) rfl rfl (hb hby dix0_3)
  have k371 : Kt p e below m (s₁.setTop (entryFrame m #[(.ref a), (.long q)] 6)) T371 6 #[.val (.ref a), .val (.long q), .second, .val (.int (0 : Int32)), .unset, .unset] [(.int (0 : Int32))] := fun t ht => k370 t (st371 t ht)
  have k372 : Kt p e below m (s₁.setTop (entryFrame m #[(.ref a), (.long q)] 6)) T371 50 #[.val (.ref a), .val (.long q), .second, .val (.int (0 : Int32)), .val (.int (0 : Int32)), .unset] [(.int (0 : Int32))] := by
    intro t ht
    refine k371 t ?_
    show Steps p.tables e below (T371.setTop (mkF m 6 #[.val (.ref a), .val (.long q), .second, .val (.int (0 : Int32)), .unset, .unset] [(.int (0 : Int32))])) t
    refine XS.istore X371.here hx rfl (hb hby dix0_6) rfl (l' := #[.val (.ref a), .val (.long q), .second, .val (.int (0 : Int32)), .val (.int (0 : Int32)), .unset]) rfl ?_
    show Steps p.tables e below (T371.setTop (mkF m 8 #[.val (.ref a), .val (.long q), .second, .val (.int (0 : Int32)), .val (.int (0 : Int32)), .unset] [])) t
    refine XS.iloadN X371.here hx rfl (hb hby dix0_8) rfl ?_
    show Steps p.tables e below (T371.setTop (mkF m 9 #[.val (.ref a), .val (.long q), .second, .val (.int (0 : Int32)), .val (.int (0 : Int32)), .unset] [(.int (0 : Int32))])) t
    refine XS.iload X371.here hx rfl (hb hby dix0_9) rfl ?_
    show Steps p.tables e below (T371.setTop (mkF m 11 #[.val (.ref a), .val (.long q), .second, .val (.int (0 : Int32)), .val (.int (0 : Int32)), .unset] [(.int (0 : Int32)), (.int (0 : Int32))])) t
    refine XS.icmpYes X371.here hx rfl (pc0 := 11) (pc' := 49) rfl (hb hby dix0_11) rfl (flt (by decide)).2.1 (by decide) (by decide) ?_
    show Steps p.tables e below (T371.setTop (mkF m 49 #[.val (.ref a), .val (.long q), .second, .val (.int (0 : Int32)), .val (.int (0 : Int32)), .unset] [])) t
    refine XS.iloadN X371.here hx rfl (hb hby dix0_49) rfl ?_
    exact ht
  obtain ⟨fs, hr, hrun, hended, hW, hsame⟩ := X371.leave (v := some (.int (0 : Int32))) (fun h => by rw [Bd.returns] at h; cases h)
  refine ⟨_, _, k372 _ ?_, hrun, hended, _, _, rfl, ?_, ⟨_, rfl⟩, hW, hsame.mono (by decide) (by decide)⟩
  · exact retI X371 hx Bd.returns (hb hby dix0_50) hr
  · show Qix0 Z a q tb kt x0 x1 x2 x3 h0 n0 _ T371.heap _
    rw [e371]
    exact ⟨congrArg (fun z => some (Value.int z)) (by decide), N0, rfl⟩
theorem dix1_0 : decode prog_61_method_8_code 0 = .ok (.iconst 0, 1) := by decide +kernel
theorem dix1_1 : decode prog_61_method_8_code 1 = .ok (.istore_n 3, 1) := by decide +kernel
theorem dix1_2 : decode prog_61_method_8_code 2 = .ok (.aload_n 0, 1) := by decide +kernel
theorem dix1_3 : decode prog_61_method_8_code 3 = .ok (.getfield 21, 3) := by decide +kernel
theorem dix1_6 : decode prog_61_method_8_code 6 = .ok (.istore 4, 2) := by decide +kernel
theorem dix1_8 : decode prog_61_method_8_code 8 = .ok (.iload_n 3, 1) := by decide +kernel
theorem dix1_9 : decode prog_61_method_8_code 9 = .ok (.iload 4, 2) := by decide +kernel
theorem dix1_11 : decode prog_61_method_8_code 11 = .ok (.if_icmp .ge 38, 3) := by decide +kernel
theorem dix1_14 : decode prog_61_method_8_code 14 = .ok (.iload_n 3, 1) := by decide +kernel
theorem dix1_15 : decode prog_61_method_8_code 15 = .ok (.iload 4, 2) := by decide +kernel
theorem dix1_17 : decode prog_61_method_8_code 17 = .ok (.iadd, 1) := by decide +kernel
theorem dix1_18 : decode prog_61_method_8_code 18 = .ok (.iconst 1, 1) := by decide +kernel
theorem dix1_19 : decode prog_61_method_8_code 19 = .ok (.iushr, 1) := by decide +kernel
theorem dix1_20 : decode prog_61_method_8_code 20 = .ok (.istore 5, 2) := by decide +kernel
theorem dix1_22 : decode prog_61_method_8_code 22 = .ok (.aload_n 0, 1) := by decide +kernel
theorem dix1_23 : decode prog_61_method_8_code 23 = .ok (.getfield 9, 3) := by decide +kernel
theorem dix1_26 : decode prog_61_method_8_code 26 = .ok (.iload 5, 2) := by decide +kernel
theorem dix1_28 : decode prog_61_method_8_code 28 = .ok (.laload, 1) := by decide +kernel
theorem dix1_29 : decode prog_61_method_8_code 29 = .ok (.lload_n 1, 1) := by decide +kernel
theorem dix1_30 : decode prog_61_method_8_code 30 = .ok (.lcmp, 1) := by decide +kernel
theorem dix1_31 : decode prog_61_method_8_code 31 = .ok (.ifCond .ge 11, 3) := by decide +kernel
theorem dix1_34 : decode prog_61_method_8_code 34 = .ok (.iload 5, 2) := by decide +kernel
theorem dix1_36 : decode prog_61_method_8_code 36 = .ok (.iconst 1, 1) := by decide +kernel
theorem dix1_37 : decode prog_61_method_8_code 37 = .ok (.iadd, 1) := by decide +kernel
theorem dix1_38 : decode prog_61_method_8_code 38 = .ok (.istore_n 3, 1) := by decide +kernel
theorem dix1_39 : decode prog_61_method_8_code 39 = .ok (.goto 7, 3) := by decide +kernel
theorem dix1_42 : decode prog_61_method_8_code 42 = .ok (.iload 5, 2) := by decide +kernel
theorem dix1_44 : decode prog_61_method_8_code 44 = .ok (.istore 4, 2) := by decide +kernel
theorem dix1_46 : decode prog_61_method_8_code 46 = .ok (.goto (-38), 3) := by decide +kernel
theorem dix1_49 : decode prog_61_method_8_code 49 = .ok (.iload_n 3, 1) := by decide +kernel
theorem dix1_50 : decode prog_61_method_8_code 50 = .ok (.ireturn, 1) := by decide +kernel
theorem pnix1 : plainName "com/example/clearhour/clearhour/market/Timeline" = true := by first | (simp [plainName, overriddenIn]; done) | decide +kernel
theorem efix1 (m : MethodId) (a : Addr) (q : Int64) : entryFrame m #[(.ref a), (.long q)] 6 = mkF m 0 #[.val (.ref a), .val (.long q), .second, .unset, .unset, .unset] [] := by first | (simp [entryFrame, mkF, argsToLocals, Value.category]; done) | rfl
def Qix1 (Z : State) (a : Addr) (q : Int64) (tb : Addr) (kt : ClassId) (x0 : Int64) (x1 : Int64) (x2 : Int64) (x3 : Int64) (h0 : Heap) (n0 : Nat) (v : Option Value) (h : Heap) (L : List Loc) : Prop := v = some (.int ((0 : Int32) + (own_b (x0 < q)))) ∧ Fr n0 L ∧ h = h0
set_option maxRecDepth 65536 in
set_option maxHeartbeats 40000000 in
theorem rmix1 (l : Launch) (Z : State) (a0 : Array Value) (hw : ∀ d ∈ tables_1, d.before a0 Z = true) (ws : List Jvm.Cond) (a : Addr) (q : Int64) (tb : Addr) (kt : ClassId) (x0 : Int64) (x1 : Int64) (x2 : Int64) (x3 : Int64) (h0 : Heap) (n0 : Nat) (Z0 : n0 ≤ h0.size) (F_times : Fld Z h0 a "com/example/clearhour/clearhour/market/Timeline" "times" "[J" (.ref tb)) (F_size : Fld Z h0 a "com/example/clearhour/clearhour/market/Timeline" "size" "I" (.int (1 : Int32))) (V_t : Arv Z h0 tb kt .long (16 : Int32) [(.long x0), (.long x1), (.long x2), (.long x3)] (.long (0 : Int64))) :
    MetFree l (⟨"com/example/clearhour/clearhour/market/Timeline", "indexFrom", "(J)I"⟩ : MethodName) (head1 (Jvm.Cond.code (⟨"com/example/clearhour/clearhour/market/Timeline", "indexFrom", "(J)I"⟩ : MethodName) prog_61_method_8_code 6 (some .int) :: ws) ({ frames := 0, cells := 0, slots := 0, locals := 0 } : Room)) (fun gs' U => gs' = #[(.ref a), (.long q)] ∧ Z.Warmed39 U.vm ∧ U.heap = h0) (fun _ _ _ _ _ => True) (fun _ U o U' => ∃ v L, o = .returned v ∧ Qix1 Z a q tb kt x0 x1 x2 x3 h0 n0 v U'.heap L ∧ FrameEnd U o U' L ({ frames := 0, cells := 0, slots := 0, locals := 0 } : Room).cells ({ frames := 0, cells := 0, slots := 0, locals := 0 } : Room).slots) := by
  refine MetFree.of_bodySF (plainFor_of_name pnix1) hisR ?_
  intro p e s m args below meth c s₁ Bd hml0 hP hK
  obtain ⟨rfl, hZ, hh⟩ := hP
  have hx := Bd.exec
  have hby := Bd.bytes
  have hml : c.maxLocals = 6 := hml0
  have hown : s.vm.findClass "com/example/clearhour/clearhour/market/Timeline" = some m.cls := findClass_of_methodNamed Bd.named
  have hnm := (name_of_methodNamed Bd.named Bd.method).1
  have X0 : Stand p l e ({ frames := 0, cells := 0, slots := 0, locals := 0 } : Room) s m #[(.ref a), (.long q)] below meth c s₁ [] 0 0 := Stand.of_body Bd
  have e0 : s₁.heap = h0 := by rw [← hh, Bd.state]; rfl
  have N0 := Fr.nil n0
  have k0 : Kt p e below m (s₁.setTop (entryFrame m #[(.ref a), (.long q)] 6)) s₁ 0 #[.val (.ref a), .val (.long q), .second, .unset, .unset, .unset] [] := fun t ht => castTop (efix1 m a q) ht
  have k373 : Kt p e below m (s₁.setTop (entryFrame m #[(.ref a), (.long q)] 6)) s₁ 3 #[.val (.ref a), .val (.long q), .second, .val (.int (0 : Int32)), .unset, .unset] [(.ref a)] := by
    intro t ht
    refine k0 t ?_
    show Steps p.tables e below (s₁.setTop (mkF m 0 #[.val (.ref a), .val (.long q), .second, .unset, .unset, .unset] [])) t
    refine XS.iconst X0.here hx rfl (hb hby dix1_0) ?_
    show Steps p.tables e below (s₁.setTop (mkF m 1 #[.val (.ref a), .val (.long q), .second, .unset, .unset, .unset] [(.int (0 : Int32))])) t
    refine XS.istoreN X0.here hx rfl (hb hby dix1_1) rfl (l' := #[.val (.ref a), .val (.long q), .second, .val (.int (0 : Int32)), .unset, .unset]) rfl ?_
    show Steps p.tables e below (s₁.setTop (mkF m 2 #[.val (.ref a), .val (.long q), .second, .val (.int (0 : Int32)), .unset, .unset] [])) t
    refine XS.aloadN X0.here hx rfl (hb hby dix1_2) rfl rfl ?_
    exact ht
  obtain ⟨T374, X374, e374, st374⟩ := getF X0 hx hZ hown (host := "") (Or.inl (hw _ (List.mem_of_getElem? (i := 27) rfl))) Via.refl e0 F_size (g := (mkF m 3 #[.val (.ref a), .val (.long q), .second, .val (.int (0 : Int32)), .unset, .unset] [(.ref a)])) rfl rfl (hb hby dix1_3)
  have k374 : Kt p e below m (s₁.setTop (entryFrame m #[(.ref a), (.long q)] 6)) T374 6 #[.val (.ref a), .val (.long q), .second, .val (.int (0 : Int32)), .unset, .unset] [(.int (1 : Int32))] := fun t ht => k373 t (st374 t ht)
  have k375 : Kt p e below m (s₁.setTop (entryFrame m #[(.ref a), (.long q)] 6)) T374 20 #[.val (.ref a), .val (.long q), .second, .val (.int (0 : Int32)), .val (.int (1 : Int32)), .unset] [(.int ((((0 : Int32) + (1 : Int32)).toUInt32 >>> ((1 : Int32) &&& 31).toUInt32).toInt32))] := by
    intro t ht
    refine k374 t ?_
    show Steps p.tables e below (T374.setTop (mkF m 6 #[.val (.ref a), .val (.long q), .second, .val (.int (0 : Int32)), .unset, .unset] [(.int (1 : Int32))])) t
    refine XS.istore X374.here hx rfl (hb hby dix1_6) rfl (l' := #[.val (.ref a), .val (.long q), .second, .val (.int (0 : Int32)), .val (.int (1 : Int32)), .unset]) rfl ?_
    show Steps p.tables e below (T374.setTop (mkF m 8 #[.val (.ref a), .val (.long q), .second, .val (.int (0 : Int32)), .val (.int (1 : Int32)), .unset] [])) t
    refine XS.iloadN X374.here hx rfl (hb hby dix1_8) rfl ?_
    show Steps p.tables e below (T374.setTop (mkF m 9 #[.val (.ref a), .val (.long q), .second, .val (.int (0 : Int32)), .val (.int (1 : Int32)), .unset] [(.int (0 : Int32))])) t
    refine XS.iload X374.here hx rfl (hb hby dix1_9) rfl ?_
    show Steps p.tables e below (T374.setTop (mkF m 11 #[.val (.ref a), .val (.long q), .second, .val (.int (0 : Int32)), .val (.int (1 : Int32)), .unset] [(.int (1 : Int32)), (.int (0 : Int32))])) t
    refine XS.icmpNo X374.here hx rfl (hb hby dix1_11) rfl (tlt (by decide)).2.1 ?_
    show Steps p.tables e below (T374.setTop (mkF m 14 #[.val (.ref a), .val (.long q), .second, .val (.int (0 : Int32)), .val (.int (1 : Int32)), .unset] [])) t
    refine XS.iloadN X374.here hx rfl (hb hby dix1_14) rfl ?_
    show Steps p.tables e below (T374.setTop (mkF m 15 #[.val (.ref a), .val (.long q), .second, .val (.int (0 : Int32)), .val (.int (1 : Int32)), .unset] [(.int (0 : Int32))])) t
    refine XS.iload X374.here hx rfl (hb hby dix1_15) rfl ?_
    show Steps p.tables e below (T374.setTop (mkF m 17 #[.val (.ref a), .val (.long q), .second, .val (.int (0 : Int32)), .val (.int (1 : Int32)), .unset] [(.int (1 : Int32)), (.int (0 : Int32))])) t
    refine XS.iadd X374.here hx rfl (hb hby dix1_17) rfl ?_
    show Steps p.tables e below (T374.setTop (mkF m 18 #[.val (.ref a), .val (.long q), .second, .val (.int (0 : Int32)), .val (.int (1 : Int32)), .unset] [(.int ((0 : Int32) + (1 : Int32)))])) t
    refine XS.iconst X374.here hx rfl (hb hby dix1_18) ?_
    show Steps p.tables e below (T374.setTop (mkF m 19 #[.val (.ref a), .val (.long q), .second, .val (.int (0 : Int32)), .val (.int (1 : Int32)), .unset] [(.int (1 : Int32)), (.int ((0 : Int32) + (1 : Int32)))])) t
    refine XS.iushr X374.here hx rfl (hb hby dix1_19) rfl ?_
    exact ht
  have q376 : ((((0 : Int32) + (1 : Int32)).toUInt32 >>> ((1 : Int32) &&& 31).toUInt32).toInt32) = (0 : Int32) := by decide
  rw [q376] at k375
  have k377 : Kt p e below m (s₁.setTop (entryFrame m #[(.ref a), (.long q)] 6)) T374 23 #[.val (.ref a), .val (.long q), .second, .val (.int (0 : Int32)), .val (.int (1 : Int32)), .val (.int (0 : Int32))] [(.ref a)] := by
    intro t ht
    refine k375 t ?_
    show Steps p.tables e below (T374.setTop (mkF m 20 #[.val (.ref a), .val (.long q), .second, .val (.int (0 : Int32)), .val (.int (1 : Int32)), .unset] [(.int (0 : Int32))])) t
    refine XS.istore X374.here hx rfl (hb hby dix1_20) rfl (l' := #[.val (.ref a), .val (.long q), .second, .val (.int (0 : Int32)), .val (.int (1 : Int32)), .val (.int (0 : Int32))]) rfl ?_
    show Steps p.tables e below (T374.setTop (mkF m 22 #[.val (.ref a), .val (.long q), .second, .val (.int (0 : Int32)), .val (.int (1 : Int32)), .val (.int (0 : Int32))] [])) t
    refine XS.aloadN X374.here hx rfl (hb hby dix1_22) rfl rfl ?_
    exact ht
  obtain ⟨T378, X378, e378, st378⟩ := getF X374 hx hZ hown (host := "") (Or.inl (hw _ (List.mem_of_getElem? (i := 14) rfl))) Via.refl e374 F_times (g := (mkF m 23 #[.val (.ref a), .val (.long q), .second, .val (.int (0 : Int32)), .val (.int (1 : Int32)), .val (.int (0 : Int32))] [(.ref a)])) rfl rfl (hb hby dix1_23)
  have k378 : Kt p e below m (s₁.setTop (entryFrame m #[(.ref a), (.long q)] 6)) T378 26 #[.val (.ref a), .val (.long q), .second, .val (.int (0 : Int32)), .val (.int (1 : Int32)), .val (.int (0 : Int32))] [(.ref tb)] := fun t ht => k377 t (st378 t ht)
  have k379 : Kt p e below m (s₁.setTop (entryFrame m #[(.ref a), (.long q)] 6)) T378 28 #[.val (.ref a), .val (.long q), .second, .val (.int (0 : Int32)), .val (.int (1 : Int32)), .val (.int (0 : Int32))] [(.int (0 : Int32)), (.ref tb)] := by
    intro t ht
    refine k378 t ?_
    show Steps p.tables e below (T378.setTop (mkF m 26 #[.val (.ref a), .val (.long q), .second, .val (.int (0 : Int32)), .val (.int (1 : Int32)), .val (.int (0 : Int32))] [(.ref tb)])) t
    refine XS.iload X378.here hx rfl (hb hby dix1_26) rfl ?_
    exact ht
  obtain ⟨cl380, Ar380, qc380, Sz380, Nn380, Hh380, Gg380⟩ := id V_t
  have hin380 : ¬ ((0 : Int32) < 0 ∨ cl380.slots.size ≤ ((0 : Int32)).toNatClampNeg) := inb_of Sz380 ⟨by decide, by decide⟩
  have hat380 : cl380.slots[((0 : Int32)).toNatClampNeg]? = some (.long x0) := Hh380.at hin380 rfl
  have k381 : Kt p e below m (s₁.setTop (entryFrame m #[(.ref a), (.long q)] 6)) T378 31 #[.val (.ref a), .val (.long q), .second, .val (.int (0 : Int32)), .val (.int (1 : Int32)), .val (.int (0 : Int32))] [(.int (lcmpW x0 q))] := by
    intro t ht
    refine k379 t ?_
    show Steps p.tables e below (T378.setTop (mkF m 28 #[.val (.ref a), .val (.long q), .second, .val (.int (0 : Int32)), .val (.int (1 : Int32)), .val (.int (0 : Int32))] [(.int (0 : Int32)), (.ref tb)])) t
    refine X378.laload hx (j := (0 : Int32)) (v := (.long x0)) (by rw [e378]; exact Ar380.1) (State.isArrayOf_alike hZ.alike Ar380.2.1) Ar380.2.2 hin380 hat380 (g := (mkF m 28 #[.val (.ref a), .val (.long q), .second, .val (.int (0 : Int32)), .val (.int (1 : Int32)), .val (.int (0 : Int32))] [(.int (0 : Int32)), (.ref tb)])) rfl rfl (hb hby dix1_28) _ ?_
    show Steps p.tables e below (T378.setTop (mkF m 29 #[.val (.ref a), .val (.long q), .second, .val (.int (0 : Int32)), .val (.int (1 : Int32)), .val (.int (0 : Int32))] [(.long x0)])) t
    refine XS.lloadN X378.here hx rfl (hb hby dix1_29) rfl ?_
    show Steps p.tables e below (T378.setTop (mkF m 30 #[.val (.ref a), .val (.long q), .second, .val (.int (0 : Int32)), .val (.int (1 : Int32)), .val (.int (0 : Int32))] [(.long q), (.long x0)])) t
    refine XS.lcmp X378.here hx rfl (hb hby dix1_30) rfl ?_
    exact ht
  by_cases c0 : x0 < q
  · have t0 := c0
    have k382 : Kt p e below m (s₁.setTop (entryFrame m #[(.ref a), (.long q)] 6)) T378 38 #[.val (.ref a), .val (.long q), .second, .val (.int (0 : Int32)), .val (.int (1 : Int32)), .val (.int (0 : Int32))] [(.int ((0 : Int32) + (1 : Int32)))] := by
      intro t ht
      refine k381 t ?_
      show Steps p.tables e below (T378.setTop (mkF m 31 #[.val (.ref a), .val (.long q), .second, .val (.int (0 : Int32)), .val (.int (1 : Int32)), .val (.int (0 : Int32))] [(.int (lcmpW x0 q))])) t
      refine XS.ifNo X378.here hx rfl (hb hby dix1_31) rfl ((if0 _ _).trans (tlt ((lw_lt _ _).mpr c0)).2.1) ?_
      show Steps p.tables e below (T378.setTop (mkF m 34 #[.val (.ref a), .val (.long q), .second, .val (.int (0 : Int32)), .val (.int (1 : Int32)), .val (.int (0 : Int32))] [])) t
      refine XS.iload X378.here hx rfl (hb hby dix1_34) rfl ?_
      show Steps p.tables e below (T378.setTop (mkF m 36 #[.val (.ref a), .val (.long q), .second, .val (.int (0 : Int32)), .val (.int (1 : Int32)), .val (.int (0 : Int32))] [(.int (0 : Int32))])) t
      refine XS.iconst X378.here hx rfl (hb hby dix1_36) ?_
      show Steps p.tables e below (T378.setTop (mkF m 37 #[.val (.ref a), .val (.long q), .second, .val (.int (0 : Int32)), .val (.int (1 : Int32)), .val (.int (0 : Int32))] [(.int (1 : Int32)), (.int (0 : Int32))])) t
      refine XS.iadd X378.here hx rfl (hb hby dix1_37) rfl ?_
      exact ht
    have q383 : ((0 : Int32) + (1 : Int32)) = (1 : Int32) := by decide
    rw [q383] at k382
    have k384 : Kt p e below m (s₁.setTop (entryFrame m #[(.ref a), (.long q)] 6)) T378 50 #[.val (.ref a), .val (.long q), .second, .val (.int (1 : Int32)), .val (.int (1 : Int32)), .val (.int (0 : Int32))] [(.int (1 : Int32))] := by
      intro t ht
      refine k382 t ?_
      show Steps p.tables e below (T378.setTop (mkF m 38 #[.val (.ref a), .val (.long q), .second, .val (.int (0 : Int32)), .val (.int (1 : Int32)), .val (.int (0 : Int32))] [(.int (1 : Int32))])) t
      refine XS.istoreN X378.here hx rfl (hb hby dix1_38) rfl (l' := #[.val (.ref a), .val (.long q), .second, .val (.int (1 : Int32)), .val (.int (1 : Int32)), .val (.int (0 : Int32))]) rfl ?_
      show Steps p.tables e below (T378.setTop (mkF m 39 #[.val (.ref a), .val (.long q), .second, .val (.int (1 : Int32)), .val (.int (1 : Int32)), .val (.int (0 : Int32))] [])) t
      refine XS.goto X378.here hx rfl (pc0 := 39) (pc' := 46) rfl (hb hby dix1_39) (by decide) (by decide) ?_
      show Steps p.tables e below (T378.setTop (mkF m 46 #[.val (.ref a), .val (.long q), .second, .val (.int (1 : Int32)), .val (.int (1 : Int32)), .val (.int (0 : Int32))] [])) t
      refine XS.goto X378.here hx rfl (pc0 := 46) (pc' := 8) rfl (hb hby dix1_46) (by decide) (by decide) ?_
      show Steps p.tables e below (T378.setTop (mkF m 8 #[.val (.ref a), .val (.long q), .second, .val (.int (1 : Int32)), .val (.int (1 : Int32)), .val (.int (0 : Int32))] [])) t
      refine XS.iloadN X378.here hx rfl (hb hby dix1_8) rfl ?_
      show Steps p.tables e below (T378.setTop (mkF m 9 #[.val (.ref a), .val (.long q), .second, .val (.int (1 : Int32)), .val (.int (1 : Int32)), .val (.int (0 : Int32))] [(.int (1 : Int32))])) t
      refine XS.iload X378.here hx rfl (hb hby dix1_9) rfl ?_
      show Steps p.tables e below (T378.setTop (mkF m 11 #[.val (.ref a), .val (.long q), .second, .val (.int (1 : Int32)), .val (.int (1 : Int32)), .val (.int (0 : Int32))] [(.int (1 : Int32)), (.int (1 : Int32))])) t
      refine XS.icmpYes X378.here hx rfl (pc0 := 11) (pc' := 49) rfl (hb hby dix1_11) rfl (flt (by decide)).2.1 (by decide) (by decide) ?_
      show Steps p.tables e below (T378.setTop (mkF m 49 #[.val (.ref a), .val (.long q), .second, .val (.int (1 : Int32)), .val (.int (1 : Int32)), .val (.int (0 : Int32))] [])) t
      refine XS.iloadN X378.here hx rfl (hb hby dix1_49) rfl ?_
      exact ht
    obtain ⟨fs, hr, hrun, hended, hW, hsame⟩ := X378.leave (v := some (.int (1 : Int32))) (fun h => by rw [Bd.returns] at h; cases h)
    refine ⟨_, _, k384 _ ?_, hrun, hended, _, _, rfl, ?_, ⟨_, rfl⟩, hW, hsame.mono (by decide) (by decide)⟩
    · exact retI X378 hx Bd.returns (hb hby dix1_50) hr
    · show Qix1 Z a q tb kt x0 x1 x2 x3 h0 n0 _ T378.heap _
      rw [e378]
      exact ⟨congrArg (fun z => some (Value.int z)) (by rw [← own_b1 t0]; decide), N0, rfl⟩
  · have u0 := c0
    have k385 : Kt p e below m (s₁.setTop (entryFrame m #[(.ref a), (.long q)] 6)) T378 50 #[.val (.ref a), .val (.long q), .second, .val (.int (0 : Int32)), .val (.int (0 : Int32)), .val (.int (0 : Int32))] [(.int (0 : Int32))] := by
      intro t ht
      refine k381 t ?_
      show Steps p.tables e below (T378.setTop (mkF m 31 #[.val (.ref a), .val (.long q), .second, .val (.int (0 : Int32)), .val (.int (1 : Int32)), .val (.int (0 : Int32))] [(.int (lcmpW x0 q))])) t
      refine XS.ifYes X378.here hx rfl (pc0 := 31) (pc' := 42) rfl (hb hby dix1_31) rfl ((if0 _ _).trans (flt (mt (lw_lt _ _).mp c0)).2.1) (by decide) (by decide) ?_
      show Steps p.tables e below (T378.setTop (mkF m 42 #[.val (.ref a), .val (.long q), .second, .val (.int (0 : Int32)), .val (.int (1 : Int32)), .val (.int (0 : Int32))] [])) t
      refine XS.iload X378.here hx rfl (hb hby dix1_42) rfl ?_
      show Steps p.tables e below (T378.setTop (mkF m 44 #[.val (.ref a), .val (.long q), .second, .val (.int (0 : Int32)), .val (.int (1 : Int32)), .val (.int (0 : Int32))] [(.int (0 : Int32))])) t
      refine XS.istore X378.here hx rfl (hb hby dix1_44) rfl (l' := #[.val (.ref a), .val (.long q), .second, .val (.int (0 : Int32)), .val (.int (0 : Int32)), .val (.int (0 : Int32))]) rfl ?_
      show Steps p.tables e below (T378.setTop (mkF m 46 #[.val (.ref a), .val (.long q), .second, .val (.int (0 : Int32)), .val (.int (0 : Int32)), .val (.int (0 : Int32))] [])) t
      refine XS.goto X378.here hx rfl (pc0 := 46) (pc' := 8) rfl (hb hby dix1_46) (by decide) (by decide) ?_
      show Steps p.tables e below (T378.setTop (mkF m 8 #[.val (.ref a), .val (.long q), .second, .val (.int (0 : Int32)), .val (.int (0 : Int32)), .val (.int (0 : Int32))] [])) t
      refine XS.iloadN X378.here hx rfl (hb hby dix1_8) rfl ?_
      show Steps p.tables e below (T378.setTop (mkF m 9 #[.val (.ref a), .val (.long q), .second, .val (.int (0 : Int32)), .val (.int (0 : Int32)), .val (.int (0 : Int32))] [(.int (0 : Int32))])) t
      refine XS.iload X378.here hx rfl (hb hby dix1_9) rfl ?_
      show Steps p.tables e below (T378.setTop (mkF m 11 #[.val (.ref a), .val (.long q), .second, .val (.int (0 : Int32)), .val (.int (0 : Int32)), .val (.int (0 : Int32))] [(.int (0 : Int32)), (.int (0 : Int32))])) t
      refine XS.icmpYes X378.here hx rfl (pc0 := 11) (pc' := 49) rfl (hb hby dix1_11) rfl (flt (by decide)).2.1 (by decide) (by decide) ?_
      show Steps p.tables e below (T378.setTop (mkF m 49 #[.val (.ref a), .val (.long q), .second, .val (.int (0 : Int32)), .val (.int (0 : Int32)), .val (.int (0 : Int32))] [])) t
      refine XS.iloadN X378.here hx rfl (hb hby dix1_49) rfl ?_
      exact ht
    obtain ⟨fs, hr, hrun, hended, hW, hsame⟩ := X378.leave (v := some (.int (0 : Int32))) (fun h => by rw [Bd.returns] at h; cases h)
    refine ⟨_, _, k385 _ ?_, hrun, hended, _, _, rfl, ?_, ⟨_, rfl⟩, hW, hsame.mono (by decide) (by decide)⟩
    · exact retI X378 hx Bd.returns (hb hby dix1_50) hr
    · show Qix1 Z a q tb kt x0 x1 x2 x3 h0 n0 _ T378.heap _
      rw [e378]
      exact ⟨congrArg (fun z => some (Value.int z)) (by rw [← own_b0 u0]; decide), N0, rfl⟩
theorem dix2_0 : decode prog_61_method_8_code 0 = .ok (.iconst 0, 1) := by decide +kernel
theorem dix2_1 : decode prog_61_method_8_code 1 = .ok (.istore_n 3, 1) := by decide +kernel
theorem dix2_2 : decode prog_61_method_8_code 2 = .ok (.aload_n 0, 1) := by decide +kernel
theorem dix2_3 : decode prog_61_method_8_code 3 = .ok (.getfield 21, 3) := by decide +kernel
theorem dix2_6 : decode prog_61_method_8_code 6 = .ok (.istore 4, 2) := by decide +kernel
theorem dix2_8 : decode prog_61_method_8_code 8 = .ok (.iload_n 3, 1) := by decide +kernel
theorem dix2_9 : decode prog_61_method_8_code 9 = .ok (.iload 4, 2) := by decide +kernel
theorem dix2_11 : decode prog_61_method_8_code 11 = .ok (.if_icmp .ge 38, 3) := by decide +kernel
theorem dix2_14 : decode prog_61_method_8_code 14 = .ok (.iload_n 3, 1) := by decide +kernel
theorem dix2_15 : decode prog_61_method_8_code 15 = .ok (.iload 4, 2) := by decide +kernel
theorem dix2_17 : decode prog_61_method_8_code 17 = .ok (.iadd, 1) := by decide +kernel
theorem dix2_18 : decode prog_61_method_8_code 18 = .ok (.iconst 1, 1) := by decide +kernel
theorem dix2_19 : decode prog_61_method_8_code 19 = .ok (.iushr, 1) := by decide +kernel
theorem dix2_20 : decode prog_61_method_8_code 20 = .ok (.istore 5, 2) := by decide +kernel
theorem dix2_22 : decode prog_61_method_8_code 22 = .ok (.aload_n 0, 1) := by decide +kernel
theorem dix2_23 : decode prog_61_method_8_code 23 = .ok (.getfield 9, 3) := by decide +kernel
theorem dix2_26 : decode prog_61_method_8_code 26 = .ok (.iload 5, 2) := by decide +kernel
theorem dix2_28 : decode prog_61_method_8_code 28 = .ok (.laload, 1) := by decide +kernel
theorem dix2_29 : decode prog_61_method_8_code 29 = .ok (.lload_n 1, 1) := by decide +kernel
theorem dix2_30 : decode prog_61_method_8_code 30 = .ok (.lcmp, 1) := by decide +kernel
theorem dix2_31 : decode prog_61_method_8_code 31 = .ok (.ifCond .ge 11, 3) := by decide +kernel
theorem dix2_34 : decode prog_61_method_8_code 34 = .ok (.iload 5, 2) := by decide +kernel
theorem dix2_36 : decode prog_61_method_8_code 36 = .ok (.iconst 1, 1) := by decide +kernel
theorem dix2_37 : decode prog_61_method_8_code 37 = .ok (.iadd, 1) := by decide +kernel
theorem dix2_38 : decode prog_61_method_8_code 38 = .ok (.istore_n 3, 1) := by decide +kernel
theorem dix2_39 : decode prog_61_method_8_code 39 = .ok (.goto 7, 3) := by decide +kernel
theorem dix2_42 : decode prog_61_method_8_code 42 = .ok (.iload 5, 2) := by decide +kernel
theorem dix2_44 : decode prog_61_method_8_code 44 = .ok (.istore 4, 2) := by decide +kernel
theorem dix2_46 : decode prog_61_method_8_code 46 = .ok (.goto (-38), 3) := by decide +kernel
theorem dix2_49 : decode prog_61_method_8_code 49 = .ok (.iload_n 3, 1) := by decide +kernel
theorem dix2_50 : decode prog_61_method_8_code 50 = .ok (.ireturn, 1) := by decide +kernel
theorem pnix2 : plainName "com/example/clearhour/clearhour/market/Timeline" = true := by first | (simp [plainName, overriddenIn]; done) | decide +kernel
theorem efix2 (m : MethodId) (a : Addr) (q : Int64) : entryFrame m #[(.ref a), (.long q)] 6 = mkF m 0 #[.val (.ref a), .val (.long q), .second, .unset, .unset, .unset] [] := by first | (simp [entryFrame, mkF, argsToLocals, Value.category]; done) | rfl
def Qix2 (Z : State) (a : Addr) (q : Int64) (tb : Addr) (kt : ClassId) (x0 : Int64) (x1 : Int64) (x2 : Int64) (x3 : Int64) (h0 : Heap) (n0 : Nat) (v : Option Value) (h : Heap) (L : List Loc) : Prop := v = some (.int (((0 : Int32) + (own_b (x0 < q))) + (own_b (x1 < q)))) ∧ Fr n0 L ∧ h = h0
set_option maxRecDepth 65536 in
set_option maxHeartbeats 40000000 in
theorem rmix2 (l : Launch) (Z : State) (a0 : Array Value) (hw : ∀ d ∈ tables_1, d.before a0 Z = true) (ws : List Jvm.Cond) (a : Addr) (q : Int64) (tb : Addr) (kt : ClassId) (x0 : Int64) (x1 : Int64) (x2 : Int64) (x3 : Int64) (h0 : Heap) (n0 : Nat) (Z0 : n0 ≤ h0.size) (F_times : Fld Z h0 a "com/example/clearhour/clearhour/market/Timeline" "times" "[J" (.ref tb)) (F_size : Fld Z h0 a "com/example/clearhour/clearhour/market/Timeline" "size" "I" (.int (2 : Int32))) (V_t : Arv Z h0 tb kt .long (16 : Int32) [(.long x0), (.long x1), (.long x2), (.long x3)] (.long (0 : Int64))) (o0 : ¬ x1 < x0) :
    MetFree l (⟨"com/example/clearhour/clearhour/market/Timeline", "indexFrom", "(J)I"⟩ : MethodName) (head1 (Jvm.Cond.code (⟨"com/example/clearhour/clearhour/market/Timeline", "indexFrom", "(J)I"⟩ : MethodName) prog_61_method_8_code 6 (some .int) :: ws) ({ frames := 0, cells := 0, slots := 0, locals := 0 } : Room)) (fun gs' U => gs' = #[(.ref a), (.long q)] ∧ Z.Warmed39 U.vm ∧ U.heap = h0) (fun _ _ _ _ _ => True) (fun _ U o U' => ∃ v L, o = .returned v ∧ Qix2 Z a q tb kt x0 x1 x2 x3 h0 n0 v U'.heap L ∧ FrameEnd U o U' L ({ frames := 0, cells := 0, slots := 0, locals := 0 } : Room).cells ({ frames := 0, cells := 0, slots := 0, locals := 0 } : Room).slots) := by
  refine MetFree.of_bodySF (plainFor_of_name pnix2) hisR ?_
  intro p e s m args below meth c s₁ Bd hml0 hP hK
  obtain ⟨rfl, hZ, hh⟩ := hP
  have hx := Bd.exec
  have hby := Bd.bytes
  have hml : c.maxLocals = 6 := hml0
  have hown : s.vm.findClass "com/example/clearhour/clearhour/market/Timeline" = some m.cls := findClass_of_methodNamed Bd.named
  have hnm := (name_of_methodNamed Bd.named Bd.method).1
  have X0 : Stand p l e ({ frames := 0, cells := 0, slots := 0, locals := 0 } : Room) s m #[(.ref a), (.long q)] below meth c s₁ [] 0 0 := Stand.of_body Bd
  have e0 : s₁.heap = h0 := by rw [← hh, Bd.state]; rfl
  have N0 := Fr.nil n0
  have k0 : Kt p e below m (s₁.setTop (entryFrame m #[(.ref a), (.long q)] 6)) s₁ 0 #[.val (.ref a), .val (.long q), .second, .unset, .unset, .unset] [] := fun t ht => castTop (efix2 m a q) ht
  have k386 : Kt p e below m (s₁.setTop (entryFrame m #[(.ref a), (.long q)] 6)) s₁ 3 #[.val (.ref a), .val (.long q), .second, .val (.int (0 : Int32)), .unset, .unset] [(.ref a)] := by
    intro t ht
    refine k0 t ?_
    show Steps p.tables e below (s₁.setTop (mkF m 0 #[.val (.ref a), .val (.long q), .second, .unset, .unset, .unset] [])) t
    refine XS.iconst X0.here hx rfl (hb hby dix2_0) ?_
    show Steps p.tables e below (s₁.setTop (mkF m 1 #[.val (.ref a), .val (.long q), .second, .unset, .unset, .unset] [(.int (0 : Int32))])) t
    refine XS.istoreN X0.here hx rfl (hb hby dix2_1) rfl (l' := #[.val (.ref a), .val (.long q), .second, .val (.int (0 : Int32)), .unset, .unset]) rfl ?_
    show Steps p.tables e below (s₁.setTop (mkF m 2 #[.val (.ref a), .val (.long q), .second, .val (.int (0 : Int32)), .unset, .unset] [])) t
    refine XS.aloadN X0.here hx rfl (hb hby dix2_2) rfl rfl ?_
    exact ht
  obtain ⟨T387, X387, e387, st387⟩ := getF X0 hx hZ hown (host := "") (Or.inl (hw _ (List.mem_of_getElem? (i := 27) rfl))) Via.refl e0 F_size (g := (mkF m 3 #[.val (.ref a), .val (.long q), .second, .val (.int (0 : Int32)), .unset, .unset] [(.ref a)])) rfl rfl (hb hby dix2_3)
  have k387 : Kt p e below m (s₁.setTop (entryFrame m #[(.ref a), (.long q)] 6)) T387 6 #[.val (.ref a), .val (.long q), .second, .val (.int (0 : Int32)), .unset, .unset] [(.int (2 : Int32))] := fun t ht => k386 t (st387 t ht)
  have k388 : Kt p e below m (s₁.setTop (entryFrame m #[(.ref a), (.long q)] 6)) T387 20 #[.val (.ref a), .val (.long q), .second, .val (.int (0 : Int32)), .val (.int (2 : Int32)), .unset] [(.int ((((0 : Int32) + (2 : Int32)).toUInt32 >>> ((1 : Int32) &&& 31).toUInt32).toInt32))] := by
    intro t ht
    refine k387 t ?_
    show Steps p.tables e below (T387.setTop (mkF m 6 #[.val (.ref a), .val (.long q), .second, .val (.int (0 : Int32)), .unset, .unset] [(.int (2 : Int32))])) t
    refine XS.istore X387.here hx rfl (hb hby dix2_6) rfl (l' := #[.val (.ref a), .val (.long q), .second, .val (.int (0 : Int32)), .val (.int (2 : Int32)), .unset]) rfl ?_
    show Steps p.tables e below (T387.setTop (mkF m 8 #[.val (.ref a), .val (.long q), .second, .val (.int (0 : Int32)), .val (.int (2 : Int32)), .unset] [])) t
    refine XS.iloadN X387.here hx rfl (hb hby dix2_8) rfl ?_
    show Steps p.tables e below (T387.setTop (mkF m 9 #[.val (.ref a), .val (.long q), .second, .val (.int (0 : Int32)), .val (.int (2 : Int32)), .unset] [(.int (0 : Int32))])) t
    refine XS.iload X387.here hx rfl (hb hby dix2_9) rfl ?_
    show Steps p.tables e below (T387.setTop (mkF m 11 #[.val (.ref a), .val (.long q), .second, .val (.int (0 : Int32)), .val (.int (2 : Int32)), .unset] [(.int (2 : Int32)), (.int (0 : Int32))])) t
    refine XS.icmpNo X387.here hx rfl (hb hby dix2_11) rfl (tlt (by decide)).2.1 ?_
    show Steps p.tables e below (T387.setTop (mkF m 14 #[.val (.ref a), .val (.long q), .second, .val (.int (0 : Int32)), .val (.int (2 : Int32)), .unset] [])) t
    refine XS.iloadN X387.here hx rfl (hb hby dix2_14) rfl ?_
    show Steps p.tables e below (T387.setTop (mkF m 15 #[.val (.ref a), .val (.long q), .second, .val (.int (0 : Int32)), .val (.int (2 : Int32)), .unset] [(.int (0 : Int32))])) t
    refine XS.iload X387.here hx rfl (hb hby dix2_15) rfl ?_
    show Steps p.tables e below (T387.setTop (mkF m 17 #[.val (.ref a), .val (.long q), .second, .val (.int (0 : Int32)), .val (.int (2 : Int32)), .unset] [(.int (2 : Int32)), (.int (0 : Int32))])) t
    refine XS.iadd X387.here hx rfl (hb hby dix2_17) rfl ?_
    show Steps p.tables e below (T387.setTop (mkF m 18 #[.val (.ref a), .val (.long q), .second, .val (.int (0 : Int32)), .val (.int (2 : Int32)), .unset] [(.int ((0 : Int32) + (2 : Int32)))])) t
    refine XS.iconst X387.here hx rfl (hb hby dix2_18) ?_
    show Steps p.tables e below (T387.setTop (mkF m 19 #[.val (.ref a), .val (.long q), .second, .val (.int (0 : Int32)), .val (.int (2 : Int32)), .unset] [(.int (1 : Int32)), (.int ((0 : Int32) + (2 : Int32)))])) t
    refine XS.iushr X387.here hx rfl (hb hby dix2_19) rfl ?_
    exact ht
  have q389 : ((((0 : Int32) + (2 : Int32)).toUInt32 >>> ((1 : Int32) &&& 31).toUInt32).toInt32) = (1 : Int32) := by decide
  rw [q389] at k388
  have k390 : Kt p e below m (s₁.setTop (entryFrame m #[(.ref a), (.long q)] 6)) T387 23 #[.val (.ref a), .val (.long q), .second, .val (.int (0 : Int32)), .val (.int (2 : Int32)), .val (.int (1 : Int32))] [(.ref a)] := by
    intro t ht
    refine k388 t ?_
    show Steps p.tables e below (T387.setTop (mkF m 20 #[.val (.ref a), .val (.long q), .second, .val (.int (0 : Int32)), .val (.int (2 : Int32)), .unset] [(.int (1 : Int32))])) t
    refine XS.istore X387.here hx rfl (hb hby dix2_20) rfl (l' := #[.val (.ref a), .val (.long q), .second, .val (.int (0 : Int32)), .val (.int (2 : Int32)), .val (.int (1 : Int32))]) rfl ?_
    show Steps p.tables e below (T387.setTop (mkF m 22 #[.val (.ref a), .val (.long q), .second, .val (.int (0 : Int32)), .val (.int (2 : Int32)), .val (.int (1 : Int32))] [])) t
    refine XS.aloadN X387.here hx rfl (hb hby dix2_22) rfl rfl ?_
    exact ht
  obtain ⟨T391, X391, e391, st391⟩ := getF X387 hx hZ hown (host := "") (Or.inl (hw _ (List.mem_of_getElem? (i := 14) rfl))) Via.refl e387 F_times (g := (mkF m 23 #[.val (.ref a), .val (.long q), .second, .val (.int (0 : Int32)), .val (.int (2 : Int32)), .val (.int (1 : Int32))] [(.ref a)])) rfl rfl (hb hby dix2_23)
  have k391 : Kt p e below m (s₁.setTop (entryFrame m #[(.ref a), (.long q)] 6)) T391 26 #[.val (.ref a), .val (.long q), .second, .val (.int (0 : Int32)), .val (.int (2 : Int32)), .val (.int (1 : Int32))] [(.ref tb)] := fun t ht => k390 t (st391 t ht)
  have k392 : Kt p e below m (s₁.setTop (entryFrame m #[(.ref a), (.long q)] 6)) T391 28 #[.val (.ref a), .val (.long q), .second, .val (.int (0 : Int32)), .val (.int (2 : Int32)), .val (.int (1 : Int32))] [(.int (1 : Int32)), (.ref tb)] := by
    intro t ht
    refine k391 t ?_
    show Steps p.tables e below (T391.setTop (mkF m 26 #[.val (.ref a), .val (.long q), .second, .val (.int (0 : Int32)), .val (.int (2 : Int32)), .val (.int (1 : Int32))] [(.ref tb)])) t
    refine XS.iload X391.here hx rfl (hb hby dix2_26) rfl ?_
    exact ht
  obtain ⟨cl393, Ar393, qc393, Sz393, Nn393, Hh393, Gg393⟩ := id V_t
  have hin393 : ¬ ((1 : Int32) < 0 ∨ cl393.slots.size ≤ ((1 : Int32)).toNatClampNeg) := inb_of Sz393 ⟨by decide, by decide⟩
  have hat393 : cl393.slots[((1 : Int32)).toNatClampNeg]? = some (.long x1) := Hh393.at hin393 rfl
  have k394 : Kt p e below m (s₁.setTop (entryFrame m #[(.ref a), (.long q)] 6)) T391 31 #[.val (.ref a), .val (.long q), .second, .val (.int (0 : Int32)), .val (.int (2 : Int32)), .val (.int (1 : Int32))] [(.int (lcmpW x1 q))] := by
    intro t ht
    refine k392 t ?_
    show Steps p.tables e below (T391.setTop (mkF m 28 #[.val (.ref a), .val (.long q), .second, .val (.int (0 : Int32)), .val (.int (2 : Int32)), .val (.int (1 : Int32))] [(.int (1 : Int32)), (.ref tb)])) t
    refine X391.laload hx (j := (1 : Int32)) (v := (.long x1)) (by rw [e391]; exact Ar393.1) (State.isArrayOf_alike hZ.alike Ar393.2.1) Ar393.2.2 hin393 hat393 (g := (mkF m 28 #[.val (.ref a), .val (.long q), .second, .val (.int (0 : Int32)), .val (.int (2 : Int32)), .val (.int (1 : Int32))] [(.int (1 : Int32)), (.ref tb)])) rfl rfl (hb hby dix2_28) _ ?_
    show Steps p.tables e below (T391.setTop (mkF m 29 #[.val (.ref a), .val (.long q), .second, .val (.int (0 : Int32)), .val (.int (2 : Int32)), .val (.int (1 : Int32))] [(.long x1)])) t
    refine XS.lloadN X391.here hx rfl (hb hby dix2_29) rfl ?_
    show Steps p.tables e below (T391.setTop (mkF m 30 #[.val (.ref a), .val (.long q), .second, .val (.int (0 : Int32)), .val (.int (2 : Int32)), .val (.int (1 : Int32))] [(.long q), (.long x1)])) t
    refine XS.lcmp X391.here hx rfl (hb hby dix2_30) rfl ?_
    exact ht
  by_cases c1 : x1 < q
  · have t1 := c1
    have k395 : Kt p e below m (s₁.setTop (entryFrame m #[(.ref a), (.long q)] 6)) T391 38 #[.val (.ref a), .val (.long q), .second, .val (.int (0 : Int32)), .val (.int (2 : Int32)), .val (.int (1 : Int32))] [(.int ((1 : Int32) + (1 : Int32)))] := by
      intro t ht
      refine k394 t ?_
      show Steps p.tables e below (T391.setTop (mkF m 31 #[.val (.ref a), .val (.long q), .second, .val (.int (0 : Int32)), .val (.int (2 : Int32)), .val (.int (1 : Int32))] [(.int (lcmpW x1 q))])) t
      refine XS.ifNo X391.here hx rfl (hb hby dix2_31) rfl ((if0 _ _).trans (tlt ((lw_lt _ _).mpr c1)).2.1) ?_
      show Steps p.tables e below (T391.setTop (mkF m 34 #[.val (.ref a), .val (.long q), .second, .val (.int (0 : Int32)), .val (.int (2 : Int32)), .val (.int (1 : Int32))] [])) t
      refine XS.iload X391.here hx rfl (hb hby dix2_34) rfl ?_
      show Steps p.tables e below (T391.setTop (mkF m 36 #[.val (.ref a), .val (.long q), .second, .val (.int (0 : Int32)), .val (.int (2 : Int32)), .val (.int (1 : Int32))] [(.int (1 : Int32))])) t
      refine XS.iconst X391.here hx rfl (hb hby dix2_36) ?_
      show Steps p.tables e below (T391.setTop (mkF m 37 #[.val (.ref a), .val (.long q), .second, .val (.int (0 : Int32)), .val (.int (2 : Int32)), .val (.int (1 : Int32))] [(.int (1 : Int32)), (.int (1 : Int32))])) t
      refine XS.iadd X391.here hx rfl (hb hby dix2_37) rfl ?_
      exact ht
    have q396 : ((1 : Int32) + (1 : Int32)) = (2 : Int32) := by decide
    rw [q396] at k395
    have v0 := own_tr o0 t1
    have k397 : Kt p e below m (s₁.setTop (entryFrame m #[(.ref a), (.long q)] 6)) T391 50 #[.val (.ref a), .val (.long q), .second, .val (.int (2 : Int32)), .val (.int (2 : Int32)), .val (.int (1 : Int32))] [(.int (2 : Int32))] := by
      intro t ht
      refine k395 t ?_
      show Steps p.tables e below (T391.setTop (mkF m 38 #[.val (.ref a), .val (.long q), .second, .val (.int (0 : Int32)), .val (.int (2 : Int32)), .val (.int (1 : Int32))] [(.int (2 : Int32))])) t
      refine XS.istoreN X391.here hx rfl (hb hby dix2_38) rfl (l' := #[.val (.ref a), .val (.long q), .second, .val (.int (2 : Int32)), .val (.int (2 : Int32)), .val (.int (1 : Int32))]) rfl ?_
      show Steps p.tables e below (T391.setTop (mkF m 39 #[.val (.ref a), .val (.long q), .second, .val (.int (2 : Int32)), .val (.int (2 : Int32)), .val (.int (1 : Int32))] [])) t
      refine XS.goto X391.here hx rfl (pc0 := 39) (pc' := 46) rfl (hb hby dix2_39) (by decide) (by decide) ?_
      show Steps p.tables e below (T391.setTop (mkF m 46 #[.val (.ref a), .val (.long q), .second, .val (.int (2 : Int32)), .val (.int (2 : Int32)), .val (.int (1 : Int32))] [])) t
      refine XS.goto X391.here hx rfl (pc0 := 46) (pc' := 8) rfl (hb hby dix2_46) (by decide) (by decide) ?_
      show Steps p.tables e below (T391.setTop (mkF m 8 #[.val (.ref a), .val (.long q), .second, .val (.int (2 : Int32)), .val (.int (2 : Int32)), .val (.int (1 : Int32))] [])) t
      refine XS.iloadN X391.here hx rfl (hb hby dix2_8) rfl ?_
      show Steps p.tables e below (T391.setTop (mkF m 9 #[.val (.ref a), .val (.long q), .second, .val (.int (2 : Int32)), .val (.int (2 : Int32)), .val (.int (1 : Int32))] [(.int (2 : Int32))])) t
      refine XS.iload X391.here hx rfl (hb hby dix2_9) rfl ?_
      show Steps p.tables e below (T391.setTop (mkF m 11 #[.val (.ref a), .val (.long q), .second, .val (.int (2 : Int32)), .val (.int (2 : Int32)), .val (.int (1 : Int32))] [(.int (2 : Int32)), (.int (2 : Int32))])) t
      refine XS.icmpYes X391.here hx rfl (pc0 := 11) (pc' := 49) rfl (hb hby dix2_11) rfl (flt (by decide)).2.1 (by decide) (by decide) ?_
      show Steps p.tables e below (T391.setTop (mkF m 49 #[.val (.ref a), .val (.long q), .second, .val (.int (2 : Int32)), .val (.int (2 : Int32)), .val (.int (1 : Int32))] [])) t
      refine XS.iloadN X391.here hx rfl (hb hby dix2_49) rfl ?_
      exact ht
    obtain ⟨fs, hr, hrun, hended, hW, hsame⟩ := X391.leave (v := some (.int (2 : Int32))) (fun h => by rw [Bd.returns] at h; cases h)
    refine ⟨_, _, k397 _ ?_, hrun, hended, _, _, rfl, ?_, ⟨_, rfl⟩, hW, hsame.mono (by decide) (by decide)⟩
    · exact retI X391 hx Bd.returns (hb hby dix2_50) hr
    · show Qix2 Z a q tb kt x0 x1 x2 x3 h0 n0 _ T391.heap _
      rw [e391]
      exact ⟨congrArg (fun z => some (Value.int z)) (by rw [← own_b1 v0, ← own_b1 t1]; decide), N0, rfl⟩
  · have u1 := c1
    have k398 : Kt p e below m (s₁.setTop (entryFrame m #[(.ref a), (.long q)] 6)) T391 20 #[.val (.ref a), .val (.long q), .second, .val (.int (0 : Int32)), .val (.int (1 : Int32)), .val (.int (1 : Int32))] [(.int ((((0 : Int32) + (1 : Int32)).toUInt32 >>> ((1 : Int32) &&& 31).toUInt32).toInt32))] := by
      intro t ht
      refine k394 t ?_
      show Steps p.tables e below (T391.setTop (mkF m 31 #[.val (.ref a), .val (.long q), .second, .val (.int (0 : Int32)), .val (.int (2 : Int32)), .val (.int (1 : Int32))] [(.int (lcmpW x1 q))])) t
      refine XS.ifYes X391.here hx rfl (pc0 := 31) (pc' := 42) rfl (hb hby dix2_31) rfl ((if0 _ _).trans (flt (mt (lw_lt _ _).mp c1)).2.1) (by decide) (by decide) ?_
      show Steps p.tables e below (T391.setTop (mkF m 42 #[.val (.ref a), .val (.long q), .second, .val (.int (0 : Int32)), .val (.int (2 : Int32)), .val (.int (1 : Int32))] [])) t
      refine XS.iload X391.here hx rfl (hb hby dix2_42) rfl ?_
      show Steps p.tables e below (T391.setTop (mkF m 44 #[.val (.ref a), .val (.long q), .second, .val (.int (0 : Int32)), .val (.int (2 : Int32)), .val (.int (1 : Int32))] [(.int (1 : Int32))])) t
      refine XS.istore X391.here hx rfl (hb hby dix2_44) rfl (l' := #[.val (.ref a), .val (.long q), .second, .val (.int (0 : Int32)), .val (.int (1 : Int32)), .val (.int (1 : Int32))]) rfl ?_
      show Steps p.tables e below (T391.setTop (mkF m 46 #[.val (.ref a), .val (.long q), .second, .val (.int (0 : Int32)), .val (.int (1 : Int32)), .val (.int (1 : Int32))] [])) t
      refine XS.goto X391.here hx rfl (pc0 := 46) (pc' := 8) rfl (hb hby dix2_46) (by decide) (by decide) ?_
      show Steps p.tables e below (T391.setTop (mkF m 8 #[.val (.ref a), .val (.long q), .second, .val (.int (0 : Int32)), .val (.int (1 : Int32)), .val (.int (1 : Int32))] [])) t
      refine XS.iloadN X391.here hx rfl (hb hby dix2_8) rfl ?_
      show Steps p.tables e below (T391.setTop (mkF m 9 #[.val (.ref a), .val (.long q), .second, .val (.int (0 : Int32)), .val (.int (1 : Int32)), .val (.int (1 : Int32))] [(.int (0 : Int32))])) t
      refine XS.iload X391.here hx rfl (hb hby dix2_9) rfl ?_
      show Steps p.tables e below (T391.setTop (mkF m 11 #[.val (.ref a), .val (.long q), .second, .val (.int (0 : Int32)), .val (.int (1 : Int32)), .val (.int (1 : Int32))] [(.int (1 : Int32)), (.int (0 : Int32))])) t
      refine XS.icmpNo X391.here hx rfl (hb hby dix2_11) rfl (tlt (by decide)).2.1 ?_
      show Steps p.tables e below (T391.setTop (mkF m 14 #[.val (.ref a), .val (.long q), .second, .val (.int (0 : Int32)), .val (.int (1 : Int32)), .val (.int (1 : Int32))] [])) t
      refine XS.iloadN X391.here hx rfl (hb hby dix2_14) rfl ?_
      show Steps p.tables e below (T391.setTop (mkF m 15 #[.val (.ref a), .val (.long q), .second, .val (.int (0 : Int32)), .val (.int (1 : Int32)), .val (.int (1 : Int32))] [(.int (0 : Int32))])) t
      refine XS.iload X391.here hx rfl (hb hby dix2_15) rfl ?_
      show Steps p.tables e below (T391.setTop (mkF m 17 #[.val (.ref a), .val (.long q), .second, .val (.int (0 : Int32)), .val (.int (1 : Int32)), .val (.int (1 : Int32))] [(.int (1 : Int32)), (.int (0 : Int32))])) t
      refine XS.iadd X391.here hx rfl (hb hby dix2_17) rfl ?_
      show Steps p.tables e below (T391.setTop (mkF m 18 #[.val (.ref a), .val (.long q), .second, .val (.int (0 : Int32)), .val (.int (1 : Int32)), .val (.int (1 : Int32))] [(.int ((0 : Int32) + (1 : Int32)))])) t
      refine XS.iconst X391.here hx rfl (hb hby dix2_18) ?_
      show Steps p.tables e below (T391.setTop (mkF m 19 #[.val (.ref a), .val (.long q), .second, .val (.int (0 : Int32)), .val (.int (1 : Int32)), .val (.int (1 : Int32))] [(.int (1 : Int32)), (.int ((0 : Int32) + (1 : Int32)))])) t
      refine XS.iushr X391.here hx rfl (hb hby dix2_19) rfl ?_
      exact ht
    have q399 : ((((0 : Int32) + (1 : Int32)).toUInt32 >>> ((1 : Int32) &&& 31).toUInt32).toInt32) = (0 : Int32) := by decide
    rw [q399] at k398
    have k400 : Kt p e below m (s₁.setTop (entryFrame m #[(.ref a), (.long q)] 6)) T391 23 #[.val (.ref a), .val (.long q), .second, .val (.int (0 : Int32)), .val (.int (1 : Int32)), .val (.int (0 : Int32))] [(.ref a)] := by
      intro t ht
      refine k398 t ?_
      show Steps p.tables e below (T391.setTop (mkF m 20 #[.val (.ref a), .val (.long q), .second, .val (.int (0 : Int32)), .val (.int (1 : Int32)), .val (.int (1 : Int32))] [(.int (0 : Int32))])) t
      refine XS.istore X391.here hx rfl (hb hby dix2_20) rfl (l' := #[.val (.ref a), .val (.long q), .second, .val (.int (0 : Int32)), .val (.int (1 : Int32)), .val (.int (0 : Int32))]) rfl ?_
      show Steps p.tables e below (T391.setTop (mkF m 22 #[.val (.ref a), .val (.long q), .second, .val (.int (0 : Int32)), .val (.int (1 : Int32)), .val (.int (0 : Int32))] [])) t
      refine XS.aloadN X391.here hx rfl (hb hby dix2_22) rfl rfl ?_
      exact ht
    obtain ⟨T401, X401, e401, st401⟩ := getF X391 hx hZ hown (host := "") (Or.inl (hw _ (List.mem_of_getElem? (i := 14) rfl))) Via.refl e391 F_times (g := (mkF m 23 #[.val (.ref a), .val (.long q), .second, .val (.int (0 : Int32)), .val (.int (1 : Int32)), .val (.int (0 : Int32))] [(.ref a)])) rfl rfl (hb hby dix2_23)
    have k401 : Kt p e below m (s₁.setTop (entryFrame m #[(.ref a), (.long q)] 6)) T401 26 #[.val (.ref a), .val (.long q), .second, .val (.int (0 : Int32)), .val (.int (1 : Int32)), .val (.int (0 : Int32))] [(.ref tb)] := fun t ht => k400 t (st401 t ht)
    have k402 : Kt p e below m (s₁.setTop (entryFrame m #[(.ref a), (.long q)] 6)) T401 28 #[.val (.ref a), .val (.long q), .second, .val (.int (0 : Int32)), .val (.int (1 : Int32)), .val (.int (0 : Int32))] [(.int (0 : Int32)), (.ref tb)] := by
      intro t ht
      refine k401 t ?_
      show Steps p.tables e below (T401.setTop (mkF m 26 #[.val (.ref a), .val (.long q), .second, .val (.int (0 : Int32)), .val (.int (1 : Int32)), .val (.int (0 : Int32))] [(.ref tb)])) t
      refine XS.iload X401.here hx rfl (hb hby dix2_26) rfl ?_
      exact ht
    obtain ⟨cl403, Ar403, qc403, Sz403, Nn403, Hh403, Gg403⟩ := id V_t
    have hin403 : ¬ ((0 : Int32) < 0 ∨ cl403.slots.size ≤ ((0 : Int32)).toNatClampNeg) := inb_of Sz403 ⟨by decide, by decide⟩
    have hat403 : cl403.slots[((0 : Int32)).toNatClampNeg]? = some (.long x0) := Hh403.at hin403 rfl
    have k404 : Kt p e below m (s₁.setTop (entryFrame m #[(.ref a), (.long q)] 6)) T401 31 #[.val (.ref a), .val (.long q), .second, .val (.int (0 : Int32)), .val (.int (1 : Int32)), .val (.int (0 : Int32))] [(.int (lcmpW x0 q))] := by
      intro t ht
      refine k402 t ?_
      show Steps p.tables e below (T401.setTop (mkF m 28 #[.val (.ref a), .val (.long q), .second, .val (.int (0 : Int32)), .val (.int (1 : Int32)), .val (.int (0 : Int32))] [(.int (0 : Int32)), (.ref tb)])) t
      refine X401.laload hx (j := (0 : Int32)) (v := (.long x0)) (by rw [e401]; exact Ar403.1) (State.isArrayOf_alike hZ.alike Ar403.2.1) Ar403.2.2 hin403 hat403 (g := (mkF m 28 #[.val (.ref a), .val (.long q), .second, .val (.int (0 : Int32)), .val (.int (1 : Int32)), .val (.int (0 : Int32))] [(.int (0 : Int32)), (.ref tb)])) rfl rfl (hb hby dix2_28) _ ?_
      show Steps p.tables e below (T401.setTop (mkF m 29 #[.val (.ref a), .val (.long q), .second, .val (.int (0 : Int32)), .val (.int (1 : Int32)), .val (.int (0 : Int32))] [(.long x0)])) t
      refine XS.lloadN X401.here hx rfl (hb hby dix2_29) rfl ?_
      show Steps p.tables e below (T401.setTop (mkF m 30 #[.val (.ref a), .val (.long q), .second, .val (.int (0 : Int32)), .val (.int (1 : Int32)), .val (.int (0 : Int32))] [(.long q), (.long x0)])) t
      refine XS.lcmp X401.here hx rfl (hb hby dix2_30) rfl ?_
      exact ht
    by_cases c0 : x0 < q
    · have t0 := c0
      have k405 : Kt p e below m (s₁.setTop (entryFrame m #[(.ref a), (.long q)] 6)) T401 38 #[.val (.ref a), .val (.long q), .second, .val (.int (0 : Int32)), .val (.int (1 : Int32)), .val (.int (0 : Int32))] [(.int ((0 : Int32) + (1 : Int32)))] := by
        intro t ht
        refine k404 t ?_
        show Steps p.tables e below (T401.setTop (mkF m 31 #[.val (.ref a), .val (.long q), .second, .val (.int (0 : Int32)), .val (.int (1 : Int32)), .val (.int (0 : Int32))] [(.int (lcmpW x0 q))])) t
        refine XS.ifNo X401.here hx rfl (hb hby dix2_31) rfl ((if0 _ _).trans (tlt ((lw_lt _ _).mpr c0)).2.1) ?_
        show Steps p.tables e below (T401.setTop (mkF m 34 #[.val (.ref a), .val (.long q), .second, .val (.int (0 : Int32)), .val (.int (1 : Int32)), .val (.int (0 : Int32))] [])) t
        refine XS.iload X401.here hx rfl (hb hby dix2_34) rfl ?_
        show Steps p.tables e below (T401.setTop (mkF m 36 #[.val (.ref a), .val (.long q), .second, .val (.int (0 : Int32)), .val (.int (1 : Int32)), .val (.int (0 : Int32))] [(.int (0 : Int32))])) t
        refine XS.iconst X401.here hx rfl (hb hby dix2_36) ?_
        show Steps p.tables e below (T401.setTop (mkF m 37 #[.val (.ref a), .val (.long q), .second, .val (.int (0 : Int32)), .val (.int (1 : Int32)), .val (.int (0 : Int32))] [(.int (1 : Int32)), (.int (0 : Int32))])) t
        refine XS.iadd X401.here hx rfl (hb hby dix2_37) rfl ?_
        exact ht
      have q406 : ((0 : Int32) + (1 : Int32)) = (1 : Int32) := by decide
      rw [q406] at k405
      have k407 : Kt p e below m (s₁.setTop (entryFrame m #[(.ref a), (.long q)] 6)) T401 50 #[.val (.ref a), .val (.long q), .second, .val (.int (1 : Int32)), .val (.int (1 : Int32)), .val (.int (0 : Int32))] [(.int (1 : Int32))] := by
        intro t ht
        refine k405 t ?_
        show Steps p.tables e below (T401.setTop (mkF m 38 #[.val (.ref a), .val (.long q), .second, .val (.int (0 : Int32)), .val (.int (1 : Int32)), .val (.int (0 : Int32))] [(.int (1 : Int32))])) t
        refine XS.istoreN X401.here hx rfl (hb hby dix2_38) rfl (l' := #[.val (.ref a), .val (.long q), .second, .val (.int (1 : Int32)), .val (.int (1 : Int32)), .val (.int (0 : Int32))]) rfl ?_
        show Steps p.tables e below (T401.setTop (mkF m 39 #[.val (.ref a), .val (.long q), .second, .val (.int (1 : Int32)), .val (.int (1 : Int32)), .val (.int (0 : Int32))] [])) t
        refine XS.goto X401.here hx rfl (pc0 := 39) (pc' := 46) rfl (hb hby dix2_39) (by decide) (by decide) ?_
        show Steps p.tables e below (T401.setTop (mkF m 46 #[.val (.ref a), .val (.long q), .second, .val (.int (1 : Int32)), .val (.int (1 : Int32)), .val (.int (0 : Int32))] [])) t
        refine XS.goto X401.here hx rfl (pc0 := 46) (pc' := 8) rfl (hb hby dix2_46) (by decide) (by decide) ?_
        show Steps p.tables e below (T401.setTop (mkF m 8 #[.val (.ref a), .val (.long q), .second, .val (.int (1 : Int32)), .val (.int (1 : Int32)), .val (.int (0 : Int32))] [])) t
        refine XS.iloadN X401.here hx rfl (hb hby dix2_8) rfl ?_
        show Steps p.tables e below (T401.setTop (mkF m 9 #[.val (.ref a), .val (.long q), .second, .val (.int (1 : Int32)), .val (.int (1 : Int32)), .val (.int (0 : Int32))] [(.int (1 : Int32))])) t
        refine XS.iload X401.here hx rfl (hb hby dix2_9) rfl ?_
        show Steps p.tables e below (T401.setTop (mkF m 11 #[.val (.ref a), .val (.long q), .second, .val (.int (1 : Int32)), .val (.int (1 : Int32)), .val (.int (0 : Int32))] [(.int (1 : Int32)), (.int (1 : Int32))])) t
        refine XS.icmpYes X401.here hx rfl (pc0 := 11) (pc' := 49) rfl (hb hby dix2_11) rfl (flt (by decide)).2.1 (by decide) (by decide) ?_
        show Steps p.tables e below (T401.setTop (mkF m 49 #[.val (.ref a), .val (.long q), .second, .val (.int (1 : Int32)), .val (.int (1 : Int32)), .val (.int (0 : Int32))] [])) t
        refine XS.iloadN X401.here hx rfl (hb hby dix2_49) rfl ?_
        exact ht
      obtain ⟨fs, hr, hrun, hended, hW, hsame⟩ := X401.leave (v := some (.int (1 : Int32))) (fun h => by rw [Bd.returns] at h; cases h)
      refine ⟨_, _, k407 _ ?_, hrun, hended, _, _, rfl, ?_, ⟨_, rfl⟩, hW, hsame.mono (by decide) (by decide)⟩
      · exact retI X401 hx Bd.returns (hb hby dix2_50) hr
      · show Qix2 Z a q tb kt x0 x1 x2 x3 h0 n0 _ T401.heap _
        rw [e401]
        exact ⟨congrArg (fun z => some (Value.int z)) (by rw [← own_b1 t0, ← own_b0 u1]; decide), N0, rfl⟩
    · have u0 := c0
      have k408 : Kt p e below m (s₁.setTop (entryFrame m #[(.ref a), (.long q)] 6)) T401 50 #[.val (.ref a), .val (.long q), .second, .val (.int (0 : Int32)), .val (.int (0 : Int32)), .val (.int (0 : Int32))] [(.int (0 : Int32))] := by
        intro t ht
        refine k404 t ?_
        show Steps p.tables e below (T401.setTop (mkF m 31 #[.val (.ref a), .val (.long q), .second, .val (.int (0 : Int32)), .val (.int (1 : Int32)), .val (.int (0 : Int32))] [(.int (lcmpW x0 q))])) t
        refine XS.ifYes X401.here hx rfl (pc0 := 31) (pc' := 42) rfl (hb hby dix2_31) rfl ((if0 _ _).trans (flt (mt (lw_lt _ _).mp c0)).2.1) (by decide) (by decide) ?_
        show Steps p.tables e below (T401.setTop (mkF m 42 #[.val (.ref a), .val (.long q), .second, .val (.int (0 : Int32)), .val (.int (1 : Int32)), .val (.int (0 : Int32))] [])) t
        refine XS.iload X401.here hx rfl (hb hby dix2_42) rfl ?_
        show Steps p.tables e below (T401.setTop (mkF m 44 #[.val (.ref a), .val (.long q), .second, .val (.int (0 : Int32)), .val (.int (1 : Int32)), .val (.int (0 : Int32))] [(.int (0 : Int32))])) t
        refine XS.istore X401.here hx rfl (hb hby dix2_44) rfl (l' := #[.val (.ref a), .val (.long q), .second, .val (.int (0 : Int32)), .val (.int (0 : Int32)), .val (.int (0 : Int32))]) rfl ?_
        show Steps p.tables e below (T401.setTop (mkF m 46 #[.val (.ref a), .val (.long q), .second, .val (.int (0 : Int32)), .val (.int (0 : Int32)), .val (.int (0 : Int32))] [])) t
        refine XS.goto X401.here hx rfl (pc0 := 46) (pc' := 8) rfl (hb hby dix2_46) (by decide) (by decide) ?_
        show Steps p.tables e below (T401.setTop (mkF m 8 #[.val (.ref a), .val (.long q), .second, .val (.int (0 : Int32)), .val (.int (0 : Int32)), .val (.int (0 : Int32))] [])) t
        refine XS.iloadN X401.here hx rfl (hb hby dix2_8) rfl ?_
        show Steps p.tables e below (T401.setTop (mkF m 9 #[.val (.ref a), .val (.long q), .second, .val (.int (0 : Int32)), .val (.int (0 : Int32)), .val (.int (0 : Int32))] [(.int (0 : Int32))])) t
        refine XS.iload X401.here hx rfl (hb hby dix2_9) rfl ?_
        show Steps p.tables e below (T401.setTop (mkF m 11 #[.val (.ref a), .val (.long q), .second, .val (.int (0 : Int32)), .val (.int (0 : Int32)), .val (.int (0 : Int32))] [(.int (0 : Int32)), (.int (0 : Int32))])) t
        refine XS.icmpYes X401.here hx rfl (pc0 := 11) (pc' := 49) rfl (hb hby dix2_11) rfl (flt (by decide)).2.1 (by decide) (by decide) ?_
        show Steps p.tables e below (T401.setTop (mkF m 49 #[.val (.ref a), .val (.long q), .second, .val (.int (0 : Int32)), .val (.int (0 : Int32)), .val (.int (0 : Int32))] [])) t
        refine XS.iloadN X401.here hx rfl (hb hby dix2_49) rfl ?_
        exact ht
      obtain ⟨fs, hr, hrun, hended, hW, hsame⟩ := X401.leave (v := some (.int (0 : Int32))) (fun h => by rw [Bd.returns] at h; cases h)
      refine ⟨_, _, k408 _ ?_, hrun, hended, _, _, rfl, ?_, ⟨_, rfl⟩, hW, hsame.mono (by decide) (by decide)⟩
      · exact retI X401 hx Bd.returns (hb hby dix2_50) hr
      · show Qix2 Z a q tb kt x0 x1 x2 x3 h0 n0 _ T401.heap _
        rw [e401]
        exact ⟨congrArg (fun z => some (Value.int z)) (by rw [← own_b0 u0, ← own_b0 u1]; decide), N0, rfl⟩
theorem dix3_0 : decode prog_61_method_8_code 0 = .ok (.iconst 0, 1) := by decide +kernel
theorem dix3_1 : decode prog_61_method_8_code 1 = .ok (.istore_n 3, 1) := by decide +kernel
theorem dix3_2 : decode prog_61_method_8_code 2 = .ok (.aload_n 0, 1) := by decide +kernel
theorem dix3_3 : decode prog_61_method_8_code 3 = .ok (.getfield 21, 3) := by decide +kernel
theorem dix3_6 : decode prog_61_method_8_code 6 = .ok (.istore 4, 2) := by decide +kernel
theorem dix3_8 : decode prog_61_method_8_code 8 = .ok (.iload_n 3, 1) := by decide +kernel
theorem dix3_9 : decode prog_61_method_8_code 9 = .ok (.iload 4, 2) := by decide +kernel
theorem dix3_11 : decode prog_61_method_8_code 11 = .ok (.if_icmp .ge 38, 3) := by decide +kernel
theorem dix3_14 : decode prog_61_method_8_code 14 = .ok (.iload_n 3, 1) := by decide +kernel
theorem dix3_15 : decode prog_61_method_8_code 15 = .ok (.iload 4, 2) := by decide +kernel
theorem dix3_17 : decode prog_61_method_8_code 17 = .ok (.iadd, 1) := by decide +kernel
theorem dix3_18 : decode prog_61_method_8_code 18 = .ok (.iconst 1, 1) := by decide +kernel
theorem dix3_19 : decode prog_61_method_8_code 19 = .ok (.iushr, 1) := by decide +kernel
theorem dix3_20 : decode prog_61_method_8_code 20 = .ok (.istore 5, 2) := by decide +kernel
theorem dix3_22 : decode prog_61_method_8_code 22 = .ok (.aload_n 0, 1) := by decide +kernel
theorem dix3_23 : decode prog_61_method_8_code 23 = .ok (.getfield 9, 3) := by decide +kernel
theorem dix3_26 : decode prog_61_method_8_code 26 = .ok (.iload 5, 2) := by decide +kernel
theorem dix3_28 : decode prog_61_method_8_code 28 = .ok (.laload, 1) := by decide +kernel
theorem dix3_29 : decode prog_61_method_8_code 29 = .ok (.lload_n 1, 1) := by decide +kernel
theorem dix3_30 : decode prog_61_method_8_code 30 = .ok (.lcmp, 1) := by decide +kernel
theorem dix3_31 : decode prog_61_method_8_code 31 = .ok (.ifCond .ge 11, 3) := by decide +kernel
theorem dix3_34 : decode prog_61_method_8_code 34 = .ok (.iload 5, 2) := by decide +kernel
theorem dix3_36 : decode prog_61_method_8_code 36 = .ok (.iconst 1, 1) := by decide +kernel
theorem dix3_37 : decode prog_61_method_8_code 37 = .ok (.iadd, 1) := by decide +kernel
theorem dix3_38 : decode prog_61_method_8_code 38 = .ok (.istore_n 3, 1) := by decide +kernel
theorem dix3_39 : decode prog_61_method_8_code 39 = .ok (.goto 7, 3) := by decide +kernel
theorem dix3_42 : decode prog_61_method_8_code 42 = .ok (.iload 5, 2) := by decide +kernel
theorem dix3_44 : decode prog_61_method_8_code 44 = .ok (.istore 4, 2) := by decide +kernel
theorem dix3_46 : decode prog_61_method_8_code 46 = .ok (.goto (-38), 3) := by decide +kernel
theorem dix3_49 : decode prog_61_method_8_code 49 = .ok (.iload_n 3, 1) := by decide +kernel
theorem dix3_50 : decode prog_61_method_8_code 50 = .ok (.ireturn, 1) := by decide +kernel
theorem pnix3 : plainName "com/example/clearhour/clearhour/market/Timeline" = true := by first | (simp [plainName, overriddenIn]; done) | decide +kernel
theorem efix3 (m : MethodId) (a : Addr) (q : Int64) : entryFrame m #[(.ref a), (.long q)] 6 = mkF m 0 #[.val (.ref a), .val (.long q), .second, .unset, .unset, .unset] [] := by first | (simp [entryFrame, mkF, argsToLocals, Value.category]; done) | rfl
def Qix3 (Z : State) (a : Addr) (q : Int64) (tb : Addr) (kt : ClassId) (x0 : Int64) (x1 : Int64) (x2 : Int64) (x3 : Int64) (h0 : Heap) (n0 : Nat) (v : Option Value) (h : Heap) (L : List Loc) : Prop := v = some (.int ((((0 : Int32) + (own_b (x0 < q))) + (own_b (x1 < q))) + (own_b (x2 < q)))) ∧ Fr n0 L ∧ h = h0
set_option maxRecDepth 65536 in
set_option maxHeartbeats 40000000 in
theorem rmix3 (l : Launch) (Z : State) (a0 : Array Value) (hw : ∀ d ∈ tables_1, d.before a0 Z = true) (ws : List Jvm.Cond) (a : Addr) (q : Int64) (tb : Addr) (kt : ClassId) (x0 : Int64) (x1 : Int64) (x2 : Int64) (x3 : Int64) (h0 : Heap) (n0 : Nat) (Z0 : n0 ≤ h0.size) (F_times : Fld Z h0 a "com/example/clearhour/clearhour/market/Timeline" "times" "[J" (.ref tb)) (F_size : Fld Z h0 a "com/example/clearhour/clearhour/market/Timeline" "size" "I" (.int (3 : Int32))) (V_t : Arv Z h0 tb kt .long (16 : Int32) [(.long x0), (.long x1), (.long x2), (.long x3)] (.long (0 : Int64))) (o0 : ¬ x1 < x0) (o1 : ¬ x2 < x1) :
    MetFree l (⟨"com/example/clearhour/clearhour/market/Timeline", "indexFrom", "(J)I"⟩ : MethodName) (head1 (Jvm.Cond.code (⟨"com/example/clearhour/clearhour/market/Timeline", "indexFrom", "(J)I"⟩ : MethodName) prog_61_method_8_code 6 (some .int) :: ws) ({ frames := 0, cells := 0, slots := 0, locals := 0 } : Room)) (fun gs' U => gs' = #[(.ref a), (.long q)] ∧ Z.Warmed39 U.vm ∧ U.heap = h0) (fun _ _ _ _ _ => True) (fun _ U o U' => ∃ v L, o = .returned v ∧ Qix3 Z a q tb kt x0 x1 x2 x3 h0 n0 v U'.heap L ∧ FrameEnd U o U' L ({ frames := 0, cells := 0, slots := 0, locals := 0 } : Room).cells ({ frames := 0, cells := 0, slots := 0, locals := 0 } : Room).slots) := by
  refine MetFree.of_bodySF (plainFor_of_name pnix3) hisR ?_
  intro p e s m args below meth c s₁ Bd hml0 hP hK
  obtain ⟨rfl, hZ, hh⟩ := hP
  have hx := Bd.exec
  have hby := Bd.bytes
  have hml : c.maxLocals = 6 := hml0
  have hown : s.vm.findClass "com/example/clearhour/clearhour/market/Timeline" = some m.cls := findClass_of_methodNamed Bd.named
  have hnm := (name_of_methodNamed Bd.named Bd.method).1
  have X0 : Stand p l e ({ frames := 0, cells := 0, slots := 0, locals := 0 } : Room) s m #[(.ref a), (.long q)] below meth c s₁ [] 0 0 := Stand.of_body Bd
  have e0 : s₁.heap = h0 := by rw [← hh, Bd.state]; rfl
  have N0 := Fr.nil n0
  have k0 : Kt p e below m (s₁.setTop (entryFrame m #[(.ref a), (.long q)] 6)) s₁ 0 #[.val (.ref a), .val (.long q), .second, .unset, .unset, .unset] [] := fun t ht => castTop (efix3 m a q) ht
  have k409 : Kt p e below m (s₁.setTop (entryFrame m #[(.ref a), (.long q)] 6)) s₁ 3 #[.val (.ref a), .val (.long q), .second, .val (.int (0 : Int32)), .unset, .unset] [(.ref a)] := by
    intro t ht
    refine k0 t ?_
    show Steps p.tables e below (s₁.setTop (mkF m 0 #[.val (.ref a), .val (.long q), .second, .unset, .unset, .unset] [])) t
    refine XS.iconst X0.here hx rfl (hb hby dix3_0) ?_
    show Steps p.tables e below (s₁.setTop (mkF m 1 #[.val (.ref a), .val (.long q), .second, .unset, .unset, .unset] [(.int (0 : Int32))])) t
    refine XS.istoreN X0.here hx rfl (hb hby dix3_1) rfl (l' := #[.val (.ref a), .val (.long q), .second, .val (.int (0 : Int32)), .unset, .unset]) rfl ?_
    show Steps p.tables e below (s₁.setTop (mkF m 2 #[.val (.ref a), .val (.long q), .second, .val (.int (0 : Int32)), .unset, .unset] [])) t
    refine XS.aloadN X0.here hx rfl (hb hby dix3_2) rfl rfl ?_
    exact ht
  obtain ⟨T410, X410, e410, st410⟩ := getF X0 hx hZ hown (host := "") (Or.inl (hw _ (List.mem_of_getElem? (i := 27) rfl))) Via.refl e0 F_size (g := (mkF m 3 #[.val (.ref a), .val (.long q), .second, .val (.int (0 : Int32)), .unset, .unset] [(.ref a)])) rfl rfl (hb hby dix3_3)
  have k410 : Kt p e below m (s₁.setTop (entryFrame m #[(.ref a), (.long q)] 6)) T410 6 #[.val (.ref a), .val (.long q), .second, .val (.int (0 : Int32)), .unset, .unset] [(.int (3 : Int32))] := fun t ht => k409 t (st410 t ht)
  have k411 : Kt p e below m (s₁.setTop (entryFrame m #[(.ref a), (.long q)] 6)) T410 20 #[.val (.ref a), .val (.long q), .second, .val (.int (0 : Int32)), .val (.int (3 : Int32)), .unset] [(.int ((((0 : Int32) + (3 : Int32)).toUInt32 >>> ((1 : Int32) &&& 31).toUInt32).toInt32))] := by
    intro t ht
    refine k410 t ?_
    show Steps p.tables e below (T410.setTop (mkF m 6 #[.val (.ref a), .val (.long q), .second, .val (.int (0 : Int32)), .unset, .unset] [(.int (3 : Int32))])) t
    refine XS.istore X410.here hx rfl (hb hby dix3_6) rfl (l' := #[.val (.ref a), .val (.long q), .second, .val (.int (0 : Int32)), .val (.int (3 : Int32)), .unset]) rfl ?_
    show Steps p.tables e below (T410.setTop (mkF m 8 #[.val (.ref a), .val (.long q), .second, .val (.int (0 : Int32)), .val (.int (3 : Int32)), .unset] [])) t
    refine XS.iloadN X410.here hx rfl (hb hby dix3_8) rfl ?_
    show Steps p.tables e below (T410.setTop (mkF m 9 #[.val (.ref a), .val (.long q), .second, .val (.int (0 : Int32)), .val (.int (3 : Int32)), .unset] [(.int (0 : Int32))])) t
    refine XS.iload X410.here hx rfl (hb hby dix3_9) rfl ?_
    show Steps p.tables e below (T410.setTop (mkF m 11 #[.val (.ref a), .val (.long q), .second, .val (.int (0 : Int32)), .val (.int (3 : Int32)), .unset] [(.int (3 : Int32)), (.int (0 : Int32))])) t
    refine XS.icmpNo X410.here hx rfl (hb hby dix3_11) rfl (tlt (by decide)).2.1 ?_
    show Steps p.tables e below (T410.setTop (mkF m 14 #[.val (.ref a), .val (.long q), .second, .val (.int (0 : Int32)), .val (.int (3 : Int32)), .unset] [])) t
    refine XS.iloadN X410.here hx rfl (hb hby dix3_14) rfl ?_
    show Steps p.tables e below (T410.setTop (mkF m 15 #[.val (.ref a), .val (.long q), .second, .val (.int (0 : Int32)), .val (.int (3 : Int32)), .unset] [(.int (0 : Int32))])) t
    refine XS.iload X410.here hx rfl (hb hby dix3_15) rfl ?_
    show Steps p.tables e below (T410.setTop (mkF m 17 #[.val (.ref a), .val (.long q), .second, .val (.int (0 : Int32)), .val (.int (3 : Int32)), .unset] [(.int (3 : Int32)), (.int (0 : Int32))])) t
    refine XS.iadd X410.here hx rfl (hb hby dix3_17) rfl ?_
    show Steps p.tables e below (T410.setTop (mkF m 18 #[.val (.ref a), .val (.long q), .second, .val (.int (0 : Int32)), .val (.int (3 : Int32)), .unset] [(.int ((0 : Int32) + (3 : Int32)))])) t
    refine XS.iconst X410.here hx rfl (hb hby dix3_18) ?_
    show Steps p.tables e below (T410.setTop (mkF m 19 #[.val (.ref a), .val (.long q), .second, .val (.int (0 : Int32)), .val (.int (3 : Int32)), .unset] [(.int (1 : Int32)), (.int ((0 : Int32) + (3 : Int32)))])) t
    refine XS.iushr X410.here hx rfl (hb hby dix3_19) rfl ?_
    exact ht
  have q412 : ((((0 : Int32) + (3 : Int32)).toUInt32 >>> ((1 : Int32) &&& 31).toUInt32).toInt32) = (1 : Int32) := by decide
  rw [q412] at k411
  have k413 : Kt p e below m (s₁.setTop (entryFrame m #[(.ref a), (.long q)] 6)) T410 23 #[.val (.ref a), .val (.long q), .second, .val (.int (0 : Int32)), .val (.int (3 : Int32)), .val (.int (1 : Int32))] [(.ref a)] := by
    intro t ht
    refine k411 t ?_
    show Steps p.tables e below (T410.setTop (mkF m 20 #[.val (.ref a), .val (.long q), .second, .val (.int (0 : Int32)), .val (.int (3 : Int32)), .unset] [(.int (1 : Int32))])) t
    refine XS.istore X410.here hx rfl (hb hby dix3_20) rfl (l' := #[.val (.ref a), .val (.long q), .second, .val (.int (0 : Int32)), .val (.int (3 : Int32)), .val (.int (1 : Int32))]) rfl ?_
    show Steps p.tables e below (T410.setTop (mkF m 22 #[.val (.ref a), .val (.long q), .second, .val (.int (0 : Int32)), .val (.int (3 : Int32)), .val (.int (1 : Int32))] [])) t
    refine XS.aloadN X410.here hx rfl (hb hby dix3_22) rfl rfl ?_
    exact ht
  obtain ⟨T414, X414, e414, st414⟩ := getF X410 hx hZ hown (host := "") (Or.inl (hw _ (List.mem_of_getElem? (i := 14) rfl))) Via.refl e410 F_times (g := (mkF m 23 #[.val (.ref a), .val (.long q), .second, .val (.int (0 : Int32)), .val (.int (3 : Int32)), .val (.int (1 : Int32))] [(.ref a)])) rfl rfl (hb hby dix3_23)
  have k414 : Kt p e below m (s₁.setTop (entryFrame m #[(.ref a), (.long q)] 6)) T414 26 #[.val (.ref a), .val (.long q), .second, .val (.int (0 : Int32)), .val (.int (3 : Int32)), .val (.int (1 : Int32))] [(.ref tb)] := fun t ht => k413 t (st414 t ht)
  have k415 : Kt p e below m (s₁.setTop (entryFrame m #[(.ref a), (.long q)] 6)) T414 28 #[.val (.ref a), .val (.long q), .second, .val (.int (0 : Int32)), .val (.int (3 : Int32)), .val (.int (1 : Int32))] [(.int (1 : Int32)), (.ref tb)] := by
    intro t ht
    refine k414 t ?_
    show Steps p.tables e below (T414.setTop (mkF m 26 #[.val (.ref a), .val (.long q), .second, .val (.int (0 : Int32)), .val (.int (3 : Int32)), .val (.int (1 : Int32))] [(.ref tb)])) t
    refine XS.iload X414.here hx rfl (hb hby dix3_26) rfl ?_
    exact ht
  obtain ⟨cl416, Ar416, qc416, Sz416, Nn416, Hh416, Gg416⟩ := id V_t
  have hin416 : ¬ ((1 : Int32) < 0 ∨ cl416.slots.size ≤ ((1 : Int32)).toNatClampNeg) := inb_of Sz416 ⟨by decide, by decide⟩
  have hat416 : cl416.slots[((1 : Int32)).toNatClampNeg]? = some (.long x1) := Hh416.at hin416 rfl
  have k417 : Kt p e below m (s₁.setTop (entryFrame m #[(.ref a), (.long q)] 6)) T414 31 #[.val (.ref a), .val (.long q), .second, .val (.int (0 : Int32)), .val (.int (3 : Int32)), .val (.int (1 : Int32))] [(.int (lcmpW x1 q))] := by
    intro t ht
    refine k415 t ?_
    show Steps p.tables e below (T414.setTop (mkF m 28 #[.val (.ref a), .val (.long q), .second, .val (.int (0 : Int32)), .val (.int (3 : Int32)), .val (.int (1 : Int32))] [(.int (1 : Int32)), (.ref tb)])) t
    refine X414.laload hx (j := (1 : Int32)) (v := (.long x1)) (by rw [e414]; exact Ar416.1) (State.isArrayOf_alike hZ.alike Ar416.2.1) Ar416.2.2 hin416 hat416 (g := (mkF m 28 #[.val (.ref a), .val (.long q), .second, .val (.int (0 : Int32)), .val (.int (3 : Int32)), .val (.int (1 : Int32))] [(.int (1 : Int32)), (.ref tb)])) rfl rfl (hb hby dix3_28) _ ?_
    show Steps p.tables e below (T414.setTop (mkF m 29 #[.val (.ref a), .val (.long q), .second, .val (.int (0 : Int32)), .val (.int (3 : Int32)), .val (.int (1 : Int32))] [(.long x1)])) t
    refine XS.lloadN X414.here hx rfl (hb hby dix3_29) rfl ?_
    show Steps p.tables e below (T414.setTop (mkF m 30 #[.val (.ref a), .val (.long q), .second, .val (.int (0 : Int32)), .val (.int (3 : Int32)), .val (.int (1 : Int32))] [(.long q), (.long x1)])) t
    refine XS.lcmp X414.here hx rfl (hb hby dix3_30) rfl ?_
    exact ht
  by_cases c1 : x1 < q
  · have t1 := c1
    have k418 : Kt p e below m (s₁.setTop (entryFrame m #[(.ref a), (.long q)] 6)) T414 38 #[.val (.ref a), .val (.long q), .second, .val (.int (0 : Int32)), .val (.int (3 : Int32)), .val (.int (1 : Int32))] [(.int ((1 : Int32) + (1 : Int32)))] := by
      intro t ht
      refine k417 t ?_
      show Steps p.tables e below (T414.setTop (mkF m 31 #[.val (.ref a), .val (.long q), .second, .val (.int (0 : Int32)), .val (.int (3 : Int32)), .val (.int (1 : Int32))] [(.int (lcmpW x1 q))])) t
      refine XS.ifNo X414.here hx rfl (hb hby dix3_31) rfl ((if0 _ _).trans (tlt ((lw_lt _ _).mpr c1)).2.1) ?_
      show Steps p.tables e below (T414.setTop (mkF m 34 #[.val (.ref a), .val (.long q), .second, .val (.int (0 : Int32)), .val (.int (3 : Int32)), .val (.int (1 : Int32))] [])) t
      refine XS.iload X414.here hx rfl (hb hby dix3_34) rfl ?_
      show Steps p.tables e below (T414.setTop (mkF m 36 #[.val (.ref a), .val (.long q), .second, .val (.int (0 : Int32)), .val (.int (3 : Int32)), .val (.int (1 : Int32))] [(.int (1 : Int32))])) t
      refine XS.iconst X414.here hx rfl (hb hby dix3_36) ?_
      show Steps p.tables e below (T414.setTop (mkF m 37 #[.val (.ref a), .val (.long q), .second, .val (.int (0 : Int32)), .val (.int (3 : Int32)), .val (.int (1 : Int32))] [(.int (1 : Int32)), (.int (1 : Int32))])) t
      refine XS.iadd X414.here hx rfl (hb hby dix3_37) rfl ?_
      exact ht
    have q419 : ((1 : Int32) + (1 : Int32)) = (2 : Int32) := by decide
    rw [q419] at k418
    have k420 : Kt p e below m (s₁.setTop (entryFrame m #[(.ref a), (.long q)] 6)) T414 20 #[.val (.ref a), .val (.long q), .second, .val (.int (2 : Int32)), .val (.int (3 : Int32)), .val (.int (1 : Int32))] [(.int ((((2 : Int32) + (3 : Int32)).toUInt32 >>> ((1 : Int32) &&& 31).toUInt32).toInt32))] := by
      intro t ht
      refine k418 t ?_
      show Steps p.tables e below (T414.setTop (mkF m 38 #[.val (.ref a), .val (.long q), .second, .val (.int (0 : Int32)), .val (.int (3 : Int32)), .val (.int (1 : Int32))] [(.int (2 : Int32))])) t
      refine XS.istoreN X414.here hx rfl (hb hby dix3_38) rfl (l' := #[.val (.ref a), .val (.long q), .second, .val (.int (2 : Int32)), .val (.int (3 : Int32)), .val (.int (1 : Int32))]) rfl ?_
      show Steps p.tables e below (T414.setTop (mkF m 39 #[.val (.ref a), .val (.long q), .second, .val (.int (2 : Int32)), .val (.int (3 : Int32)), .val (.int (1 : Int32))] [])) t
      refine XS.goto X414.here hx rfl (pc0 := 39) (pc' := 46) rfl (hb hby dix3_39) (by decide) (by decide) ?_
      show Steps p.tables e below (T414.setTop (mkF m 46 #[.val (.ref a), .val (.long q), .second, .val (.int (2 : Int32)), .val (.int (3 : Int32)), .val (.int (1 : Int32))] [])) t
      refine XS.goto X414.here hx rfl (pc0 := 46) (pc' := 8) rfl (hb hby dix3_46) (by decide) (by decide) ?_
      show Steps p.tables e below (T414.setTop (mkF m 8 #[.val (.ref a), .val (.long q), .second, .val (.int (2 : Int32)), .val (.int (3 : Int32)), .val (.int (1 : Int32))] [])) t
      refine XS.iloadN X414.here hx rfl (hb hby dix3_8) rfl ?_
      show Steps p.tables e below (T414.setTop (mkF m 9 #[.val (.ref a), .val (.long q), .second, .val (.int (2 : Int32)), .val (.int (3 : Int32)), .val (.int (1 : Int32))] [(.int (2 : Int32))])) t
      refine XS.iload X414.here hx rfl (hb hby dix3_9) rfl ?_
      show Steps p.tables e below (T414.setTop (mkF m 11 #[.val (.ref a), .val (.long q), .second, .val (.int (2 : Int32)), .val (.int (3 : Int32)), .val (.int (1 : Int32))] [(.int (3 : Int32)), (.int (2 : Int32))])) t
      refine XS.icmpNo X414.here hx rfl (hb hby dix3_11) rfl (tlt (by decide)).2.1 ?_
      show Steps p.tables e below (T414.setTop (mkF m 14 #[.val (.ref a), .val (.long q), .second, .val (.int (2 : Int32)), .val (.int (3 : Int32)), .val (.int (1 : Int32))] [])) t
      refine XS.iloadN X414.here hx rfl (hb hby dix3_14) rfl ?_
      show Steps p.tables e below (T414.setTop (mkF m 15 #[.val (.ref a), .val (.long q), .second, .val (.int (2 : Int32)), .val (.int (3 : Int32)), .val (.int (1 : Int32))] [(.int (2 : Int32))])) t
      refine XS.iload X414.here hx rfl (hb hby dix3_15) rfl ?_
      show Steps p.tables e below (T414.setTop (mkF m 17 #[.val (.ref a), .val (.long q), .second, .val (.int (2 : Int32)), .val (.int (3 : Int32)), .val (.int (1 : Int32))] [(.int (3 : Int32)), (.int (2 : Int32))])) t
      refine XS.iadd X414.here hx rfl (hb hby dix3_17) rfl ?_
      show Steps p.tables e below (T414.setTop (mkF m 18 #[.val (.ref a), .val (.long q), .second, .val (.int (2 : Int32)), .val (.int (3 : Int32)), .val (.int (1 : Int32))] [(.int ((2 : Int32) + (3 : Int32)))])) t
      refine XS.iconst X414.here hx rfl (hb hby dix3_18) ?_
      show Steps p.tables e below (T414.setTop (mkF m 19 #[.val (.ref a), .val (.long q), .second, .val (.int (2 : Int32)), .val (.int (3 : Int32)), .val (.int (1 : Int32))] [(.int (1 : Int32)), (.int ((2 : Int32) + (3 : Int32)))])) t
      refine XS.iushr X414.here hx rfl (hb hby dix3_19) rfl ?_
      exact ht
    have q421 : ((((2 : Int32) + (3 : Int32)).toUInt32 >>> ((1 : Int32) &&& 31).toUInt32).toInt32) = (2 : Int32) := by decide
    rw [q421] at k420
    have k422 : Kt p e below m (s₁.setTop (entryFrame m #[(.ref a), (.long q)] 6)) T414 23 #[.val (.ref a), .val (.long q), .second, .val (.int (2 : Int32)), .val (.int (3 : Int32)), .val (.int (2 : Int32))] [(.ref a)] := by
      intro t ht
      refine k420 t ?_
      show Steps p.tables e below (T414.setTop (mkF m 20 #[.val (.ref a), .val (.long q), .second, .val (.int (2 : Int32)), .val (.int (3 : Int32)), .val (.int (1 : Int32))] [(.int (2 : Int32))])) t
      refine XS.istore X414.here hx rfl (hb hby dix3_20) rfl (l' := #[.val (.ref a), .val (.long q), .second, .val (.int (2 : Int32)), .val (.int (3 : Int32)), .val (.int (2 : Int32))]) rfl ?_
      show Steps p.tables e below (T414.setTop (mkF m 22 #[.val (.ref a), .val (.long q), .second, .val (.int (2 : Int32)), .val (.int (3 : Int32)), .val (.int (2 : Int32))] [])) t
      refine XS.aloadN X414.here hx rfl (hb hby dix3_22) rfl rfl ?_
      exact ht
    obtain ⟨T423, X423, e423, st423⟩ := getF X414 hx hZ hown (host := "") (Or.inl (hw _ (List.mem_of_getElem? (i := 14) rfl))) Via.refl e414 F_times (g := (mkF m 23 #[.val (.ref a), .val (.long q), .second, .val (.int (2 : Int32)), .val (.int (3 : Int32)), .val (.int (2 : Int32))] [(.ref a)])) rfl rfl (hb hby dix3_23)
    have k423 : Kt p e below m (s₁.setTop (entryFrame m #[(.ref a), (.long q)] 6)) T423 26 #[.val (.ref a), .val (.long q), .second, .val (.int (2 : Int32)), .val (.int (3 : Int32)), .val (.int (2 : Int32))] [(.ref tb)] := fun t ht => k422 t (st423 t ht)
    have k424 : Kt p e below m (s₁.setTop (entryFrame m #[(.ref a), (.long q)] 6)) T423 28 #[.val (.ref a), .val (.long q), .second, .val (.int (2 : Int32)), .val (.int (3 : Int32)), .val (.int (2 : Int32))] [(.int (2 : Int32)), (.ref tb)] := by
      intro t ht
      refine k423 t ?_
      show Steps p.tables e below (T423.setTop (mkF m 26 #[.val (.ref a), .val (.long q), .second, .val (.int (2 : Int32)), .val (.int (3 : Int32)), .val (.int (2 : Int32))] [(.ref tb)])) t
      refine XS.iload X423.here hx rfl (hb hby dix3_26) rfl ?_
      exact ht
    obtain ⟨cl425, Ar425, qc425, Sz425, Nn425, Hh425, Gg425⟩ := id V_t
    have hin425 : ¬ ((2 : Int32) < 0 ∨ cl425.slots.size ≤ ((2 : Int32)).toNatClampNeg) := inb_of Sz425 ⟨by decide, by decide⟩
    have hat425 : cl425.slots[((2 : Int32)).toNatClampNeg]? = some (.long x2) := Hh425.at hin425 rfl
    have k426 : Kt p e below m (s₁.setTop (entryFrame m #[(.ref a), (.long q)] 6)) T423 31 #[.val (.ref a), .val (.long q), .second, .val (.int (2 : Int32)), .val (.int (3 : Int32)), .val (.int (2 : Int32))] [(.int (lcmpW x2 q))] := by
      intro t ht
      refine k424 t ?_
      show Steps p.tables e below (T423.setTop (mkF m 28 #[.val (.ref a), .val (.long q), .second, .val (.int (2 : Int32)), .val (.int (3 : Int32)), .val (.int (2 : Int32))] [(.int (2 : Int32)), (.ref tb)])) t
      refine X423.laload hx (j := (2 : Int32)) (v := (.long x2)) (by rw [e423]; exact Ar425.1) (State.isArrayOf_alike hZ.alike Ar425.2.1) Ar425.2.2 hin425 hat425 (g := (mkF m 28 #[.val (.ref a), .val (.long q), .second, .val (.int (2 : Int32)), .val (.int (3 : Int32)), .val (.int (2 : Int32))] [(.int (2 : Int32)), (.ref tb)])) rfl rfl (hb hby dix3_28) _ ?_
      show Steps p.tables e below (T423.setTop (mkF m 29 #[.val (.ref a), .val (.long q), .second, .val (.int (2 : Int32)), .val (.int (3 : Int32)), .val (.int (2 : Int32))] [(.long x2)])) t
      refine XS.lloadN X423.here hx rfl (hb hby dix3_29) rfl ?_
      show Steps p.tables e below (T423.setTop (mkF m 30 #[.val (.ref a), .val (.long q), .second, .val (.int (2 : Int32)), .val (.int (3 : Int32)), .val (.int (2 : Int32))] [(.long q), (.long x2)])) t
      refine XS.lcmp X423.here hx rfl (hb hby dix3_30) rfl ?_
      exact ht
    by_cases c2 : x2 < q
    · have t2 := c2
      have k427 : Kt p e below m (s₁.setTop (entryFrame m #[(.ref a), (.long q)] 6)) T423 38 #[.val (.ref a), .val (.long q), .second, .val (.int (2 : Int32)), .val (.int (3 : Int32)), .val (.int (2 : Int32))] [(.int ((2 : Int32) + (1 : Int32)))] := by
        intro t ht
        refine k426 t ?_
        show Steps p.tables e below (T423.setTop (mkF m 31 #[.val (.ref a), .val (.long q), .second, .val (.int (2 : Int32)), .val (.int (3 : Int32)), .val (.int (2 : Int32))] [(.int (lcmpW x2 q))])) t
        refine XS.ifNo X423.here hx rfl (hb hby dix3_31) rfl ((if0 _ _).trans (tlt ((lw_lt _ _).mpr c2)).2.1) ?_
        show Steps p.tables e below (T423.setTop (mkF m 34 #[.val (.ref a), .val (.long q), .second, .val (.int (2 : Int32)), .val (.int (3 : Int32)), .val (.int (2 : Int32))] [])) t
        refine XS.iload X423.here hx rfl (hb hby dix3_34) rfl ?_
        show Steps p.tables e below (T423.setTop (mkF m 36 #[.val (.ref a), .val (.long q), .second, .val (.int (2 : Int32)), .val (.int (3 : Int32)), .val (.int (2 : Int32))] [(.int (2 : Int32))])) t
        refine XS.iconst X423.here hx rfl (hb hby dix3_36) ?_
        show Steps p.tables e below (T423.setTop (mkF m 37 #[.val (.ref a), .val (.long q), .second, .val (.int (2 : Int32)), .val (.int (3 : Int32)), .val (.int (2 : Int32))] [(.int (1 : Int32)), (.int (2 : Int32))])) t
        refine XS.iadd X423.here hx rfl (hb hby dix3_37) rfl ?_
        exact ht
      have q428 : ((2 : Int32) + (1 : Int32)) = (3 : Int32) := by decide
      rw [q428] at k427
      have v0 := own_tr o0 t1
      have k429 : Kt p e below m (s₁.setTop (entryFrame m #[(.ref a), (.long q)] 6)) T423 50 #[.val (.ref a), .val (.long q), .second, .val (.int (3 : Int32)), .val (.int (3 : Int32)), .val (.int (2 : Int32))] [(.int (3 : Int32))] := by
        intro t ht
        refine k427 t ?_
        show Steps p.tables e below (T423.setTop (mkF m 38 #[.val (.ref a), .val (.long q), .second, .val (.int (2 : Int32)), .val (.int (3 : Int32)), .val (.int (2 : Int32))] [(.int (3 : Int32))])) t
        refine XS.istoreN X423.here hx rfl (hb hby dix3_38) rfl (l' := #[.val (.ref a), .val (.long q), .second, .val (.int (3 : Int32)), .val (.int (3 : Int32)), .val (.int (2 : Int32))]) rfl ?_
        show Steps p.tables e below (T423.setTop (mkF m 39 #[.val (.ref a), .val (.long q), .second, .val (.int (3 : Int32)), .val (.int (3 : Int32)), .val (.int (2 : Int32))] [])) t
        refine XS.goto X423.here hx rfl (pc0 := 39) (pc' := 46) rfl (hb hby dix3_39) (by decide) (by decide) ?_
        show Steps p.tables e below (T423.setTop (mkF m 46 #[.val (.ref a), .val (.long q), .second, .val (.int (3 : Int32)), .val (.int (3 : Int32)), .val (.int (2 : Int32))] [])) t
        refine XS.goto X423.here hx rfl (pc0 := 46) (pc' := 8) rfl (hb hby dix3_46) (by decide) (by decide) ?_
        show Steps p.tables e below (T423.setTop (mkF m 8 #[.val (.ref a), .val (.long q), .second, .val (.int (3 : Int32)), .val (.int (3 : Int32)), .val (.int (2 : Int32))] [])) t
        refine XS.iloadN X423.here hx rfl (hb hby dix3_8) rfl ?_
        show Steps p.tables e below (T423.setTop (mkF m 9 #[.val (.ref a), .val (.long q), .second, .val (.int (3 : Int32)), .val (.int (3 : Int32)), .val (.int (2 : Int32))] [(.int (3 : Int32))])) t
        refine XS.iload X423.here hx rfl (hb hby dix3_9) rfl ?_
        show Steps p.tables e below (T423.setTop (mkF m 11 #[.val (.ref a), .val (.long q), .second, .val (.int (3 : Int32)), .val (.int (3 : Int32)), .val (.int (2 : Int32))] [(.int (3 : Int32)), (.int (3 : Int32))])) t
        refine XS.icmpYes X423.here hx rfl (pc0 := 11) (pc' := 49) rfl (hb hby dix3_11) rfl (flt (by decide)).2.1 (by decide) (by decide) ?_
        show Steps p.tables e below (T423.setTop (mkF m 49 #[.val (.ref a), .val (.long q), .second, .val (.int (3 : Int32)), .val (.int (3 : Int32)), .val (.int (2 : Int32))] [])) t
        refine XS.iloadN X423.here hx rfl (hb hby dix3_49) rfl ?_
        exact ht
      obtain ⟨fs, hr, hrun, hended, hW, hsame⟩ := X423.leave (v := some (.int (3 : Int32))) (fun h => by rw [Bd.returns] at h; cases h)
      refine ⟨_, _, k429 _ ?_, hrun, hended, _, _, rfl, ?_, ⟨_, rfl⟩, hW, hsame.mono (by decide) (by decide)⟩
      · exact retI X423 hx Bd.returns (hb hby dix3_50) hr
      · show Qix3 Z a q tb kt x0 x1 x2 x3 h0 n0 _ T423.heap _
        rw [e423]
        exact ⟨congrArg (fun z => some (Value.int z)) (by rw [← own_b1 v0, ← own_b1 t1, ← own_b1 t2]; decide), N0, rfl⟩
    · have u2 := c2
      have v0 := own_tr o0 t1
      have k430 : Kt p e below m (s₁.setTop (entryFrame m #[(.ref a), (.long q)] 6)) T423 50 #[.val (.ref a), .val (.long q), .second, .val (.int (2 : Int32)), .val (.int (2 : Int32)), .val (.int (2 : Int32))] [(.int (2 : Int32))] := by
        intro t ht
        refine k426 t ?_
        show Steps p.tables e below (T423.setTop (mkF m 31 #[.val (.ref a), .val (.long q), .second, .val (.int (2 : Int32)), .val (.int (3 : Int32)), .val (.int (2 : Int32))] [(.int (lcmpW x2 q))])) t
        refine XS.ifYes X423.here hx rfl (pc0 := 31) (pc' := 42) rfl (hb hby dix3_31) rfl ((if0 _ _).trans (flt (mt (lw_lt _ _).mp c2)).2.1) (by decide) (by decide) ?_
        show Steps p.tables e below (T423.setTop (mkF m 42 #[.val (.ref a), .val (.long q), .second, .val (.int (2 : Int32)), .val (.int (3 : Int32)), .val (.int (2 : Int32))] [])) t
        refine XS.iload X423.here hx rfl (hb hby dix3_42) rfl ?_
        show Steps p.tables e below (T423.setTop (mkF m 44 #[.val (.ref a), .val (.long q), .second, .val (.int (2 : Int32)), .val (.int (3 : Int32)), .val (.int (2 : Int32))] [(.int (2 : Int32))])) t
        refine XS.istore X423.here hx rfl (hb hby dix3_44) rfl (l' := #[.val (.ref a), .val (.long q), .second, .val (.int (2 : Int32)), .val (.int (2 : Int32)), .val (.int (2 : Int32))]) rfl ?_
        show Steps p.tables e below (T423.setTop (mkF m 46 #[.val (.ref a), .val (.long q), .second, .val (.int (2 : Int32)), .val (.int (2 : Int32)), .val (.int (2 : Int32))] [])) t
        refine XS.goto X423.here hx rfl (pc0 := 46) (pc' := 8) rfl (hb hby dix3_46) (by decide) (by decide) ?_
        show Steps p.tables e below (T423.setTop (mkF m 8 #[.val (.ref a), .val (.long q), .second, .val (.int (2 : Int32)), .val (.int (2 : Int32)), .val (.int (2 : Int32))] [])) t
        refine XS.iloadN X423.here hx rfl (hb hby dix3_8) rfl ?_
        show Steps p.tables e below (T423.setTop (mkF m 9 #[.val (.ref a), .val (.long q), .second, .val (.int (2 : Int32)), .val (.int (2 : Int32)), .val (.int (2 : Int32))] [(.int (2 : Int32))])) t
        refine XS.iload X423.here hx rfl (hb hby dix3_9) rfl ?_
        show Steps p.tables e below (T423.setTop (mkF m 11 #[.val (.ref a), .val (.long q), .second, .val (.int (2 : Int32)), .val (.int (2 : Int32)), .val (.int (2 : Int32))] [(.int (2 : Int32)), (.int (2 : Int32))])) t
        refine XS.icmpYes X423.here hx rfl (pc0 := 11) (pc' := 49) rfl (hb hby dix3_11) rfl (flt (by decide)).2.1 (by decide) (by decide) ?_
        show Steps p.tables e below (T423.setTop (mkF m 49 #[.val (.ref a), .val (.long q), .second, .val (.int (2 : Int32)), .val (.int (2 : Int32)), .val (.int (2 : Int32))] [])) t
        refine XS.iloadN X423.here hx rfl (hb hby dix3_49) rfl ?_
        exact ht
      obtain ⟨fs, hr, hrun, hended, hW, hsame⟩ := X423.leave (v := some (.int (2 : Int32))) (fun h => by rw [Bd.returns] at h; cases h)
      refine ⟨_, _, k430 _ ?_, hrun, hended, _, _, rfl, ?_, ⟨_, rfl⟩, hW, hsame.mono (by decide) (by decide)⟩
      · exact retI X423 hx Bd.returns (hb hby dix3_50) hr
      · show Qix3 Z a q tb kt x0 x1 x2 x3 h0 n0 _ T423.heap _
        rw [e423]
        exact ⟨congrArg (fun z => some (Value.int z)) (by rw [← own_b1 v0, ← own_b1 t1, ← own_b0 u2]; decide), N0, rfl⟩
  · have u1 := c1
    have k431 : Kt p e below m (s₁.setTop (entryFrame m #[(.ref a), (.long q)] 6)) T414 20 #[.val (.ref a), .val (.long q), .second, .val (.int (0 : Int32)), .val (.int (1 : Int32)), .val (.int (1 : Int32))] [(.int ((((0 : Int32) + (1 : Int32)).toUInt32 >>> ((1 : Int32) &&& 31).toUInt32).toInt32))] := by
      intro t ht
      refine k417 t ?_
      show Steps p.tables e below (T414.setTop (mkF m 31 #[.val (.ref a), .val (.long q), .second, .val (.int (0 : Int32)), .val (.int (3 : Int32)), .val (.int (1 : Int32))] [(.int (lcmpW x1 q))])) t
      refine XS.ifYes X414.here hx rfl (pc0 := 31) (pc' := 42) rfl (hb hby dix3_31) rfl ((if0 _ _).trans (flt (mt (lw_lt _ _).mp c1)).2.1) (by decide) (by decide) ?_
      show Steps p.tables e below (T414.setTop (mkF m 42 #[.val (.ref a), .val (.long q), .second, .val (.int (0 : Int32)), .val (.int (3 : Int32)), .val (.int (1 : Int32))] [])) t
      refine XS.iload X414.here hx rfl (hb hby dix3_42) rfl ?_
      show Steps p.tables e below (T414.setTop (mkF m 44 #[.val (.ref a), .val (.long q), .second, .val (.int (0 : Int32)), .val (.int (3 : Int32)), .val (.int (1 : Int32))] [(.int (1 : Int32))])) t
      refine XS.istore X414.here hx rfl (hb hby dix3_44) rfl (l' := #[.val (.ref a), .val (.long q), .second, .val (.int (0 : Int32)), .val (.int (1 : Int32)), .val (.int (1 : Int32))]) rfl ?_
      show Steps p.tables e below (T414.setTop (mkF m 46 #[.val (.ref a), .val (.long q), .second, .val (.int (0 : Int32)), .val (.int (1 : Int32)), .val (.int (1 : Int32))] [])) t
      refine XS.goto X414.here hx rfl (pc0 := 46) (pc' := 8) rfl (hb hby dix3_46) (by decide) (by decide) ?_
      show Steps p.tables e below (T414.setTop (mkF m 8 #[.val (.ref a), .val (.long q), .second, .val (.int (0 : Int32)), .val (.int (1 : Int32)), .val (.int (1 : Int32))] [])) t
      refine XS.iloadN X414.here hx rfl (hb hby dix3_8) rfl ?_
      show Steps p.tables e below (T414.setTop (mkF m 9 #[.val (.ref a), .val (.long q), .second, .val (.int (0 : Int32)), .val (.int (1 : Int32)), .val (.int (1 : Int32))] [(.int (0 : Int32))])) t
      refine XS.iload X414.here hx rfl (hb hby dix3_9) rfl ?_
      show Steps p.tables e below (T414.setTop (mkF m 11 #[.val (.ref a), .val (.long q), .second, .val (.int (0 : Int32)), .val (.int (1 : Int32)), .val (.int (1 : Int32))] [(.int (1 : Int32)), (.int (0 : Int32))])) t
      refine XS.icmpNo X414.here hx rfl (hb hby dix3_11) rfl (tlt (by decide)).2.1 ?_
      show Steps p.tables e below (T414.setTop (mkF m 14 #[.val (.ref a), .val (.long q), .second, .val (.int (0 : Int32)), .val (.int (1 : Int32)), .val (.int (1 : Int32))] [])) t
      refine XS.iloadN X414.here hx rfl (hb hby dix3_14) rfl ?_
      show Steps p.tables e below (T414.setTop (mkF m 15 #[.val (.ref a), .val (.long q), .second, .val (.int (0 : Int32)), .val (.int (1 : Int32)), .val (.int (1 : Int32))] [(.int (0 : Int32))])) t
      refine XS.iload X414.here hx rfl (hb hby dix3_15) rfl ?_
      show Steps p.tables e below (T414.setTop (mkF m 17 #[.val (.ref a), .val (.long q), .second, .val (.int (0 : Int32)), .val (.int (1 : Int32)), .val (.int (1 : Int32))] [(.int (1 : Int32)), (.int (0 : Int32))])) t
      refine XS.iadd X414.here hx rfl (hb hby dix3_17) rfl ?_
      show Steps p.tables e below (T414.setTop (mkF m 18 #[.val (.ref a), .val (.long q), .second, .val (.int (0 : Int32)), .val (.int (1 : Int32)), .val (.int (1 : Int32))] [(.int ((0 : Int32) + (1 : Int32)))])) t
      refine XS.iconst X414.here hx rfl (hb hby dix3_18) ?_
      show Steps p.tables e below (T414.setTop (mkF m 19 #[.val (.ref a), .val (.long q), .second, .val (.int (0 : Int32)), .val (.int (1 : Int32)), .val (.int (1 : Int32))] [(.int (1 : Int32)), (.int ((0 : Int32) + (1 : Int32)))])) t
      refine XS.iushr X414.here hx rfl (hb hby dix3_19) rfl ?_
      exact ht
    have q432 : ((((0 : Int32) + (1 : Int32)).toUInt32 >>> ((1 : Int32) &&& 31).toUInt32).toInt32) = (0 : Int32) := by decide
    rw [q432] at k431
    have k433 : Kt p e below m (s₁.setTop (entryFrame m #[(.ref a), (.long q)] 6)) T414 23 #[.val (.ref a), .val (.long q), .second, .val (.int (0 : Int32)), .val (.int (1 : Int32)), .val (.int (0 : Int32))] [(.ref a)] := by
      intro t ht
      refine k431 t ?_
      show Steps p.tables e below (T414.setTop (mkF m 20 #[.val (.ref a), .val (.long q), .second, .val (.int (0 : Int32)), .val (.int (1 : Int32)), .val (.int (1 : Int32))] [(.int (0 : Int32))])) t
      refine XS.istore X414.here hx rfl (hb hby dix3_20) rfl (l' := #[.val (.ref a), .val (.long q), .second, .val (.int (0 : Int32)), .val (.int (1 : Int32)), .val (.int (0 : Int32))]) rfl ?_
      show Steps p.tables e below (T414.setTop (mkF m 22 #[.val (.ref a), .val (.long q), .second, .val (.int (0 : Int32)), .val (.int (1 : Int32)), .val (.int (0 : Int32))] [])) t
      refine XS.aloadN X414.here hx rfl (hb hby dix3_22) rfl rfl ?_
      exact ht
    obtain ⟨T434, X434, e434, st434⟩ := getF X414 hx hZ hown (host := "") (Or.inl (hw _ (List.mem_of_getElem? (i := 14) rfl))) Via.refl e414 F_times (g := (mkF m 23 #[.val (.ref a), .val (.long q), .second, .val (.int (0 : Int32)), .val (.int (1 : Int32)), .val (.int (0 : Int32))] [(.ref a)])) rfl rfl (hb hby dix3_23)
    have k434 : Kt p e below m (s₁.setTop (entryFrame m #[(.ref a), (.long q)] 6)) T434 26 #[.val (.ref a), .val (.long q), .second, .val (.int (0 : Int32)), .val (.int (1 : Int32)), .val (.int (0 : Int32))] [(.ref tb)] := fun t ht => k433 t (st434 t ht)
    have k435 : Kt p e below m (s₁.setTop (entryFrame m #[(.ref a), (.long q)] 6)) T434 28 #[.val (.ref a), .val (.long q), .second, .val (.int (0 : Int32)), .val (.int (1 : Int32)), .val (.int (0 : Int32))] [(.int (0 : Int32)), (.ref tb)] := by
      intro t ht
      refine k434 t ?_
      show Steps p.tables e below (T434.setTop (mkF m 26 #[.val (.ref a), .val (.long q), .second, .val (.int (0 : Int32)), .val (.int (1 : Int32)), .val (.int (0 : Int32))] [(.ref tb)])) t
      refine XS.iload X434.here hx rfl (hb hby dix3_26) rfl ?_
      exact ht
    obtain ⟨cl436, Ar436, qc436, Sz436, Nn436, Hh436, Gg436⟩ := id V_t
    have hin436 : ¬ ((0 : Int32) < 0 ∨ cl436.slots.size ≤ ((0 : Int32)).toNatClampNeg) := inb_of Sz436 ⟨by decide, by decide⟩
    have hat436 : cl436.slots[((0 : Int32)).toNatClampNeg]? = some (.long x0) := Hh436.at hin436 rfl
    have k437 : Kt p e below m (s₁.setTop (entryFrame m #[(.ref a), (.long q)] 6)) T434 31 #[.val (.ref a), .val (.long q), .second, .val (.int (0 : Int32)), .val (.int (1 : Int32)), .val (.int (0 : Int32))] [(.int (lcmpW x0 q))] := by
      intro t ht
      refine k435 t ?_
      show Steps p.tables e below (T434.setTop (mkF m 28 #[.val (.ref a), .val (.long q), .second, .val (.int (0 : Int32)), .val (.int (1 : Int32)), .val (.int (0 : Int32))] [(.int (0 : Int32)), (.ref tb)])) t
      refine X434.laload hx (j := (0 : Int32)) (v := (.long x0)) (by rw [e434]; exact Ar436.1) (State.isArrayOf_alike hZ.alike Ar436.2.1) Ar436.2.2 hin436 hat436 (g := (mkF m 28 #[.val (.ref a), .val (.long q), .second, .val (.int (0 : Int32)), .val (.int (1 : Int32)), .val (.int (0 : Int32))] [(.int (0 : Int32)), (.ref tb)])) rfl rfl (hb hby dix3_28) _ ?_
      show Steps p.tables e below (T434.setTop (mkF m 29 #[.val (.ref a), .val (.long q), .second, .val (.int (0 : Int32)), .val (.int (1 : Int32)), .val (.int (0 : Int32))] [(.long x0)])) t
      refine XS.lloadN X434.here hx rfl (hb hby dix3_29) rfl ?_
      show Steps p.tables e below (T434.setTop (mkF m 30 #[.val (.ref a), .val (.long q), .second, .val (.int (0 : Int32)), .val (.int (1 : Int32)), .val (.int (0 : Int32))] [(.long q), (.long x0)])) t
      refine XS.lcmp X434.here hx rfl (hb hby dix3_30) rfl ?_
      exact ht
    by_cases c0 : x0 < q
    · have t0 := c0
      have k438 : Kt p e below m (s₁.setTop (entryFrame m #[(.ref a), (.long q)] 6)) T434 38 #[.val (.ref a), .val (.long q), .second, .val (.int (0 : Int32)), .val (.int (1 : Int32)), .val (.int (0 : Int32))] [(.int ((0 : Int32) + (1 : Int32)))] := by
        intro t ht
        refine k437 t ?_
        show Steps p.tables e below (T434.setTop (mkF m 31 #[.val (.ref a), .val (.long q), .second, .val (.int (0 : Int32)), .val (.int (1 : Int32)), .val (.int (0 : Int32))] [(.int (lcmpW x0 q))])) t
        refine XS.ifNo X434.here hx rfl (hb hby dix3_31) rfl ((if0 _ _).trans (tlt ((lw_lt _ _).mpr c0)).2.1) ?_
        show Steps p.tables e below (T434.setTop (mkF m 34 #[.val (.ref a), .val (.long q), .second, .val (.int (0 : Int32)), .val (.int (1 : Int32)), .val (.int (0 : Int32))] [])) t
        refine XS.iload X434.here hx rfl (hb hby dix3_34) rfl ?_
        show Steps p.tables e below (T434.setTop (mkF m 36 #[.val (.ref a), .val (.long q), .second, .val (.int (0 : Int32)), .val (.int (1 : Int32)), .val (.int (0 : Int32))] [(.int (0 : Int32))])) t
        refine XS.iconst X434.here hx rfl (hb hby dix3_36) ?_
        show Steps p.tables e below (T434.setTop (mkF m 37 #[.val (.ref a), .val (.long q), .second, .val (.int (0 : Int32)), .val (.int (1 : Int32)), .val (.int (0 : Int32))] [(.int (1 : Int32)), (.int (0 : Int32))])) t
        refine XS.iadd X434.here hx rfl (hb hby dix3_37) rfl ?_
        exact ht
      have q439 : ((0 : Int32) + (1 : Int32)) = (1 : Int32) := by decide
      rw [q439] at k438
      have w2 := own_tn o1 u1
      have k440 : Kt p e below m (s₁.setTop (entryFrame m #[(.ref a), (.long q)] 6)) T434 50 #[.val (.ref a), .val (.long q), .second, .val (.int (1 : Int32)), .val (.int (1 : Int32)), .val (.int (0 : Int32))] [(.int (1 : Int32))] := by
        intro t ht
        refine k438 t ?_
        show Steps p.tables e below (T434.setTop (mkF m 38 #[.val (.ref a), .val (.long q), .second, .val (.int (0 : Int32)), .val (.int (1 : Int32)), .val (.int (0 : Int32))] [(.int (1 : Int32))])) t
        refine XS.istoreN X434.here hx rfl (hb hby dix3_38) rfl (l' := #[.val (.ref a), .val (.long q), .second, .val (.int (1 : Int32)), .val (.int (1 : Int32)), .val (.int (0 : Int32))]) rfl ?_
        show Steps p.tables e below (T434.setTop (mkF m 39 #[.val (.ref a), .val (.long q), .second, .val (.int (1 : Int32)), .val (.int (1 : Int32)), .val (.int (0 : Int32))] [])) t
        refine XS.goto X434.here hx rfl (pc0 := 39) (pc' := 46) rfl (hb hby dix3_39) (by decide) (by decide) ?_
        show Steps p.tables e below (T434.setTop (mkF m 46 #[.val (.ref a), .val (.long q), .second, .val (.int (1 : Int32)), .val (.int (1 : Int32)), .val (.int (0 : Int32))] [])) t
        refine XS.goto X434.here hx rfl (pc0 := 46) (pc' := 8) rfl (hb hby dix3_46) (by decide) (by decide) ?_
        show Steps p.tables e below (T434.setTop (mkF m 8 #[.val (.ref a), .val (.long q), .second, .val (.int (1 : Int32)), .val (.int (1 : Int32)), .val (.int (0 : Int32))] [])) t
        refine XS.iloadN X434.here hx rfl (hb hby dix3_8) rfl ?_
        show Steps p.tables e below (T434.setTop (mkF m 9 #[.val (.ref a), .val (.long q), .second, .val (.int (1 : Int32)), .val (.int (1 : Int32)), .val (.int (0 : Int32))] [(.int (1 : Int32))])) t
        refine XS.iload X434.here hx rfl (hb hby dix3_9) rfl ?_
        show Steps p.tables e below (T434.setTop (mkF m 11 #[.val (.ref a), .val (.long q), .second, .val (.int (1 : Int32)), .val (.int (1 : Int32)), .val (.int (0 : Int32))] [(.int (1 : Int32)), (.int (1 : Int32))])) t
        refine XS.icmpYes X434.here hx rfl (pc0 := 11) (pc' := 49) rfl (hb hby dix3_11) rfl (flt (by decide)).2.1 (by decide) (by decide) ?_
        show Steps p.tables e below (T434.setTop (mkF m 49 #[.val (.ref a), .val (.long q), .second, .val (.int (1 : Int32)), .val (.int (1 : Int32)), .val (.int (0 : Int32))] [])) t
        refine XS.iloadN X434.here hx rfl (hb hby dix3_49) rfl ?_
        exact ht
      obtain ⟨fs, hr, hrun, hended, hW, hsame⟩ := X434.leave (v := some (.int (1 : Int32))) (fun h => by rw [Bd.returns] at h; cases h)
      refine ⟨_, _, k440 _ ?_, hrun, hended, _, _, rfl, ?_, ⟨_, rfl⟩, hW, hsame.mono (by decide) (by decide)⟩
      · exact retI X434 hx Bd.returns (hb hby dix3_50) hr
      · show Qix3 Z a q tb kt x0 x1 x2 x3 h0 n0 _ T434.heap _
        rw [e434]
        exact ⟨congrArg (fun z => some (Value.int z)) (by rw [← own_b1 t0, ← own_b0 u1, ← own_b0 w2]; decide), N0, rfl⟩
    · have u0 := c0
      have w2 := own_tn o1 u1
      have k441 : Kt p e below m (s₁.setTop (entryFrame m #[(.ref a), (.long q)] 6)) T434 50 #[.val (.ref a), .val (.long q), .second, .val (.int (0 : Int32)), .val (.int (0 : Int32)), .val (.int (0 : Int32))] [(.int (0 : Int32))] := by
        intro t ht
        refine k437 t ?_
        show Steps p.tables e below (T434.setTop (mkF m 31 #[.val (.ref a), .val (.long q), .second, .val (.int (0 : Int32)), .val (.int (1 : Int32)), .val (.int (0 : Int32))] [(.int (lcmpW x0 q))])) t
        refine XS.ifYes X434.here hx rfl (pc0 := 31) (pc' := 42) rfl (hb hby dix3_31) rfl ((if0 _ _).trans (flt (mt (lw_lt _ _).mp c0)).2.1) (by decide) (by decide) ?_
        show Steps p.tables e below (T434.setTop (mkF m 42 #[.val (.ref a), .val (.long q), .second, .val (.int (0 : Int32)), .val (.int (1 : Int32)), .val (.int (0 : Int32))] [])) t
        refine XS.iload X434.here hx rfl (hb hby dix3_42) rfl ?_
        show Steps p.tables e below (T434.setTop (mkF m 44 #[.val (.ref a), .val (.long q), .second, .val (.int (0 : Int32)), .val (.int (1 : Int32)), .val (.int (0 : Int32))] [(.int (0 : Int32))])) t
        refine XS.istore X434.here hx rfl (hb hby dix3_44) rfl (l' := #[.val (.ref a), .val (.long q), .second, .val (.int (0 : Int32)), .val (.int (0 : Int32)), .val (.int (0 : Int32))]) rfl ?_
        show Steps p.tables e below (T434.setTop (mkF m 46 #[.val (.ref a), .val (.long q), .second, .val (.int (0 : Int32)), .val (.int (0 : Int32)), .val (.int (0 : Int32))] [])) t
        refine XS.goto X434.here hx rfl (pc0 := 46) (pc' := 8) rfl (hb hby dix3_46) (by decide) (by decide) ?_
        show Steps p.tables e below (T434.setTop (mkF m 8 #[.val (.ref a), .val (.long q), .second, .val (.int (0 : Int32)), .val (.int (0 : Int32)), .val (.int (0 : Int32))] [])) t
        refine XS.iloadN X434.here hx rfl (hb hby dix3_8) rfl ?_
        show Steps p.tables e below (T434.setTop (mkF m 9 #[.val (.ref a), .val (.long q), .second, .val (.int (0 : Int32)), .val (.int (0 : Int32)), .val (.int (0 : Int32))] [(.int (0 : Int32))])) t
        refine XS.iload X434.here hx rfl (hb hby dix3_9) rfl ?_
        show Steps p.tables e below (T434.setTop (mkF m 11 #[.val (.ref a), .val (.long q), .second, .val (.int (0 : Int32)), .val (.int (0 : Int32)), .val (.int (0 : Int32))] [(.int (0 : Int32)), (.int (0 : Int32))])) t
        refine XS.icmpYes X434.here hx rfl (pc0 := 11) (pc' := 49) rfl (hb hby dix3_11) rfl (flt (by decide)).2.1 (by decide) (by decide) ?_
        show Steps p.tables e below (T434.setTop (mkF m 49 #[.val (.ref a), .val (.long q), .second, .val (.int (0 : Int32)), .val (.int (0 : Int32)), .val (.int (0 : Int32))] [])) t
        refine XS.iloadN X434.here hx rfl (hb hby dix3_49) rfl ?_
        exact ht
      obtain ⟨fs, hr, hrun, hended, hW, hsame⟩ := X434.leave (v := some (.int (0 : Int32))) (fun h => by rw [Bd.returns] at h; cases h)
      refine ⟨_, _, k441 _ ?_, hrun, hended, _, _, rfl, ?_, ⟨_, rfl⟩, hW, hsame.mono (by decide) (by decide)⟩
      · exact retI X434 hx Bd.returns (hb hby dix3_50) hr
      · show Qix3 Z a q tb kt x0 x1 x2 x3 h0 n0 _ T434.heap _
        rw [e434]
        exact ⟨congrArg (fun z => some (Value.int z)) (by rw [← own_b0 u0, ← own_b0 u1, ← own_b0 w2]; decide), N0, rfl⟩
theorem dix4_0 : decode prog_61_method_8_code 0 = .ok (.iconst 0, 1) := by decide +kernel
theorem dix4_1 : decode prog_61_method_8_code 1 = .ok (.istore_n 3, 1) := by decide +kernel
theorem dix4_2 : decode prog_61_method_8_code 2 = .ok (.aload_n 0, 1) := by decide +kernel
theorem dix4_3 : decode prog_61_method_8_code 3 = .ok (.getfield 21, 3) := by decide +kernel
theorem dix4_6 : decode prog_61_method_8_code 6 = .ok (.istore 4, 2) := by decide +kernel
theorem dix4_8 : decode prog_61_method_8_code 8 = .ok (.iload_n 3, 1) := by decide +kernel
theorem dix4_9 : decode prog_61_method_8_code 9 = .ok (.iload 4, 2) := by decide +kernel
theorem dix4_11 : decode prog_61_method_8_code 11 = .ok (.if_icmp .ge 38, 3) := by decide +kernel
theorem dix4_14 : decode prog_61_method_8_code 14 = .ok (.iload_n 3, 1) := by decide +kernel
theorem dix4_15 : decode prog_61_method_8_code 15 = .ok (.iload 4, 2) := by decide +kernel
theorem dix4_17 : decode prog_61_method_8_code 17 = .ok (.iadd, 1) := by decide +kernel
theorem dix4_18 : decode prog_61_method_8_code 18 = .ok (.iconst 1, 1) := by decide +kernel
theorem dix4_19 : decode prog_61_method_8_code 19 = .ok (.iushr, 1) := by decide +kernel
theorem dix4_20 : decode prog_61_method_8_code 20 = .ok (.istore 5, 2) := by decide +kernel
theorem dix4_22 : decode prog_61_method_8_code 22 = .ok (.aload_n 0, 1) := by decide +kernel
theorem dix4_23 : decode prog_61_method_8_code 23 = .ok (.getfield 9, 3) := by decide +kernel
theorem dix4_26 : decode prog_61_method_8_code 26 = .ok (.iload 5, 2) := by decide +kernel
theorem dix4_28 : decode prog_61_method_8_code 28 = .ok (.laload, 1) := by decide +kernel
theorem dix4_29 : decode prog_61_method_8_code 29 = .ok (.lload_n 1, 1) := by decide +kernel
theorem dix4_30 : decode prog_61_method_8_code 30 = .ok (.lcmp, 1) := by decide +kernel
theorem dix4_31 : decode prog_61_method_8_code 31 = .ok (.ifCond .ge 11, 3) := by decide +kernel
theorem dix4_34 : decode prog_61_method_8_code 34 = .ok (.iload 5, 2) := by decide +kernel
theorem dix4_36 : decode prog_61_method_8_code 36 = .ok (.iconst 1, 1) := by decide +kernel
theorem dix4_37 : decode prog_61_method_8_code 37 = .ok (.iadd, 1) := by decide +kernel
theorem dix4_38 : decode prog_61_method_8_code 38 = .ok (.istore_n 3, 1) := by decide +kernel
theorem dix4_39 : decode prog_61_method_8_code 39 = .ok (.goto 7, 3) := by decide +kernel
theorem dix4_42 : decode prog_61_method_8_code 42 = .ok (.iload 5, 2) := by decide +kernel
theorem dix4_44 : decode prog_61_method_8_code 44 = .ok (.istore 4, 2) := by decide +kernel
theorem dix4_46 : decode prog_61_method_8_code 46 = .ok (.goto (-38), 3) := by decide +kernel
theorem dix4_49 : decode prog_61_method_8_code 49 = .ok (.iload_n 3, 1) := by decide +kernel
theorem dix4_50 : decode prog_61_method_8_code 50 = .ok (.ireturn, 1) := by decide +kernel
theorem pnix4 : plainName "com/example/clearhour/clearhour/market/Timeline" = true := by first | (simp [plainName, overriddenIn]; done) | decide +kernel
theorem efix4 (m : MethodId) (a : Addr) (q : Int64) : entryFrame m #[(.ref a), (.long q)] 6 = mkF m 0 #[.val (.ref a), .val (.long q), .second, .unset, .unset, .unset] [] := by first | (simp [entryFrame, mkF, argsToLocals, Value.category]; done) | rfl
def Qix4 (Z : State) (a : Addr) (q : Int64) (tb : Addr) (kt : ClassId) (x0 : Int64) (x1 : Int64) (x2 : Int64) (x3 : Int64) (h0 : Heap) (n0 : Nat) (v : Option Value) (h : Heap) (L : List Loc) : Prop := v = some (.int (((((0 : Int32) + (own_b (x0 < q))) + (own_b (x1 < q))) + (own_b (x2 < q))) + (own_b (x3 < q)))) ∧ Fr n0 L ∧ h = h0
set_option maxRecDepth 65536 in
set_option maxHeartbeats 40000000 in
theorem rmix4 (l : Launch) (Z : State) (a0 : Array Value) (hw : ∀ d ∈ tables_1, d.before a0 Z = true) (ws : List Jvm.Cond) (a : Addr) (q : Int64) (tb : Addr) (kt : ClassId) (x0 : Int64) (x1 : Int64) (x2 : Int64) (x3 : Int64) (h0 : Heap) (n0 : Nat) (Z0 : n0 ≤ h0.size) (F_times : Fld Z h0 a "com/example/clearhour/clearhour/market/Timeline" "times" "[J" (.ref tb)) (F_size : Fld Z h0 a "com/example/clearhour/clearhour/market/Timeline" "size" "I" (.int (4 : Int32))) (V_t : Arv Z h0 tb kt .long (16 : Int32) [(.long x0), (.long x1), (.long x2), (.long x3)] (.long (0 : Int64))) (o0 : ¬ x1 < x0) (o1 : ¬ x2 < x1) (o2 : ¬ x3 < x2) :
    MetFree l (⟨"com/example/clearhour/clearhour/market/Timeline", "indexFrom", "(J)I"⟩ : MethodName) (head1 (Jvm.Cond.code (⟨"com/example/clearhour/clearhour/market/Timeline", "indexFrom", "(J)I"⟩ : MethodName) prog_61_method_8_code 6 (some .int) :: ws) ({ frames := 0, cells := 0, slots := 0, locals := 0 } : Room)) (fun gs' U => gs' = #[(.ref a), (.long q)] ∧ Z.Warmed39 U.vm ∧ U.heap = h0) (fun _ _ _ _ _ => True) (fun _ U o U' => ∃ v L, o = .returned v ∧ Qix4 Z a q tb kt x0 x1 x2 x3 h0 n0 v U'.heap L ∧ FrameEnd U o U' L ({ frames := 0, cells := 0, slots := 0, locals := 0 } : Room).cells ({ frames := 0, cells := 0, slots := 0, locals := 0 } : Room).slots) := by
  refine MetFree.of_bodySF (plainFor_of_name pnix4) hisR ?_
  intro p e s m args below meth c s₁ Bd hml0 hP hK
  obtain ⟨rfl, hZ, hh⟩ := hP
  have hx := Bd.exec
  have hby := Bd.bytes
  have hml : c.maxLocals = 6 := hml0
  have hown : s.vm.findClass "com/example/clearhour/clearhour/market/Timeline" = some m.cls := findClass_of_methodNamed Bd.named
  have hnm := (name_of_methodNamed Bd.named Bd.method).1
  have X0 : Stand p l e ({ frames := 0, cells := 0, slots := 0, locals := 0 } : Room) s m #[(.ref a), (.long q)] below meth c s₁ [] 0 0 := Stand.of_body Bd
  have e0 : s₁.heap = h0 := by rw [← hh, Bd.state]; rfl
  have N0 := Fr.nil n0
  have k0 : Kt p e below m (s₁.setTop (entryFrame m #[(.ref a), (.long q)] 6)) s₁ 0 #[.val (.ref a), .val (.long q), .second, .unset, .unset, .unset] [] := fun t ht => castTop (efix4 m a q) ht
  have k442 : Kt p e below m (s₁.setTop (entryFrame m #[(.ref a), (.long q)] 6)) s₁ 3 #[.val (.ref a), .val (.long q), .second, .val (.int (0 : Int32)), .unset, .unset] [(.ref a)] := by
    intro t ht
    refine k0 t ?_
    show Steps p.tables e below (s₁.setTop (mkF m 0 #[.val (.ref a), .val (.long q), .second, .unset, .unset, .unset] [])) t
    refine XS.iconst X0.here hx rfl (hb hby dix4_0) ?_
    show Steps p.tables e below (s₁.setTop (mkF m 1 #[.val (.ref a), .val (.long q), .second, .unset, .unset, .unset] [(.int (0 : Int32))])) t
    refine XS.istoreN X0.here hx rfl (hb hby dix4_1) rfl (l' := #[.val (.ref a), .val (.long q), .second, .val (.int (0 : Int32)), .unset, .unset]) rfl ?_
    show Steps p.tables e below (s₁.setTop (mkF m 2 #[.val (.ref a), .val (.long q), .second, .val (.int (0 : Int32)), .unset, .unset] [])) t
    refine XS.aloadN X0.here hx rfl (hb hby dix4_2) rfl rfl ?_
    exact ht
  obtain ⟨T443, X443, e443, st443⟩ := getF X0 hx hZ hown (host := "") (Or.inl (hw _ (List.mem_of_getElem? (i := 27) rfl))) Via.refl e0 F_size (g := (mkF m 3 #[.val (.ref a), .val (.long q), .second, .val (.int (0 : Int32)), .unset, .unset] [(.ref a)])) rfl rfl (hb hby dix4_3)
  have k443 : Kt p e below m (s₁.setTop (entryFrame m #[(.ref a), (.long q)] 6)) T443 6 #[.val (.ref a), .val (.long q), .second, .val (.int (0 : Int32)), .unset, .unset] [(.int (4 : Int32))] := fun t ht => k442 t (st443 t ht)
  have k444 : Kt p e below m (s₁.setTop (entryFrame m #[(.ref a), (.long q)] 6)) T443 20 #[.val (.ref a), .val (.long q), .second, .val (.int (0 : Int32)), .val (.int (4 : Int32)), .unset] [(.int ((((0 : Int32) + (4 : Int32)).toUInt32 >>> ((1 : Int32) &&& 31).toUInt32).toInt32))] := by
    intro t ht
    refine k443 t ?_
    show Steps p.tables e below (T443.setTop (mkF m 6 #[.val (.ref a), .val (.long q), .second, .val (.int (0 : Int32)), .unset, .unset] [(.int (4 : Int32))])) t
    refine XS.istore X443.here hx rfl (hb hby dix4_6) rfl (l' := #[.val (.ref a), .val (.long q), .second, .val (.int (0 : Int32)), .val (.int (4 : Int32)), .unset]) rfl ?_
    show Steps p.tables e below (T443.setTop (mkF m 8 #[.val (.ref a), .val (.long q), .second, .val (.int (0 : Int32)), .val (.int (4 : Int32)), .unset] [])) t
    refine XS.iloadN X443.here hx rfl (hb hby dix4_8) rfl ?_
    show Steps p.tables e below (T443.setTop (mkF m 9 #[.val (.ref a), .val (.long q), .second, .val (.int (0 : Int32)), .val (.int (4 : Int32)), .unset] [(.int (0 : Int32))])) t
    refine XS.iload X443.here hx rfl (hb hby dix4_9) rfl ?_
    show Steps p.tables e below (T443.setTop (mkF m 11 #[.val (.ref a), .val (.long q), .second, .val (.int (0 : Int32)), .val (.int (4 : Int32)), .unset] [(.int (4 : Int32)), (.int (0 : Int32))])) t
    refine XS.icmpNo X443.here hx rfl (hb hby dix4_11) rfl (tlt (by decide)).2.1 ?_
    show Steps p.tables e below (T443.setTop (mkF m 14 #[.val (.ref a), .val (.long q), .second, .val (.int (0 : Int32)), .val (.int (4 : Int32)), .unset] [])) t
    refine XS.iloadN X443.here hx rfl (hb hby dix4_14) rfl ?_
    show Steps p.tables e below (T443.setTop (mkF m 15 #[.val (.ref a), .val (.long q), .second, .val (.int (0 : Int32)), .val (.int (4 : Int32)), .unset] [(.int (0 : Int32))])) t
    refine XS.iload X443.here hx rfl (hb hby dix4_15) rfl ?_
    show Steps p.tables e below (T443.setTop (mkF m 17 #[.val (.ref a), .val (.long q), .second, .val (.int (0 : Int32)), .val (.int (4 : Int32)), .unset] [(.int (4 : Int32)), (.int (0 : Int32))])) t
    refine XS.iadd X443.here hx rfl (hb hby dix4_17) rfl ?_
    show Steps p.tables e below (T443.setTop (mkF m 18 #[.val (.ref a), .val (.long q), .second, .val (.int (0 : Int32)), .val (.int (4 : Int32)), .unset] [(.int ((0 : Int32) + (4 : Int32)))])) t
    refine XS.iconst X443.here hx rfl (hb hby dix4_18) ?_
    show Steps p.tables e below (T443.setTop (mkF m 19 #[.val (.ref a), .val (.long q), .second, .val (.int (0 : Int32)), .val (.int (4 : Int32)), .unset] [(.int (1 : Int32)), (.int ((0 : Int32) + (4 : Int32)))])) t
    refine XS.iushr X443.here hx rfl (hb hby dix4_19) rfl ?_
    exact ht
  have q445 : ((((0 : Int32) + (4 : Int32)).toUInt32 >>> ((1 : Int32) &&& 31).toUInt32).toInt32) = (2 : Int32) := by decide
  rw [q445] at k444
  have k446 : Kt p e below m (s₁.setTop (entryFrame m #[(.ref a), (.long q)] 6)) T443 23 #[.val (.ref a), .val (.long q), .second, .val (.int (0 : Int32)), .val (.int (4 : Int32)), .val (.int (2 : Int32))] [(.ref a)] := by
    intro t ht
    refine k444 t ?_
    show Steps p.tables e below (T443.setTop (mkF m 20 #[.val (.ref a), .val (.long q), .second, .val (.int (0 : Int32)), .val (.int (4 : Int32)), .unset] [(.int (2 : Int32))])) t
    refine XS.istore X443.here hx rfl (hb hby dix4_20) rfl (l' := #[.val (.ref a), .val (.long q), .second, .val (.int (0 : Int32)), .val (.int (4 : Int32)), .val (.int (2 : Int32))]) rfl ?_
    show Steps p.tables e below (T443.setTop (mkF m 22 #[.val (.ref a), .val (.long q), .second, .val (.int (0 : Int32)), .val (.int (4 : Int32)), .val (.int (2 : Int32))] [])) t
    refine XS.aloadN X443.here hx rfl (hb hby dix4_22) rfl rfl ?_
    exact ht
  obtain ⟨T447, X447, e447, st447⟩ := getF X443 hx hZ hown (host := "") (Or.inl (hw _ (List.mem_of_getElem? (i := 14) rfl))) Via.refl e443 F_times (g := (mkF m 23 #[.val (.ref a), .val (.long q), .second, .val (.int (0 : Int32)), .val (.int (4 : Int32)), .val (.int (2 : Int32))] [(.ref a)])) rfl rfl (hb hby dix4_23)
  have k447 : Kt p e below m (s₁.setTop (entryFrame m #[(.ref a), (.long q)] 6)) T447 26 #[.val (.ref a), .val (.long q), .second, .val (.int (0 : Int32)), .val (.int (4 : Int32)), .val (.int (2 : Int32))] [(.ref tb)] := fun t ht => k446 t (st447 t ht)
  have k448 : Kt p e below m (s₁.setTop (entryFrame m #[(.ref a), (.long q)] 6)) T447 28 #[.val (.ref a), .val (.long q), .second, .val (.int (0 : Int32)), .val (.int (4 : Int32)), .val (.int (2 : Int32))] [(.int (2 : Int32)), (.ref tb)] := by
    intro t ht
    refine k447 t ?_
    show Steps p.tables e below (T447.setTop (mkF m 26 #[.val (.ref a), .val (.long q), .second, .val (.int (0 : Int32)), .val (.int (4 : Int32)), .val (.int (2 : Int32))] [(.ref tb)])) t
    refine XS.iload X447.here hx rfl (hb hby dix4_26) rfl ?_
    exact ht
  obtain ⟨cl449, Ar449, qc449, Sz449, Nn449, Hh449, Gg449⟩ := id V_t
  have hin449 : ¬ ((2 : Int32) < 0 ∨ cl449.slots.size ≤ ((2 : Int32)).toNatClampNeg) := inb_of Sz449 ⟨by decide, by decide⟩
  have hat449 : cl449.slots[((2 : Int32)).toNatClampNeg]? = some (.long x2) := Hh449.at hin449 rfl
  have k450 : Kt p e below m (s₁.setTop (entryFrame m #[(.ref a), (.long q)] 6)) T447 31 #[.val (.ref a), .val (.long q), .second, .val (.int (0 : Int32)), .val (.int (4 : Int32)), .val (.int (2 : Int32))] [(.int (lcmpW x2 q))] := by
    intro t ht
    refine k448 t ?_
    show Steps p.tables e below (T447.setTop (mkF m 28 #[.val (.ref a), .val (.long q), .second, .val (.int (0 : Int32)), .val (.int (4 : Int32)), .val (.int (2 : Int32))] [(.int (2 : Int32)), (.ref tb)])) t
    refine X447.laload hx (j := (2 : Int32)) (v := (.long x2)) (by rw [e447]; exact Ar449.1) (State.isArrayOf_alike hZ.alike Ar449.2.1) Ar449.2.2 hin449 hat449 (g := (mkF m 28 #[.val (.ref a), .val (.long q), .second, .val (.int (0 : Int32)), .val (.int (4 : Int32)), .val (.int (2 : Int32))] [(.int (2 : Int32)), (.ref tb)])) rfl rfl (hb hby dix4_28) _ ?_
    show Steps p.tables e below (T447.setTop (mkF m 29 #[.val (.ref a), .val (.long q), .second, .val (.int (0 : Int32)), .val (.int (4 : Int32)), .val (.int (2 : Int32))] [(.long x2)])) t
    refine XS.lloadN X447.here hx rfl (hb hby dix4_29) rfl ?_
    show Steps p.tables e below (T447.setTop (mkF m 30 #[.val (.ref a), .val (.long q), .second, .val (.int (0 : Int32)), .val (.int (4 : Int32)), .val (.int (2 : Int32))] [(.long q), (.long x2)])) t
    refine XS.lcmp X447.here hx rfl (hb hby dix4_30) rfl ?_
    exact ht
  by_cases c2 : x2 < q
  · have t2 := c2
    have k451 : Kt p e below m (s₁.setTop (entryFrame m #[(.ref a), (.long q)] 6)) T447 38 #[.val (.ref a), .val (.long q), .second, .val (.int (0 : Int32)), .val (.int (4 : Int32)), .val (.int (2 : Int32))] [(.int ((2 : Int32) + (1 : Int32)))] := by
      intro t ht
      refine k450 t ?_
      show Steps p.tables e below (T447.setTop (mkF m 31 #[.val (.ref a), .val (.long q), .second, .val (.int (0 : Int32)), .val (.int (4 : Int32)), .val (.int (2 : Int32))] [(.int (lcmpW x2 q))])) t
      refine XS.ifNo X447.here hx rfl (hb hby dix4_31) rfl ((if0 _ _).trans (tlt ((lw_lt _ _).mpr c2)).2.1) ?_
      show Steps p.tables e below (T447.setTop (mkF m 34 #[.val (.ref a), .val (.long q), .second, .val (.int (0 : Int32)), .val (.int (4 : Int32)), .val (.int (2 : Int32))] [])) t
      refine XS.iload X447.here hx rfl (hb hby dix4_34) rfl ?_
      show Steps p.tables e below (T447.setTop (mkF m 36 #[.val (.ref a), .val (.long q), .second, .val (.int (0 : Int32)), .val (.int (4 : Int32)), .val (.int (2 : Int32))] [(.int (2 : Int32))])) t
      refine XS.iconst X447.here hx rfl (hb hby dix4_36) ?_
      show Steps p.tables e below (T447.setTop (mkF m 37 #[.val (.ref a), .val (.long q), .second, .val (.int (0 : Int32)), .val (.int (4 : Int32)), .val (.int (2 : Int32))] [(.int (1 : Int32)), (.int (2 : Int32))])) t
      refine XS.iadd X447.here hx rfl (hb hby dix4_37) rfl ?_
      exact ht
    have q452 : ((2 : Int32) + (1 : Int32)) = (3 : Int32) := by decide
    rw [q452] at k451
    have k453 : Kt p e below m (s₁.setTop (entryFrame m #[(.ref a), (.long q)] 6)) T447 20 #[.val (.ref a), .val (.long q), .second, .val (.int (3 : Int32)), .val (.int (4 : Int32)), .val (.int (2 : Int32))] [(.int ((((3 : Int32) + (4 : Int32)).toUInt32 >>> ((1 : Int32) &&& 31).toUInt32).toInt32))] := by
      intro t ht
      refine k451 t ?_
      show Steps p.tables e below (T447.setTop (mkF m 38 #[.val (.ref a), .val (.long q), .second, .val (.int (0 : Int32)), .val (.int (4 : Int32)), .val (.int (2 : Int32))] [(.int (3 : Int32))])) t
      refine XS.istoreN X447.here hx rfl (hb hby dix4_38) rfl (l' := #[.val (.ref a), .val (.long q), .second, .val (.int (3 : Int32)), .val (.int (4 : Int32)), .val (.int (2 : Int32))]) rfl ?_
      show Steps p.tables e below (T447.setTop (mkF m 39 #[.val (.ref a), .val (.long q), .second, .val (.int (3 : Int32)), .val (.int (4 : Int32)), .val (.int (2 : Int32))] [])) t
      refine XS.goto X447.here hx rfl (pc0 := 39) (pc' := 46) rfl (hb hby dix4_39) (by decide) (by decide) ?_
      show Steps p.tables e below (T447.setTop (mkF m 46 #[.val (.ref a), .val (.long q), .second, .val (.int (3 : Int32)), .val (.int (4 : Int32)), .val (.int (2 : Int32))] [])) t
      refine XS.goto X447.here hx rfl (pc0 := 46) (pc' := 8) rfl (hb hby dix4_46) (by decide) (by decide) ?_
      show Steps p.tables e below (T447.setTop (mkF m 8 #[.val (.ref a), .val (.long q), .second, .val (.int (3 : Int32)), .val (.int (4 : Int32)), .val (.int (2 : Int32))] [])) t
      refine XS.iloadN X447.here hx rfl (hb hby dix4_8) rfl ?_
      show Steps p.tables e below (T447.setTop (mkF m 9 #[.val (.ref a), .val (.long q), .second, .val (.int (3 : Int32)), .val (.int (4 : Int32)), .val (.int (2 : Int32))] [(.int (3 : Int32))])) t
      refine XS.iload X447.here hx rfl (hb hby dix4_9) rfl ?_
      show Steps p.tables e below (T447.setTop (mkF m 11 #[.val (.ref a), .val (.long q), .second, .val (.int (3 : Int32)), .val (.int (4 : Int32)), .val (.int (2 : Int32))] [(.int (4 : Int32)), (.int (3 : Int32))])) t
      refine XS.icmpNo X447.here hx rfl (hb hby dix4_11) rfl (tlt (by decide)).2.1 ?_
      show Steps p.tables e below (T447.setTop (mkF m 14 #[.val (.ref a), .val (.long q), .second, .val (.int (3 : Int32)), .val (.int (4 : Int32)), .val (.int (2 : Int32))] [])) t
      refine XS.iloadN X447.here hx rfl (hb hby dix4_14) rfl ?_
      show Steps p.tables e below (T447.setTop (mkF m 15 #[.val (.ref a), .val (.long q), .second, .val (.int (3 : Int32)), .val (.int (4 : Int32)), .val (.int (2 : Int32))] [(.int (3 : Int32))])) t
      refine XS.iload X447.here hx rfl (hb hby dix4_15) rfl ?_
      show Steps p.tables e below (T447.setTop (mkF m 17 #[.val (.ref a), .val (.long q), .second, .val (.int (3 : Int32)), .val (.int (4 : Int32)), .val (.int (2 : Int32))] [(.int (4 : Int32)), (.int (3 : Int32))])) t
      refine XS.iadd X447.here hx rfl (hb hby dix4_17) rfl ?_
      show Steps p.tables e below (T447.setTop (mkF m 18 #[.val (.ref a), .val (.long q), .second, .val (.int (3 : Int32)), .val (.int (4 : Int32)), .val (.int (2 : Int32))] [(.int ((3 : Int32) + (4 : Int32)))])) t
      refine XS.iconst X447.here hx rfl (hb hby dix4_18) ?_
      show Steps p.tables e below (T447.setTop (mkF m 19 #[.val (.ref a), .val (.long q), .second, .val (.int (3 : Int32)), .val (.int (4 : Int32)), .val (.int (2 : Int32))] [(.int (1 : Int32)), (.int ((3 : Int32) + (4 : Int32)))])) t
      refine XS.iushr X447.here hx rfl (hb hby dix4_19) rfl ?_
      exact ht
    have q454 : ((((3 : Int32) + (4 : Int32)).toUInt32 >>> ((1 : Int32) &&& 31).toUInt32).toInt32) = (3 : Int32) := by decide
    rw [q454] at k453
    have k455 : Kt p e below m (s₁.setTop (entryFrame m #[(.ref a), (.long q)] 6)) T447 23 #[.val (.ref a), .val (.long q), .second, .val (.int (3 : Int32)), .val (.int (4 : Int32)), .val (.int (3 : Int32))] [(.ref a)] := by
      intro t ht
      refine k453 t ?_
      show Steps p.tables e below (T447.setTop (mkF m 20 #[.val (.ref a), .val (.long q), .second, .val (.int (3 : Int32)), .val (.int (4 : Int32)), .val (.int (2 : Int32))] [(.int (3 : Int32))])) t
      refine XS.istore X447.here hx rfl (hb hby dix4_20) rfl (l' := #[.val (.ref a), .val (.long q), .second, .val (.int (3 : Int32)), .val (.int (4 : Int32)), .val (.int (3 : Int32))]) rfl ?_
      show Steps p.tables e below (T447.setTop (mkF m 22 #[.val (.ref a), .val (.long q), .second, .val (.int (3 : Int32)), .val (.int (4 : Int32)), .val (.int (3 : Int32))] [])) t
      refine XS.aloadN X447.here hx rfl (hb hby dix4_22) rfl rfl ?_
      exact ht
    obtain ⟨T456, X456, e456, st456⟩ := getF X447 hx hZ hown (host := "") (Or.inl (hw _ (List.mem_of_getElem? (i := 14) rfl))) Via.refl e447 F_times (g := (mkF m 23 #[.val (.ref a), .val (.long q), .second, .val (.int (3 : Int32)), .val (.int (4 : Int32)), .val (.int (3 : Int32))] [(.ref a)])) rfl rfl (hb hby dix4_23)
    have k456 : Kt p e below m (s₁.setTop (entryFrame m #[(.ref a), (.long q)] 6)) T456 26 #[.val (.ref a), .val (.long q), .second, .val (.int (3 : Int32)), .val (.int (4 : Int32)), .val (.int (3 : Int32))] [(.ref tb)] := fun t ht => k455 t (st456 t ht)
    have k457 : Kt p e below m (s₁.setTop (entryFrame m #[(.ref a), (.long q)] 6)) T456 28 #[.val (.ref a), .val (.long q), .second, .val (.int (3 : Int32)), .val (.int (4 : Int32)), .val (.int (3 : Int32))] [(.int (3 : Int32)), (.ref tb)] := by
      intro t ht
      refine k456 t ?_
      show Steps p.tables e below (T456.setTop (mkF m 26 #[.val (.ref a), .val (.long q), .second, .val (.int (3 : Int32)), .val (.int (4 : Int32)), .val (.int (3 : Int32))] [(.ref tb)])) t
      refine XS.iload X456.here hx rfl (hb hby dix4_26) rfl ?_
      exact ht
    obtain ⟨cl458, Ar458, qc458, Sz458, Nn458, Hh458, Gg458⟩ := id V_t
    have hin458 : ¬ ((3 : Int32) < 0 ∨ cl458.slots.size ≤ ((3 : Int32)).toNatClampNeg) := inb_of Sz458 ⟨by decide, by decide⟩
    have hat458 : cl458.slots[((3 : Int32)).toNatClampNeg]? = some (.long x3) := Hh458.at hin458 rfl
    have k459 : Kt p e below m (s₁.setTop (entryFrame m #[(.ref a), (.long q)] 6)) T456 31 #[.val (.ref a), .val (.long q), .second, .val (.int (3 : Int32)), .val (.int (4 : Int32)), .val (.int (3 : Int32))] [(.int (lcmpW x3 q))] := by
      intro t ht
      refine k457 t ?_
      show Steps p.tables e below (T456.setTop (mkF m 28 #[.val (.ref a), .val (.long q), .second, .val (.int (3 : Int32)), .val (.int (4 : Int32)), .val (.int (3 : Int32))] [(.int (3 : Int32)), (.ref tb)])) t
      refine X456.laload hx (j := (3 : Int32)) (v := (.long x3)) (by rw [e456]; exact Ar458.1) (State.isArrayOf_alike hZ.alike Ar458.2.1) Ar458.2.2 hin458 hat458 (g := (mkF m 28 #[.val (.ref a), .val (.long q), .second, .val (.int (3 : Int32)), .val (.int (4 : Int32)), .val (.int (3 : Int32))] [(.int (3 : Int32)), (.ref tb)])) rfl rfl (hb hby dix4_28) _ ?_
      show Steps p.tables e below (T456.setTop (mkF m 29 #[.val (.ref a), .val (.long q), .second, .val (.int (3 : Int32)), .val (.int (4 : Int32)), .val (.int (3 : Int32))] [(.long x3)])) t
      refine XS.lloadN X456.here hx rfl (hb hby dix4_29) rfl ?_
      show Steps p.tables e below (T456.setTop (mkF m 30 #[.val (.ref a), .val (.long q), .second, .val (.int (3 : Int32)), .val (.int (4 : Int32)), .val (.int (3 : Int32))] [(.long q), (.long x3)])) t
      refine XS.lcmp X456.here hx rfl (hb hby dix4_30) rfl ?_
      exact ht
    by_cases c3 : x3 < q
    · have t3 := c3
      have k460 : Kt p e below m (s₁.setTop (entryFrame m #[(.ref a), (.long q)] 6)) T456 38 #[.val (.ref a), .val (.long q), .second, .val (.int (3 : Int32)), .val (.int (4 : Int32)), .val (.int (3 : Int32))] [(.int ((3 : Int32) + (1 : Int32)))] := by
        intro t ht
        refine k459 t ?_
        show Steps p.tables e below (T456.setTop (mkF m 31 #[.val (.ref a), .val (.long q), .second, .val (.int (3 : Int32)), .val (.int (4 : Int32)), .val (.int (3 : Int32))] [(.int (lcmpW x3 q))])) t
        refine XS.ifNo X456.here hx rfl (hb hby dix4_31) rfl ((if0 _ _).trans (tlt ((lw_lt _ _).mpr c3)).2.1) ?_
        show Steps p.tables e below (T456.setTop (mkF m 34 #[.val (.ref a), .val (.long q), .second, .val (.int (3 : Int32)), .val (.int (4 : Int32)), .val (.int (3 : Int32))] [])) t
        refine XS.iload X456.here hx rfl (hb hby dix4_34) rfl ?_
        show Steps p.tables e below (T456.setTop (mkF m 36 #[.val (.ref a), .val (.long q), .second, .val (.int (3 : Int32)), .val (.int (4 : Int32)), .val (.int (3 : Int32))] [(.int (3 : Int32))])) t
        refine XS.iconst X456.here hx rfl (hb hby dix4_36) ?_
        show Steps p.tables e below (T456.setTop (mkF m 37 #[.val (.ref a), .val (.long q), .second, .val (.int (3 : Int32)), .val (.int (4 : Int32)), .val (.int (3 : Int32))] [(.int (1 : Int32)), (.int (3 : Int32))])) t
        refine XS.iadd X456.here hx rfl (hb hby dix4_37) rfl ?_
        exact ht
      have q461 : ((3 : Int32) + (1 : Int32)) = (4 : Int32) := by decide
      rw [q461] at k460
      have v1 := own_tr o1 t2
      have v0 := own_tr o0 v1
      have k462 : Kt p e below m (s₁.setTop (entryFrame m #[(.ref a), (.long q)] 6)) T456 50 #[.val (.ref a), .val (.long q), .second, .val (.int (4 : Int32)), .val (.int (4 : Int32)), .val (.int (3 : Int32))] [(.int (4 : Int32))] := by
        intro t ht
        refine k460 t ?_
        show Steps p.tables e below (T456.setTop (mkF m 38 #[.val (.ref a), .val (.long q), .second, .val (.int (3 : Int32)), .val (.int (4 : Int32)), .val (.int (3 : Int32))] [(.int (4 : Int32))])) t
        refine XS.istoreN X456.here hx rfl (hb hby dix4_38) rfl (l' := #[.val (.ref a), .val (.long q), .second, .val (.int (4 : Int32)), .val (.int (4 : Int32)), .val (.int (3 : Int32))]) rfl ?_
        show Steps p.tables e below (T456.setTop (mkF m 39 #[.val (.ref a), .val (.long q), .second, .val (.int (4 : Int32)), .val (.int (4 : Int32)), .val (.int (3 : Int32))] [])) t
        refine XS.goto X456.here hx rfl (pc0 := 39) (pc' := 46) rfl (hb hby dix4_39) (by decide) (by decide) ?_
        show Steps p.tables e below (T456.setTop (mkF m 46 #[.val (.ref a), .val (.long q), .second, .val (.int (4 : Int32)), .val (.int (4 : Int32)), .val (.int (3 : Int32))] [])) t
        refine XS.goto X456.here hx rfl (pc0 := 46) (pc' := 8) rfl (hb hby dix4_46) (by decide) (by decide) ?_
        show Steps p.tables e below (T456.setTop (mkF m 8 #[.val (.ref a), .val (.long q), .second, .val (.int (4 : Int32)), .val (.int (4 : Int32)), .val (.int (3 : Int32))] [])) t
        refine XS.iloadN X456.here hx rfl (hb hby dix4_8) rfl ?_
        show Steps p.tables e below (T456.setTop (mkF m 9 #[.val (.ref a), .val (.long q), .second, .val (.int (4 : Int32)), .val (.int (4 : Int32)), .val (.int (3 : Int32))] [(.int (4 : Int32))])) t
        refine XS.iload X456.here hx rfl (hb hby dix4_9) rfl ?_
        show Steps p.tables e below (T456.setTop (mkF m 11 #[.val (.ref a), .val (.long q), .second, .val (.int (4 : Int32)), .val (.int (4 : Int32)), .val (.int (3 : Int32))] [(.int (4 : Int32)), (.int (4 : Int32))])) t
        refine XS.icmpYes X456.here hx rfl (pc0 := 11) (pc' := 49) rfl (hb hby dix4_11) rfl (flt (by decide)).2.1 (by decide) (by decide) ?_
        show Steps p.tables e below (T456.setTop (mkF m 49 #[.val (.ref a), .val (.long q), .second, .val (.int (4 : Int32)), .val (.int (4 : Int32)), .val (.int (3 : Int32))] [])) t
        refine XS.iloadN X456.here hx rfl (hb hby dix4_49) rfl ?_
        exact ht
      obtain ⟨fs, hr, hrun, hended, hW, hsame⟩ := X456.leave (v := some (.int (4 : Int32))) (fun h => by rw [Bd.returns] at h; cases h)
      refine ⟨_, _, k462 _ ?_, hrun, hended, _, _, rfl, ?_, ⟨_, rfl⟩, hW, hsame.mono (by decide) (by decide)⟩
      · exact retI X456 hx Bd.returns (hb hby dix4_50) hr
      · show Qix4 Z a q tb kt x0 x1 x2 x3 h0 n0 _ T456.heap _
        rw [e456]
        exact ⟨congrArg (fun z => some (Value.int z)) (by rw [← own_b1 v0, ← own_b1 v1, ← own_b1 t2, ← own_b1 t3]; decide), N0, rfl⟩
    · have u3 := c3
      have v1 := own_tr o1 t2
      have v0 := own_tr o0 v1
      have k463 : Kt p e below m (s₁.setTop (entryFrame m #[(.ref a), (.long q)] 6)) T456 50 #[.val (.ref a), .val (.long q), .second, .val (.int (3 : Int32)), .val (.int (3 : Int32)), .val (.int (3 : Int32))] [(.int (3 : Int32))] := by
        intro t ht
        refine k459 t ?_
        show Steps p.tables e below (T456.setTop (mkF m 31 #[.val (.ref a), .val (.long q), .second, .val (.int (3 : Int32)), .val (.int (4 : Int32)), .val (.int (3 : Int32))] [(.int (lcmpW x3 q))])) t
        refine XS.ifYes X456.here hx rfl (pc0 := 31) (pc' := 42) rfl (hb hby dix4_31) rfl ((if0 _ _).trans (flt (mt (lw_lt _ _).mp c3)).2.1) (by decide) (by decide) ?_
        show Steps p.tables e below (T456.setTop (mkF m 42 #[.val (.ref a), .val (.long q), .second, .val (.int (3 : Int32)), .val (.int (4 : Int32)), .val (.int (3 : Int32))] [])) t
        refine XS.iload X456.here hx rfl (hb hby dix4_42) rfl ?_
        show Steps p.tables e below (T456.setTop (mkF m 44 #[.val (.ref a), .val (.long q), .second, .val (.int (3 : Int32)), .val (.int (4 : Int32)), .val (.int (3 : Int32))] [(.int (3 : Int32))])) t
        refine XS.istore X456.here hx rfl (hb hby dix4_44) rfl (l' := #[.val (.ref a), .val (.long q), .second, .val (.int (3 : Int32)), .val (.int (3 : Int32)), .val (.int (3 : Int32))]) rfl ?_
        show Steps p.tables e below (T456.setTop (mkF m 46 #[.val (.ref a), .val (.long q), .second, .val (.int (3 : Int32)), .val (.int (3 : Int32)), .val (.int (3 : Int32))] [])) t
        refine XS.goto X456.here hx rfl (pc0 := 46) (pc' := 8) rfl (hb hby dix4_46) (by decide) (by decide) ?_
        show Steps p.tables e below (T456.setTop (mkF m 8 #[.val (.ref a), .val (.long q), .second, .val (.int (3 : Int32)), .val (.int (3 : Int32)), .val (.int (3 : Int32))] [])) t
        refine XS.iloadN X456.here hx rfl (hb hby dix4_8) rfl ?_
        show Steps p.tables e below (T456.setTop (mkF m 9 #[.val (.ref a), .val (.long q), .second, .val (.int (3 : Int32)), .val (.int (3 : Int32)), .val (.int (3 : Int32))] [(.int (3 : Int32))])) t
        refine XS.iload X456.here hx rfl (hb hby dix4_9) rfl ?_
        show Steps p.tables e below (T456.setTop (mkF m 11 #[.val (.ref a), .val (.long q), .second, .val (.int (3 : Int32)), .val (.int (3 : Int32)), .val (.int (3 : Int32))] [(.int (3 : Int32)), (.int (3 : Int32))])) t
        refine XS.icmpYes X456.here hx rfl (pc0 := 11) (pc' := 49) rfl (hb hby dix4_11) rfl (flt (by decide)).2.1 (by decide) (by decide) ?_
        show Steps p.tables e below (T456.setTop (mkF m 49 #[.val (.ref a), .val (.long q), .second, .val (.int (3 : Int32)), .val (.int (3 : Int32)), .val (.int (3 : Int32))] [])) t
        refine XS.iloadN X456.here hx rfl (hb hby dix4_49) rfl ?_
        exact ht
      obtain ⟨fs, hr, hrun, hended, hW, hsame⟩ := X456.leave (v := some (.int (3 : Int32))) (fun h => by rw [Bd.returns] at h; cases h)
      refine ⟨_, _, k463 _ ?_, hrun, hended, _, _, rfl, ?_, ⟨_, rfl⟩, hW, hsame.mono (by decide) (by decide)⟩
      · exact retI X456 hx Bd.returns (hb hby dix4_50) hr
      · show Qix4 Z a q tb kt x0 x1 x2 x3 h0 n0 _ T456.heap _
        rw [e456]
        exact ⟨congrArg (fun z => some (Value.int z)) (by rw [← own_b1 v0, ← own_b1 v1, ← own_b1 t2, ← own_b0 u3]; decide), N0, rfl⟩
  · have u2 := c2
    have k464 : Kt p e below m (s₁.setTop (entryFrame m #[(.ref a), (.long q)] 6)) T447 20 #[.val (.ref a), .val (.long q), .second, .val (.int (0 : Int32)), .val (.int (2 : Int32)), .val (.int (2 : Int32))] [(.int ((((0 : Int32) + (2 : Int32)).toUInt32 >>> ((1 : Int32) &&& 31).toUInt32).toInt32))] := by
      intro t ht
      refine k450 t ?_
      show Steps p.tables e below (T447.setTop (mkF m 31 #[.val (.ref a), .val (.long q), .second, .val (.int (0 : Int32)), .val (.int (4 : Int32)), .val (.int (2 : Int32))] [(.int (lcmpW x2 q))])) t
      refine XS.ifYes X447.here hx rfl (pc0 := 31) (pc' := 42) rfl (hb hby dix4_31) rfl ((if0 _ _).trans (flt (mt (lw_lt _ _).mp c2)).2.1) (by decide) (by decide) ?_
      show Steps p.tables e below (T447.setTop (mkF m 42 #[.val (.ref a), .val (.long q), .second, .val (.int (0 : Int32)), .val (.int (4 : Int32)), .val (.int (2 : Int32))] [])) t
      refine XS.iload X447.here hx rfl (hb hby dix4_42) rfl ?_
      show Steps p.tables e below (T447.setTop (mkF m 44 #[.val (.ref a), .val (.long q), .second, .val (.int (0 : Int32)), .val (.int (4 : Int32)), .val (.int (2 : Int32))] [(.int (2 : Int32))])) t
      refine XS.istore X447.here hx rfl (hb hby dix4_44) rfl (l' := #[.val (.ref a), .val (.long q), .second, .val (.int (0 : Int32)), .val (.int (2 : Int32)), .val (.int (2 : Int32))]) rfl ?_
      show Steps p.tables e below (T447.setTop (mkF m 46 #[.val (.ref a), .val (.long q), .second, .val (.int (0 : Int32)), .val (.int (2 : Int32)), .val (.int (2 : Int32))] [])) t
      refine XS.goto X447.here hx rfl (pc0 := 46) (pc' := 8) rfl (hb hby dix4_46) (by decide) (by decide) ?_
      show Steps p.tables e below (T447.setTop (mkF m 8 #[.val (.ref a), .val (.long q), .second, .val (.int (0 : Int32)), .val (.int (2 : Int32)), .val (.int (2 : Int32))] [])) t
      refine XS.iloadN X447.here hx rfl (hb hby dix4_8) rfl ?_
      show Steps p.tables e below (T447.setTop (mkF m 9 #[.val (.ref a), .val (.long q), .second, .val (.int (0 : Int32)), .val (.int (2 : Int32)), .val (.int (2 : Int32))] [(.int (0 : Int32))])) t
      refine XS.iload X447.here hx rfl (hb hby dix4_9) rfl ?_
      show Steps p.tables e below (T447.setTop (mkF m 11 #[.val (.ref a), .val (.long q), .second, .val (.int (0 : Int32)), .val (.int (2 : Int32)), .val (.int (2 : Int32))] [(.int (2 : Int32)), (.int (0 : Int32))])) t
      refine XS.icmpNo X447.here hx rfl (hb hby dix4_11) rfl (tlt (by decide)).2.1 ?_
      show Steps p.tables e below (T447.setTop (mkF m 14 #[.val (.ref a), .val (.long q), .second, .val (.int (0 : Int32)), .val (.int (2 : Int32)), .val (.int (2 : Int32))] [])) t
      refine XS.iloadN X447.here hx rfl (hb hby dix4_14) rfl ?_
      show Steps p.tables e below (T447.setTop (mkF m 15 #[.val (.ref a), .val (.long q), .second, .val (.int (0 : Int32)), .val (.int (2 : Int32)), .val (.int (2 : Int32))] [(.int (0 : Int32))])) t
      refine XS.iload X447.here hx rfl (hb hby dix4_15) rfl ?_
      show Steps p.tables e below (T447.setTop (mkF m 17 #[.val (.ref a), .val (.long q), .second, .val (.int (0 : Int32)), .val (.int (2 : Int32)), .val (.int (2 : Int32))] [(.int (2 : Int32)), (.int (0 : Int32))])) t
      refine XS.iadd X447.here hx rfl (hb hby dix4_17) rfl ?_
      show Steps p.tables e below (T447.setTop (mkF m 18 #[.val (.ref a), .val (.long q), .second, .val (.int (0 : Int32)), .val (.int (2 : Int32)), .val (.int (2 : Int32))] [(.int ((0 : Int32) + (2 : Int32)))])) t
      refine XS.iconst X447.here hx rfl (hb hby dix4_18) ?_
      show Steps p.tables e below (T447.setTop (mkF m 19 #[.val (.ref a), .val (.long q), .second, .val (.int (0 : Int32)), .val (.int (2 : Int32)), .val (.int (2 : Int32))] [(.int (1 : Int32)), (.int ((0 : Int32) + (2 : Int32)))])) t
      refine XS.iushr X447.here hx rfl (hb hby dix4_19) rfl ?_
      exact ht
    have q465 : ((((0 : Int32) + (2 : Int32)).toUInt32 >>> ((1 : Int32) &&& 31).toUInt32).toInt32) = (1 : Int32) := by decide
    rw [q465] at k464
    have k466 : Kt p e below m (s₁.setTop (entryFrame m #[(.ref a), (.long q)] 6)) T447 23 #[.val (.ref a), .val (.long q), .second, .val (.int (0 : Int32)), .val (.int (2 : Int32)), .val (.int (1 : Int32))] [(.ref a)] := by
      intro t ht
      refine k464 t ?_
      show Steps p.tables e below (T447.setTop (mkF m 20 #[.val (.ref a), .val (.long q), .second, .val (.int (0 : Int32)), .val (.int (2 : Int32)), .val (.int (2 : Int32))] [(.int (1 : Int32))])) t
      refine XS.istore X447.here hx rfl (hb hby dix4_20) rfl (l' := #[.val (.ref a), .val (.long q), .second, .val (.int (0 : Int32)), .val (.int (2 : Int32)), .val (.int (1 : Int32))]) rfl ?_
      show Steps p.tables e below (T447.setTop (mkF m 22 #[.val (.ref a), .val (.long q), .second, .val (.int (0 : Int32)), .val (.int (2 : Int32)), .val (.int (1 : Int32))] [])) t
      refine XS.aloadN X447.here hx rfl (hb hby dix4_22) rfl rfl ?_
      exact ht
    obtain ⟨T467, X467, e467, st467⟩ := getF X447 hx hZ hown (host := "") (Or.inl (hw _ (List.mem_of_getElem? (i := 14) rfl))) Via.refl e447 F_times (g := (mkF m 23 #[.val (.ref a), .val (.long q), .second, .val (.int (0 : Int32)), .val (.int (2 : Int32)), .val (.int (1 : Int32))] [(.ref a)])) rfl rfl (hb hby dix4_23)
    have k467 : Kt p e below m (s₁.setTop (entryFrame m #[(.ref a), (.long q)] 6)) T467 26 #[.val (.ref a), .val (.long q), .second, .val (.int (0 : Int32)), .val (.int (2 : Int32)), .val (.int (1 : Int32))] [(.ref tb)] := fun t ht => k466 t (st467 t ht)
    have k468 : Kt p e below m (s₁.setTop (entryFrame m #[(.ref a), (.long q)] 6)) T467 28 #[.val (.ref a), .val (.long q), .second, .val (.int (0 : Int32)), .val (.int (2 : Int32)), .val (.int (1 : Int32))] [(.int (1 : Int32)), (.ref tb)] := by
      intro t ht
      refine k467 t ?_
      show Steps p.tables e below (T467.setTop (mkF m 26 #[.val (.ref a), .val (.long q), .second, .val (.int (0 : Int32)), .val (.int (2 : Int32)), .val (.int (1 : Int32))] [(.ref tb)])) t
      refine XS.iload X467.here hx rfl (hb hby dix4_26) rfl ?_
      exact ht
    obtain ⟨cl469, Ar469, qc469, Sz469, Nn469, Hh469, Gg469⟩ := id V_t
    have hin469 : ¬ ((1 : Int32) < 0 ∨ cl469.slots.size ≤ ((1 : Int32)).toNatClampNeg) := inb_of Sz469 ⟨by decide, by decide⟩
    have hat469 : cl469.slots[((1 : Int32)).toNatClampNeg]? = some (.long x1) := Hh469.at hin469 rfl
    have k470 : Kt p e below m (s₁.setTop (entryFrame m #[(.ref a), (.long q)] 6)) T467 31 #[.val (.ref a), .val (.long q), .second, .val (.int (0 : Int32)), .val (.int (2 : Int32)), .val (.int (1 : Int32))] [(.int (lcmpW x1 q))] := by
      intro t ht
      refine k468 t ?_
      show Steps p.tables e below (T467.setTop (mkF m 28 #[.val (.ref a), .val (.long q), .second, .val (.int (0 : Int32)), .val (.int (2 : Int32)), .val (.int (1 : Int32))] [(.int (1 : Int32)), (.ref tb)])) t
      refine X467.laload hx (j := (1 : Int32)) (v := (.long x1)) (by rw [e467]; exact Ar469.1) (State.isArrayOf_alike hZ.alike Ar469.2.1) Ar469.2.2 hin469 hat469 (g := (mkF m 28 #[.val (.ref a), .val (.long q), .second, .val (.int (0 : Int32)), .val (.int (2 : Int32)), .val (.int (1 : Int32))] [(.int (1 : Int32)), (.ref tb)])) rfl rfl (hb hby dix4_28) _ ?_
      show Steps p.tables e below (T467.setTop (mkF m 29 #[.val (.ref a), .val (.long q), .second, .val (.int (0 : Int32)), .val (.int (2 : Int32)), .val (.int (1 : Int32))] [(.long x1)])) t
      refine XS.lloadN X467.here hx rfl (hb hby dix4_29) rfl ?_
      show Steps p.tables e below (T467.setTop (mkF m 30 #[.val (.ref a), .val (.long q), .second, .val (.int (0 : Int32)), .val (.int (2 : Int32)), .val (.int (1 : Int32))] [(.long q), (.long x1)])) t
      refine XS.lcmp X467.here hx rfl (hb hby dix4_30) rfl ?_
      exact ht
    by_cases c1 : x1 < q
    · have t1 := c1
      have k471 : Kt p e below m (s₁.setTop (entryFrame m #[(.ref a), (.long q)] 6)) T467 38 #[.val (.ref a), .val (.long q), .second, .val (.int (0 : Int32)), .val (.int (2 : Int32)), .val (.int (1 : Int32))] [(.int ((1 : Int32) + (1 : Int32)))] := by
        intro t ht
        refine k470 t ?_
        show Steps p.tables e below (T467.setTop (mkF m 31 #[.val (.ref a), .val (.long q), .second, .val (.int (0 : Int32)), .val (.int (2 : Int32)), .val (.int (1 : Int32))] [(.int (lcmpW x1 q))])) t
        refine XS.ifNo X467.here hx rfl (hb hby dix4_31) rfl ((if0 _ _).trans (tlt ((lw_lt _ _).mpr c1)).2.1) ?_
        show Steps p.tables e below (T467.setTop (mkF m 34 #[.val (.ref a), .val (.long q), .second, .val (.int (0 : Int32)), .val (.int (2 : Int32)), .val (.int (1 : Int32))] [])) t
        refine XS.iload X467.here hx rfl (hb hby dix4_34) rfl ?_
        show Steps p.tables e below (T467.setTop (mkF m 36 #[.val (.ref a), .val (.long q), .second, .val (.int (0 : Int32)), .val (.int (2 : Int32)), .val (.int (1 : Int32))] [(.int (1 : Int32))])) t
        refine XS.iconst X467.here hx rfl (hb hby dix4_36) ?_
        show Steps p.tables e below (T467.setTop (mkF m 37 #[.val (.ref a), .val (.long q), .second, .val (.int (0 : Int32)), .val (.int (2 : Int32)), .val (.int (1 : Int32))] [(.int (1 : Int32)), (.int (1 : Int32))])) t
        refine XS.iadd X467.here hx rfl (hb hby dix4_37) rfl ?_
        exact ht
      have q472 : ((1 : Int32) + (1 : Int32)) = (2 : Int32) := by decide
      rw [q472] at k471
      have v0 := own_tr o0 t1
      have w3 := own_tn o2 u2
      have k473 : Kt p e below m (s₁.setTop (entryFrame m #[(.ref a), (.long q)] 6)) T467 50 #[.val (.ref a), .val (.long q), .second, .val (.int (2 : Int32)), .val (.int (2 : Int32)), .val (.int (1 : Int32))] [(.int (2 : Int32))] := by
        intro t ht
        refine k471 t ?_
        show Steps p.tables e below (T467.setTop (mkF m 38 #[.val (.ref a), .val (.long q), .second, .val (.int (0 : Int32)), .val (.int (2 : Int32)), .val (.int (1 : Int32))] [(.int (2 : Int32))])) t
        refine XS.istoreN X467.here hx rfl (hb hby dix4_38) rfl (l' := #[.val (.ref a), .val (.long q), .second, .val (.int (2 : Int32)), .val (.int (2 : Int32)), .val (.int (1 : Int32))]) rfl ?_
        show Steps p.tables e below (T467.setTop (mkF m 39 #[.val (.ref a), .val (.long q), .second, .val (.int (2 : Int32)), .val (.int (2 : Int32)), .val (.int (1 : Int32))] [])) t
        refine XS.goto X467.here hx rfl (pc0 := 39) (pc' := 46) rfl (hb hby dix4_39) (by decide) (by decide) ?_
        show Steps p.tables e below (T467.setTop (mkF m 46 #[.val (.ref a), .val (.long q), .second, .val (.int (2 : Int32)), .val (.int (2 : Int32)), .val (.int (1 : Int32))] [])) t
        refine XS.goto X467.here hx rfl (pc0 := 46) (pc' := 8) rfl (hb hby dix4_46) (by decide) (by decide) ?_
        show Steps p.tables e below (T467.setTop (mkF m 8 #[.val (.ref a), .val (.long q), .second, .val (.int (2 : Int32)), .val (.int (2 : Int32)), .val (.int (1 : Int32))] [])) t
        refine XS.iloadN X467.here hx rfl (hb hby dix4_8) rfl ?_
        show Steps p.tables e below (T467.setTop (mkF m 9 #[.val (.ref a), .val (.long q), .second, .val (.int (2 : Int32)), .val (.int (2 : Int32)), .val (.int (1 : Int32))] [(.int (2 : Int32))])) t
        refine XS.iload X467.here hx rfl (hb hby dix4_9) rfl ?_
        show Steps p.tables e below (T467.setTop (mkF m 11 #[.val (.ref a), .val (.long q), .second, .val (.int (2 : Int32)), .val (.int (2 : Int32)), .val (.int (1 : Int32))] [(.int (2 : Int32)), (.int (2 : Int32))])) t
        refine XS.icmpYes X467.here hx rfl (pc0 := 11) (pc' := 49) rfl (hb hby dix4_11) rfl (flt (by decide)).2.1 (by decide) (by decide) ?_
        show Steps p.tables e below (T467.setTop (mkF m 49 #[.val (.ref a), .val (.long q), .second, .val (.int (2 : Int32)), .val (.int (2 : Int32)), .val (.int (1 : Int32))] [])) t
        refine XS.iloadN X467.here hx rfl (hb hby dix4_49) rfl ?_
        exact ht
      obtain ⟨fs, hr, hrun, hended, hW, hsame⟩ := X467.leave (v := some (.int (2 : Int32))) (fun h => by rw [Bd.returns] at h; cases h)
      refine ⟨_, _, k473 _ ?_, hrun, hended, _, _, rfl, ?_, ⟨_, rfl⟩, hW, hsame.mono (by decide) (by decide)⟩
      · exact retI X467 hx Bd.returns (hb hby dix4_50) hr
      · show Qix4 Z a q tb kt x0 x1 x2 x3 h0 n0 _ T467.heap _
        rw [e467]
        exact ⟨congrArg (fun z => some (Value.int z)) (by rw [← own_b1 v0, ← own_b1 t1, ← own_b0 u2, ← own_b0 w3]; decide), N0, rfl⟩
    · have u1 := c1
      have k474 : Kt p e below m (s₁.setTop (entryFrame m #[(.ref a), (.long q)] 6)) T467 20 #[.val (.ref a), .val (.long q), .second, .val (.int (0 : Int32)), .val (.int (1 : Int32)), .val (.int (1 : Int32))] [(.int ((((0 : Int32) + (1 : Int32)).toUInt32 >>> ((1 : Int32) &&& 31).toUInt32).toInt32))] := by
        intro t ht
        refine k470 t ?_
        show Steps p.tables e below (T467.setTop (mkF m 31 #[.val (.ref a), .val (.long q), .second, .val (.int (0 : Int32)), .val (.int (2 : Int32)), .val (.int (1 : Int32))] [(.int (lcmpW x1 q))])) t
        refine XS.ifYes X467.here hx rfl (pc0 := 31) (pc' := 42) rfl (hb hby dix4_31) rfl ((if0 _ _).trans (flt (mt (lw_lt _ _).mp c1)).2.1) (by decide) (by decide) ?_
        show Steps p.tables e below (T467.setTop (mkF m 42 #[.val (.ref a), .val (.long q), .second, .val (.int (0 : Int32)), .val (.int (2 : Int32)), .val (.int (1 : Int32))] [])) t
        refine XS.iload X467.here hx rfl (hb hby dix4_42) rfl ?_
        show Steps p.tables e below (T467.setTop (mkF m 44 #[.val (.ref a), .val (.long q), .second, .val (.int (0 : Int32)), .val (.int (2 : Int32)), .val (.int (1 : Int32))] [(.int (1 : Int32))])) t
        refine XS.istore X467.here hx rfl (hb hby dix4_44) rfl (l' := #[.val (.ref a), .val (.long q), .second, .val (.int (0 : Int32)), .val (.int (1 : Int32)), .val (.int (1 : Int32))]) rfl ?_
        show Steps p.tables e below (T467.setTop (mkF m 46 #[.val (.ref a), .val (.long q), .second, .val (.int (0 : Int32)), .val (.int (1 : Int32)), .val (.int (1 : Int32))] [])) t
        refine XS.goto X467.here hx rfl (pc0 := 46) (pc' := 8) rfl (hb hby dix4_46) (by decide) (by decide) ?_
        show Steps p.tables e below (T467.setTop (mkF m 8 #[.val (.ref a), .val (.long q), .second, .val (.int (0 : Int32)), .val (.int (1 : Int32)), .val (.int (1 : Int32))] [])) t
        refine XS.iloadN X467.here hx rfl (hb hby dix4_8) rfl ?_
        show Steps p.tables e below (T467.setTop (mkF m 9 #[.val (.ref a), .val (.long q), .second, .val (.int (0 : Int32)), .val (.int (1 : Int32)), .val (.int (1 : Int32))] [(.int (0 : Int32))])) t
        refine XS.iload X467.here hx rfl (hb hby dix4_9) rfl ?_
        show Steps p.tables e below (T467.setTop (mkF m 11 #[.val (.ref a), .val (.long q), .second, .val (.int (0 : Int32)), .val (.int (1 : Int32)), .val (.int (1 : Int32))] [(.int (1 : Int32)), (.int (0 : Int32))])) t
        refine XS.icmpNo X467.here hx rfl (hb hby dix4_11) rfl (tlt (by decide)).2.1 ?_
        show Steps p.tables e below (T467.setTop (mkF m 14 #[.val (.ref a), .val (.long q), .second, .val (.int (0 : Int32)), .val (.int (1 : Int32)), .val (.int (1 : Int32))] [])) t
        refine XS.iloadN X467.here hx rfl (hb hby dix4_14) rfl ?_
        show Steps p.tables e below (T467.setTop (mkF m 15 #[.val (.ref a), .val (.long q), .second, .val (.int (0 : Int32)), .val (.int (1 : Int32)), .val (.int (1 : Int32))] [(.int (0 : Int32))])) t
        refine XS.iload X467.here hx rfl (hb hby dix4_15) rfl ?_
        show Steps p.tables e below (T467.setTop (mkF m 17 #[.val (.ref a), .val (.long q), .second, .val (.int (0 : Int32)), .val (.int (1 : Int32)), .val (.int (1 : Int32))] [(.int (1 : Int32)), (.int (0 : Int32))])) t
        refine XS.iadd X467.here hx rfl (hb hby dix4_17) rfl ?_
        show Steps p.tables e below (T467.setTop (mkF m 18 #[.val (.ref a), .val (.long q), .second, .val (.int (0 : Int32)), .val (.int (1 : Int32)), .val (.int (1 : Int32))] [(.int ((0 : Int32) + (1 : Int32)))])) t
        refine XS.iconst X467.here hx rfl (hb hby dix4_18) ?_
        show Steps p.tables e below (T467.setTop (mkF m 19 #[.val (.ref a), .val (.long q), .second, .val (.int (0 : Int32)), .val (.int (1 : Int32)), .val (.int (1 : Int32))] [(.int (1 : Int32)), (.int ((0 : Int32) + (1 : Int32)))])) t
        refine XS.iushr X467.here hx rfl (hb hby dix4_19) rfl ?_
        exact ht
      have q475 : ((((0 : Int32) + (1 : Int32)).toUInt32 >>> ((1 : Int32) &&& 31).toUInt32).toInt32) = (0 : Int32) := by decide
      rw [q475] at k474
      have k476 : Kt p e below m (s₁.setTop (entryFrame m #[(.ref a), (.long q)] 6)) T467 23 #[.val (.ref a), .val (.long q), .second, .val (.int (0 : Int32)), .val (.int (1 : Int32)), .val (.int (0 : Int32))] [(.ref a)] := by
        intro t ht
        refine k474 t ?_
        show Steps p.tables e below (T467.setTop (mkF m 20 #[.val (.ref a), .val (.long q), .second, .val (.int (0 : Int32)), .val (.int (1 : Int32)), .val (.int (1 : Int32))] [(.int (0 : Int32))])) t
        refine XS.istore X467.here hx rfl (hb hby dix4_20) rfl (l' := #[.val (.ref a), .val (.long q), .second, .val (.int (0 : Int32)), .val (.int (1 : Int32)), .val (.int (0 : Int32))]) rfl ?_
        show Steps p.tables e below (T467.setTop (mkF m 22 #[.val (.ref a), .val (.long q), .second, .val (.int (0 : Int32)), .val (.int (1 : Int32)), .val (.int (0 : Int32))] [])) t
        refine XS.aloadN X467.here hx rfl (hb hby dix4_22) rfl rfl ?_
        exact ht
      obtain ⟨T477, X477, e477, st477⟩ := getF X467 hx hZ hown (host := "") (Or.inl (hw _ (List.mem_of_getElem? (i := 14) rfl))) Via.refl e467 F_times (g := (mkF m 23 #[.val (.ref a), .val (.long q), .second, .val (.int (0 : Int32)), .val (.int (1 : Int32)), .val (.int (0 : Int32))] [(.ref a)])) rfl rfl (hb hby dix4_23)
      have k477 : Kt p e below m (s₁.setTop (entryFrame m #[(.ref a), (.long q)] 6)) T477 26 #[.val (.ref a), .val (.long q), .second, .val (.int (0 : Int32)), .val (.int (1 : Int32)), .val (.int (0 : Int32))] [(.ref tb)] := fun t ht => k476 t (st477 t ht)
      have k478 : Kt p e below m (s₁.setTop (entryFrame m #[(.ref a), (.long q)] 6)) T477 28 #[.val (.ref a), .val (.long q), .second, .val (.int (0 : Int32)), .val (.int (1 : Int32)), .val (.int (0 : Int32))] [(.int (0 : Int32)), (.ref tb)] := by
        intro t ht
        refine k477 t ?_
        show Steps p.tables e below (T477.setTop (mkF m 26 #[.val (.ref a), .val (.long q), .second, .val (.int (0 : Int32)), .val (.int (1 : Int32)), .val (.int (0 : Int32))] [(.ref tb)])) t
        refine XS.iload X477.here hx rfl (hb hby dix4_26) rfl ?_
        exact ht
      obtain ⟨cl479, Ar479, qc479, Sz479, Nn479, Hh479, Gg479⟩ := id V_t
      have hin479 : ¬ ((0 : Int32) < 0 ∨ cl479.slots.size ≤ ((0 : Int32)).toNatClampNeg) := inb_of Sz479 ⟨by decide, by decide⟩
      have hat479 : cl479.slots[((0 : Int32)).toNatClampNeg]? = some (.long x0) := Hh479.at hin479 rfl
      have k480 : Kt p e below m (s₁.setTop (entryFrame m #[(.ref a), (.long q)] 6)) T477 31 #[.val (.ref a), .val (.long q), .second, .val (.int (0 : Int32)), .val (.int (1 : Int32)), .val (.int (0 : Int32))] [(.int (lcmpW x0 q))] := by
        intro t ht
        refine k478 t ?_
        show Steps p.tables e below (T477.setTop (mkF m 28 #[.val (.ref a), .val (.long q), .second, .val (.int (0 : Int32)), .val (.int (1 : Int32)), .val (.int (0 : Int32))] [(.int (0 : Int32)), (.ref tb)])) t
        refine X477.laload hx (j := (0 : Int32)) (v := (.long x0)) (by rw [e477]; exact Ar479.1) (State.isArrayOf_alike hZ.alike Ar479.2.1) Ar479.2.2 hin479 hat479 (g := (mkF m 28 #[.val (.ref a), .val (.long q), .second, .val (.int (0 : Int32)), .val (.int (1 : Int32)), .val (.int (0 : Int32))] [(.int (0 : Int32)), (.ref tb)])) rfl rfl (hb hby dix4_28) _ ?_
        show Steps p.tables e below (T477.setTop (mkF m 29 #[.val (.ref a), .val (.long q), .second, .val (.int (0 : Int32)), .val (.int (1 : Int32)), .val (.int (0 : Int32))] [(.long x0)])) t
        refine XS.lloadN X477.here hx rfl (hb hby dix4_29) rfl ?_
        show Steps p.tables e below (T477.setTop (mkF m 30 #[.val (.ref a), .val (.long q), .second, .val (.int (0 : Int32)), .val (.int (1 : Int32)), .val (.int (0 : Int32))] [(.long q), (.long x0)])) t
        refine XS.lcmp X477.here hx rfl (hb hby dix4_30) rfl ?_
        exact ht
      by_cases c0 : x0 < q
      · have t0 := c0
        have k481 : Kt p e below m (s₁.setTop (entryFrame m #[(.ref a), (.long q)] 6)) T477 38 #[.val (.ref a), .val (.long q), .second, .val (.int (0 : Int32)), .val (.int (1 : Int32)), .val (.int (0 : Int32))] [(.int ((0 : Int32) + (1 : Int32)))] := by
          intro t ht
          refine k480 t ?_
          show Steps p.tables e below (T477.setTop (mkF m 31 #[.val (.ref a), .val (.long q), .second, .val (.int (0 : Int32)), .val (.int (1 : Int32)), .val (.int (0 : Int32))] [(.int (lcmpW x0 q))])) t
          refine XS.ifNo X477.here hx rfl (hb hby dix4_31) rfl ((if0 _ _).trans (tlt ((lw_lt _ _).mpr c0)).2.1) ?_
          show Steps p.tables e below (T477.setTop (mkF m 34 #[.val (.ref a), .val (.long q), .second, .val (.int (0 : Int32)), .val (.int (1 : Int32)), .val (.int (0 : Int32))] [])) t
          refine XS.iload X477.here hx rfl (hb hby dix4_34) rfl ?_
          show Steps p.tables e below (T477.setTop (mkF m 36 #[.val (.ref a), .val (.long q), .second, .val (.int (0 : Int32)), .val (.int (1 : Int32)), .val (.int (0 : Int32))] [(.int (0 : Int32))])) t
          refine XS.iconst X477.here hx rfl (hb hby dix4_36) ?_
          show Steps p.tables e below (T477.setTop (mkF m 37 #[.val (.ref a), .val (.long q), .second, .val (.int (0 : Int32)), .val (.int (1 : Int32)), .val (.int (0 : Int32))] [(.int (1 : Int32)), (.int (0 : Int32))])) t
          refine XS.iadd X477.here hx rfl (hb hby dix4_37) rfl ?_
          exact ht
        have q482 : ((0 : Int32) + (1 : Int32)) = (1 : Int32) := by decide
        rw [q482] at k481
        have w3 := own_tn o2 u2
        have k483 : Kt p e below m (s₁.setTop (entryFrame m #[(.ref a), (.long q)] 6)) T477 50 #[.val (.ref a), .val (.long q), .second, .val (.int (1 : Int32)), .val (.int (1 : Int32)), .val (.int (0 : Int32))] [(.int (1 : Int32))] := by
          intro t ht
          refine k481 t ?_
          show Steps p.tables e below (T477.setTop (mkF m 38 #[.val (.ref a), .val (.long q), .second, .val (.int (0 : Int32)), .val (.int (1 : Int32)), .val (.int (0 : Int32))] [(.int (1 : Int32))])) t
          refine XS.istoreN X477.here hx rfl (hb hby dix4_38) rfl (l' := #[.val (.ref a), .val (.long q), .second, .val (.int (1 : Int32)), .val (.int (1 : Int32)), .val (.int (0 : Int32))]) rfl ?_
          show Steps p.tables e below (T477.setTop (mkF m 39 #[.val (.ref a), .val (.long q), .second, .val (.int (1 : Int32)), .val (.int (1 : Int32)), .val (.int (0 : Int32))] [])) t
          refine XS.goto X477.here hx rfl (pc0 := 39) (pc' := 46) rfl (hb hby dix4_39) (by decide) (by decide) ?_
          show Steps p.tables e below (T477.setTop (mkF m 46 #[.val (.ref a), .val (.long q), .second, .val (.int (1 : Int32)), .val (.int (1 : Int32)), .val (.int (0 : Int32))] [])) t
          refine XS.goto X477.here hx rfl (pc0 := 46) (pc' := 8) rfl (hb hby dix4_46) (by decide) (by decide) ?_
          show Steps p.tables e below (T477.setTop (mkF m 8 #[.val (.ref a), .val (.long q), .second, .val (.int (1 : Int32)), .val (.int (1 : Int32)), .val (.int (0 : Int32))] [])) t
          refine XS.iloadN X477.here hx rfl (hb hby dix4_8) rfl ?_
          show Steps p.tables e below (T477.setTop (mkF m 9 #[.val (.ref a), .val (.long q), .second, .val (.int (1 : Int32)), .val (.int (1 : Int32)), .val (.int (0 : Int32))] [(.int (1 : Int32))])) t
          refine XS.iload X477.here hx rfl (hb hby dix4_9) rfl ?_
          show Steps p.tables e below (T477.setTop (mkF m 11 #[.val (.ref a), .val (.long q), .second, .val (.int (1 : Int32)), .val (.int (1 : Int32)), .val (.int (0 : Int32))] [(.int (1 : Int32)), (.int (1 : Int32))])) t
          refine XS.icmpYes X477.here hx rfl (pc0 := 11) (pc' := 49) rfl (hb hby dix4_11) rfl (flt (by decide)).2.1 (by decide) (by decide) ?_
          show Steps p.tables e below (T477.setTop (mkF m 49 #[.val (.ref a), .val (.long q), .second, .val (.int (1 : Int32)), .val (.int (1 : Int32)), .val (.int (0 : Int32))] [])) t
          refine XS.iloadN X477.here hx rfl (hb hby dix4_49) rfl ?_
          exact ht
        obtain ⟨fs, hr, hrun, hended, hW, hsame⟩ := X477.leave (v := some (.int (1 : Int32))) (fun h => by rw [Bd.returns] at h; cases h)
        refine ⟨_, _, k483 _ ?_, hrun, hended, _, _, rfl, ?_, ⟨_, rfl⟩, hW, hsame.mono (by decide) (by decide)⟩
        · exact retI X477 hx Bd.returns (hb hby dix4_50) hr
        · show Qix4 Z a q tb kt x0 x1 x2 x3 h0 n0 _ T477.heap _
          rw [e477]
          exact ⟨congrArg (fun z => some (Value.int z)) (by rw [← own_b1 t0, ← own_b0 u1, ← own_b0 u2, ← own_b0 w3]; decide), N0, rfl⟩
      · have u0 := c0
        have w3 := own_tn o2 u2
        have k484 : Kt p e below m (s₁.setTop (entryFrame m #[(.ref a), (.long q)] 6)) T477 50 #[.val (.ref a), .val (.long q), .second, .val (.int (0 : Int32)), .val (.int (0 : Int32)), .val (.int (0 : Int32))] [(.int (0 : Int32))] := by
          intro t ht
          refine k480 t ?_
          show Steps p.tables e below (T477.setTop (mkF m 31 #[.val (.ref a), .val (.long q), .second, .val (.int (0 : Int32)), .val (.int (1 : Int32)), .val (.int (0 : Int32))] [(.int (lcmpW x0 q))])) t
          refine XS.ifYes X477.here hx rfl (pc0 := 31) (pc' := 42) rfl (hb hby dix4_31) rfl ((if0 _ _).trans (flt (mt (lw_lt _ _).mp c0)).2.1) (by decide) (by decide) ?_
          show Steps p.tables e below (T477.setTop (mkF m 42 #[.val (.ref a), .val (.long q), .second, .val (.int (0 : Int32)), .val (.int (1 : Int32)), .val (.int (0 : Int32))] [])) t
          refine XS.iload X477.here hx rfl (hb hby dix4_42) rfl ?_
          show Steps p.tables e below (T477.setTop (mkF m 44 #[.val (.ref a), .val (.long q), .second, .val (.int (0 : Int32)), .val (.int (1 : Int32)), .val (.int (0 : Int32))] [(.int (0 : Int32))])) t
          refine XS.istore X477.here hx rfl (hb hby dix4_44) rfl (l' := #[.val (.ref a), .val (.long q), .second, .val (.int (0 : Int32)), .val (.int (0 : Int32)), .val (.int (0 : Int32))]) rfl ?_
          show Steps p.tables e below (T477.setTop (mkF m 46 #[.val (.ref a), .val (.long q), .second, .val (.int (0 : Int32)), .val (.int (0 : Int32)), .val (.int (0 : Int32))] [])) t
          refine XS.goto X477.here hx rfl (pc0 := 46) (pc' := 8) rfl (hb hby dix4_46) (by decide) (by decide) ?_
          show Steps p.tables e below (T477.setTop (mkF m 8 #[.val (.ref a), .val (.long q), .second, .val (.int (0 : Int32)), .val (.int (0 : Int32)), .val (.int (0 : Int32))] [])) t
          refine XS.iloadN X477.here hx rfl (hb hby dix4_8) rfl ?_
          show Steps p.tables e below (T477.setTop (mkF m 9 #[.val (.ref a), .val (.long q), .second, .val (.int (0 : Int32)), .val (.int (0 : Int32)), .val (.int (0 : Int32))] [(.int (0 : Int32))])) t
          refine XS.iload X477.here hx rfl (hb hby dix4_9) rfl ?_
          show Steps p.tables e below (T477.setTop (mkF m 11 #[.val (.ref a), .val (.long q), .second, .val (.int (0 : Int32)), .val (.int (0 : Int32)), .val (.int (0 : Int32))] [(.int (0 : Int32)), (.int (0 : Int32))])) t
          refine XS.icmpYes X477.here hx rfl (pc0 := 11) (pc' := 49) rfl (hb hby dix4_11) rfl (flt (by decide)).2.1 (by decide) (by decide) ?_
          show Steps p.tables e below (T477.setTop (mkF m 49 #[.val (.ref a), .val (.long q), .second, .val (.int (0 : Int32)), .val (.int (0 : Int32)), .val (.int (0 : Int32))] [])) t
          refine XS.iloadN X477.here hx rfl (hb hby dix4_49) rfl ?_
          exact ht
        obtain ⟨fs, hr, hrun, hended, hW, hsame⟩ := X477.leave (v := some (.int (0 : Int32))) (fun h => by rw [Bd.returns] at h; cases h)
        refine ⟨_, _, k484 _ ?_, hrun, hended, _, _, rfl, ?_, ⟨_, rfl⟩, hW, hsame.mono (by decide) (by decide)⟩
        · exact retI X477 hx Bd.returns (hb hby dix4_50) hr
        · show Qix4 Z a q tb kt x0 x1 x2 x3 h0 n0 _ T477.heap _
          rw [e477]
          exact ⟨congrArg (fun z => some (Value.int z)) (by rw [← own_b0 u0, ← own_b0 u1, ← own_b0 u2, ← own_b0 w3]; decide), N0, rfl⟩
theorem pn0 : plainName "com/example/clearhour/clearhour/market/TimelineIndexFromPinLaw" = true := by first | (simp [plainName, overriddenIn]; done) | decide +kernel
theorem ef0 (m : MethodId) (p1 : Int64) (p2 : Int64) (p3 : Int64) (p4 : Int64) (p5 : Int64) (p6 : Int32) : entryFrame m #[(.long p1), (.long p2), (.long p3), (.long p4), (.long p5), (.int p6)] maxLocals = mkF m 0 #[.val (.long p1), .second, .val (.long p2), .second, .val (.long p3), .second, .val (.long p4), .second, .val (.long p5), .second, .val (.int p6), .unset, .unset, .unset, .unset, .unset, .unset, .unset] [] := by first | (simp [entryFrame, mkF, argsToLocals, Value.category, maxLocals]; done) | rfl
def Q0 (Z : State) (p1 : Int64) (p2 : Int64) (p3 : Int64) (p4 : Int64) (p5 : Int64) (p6 : Int32) (h0 : Heap) (n0 : Nat) (v : Option Value) (h : Heap) (L : List Loc) : Prop := v = some (.int 1) ∧ Fr n0 L
set_option maxRecDepth 65536 in
set_option maxHeartbeats 40000000 in
theorem rm0 (l : Launch) (Z : State) (a0 : Array Value) (hw : ∀ d ∈ tables_1, d.before a0 Z = true) (ws : List Jvm.Cond) (p1 : Int64) (p2 : Int64) (p3 : Int64) (p4 : Int64) (p5 : Int64) (p6 : Int32) (h0 : Heap) (n0 : Nat) (Z0 : n0 ≤ h0.size)  :
    MetFree l x (head1 (Jvm.Cond.code x code maxLocals ret :: ws) room_1) (fun gs' U => gs' = #[(.long p1), (.long p2), (.long p3), (.long p4), (.long p5), (.int p6)] ∧ Z.Warmed39 U.vm ∧ U.heap = h0) (fun _ _ _ _ _ => True) (fun _ U o U' => ∃ v L, o = .returned v ∧ Q0 Z p1 p2 p3 p4 p5 p6 h0 n0 v U'.heap L ∧ FrameEnd U o U' L room_1.cells room_1.slots) := by
  refine MetFree.of_bodySF (plainFor_of_name pn0) hisR ?_
  intro p e s m args below meth c s₁ Bd hml0 hP hK
  obtain ⟨rfl, hZ, hh⟩ := hP
  have hx := Bd.exec
  have hby := Bd.bytes
  have hml : c.maxLocals = 18 := hml0
  have hown : s.vm.findClass "com/example/clearhour/clearhour/market/TimelineIndexFromPinLaw" = some m.cls := findClass_of_methodNamed Bd.named
  have hnm := (name_of_methodNamed Bd.named Bd.method).1
  have X0 : Stand p l e room_1 s m #[(.long p1), (.long p2), (.long p3), (.long p4), (.long p5), (.int p6)] below meth c s₁ [] 0 0 := Stand.of_body Bd
  have e0 : s₁.heap = h0 := by rw [← hh, Bd.state]; rfl
  have N0 := Fr.nil n0
  have k0 : Kt p e below m (s₁.setTop (entryFrame m #[(.long p1), (.long p2), (.long p3), (.long p4), (.long p5), (.int p6)] maxLocals)) s₁ 0 #[.val (.long p1), .second, .val (.long p2), .second, .val (.long p3), .second, .val (.long p4), .second, .val (.long p5), .second, .val (.int p6), .unset, .unset, .unset, .unset, .unset, .unset, .unset] [] := fun t ht => castTop (ef0 m p1 p2 p3 p4 p5 p6) ht
  have hn5 := own_n5 p6
  have k485 : Kt p e below m (s₁.setTop (entryFrame m #[(.long p1), (.long p2), (.long p3), (.long p4), (.long p5), (.int p6)] maxLocals)) s₁ 7 #[.val (.long p1), .second, .val (.long p2), .second, .val (.long p3), .second, .val (.long p4), .second, .val (.long p5), .second, .val (.int p6), .unset, .unset, .unset, .unset, .unset, .unset, .unset] [(.int ((p6 &&& (7 : Int32)) % (5 : Int32)))] := by
    intro t ht
    refine k0 t ?_
    show Steps p.tables e below (s₁.setTop (mkF m 0 #[.val (.long p1), .second, .val (.long p2), .second, .val (.long p3), .second, .val (.long p4), .second, .val (.long p5), .second, .val (.int p6), .unset, .unset, .unset, .unset, .unset, .unset, .unset] [])) t
    refine XS.iload X0.here hx rfl (hb hby at_0) rfl ?_
    show Steps p.tables e below (s₁.setTop (mkF m 2 #[.val (.long p1), .second, .val (.long p2), .second, .val (.long p3), .second, .val (.long p4), .second, .val (.long p5), .second, .val (.int p6), .unset, .unset, .unset, .unset, .unset, .unset, .unset] [(.int p6)])) t
    refine XS.bipush X0.here hx rfl (hb hby at_2) ?_
    show Steps p.tables e below (s₁.setTop (mkF m 4 #[.val (.long p1), .second, .val (.long p2), .second, .val (.long p3), .second, .val (.long p4), .second, .val (.long p5), .second, .val (.int p6), .unset, .unset, .unset, .unset, .unset, .unset, .unset] [(.int (7 : Int32)), (.int p6)])) t
    refine XS.iand X0.here hx rfl (hb hby at_4) rfl ?_
    show Steps p.tables e below (s₁.setTop (mkF m 5 #[.val (.long p1), .second, .val (.long p2), .second, .val (.long p3), .second, .val (.long p4), .second, .val (.long p5), .second, .val (.int p6), .unset, .unset, .unset, .unset, .unset, .unset, .unset] [(.int (p6 &&& (7 : Int32)))])) t
    refine XS.iconst X0.here hx rfl (hb hby at_5) ?_
    show Steps p.tables e below (s₁.setTop (mkF m 6 #[.val (.long p1), .second, .val (.long p2), .second, .val (.long p3), .second, .val (.long p4), .second, .val (.long p5), .second, .val (.int p6), .unset, .unset, .unset, .unset, .unset, .unset, .unset] [(.int (5 : Int32)), (.int (p6 &&& (7 : Int32)))])) t
    refine iremM X0 hx rfl (hb hby at_6) rfl (by decide) ?_
    exact ht
  obtain ⟨n, hn, k486⟩ : ∃ n : Int32, n = ((p6 &&& (7 : Int32)) % (5 : Int32)) ∧ Kt p e below m (s₁.setTop (entryFrame m #[(.long p1), (.long p2), (.long p3), (.long p4), (.long p5), (.int p6)] maxLocals)) s₁ 7 #[.val (.long p1), .second, .val (.long p2), .second, .val (.long p3), .second, .val (.long p4), .second, .val (.long p5), .second, .val (.int p6), .unset, .unset, .unset, .unset, .unset, .unset, .unset] [(.int n)] := ⟨_, rfl, k485⟩
  rw [← hn] at hn5
  have k487 : Kt p e below m (s₁.setTop (entryFrame m #[(.long p1), (.long p2), (.long p3), (.long p4), (.long p5), (.int p6)] maxLocals)) s₁ 16 #[.val (.long p1), .second, .val (.long p2), .second, .val (.long p3), .second, .val (.long p4), .second, .val (.long p5), .second, .val (.int p6), .val (.int n), .unset, .unset, .unset, .unset, .unset, .unset] [(.int (((p6.toUInt32 >>> ((6 : Int32) &&& 31).toUInt32).toInt32) &&& (1 : Int32)))] := by
    intro t ht
    refine k486 t ?_
    show Steps p.tables e below (s₁.setTop (mkF m 7 #[.val (.long p1), .second, .val (.long p2), .second, .val (.long p3), .second, .val (.long p4), .second, .val (.long p5), .second, .val (.int p6), .unset, .unset, .unset, .unset, .unset, .unset, .unset] [(.int n)])) t
    refine XS.istore X0.here hx rfl (hb hby at_7) rfl (l' := #[.val (.long p1), .second, .val (.long p2), .second, .val (.long p3), .second, .val (.long p4), .second, .val (.long p5), .second, .val (.int p6), .val (.int n), .unset, .unset, .unset, .unset, .unset, .unset]) rfl ?_
    show Steps p.tables e below (s₁.setTop (mkF m 9 #[.val (.long p1), .second, .val (.long p2), .second, .val (.long p3), .second, .val (.long p4), .second, .val (.long p5), .second, .val (.int p6), .val (.int n), .unset, .unset, .unset, .unset, .unset, .unset] [])) t
    refine XS.iload X0.here hx rfl (hb hby at_9) rfl ?_
    show Steps p.tables e below (s₁.setTop (mkF m 11 #[.val (.long p1), .second, .val (.long p2), .second, .val (.long p3), .second, .val (.long p4), .second, .val (.long p5), .second, .val (.int p6), .val (.int n), .unset, .unset, .unset, .unset, .unset, .unset] [(.int p6)])) t
    refine XS.bipush X0.here hx rfl (hb hby at_11) ?_
    show Steps p.tables e below (s₁.setTop (mkF m 13 #[.val (.long p1), .second, .val (.long p2), .second, .val (.long p3), .second, .val (.long p4), .second, .val (.long p5), .second, .val (.int p6), .val (.int n), .unset, .unset, .unset, .unset, .unset, .unset] [(.int (6 : Int32)), (.int p6)])) t
    refine XS.iushr X0.here hx rfl (hb hby at_13) rfl ?_
    show Steps p.tables e below (s₁.setTop (mkF m 14 #[.val (.long p1), .second, .val (.long p2), .second, .val (.long p3), .second, .val (.long p4), .second, .val (.long p5), .second, .val (.int p6), .val (.int n), .unset, .unset, .unset, .unset, .unset, .unset] [(.int ((p6.toUInt32 >>> ((6 : Int32) &&& 31).toUInt32).toInt32))])) t
    refine XS.iconst X0.here hx rfl (hb hby at_14) ?_
    show Steps p.tables e below (s₁.setTop (mkF m 15 #[.val (.long p1), .second, .val (.long p2), .second, .val (.long p3), .second, .val (.long p4), .second, .val (.long p5), .second, .val (.int p6), .val (.int n), .unset, .unset, .unset, .unset, .unset, .unset] [(.int (1 : Int32)), (.int ((p6.toUInt32 >>> ((6 : Int32) &&& 31).toUInt32).toInt32))])) t
    refine XS.iand X0.here hx rfl (hb hby at_15) rfl ?_
    exact ht
  obtain ⟨b, hp488, k488⟩ : ∃ b : Int64, (True) ∧ Kt p e below m (s₁.setTop (entryFrame m #[(.long p1), (.long p2), (.long p3), (.long p4), (.long p5), (.int p6)] maxLocals)) s₁ 21 #[.val (.long p1), .second, .val (.long b), .second, .val (.long p3), .second, .val (.long p4), .second, .val (.long p5), .second, .val (.int p6), .val (.int n), .unset, .unset, .unset, .unset, .unset, .unset] [] := by
    by_cases hj489 : (((p6.toUInt32 >>> ((6 : Int32) &&& 31).toUInt32).toInt32) &&& (1 : Int32)) = (0 : Int32)
    · have k490 : Kt p e below m (s₁.setTop (entryFrame m #[(.long p1), (.long p2), (.long p3), (.long p4), (.long p5), (.int p6)] maxLocals)) s₁ 21 #[.val (.long p1), .second, .val (.long p2), .second, .val (.long p3), .second, .val (.long p4), .second, .val (.long p5), .second, .val (.int p6), .val (.int n), .unset, .unset, .unset, .unset, .unset, .unset] [] := by
        intro t ht
        refine k487 t ?_
        show Steps p.tables e below (s₁.setTop (mkF m 16 #[.val (.long p1), .second, .val (.long p2), .second, .val (.long p3), .second, .val (.long p4), .second, .val (.long p5), .second, .val (.int p6), .val (.int n), .unset, .unset, .unset, .unset, .unset, .unset] [(.int (((p6.toUInt32 >>> ((6 : Int32) &&& 31).toUInt32).toInt32) &&& (1 : Int32)))])) t
        refine XS.ifYes X0.here hx rfl (pc0 := 16) (pc' := 21) rfl (hb hby at_16) rfl ((if0 _ _).trans (teq hj489).1) (by decide) (by decide) ?_
        exact ht
      exact ⟨p2, trivial, k490⟩
    · have k491 : Kt p e below m (s₁.setTop (entryFrame m #[(.long p1), (.long p2), (.long p3), (.long p4), (.long p5), (.int p6)] maxLocals)) s₁ 21 #[.val (.long p1), .second, .val (.long p1), .second, .val (.long p3), .second, .val (.long p4), .second, .val (.long p5), .second, .val (.int p6), .val (.int n), .unset, .unset, .unset, .unset, .unset, .unset] [] := by
        intro t ht
        refine k487 t ?_
        show Steps p.tables e below (s₁.setTop (mkF m 16 #[.val (.long p1), .second, .val (.long p2), .second, .val (.long p3), .second, .val (.long p4), .second, .val (.long p5), .second, .val (.int p6), .val (.int n), .unset, .unset, .unset, .unset, .unset, .unset] [(.int (((p6.toUInt32 >>> ((6 : Int32) &&& 31).toUInt32).toInt32) &&& (1 : Int32)))])) t
        refine XS.ifNo X0.here hx rfl (hb hby at_16) rfl ((if0 _ _).trans (feq hj489).1) ?_
        show Steps p.tables e below (s₁.setTop (mkF m 19 #[.val (.long p1), .second, .val (.long p2), .second, .val (.long p3), .second, .val (.long p4), .second, .val (.long p5), .second, .val (.int p6), .val (.int n), .unset, .unset, .unset, .unset, .unset, .unset] [])) t
        refine XS.lloadN X0.here hx rfl (hb hby at_19) rfl ?_
        show Steps p.tables e below (s₁.setTop (mkF m 20 #[.val (.long p1), .second, .val (.long p2), .second, .val (.long p3), .second, .val (.long p4), .second, .val (.long p5), .second, .val (.int p6), .val (.int n), .unset, .unset, .unset, .unset, .unset, .unset] [(.long p1)])) t
        refine XS.lstoreN X0.here hx rfl (hb hby at_20) rfl (l' := #[.val (.long p1), .second, .val (.long p1), .second, .val (.long p3), .second, .val (.long p4), .second, .val (.long p5), .second, .val (.int p6), .val (.int n), .unset, .unset, .unset, .unset, .unset, .unset]) rfl ?_
        exact ht
      exact ⟨p1, trivial, k491⟩
  have k492 : Kt p e below m (s₁.setTop (entryFrame m #[(.long p1), (.long p2), (.long p3), (.long p4), (.long p5), (.int p6)] maxLocals)) s₁ 28 #[.val (.long p1), .second, .val (.long b), .second, .val (.long p3), .second, .val (.long p4), .second, .val (.long p5), .second, .val (.int p6), .val (.int n), .unset, .unset, .unset, .unset, .unset, .unset] [(.int (((p6.toUInt32 >>> ((7 : Int32) &&& 31).toUInt32).toInt32) &&& (1 : Int32)))] := by
    intro t ht
    refine k488 t ?_
    show Steps p.tables e below (s₁.setTop (mkF m 21 #[.val (.long p1), .second, .val (.long b), .second, .val (.long p3), .second, .val (.long p4), .second, .val (.long p5), .second, .val (.int p6), .val (.int n), .unset, .unset, .unset, .unset, .unset, .unset] [])) t
    refine XS.iload X0.here hx rfl (hb hby at_21) rfl ?_
    show Steps p.tables e below (s₁.setTop (mkF m 23 #[.val (.long p1), .second, .val (.long b), .second, .val (.long p3), .second, .val (.long p4), .second, .val (.long p5), .second, .val (.int p6), .val (.int n), .unset, .unset, .unset, .unset, .unset, .unset] [(.int p6)])) t
    refine XS.bipush X0.here hx rfl (hb hby at_23) ?_
    show Steps p.tables e below (s₁.setTop (mkF m 25 #[.val (.long p1), .second, .val (.long b), .second, .val (.long p3), .second, .val (.long p4), .second, .val (.long p5), .second, .val (.int p6), .val (.int n), .unset, .unset, .unset, .unset, .unset, .unset] [(.int (7 : Int32)), (.int p6)])) t
    refine XS.iushr X0.here hx rfl (hb hby at_25) rfl ?_
    show Steps p.tables e below (s₁.setTop (mkF m 26 #[.val (.long p1), .second, .val (.long b), .second, .val (.long p3), .second, .val (.long p4), .second, .val (.long p5), .second, .val (.int p6), .val (.int n), .unset, .unset, .unset, .unset, .unset, .unset] [(.int ((p6.toUInt32 >>> ((7 : Int32) &&& 31).toUInt32).toInt32))])) t
    refine XS.iconst X0.here hx rfl (hb hby at_26) ?_
    show Steps p.tables e below (s₁.setTop (mkF m 27 #[.val (.long p1), .second, .val (.long b), .second, .val (.long p3), .second, .val (.long p4), .second, .val (.long p5), .second, .val (.int p6), .val (.int n), .unset, .unset, .unset, .unset, .unset, .unset] [(.int (1 : Int32)), (.int ((p6.toUInt32 >>> ((7 : Int32) &&& 31).toUInt32).toInt32))])) t
    refine XS.iand X0.here hx rfl (hb hby at_27) rfl ?_
    exact ht
  obtain ⟨d, hp493, k493⟩ : ∃ d : Int64, (True) ∧ Kt p e below m (s₁.setTop (entryFrame m #[(.long p1), (.long p2), (.long p3), (.long p4), (.long p5), (.int p6)] maxLocals)) s₁ 35 #[.val (.long p1), .second, .val (.long b), .second, .val (.long p3), .second, .val (.long d), .second, .val (.long p5), .second, .val (.int p6), .val (.int n), .unset, .unset, .unset, .unset, .unset, .unset] [] := by
    by_cases hj494 : (((p6.toUInt32 >>> ((7 : Int32) &&& 31).toUInt32).toInt32) &&& (1 : Int32)) = (0 : Int32)
    · have k495 : Kt p e below m (s₁.setTop (entryFrame m #[(.long p1), (.long p2), (.long p3), (.long p4), (.long p5), (.int p6)] maxLocals)) s₁ 35 #[.val (.long p1), .second, .val (.long b), .second, .val (.long p3), .second, .val (.long p4), .second, .val (.long p5), .second, .val (.int p6), .val (.int n), .unset, .unset, .unset, .unset, .unset, .unset] [] := by
        intro t ht
        refine k492 t ?_
        show Steps p.tables e below (s₁.setTop (mkF m 28 #[.val (.long p1), .second, .val (.long b), .second, .val (.long p3), .second, .val (.long p4), .second, .val (.long p5), .second, .val (.int p6), .val (.int n), .unset, .unset, .unset, .unset, .unset, .unset] [(.int (((p6.toUInt32 >>> ((7 : Int32) &&& 31).toUInt32).toInt32) &&& (1 : Int32)))])) t
        refine XS.ifYes X0.here hx rfl (pc0 := 28) (pc' := 35) rfl (hb hby at_28) rfl ((if0 _ _).trans (teq hj494).1) (by decide) (by decide) ?_
        exact ht
      exact ⟨p4, trivial, k495⟩
    · have k496 : Kt p e below m (s₁.setTop (entryFrame m #[(.long p1), (.long p2), (.long p3), (.long p4), (.long p5), (.int p6)] maxLocals)) s₁ 35 #[.val (.long p1), .second, .val (.long b), .second, .val (.long p3), .second, .val (.long p3), .second, .val (.long p5), .second, .val (.int p6), .val (.int n), .unset, .unset, .unset, .unset, .unset, .unset] [] := by
        intro t ht
        refine k492 t ?_
        show Steps p.tables e below (s₁.setTop (mkF m 28 #[.val (.long p1), .second, .val (.long b), .second, .val (.long p3), .second, .val (.long p4), .second, .val (.long p5), .second, .val (.int p6), .val (.int n), .unset, .unset, .unset, .unset, .unset, .unset] [(.int (((p6.toUInt32 >>> ((7 : Int32) &&& 31).toUInt32).toInt32) &&& (1 : Int32)))])) t
        refine XS.ifNo X0.here hx rfl (hb hby at_28) rfl ((if0 _ _).trans (feq hj494).1) ?_
        show Steps p.tables e below (s₁.setTop (mkF m 31 #[.val (.long p1), .second, .val (.long b), .second, .val (.long p3), .second, .val (.long p4), .second, .val (.long p5), .second, .val (.int p6), .val (.int n), .unset, .unset, .unset, .unset, .unset, .unset] [])) t
        refine XS.lload X0.here hx rfl (hb hby at_31) rfl ?_
        show Steps p.tables e below (s₁.setTop (mkF m 33 #[.val (.long p1), .second, .val (.long b), .second, .val (.long p3), .second, .val (.long p4), .second, .val (.long p5), .second, .val (.int p6), .val (.int n), .unset, .unset, .unset, .unset, .unset, .unset] [(.long p3)])) t
        refine XS.lstore X0.here hx rfl (hb hby at_33) rfl (l' := #[.val (.long p1), .second, .val (.long b), .second, .val (.long p3), .second, .val (.long p3), .second, .val (.long p5), .second, .val (.int p6), .val (.int n), .unset, .unset, .unset, .unset, .unset, .unset]) rfl ?_
        exact ht
      exact ⟨p3, trivial, k496⟩
  have k497 : Kt p e below m (s₁.setTop (entryFrame m #[(.long p1), (.long p2), (.long p3), (.long p4), (.long p5), (.int p6)] maxLocals)) s₁ 36 #[.val (.long p1), .second, .val (.long b), .second, .val (.long p3), .second, .val (.long d), .second, .val (.long p5), .second, .val (.int p6), .val (.int n), .unset, .unset, .unset, .unset, .unset, .unset] [(.int (4 : Int32))] := by
    intro t ht
    refine k493 t ?_
    show Steps p.tables e below (s₁.setTop (mkF m 35 #[.val (.long p1), .second, .val (.long b), .second, .val (.long p3), .second, .val (.long d), .second, .val (.long p5), .second, .val (.int p6), .val (.int n), .unset, .unset, .unset, .unset, .unset, .unset] [])) t
    refine XS.iconst X0.here hx rfl (hb hby at_35) ?_
    exact ht
  obtain ⟨T498, h498, ak498, X498, e498, E498, A498, st498⟩ := newP X0 hx hZ (hw _ (List.mem_of_getElem? (i := 0) rfl)) e0 (g := (mkF m 36 #[.val (.long p1), .second, .val (.long b), .second, .val (.long p3), .second, .val (.long d), .second, .val (.long p5), .second, .val (.int p6), .val (.int n), .unset, .unset, .unset, .unset, .unset, .unset] [(.int (4 : Int32))])) rfl (hb hby at_36) rfl (by decide) (cap := 4) (by decide) (by decide) (by decide) (by decide)
  obtain ⟨arr, q498⟩ : ∃ z, z = h0.size := ⟨_, rfl⟩
  have g_arr : n0 ≤ arr := by rw [q498]; exact Z0
  rw [← q498] at A498 st498
  have f499 : n0 ≤ h498.size := Nat.le_trans Z0 E498.1
  have f498 : Arv Z h498 arr ak498 .long (4 : Int32) [(.long (0 : Int64)), (.long (0 : Int64)), (.long (0 : Int64)), (.long (0 : Int64))] (.long (0 : Int64)) := (Arv.new A498 (by decide)).pad (pad_rep [] (.long (0 : Int64)) 4)
  have k498 : Kt p e below m (s₁.setTop (entryFrame m #[(.long p1), (.long p2), (.long p3), (.long p4), (.long p5), (.int p6)] maxLocals)) T498 38 #[.val (.long p1), .second, .val (.long b), .second, .val (.long p3), .second, .val (.long d), .second, .val (.long p5), .second, .val (.int p6), .val (.int n), .unset, .unset, .unset, .unset, .unset, .unset] [(.ref arr)] := fun t ht => k497 t (st498 t ht)
  have k500 : Kt p e below m (s₁.setTop (entryFrame m #[(.long p1), (.long p2), (.long p3), (.long p4), (.long p5), (.int p6)] maxLocals)) T498 41 #[.val (.long p1), .second, .val (.long b), .second, .val (.long p3), .second, .val (.long d), .second, .val (.long p5), .second, .val (.int p6), .val (.int n), .unset, .unset, .unset, .unset, .unset, .unset] [(.long p1), (.int (0 : Int32)), (.ref arr), (.ref arr)] := by
    intro t ht
    refine k498 t ?_
    show Steps p.tables e below (T498.setTop (mkF m 38 #[.val (.long p1), .second, .val (.long b), .second, .val (.long p3), .second, .val (.long d), .second, .val (.long p5), .second, .val (.int p6), .val (.int n), .unset, .unset, .unset, .unset, .unset, .unset] [(.ref arr)])) t
    refine XS.dup X498.here hx rfl (hb hby at_38) rfl rfl ?_
    show Steps p.tables e below (T498.setTop (mkF m 39 #[.val (.long p1), .second, .val (.long b), .second, .val (.long p3), .second, .val (.long d), .second, .val (.long p5), .second, .val (.int p6), .val (.int n), .unset, .unset, .unset, .unset, .unset, .unset] [(.ref arr), (.ref arr)])) t
    refine XS.iconst X498.here hx rfl (hb hby at_39) ?_
    show Steps p.tables e below (T498.setTop (mkF m 40 #[.val (.long p1), .second, .val (.long b), .second, .val (.long p3), .second, .val (.long d), .second, .val (.long p5), .second, .val (.int p6), .val (.int n), .unset, .unset, .unset, .unset, .unset, .unset] [(.int (0 : Int32)), (.ref arr), (.ref arr)])) t
    refine XS.lloadN X498.here hx rfl (hb hby at_40) rfl ?_
    exact ht
  obtain ⟨cl501, Ar501, qc501, Sz501, Nn501, Hh501, Gg501⟩ := id f498
  have hin501 : ¬ ((0 : Int32) < 0 ∨ cl501.slots.size ≤ ((0 : Int32)).toNatClampNeg) := inb_of Sz501 ⟨by decide, by decide⟩
  obtain ⟨T501, h501, X501, e501, W501, st501⟩ := stJ X498 hx hZ e498 Ar501 (j := (0 : Int32)) hin501 (g := (mkF m 41 #[.val (.long p1), .second, .val (.long b), .second, .val (.long p3), .second, .val (.long d), .second, .val (.long p5), .second, .val (.int p6), .val (.int n), .unset, .unset, .unset, .unset, .unset, .unset] [(.long p1), (.int (0 : Int32)), (.ref arr), (.ref arr)])) rfl rfl (hb hby at_41)
  have N501 := Fr.snoc X501 N0 g_arr
  have f502 : n0 ≤ h501.size := Nat.le_trans f499 (Keep.of_wr W501).1
  have f503 : Arv Z h501 arr ak498 .long (4 : Int32) [(.long p1), (.long (0 : Int64)), (.long (0 : Int64)), (.long (0 : Int64))] (.long (0 : Int64)) := Arv.set Ar501 qc501 Sz501 Nn501 Hh501 Gg501 rfl W501 0 rfl (Nat.le_of_ble_eq_true rfl)
  have k501 : Kt p e below m (s₁.setTop (entryFrame m #[(.long p1), (.long p2), (.long p3), (.long p4), (.long p5), (.int p6)] maxLocals)) T501 42 #[.val (.long p1), .second, .val (.long b), .second, .val (.long p3), .second, .val (.long d), .second, .val (.long p5), .second, .val (.int p6), .val (.int n), .unset, .unset, .unset, .unset, .unset, .unset] [(.ref arr)] := fun t ht => k500 t (st501 t ht)
  have k504 : Kt p e below m (s₁.setTop (entryFrame m #[(.long p1), (.long p2), (.long p3), (.long p4), (.long p5), (.int p6)] maxLocals)) T501 45 #[.val (.long p1), .second, .val (.long b), .second, .val (.long p3), .second, .val (.long d), .second, .val (.long p5), .second, .val (.int p6), .val (.int n), .unset, .unset, .unset, .unset, .unset, .unset] [(.long b), (.int (1 : Int32)), (.ref arr), (.ref arr)] := by
    intro t ht
    refine k501 t ?_
    show Steps p.tables e below (T501.setTop (mkF m 42 #[.val (.long p1), .second, .val (.long b), .second, .val (.long p3), .second, .val (.long d), .second, .val (.long p5), .second, .val (.int p6), .val (.int n), .unset, .unset, .unset, .unset, .unset, .unset] [(.ref arr)])) t
    refine XS.dup X501.here hx rfl (hb hby at_42) rfl rfl ?_
    show Steps p.tables e below (T501.setTop (mkF m 43 #[.val (.long p1), .second, .val (.long b), .second, .val (.long p3), .second, .val (.long d), .second, .val (.long p5), .second, .val (.int p6), .val (.int n), .unset, .unset, .unset, .unset, .unset, .unset] [(.ref arr), (.ref arr)])) t
    refine XS.iconst X501.here hx rfl (hb hby at_43) ?_
    show Steps p.tables e below (T501.setTop (mkF m 44 #[.val (.long p1), .second, .val (.long b), .second, .val (.long p3), .second, .val (.long d), .second, .val (.long p5), .second, .val (.int p6), .val (.int n), .unset, .unset, .unset, .unset, .unset, .unset] [(.int (1 : Int32)), (.ref arr), (.ref arr)])) t
    refine XS.lloadN X501.here hx rfl (hb hby at_44) rfl ?_
    exact ht
  obtain ⟨cl505, Ar505, qc505, Sz505, Nn505, Hh505, Gg505⟩ := id f503
  have hin505 : ¬ ((1 : Int32) < 0 ∨ cl505.slots.size ≤ ((1 : Int32)).toNatClampNeg) := inb_of Sz505 ⟨by decide, by decide⟩
  obtain ⟨T505, h505, X505, e505, W505, st505⟩ := stJ X501 hx hZ e501 Ar505 (j := (1 : Int32)) hin505 (g := (mkF m 45 #[.val (.long p1), .second, .val (.long b), .second, .val (.long p3), .second, .val (.long d), .second, .val (.long p5), .second, .val (.int p6), .val (.int n), .unset, .unset, .unset, .unset, .unset, .unset] [(.long b), (.int (1 : Int32)), (.ref arr), (.ref arr)])) rfl rfl (hb hby at_45)
  have N505 := Fr.snoc X505 N501 g_arr
  have f506 : n0 ≤ h505.size := Nat.le_trans f502 (Keep.of_wr W505).1
  have f507 : Arv Z h505 arr ak498 .long (4 : Int32) [(.long p1), (.long b), (.long (0 : Int64)), (.long (0 : Int64))] (.long (0 : Int64)) := Arv.set Ar505 qc505 Sz505 Nn505 Hh505 Gg505 rfl W505 1 rfl (Nat.le_of_ble_eq_true rfl)
  have k505 : Kt p e below m (s₁.setTop (entryFrame m #[(.long p1), (.long p2), (.long p3), (.long p4), (.long p5), (.int p6)] maxLocals)) T505 46 #[.val (.long p1), .second, .val (.long b), .second, .val (.long p3), .second, .val (.long d), .second, .val (.long p5), .second, .val (.int p6), .val (.int n), .unset, .unset, .unset, .unset, .unset, .unset] [(.ref arr)] := fun t ht => k504 t (st505 t ht)
  have k508 : Kt p e below m (s₁.setTop (entryFrame m #[(.long p1), (.long p2), (.long p3), (.long p4), (.long p5), (.int p6)] maxLocals)) T505 50 #[.val (.long p1), .second, .val (.long b), .second, .val (.long p3), .second, .val (.long d), .second, .val (.long p5), .second, .val (.int p6), .val (.int n), .unset, .unset, .unset, .unset, .unset, .unset] [(.long p3), (.int (2 : Int32)), (.ref arr), (.ref arr)] := by
    intro t ht
    refine k505 t ?_
    show Steps p.tables e below (T505.setTop (mkF m 46 #[.val (.long p1), .second, .val (.long b), .second, .val (.long p3), .second, .val (.long d), .second, .val (.long p5), .second, .val (.int p6), .val (.int n), .unset, .unset, .unset, .unset, .unset, .unset] [(.ref arr)])) t
    refine XS.dup X505.here hx rfl (hb hby at_46) rfl rfl ?_
    show Steps p.tables e below (T505.setTop (mkF m 47 #[.val (.long p1), .second, .val (.long b), .second, .val (.long p3), .second, .val (.long d), .second, .val (.long p5), .second, .val (.int p6), .val (.int n), .unset, .unset, .unset, .unset, .unset, .unset] [(.ref arr), (.ref arr)])) t
    refine XS.iconst X505.here hx rfl (hb hby at_47) ?_
    show Steps p.tables e below (T505.setTop (mkF m 48 #[.val (.long p1), .second, .val (.long b), .second, .val (.long p3), .second, .val (.long d), .second, .val (.long p5), .second, .val (.int p6), .val (.int n), .unset, .unset, .unset, .unset, .unset, .unset] [(.int (2 : Int32)), (.ref arr), (.ref arr)])) t
    refine XS.lload X505.here hx rfl (hb hby at_48) rfl ?_
    exact ht
  obtain ⟨cl509, Ar509, qc509, Sz509, Nn509, Hh509, Gg509⟩ := id f507
  have hin509 : ¬ ((2 : Int32) < 0 ∨ cl509.slots.size ≤ ((2 : Int32)).toNatClampNeg) := inb_of Sz509 ⟨by decide, by decide⟩
  obtain ⟨T509, h509, X509, e509, W509, st509⟩ := stJ X505 hx hZ e505 Ar509 (j := (2 : Int32)) hin509 (g := (mkF m 50 #[.val (.long p1), .second, .val (.long b), .second, .val (.long p3), .second, .val (.long d), .second, .val (.long p5), .second, .val (.int p6), .val (.int n), .unset, .unset, .unset, .unset, .unset, .unset] [(.long p3), (.int (2 : Int32)), (.ref arr), (.ref arr)])) rfl rfl (hb hby at_50)
  have N509 := Fr.snoc X509 N505 g_arr
  have f510 : n0 ≤ h509.size := Nat.le_trans f506 (Keep.of_wr W509).1
  have f511 : Arv Z h509 arr ak498 .long (4 : Int32) [(.long p1), (.long b), (.long p3), (.long (0 : Int64))] (.long (0 : Int64)) := Arv.set Ar509 qc509 Sz509 Nn509 Hh509 Gg509 rfl W509 2 rfl (Nat.le_of_ble_eq_true rfl)
  have k509 : Kt p e below m (s₁.setTop (entryFrame m #[(.long p1), (.long p2), (.long p3), (.long p4), (.long p5), (.int p6)] maxLocals)) T509 51 #[.val (.long p1), .second, .val (.long b), .second, .val (.long p3), .second, .val (.long d), .second, .val (.long p5), .second, .val (.int p6), .val (.int n), .unset, .unset, .unset, .unset, .unset, .unset] [(.ref arr)] := fun t ht => k508 t (st509 t ht)
  have k512 : Kt p e below m (s₁.setTop (entryFrame m #[(.long p1), (.long p2), (.long p3), (.long p4), (.long p5), (.int p6)] maxLocals)) T509 55 #[.val (.long p1), .second, .val (.long b), .second, .val (.long p3), .second, .val (.long d), .second, .val (.long p5), .second, .val (.int p6), .val (.int n), .unset, .unset, .unset, .unset, .unset, .unset] [(.long d), (.int (3 : Int32)), (.ref arr), (.ref arr)] := by
    intro t ht
    refine k509 t ?_
    show Steps p.tables e below (T509.setTop (mkF m 51 #[.val (.long p1), .second, .val (.long b), .second, .val (.long p3), .second, .val (.long d), .second, .val (.long p5), .second, .val (.int p6), .val (.int n), .unset, .unset, .unset, .unset, .unset, .unset] [(.ref arr)])) t
    refine XS.dup X509.here hx rfl (hb hby at_51) rfl rfl ?_
    show Steps p.tables e below (T509.setTop (mkF m 52 #[.val (.long p1), .second, .val (.long b), .second, .val (.long p3), .second, .val (.long d), .second, .val (.long p5), .second, .val (.int p6), .val (.int n), .unset, .unset, .unset, .unset, .unset, .unset] [(.ref arr), (.ref arr)])) t
    refine XS.iconst X509.here hx rfl (hb hby at_52) ?_
    show Steps p.tables e below (T509.setTop (mkF m 53 #[.val (.long p1), .second, .val (.long b), .second, .val (.long p3), .second, .val (.long d), .second, .val (.long p5), .second, .val (.int p6), .val (.int n), .unset, .unset, .unset, .unset, .unset, .unset] [(.int (3 : Int32)), (.ref arr), (.ref arr)])) t
    refine XS.lload X509.here hx rfl (hb hby at_53) rfl ?_
    exact ht
  obtain ⟨cl513, Ar513, qc513, Sz513, Nn513, Hh513, Gg513⟩ := id f511
  have hin513 : ¬ ((3 : Int32) < 0 ∨ cl513.slots.size ≤ ((3 : Int32)).toNatClampNeg) := inb_of Sz513 ⟨by decide, by decide⟩
  obtain ⟨T513, h513, X513, e513, W513, st513⟩ := stJ X509 hx hZ e509 Ar513 (j := (3 : Int32)) hin513 (g := (mkF m 55 #[.val (.long p1), .second, .val (.long b), .second, .val (.long p3), .second, .val (.long d), .second, .val (.long p5), .second, .val (.int p6), .val (.int n), .unset, .unset, .unset, .unset, .unset, .unset] [(.long d), (.int (3 : Int32)), (.ref arr), (.ref arr)])) rfl rfl (hb hby at_55)
  have N513 := Fr.snoc X513 N509 g_arr
  have f514 : n0 ≤ h513.size := Nat.le_trans f510 (Keep.of_wr W513).1
  have f515 : Arv Z h513 arr ak498 .long (4 : Int32) [(.long p1), (.long b), (.long p3), (.long d)] (.long (0 : Int64)) := Arv.set Ar513 qc513 Sz513 Nn513 Hh513 Gg513 rfl W513 3 rfl (Nat.le_of_ble_eq_true rfl)
  have k513 : Kt p e below m (s₁.setTop (entryFrame m #[(.long p1), (.long p2), (.long p3), (.long p4), (.long p5), (.int p6)] maxLocals)) T513 56 #[.val (.long p1), .second, .val (.long b), .second, .val (.long p3), .second, .val (.long d), .second, .val (.long p5), .second, .val (.int p6), .val (.int n), .unset, .unset, .unset, .unset, .unset, .unset] [(.ref arr)] := fun t ht => k512 t (st513 t ht)
  have k516 : Kt p e below m (s₁.setTop (entryFrame m #[(.long p1), (.long p2), (.long p3), (.long p4), (.long p5), (.int p6)] maxLocals)) T513 62 #[.val (.long p1), .second, .val (.long b), .second, .val (.long p3), .second, .val (.long d), .second, .val (.long p5), .second, .val (.int p6), .val (.int n), .val (.ref arr), .unset, .unset, .unset, .unset, .unset] [(.int (1 : Int32)), (.int (0 : Int32)), (.ref arr)] := by
    intro t ht
    refine k513 t ?_
    show Steps p.tables e below (T513.setTop (mkF m 56 #[.val (.long p1), .second, .val (.long b), .second, .val (.long p3), .second, .val (.long d), .second, .val (.long p5), .second, .val (.int p6), .val (.int n), .unset, .unset, .unset, .unset, .unset, .unset] [(.ref arr)])) t
    refine XS.astore X513.here hx rfl (hb hby at_56) rfl rfl (l' := #[.val (.long p1), .second, .val (.long b), .second, .val (.long p3), .second, .val (.long d), .second, .val (.long p5), .second, .val (.int p6), .val (.int n), .val (.ref arr), .unset, .unset, .unset, .unset, .unset]) rfl ?_
    show Steps p.tables e below (T513.setTop (mkF m 58 #[.val (.long p1), .second, .val (.long b), .second, .val (.long p3), .second, .val (.long d), .second, .val (.long p5), .second, .val (.int p6), .val (.int n), .val (.ref arr), .unset, .unset, .unset, .unset, .unset] [])) t
    refine XS.aload X513.here hx rfl (hb hby at_58) rfl rfl ?_
    show Steps p.tables e below (T513.setTop (mkF m 60 #[.val (.long p1), .second, .val (.long b), .second, .val (.long p3), .second, .val (.long d), .second, .val (.long p5), .second, .val (.int p6), .val (.int n), .val (.ref arr), .unset, .unset, .unset, .unset, .unset] [(.ref arr)])) t
    refine XS.iconst X513.here hx rfl (hb hby at_60) ?_
    show Steps p.tables e below (T513.setTop (mkF m 61 #[.val (.long p1), .second, .val (.long b), .second, .val (.long p3), .second, .val (.long d), .second, .val (.long p5), .second, .val (.int p6), .val (.int n), .val (.ref arr), .unset, .unset, .unset, .unset, .unset] [(.int (0 : Int32)), (.ref arr)])) t
    refine XS.iconst X513.here hx rfl (hb hby at_61) ?_
    exact ht
  obtain ⟨_, _, ⟨T517, L517, c517, n517⟩, -, X517, ⟨Lc517, hQ517, l517, y517, z517⟩, st517⟩ := Jvm.LawKit.callS X513 hx (y := (⟨"com/example/clearhour/clearhour/market/TimelineIndexFromPinLaw", "cs", "([JII)V"⟩ : MethodName)) hown (mvT hZ (hw _ (List.mem_of_getElem? (i := 1) rfl))) (mvT hZ (hw _ (List.mem_of_getElem? (i := 2) rfl))) (mvT hZ (hw _ (List.mem_of_getElem? (i := 3) rfl))) (mvT hZ (hw _ (List.mem_of_getElem? (i := 4) rfl))) (by decide) (backOf (W := 0) (rmcs01 l Z a0 hw [] arr ak498 p1 b p3 d h513 n0 f514 f515 g_arr) hZ (hw _ (List.mem_of_getElem? (i := 4) rfl)) (hw _ (List.mem_of_getElem? (i := 3) rfl)) (by decide) (by decide)) (g := (mkF m 62 #[.val (.long p1), .second, .val (.long b), .second, .val (.long p3), .second, .val (.long d), .second, .val (.long p5), .second, .val (.int p6), .val (.int n), .val (.ref arr), .unset, .unset, .unset, .unset, .unset] [(.int (1 : Int32)), (.int (0 : Int32)), (.ref arr)])) rfl (by rw [hml]; rfl) (argsL := [(.ref arr), (.int (0 : Int32)), (.int (1 : Int32))]) (rest := []) (lenOf pd_4 rfl) rfl (by show 2 * 0 + _ ≤ _; exact Nat.le_of_eq rfl) (hb hby at_62) (fun _ _ => ⟨rfl, e513, (by decide : 1 + 0 ≤ _), (by decide : 4 + 0 ≤ _)⟩)
  dsimp only [Pt.U, Pt.locs, Pt.cells, Pt.slots] at X517 l517 y517 z517 st517 hQ517
  subst l517 y517 z517
  obtain ⟨rfl, Nq517, Kp517, Vp517⟩ := hQ517
  have N517 := Fr.app N513 Nq517
  have k517 : Kt p e below m (s₁.setTop (entryFrame m #[(.long p1), (.long p2), (.long p3), (.long p4), (.long p5), (.int p6)] maxLocals)) T517 65 #[.val (.long p1), .second, .val (.long b), .second, .val (.long p3), .second, .val (.long d), .second, .val (.long p5), .second, .val (.int p6), .val (.int n), .val (.ref arr), .unset, .unset, .unset, .unset, .unset] [] := fun t ht => k516 t (st517 t ht)
  have f518 : n0 ≤ T517.heap.size := Nat.le_trans f514 Kp517.1
  obtain ⟨y517, hy517⟩ : ∃ z, z = own_lo p1 b := ⟨_, rfl⟩
  obtain ⟨y517', hy517'⟩ : ∃ z, z = own_hi p1 b := ⟨_, rfl⟩
  rw [← hy517, ← hy517'] at Vp517
  have k520 : Kt p e below m (s₁.setTop (entryFrame m #[(.long p1), (.long p2), (.long p3), (.long p4), (.long p5), (.int p6)] maxLocals)) T517 69 #[.val (.long p1), .second, .val (.long b), .second, .val (.long p3), .second, .val (.long d), .second, .val (.long p5), .second, .val (.int p6), .val (.int n), .val (.ref arr), .unset, .unset, .unset, .unset, .unset] [(.int (3 : Int32)), (.int (2 : Int32)), (.ref arr)] := by
    intro t ht
    refine k517 t ?_
    show Steps p.tables e below (T517.setTop (mkF m 65 #[.val (.long p1), .second, .val (.long b), .second, .val (.long p3), .second, .val (.long d), .second, .val (.long p5), .second, .val (.int p6), .val (.int n), .val (.ref arr), .unset, .unset, .unset, .unset, .unset] [])) t
    refine XS.aload X517.here hx rfl (hb hby at_65) rfl rfl ?_
    show Steps p.tables e below (T517.setTop (mkF m 67 #[.val (.long p1), .second, .val (.long b), .second, .val (.long p3), .second, .val (.long d), .second, .val (.long p5), .second, .val (.int p6), .val (.int n), .val (.ref arr), .unset, .unset, .unset, .unset, .unset] [(.ref arr)])) t
    refine XS.iconst X517.here hx rfl (hb hby at_67) ?_
    show Steps p.tables e below (T517.setTop (mkF m 68 #[.val (.long p1), .second, .val (.long b), .second, .val (.long p3), .second, .val (.long d), .second, .val (.long p5), .second, .val (.int p6), .val (.int n), .val (.ref arr), .unset, .unset, .unset, .unset, .unset] [(.int (2 : Int32)), (.ref arr)])) t
    refine XS.iconst X517.here hx rfl (hb hby at_68) ?_
    exact ht
  obtain ⟨_, _, ⟨T521, L521, c521, n521⟩, -, X521, ⟨Lc521, hQ521, l521, y521, z521⟩, st521⟩ := Jvm.LawKit.callS X517 hx (y := (⟨"com/example/clearhour/clearhour/market/TimelineIndexFromPinLaw", "cs", "([JII)V"⟩ : MethodName)) hown (mvT hZ (hw _ (List.mem_of_getElem? (i := 1) rfl))) (mvT hZ (hw _ (List.mem_of_getElem? (i := 2) rfl))) (mvT hZ (hw _ (List.mem_of_getElem? (i := 3) rfl))) (mvT hZ (hw _ (List.mem_of_getElem? (i := 4) rfl))) (by decide) (backOf (W := 0) (rmcs23 l Z a0 hw [] arr ak498 y517 y517' p3 d T517.heap n0 f518 Vp517 g_arr) hZ (hw _ (List.mem_of_getElem? (i := 4) rfl)) (hw _ (List.mem_of_getElem? (i := 3) rfl)) (by decide) (by decide)) (g := (mkF m 69 #[.val (.long p1), .second, .val (.long b), .second, .val (.long p3), .second, .val (.long d), .second, .val (.long p5), .second, .val (.int p6), .val (.int n), .val (.ref arr), .unset, .unset, .unset, .unset, .unset] [(.int (3 : Int32)), (.int (2 : Int32)), (.ref arr)])) rfl (by rw [hml]; rfl) (argsL := [(.ref arr), (.int (2 : Int32)), (.int (3 : Int32))]) (rest := []) (lenOf pd_4 rfl) rfl (by show 2 * 0 + _ ≤ _; exact Nat.le_of_eq rfl) (hb hby at_69) (fun _ _ => ⟨rfl, rfl, (by decide : 1 + 0 ≤ _), (by decide : 4 + 0 ≤ _)⟩)
  dsimp only [Pt.U, Pt.locs, Pt.cells, Pt.slots] at X521 l521 y521 z521 st521 hQ521
  subst l521 y521 z521
  obtain ⟨rfl, Nq521, Kp521, Vp521⟩ := hQ521
  have N521 := Fr.app N517 Nq521
  have k521 : Kt p e below m (s₁.setTop (entryFrame m #[(.long p1), (.long p2), (.long p3), (.long p4), (.long p5), (.int p6)] maxLocals)) T521 72 #[.val (.long p1), .second, .val (.long b), .second, .val (.long p3), .second, .val (.long d), .second, .val (.long p5), .second, .val (.int p6), .val (.int n), .val (.ref arr), .unset, .unset, .unset, .unset, .unset] [] := fun t ht => k520 t (st521 t ht)
  have f522 : n0 ≤ T521.heap.size := Nat.le_trans f518 Kp521.1
  obtain ⟨y521, hy521⟩ : ∃ z, z = own_lo p3 d := ⟨_, rfl⟩
  obtain ⟨y521', hy521'⟩ : ∃ z, z = own_hi p3 d := ⟨_, rfl⟩
  rw [← hy521, ← hy521'] at Vp521
  have k524 : Kt p e below m (s₁.setTop (entryFrame m #[(.long p1), (.long p2), (.long p3), (.long p4), (.long p5), (.int p6)] maxLocals)) T521 76 #[.val (.long p1), .second, .val (.long b), .second, .val (.long p3), .second, .val (.long d), .second, .val (.long p5), .second, .val (.int p6), .val (.int n), .val (.ref arr), .unset, .unset, .unset, .unset, .unset] [(.int (2 : Int32)), (.int (0 : Int32)), (.ref arr)] := by
    intro t ht
    refine k521 t ?_
    show Steps p.tables e below (T521.setTop (mkF m 72 #[.val (.long p1), .second, .val (.long b), .second, .val (.long p3), .second, .val (.long d), .second, .val (.long p5), .second, .val (.int p6), .val (.int n), .val (.ref arr), .unset, .unset, .unset, .unset, .unset] [])) t
    refine XS.aload X521.here hx rfl (hb hby at_72) rfl rfl ?_
    show Steps p.tables e below (T521.setTop (mkF m 74 #[.val (.long p1), .second, .val (.long b), .second, .val (.long p3), .second, .val (.long d), .second, .val (.long p5), .second, .val (.int p6), .val (.int n), .val (.ref arr), .unset, .unset, .unset, .unset, .unset] [(.ref arr)])) t
    refine XS.iconst X521.here hx rfl (hb hby at_74) ?_
    show Steps p.tables e below (T521.setTop (mkF m 75 #[.val (.long p1), .second, .val (.long b), .second, .val (.long p3), .second, .val (.long d), .second, .val (.long p5), .second, .val (.int p6), .val (.int n), .val (.ref arr), .unset, .unset, .unset, .unset, .unset] [(.int (0 : Int32)), (.ref arr)])) t
    refine XS.iconst X521.here hx rfl (hb hby at_75) ?_
    exact ht
  obtain ⟨_, _, ⟨T525, L525, c525, n525⟩, -, X525, ⟨Lc525, hQ525, l525, y525, z525⟩, st525⟩ := Jvm.LawKit.callS X521 hx (y := (⟨"com/example/clearhour/clearhour/market/TimelineIndexFromPinLaw", "cs", "([JII)V"⟩ : MethodName)) hown (mvT hZ (hw _ (List.mem_of_getElem? (i := 1) rfl))) (mvT hZ (hw _ (List.mem_of_getElem? (i := 2) rfl))) (mvT hZ (hw _ (List.mem_of_getElem? (i := 3) rfl))) (mvT hZ (hw _ (List.mem_of_getElem? (i := 4) rfl))) (by decide) (backOf (W := 0) (rmcs02 l Z a0 hw [] arr ak498 y517 y517' y521 y521' T521.heap n0 f522 Vp521 g_arr) hZ (hw _ (List.mem_of_getElem? (i := 4) rfl)) (hw _ (List.mem_of_getElem? (i := 3) rfl)) (by decide) (by decide)) (g := (mkF m 76 #[.val (.long p1), .second, .val (.long b), .second, .val (.long p3), .second, .val (.long d), .second, .val (.long p5), .second, .val (.int p6), .val (.int n), .val (.ref arr), .unset, .unset, .unset, .unset, .unset] [(.int (2 : Int32)), (.int (0 : Int32)), (.ref arr)])) rfl (by rw [hml]; rfl) (argsL := [(.ref arr), (.int (0 : Int32)), (.int (2 : Int32))]) (rest := []) (lenOf pd_4 rfl) rfl (by show 2 * 0 + _ ≤ _; exact Nat.le_of_eq rfl) (hb hby at_76) (fun _ _ => ⟨rfl, rfl, (by decide : 1 + 0 ≤ _), (by decide : 4 + 0 ≤ _)⟩)
  dsimp only [Pt.U, Pt.locs, Pt.cells, Pt.slots] at X525 l525 y525 z525 st525 hQ525
  subst l525 y525 z525
  obtain ⟨rfl, Nq525, Kp525, Vp525⟩ := hQ525
  have N525 := Fr.app N521 Nq525
  have k525 : Kt p e below m (s₁.setTop (entryFrame m #[(.long p1), (.long p2), (.long p3), (.long p4), (.long p5), (.int p6)] maxLocals)) T525 79 #[.val (.long p1), .second, .val (.long b), .second, .val (.long p3), .second, .val (.long d), .second, .val (.long p5), .second, .val (.int p6), .val (.int n), .val (.ref arr), .unset, .unset, .unset, .unset, .unset] [] := fun t ht => k524 t (st525 t ht)
  have f526 : n0 ≤ T525.heap.size := Nat.le_trans f522 Kp525.1
  obtain ⟨y525, hy525⟩ : ∃ z, z = own_lo y517 y521 := ⟨_, rfl⟩
  obtain ⟨y525', hy525'⟩ : ∃ z, z = own_hi y517 y521 := ⟨_, rfl⟩
  rw [← hy525, ← hy525'] at Vp525
  have k528 : Kt p e below m (s₁.setTop (entryFrame m #[(.long p1), (.long p2), (.long p3), (.long p4), (.long p5), (.int p6)] maxLocals)) T525 83 #[.val (.long p1), .second, .val (.long b), .second, .val (.long p3), .second, .val (.long d), .second, .val (.long p5), .second, .val (.int p6), .val (.int n), .val (.ref arr), .unset, .unset, .unset, .unset, .unset] [(.int (3 : Int32)), (.int (1 : Int32)), (.ref arr)] := by
    intro t ht
    refine k525 t ?_
    show Steps p.tables e below (T525.setTop (mkF m 79 #[.val (.long p1), .second, .val (.long b), .second, .val (.long p3), .second, .val (.long d), .second, .val (.long p5), .second, .val (.int p6), .val (.int n), .val (.ref arr), .unset, .unset, .unset, .unset, .unset] [])) t
    refine XS.aload X525.here hx rfl (hb hby at_79) rfl rfl ?_
    show Steps p.tables e below (T525.setTop (mkF m 81 #[.val (.long p1), .second, .val (.long b), .second, .val (.long p3), .second, .val (.long d), .second, .val (.long p5), .second, .val (.int p6), .val (.int n), .val (.ref arr), .unset, .unset, .unset, .unset, .unset] [(.ref arr)])) t
    refine XS.iconst X525.here hx rfl (hb hby at_81) ?_
    show Steps p.tables e below (T525.setTop (mkF m 82 #[.val (.long p1), .second, .val (.long b), .second, .val (.long p3), .second, .val (.long d), .second, .val (.long p5), .second, .val (.int p6), .val (.int n), .val (.ref arr), .unset, .unset, .unset, .unset, .unset] [(.int (1 : Int32)), (.ref arr)])) t
    refine XS.iconst X525.here hx rfl (hb hby at_82) ?_
    exact ht
  obtain ⟨_, _, ⟨T529, L529, c529, n529⟩, -, X529, ⟨Lc529, hQ529, l529, y529, z529⟩, st529⟩ := Jvm.LawKit.callS X525 hx (y := (⟨"com/example/clearhour/clearhour/market/TimelineIndexFromPinLaw", "cs", "([JII)V"⟩ : MethodName)) hown (mvT hZ (hw _ (List.mem_of_getElem? (i := 1) rfl))) (mvT hZ (hw _ (List.mem_of_getElem? (i := 2) rfl))) (mvT hZ (hw _ (List.mem_of_getElem? (i := 3) rfl))) (mvT hZ (hw _ (List.mem_of_getElem? (i := 4) rfl))) (by decide) (backOf (W := 0) (rmcs13 l Z a0 hw [] arr ak498 y525 y517' y525' y521' T525.heap n0 f526 Vp525 g_arr) hZ (hw _ (List.mem_of_getElem? (i := 4) rfl)) (hw _ (List.mem_of_getElem? (i := 3) rfl)) (by decide) (by decide)) (g := (mkF m 83 #[.val (.long p1), .second, .val (.long b), .second, .val (.long p3), .second, .val (.long d), .second, .val (.long p5), .second, .val (.int p6), .val (.int n), .val (.ref arr), .unset, .unset, .unset, .unset, .unset] [(.int (3 : Int32)), (.int (1 : Int32)), (.ref arr)])) rfl (by rw [hml]; rfl) (argsL := [(.ref arr), (.int (1 : Int32)), (.int (3 : Int32))]) (rest := []) (lenOf pd_4 rfl) rfl (by show 2 * 0 + _ ≤ _; exact Nat.le_of_eq rfl) (hb hby at_83) (fun _ _ => ⟨rfl, rfl, (by decide : 1 + 0 ≤ _), (by decide : 4 + 0 ≤ _)⟩)
  dsimp only [Pt.U, Pt.locs, Pt.cells, Pt.slots] at X529 l529 y529 z529 st529 hQ529
  subst l529 y529 z529
  obtain ⟨rfl, Nq529, Kp529, Vp529⟩ := hQ529
  have N529 := Fr.app N525 Nq529
  have k529 : Kt p e below m (s₁.setTop (entryFrame m #[(.long p1), (.long p2), (.long p3), (.long p4), (.long p5), (.int p6)] maxLocals)) T529 86 #[.val (.long p1), .second, .val (.long b), .second, .val (.long p3), .second, .val (.long d), .second, .val (.long p5), .second, .val (.int p6), .val (.int n), .val (.ref arr), .unset, .unset, .unset, .unset, .unset] [] := fun t ht => k528 t (st529 t ht)
  have f530 : n0 ≤ T529.heap.size := Nat.le_trans f526 Kp529.1
  obtain ⟨y529, hy529⟩ : ∃ z, z = own_lo y517' y521' := ⟨_, rfl⟩
  obtain ⟨y529', hy529'⟩ : ∃ z, z = own_hi y517' y521' := ⟨_, rfl⟩
  rw [← hy529, ← hy529'] at Vp529
  have k532 : Kt p e below m (s₁.setTop (entryFrame m #[(.long p1), (.long p2), (.long p3), (.long p4), (.long p5), (.int p6)] maxLocals)) T529 90 #[.val (.long p1), .second, .val (.long b), .second, .val (.long p3), .second, .val (.long d), .second, .val (.long p5), .second, .val (.int p6), .val (.int n), .val (.ref arr), .unset, .unset, .unset, .unset, .unset] [(.int (2 : Int32)), (.int (1 : Int32)), (.ref arr)] := by
    intro t ht
    refine k529 t ?_
    show Steps p.tables e below (T529.setTop (mkF m 86 #[.val (.long p1), .second, .val (.long b), .second, .val (.long p3), .second, .val (.long d), .second, .val (.long p5), .second, .val (.int p6), .val (.int n), .val (.ref arr), .unset, .unset, .unset, .unset, .unset] [])) t
    refine XS.aload X529.here hx rfl (hb hby at_86) rfl rfl ?_
    show Steps p.tables e below (T529.setTop (mkF m 88 #[.val (.long p1), .second, .val (.long b), .second, .val (.long p3), .second, .val (.long d), .second, .val (.long p5), .second, .val (.int p6), .val (.int n), .val (.ref arr), .unset, .unset, .unset, .unset, .unset] [(.ref arr)])) t
    refine XS.iconst X529.here hx rfl (hb hby at_88) ?_
    show Steps p.tables e below (T529.setTop (mkF m 89 #[.val (.long p1), .second, .val (.long b), .second, .val (.long p3), .second, .val (.long d), .second, .val (.long p5), .second, .val (.int p6), .val (.int n), .val (.ref arr), .unset, .unset, .unset, .unset, .unset] [(.int (1 : Int32)), (.ref arr)])) t
    refine XS.iconst X529.here hx rfl (hb hby at_89) ?_
    exact ht
  obtain ⟨_, _, ⟨T533, L533, c533, n533⟩, -, X533, ⟨Lc533, hQ533, l533, y533, z533⟩, st533⟩ := Jvm.LawKit.callS X529 hx (y := (⟨"com/example/clearhour/clearhour/market/TimelineIndexFromPinLaw", "cs", "([JII)V"⟩ : MethodName)) hown (mvT hZ (hw _ (List.mem_of_getElem? (i := 1) rfl))) (mvT hZ (hw _ (List.mem_of_getElem? (i := 2) rfl))) (mvT hZ (hw _ (List.mem_of_getElem? (i := 3) rfl))) (mvT hZ (hw _ (List.mem_of_getElem? (i := 4) rfl))) (by decide) (backOf (W := 0) (rmcs12 l Z a0 hw [] arr ak498 y525 y529 y525' y529' T529.heap n0 f530 Vp529 g_arr) hZ (hw _ (List.mem_of_getElem? (i := 4) rfl)) (hw _ (List.mem_of_getElem? (i := 3) rfl)) (by decide) (by decide)) (g := (mkF m 90 #[.val (.long p1), .second, .val (.long b), .second, .val (.long p3), .second, .val (.long d), .second, .val (.long p5), .second, .val (.int p6), .val (.int n), .val (.ref arr), .unset, .unset, .unset, .unset, .unset] [(.int (2 : Int32)), (.int (1 : Int32)), (.ref arr)])) rfl (by rw [hml]; rfl) (argsL := [(.ref arr), (.int (1 : Int32)), (.int (2 : Int32))]) (rest := []) (lenOf pd_4 rfl) rfl (by show 2 * 0 + _ ≤ _; exact Nat.le_of_eq rfl) (hb hby at_90) (fun _ _ => ⟨rfl, rfl, (by decide : 1 + 0 ≤ _), (by decide : 4 + 0 ≤ _)⟩)
  dsimp only [Pt.U, Pt.locs, Pt.cells, Pt.slots] at X533 l533 y533 z533 st533 hQ533
  subst l533 y533 z533
  obtain ⟨rfl, Nq533, Kp533, Vp533⟩ := hQ533
  have N533 := Fr.app N529 Nq533
  have k533 : Kt p e below m (s₁.setTop (entryFrame m #[(.long p1), (.long p2), (.long p3), (.long p4), (.long p5), (.int p6)] maxLocals)) T533 93 #[.val (.long p1), .second, .val (.long b), .second, .val (.long p3), .second, .val (.long d), .second, .val (.long p5), .second, .val (.int p6), .val (.int n), .val (.ref arr), .unset, .unset, .unset, .unset, .unset] [] := fun t ht => k532 t (st533 t ht)
  have f534 : n0 ≤ T533.heap.size := Nat.le_trans f530 Kp533.1
  obtain ⟨y533, hy533⟩ : ∃ z, z = own_lo y529 y525' := ⟨_, rfl⟩
  obtain ⟨y533', hy533'⟩ : ∃ z, z = own_hi y529 y525' := ⟨_, rfl⟩
  rw [← hy533, ← hy533'] at Vp533
  have hsort := own_net p1 b p3 d y517 y517' y521 y521' y525 y525' y529 y529' y533 y533' hy517 hy517' hy521 hy521' hy525 hy525' hy529 hy529' hy533 hy533'
  obtain ⟨o0, o1, o2⟩ := hsort
  have hmr := own_md ((p6.toUInt32 >>> ((3 : Int32) &&& 31).toUInt32).toInt32)
  have k536 : Kt p e below m (s₁.setTop (entryFrame m #[(.long p1), (.long p2), (.long p3), (.long p4), (.long p5), (.int p6)] maxLocals)) T533 100 #[.val (.long p1), .second, .val (.long b), .second, .val (.long p3), .second, .val (.long d), .second, .val (.long p5), .second, .val (.int p6), .val (.int n), .val (.ref arr), .unset, .unset, .unset, .unset, .unset] [(.int (((p6.toUInt32 >>> ((3 : Int32) &&& 31).toUInt32).toInt32) &&& (7 : Int32)))] := by
    intro t ht
    refine k533 t ?_
    show Steps p.tables e below (T533.setTop (mkF m 93 #[.val (.long p1), .second, .val (.long b), .second, .val (.long p3), .second, .val (.long d), .second, .val (.long p5), .second, .val (.int p6), .val (.int n), .val (.ref arr), .unset, .unset, .unset, .unset, .unset] [])) t
    refine XS.iload X533.here hx rfl (hb hby at_93) rfl ?_
    show Steps p.tables e below (T533.setTop (mkF m 95 #[.val (.long p1), .second, .val (.long b), .second, .val (.long p3), .second, .val (.long d), .second, .val (.long p5), .second, .val (.int p6), .val (.int n), .val (.ref arr), .unset, .unset, .unset, .unset, .unset] [(.int p6)])) t
    refine XS.iconst X533.here hx rfl (hb hby at_95) ?_
    show Steps p.tables e below (T533.setTop (mkF m 96 #[.val (.long p1), .second, .val (.long b), .second, .val (.long p3), .second, .val (.long d), .second, .val (.long p5), .second, .val (.int p6), .val (.int n), .val (.ref arr), .unset, .unset, .unset, .unset, .unset] [(.int (3 : Int32)), (.int p6)])) t
    refine XS.iushr X533.here hx rfl (hb hby at_96) rfl ?_
    show Steps p.tables e below (T533.setTop (mkF m 97 #[.val (.long p1), .second, .val (.long b), .second, .val (.long p3), .second, .val (.long d), .second, .val (.long p5), .second, .val (.int p6), .val (.int n), .val (.ref arr), .unset, .unset, .unset, .unset, .unset] [(.int ((p6.toUInt32 >>> ((3 : Int32) &&& 31).toUInt32).toInt32))])) t
    refine XS.bipush X533.here hx rfl (hb hby at_97) ?_
    show Steps p.tables e below (T533.setTop (mkF m 99 #[.val (.long p1), .second, .val (.long b), .second, .val (.long p3), .second, .val (.long d), .second, .val (.long p5), .second, .val (.int p6), .val (.int n), .val (.ref arr), .unset, .unset, .unset, .unset, .unset] [(.int (7 : Int32)), (.int ((p6.toUInt32 >>> ((3 : Int32) &&& 31).toUInt32).toInt32))])) t
    refine XS.iand X533.here hx rfl (hb hby at_99) rfl ?_
    exact ht
  obtain ⟨md, hmd, k537⟩ : ∃ md : Int32, md = (((p6.toUInt32 >>> ((3 : Int32) &&& 31).toUInt32).toInt32) &&& (7 : Int32)) ∧ Kt p e below m (s₁.setTop (entryFrame m #[(.long p1), (.long p2), (.long p3), (.long p4), (.long p5), (.int p6)] maxLocals)) T533 100 #[.val (.long p1), .second, .val (.long b), .second, .val (.long p3), .second, .val (.long d), .second, .val (.long p5), .second, .val (.int p6), .val (.int n), .val (.ref arr), .unset, .unset, .unset, .unset, .unset] [(.int md)] := ⟨_, rfl, k536⟩
  rw [← hmd] at hmr
  have k538 : Kt p e below m (s₁.setTop (entryFrame m #[(.long p1), (.long p2), (.long p3), (.long p4), (.long p5), (.int p6)] maxLocals)) T533 105 #[.val (.long p1), .second, .val (.long b), .second, .val (.long p3), .second, .val (.long d), .second, .val (.long p5), .second, .val (.int p6), .val (.int n), .val (.ref arr), .val (.int md), .unset, .unset, .unset, .unset] [(.int (4 : Int32)), (.int md)] := by
    intro t ht
    refine k537 t ?_
    show Steps p.tables e below (T533.setTop (mkF m 100 #[.val (.long p1), .second, .val (.long b), .second, .val (.long p3), .second, .val (.long d), .second, .val (.long p5), .second, .val (.int p6), .val (.int n), .val (.ref arr), .unset, .unset, .unset, .unset, .unset] [(.int md)])) t
    refine XS.istore X533.here hx rfl (hb hby at_100) rfl (l' := #[.val (.long p1), .second, .val (.long b), .second, .val (.long p3), .second, .val (.long d), .second, .val (.long p5), .second, .val (.int p6), .val (.int n), .val (.ref arr), .val (.int md), .unset, .unset, .unset, .unset]) rfl ?_
    show Steps p.tables e below (T533.setTop (mkF m 102 #[.val (.long p1), .second, .val (.long b), .second, .val (.long p3), .second, .val (.long d), .second, .val (.long p5), .second, .val (.int p6), .val (.int n), .val (.ref arr), .val (.int md), .unset, .unset, .unset, .unset] [])) t
    refine XS.iload X533.here hx rfl (hb hby at_102) rfl ?_
    show Steps p.tables e below (T533.setTop (mkF m 104 #[.val (.long p1), .second, .val (.long b), .second, .val (.long p3), .second, .val (.long d), .second, .val (.long p5), .second, .val (.int p6), .val (.int n), .val (.ref arr), .val (.int md), .unset, .unset, .unset, .unset] [(.int md)])) t
    refine XS.iconst X533.here hx rfl (hb hby at_104) ?_
    exact ht
  obtain ⟨q, hp539, k539⟩ : ∃ q : Int64, (True) ∧ Kt p e below m (s₁.setTop (entryFrame m #[(.long p1), (.long p2), (.long p3), (.long p4), (.long p5), (.int p6)] maxLocals)) T533 143 #[.val (.long p1), .second, .val (.long b), .second, .val (.long p3), .second, .val (.long d), .second, .val (.long p5), .second, .val (.int p6), .val (.int n), .val (.ref arr), .val (.int md), .val (.long q), .second, .unset, .unset] [] := by
    by_cases hj540 : md < (4 : Int32)
    · have k541 : Kt p e below m (s₁.setTop (entryFrame m #[(.long p1), (.long p2), (.long p3), (.long p4), (.long p5), (.int p6)] maxLocals)) T533 112 #[.val (.long p1), .second, .val (.long b), .second, .val (.long p3), .second, .val (.long d), .second, .val (.long p5), .second, .val (.int p6), .val (.int n), .val (.ref arr), .val (.int md), .unset, .unset, .unset, .unset] [(.int md), (.ref arr)] := by
        intro t ht
        refine k538 t ?_
        show Steps p.tables e below (T533.setTop (mkF m 105 #[.val (.long p1), .second, .val (.long b), .second, .val (.long p3), .second, .val (.long d), .second, .val (.long p5), .second, .val (.int p6), .val (.int n), .val (.ref arr), .val (.int md), .unset, .unset, .unset, .unset] [(.int (4 : Int32)), (.int md)])) t
        refine XS.icmpNo X533.here hx rfl (hb hby at_105) rfl (tlt hj540).2.1 ?_
        show Steps p.tables e below (T533.setTop (mkF m 108 #[.val (.long p1), .second, .val (.long b), .second, .val (.long p3), .second, .val (.long d), .second, .val (.long p5), .second, .val (.int p6), .val (.int n), .val (.ref arr), .val (.int md), .unset, .unset, .unset, .unset] [])) t
        refine XS.aload X533.here hx rfl (hb hby at_108) rfl rfl ?_
        show Steps p.tables e below (T533.setTop (mkF m 110 #[.val (.long p1), .second, .val (.long b), .second, .val (.long p3), .second, .val (.long d), .second, .val (.long p5), .second, .val (.int p6), .val (.int n), .val (.ref arr), .val (.int md), .unset, .unset, .unset, .unset] [(.ref arr)])) t
        refine XS.iload X533.here hx rfl (hb hby at_110) rfl ?_
        exact ht
      obtain ⟨yl542, hyl542⟩ := own_get4 (md).toNatClampNeg y525 y533 y533' y529' 0
      obtain ⟨cl543, Ar543, qc543, Sz543, Nn543, Hh543, Gg543⟩ := id Vp533
      have hin543 : ¬ (md < 0 ∨ cl543.slots.size ≤ (md).toNatClampNeg) := inb_of Sz543 (own_i1 hmr.1 hj540)
      have hat543 : cl543.slots[(md).toNatClampNeg]? = some (.long yl542) := Hh543.at hin543 hyl542
      have k544 : Kt p e below m (s₁.setTop (entryFrame m #[(.long p1), (.long p2), (.long p3), (.long p4), (.long p5), (.int p6)] maxLocals)) T533 143 #[.val (.long p1), .second, .val (.long b), .second, .val (.long p3), .second, .val (.long d), .second, .val (.long p5), .second, .val (.int p6), .val (.int n), .val (.ref arr), .val (.int md), .val (.long yl542), .second, .unset, .unset] [] := by
        intro t ht
        refine k541 t ?_
        show Steps p.tables e below (T533.setTop (mkF m 112 #[.val (.long p1), .second, .val (.long b), .second, .val (.long p3), .second, .val (.long d), .second, .val (.long p5), .second, .val (.int p6), .val (.int n), .val (.ref arr), .val (.int md), .unset, .unset, .unset, .unset] [(.int md), (.ref arr)])) t
        refine X533.laload hx (j := md) (v := (.long yl542)) Ar543.1 (State.isArrayOf_alike hZ.alike Ar543.2.1) Ar543.2.2 hin543 hat543 (g := (mkF m 112 #[.val (.long p1), .second, .val (.long b), .second, .val (.long p3), .second, .val (.long d), .second, .val (.long p5), .second, .val (.int p6), .val (.int n), .val (.ref arr), .val (.int md), .unset, .unset, .unset, .unset] [(.int md), (.ref arr)])) rfl rfl (hb hby at_112) _ ?_
        show Steps p.tables e below (T533.setTop (mkF m 113 #[.val (.long p1), .second, .val (.long b), .second, .val (.long p3), .second, .val (.long d), .second, .val (.long p5), .second, .val (.int p6), .val (.int n), .val (.ref arr), .val (.int md), .unset, .unset, .unset, .unset] [(.long yl542)])) t
        refine XS.lstore X533.here hx rfl (hb hby at_113) rfl (l' := #[.val (.long p1), .second, .val (.long b), .second, .val (.long p3), .second, .val (.long d), .second, .val (.long p5), .second, .val (.int p6), .val (.int n), .val (.ref arr), .val (.int md), .val (.long yl542), .second, .unset, .unset]) rfl ?_
        show Steps p.tables e below (T533.setTop (mkF m 115 #[.val (.long p1), .second, .val (.long b), .second, .val (.long p3), .second, .val (.long d), .second, .val (.long p5), .second, .val (.int p6), .val (.int n), .val (.ref arr), .val (.int md), .val (.long yl542), .second, .unset, .unset] [])) t
        refine XS.goto X533.here hx rfl (pc0 := 115) (pc' := 143) rfl (hb hby at_115) (by decide) (by decide) ?_
        exact ht
      exact ⟨yl542, trivial, k544⟩
    · have k545 : Kt p e below m (s₁.setTop (entryFrame m #[(.long p1), (.long p2), (.long p3), (.long p4), (.long p5), (.int p6)] maxLocals)) T533 122 #[.val (.long p1), .second, .val (.long b), .second, .val (.long p3), .second, .val (.long d), .second, .val (.long p5), .second, .val (.int p6), .val (.int n), .val (.ref arr), .val (.int md), .unset, .unset, .unset, .unset] [(.int (6 : Int32)), (.int md)] := by
        intro t ht
        refine k538 t ?_
        show Steps p.tables e below (T533.setTop (mkF m 105 #[.val (.long p1), .second, .val (.long b), .second, .val (.long p3), .second, .val (.long d), .second, .val (.long p5), .second, .val (.int p6), .val (.int n), .val (.ref arr), .val (.int md), .unset, .unset, .unset, .unset] [(.int (4 : Int32)), (.int md)])) t
        refine XS.icmpYes X533.here hx rfl (pc0 := 105) (pc' := 118) rfl (hb hby at_105) rfl (flt hj540).2.1 (by decide) (by decide) ?_
        show Steps p.tables e below (T533.setTop (mkF m 118 #[.val (.long p1), .second, .val (.long b), .second, .val (.long p3), .second, .val (.long d), .second, .val (.long p5), .second, .val (.int p6), .val (.int n), .val (.ref arr), .val (.int md), .unset, .unset, .unset, .unset] [])) t
        refine XS.iload X533.here hx rfl (hb hby at_118) rfl ?_
        show Steps p.tables e below (T533.setTop (mkF m 120 #[.val (.long p1), .second, .val (.long b), .second, .val (.long p3), .second, .val (.long d), .second, .val (.long p5), .second, .val (.int p6), .val (.int n), .val (.ref arr), .val (.int md), .unset, .unset, .unset, .unset] [(.int md)])) t
        refine XS.bipush X533.here hx rfl (hb hby at_120) ?_
        exact ht
      by_cases hj546 : md < (6 : Int32)
      · have k547 : Kt p e below m (s₁.setTop (entryFrame m #[(.long p1), (.long p2), (.long p3), (.long p4), (.long p5), (.int p6)] maxLocals)) T533 131 #[.val (.long p1), .second, .val (.long b), .second, .val (.long p3), .second, .val (.long d), .second, .val (.long p5), .second, .val (.int p6), .val (.int n), .val (.ref arr), .val (.int md), .unset, .unset, .unset, .unset] [(.int (md - (4 : Int32))), (.ref arr)] := by
          intro t ht
          refine k545 t ?_
          show Steps p.tables e below (T533.setTop (mkF m 122 #[.val (.long p1), .second, .val (.long b), .second, .val (.long p3), .second, .val (.long d), .second, .val (.long p5), .second, .val (.int p6), .val (.int n), .val (.ref arr), .val (.int md), .unset, .unset, .unset, .unset] [(.int (6 : Int32)), (.int md)])) t
          refine XS.icmpNo X533.here hx rfl (hb hby at_122) rfl (tlt hj546).2.1 ?_
          show Steps p.tables e below (T533.setTop (mkF m 125 #[.val (.long p1), .second, .val (.long b), .second, .val (.long p3), .second, .val (.long d), .second, .val (.long p5), .second, .val (.int p6), .val (.int n), .val (.ref arr), .val (.int md), .unset, .unset, .unset, .unset] [])) t
          refine XS.aload X533.here hx rfl (hb hby at_125) rfl rfl ?_
          show Steps p.tables e below (T533.setTop (mkF m 127 #[.val (.long p1), .second, .val (.long b), .second, .val (.long p3), .second, .val (.long d), .second, .val (.long p5), .second, .val (.int p6), .val (.int n), .val (.ref arr), .val (.int md), .unset, .unset, .unset, .unset] [(.ref arr)])) t
          refine XS.iload X533.here hx rfl (hb hby at_127) rfl ?_
          show Steps p.tables e below (T533.setTop (mkF m 129 #[.val (.long p1), .second, .val (.long b), .second, .val (.long p3), .second, .val (.long d), .second, .val (.long p5), .second, .val (.int p6), .val (.int n), .val (.ref arr), .val (.int md), .unset, .unset, .unset, .unset] [(.int md), (.ref arr)])) t
          refine XS.iconst X533.here hx rfl (hb hby at_129) ?_
          show Steps p.tables e below (T533.setTop (mkF m 130 #[.val (.long p1), .second, .val (.long b), .second, .val (.long p3), .second, .val (.long d), .second, .val (.long p5), .second, .val (.int p6), .val (.int n), .val (.ref arr), .val (.int md), .unset, .unset, .unset, .unset] [(.int (4 : Int32)), (.int md), (.ref arr)])) t
          refine XS.isub X533.here hx rfl (hb hby at_130) rfl ?_
          exact ht
        obtain ⟨yl548, hyl548⟩ := own_get4 ((md - (4 : Int32))).toNatClampNeg y525 y533 y533' y529' 0
        obtain ⟨cl549, Ar549, qc549, Sz549, Nn549, Hh549, Gg549⟩ := id Vp533
        have hin549 : ¬ ((md - (4 : Int32)) < 0 ∨ cl549.slots.size ≤ ((md - (4 : Int32))).toNatClampNeg) := inb_of Sz549 (own_i2 hj540 hj546)
        have hat549 : cl549.slots[((md - (4 : Int32))).toNatClampNeg]? = some (.long yl548) := Hh549.at hin549 hyl548
        have k550 : Kt p e below m (s₁.setTop (entryFrame m #[(.long p1), (.long p2), (.long p3), (.long p4), (.long p5), (.int p6)] maxLocals)) T533 143 #[.val (.long p1), .second, .val (.long b), .second, .val (.long p3), .second, .val (.long d), .second, .val (.long p5), .second, .val (.int p6), .val (.int n), .val (.ref arr), .val (.int md), .val (.long (yl548 + (1 : Int64))), .second, .unset, .unset] [] := by
          intro t ht
          refine k547 t ?_
          show Steps p.tables e below (T533.setTop (mkF m 131 #[.val (.long p1), .second, .val (.long b), .second, .val (.long p3), .second, .val (.long d), .second, .val (.long p5), .second, .val (.int p6), .val (.int n), .val (.ref arr), .val (.int md), .unset, .unset, .unset, .unset] [(.int (md - (4 : Int32))), (.ref arr)])) t
          refine X533.laload hx (j := (md - (4 : Int32))) (v := (.long yl548)) Ar549.1 (State.isArrayOf_alike hZ.alike Ar549.2.1) Ar549.2.2 hin549 hat549 (g := (mkF m 131 #[.val (.long p1), .second, .val (.long b), .second, .val (.long p3), .second, .val (.long d), .second, .val (.long p5), .second, .val (.int p6), .val (.int n), .val (.ref arr), .val (.int md), .unset, .unset, .unset, .unset] [(.int (md - (4 : Int32))), (.ref arr)])) rfl rfl (hb hby at_131) _ ?_
          show Steps p.tables e below (T533.setTop (mkF m 132 #[.val (.long p1), .second, .val (.long b), .second, .val (.long p3), .second, .val (.long d), .second, .val (.long p5), .second, .val (.int p6), .val (.int n), .val (.ref arr), .val (.int md), .unset, .unset, .unset, .unset] [(.long yl548)])) t
          refine XS.lconst X533.here hx rfl (hb hby at_132) ?_
          show Steps p.tables e below (T533.setTop (mkF m 133 #[.val (.long p1), .second, .val (.long b), .second, .val (.long p3), .second, .val (.long d), .second, .val (.long p5), .second, .val (.int p6), .val (.int n), .val (.ref arr), .val (.int md), .unset, .unset, .unset, .unset] [(.long (1 : Int64)), (.long yl548)])) t
          refine XS.ladd X533.here hx rfl (hb hby at_133) rfl ?_
          show Steps p.tables e below (T533.setTop (mkF m 134 #[.val (.long p1), .second, .val (.long b), .second, .val (.long p3), .second, .val (.long d), .second, .val (.long p5), .second, .val (.int p6), .val (.int n), .val (.ref arr), .val (.int md), .unset, .unset, .unset, .unset] [(.long (yl548 + (1 : Int64)))])) t
          refine XS.lstore X533.here hx rfl (hb hby at_134) rfl (l' := #[.val (.long p1), .second, .val (.long b), .second, .val (.long p3), .second, .val (.long d), .second, .val (.long p5), .second, .val (.int p6), .val (.int n), .val (.ref arr), .val (.int md), .val (.long (yl548 + (1 : Int64))), .second, .unset, .unset]) rfl ?_
          show Steps p.tables e below (T533.setTop (mkF m 136 #[.val (.long p1), .second, .val (.long b), .second, .val (.long p3), .second, .val (.long d), .second, .val (.long p5), .second, .val (.int p6), .val (.int n), .val (.ref arr), .val (.int md), .val (.long (yl548 + (1 : Int64))), .second, .unset, .unset] [])) t
          refine XS.goto X533.here hx rfl (pc0 := 136) (pc' := 143) rfl (hb hby at_136) (by decide) (by decide) ?_
          exact ht
        exact ⟨(yl548 + (1 : Int64)), trivial, k550⟩
      · have k551 : Kt p e below m (s₁.setTop (entryFrame m #[(.long p1), (.long p2), (.long p3), (.long p4), (.long p5), (.int p6)] maxLocals)) T533 143 #[.val (.long p1), .second, .val (.long b), .second, .val (.long p3), .second, .val (.long d), .second, .val (.long p5), .second, .val (.int p6), .val (.int n), .val (.ref arr), .val (.int md), .val (.long p5), .second, .unset, .unset] [] := by
          intro t ht
          refine k545 t ?_
          show Steps p.tables e below (T533.setTop (mkF m 122 #[.val (.long p1), .second, .val (.long b), .second, .val (.long p3), .second, .val (.long d), .second, .val (.long p5), .second, .val (.int p6), .val (.int n), .val (.ref arr), .val (.int md), .unset, .unset, .unset, .unset] [(.int (6 : Int32)), (.int md)])) t
          refine XS.icmpYes X533.here hx rfl (pc0 := 122) (pc' := 139) rfl (hb hby at_122) rfl (flt hj546).2.1 (by decide) (by decide) ?_
          show Steps p.tables e below (T533.setTop (mkF m 139 #[.val (.long p1), .second, .val (.long b), .second, .val (.long p3), .second, .val (.long d), .second, .val (.long p5), .second, .val (.int p6), .val (.int n), .val (.ref arr), .val (.int md), .unset, .unset, .unset, .unset] [])) t
          refine XS.lload X533.here hx rfl (hb hby at_139) rfl ?_
          show Steps p.tables e below (T533.setTop (mkF m 141 #[.val (.long p1), .second, .val (.long b), .second, .val (.long p3), .second, .val (.long d), .second, .val (.long p5), .second, .val (.int p6), .val (.int n), .val (.ref arr), .val (.int md), .unset, .unset, .unset, .unset] [(.long p5)])) t
          refine XS.lstore X533.here hx rfl (hb hby at_141) rfl (l' := #[.val (.long p1), .second, .val (.long b), .second, .val (.long p3), .second, .val (.long d), .second, .val (.long p5), .second, .val (.int p6), .val (.int n), .val (.ref arr), .val (.int md), .val (.long p5), .second, .unset, .unset]) rfl ?_
          exact ht
        exact ⟨p5, trivial, k551⟩
  obtain ⟨T552, h552, X552, e552, E552, A552, D552, -, st552⟩ := newO X533 hx hZ hown (hw _ (List.mem_of_getElem? (i := 5) rfl)) (hw _ (List.mem_of_getElem? (i := 6) rfl)) (hw _ (List.mem_of_getElem? (i := 7) rfl)) rfl (g := (mkF m 143 #[.val (.long p1), .second, .val (.long b), .second, .val (.long p3), .second, .val (.long d), .second, .val (.long p5), .second, .val (.int p6), .val (.int n), .val (.ref arr), .val (.int md), .val (.long q), .second, .unset, .unset] [])) rfl (hb hby at_143) (by decide) (by decide)
  obtain ⟨tl, q552⟩ : ∃ z, z = T533.heap.size := ⟨_, rfl⟩
  have ne_arr_tl : arr ≠ tl := by rw [q552]; exact Nat.ne_of_lt Vp533.lt
  have g_tl : n0 ≤ tl := by rw [q552]; exact f534
  rw [← q552] at A552 D552 st552
  have f553 : n0 ≤ h552.size := Nat.le_trans f534 E552.1
  have f554 : Arv Z h552 arr ak498 .long (4 : Int32) [(.long y525), (.long y533), (.long y533'), (.long y529')] (.long (0 : Int64)) := Vp533.ext E552
  have f552 : Exa Z h552 tl "com/example/clearhour/clearhour/market/Timeline" := A552
  have f555 : Fld Z h552 tl "com/example/clearhour/clearhour/market/Timeline" "times" "[J" .null := D552 (Or.inl (hw _ (List.mem_of_getElem? (i := 15) rfl))) (ty := (.array .long)) (by decide)
  have f556 : Fld Z h552 tl "com/example/clearhour/clearhour/market/Timeline" "values" "[Ljava/lang/Object;" .null := D552 (Or.inl (hw _ (List.mem_of_getElem? (i := 19) rfl))) (ty := (.array (.object "java/lang/Object"))) (by decide)
  have f557 : Fld Z h552 tl "com/example/clearhour/clearhour/market/Timeline" "sorted" "Z" (.int (0 : Int32)) := D552 (Or.inl (hw _ (List.mem_of_getElem? (i := 21) rfl))) (ty := .boolean) (by decide)
  have f558 : Fld Z h552 tl "com/example/clearhour/clearhour/market/Timeline" "size" "I" (.int (0 : Int32)) := D552 (Or.inl (hw _ (List.mem_of_getElem? (i := 28) rfl))) (ty := .int) (by decide)
  have k552 : Kt p e below m (s₁.setTop (entryFrame m #[(.long p1), (.long p2), (.long p3), (.long p4), (.long p5), (.int p6)] maxLocals)) T552 146 #[.val (.long p1), .second, .val (.long b), .second, .val (.long p3), .second, .val (.long d), .second, .val (.long p5), .second, .val (.int p6), .val (.int n), .val (.ref arr), .val (.int md), .val (.long q), .second, .unset, .unset] [(.ref tl)] := fun t ht => k539 t (st552 t ht)
  have k559 : Kt p e below m (s₁.setTop (entryFrame m #[(.long p1), (.long p2), (.long p3), (.long p4), (.long p5), (.int p6)] maxLocals)) T552 147 #[.val (.long p1), .second, .val (.long b), .second, .val (.long p3), .second, .val (.long d), .second, .val (.long p5), .second, .val (.int p6), .val (.int n), .val (.ref arr), .val (.int md), .val (.long q), .second, .unset, .unset] [(.ref tl), (.ref tl)] := by
    intro t ht
    refine k552 t ?_
    show Steps p.tables e below (T552.setTop (mkF m 146 #[.val (.long p1), .second, .val (.long b), .second, .val (.long p3), .second, .val (.long d), .second, .val (.long p5), .second, .val (.int p6), .val (.int n), .val (.ref arr), .val (.int md), .val (.long q), .second, .unset, .unset] [(.ref tl)])) t
    refine XS.dup X552.here hx rfl (hb hby at_146) rfl rfl ?_
    exact ht
  obtain ⟨_, _, ⟨T560, L560, c560, n560⟩, -, X560, ⟨Lc560, hQ560, l560, y560, z560⟩, st560⟩ := X552.specialBack hx (y := (⟨"com/example/clearhour/clearhour/market/Timeline", "<init>", "()V"⟩ : MethodName)) rfl hown (mvT hZ (hw _ (List.mem_of_getElem? (i := 8) rfl))) (mvT hZ (hw _ (List.mem_of_getElem? (i := 9) rfl))) (mvT hZ (hw _ (List.mem_of_getElem? (i := 10) rfl))) (by decide) (backOf (W := 1) (rm2 l Z a0 hw [] tl h552 n0 f553 f552 f555 f556 f558 f557 g_tl) hZ (hw _ (List.mem_of_getElem? (i := 10) rfl)) (hw _ (List.mem_of_getElem? (i := 7) rfl)) (by decide) (by decide)) (g := (mkF m 147 #[.val (.long p1), .second, .val (.long b), .second, .val (.long p3), .second, .val (.long d), .second, .val (.long p5), .second, .val (.int p6), .val (.int n), .val (.ref arr), .val (.int md), .val (.long q), .second, .unset, .unset] [(.ref tl), (.ref tl)])) rfl (by rw [hml]; rfl) (Steps.refl _) (a := tl) (argsL := []) (rest := [(.ref tl)]) (lenOf pd_0 rfl) rfl (by show 2 * 0 + _ ≤ _; exact Nat.le_of_eq rfl) (hb hby at_147) (fun _ _ => ⟨rfl, e552, (by decide : 2 + 2 ≤ _), (by decide : 8 + 32 ≤ _)⟩)
  dsimp only [Pt.U, Pt.locs, Pt.cells, Pt.slots] at X560 l560 y560 z560 st560 hQ560
  subst l560 y560 z560
  obtain ⟨rfl, Nq560, tb, vb, kt, kv, Kp, st, sv, ne_tb_vb, Ft, Fv, Fz, Vt, Vv⟩ := hQ560
  have N560 := Fr.app N533 Nq560
  have k560 : Kt p e below m (s₁.setTop (entryFrame m #[(.long p1), (.long p2), (.long p3), (.long p4), (.long p5), (.int p6)] maxLocals)) T560 150 #[.val (.long p1), .second, .val (.long b), .second, .val (.long p3), .second, .val (.long d), .second, .val (.long p5), .second, .val (.int p6), .val (.int n), .val (.ref arr), .val (.int md), .val (.long q), .second, .unset, .unset] [(.ref tl)] := fun t ht => k559 t (st560.trans ht)
  have ne_arr_tb : arr ≠ tb := Nat.ne_of_lt (Nat.lt_of_lt_of_le f554.lt st)
  have ne_arr_vb : arr ≠ vb := Nat.ne_of_lt (Nat.lt_of_lt_of_le f554.lt sv)
  have ne_tl_tb : tl ≠ tb := Nat.ne_of_lt (Nat.lt_of_lt_of_le f552.lt st)
  have ne_tl_vb : tl ≠ vb := Nat.ne_of_lt (Nat.lt_of_lt_of_le f552.lt sv)
  have g_tb : n0 ≤ tb := Nat.le_trans f553 st
  have g_vb : n0 ≤ vb := Nat.le_trans f553 sv
  have f561 : n0 ≤ T560.heap.size := Nat.le_trans f553 Kp.1
  have f562 : Arv Z T560.heap arr ak498 .long (4 : Int32) [(.long y525), (.long y533), (.long y533'), (.long y529')] (.long (0 : Int64)) := f554.keep Kp (ninS ne_arr_tl nin0)
  have f563 : Exa Z T560.heap tl "com/example/clearhour/clearhour/market/Timeline" := f552.keep Kp
  have k568 : Kt p e below m (s₁.setTop (entryFrame m #[(.long p1), (.long p2), (.long p3), (.long p4), (.long p5), (.int p6)] maxLocals)) T560 154 #[.val (.long p1), .second, .val (.long b), .second, .val (.long p3), .second, .val (.long d), .second, .val (.long p5), .second, .val (.int p6), .val (.int n), .val (.ref arr), .val (.int md), .val (.long q), .second, .val (.ref tl), .unset] [(.int n)] := by
    intro t ht
    refine k560 t ?_
    show Steps p.tables e below (T560.setTop (mkF m 150 #[.val (.long p1), .second, .val (.long b), .second, .val (.long p3), .second, .val (.long d), .second, .val (.long p5), .second, .val (.int p6), .val (.int n), .val (.ref arr), .val (.int md), .val (.long q), .second, .unset, .unset] [(.ref tl)])) t
    refine XS.astore X560.here hx rfl (hb hby at_150) rfl rfl (l' := #[.val (.long p1), .second, .val (.long b), .second, .val (.long p3), .second, .val (.long d), .second, .val (.long p5), .second, .val (.int p6), .val (.int n), .val (.ref arr), .val (.int md), .val (.long q), .second, .val (.ref tl), .unset]) rfl ?_
    show Steps p.tables e below (T560.setTop (mkF m 152 #[.val (.long p1), .second, .val (.long b), .second, .val (.long p3), .second, .val (.long d), .second, .val (.long p5), .second, .val (.int p6), .val (.int n), .val (.ref arr), .val (.int md), .val (.long q), .second, .val (.ref tl), .unset] [])) t
    refine XS.iload X560.here hx rfl (hb hby at_152) rfl ?_
    exact ht
  rcases hn5 with hN | hN | hN | hN | hN
  · rw [hN] at k568
    have k569 : Kt p e below m (s₁.setTop (entryFrame m #[(.long p1), (.long p2), (.long p3), (.long p4), (.long p5), (.int p6)] maxLocals)) T560 301 #[.val (.long p1), .second, .val (.long b), .second, .val (.long p3), .second, .val (.long d), .second, .val (.long p5), .second, .val (.int p6), .val (.int (0 : Int32)), .val (.ref arr), .val (.int md), .val (.long q), .second, .val (.ref tl), .val (.int (0 : Int32))] [(.long q), (.ref tl)] := by
      intro t ht
      refine k568 t ?_
      show Steps p.tables e below (T560.setTop (mkF m 154 #[.val (.long p1), .second, .val (.long b), .second, .val (.long p3), .second, .val (.long d), .second, .val (.long p5), .second, .val (.int p6), .val (.int (0 : Int32)), .val (.ref arr), .val (.int md), .val (.long q), .second, .val (.ref tl), .unset] [(.int (0 : Int32))])) t
      refine XS.ifYes X560.here hx rfl (pc0 := 154) (pc' := 167) rfl (hb hby at_154) rfl ((if0 _ _).trans (flt (by decide)).2.2.2) (by decide) (by decide) ?_
      show Steps p.tables e below (T560.setTop (mkF m 167 #[.val (.long p1), .second, .val (.long b), .second, .val (.long p3), .second, .val (.long d), .second, .val (.long p5), .second, .val (.int p6), .val (.int (0 : Int32)), .val (.ref arr), .val (.int md), .val (.long q), .second, .val (.ref tl), .unset] [])) t
      refine XS.iload X560.here hx rfl (hb hby at_167) rfl ?_
      show Steps p.tables e below (T560.setTop (mkF m 169 #[.val (.long p1), .second, .val (.long b), .second, .val (.long p3), .second, .val (.long d), .second, .val (.long p5), .second, .val (.int p6), .val (.int (0 : Int32)), .val (.ref arr), .val (.int md), .val (.long q), .second, .val (.ref tl), .unset] [(.int (0 : Int32))])) t
      refine XS.iconst X560.here hx rfl (hb hby at_169) ?_
      show Steps p.tables e below (T560.setTop (mkF m 170 #[.val (.long p1), .second, .val (.long b), .second, .val (.long p3), .second, .val (.long d), .second, .val (.long p5), .second, .val (.int p6), .val (.int (0 : Int32)), .val (.ref arr), .val (.int md), .val (.long q), .second, .val (.ref tl), .unset] [(.int (1 : Int32)), (.int (0 : Int32))])) t
      refine XS.icmpYes X560.here hx rfl (pc0 := 170) (pc' := 183) rfl (hb hby at_170) rfl (flt (by decide)).2.2.2 (by decide) (by decide) ?_
      show Steps p.tables e below (T560.setTop (mkF m 183 #[.val (.long p1), .second, .val (.long b), .second, .val (.long p3), .second, .val (.long d), .second, .val (.long p5), .second, .val (.int p6), .val (.int (0 : Int32)), .val (.ref arr), .val (.int md), .val (.long q), .second, .val (.ref tl), .unset] [])) t
      refine XS.iload X560.here hx rfl (hb hby at_183) rfl ?_
      show Steps p.tables e below (T560.setTop (mkF m 185 #[.val (.long p1), .second, .val (.long b), .second, .val (.long p3), .second, .val (.long d), .second, .val (.long p5), .second, .val (.int p6), .val (.int (0 : Int32)), .val (.ref arr), .val (.int md), .val (.long q), .second, .val (.ref tl), .unset] [(.int (0 : Int32))])) t
      refine XS.iconst X560.here hx rfl (hb hby at_185) ?_
      show Steps p.tables e below (T560.setTop (mkF m 186 #[.val (.long p1), .second, .val (.long b), .second, .val (.long p3), .second, .val (.long d), .second, .val (.long p5), .second, .val (.int p6), .val (.int (0 : Int32)), .val (.ref arr), .val (.int md), .val (.long q), .second, .val (.ref tl), .unset] [(.int (2 : Int32)), (.int (0 : Int32))])) t
      refine XS.icmpYes X560.here hx rfl (pc0 := 186) (pc' := 199) rfl (hb hby at_186) rfl (flt (by decide)).2.2.2 (by decide) (by decide) ?_
      show Steps p.tables e below (T560.setTop (mkF m 199 #[.val (.long p1), .second, .val (.long b), .second, .val (.long p3), .second, .val (.long d), .second, .val (.long p5), .second, .val (.int p6), .val (.int (0 : Int32)), .val (.ref arr), .val (.int md), .val (.long q), .second, .val (.ref tl), .unset] [])) t
      refine XS.iload X560.here hx rfl (hb hby at_199) rfl ?_
      show Steps p.tables e below (T560.setTop (mkF m 201 #[.val (.long p1), .second, .val (.long b), .second, .val (.long p3), .second, .val (.long d), .second, .val (.long p5), .second, .val (.int p6), .val (.int (0 : Int32)), .val (.ref arr), .val (.int md), .val (.long q), .second, .val (.ref tl), .unset] [(.int (0 : Int32))])) t
      refine XS.iconst X560.here hx rfl (hb hby at_201) ?_
      show Steps p.tables e below (T560.setTop (mkF m 202 #[.val (.long p1), .second, .val (.long b), .second, .val (.long p3), .second, .val (.long d), .second, .val (.long p5), .second, .val (.int p6), .val (.int (0 : Int32)), .val (.ref arr), .val (.int md), .val (.long q), .second, .val (.ref tl), .unset] [(.int (3 : Int32)), (.int (0 : Int32))])) t
      refine XS.icmpYes X560.here hx rfl (pc0 := 202) (pc' := 215) rfl (hb hby at_202) rfl (flt (by decide)).2.2.2 (by decide) (by decide) ?_
      show Steps p.tables e below (T560.setTop (mkF m 215 #[.val (.long p1), .second, .val (.long b), .second, .val (.long p3), .second, .val (.long d), .second, .val (.long p5), .second, .val (.int p6), .val (.int (0 : Int32)), .val (.ref arr), .val (.int md), .val (.long q), .second, .val (.ref tl), .unset] [])) t
      refine XS.iconst X560.here hx rfl (hb hby at_215) ?_
      show Steps p.tables e below (T560.setTop (mkF m 216 #[.val (.long p1), .second, .val (.long b), .second, .val (.long p3), .second, .val (.long d), .second, .val (.long p5), .second, .val (.int p6), .val (.int (0 : Int32)), .val (.ref arr), .val (.int md), .val (.long q), .second, .val (.ref tl), .unset] [(.int (0 : Int32))])) t
      refine XS.istore X560.here hx rfl (hb hby at_216) rfl (l' := #[.val (.long p1), .second, .val (.long b), .second, .val (.long p3), .second, .val (.long d), .second, .val (.long p5), .second, .val (.int p6), .val (.int (0 : Int32)), .val (.ref arr), .val (.int md), .val (.long q), .second, .val (.ref tl), .val (.int (0 : Int32))]) rfl ?_
      show Steps p.tables e below (T560.setTop (mkF m 218 #[.val (.long p1), .second, .val (.long b), .second, .val (.long p3), .second, .val (.long d), .second, .val (.long p5), .second, .val (.int p6), .val (.int (0 : Int32)), .val (.ref arr), .val (.int md), .val (.long q), .second, .val (.ref tl), .val (.int (0 : Int32))] [])) t
      refine XS.iload X560.here hx rfl (hb hby at_218) rfl ?_
      show Steps p.tables e below (T560.setTop (mkF m 220 #[.val (.long p1), .second, .val (.long b), .second, .val (.long p3), .second, .val (.long d), .second, .val (.long p5), .second, .val (.int p6), .val (.int (0 : Int32)), .val (.ref arr), .val (.int md), .val (.long q), .second, .val (.ref tl), .val (.int (0 : Int32))] [(.int (0 : Int32))])) t
      refine XS.ifYes X560.here hx rfl (pc0 := 220) (pc' := 237) rfl (hb hby at_220) rfl ((if0 _ _).trans (flt (by decide)).2.2.2) (by decide) (by decide) ?_
      show Steps p.tables e below (T560.setTop (mkF m 237 #[.val (.long p1), .second, .val (.long b), .second, .val (.long p3), .second, .val (.long d), .second, .val (.long p5), .second, .val (.int p6), .val (.int (0 : Int32)), .val (.ref arr), .val (.int md), .val (.long q), .second, .val (.ref tl), .val (.int (0 : Int32))] [])) t
      refine XS.iload X560.here hx rfl (hb hby at_237) rfl ?_
      show Steps p.tables e below (T560.setTop (mkF m 239 #[.val (.long p1), .second, .val (.long b), .second, .val (.long p3), .second, .val (.long d), .second, .val (.long p5), .second, .val (.int p6), .val (.int (0 : Int32)), .val (.ref arr), .val (.int md), .val (.long q), .second, .val (.ref tl), .val (.int (0 : Int32))] [(.int (0 : Int32))])) t
      refine XS.iconst X560.here hx rfl (hb hby at_239) ?_
      show Steps p.tables e below (T560.setTop (mkF m 240 #[.val (.long p1), .second, .val (.long b), .second, .val (.long p3), .second, .val (.long d), .second, .val (.long p5), .second, .val (.int p6), .val (.int (0 : Int32)), .val (.ref arr), .val (.int md), .val (.long q), .second, .val (.ref tl), .val (.int (0 : Int32))] [(.int (1 : Int32)), (.int (0 : Int32))])) t
      refine XS.icmpYes X560.here hx rfl (pc0 := 240) (pc' := 257) rfl (hb hby at_240) rfl (flt (by decide)).2.2.2 (by decide) (by decide) ?_
      show Steps p.tables e below (T560.setTop (mkF m 257 #[.val (.long p1), .second, .val (.long b), .second, .val (.long p3), .second, .val (.long d), .second, .val (.long p5), .second, .val (.int p6), .val (.int (0 : Int32)), .val (.ref arr), .val (.int md), .val (.long q), .second, .val (.ref tl), .val (.int (0 : Int32))] [])) t
      refine XS.iload X560.here hx rfl (hb hby at_257) rfl ?_
      show Steps p.tables e below (T560.setTop (mkF m 259 #[.val (.long p1), .second, .val (.long b), .second, .val (.long p3), .second, .val (.long d), .second, .val (.long p5), .second, .val (.int p6), .val (.int (0 : Int32)), .val (.ref arr), .val (.int md), .val (.long q), .second, .val (.ref tl), .val (.int (0 : Int32))] [(.int (0 : Int32))])) t
      refine XS.iconst X560.here hx rfl (hb hby at_259) ?_
      show Steps p.tables e below (T560.setTop (mkF m 260 #[.val (.long p1), .second, .val (.long b), .second, .val (.long p3), .second, .val (.long d), .second, .val (.long p5), .second, .val (.int p6), .val (.int (0 : Int32)), .val (.ref arr), .val (.int md), .val (.long q), .second, .val (.ref tl), .val (.int (0 : Int32))] [(.int (2 : Int32)), (.int (0 : Int32))])) t
      refine XS.icmpYes X560.here hx rfl (pc0 := 260) (pc' := 277) rfl (hb hby at_260) rfl (flt (by decide)).2.2.2 (by decide) (by decide) ?_
      show Steps p.tables e below (T560.setTop (mkF m 277 #[.val (.long p1), .second, .val (.long b), .second, .val (.long p3), .second, .val (.long d), .second, .val (.long p5), .second, .val (.int p6), .val (.int (0 : Int32)), .val (.ref arr), .val (.int md), .val (.long q), .second, .val (.ref tl), .val (.int (0 : Int32))] [])) t
      refine XS.iload X560.here hx rfl (hb hby at_277) rfl ?_
      show Steps p.tables e below (T560.setTop (mkF m 279 #[.val (.long p1), .second, .val (.long b), .second, .val (.long p3), .second, .val (.long d), .second, .val (.long p5), .second, .val (.int p6), .val (.int (0 : Int32)), .val (.ref arr), .val (.int md), .val (.long q), .second, .val (.ref tl), .val (.int (0 : Int32))] [(.int (0 : Int32))])) t
      refine XS.iconst X560.here hx rfl (hb hby at_279) ?_
      show Steps p.tables e below (T560.setTop (mkF m 280 #[.val (.long p1), .second, .val (.long b), .second, .val (.long p3), .second, .val (.long d), .second, .val (.long p5), .second, .val (.int p6), .val (.int (0 : Int32)), .val (.ref arr), .val (.int md), .val (.long q), .second, .val (.ref tl), .val (.int (0 : Int32))] [(.int (3 : Int32)), (.int (0 : Int32))])) t
      refine XS.icmpYes X560.here hx rfl (pc0 := 280) (pc' := 297) rfl (hb hby at_280) rfl (flt (by decide)).2.2.2 (by decide) (by decide) ?_
      show Steps p.tables e below (T560.setTop (mkF m 297 #[.val (.long p1), .second, .val (.long b), .second, .val (.long p3), .second, .val (.long d), .second, .val (.long p5), .second, .val (.int p6), .val (.int (0 : Int32)), .val (.ref arr), .val (.int md), .val (.long q), .second, .val (.ref tl), .val (.int (0 : Int32))] [])) t
      refine XS.aload X560.here hx rfl (hb hby at_297) rfl rfl ?_
      show Steps p.tables e below (T560.setTop (mkF m 299 #[.val (.long p1), .second, .val (.long b), .second, .val (.long p3), .second, .val (.long d), .second, .val (.long p5), .second, .val (.int p6), .val (.int (0 : Int32)), .val (.ref arr), .val (.int md), .val (.long q), .second, .val (.ref tl), .val (.int (0 : Int32))] [(.ref tl)])) t
      refine XS.lload X560.here hx rfl (hb hby at_299) rfl ?_
      exact ht
    obtain ⟨cq570, kq570, q570a, q570b, q570c⟩ := isOf hZ rfl f563
    obtain ⟨_, _, ⟨T570, L570, c570, n570⟩, -, X570, ⟨Lc570, hQ570, l570, y570, z570⟩, st570⟩ := X560.virtualBack hx (y := (⟨"com/example/clearhour/clearhour/market/Timeline", "indexFrom", "(J)I"⟩ : MethodName)) (z := (⟨"com/example/clearhour/clearhour/market/Timeline", "indexFrom", "(J)I"⟩ : MethodName)) hown (mvT hZ (hw _ (List.mem_of_getElem? (i := 32) rfl))) (mvT hZ (hw _ (List.mem_of_getElem? (i := 33) rfl))) (notFace_of_selects (args := #[]) (mvT hZ (hw _ (List.mem_of_getElem? (i := 35) rfl)))) (mvT hZ (hw _ (List.mem_of_getElem? (i := 35) rfl))) (mvT hZ (hw _ (List.mem_of_getElem? (i := 34) rfl))) (by decide) (backOf (W := 0) (rmix0 l Z a0 hw [] tl q tb kt (0 : Int64) (0 : Int64) (0 : Int64) (0 : Int64) T560.heap n0 f561 Ft Fz Vt ) hZ (hw _ (List.mem_of_getElem? (i := 36) rfl)) (hw _ (List.mem_of_getElem? (i := 7) rfl)) (by decide) (by decide)) q570a q570c (g := (mkF m 301 #[.val (.long p1), .second, .val (.long b), .second, .val (.long p3), .second, .val (.long d), .second, .val (.long p5), .second, .val (.int p6), .val (.int (0 : Int32)), .val (.ref arr), .val (.int md), .val (.long q), .second, .val (.ref tl), .val (.int (0 : Int32))] [(.long q), (.ref tl)])) rfl (by rw [hml]; rfl) (Steps.refl _) (argsL := [(.long q)]) (rest := []) (lenOf pd_1 rfl) rfl (by show 2 * 0 + _ ≤ _; exact Nat.le_of_eq rfl) (hb hby at_301) (fun _ _ => ⟨rfl, rfl, (by decide : 4 + 0 ≤ _), (by decide : 40 + 0 ≤ _)⟩)
    dsimp only [Pt.U, Pt.locs, Pt.cells, Pt.slots] at X570 l570 y570 z570 st570 hQ570
    subst l570 y570 z570
    obtain ⟨rfl, Nq570, eqz⟩ := hQ570
    have N570 := Fr.app N560 Nq570
    have k570 : Kt p e below m (s₁.setTop (entryFrame m #[(.long p1), (.long p2), (.long p3), (.long p4), (.long p5), (.int p6)] maxLocals)) T570 304 #[.val (.long p1), .second, .val (.long b), .second, .val (.long p3), .second, .val (.long d), .second, .val (.long p5), .second, .val (.int p6), .val (.int (0 : Int32)), .val (.ref arr), .val (.int md), .val (.long q), .second, .val (.ref tl), .val (.int (0 : Int32))] [(.int (0 : Int32))] := fun t ht => k569 t (st570.trans ht)
    have k571 : Kt p e below m (s₁.setTop (entryFrame m #[(.long p1), (.long p2), (.long p3), (.long p4), (.long p5), (.int p6)] maxLocals)) T570 314 #[.val (.long p1), .second, .val (.long b), .second, .val (.long p3), .second, .val (.long d), .second, .val (.long p5), .second, .val (.int p6), .val (.int (0 : Int32)), .val (.ref arr), .val (.int md), .val (.long q), .second, .val (.ref tl), .val (.int (0 : Int32))] [(.int (1 : Int32))] := by
      intro t ht
      refine k570 t ?_
      show Steps p.tables e below (T570.setTop (mkF m 304 #[.val (.long p1), .second, .val (.long b), .second, .val (.long p3), .second, .val (.long d), .second, .val (.long p5), .second, .val (.int p6), .val (.int (0 : Int32)), .val (.ref arr), .val (.int md), .val (.long q), .second, .val (.ref tl), .val (.int (0 : Int32))] [(.int (0 : Int32))])) t
      refine XS.iload X570.here hx rfl (hb hby at_304) rfl ?_
      show Steps p.tables e below (T570.setTop (mkF m 306 #[.val (.long p1), .second, .val (.long b), .second, .val (.long p3), .second, .val (.long d), .second, .val (.long p5), .second, .val (.int p6), .val (.int (0 : Int32)), .val (.ref arr), .val (.int md), .val (.long q), .second, .val (.ref tl), .val (.int (0 : Int32))] [(.int (0 : Int32)), (.int (0 : Int32))])) t
      refine XS.icmpNo X570.here hx rfl (hb hby at_306) rfl (teq rfl).2 ?_
      show Steps p.tables e below (T570.setTop (mkF m 309 #[.val (.long p1), .second, .val (.long b), .second, .val (.long p3), .second, .val (.long d), .second, .val (.long p5), .second, .val (.int p6), .val (.int (0 : Int32)), .val (.ref arr), .val (.int md), .val (.long q), .second, .val (.ref tl), .val (.int (0 : Int32))] [])) t
      refine XS.iconst X570.here hx rfl (hb hby at_309) ?_
      show Steps p.tables e below (T570.setTop (mkF m 310 #[.val (.long p1), .second, .val (.long b), .second, .val (.long p3), .second, .val (.long d), .second, .val (.long p5), .second, .val (.int p6), .val (.int (0 : Int32)), .val (.ref arr), .val (.int md), .val (.long q), .second, .val (.ref tl), .val (.int (0 : Int32))] [(.int (1 : Int32))])) t
      refine XS.goto X570.here hx rfl (pc0 := 310) (pc' := 314) rfl (hb hby at_310) (by decide) (by decide) ?_
      exact ht
    obtain ⟨fs, hr, hrun, hended, hW, hsame⟩ := X570.leave (v := some (.int (1 : Int32))) (fun h => by rw [Bd.returns] at h; cases h)
    refine ⟨_, _, k571 _ ?_, hrun, hended, _, _, rfl, ?_, ⟨_, rfl⟩, hW, hsame.mono (by decide) (by decide)⟩
    · exact retN X570 hx (t := .boolean) Bd.returns (by simp) (hb hby at_314) hr
    · show Q0 Z p1 p2 p3 p4 p5 p6 h0 n0 _ T570.heap _
      exact ⟨rfl, N570⟩
  · rw [hN] at k568
    have k572 : Kt p e below m (s₁.setTop (entryFrame m #[(.long p1), (.long p2), (.long p3), (.long p4), (.long p5), (.int p6)] maxLocals)) T560 162 #[.val (.long p1), .second, .val (.long b), .second, .val (.long p3), .second, .val (.long d), .second, .val (.long p5), .second, .val (.int p6), .val (.int (1 : Int32)), .val (.ref arr), .val (.int md), .val (.long q), .second, .val (.ref tl), .unset] [(.int (0 : Int32)), (.ref arr), (.ref tl)] := by
      intro t ht
      refine k568 t ?_
      show Steps p.tables e below (T560.setTop (mkF m 154 #[.val (.long p1), .second, .val (.long b), .second, .val (.long p3), .second, .val (.long d), .second, .val (.long p5), .second, .val (.int p6), .val (.int (1 : Int32)), .val (.ref arr), .val (.int md), .val (.long q), .second, .val (.ref tl), .unset] [(.int (1 : Int32))])) t
      refine XS.ifNo X560.here hx rfl (hb hby at_154) rfl ((if0 _ _).trans (tlt (by decide)).2.2.2) ?_
      show Steps p.tables e below (T560.setTop (mkF m 157 #[.val (.long p1), .second, .val (.long b), .second, .val (.long p3), .second, .val (.long d), .second, .val (.long p5), .second, .val (.int p6), .val (.int (1 : Int32)), .val (.ref arr), .val (.int md), .val (.long q), .second, .val (.ref tl), .unset] [])) t
      refine XS.aload X560.here hx rfl (hb hby at_157) rfl rfl ?_
      show Steps p.tables e below (T560.setTop (mkF m 159 #[.val (.long p1), .second, .val (.long b), .second, .val (.long p3), .second, .val (.long d), .second, .val (.long p5), .second, .val (.int p6), .val (.int (1 : Int32)), .val (.ref arr), .val (.int md), .val (.long q), .second, .val (.ref tl), .unset] [(.ref tl)])) t
      refine XS.aload X560.here hx rfl (hb hby at_159) rfl rfl ?_
      show Steps p.tables e below (T560.setTop (mkF m 161 #[.val (.long p1), .second, .val (.long b), .second, .val (.long p3), .second, .val (.long d), .second, .val (.long p5), .second, .val (.int p6), .val (.int (1 : Int32)), .val (.ref arr), .val (.int md), .val (.long q), .second, .val (.ref tl), .unset] [(.ref arr), (.ref tl)])) t
      refine XS.iconst X560.here hx rfl (hb hby at_161) ?_
      exact ht
    obtain ⟨cl573, Ar573, qc573, Sz573, Nn573, Hh573, Gg573⟩ := id f562
    have hin573 : ¬ ((0 : Int32) < 0 ∨ cl573.slots.size ≤ ((0 : Int32)).toNatClampNeg) := inb_of Sz573 ⟨by decide, by decide⟩
    have hat573 : cl573.slots[((0 : Int32)).toNatClampNeg]? = some (.long y525) := Hh573.at hin573 rfl
    have k574 : Kt p e below m (s₁.setTop (entryFrame m #[(.long p1), (.long p2), (.long p3), (.long p4), (.long p5), (.int p6)] maxLocals)) T560 164 #[.val (.long p1), .second, .val (.long b), .second, .val (.long p3), .second, .val (.long d), .second, .val (.long p5), .second, .val (.int p6), .val (.int (1 : Int32)), .val (.ref arr), .val (.int md), .val (.long q), .second, .val (.ref tl), .unset] [.null, (.long y525), (.ref tl)] := by
      intro t ht
      refine k572 t ?_
      show Steps p.tables e below (T560.setTop (mkF m 162 #[.val (.long p1), .second, .val (.long b), .second, .val (.long p3), .second, .val (.long d), .second, .val (.long p5), .second, .val (.int p6), .val (.int (1 : Int32)), .val (.ref arr), .val (.int md), .val (.long q), .second, .val (.ref tl), .unset] [(.int (0 : Int32)), (.ref arr), (.ref tl)])) t
      refine X560.laload hx (j := (0 : Int32)) (v := (.long y525)) Ar573.1 (State.isArrayOf_alike hZ.alike Ar573.2.1) Ar573.2.2 hin573 hat573 (g := (mkF m 162 #[.val (.long p1), .second, .val (.long b), .second, .val (.long p3), .second, .val (.long d), .second, .val (.long p5), .second, .val (.int p6), .val (.int (1 : Int32)), .val (.ref arr), .val (.int md), .val (.long q), .second, .val (.ref tl), .unset] [(.int (0 : Int32)), (.ref arr), (.ref tl)])) rfl rfl (hb hby at_162) _ ?_
      show Steps p.tables e below (T560.setTop (mkF m 163 #[.val (.long p1), .second, .val (.long b), .second, .val (.long p3), .second, .val (.long d), .second, .val (.long p5), .second, .val (.int p6), .val (.int (1 : Int32)), .val (.ref arr), .val (.int md), .val (.long q), .second, .val (.ref tl), .unset] [(.long y525), (.ref tl)])) t
      refine XS.aconstNull X560.here hx rfl (hb hby at_163) ?_
      exact ht
    obtain ⟨cq575, kq575, q575a, q575b, q575c⟩ := isOf hZ rfl f563
    obtain ⟨_, _, ⟨T575, L575, c575, n575⟩, -, X575, ⟨Lc575, hQ575, l575, y575, z575⟩, st575⟩ := X560.virtualBack hx (y := (⟨"com/example/clearhour/clearhour/market/Timeline", "add", "(JLjava/lang/Object;)V"⟩ : MethodName)) (z := (⟨"com/example/clearhour/clearhour/market/Timeline", "add", "(JLjava/lang/Object;)V"⟩ : MethodName)) hown (mvT hZ (hw _ (List.mem_of_getElem? (i := 22) rfl))) (mvT hZ (hw _ (List.mem_of_getElem? (i := 23) rfl))) (notFace_of_selects (args := #[]) (mvT hZ (hw _ (List.mem_of_getElem? (i := 25) rfl)))) (mvT hZ (hw _ (List.mem_of_getElem? (i := 25) rfl))) (mvT hZ (hw _ (List.mem_of_getElem? (i := 24) rfl))) (by decide) (backOf (W := 0) (rmad0 l Z a0 hw [] tl y525 tb vb kt kv (0 : Int64) (0 : Int64) (0 : Int64) (0 : Int64) T560.heap n0 f561 f563 Ft Fv Fz Vt Vv ne_tl_tb ne_tl_vb ne_tb_vb g_tl g_tb g_vb) hZ (hw _ (List.mem_of_getElem? (i := 26) rfl)) (hw _ (List.mem_of_getElem? (i := 7) rfl)) (by decide) (by decide)) q575a q575c (g := (mkF m 164 #[.val (.long p1), .second, .val (.long b), .second, .val (.long p3), .second, .val (.long d), .second, .val (.long p5), .second, .val (.int p6), .val (.int (1 : Int32)), .val (.ref arr), .val (.int md), .val (.long q), .second, .val (.ref tl), .unset] [.null, (.long y525), (.ref tl)])) rfl (by rw [hml]; rfl) (Steps.refl _) (argsL := [(.long y525), .null]) (rest := []) (lenOf pd_3 rfl) rfl (by show 2 * 0 + _ ≤ _; exact Nat.le_of_eq rfl) (hb hby at_164) (fun _ _ => ⟨rfl, rfl, (by decide : 4 + 0 ≤ _), (by decide : 40 + 0 ≤ _)⟩)
    dsimp only [Pt.U, Pt.locs, Pt.cells, Pt.slots] at X575 l575 y575 z575 st575 hQ575
    subst l575 y575 z575
    obtain ⟨rfl, Nq575, Kp575, Fa575, Fb575, Fc575, Va575, Vb575⟩ := hQ575
    have N575 := Fr.app N560 Nq575
    have k575 : Kt p e below m (s₁.setTop (entryFrame m #[(.long p1), (.long p2), (.long p3), (.long p4), (.long p5), (.int p6)] maxLocals)) T575 167 #[.val (.long p1), .second, .val (.long b), .second, .val (.long p3), .second, .val (.long d), .second, .val (.long p5), .second, .val (.int p6), .val (.int (1 : Int32)), .val (.ref arr), .val (.int md), .val (.long q), .second, .val (.ref tl), .unset] [] := fun t ht => k574 t (st575.trans ht)
    have f576 : n0 ≤ T575.heap.size := Nat.le_trans f561 Kp575.1
    have f577 : Arv Z T575.heap arr ak498 .long (4 : Int32) [(.long y525), (.long y533), (.long y533'), (.long y529')] (.long (0 : Int64)) := f562.keep Kp575 (ninS ne_arr_tl (ninS ne_arr_tb (ninS ne_arr_vb nin0)))
    have f578 : Exa Z T575.heap tl "com/example/clearhour/clearhour/market/Timeline" := f563.keep Kp575
    have k584 : Kt p e below m (s₁.setTop (entryFrame m #[(.long p1), (.long p2), (.long p3), (.long p4), (.long p5), (.int p6)] maxLocals)) T575 228 #[.val (.long p1), .second, .val (.long b), .second, .val (.long p3), .second, .val (.long d), .second, .val (.long p5), .second, .val (.int p6), .val (.int (1 : Int32)), .val (.ref arr), .val (.int md), .val (.long q), .second, .val (.ref tl), .val (.int (0 : Int32))] [(.int (0 : Int32)), (.ref arr), (.int (0 : Int32))] := by
      intro t ht
      refine k575 t ?_
      show Steps p.tables e below (T575.setTop (mkF m 167 #[.val (.long p1), .second, .val (.long b), .second, .val (.long p3), .second, .val (.long d), .second, .val (.long p5), .second, .val (.int p6), .val (.int (1 : Int32)), .val (.ref arr), .val (.int md), .val (.long q), .second, .val (.ref tl), .unset] [])) t
      refine XS.iload X575.here hx rfl (hb hby at_167) rfl ?_
      show Steps p.tables e below (T575.setTop (mkF m 169 #[.val (.long p1), .second, .val (.long b), .second, .val (.long p3), .second, .val (.long d), .second, .val (.long p5), .second, .val (.int p6), .val (.int (1 : Int32)), .val (.ref arr), .val (.int md), .val (.long q), .second, .val (.ref tl), .unset] [(.int (1 : Int32))])) t
      refine XS.iconst X575.here hx rfl (hb hby at_169) ?_
      show Steps p.tables e below (T575.setTop (mkF m 170 #[.val (.long p1), .second, .val (.long b), .second, .val (.long p3), .second, .val (.long d), .second, .val (.long p5), .second, .val (.int p6), .val (.int (1 : Int32)), .val (.ref arr), .val (.int md), .val (.long q), .second, .val (.ref tl), .unset] [(.int (1 : Int32)), (.int (1 : Int32))])) t
      refine XS.icmpYes X575.here hx rfl (pc0 := 170) (pc' := 183) rfl (hb hby at_170) rfl (flt (by decide)).2.2.2 (by decide) (by decide) ?_
      show Steps p.tables e below (T575.setTop (mkF m 183 #[.val (.long p1), .second, .val (.long b), .second, .val (.long p3), .second, .val (.long d), .second, .val (.long p5), .second, .val (.int p6), .val (.int (1 : Int32)), .val (.ref arr), .val (.int md), .val (.long q), .second, .val (.ref tl), .unset] [])) t
      refine XS.iload X575.here hx rfl (hb hby at_183) rfl ?_
      show Steps p.tables e below (T575.setTop (mkF m 185 #[.val (.long p1), .second, .val (.long b), .second, .val (.long p3), .second, .val (.long d), .second, .val (.long p5), .second, .val (.int p6), .val (.int (1 : Int32)), .val (.ref arr), .val (.int md), .val (.long q), .second, .val (.ref tl), .unset] [(.int (1 : Int32))])) t
      refine XS.iconst X575.here hx rfl (hb hby at_185) ?_
      show Steps p.tables e below (T575.setTop (mkF m 186 #[.val (.long p1), .second, .val (.long b), .second, .val (.long p3), .second, .val (.long d), .second, .val (.long p5), .second, .val (.int p6), .val (.int (1 : Int32)), .val (.ref arr), .val (.int md), .val (.long q), .second, .val (.ref tl), .unset] [(.int (2 : Int32)), (.int (1 : Int32))])) t
      refine XS.icmpYes X575.here hx rfl (pc0 := 186) (pc' := 199) rfl (hb hby at_186) rfl (flt (by decide)).2.2.2 (by decide) (by decide) ?_
      show Steps p.tables e below (T575.setTop (mkF m 199 #[.val (.long p1), .second, .val (.long b), .second, .val (.long p3), .second, .val (.long d), .second, .val (.long p5), .second, .val (.int p6), .val (.int (1 : Int32)), .val (.ref arr), .val (.int md), .val (.long q), .second, .val (.ref tl), .unset] [])) t
      refine XS.iload X575.here hx rfl (hb hby at_199) rfl ?_
      show Steps p.tables e below (T575.setTop (mkF m 201 #[.val (.long p1), .second, .val (.long b), .second, .val (.long p3), .second, .val (.long d), .second, .val (.long p5), .second, .val (.int p6), .val (.int (1 : Int32)), .val (.ref arr), .val (.int md), .val (.long q), .second, .val (.ref tl), .unset] [(.int (1 : Int32))])) t
      refine XS.iconst X575.here hx rfl (hb hby at_201) ?_
      show Steps p.tables e below (T575.setTop (mkF m 202 #[.val (.long p1), .second, .val (.long b), .second, .val (.long p3), .second, .val (.long d), .second, .val (.long p5), .second, .val (.int p6), .val (.int (1 : Int32)), .val (.ref arr), .val (.int md), .val (.long q), .second, .val (.ref tl), .unset] [(.int (3 : Int32)), (.int (1 : Int32))])) t
      refine XS.icmpYes X575.here hx rfl (pc0 := 202) (pc' := 215) rfl (hb hby at_202) rfl (flt (by decide)).2.2.2 (by decide) (by decide) ?_
      show Steps p.tables e below (T575.setTop (mkF m 215 #[.val (.long p1), .second, .val (.long b), .second, .val (.long p3), .second, .val (.long d), .second, .val (.long p5), .second, .val (.int p6), .val (.int (1 : Int32)), .val (.ref arr), .val (.int md), .val (.long q), .second, .val (.ref tl), .unset] [])) t
      refine XS.iconst X575.here hx rfl (hb hby at_215) ?_
      show Steps p.tables e below (T575.setTop (mkF m 216 #[.val (.long p1), .second, .val (.long b), .second, .val (.long p3), .second, .val (.long d), .second, .val (.long p5), .second, .val (.int p6), .val (.int (1 : Int32)), .val (.ref arr), .val (.int md), .val (.long q), .second, .val (.ref tl), .unset] [(.int (0 : Int32))])) t
      refine XS.istore X575.here hx rfl (hb hby at_216) rfl (l' := #[.val (.long p1), .second, .val (.long b), .second, .val (.long p3), .second, .val (.long d), .second, .val (.long p5), .second, .val (.int p6), .val (.int (1 : Int32)), .val (.ref arr), .val (.int md), .val (.long q), .second, .val (.ref tl), .val (.int (0 : Int32))]) rfl ?_
      show Steps p.tables e below (T575.setTop (mkF m 218 #[.val (.long p1), .second, .val (.long b), .second, .val (.long p3), .second, .val (.long d), .second, .val (.long p5), .second, .val (.int p6), .val (.int (1 : Int32)), .val (.ref arr), .val (.int md), .val (.long q), .second, .val (.ref tl), .val (.int (0 : Int32))] [])) t
      refine XS.iload X575.here hx rfl (hb hby at_218) rfl ?_
      show Steps p.tables e below (T575.setTop (mkF m 220 #[.val (.long p1), .second, .val (.long b), .second, .val (.long p3), .second, .val (.long d), .second, .val (.long p5), .second, .val (.int p6), .val (.int (1 : Int32)), .val (.ref arr), .val (.int md), .val (.long q), .second, .val (.ref tl), .val (.int (0 : Int32))] [(.int (1 : Int32))])) t
      refine XS.ifNo X575.here hx rfl (hb hby at_220) rfl ((if0 _ _).trans (tlt (by decide)).2.2.2) ?_
      show Steps p.tables e below (T575.setTop (mkF m 223 #[.val (.long p1), .second, .val (.long b), .second, .val (.long p3), .second, .val (.long d), .second, .val (.long p5), .second, .val (.int p6), .val (.int (1 : Int32)), .val (.ref arr), .val (.int md), .val (.long q), .second, .val (.ref tl), .val (.int (0 : Int32))] [])) t
      refine XS.iload X575.here hx rfl (hb hby at_223) rfl ?_
      show Steps p.tables e below (T575.setTop (mkF m 225 #[.val (.long p1), .second, .val (.long b), .second, .val (.long p3), .second, .val (.long d), .second, .val (.long p5), .second, .val (.int p6), .val (.int (1 : Int32)), .val (.ref arr), .val (.int md), .val (.long q), .second, .val (.ref tl), .val (.int (0 : Int32))] [(.int (0 : Int32))])) t
      refine XS.aload X575.here hx rfl (hb hby at_225) rfl rfl ?_
      show Steps p.tables e below (T575.setTop (mkF m 227 #[.val (.long p1), .second, .val (.long b), .second, .val (.long p3), .second, .val (.long d), .second, .val (.long p5), .second, .val (.int p6), .val (.int (1 : Int32)), .val (.ref arr), .val (.int md), .val (.long q), .second, .val (.ref tl), .val (.int (0 : Int32))] [(.ref arr), (.int (0 : Int32))])) t
      refine XS.iconst X575.here hx rfl (hb hby at_227) ?_
      exact ht
    obtain ⟨cl585, Ar585, qc585, Sz585, Nn585, Hh585, Gg585⟩ := id f577
    have hin585 : ¬ ((0 : Int32) < 0 ∨ cl585.slots.size ≤ ((0 : Int32)).toNatClampNeg) := inb_of Sz585 ⟨by decide, by decide⟩
    have hat585 : cl585.slots[((0 : Int32)).toNatClampNeg]? = some (.long y525) := Hh585.at hin585 rfl
    have k586 : Kt p e below m (s₁.setTop (entryFrame m #[(.long p1), (.long p2), (.long p3), (.long p4), (.long p5), (.int p6)] maxLocals)) T575 231 #[.val (.long p1), .second, .val (.long b), .second, .val (.long p3), .second, .val (.long d), .second, .val (.long p5), .second, .val (.int p6), .val (.int (1 : Int32)), .val (.ref arr), .val (.int md), .val (.long q), .second, .val (.ref tl), .val (.int (0 : Int32))] [(.long q), (.long y525), (.int (0 : Int32))] := by
      intro t ht
      refine k584 t ?_
      show Steps p.tables e below (T575.setTop (mkF m 228 #[.val (.long p1), .second, .val (.long b), .second, .val (.long p3), .second, .val (.long d), .second, .val (.long p5), .second, .val (.int p6), .val (.int (1 : Int32)), .val (.ref arr), .val (.int md), .val (.long q), .second, .val (.ref tl), .val (.int (0 : Int32))] [(.int (0 : Int32)), (.ref arr), (.int (0 : Int32))])) t
      refine X575.laload hx (j := (0 : Int32)) (v := (.long y525)) Ar585.1 (State.isArrayOf_alike hZ.alike Ar585.2.1) Ar585.2.2 hin585 hat585 (g := (mkF m 228 #[.val (.long p1), .second, .val (.long b), .second, .val (.long p3), .second, .val (.long d), .second, .val (.long p5), .second, .val (.int p6), .val (.int (1 : Int32)), .val (.ref arr), .val (.int md), .val (.long q), .second, .val (.ref tl), .val (.int (0 : Int32))] [(.int (0 : Int32)), (.ref arr), (.int (0 : Int32))])) rfl rfl (hb hby at_228) _ ?_
      show Steps p.tables e below (T575.setTop (mkF m 229 #[.val (.long p1), .second, .val (.long b), .second, .val (.long p3), .second, .val (.long d), .second, .val (.long p5), .second, .val (.int p6), .val (.int (1 : Int32)), .val (.ref arr), .val (.int md), .val (.long q), .second, .val (.ref tl), .val (.int (0 : Int32))] [(.long y525), (.int (0 : Int32))])) t
      refine XS.lload X575.here hx rfl (hb hby at_229) rfl ?_
      exact ht
    obtain ⟨_, _, ⟨T587, L587, c587, n587⟩, -, X587, ⟨Lc587, hQ587, l587, y587, z587⟩, st587⟩ := Jvm.LawKit.callS X575 hx (y := (⟨"com/example/clearhour/clearhour/market/TimelineIndexFromPinLaw", "lt", "(JJ)I"⟩ : MethodName)) hown (mvT hZ (hw _ (List.mem_of_getElem? (i := 29) rfl))) (mvT hZ (hw _ (List.mem_of_getElem? (i := 30) rfl))) (mvT hZ (hw _ (List.mem_of_getElem? (i := 3) rfl))) (mvT hZ (hw _ (List.mem_of_getElem? (i := 31) rfl))) (by decide) (backOf (W := 1) (rm5 l Z a0 hw [] y525 q T575.heap n0 f576 ) hZ (hw _ (List.mem_of_getElem? (i := 31) rfl)) (hw _ (List.mem_of_getElem? (i := 3) rfl)) (by decide) (by decide)) (g := (mkF m 231 #[.val (.long p1), .second, .val (.long b), .second, .val (.long p3), .second, .val (.long d), .second, .val (.long p5), .second, .val (.int p6), .val (.int (1 : Int32)), .val (.ref arr), .val (.int md), .val (.long q), .second, .val (.ref tl), .val (.int (0 : Int32))] [(.long q), (.long y525), (.int (0 : Int32))])) rfl (by rw [hml]; rfl) (argsL := [(.long y525), (.long q)]) (rest := [(.int (0 : Int32))]) (lenOf pd_2 rfl) rfl (by show 2 * 0 + _ ≤ _; exact Nat.le_of_eq rfl) (hb hby at_231) (fun _ _ => ⟨rfl, rfl, (by decide : 4 + 0 ≤ _), (by decide : 40 + 0 ≤ _)⟩)
    dsimp only [Pt.U, Pt.locs, Pt.cells, Pt.slots] at X587 l587 y587 z587 st587 hQ587
    subst l587 y587 z587
    obtain ⟨rfl, Nq587, eq587⟩ := hQ587
    have N587 := Fr.app N575 Nq587
    have k587 : Kt p e below m (s₁.setTop (entryFrame m #[(.long p1), (.long p2), (.long p3), (.long p4), (.long p5), (.int p6)] maxLocals)) T587 234 #[.val (.long p1), .second, .val (.long b), .second, .val (.long p3), .second, .val (.long d), .second, .val (.long p5), .second, .val (.int p6), .val (.int (1 : Int32)), .val (.ref arr), .val (.int md), .val (.long q), .second, .val (.ref tl), .val (.int (0 : Int32))] [(.int (own_b (y525 < q))), (.int (0 : Int32))] := fun t ht => k586 t (st587 t ht)
    have f588 : n0 ≤ T587.heap.size := by rw [eq587]; exact f576
    have f589 : Arv Z T587.heap arr ak498 .long (4 : Int32) [(.long y525), (.long y533), (.long y533'), (.long y529')] (.long (0 : Int64)) := by rw [eq587]; exact f577
    have f590 : Exa Z T587.heap tl "com/example/clearhour/clearhour/market/Timeline" := by rw [eq587]; exact f578
    have f591 : Fld Z T587.heap tl "com/example/clearhour/clearhour/market/Timeline" "times" "[J" (.ref tb) := by rw [eq587]; exact Fa575
    have f592 : Fld Z T587.heap tl "com/example/clearhour/clearhour/market/Timeline" "values" "[Ljava/lang/Object;" (.ref vb) := by rw [eq587]; exact Fb575
    have f593 : Fld Z T587.heap tl "com/example/clearhour/clearhour/market/Timeline" "size" "I" (.int (1 : Int32)) := by rw [eq587]; exact Fc575
    have f594 : Arv Z T587.heap tb kt .long (16 : Int32) [(.long y525), (.long (0 : Int64)), (.long (0 : Int64)), (.long (0 : Int64))] (.long (0 : Int64)) := by rw [eq587]; exact Va575
    have f595 : Arv Z T587.heap vb kv (.object "java/lang/Object") (16 : Int32) [.null, .null, .null, .null] .null := by rw [eq587]; exact Vb575
    have k596 : Kt p e below m (s₁.setTop (entryFrame m #[(.long p1), (.long p2), (.long p3), (.long p4), (.long p5), (.int p6)] maxLocals)) T587 301 #[.val (.long p1), .second, .val (.long b), .second, .val (.long p3), .second, .val (.long d), .second, .val (.long p5), .second, .val (.int p6), .val (.int (1 : Int32)), .val (.ref arr), .val (.int md), .val (.long q), .second, .val (.ref tl), .val (.int ((0 : Int32) + (own_b (y525 < q))))] [(.long q), (.ref tl)] := by
      intro t ht
      refine k587 t ?_
      show Steps p.tables e below (T587.setTop (mkF m 234 #[.val (.long p1), .second, .val (.long b), .second, .val (.long p3), .second, .val (.long d), .second, .val (.long p5), .second, .val (.int p6), .val (.int (1 : Int32)), .val (.ref arr), .val (.int md), .val (.long q), .second, .val (.ref tl), .val (.int (0 : Int32))] [(.int (own_b (y525 < q))), (.int (0 : Int32))])) t
      refine XS.iadd X587.here hx rfl (hb hby at_234) rfl ?_
      show Steps p.tables e below (T587.setTop (mkF m 235 #[.val (.long p1), .second, .val (.long b), .second, .val (.long p3), .second, .val (.long d), .second, .val (.long p5), .second, .val (.int p6), .val (.int (1 : Int32)), .val (.ref arr), .val (.int md), .val (.long q), .second, .val (.ref tl), .val (.int (0 : Int32))] [(.int ((0 : Int32) + (own_b (y525 < q))))])) t
      refine XS.istore X587.here hx rfl (hb hby at_235) rfl (l' := #[.val (.long p1), .second, .val (.long b), .second, .val (.long p3), .second, .val (.long d), .second, .val (.long p5), .second, .val (.int p6), .val (.int (1 : Int32)), .val (.ref arr), .val (.int md), .val (.long q), .second, .val (.ref tl), .val (.int ((0 : Int32) + (own_b (y525 < q))))]) rfl ?_
      show Steps p.tables e below (T587.setTop (mkF m 237 #[.val (.long p1), .second, .val (.long b), .second, .val (.long p3), .second, .val (.long d), .second, .val (.long p5), .second, .val (.int p6), .val (.int (1 : Int32)), .val (.ref arr), .val (.int md), .val (.long q), .second, .val (.ref tl), .val (.int ((0 : Int32) + (own_b (y525 < q))))] [])) t
      refine XS.iload X587.here hx rfl (hb hby at_237) rfl ?_
      show Steps p.tables e below (T587.setTop (mkF m 239 #[.val (.long p1), .second, .val (.long b), .second, .val (.long p3), .second, .val (.long d), .second, .val (.long p5), .second, .val (.int p6), .val (.int (1 : Int32)), .val (.ref arr), .val (.int md), .val (.long q), .second, .val (.ref tl), .val (.int ((0 : Int32) + (own_b (y525 < q))))] [(.int (1 : Int32))])) t
      refine XS.iconst X587.here hx rfl (hb hby at_239) ?_
      show Steps p.tables e below (T587.setTop (mkF m 240 #[.val (.long p1), .second, .val (.long b), .second, .val (.long p3), .second, .val (.long d), .second, .val (.long p5), .second, .val (.int p6), .val (.int (1 : Int32)), .val (.ref arr), .val (.int md), .val (.long q), .second, .val (.ref tl), .val (.int ((0 : Int32) + (own_b (y525 < q))))] [(.int (1 : Int32)), (.int (1 : Int32))])) t
      refine XS.icmpYes X587.here hx rfl (pc0 := 240) (pc' := 257) rfl (hb hby at_240) rfl (flt (by decide)).2.2.2 (by decide) (by decide) ?_
      show Steps p.tables e below (T587.setTop (mkF m 257 #[.val (.long p1), .second, .val (.long b), .second, .val (.long p3), .second, .val (.long d), .second, .val (.long p5), .second, .val (.int p6), .val (.int (1 : Int32)), .val (.ref arr), .val (.int md), .val (.long q), .second, .val (.ref tl), .val (.int ((0 : Int32) + (own_b (y525 < q))))] [])) t
      refine XS.iload X587.here hx rfl (hb hby at_257) rfl ?_
      show Steps p.tables e below (T587.setTop (mkF m 259 #[.val (.long p1), .second, .val (.long b), .second, .val (.long p3), .second, .val (.long d), .second, .val (.long p5), .second, .val (.int p6), .val (.int (1 : Int32)), .val (.ref arr), .val (.int md), .val (.long q), .second, .val (.ref tl), .val (.int ((0 : Int32) + (own_b (y525 < q))))] [(.int (1 : Int32))])) t
      refine XS.iconst X587.here hx rfl (hb hby at_259) ?_
      show Steps p.tables e below (T587.setTop (mkF m 260 #[.val (.long p1), .second, .val (.long b), .second, .val (.long p3), .second, .val (.long d), .second, .val (.long p5), .second, .val (.int p6), .val (.int (1 : Int32)), .val (.ref arr), .val (.int md), .val (.long q), .second, .val (.ref tl), .val (.int ((0 : Int32) + (own_b (y525 < q))))] [(.int (2 : Int32)), (.int (1 : Int32))])) t
      refine XS.icmpYes X587.here hx rfl (pc0 := 260) (pc' := 277) rfl (hb hby at_260) rfl (flt (by decide)).2.2.2 (by decide) (by decide) ?_
      show Steps p.tables e below (T587.setTop (mkF m 277 #[.val (.long p1), .second, .val (.long b), .second, .val (.long p3), .second, .val (.long d), .second, .val (.long p5), .second, .val (.int p6), .val (.int (1 : Int32)), .val (.ref arr), .val (.int md), .val (.long q), .second, .val (.ref tl), .val (.int ((0 : Int32) + (own_b (y525 < q))))] [])) t
      refine XS.iload X587.here hx rfl (hb hby at_277) rfl ?_
      show Steps p.tables e below (T587.setTop (mkF m 279 #[.val (.long p1), .second, .val (.long b), .second, .val (.long p3), .second, .val (.long d), .second, .val (.long p5), .second, .val (.int p6), .val (.int (1 : Int32)), .val (.ref arr), .val (.int md), .val (.long q), .second, .val (.ref tl), .val (.int ((0 : Int32) + (own_b (y525 < q))))] [(.int (1 : Int32))])) t
      refine XS.iconst X587.here hx rfl (hb hby at_279) ?_
      show Steps p.tables e below (T587.setTop (mkF m 280 #[.val (.long p1), .second, .val (.long b), .second, .val (.long p3), .second, .val (.long d), .second, .val (.long p5), .second, .val (.int p6), .val (.int (1 : Int32)), .val (.ref arr), .val (.int md), .val (.long q), .second, .val (.ref tl), .val (.int ((0 : Int32) + (own_b (y525 < q))))] [(.int (3 : Int32)), (.int (1 : Int32))])) t
      refine XS.icmpYes X587.here hx rfl (pc0 := 280) (pc' := 297) rfl (hb hby at_280) rfl (flt (by decide)).2.2.2 (by decide) (by decide) ?_
      show Steps p.tables e below (T587.setTop (mkF m 297 #[.val (.long p1), .second, .val (.long b), .second, .val (.long p3), .second, .val (.long d), .second, .val (.long p5), .second, .val (.int p6), .val (.int (1 : Int32)), .val (.ref arr), .val (.int md), .val (.long q), .second, .val (.ref tl), .val (.int ((0 : Int32) + (own_b (y525 < q))))] [])) t
      refine XS.aload X587.here hx rfl (hb hby at_297) rfl rfl ?_
      show Steps p.tables e below (T587.setTop (mkF m 299 #[.val (.long p1), .second, .val (.long b), .second, .val (.long p3), .second, .val (.long d), .second, .val (.long p5), .second, .val (.int p6), .val (.int (1 : Int32)), .val (.ref arr), .val (.int md), .val (.long q), .second, .val (.ref tl), .val (.int ((0 : Int32) + (own_b (y525 < q))))] [(.ref tl)])) t
      refine XS.lload X587.here hx rfl (hb hby at_299) rfl ?_
      exact ht
    obtain ⟨cq597, kq597, q597a, q597b, q597c⟩ := isOf hZ rfl f590
    obtain ⟨_, _, ⟨T597, L597, c597, n597⟩, -, X597, ⟨Lc597, hQ597, l597, y597, z597⟩, st597⟩ := X587.virtualBack hx (y := (⟨"com/example/clearhour/clearhour/market/Timeline", "indexFrom", "(J)I"⟩ : MethodName)) (z := (⟨"com/example/clearhour/clearhour/market/Timeline", "indexFrom", "(J)I"⟩ : MethodName)) hown (mvT hZ (hw _ (List.mem_of_getElem? (i := 32) rfl))) (mvT hZ (hw _ (List.mem_of_getElem? (i := 33) rfl))) (notFace_of_selects (args := #[]) (mvT hZ (hw _ (List.mem_of_getElem? (i := 35) rfl)))) (mvT hZ (hw _ (List.mem_of_getElem? (i := 35) rfl))) (mvT hZ (hw _ (List.mem_of_getElem? (i := 34) rfl))) (by decide) (backOf (W := 0) (rmix1 l Z a0 hw [] tl q tb kt y525 (0 : Int64) (0 : Int64) (0 : Int64) T587.heap n0 f588 f591 f593 f594 ) hZ (hw _ (List.mem_of_getElem? (i := 36) rfl)) (hw _ (List.mem_of_getElem? (i := 7) rfl)) (by decide) (by decide)) q597a q597c (g := (mkF m 301 #[.val (.long p1), .second, .val (.long b), .second, .val (.long p3), .second, .val (.long d), .second, .val (.long p5), .second, .val (.int p6), .val (.int (1 : Int32)), .val (.ref arr), .val (.int md), .val (.long q), .second, .val (.ref tl), .val (.int ((0 : Int32) + (own_b (y525 < q))))] [(.long q), (.ref tl)])) rfl (by rw [hml]; rfl) (Steps.refl _) (argsL := [(.long q)]) (rest := []) (lenOf pd_1 rfl) rfl (by show 2 * 0 + _ ≤ _; exact Nat.le_of_eq rfl) (hb hby at_301) (fun _ _ => ⟨rfl, rfl, (by decide : 4 + 0 ≤ _), (by decide : 40 + 0 ≤ _)⟩)
    dsimp only [Pt.U, Pt.locs, Pt.cells, Pt.slots] at X597 l597 y597 z597 st597 hQ597
    subst l597 y597 z597
    obtain ⟨rfl, Nq597, eqz⟩ := hQ597
    have N597 := Fr.app N587 Nq597
    have k597 : Kt p e below m (s₁.setTop (entryFrame m #[(.long p1), (.long p2), (.long p3), (.long p4), (.long p5), (.int p6)] maxLocals)) T597 304 #[.val (.long p1), .second, .val (.long b), .second, .val (.long p3), .second, .val (.long d), .second, .val (.long p5), .second, .val (.int p6), .val (.int (1 : Int32)), .val (.ref arr), .val (.int md), .val (.long q), .second, .val (.ref tl), .val (.int ((0 : Int32) + (own_b (y525 < q))))] [(.int ((0 : Int32) + (own_b (y525 < q))))] := fun t ht => k596 t (st597.trans ht)
    have k598 : Kt p e below m (s₁.setTop (entryFrame m #[(.long p1), (.long p2), (.long p3), (.long p4), (.long p5), (.int p6)] maxLocals)) T597 314 #[.val (.long p1), .second, .val (.long b), .second, .val (.long p3), .second, .val (.long d), .second, .val (.long p5), .second, .val (.int p6), .val (.int (1 : Int32)), .val (.ref arr), .val (.int md), .val (.long q), .second, .val (.ref tl), .val (.int ((0 : Int32) + (own_b (y525 < q))))] [(.int (1 : Int32))] := by
      intro t ht
      refine k597 t ?_
      show Steps p.tables e below (T597.setTop (mkF m 304 #[.val (.long p1), .second, .val (.long b), .second, .val (.long p3), .second, .val (.long d), .second, .val (.long p5), .second, .val (.int p6), .val (.int (1 : Int32)), .val (.ref arr), .val (.int md), .val (.long q), .second, .val (.ref tl), .val (.int ((0 : Int32) + (own_b (y525 < q))))] [(.int ((0 : Int32) + (own_b (y525 < q))))])) t
      refine XS.iload X597.here hx rfl (hb hby at_304) rfl ?_
      show Steps p.tables e below (T597.setTop (mkF m 306 #[.val (.long p1), .second, .val (.long b), .second, .val (.long p3), .second, .val (.long d), .second, .val (.long p5), .second, .val (.int p6), .val (.int (1 : Int32)), .val (.ref arr), .val (.int md), .val (.long q), .second, .val (.ref tl), .val (.int ((0 : Int32) + (own_b (y525 < q))))] [(.int ((0 : Int32) + (own_b (y525 < q)))), (.int ((0 : Int32) + (own_b (y525 < q))))])) t
      refine XS.icmpNo X597.here hx rfl (hb hby at_306) rfl (teq rfl).2 ?_
      show Steps p.tables e below (T597.setTop (mkF m 309 #[.val (.long p1), .second, .val (.long b), .second, .val (.long p3), .second, .val (.long d), .second, .val (.long p5), .second, .val (.int p6), .val (.int (1 : Int32)), .val (.ref arr), .val (.int md), .val (.long q), .second, .val (.ref tl), .val (.int ((0 : Int32) + (own_b (y525 < q))))] [])) t
      refine XS.iconst X597.here hx rfl (hb hby at_309) ?_
      show Steps p.tables e below (T597.setTop (mkF m 310 #[.val (.long p1), .second, .val (.long b), .second, .val (.long p3), .second, .val (.long d), .second, .val (.long p5), .second, .val (.int p6), .val (.int (1 : Int32)), .val (.ref arr), .val (.int md), .val (.long q), .second, .val (.ref tl), .val (.int ((0 : Int32) + (own_b (y525 < q))))] [(.int (1 : Int32))])) t
      refine XS.goto X597.here hx rfl (pc0 := 310) (pc' := 314) rfl (hb hby at_310) (by decide) (by decide) ?_
      exact ht
    obtain ⟨fs, hr, hrun, hended, hW, hsame⟩ := X597.leave (v := some (.int (1 : Int32))) (fun h => by rw [Bd.returns] at h; cases h)
    refine ⟨_, _, k598 _ ?_, hrun, hended, _, _, rfl, ?_, ⟨_, rfl⟩, hW, hsame.mono (by decide) (by decide)⟩
    · exact retN X597 hx (t := .boolean) Bd.returns (by simp) (hb hby at_314) hr
    · show Q0 Z p1 p2 p3 p4 p5 p6 h0 n0 _ T597.heap _
      exact ⟨rfl, N597⟩
  · rw [hN] at k568
    have k599 : Kt p e below m (s₁.setTop (entryFrame m #[(.long p1), (.long p2), (.long p3), (.long p4), (.long p5), (.int p6)] maxLocals)) T560 162 #[.val (.long p1), .second, .val (.long b), .second, .val (.long p3), .second, .val (.long d), .second, .val (.long p5), .second, .val (.int p6), .val (.int (2 : Int32)), .val (.ref arr), .val (.int md), .val (.long q), .second, .val (.ref tl), .unset] [(.int (0 : Int32)), (.ref arr), (.ref tl)] := by
      intro t ht
      refine k568 t ?_
      show Steps p.tables e below (T560.setTop (mkF m 154 #[.val (.long p1), .second, .val (.long b), .second, .val (.long p3), .second, .val (.long d), .second, .val (.long p5), .second, .val (.int p6), .val (.int (2 : Int32)), .val (.ref arr), .val (.int md), .val (.long q), .second, .val (.ref tl), .unset] [(.int (2 : Int32))])) t
      refine XS.ifNo X560.here hx rfl (hb hby at_154) rfl ((if0 _ _).trans (tlt (by decide)).2.2.2) ?_
      show Steps p.tables e below (T560.setTop (mkF m 157 #[.val (.long p1), .second, .val (.long b), .second, .val (.long p3), .second, .val (.long d), .second, .val (.long p5), .second, .val (.int p6), .val (.int (2 : Int32)), .val (.ref arr), .val (.int md), .val (.long q), .second, .val (.ref tl), .unset] [])) t
      refine XS.aload X560.here hx rfl (hb hby at_157) rfl rfl ?_
      show Steps p.tables e below (T560.setTop (mkF m 159 #[.val (.long p1), .second, .val (.long b), .second, .val (.long p3), .second, .val (.long d), .second, .val (.long p5), .second, .val (.int p6), .val (.int (2 : Int32)), .val (.ref arr), .val (.int md), .val (.long q), .second, .val (.ref tl), .unset] [(.ref tl)])) t
      refine XS.aload X560.here hx rfl (hb hby at_159) rfl rfl ?_
      show Steps p.tables e below (T560.setTop (mkF m 161 #[.val (.long p1), .second, .val (.long b), .second, .val (.long p3), .second, .val (.long d), .second, .val (.long p5), .second, .val (.int p6), .val (.int (2 : Int32)), .val (.ref arr), .val (.int md), .val (.long q), .second, .val (.ref tl), .unset] [(.ref arr), (.ref tl)])) t
      refine XS.iconst X560.here hx rfl (hb hby at_161) ?_
      exact ht
    obtain ⟨cl600, Ar600, qc600, Sz600, Nn600, Hh600, Gg600⟩ := id f562
    have hin600 : ¬ ((0 : Int32) < 0 ∨ cl600.slots.size ≤ ((0 : Int32)).toNatClampNeg) := inb_of Sz600 ⟨by decide, by decide⟩
    have hat600 : cl600.slots[((0 : Int32)).toNatClampNeg]? = some (.long y525) := Hh600.at hin600 rfl
    have k601 : Kt p e below m (s₁.setTop (entryFrame m #[(.long p1), (.long p2), (.long p3), (.long p4), (.long p5), (.int p6)] maxLocals)) T560 164 #[.val (.long p1), .second, .val (.long b), .second, .val (.long p3), .second, .val (.long d), .second, .val (.long p5), .second, .val (.int p6), .val (.int (2 : Int32)), .val (.ref arr), .val (.int md), .val (.long q), .second, .val (.ref tl), .unset] [.null, (.long y525), (.ref tl)] := by
      intro t ht
      refine k599 t ?_
      show Steps p.tables e below (T560.setTop (mkF m 162 #[.val (.long p1), .second, .val (.long b), .second, .val (.long p3), .second, .val (.long d), .second, .val (.long p5), .second, .val (.int p6), .val (.int (2 : Int32)), .val (.ref arr), .val (.int md), .val (.long q), .second, .val (.ref tl), .unset] [(.int (0 : Int32)), (.ref arr), (.ref tl)])) t
      refine X560.laload hx (j := (0 : Int32)) (v := (.long y525)) Ar600.1 (State.isArrayOf_alike hZ.alike Ar600.2.1) Ar600.2.2 hin600 hat600 (g := (mkF m 162 #[.val (.long p1), .second, .val (.long b), .second, .val (.long p3), .second, .val (.long d), .second, .val (.long p5), .second, .val (.int p6), .val (.int (2 : Int32)), .val (.ref arr), .val (.int md), .val (.long q), .second, .val (.ref tl), .unset] [(.int (0 : Int32)), (.ref arr), (.ref tl)])) rfl rfl (hb hby at_162) _ ?_
      show Steps p.tables e below (T560.setTop (mkF m 163 #[.val (.long p1), .second, .val (.long b), .second, .val (.long p3), .second, .val (.long d), .second, .val (.long p5), .second, .val (.int p6), .val (.int (2 : Int32)), .val (.ref arr), .val (.int md), .val (.long q), .second, .val (.ref tl), .unset] [(.long y525), (.ref tl)])) t
      refine XS.aconstNull X560.here hx rfl (hb hby at_163) ?_
      exact ht
    obtain ⟨cq602, kq602, q602a, q602b, q602c⟩ := isOf hZ rfl f563
    obtain ⟨_, _, ⟨T602, L602, c602, n602⟩, -, X602, ⟨Lc602, hQ602, l602, y602, z602⟩, st602⟩ := X560.virtualBack hx (y := (⟨"com/example/clearhour/clearhour/market/Timeline", "add", "(JLjava/lang/Object;)V"⟩ : MethodName)) (z := (⟨"com/example/clearhour/clearhour/market/Timeline", "add", "(JLjava/lang/Object;)V"⟩ : MethodName)) hown (mvT hZ (hw _ (List.mem_of_getElem? (i := 22) rfl))) (mvT hZ (hw _ (List.mem_of_getElem? (i := 23) rfl))) (notFace_of_selects (args := #[]) (mvT hZ (hw _ (List.mem_of_getElem? (i := 25) rfl)))) (mvT hZ (hw _ (List.mem_of_getElem? (i := 25) rfl))) (mvT hZ (hw _ (List.mem_of_getElem? (i := 24) rfl))) (by decide) (backOf (W := 0) (rmad0 l Z a0 hw [] tl y525 tb vb kt kv (0 : Int64) (0 : Int64) (0 : Int64) (0 : Int64) T560.heap n0 f561 f563 Ft Fv Fz Vt Vv ne_tl_tb ne_tl_vb ne_tb_vb g_tl g_tb g_vb) hZ (hw _ (List.mem_of_getElem? (i := 26) rfl)) (hw _ (List.mem_of_getElem? (i := 7) rfl)) (by decide) (by decide)) q602a q602c (g := (mkF m 164 #[.val (.long p1), .second, .val (.long b), .second, .val (.long p3), .second, .val (.long d), .second, .val (.long p5), .second, .val (.int p6), .val (.int (2 : Int32)), .val (.ref arr), .val (.int md), .val (.long q), .second, .val (.ref tl), .unset] [.null, (.long y525), (.ref tl)])) rfl (by rw [hml]; rfl) (Steps.refl _) (argsL := [(.long y525), .null]) (rest := []) (lenOf pd_3 rfl) rfl (by show 2 * 0 + _ ≤ _; exact Nat.le_of_eq rfl) (hb hby at_164) (fun _ _ => ⟨rfl, rfl, (by decide : 4 + 0 ≤ _), (by decide : 40 + 0 ≤ _)⟩)
    dsimp only [Pt.U, Pt.locs, Pt.cells, Pt.slots] at X602 l602 y602 z602 st602 hQ602
    subst l602 y602 z602
    obtain ⟨rfl, Nq602, Kp602, Fa602, Fb602, Fc602, Va602, Vb602⟩ := hQ602
    have N602 := Fr.app N560 Nq602
    have k602 : Kt p e below m (s₁.setTop (entryFrame m #[(.long p1), (.long p2), (.long p3), (.long p4), (.long p5), (.int p6)] maxLocals)) T602 167 #[.val (.long p1), .second, .val (.long b), .second, .val (.long p3), .second, .val (.long d), .second, .val (.long p5), .second, .val (.int p6), .val (.int (2 : Int32)), .val (.ref arr), .val (.int md), .val (.long q), .second, .val (.ref tl), .unset] [] := fun t ht => k601 t (st602.trans ht)
    have f603 : n0 ≤ T602.heap.size := Nat.le_trans f561 Kp602.1
    have f604 : Arv Z T602.heap arr ak498 .long (4 : Int32) [(.long y525), (.long y533), (.long y533'), (.long y529')] (.long (0 : Int64)) := f562.keep Kp602 (ninS ne_arr_tl (ninS ne_arr_tb (ninS ne_arr_vb nin0)))
    have f605 : Exa Z T602.heap tl "com/example/clearhour/clearhour/market/Timeline" := f563.keep Kp602
    have k611 : Kt p e below m (s₁.setTop (entryFrame m #[(.long p1), (.long p2), (.long p3), (.long p4), (.long p5), (.int p6)] maxLocals)) T602 178 #[.val (.long p1), .second, .val (.long b), .second, .val (.long p3), .second, .val (.long d), .second, .val (.long p5), .second, .val (.int p6), .val (.int (2 : Int32)), .val (.ref arr), .val (.int md), .val (.long q), .second, .val (.ref tl), .unset] [(.int (1 : Int32)), (.ref arr), (.ref tl)] := by
      intro t ht
      refine k602 t ?_
      show Steps p.tables e below (T602.setTop (mkF m 167 #[.val (.long p1), .second, .val (.long b), .second, .val (.long p3), .second, .val (.long d), .second, .val (.long p5), .second, .val (.int p6), .val (.int (2 : Int32)), .val (.ref arr), .val (.int md), .val (.long q), .second, .val (.ref tl), .unset] [])) t
      refine XS.iload X602.here hx rfl (hb hby at_167) rfl ?_
      show Steps p.tables e below (T602.setTop (mkF m 169 #[.val (.long p1), .second, .val (.long b), .second, .val (.long p3), .second, .val (.long d), .second, .val (.long p5), .second, .val (.int p6), .val (.int (2 : Int32)), .val (.ref arr), .val (.int md), .val (.long q), .second, .val (.ref tl), .unset] [(.int (2 : Int32))])) t
      refine XS.iconst X602.here hx rfl (hb hby at_169) ?_
      show Steps p.tables e below (T602.setTop (mkF m 170 #[.val (.long p1), .second, .val (.long b), .second, .val (.long p3), .second, .val (.long d), .second, .val (.long p5), .second, .val (.int p6), .val (.int (2 : Int32)), .val (.ref arr), .val (.int md), .val (.long q), .second, .val (.ref tl), .unset] [(.int (1 : Int32)), (.int (2 : Int32))])) t
      refine XS.icmpNo X602.here hx rfl (hb hby at_170) rfl (tlt (by decide)).2.2.2 ?_
      show Steps p.tables e below (T602.setTop (mkF m 173 #[.val (.long p1), .second, .val (.long b), .second, .val (.long p3), .second, .val (.long d), .second, .val (.long p5), .second, .val (.int p6), .val (.int (2 : Int32)), .val (.ref arr), .val (.int md), .val (.long q), .second, .val (.ref tl), .unset] [])) t
      refine XS.aload X602.here hx rfl (hb hby at_173) rfl rfl ?_
      show Steps p.tables e below (T602.setTop (mkF m 175 #[.val (.long p1), .second, .val (.long b), .second, .val (.long p3), .second, .val (.long d), .second, .val (.long p5), .second, .val (.int p6), .val (.int (2 : Int32)), .val (.ref arr), .val (.int md), .val (.long q), .second, .val (.ref tl), .unset] [(.ref tl)])) t
      refine XS.aload X602.here hx rfl (hb hby at_175) rfl rfl ?_
      show Steps p.tables e below (T602.setTop (mkF m 177 #[.val (.long p1), .second, .val (.long b), .second, .val (.long p3), .second, .val (.long d), .second, .val (.long p5), .second, .val (.int p6), .val (.int (2 : Int32)), .val (.ref arr), .val (.int md), .val (.long q), .second, .val (.ref tl), .unset] [(.ref arr), (.ref tl)])) t
      refine XS.iconst X602.here hx rfl (hb hby at_177) ?_
      exact ht
    obtain ⟨cl612, Ar612, qc612, Sz612, Nn612, Hh612, Gg612⟩ := id f604
    have hin612 : ¬ ((1 : Int32) < 0 ∨ cl612.slots.size ≤ ((1 : Int32)).toNatClampNeg) := inb_of Sz612 ⟨by decide, by decide⟩
    have hat612 : cl612.slots[((1 : Int32)).toNatClampNeg]? = some (.long y533) := Hh612.at hin612 rfl
    have k613 : Kt p e below m (s₁.setTop (entryFrame m #[(.long p1), (.long p2), (.long p3), (.long p4), (.long p5), (.int p6)] maxLocals)) T602 180 #[.val (.long p1), .second, .val (.long b), .second, .val (.long p3), .second, .val (.long d), .second, .val (.long p5), .second, .val (.int p6), .val (.int (2 : Int32)), .val (.ref arr), .val (.int md), .val (.long q), .second, .val (.ref tl), .unset] [.null, (.long y533), (.ref tl)] := by
      intro t ht
      refine k611 t ?_
      show Steps p.tables e below (T602.setTop (mkF m 178 #[.val (.long p1), .second, .val (.long b), .second, .val (.long p3), .second, .val (.long d), .second, .val (.long p5), .second, .val (.int p6), .val (.int (2 : Int32)), .val (.ref arr), .val (.int md), .val (.long q), .second, .val (.ref tl), .unset] [(.int (1 : Int32)), (.ref arr), (.ref tl)])) t
      refine X602.laload hx (j := (1 : Int32)) (v := (.long y533)) Ar612.1 (State.isArrayOf_alike hZ.alike Ar612.2.1) Ar612.2.2 hin612 hat612 (g := (mkF m 178 #[.val (.long p1), .second, .val (.long b), .second, .val (.long p3), .second, .val (.long d), .second, .val (.long p5), .second, .val (.int p6), .val (.int (2 : Int32)), .val (.ref arr), .val (.int md), .val (.long q), .second, .val (.ref tl), .unset] [(.int (1 : Int32)), (.ref arr), (.ref tl)])) rfl rfl (hb hby at_178) _ ?_
      show Steps p.tables e below (T602.setTop (mkF m 179 #[.val (.long p1), .second, .val (.long b), .second, .val (.long p3), .second, .val (.long d), .second, .val (.long p5), .second, .val (.int p6), .val (.int (2 : Int32)), .val (.ref arr), .val (.int md), .val (.long q), .second, .val (.ref tl), .unset] [(.long y533), (.ref tl)])) t
      refine XS.aconstNull X602.here hx rfl (hb hby at_179) ?_
      exact ht
    obtain ⟨cq614, kq614, q614a, q614b, q614c⟩ := isOf hZ rfl f605
    obtain ⟨_, _, ⟨T614, L614, c614, n614⟩, -, X614, ⟨Lc614, hQ614, l614, y614, z614⟩, st614⟩ := X602.virtualBack hx (y := (⟨"com/example/clearhour/clearhour/market/Timeline", "add", "(JLjava/lang/Object;)V"⟩ : MethodName)) (z := (⟨"com/example/clearhour/clearhour/market/Timeline", "add", "(JLjava/lang/Object;)V"⟩ : MethodName)) hown (mvT hZ (hw _ (List.mem_of_getElem? (i := 22) rfl))) (mvT hZ (hw _ (List.mem_of_getElem? (i := 23) rfl))) (notFace_of_selects (args := #[]) (mvT hZ (hw _ (List.mem_of_getElem? (i := 25) rfl)))) (mvT hZ (hw _ (List.mem_of_getElem? (i := 25) rfl))) (mvT hZ (hw _ (List.mem_of_getElem? (i := 24) rfl))) (by decide) (backOf (W := 0) (rmad1 l Z a0 hw [] tl y533 tb vb kt kv y525 (0 : Int64) (0 : Int64) (0 : Int64) T602.heap n0 f603 f605 Fa602 Fb602 Fc602 Va602 Vb602 ne_tl_tb ne_tl_vb ne_tb_vb g_tl g_tb g_vb o0) hZ (hw _ (List.mem_of_getElem? (i := 26) rfl)) (hw _ (List.mem_of_getElem? (i := 7) rfl)) (by decide) (by decide)) q614a q614c (g := (mkF m 180 #[.val (.long p1), .second, .val (.long b), .second, .val (.long p3), .second, .val (.long d), .second, .val (.long p5), .second, .val (.int p6), .val (.int (2 : Int32)), .val (.ref arr), .val (.int md), .val (.long q), .second, .val (.ref tl), .unset] [.null, (.long y533), (.ref tl)])) rfl (by rw [hml]; rfl) (Steps.refl _) (argsL := [(.long y533), .null]) (rest := []) (lenOf pd_3 rfl) rfl (by show 2 * 0 + _ ≤ _; exact Nat.le_of_eq rfl) (hb hby at_180) (fun _ _ => ⟨rfl, rfl, (by decide : 4 + 0 ≤ _), (by decide : 40 + 0 ≤ _)⟩)
    dsimp only [Pt.U, Pt.locs, Pt.cells, Pt.slots] at X614 l614 y614 z614 st614 hQ614
    subst l614 y614 z614
    obtain ⟨rfl, Nq614, Kp614, Fa614, Fb614, Fc614, Va614, Vb614⟩ := hQ614
    have N614 := Fr.app N602 Nq614
    have k614 : Kt p e below m (s₁.setTop (entryFrame m #[(.long p1), (.long p2), (.long p3), (.long p4), (.long p5), (.int p6)] maxLocals)) T614 183 #[.val (.long p1), .second, .val (.long b), .second, .val (.long p3), .second, .val (.long d), .second, .val (.long p5), .second, .val (.int p6), .val (.int (2 : Int32)), .val (.ref arr), .val (.int md), .val (.long q), .second, .val (.ref tl), .unset] [] := fun t ht => k613 t (st614.trans ht)
    have f615 : n0 ≤ T614.heap.size := Nat.le_trans f603 Kp614.1
    have f616 : Arv Z T614.heap arr ak498 .long (4 : Int32) [(.long y525), (.long y533), (.long y533'), (.long y529')] (.long (0 : Int64)) := f604.keep Kp614 (ninS ne_arr_tl (ninS ne_arr_tb (ninS ne_arr_vb nin0)))
    have f617 : Exa Z T614.heap tl "com/example/clearhour/clearhour/market/Timeline" := f605.keep Kp614
    have k623 : Kt p e below m (s₁.setTop (entryFrame m #[(.long p1), (.long p2), (.long p3), (.long p4), (.long p5), (.int p6)] maxLocals)) T614 228 #[.val (.long p1), .second, .val (.long b), .second, .val (.long p3), .second, .val (.long d), .second, .val (.long p5), .second, .val (.int p6), .val (.int (2 : Int32)), .val (.ref arr), .val (.int md), .val (.long q), .second, .val (.ref tl), .val (.int (0 : Int32))] [(.int (0 : Int32)), (.ref arr), (.int (0 : Int32))] := by
      intro t ht
      refine k614 t ?_
      show Steps p.tables e below (T614.setTop (mkF m 183 #[.val (.long p1), .second, .val (.long b), .second, .val (.long p3), .second, .val (.long d), .second, .val (.long p5), .second, .val (.int p6), .val (.int (2 : Int32)), .val (.ref arr), .val (.int md), .val (.long q), .second, .val (.ref tl), .unset] [])) t
      refine XS.iload X614.here hx rfl (hb hby at_183) rfl ?_
      show Steps p.tables e below (T614.setTop (mkF m 185 #[.val (.long p1), .second, .val (.long b), .second, .val (.long p3), .second, .val (.long d), .second, .val (.long p5), .second, .val (.int p6), .val (.int (2 : Int32)), .val (.ref arr), .val (.int md), .val (.long q), .second, .val (.ref tl), .unset] [(.int (2 : Int32))])) t
      refine XS.iconst X614.here hx rfl (hb hby at_185) ?_
      show Steps p.tables e below (T614.setTop (mkF m 186 #[.val (.long p1), .second, .val (.long b), .second, .val (.long p3), .second, .val (.long d), .second, .val (.long p5), .second, .val (.int p6), .val (.int (2 : Int32)), .val (.ref arr), .val (.int md), .val (.long q), .second, .val (.ref tl), .unset] [(.int (2 : Int32)), (.int (2 : Int32))])) t
      refine XS.icmpYes X614.here hx rfl (pc0 := 186) (pc' := 199) rfl (hb hby at_186) rfl (flt (by decide)).2.2.2 (by decide) (by decide) ?_
      show Steps p.tables e below (T614.setTop (mkF m 199 #[.val (.long p1), .second, .val (.long b), .second, .val (.long p3), .second, .val (.long d), .second, .val (.long p5), .second, .val (.int p6), .val (.int (2 : Int32)), .val (.ref arr), .val (.int md), .val (.long q), .second, .val (.ref tl), .unset] [])) t
      refine XS.iload X614.here hx rfl (hb hby at_199) rfl ?_
      show Steps p.tables e below (T614.setTop (mkF m 201 #[.val (.long p1), .second, .val (.long b), .second, .val (.long p3), .second, .val (.long d), .second, .val (.long p5), .second, .val (.int p6), .val (.int (2 : Int32)), .val (.ref arr), .val (.int md), .val (.long q), .second, .val (.ref tl), .unset] [(.int (2 : Int32))])) t
      refine XS.iconst X614.here hx rfl (hb hby at_201) ?_
      show Steps p.tables e below (T614.setTop (mkF m 202 #[.val (.long p1), .second, .val (.long b), .second, .val (.long p3), .second, .val (.long d), .second, .val (.long p5), .second, .val (.int p6), .val (.int (2 : Int32)), .val (.ref arr), .val (.int md), .val (.long q), .second, .val (.ref tl), .unset] [(.int (3 : Int32)), (.int (2 : Int32))])) t
      refine XS.icmpYes X614.here hx rfl (pc0 := 202) (pc' := 215) rfl (hb hby at_202) rfl (flt (by decide)).2.2.2 (by decide) (by decide) ?_
      show Steps p.tables e below (T614.setTop (mkF m 215 #[.val (.long p1), .second, .val (.long b), .second, .val (.long p3), .second, .val (.long d), .second, .val (.long p5), .second, .val (.int p6), .val (.int (2 : Int32)), .val (.ref arr), .val (.int md), .val (.long q), .second, .val (.ref tl), .unset] [])) t
      refine XS.iconst X614.here hx rfl (hb hby at_215) ?_
      show Steps p.tables e below (T614.setTop (mkF m 216 #[.val (.long p1), .second, .val (.long b), .second, .val (.long p3), .second, .val (.long d), .second, .val (.long p5), .second, .val (.int p6), .val (.int (2 : Int32)), .val (.ref arr), .val (.int md), .val (.long q), .second, .val (.ref tl), .unset] [(.int (0 : Int32))])) t
      refine XS.istore X614.here hx rfl (hb hby at_216) rfl (l' := #[.val (.long p1), .second, .val (.long b), .second, .val (.long p3), .second, .val (.long d), .second, .val (.long p5), .second, .val (.int p6), .val (.int (2 : Int32)), .val (.ref arr), .val (.int md), .val (.long q), .second, .val (.ref tl), .val (.int (0 : Int32))]) rfl ?_
      show Steps p.tables e below (T614.setTop (mkF m 218 #[.val (.long p1), .second, .val (.long b), .second, .val (.long p3), .second, .val (.long d), .second, .val (.long p5), .second, .val (.int p6), .val (.int (2 : Int32)), .val (.ref arr), .val (.int md), .val (.long q), .second, .val (.ref tl), .val (.int (0 : Int32))] [])) t
      refine XS.iload X614.here hx rfl (hb hby at_218) rfl ?_
      show Steps p.tables e below (T614.setTop (mkF m 220 #[.val (.long p1), .second, .val (.long b), .second, .val (.long p3), .second, .val (.long d), .second, .val (.long p5), .second, .val (.int p6), .val (.int (2 : Int32)), .val (.ref arr), .val (.int md), .val (.long q), .second, .val (.ref tl), .val (.int (0 : Int32))] [(.int (2 : Int32))])) t
      refine XS.ifNo X614.here hx rfl (hb hby at_220) rfl ((if0 _ _).trans (tlt (by decide)).2.2.2) ?_
      show Steps p.tables e below (T614.setTop (mkF m 223 #[.val (.long p1), .second, .val (.long b), .second, .val (.long p3), .second, .val (.long d), .second, .val (.long p5), .second, .val (.int p6), .val (.int (2 : Int32)), .val (.ref arr), .val (.int md), .val (.long q), .second, .val (.ref tl), .val (.int (0 : Int32))] [])) t
      refine XS.iload X614.here hx rfl (hb hby at_223) rfl ?_
      show Steps p.tables e below (T614.setTop (mkF m 225 #[.val (.long p1), .second, .val (.long b), .second, .val (.long p3), .second, .val (.long d), .second, .val (.long p5), .second, .val (.int p6), .val (.int (2 : Int32)), .val (.ref arr), .val (.int md), .val (.long q), .second, .val (.ref tl), .val (.int (0 : Int32))] [(.int (0 : Int32))])) t
      refine XS.aload X614.here hx rfl (hb hby at_225) rfl rfl ?_
      show Steps p.tables e below (T614.setTop (mkF m 227 #[.val (.long p1), .second, .val (.long b), .second, .val (.long p3), .second, .val (.long d), .second, .val (.long p5), .second, .val (.int p6), .val (.int (2 : Int32)), .val (.ref arr), .val (.int md), .val (.long q), .second, .val (.ref tl), .val (.int (0 : Int32))] [(.ref arr), (.int (0 : Int32))])) t
      refine XS.iconst X614.here hx rfl (hb hby at_227) ?_
      exact ht
    obtain ⟨cl624, Ar624, qc624, Sz624, Nn624, Hh624, Gg624⟩ := id f616
    have hin624 : ¬ ((0 : Int32) < 0 ∨ cl624.slots.size ≤ ((0 : Int32)).toNatClampNeg) := inb_of Sz624 ⟨by decide, by decide⟩
    have hat624 : cl624.slots[((0 : Int32)).toNatClampNeg]? = some (.long y525) := Hh624.at hin624 rfl
    have k625 : Kt p e below m (s₁.setTop (entryFrame m #[(.long p1), (.long p2), (.long p3), (.long p4), (.long p5), (.int p6)] maxLocals)) T614 231 #[.val (.long p1), .second, .val (.long b), .second, .val (.long p3), .second, .val (.long d), .second, .val (.long p5), .second, .val (.int p6), .val (.int (2 : Int32)), .val (.ref arr), .val (.int md), .val (.long q), .second, .val (.ref tl), .val (.int (0 : Int32))] [(.long q), (.long y525), (.int (0 : Int32))] := by
      intro t ht
      refine k623 t ?_
      show Steps p.tables e below (T614.setTop (mkF m 228 #[.val (.long p1), .second, .val (.long b), .second, .val (.long p3), .second, .val (.long d), .second, .val (.long p5), .second, .val (.int p6), .val (.int (2 : Int32)), .val (.ref arr), .val (.int md), .val (.long q), .second, .val (.ref tl), .val (.int (0 : Int32))] [(.int (0 : Int32)), (.ref arr), (.int (0 : Int32))])) t
      refine X614.laload hx (j := (0 : Int32)) (v := (.long y525)) Ar624.1 (State.isArrayOf_alike hZ.alike Ar624.2.1) Ar624.2.2 hin624 hat624 (g := (mkF m 228 #[.val (.long p1), .second, .val (.long b), .second, .val (.long p3), .second, .val (.long d), .second, .val (.long p5), .second, .val (.int p6), .val (.int (2 : Int32)), .val (.ref arr), .val (.int md), .val (.long q), .second, .val (.ref tl), .val (.int (0 : Int32))] [(.int (0 : Int32)), (.ref arr), (.int (0 : Int32))])) rfl rfl (hb hby at_228) _ ?_
      show Steps p.tables e below (T614.setTop (mkF m 229 #[.val (.long p1), .second, .val (.long b), .second, .val (.long p3), .second, .val (.long d), .second, .val (.long p5), .second, .val (.int p6), .val (.int (2 : Int32)), .val (.ref arr), .val (.int md), .val (.long q), .second, .val (.ref tl), .val (.int (0 : Int32))] [(.long y525), (.int (0 : Int32))])) t
      refine XS.lload X614.here hx rfl (hb hby at_229) rfl ?_
      exact ht
    obtain ⟨_, _, ⟨T626, L626, c626, n626⟩, -, X626, ⟨Lc626, hQ626, l626, y626, z626⟩, st626⟩ := Jvm.LawKit.callS X614 hx (y := (⟨"com/example/clearhour/clearhour/market/TimelineIndexFromPinLaw", "lt", "(JJ)I"⟩ : MethodName)) hown (mvT hZ (hw _ (List.mem_of_getElem? (i := 29) rfl))) (mvT hZ (hw _ (List.mem_of_getElem? (i := 30) rfl))) (mvT hZ (hw _ (List.mem_of_getElem? (i := 3) rfl))) (mvT hZ (hw _ (List.mem_of_getElem? (i := 31) rfl))) (by decide) (backOf (W := 1) (rm5 l Z a0 hw [] y525 q T614.heap n0 f615 ) hZ (hw _ (List.mem_of_getElem? (i := 31) rfl)) (hw _ (List.mem_of_getElem? (i := 3) rfl)) (by decide) (by decide)) (g := (mkF m 231 #[.val (.long p1), .second, .val (.long b), .second, .val (.long p3), .second, .val (.long d), .second, .val (.long p5), .second, .val (.int p6), .val (.int (2 : Int32)), .val (.ref arr), .val (.int md), .val (.long q), .second, .val (.ref tl), .val (.int (0 : Int32))] [(.long q), (.long y525), (.int (0 : Int32))])) rfl (by rw [hml]; rfl) (argsL := [(.long y525), (.long q)]) (rest := [(.int (0 : Int32))]) (lenOf pd_2 rfl) rfl (by show 2 * 0 + _ ≤ _; exact Nat.le_of_eq rfl) (hb hby at_231) (fun _ _ => ⟨rfl, rfl, (by decide : 4 + 0 ≤ _), (by decide : 40 + 0 ≤ _)⟩)
    dsimp only [Pt.U, Pt.locs, Pt.cells, Pt.slots] at X626 l626 y626 z626 st626 hQ626
    subst l626 y626 z626
    obtain ⟨rfl, Nq626, eq626⟩ := hQ626
    have N626 := Fr.app N614 Nq626
    have k626 : Kt p e below m (s₁.setTop (entryFrame m #[(.long p1), (.long p2), (.long p3), (.long p4), (.long p5), (.int p6)] maxLocals)) T626 234 #[.val (.long p1), .second, .val (.long b), .second, .val (.long p3), .second, .val (.long d), .second, .val (.long p5), .second, .val (.int p6), .val (.int (2 : Int32)), .val (.ref arr), .val (.int md), .val (.long q), .second, .val (.ref tl), .val (.int (0 : Int32))] [(.int (own_b (y525 < q))), (.int (0 : Int32))] := fun t ht => k625 t (st626 t ht)
    have f627 : n0 ≤ T626.heap.size := by rw [eq626]; exact f615
    have f628 : Arv Z T626.heap arr ak498 .long (4 : Int32) [(.long y525), (.long y533), (.long y533'), (.long y529')] (.long (0 : Int64)) := by rw [eq626]; exact f616
    have f629 : Exa Z T626.heap tl "com/example/clearhour/clearhour/market/Timeline" := by rw [eq626]; exact f617
    have f630 : Fld Z T626.heap tl "com/example/clearhour/clearhour/market/Timeline" "times" "[J" (.ref tb) := by rw [eq626]; exact Fa614
    have f631 : Fld Z T626.heap tl "com/example/clearhour/clearhour/market/Timeline" "values" "[Ljava/lang/Object;" (.ref vb) := by rw [eq626]; exact Fb614
    have f632 : Fld Z T626.heap tl "com/example/clearhour/clearhour/market/Timeline" "size" "I" (.int (2 : Int32)) := by rw [eq626]; exact Fc614
    have f633 : Arv Z T626.heap tb kt .long (16 : Int32) [(.long y525), (.long y533), (.long (0 : Int64)), (.long (0 : Int64))] (.long (0 : Int64)) := by rw [eq626]; exact Va614
    have f634 : Arv Z T626.heap vb kv (.object "java/lang/Object") (16 : Int32) [.null, .null, .null, .null] .null := by rw [eq626]; exact Vb614
    have k635 : Kt p e below m (s₁.setTop (entryFrame m #[(.long p1), (.long p2), (.long p3), (.long p4), (.long p5), (.int p6)] maxLocals)) T626 248 #[.val (.long p1), .second, .val (.long b), .second, .val (.long p3), .second, .val (.long d), .second, .val (.long p5), .second, .val (.int p6), .val (.int (2 : Int32)), .val (.ref arr), .val (.int md), .val (.long q), .second, .val (.ref tl), .val (.int ((0 : Int32) + (own_b (y525 < q))))] [(.int (1 : Int32)), (.ref arr), (.int ((0 : Int32) + (own_b (y525 < q))))] := by
      intro t ht
      refine k626 t ?_
      show Steps p.tables e below (T626.setTop (mkF m 234 #[.val (.long p1), .second, .val (.long b), .second, .val (.long p3), .second, .val (.long d), .second, .val (.long p5), .second, .val (.int p6), .val (.int (2 : Int32)), .val (.ref arr), .val (.int md), .val (.long q), .second, .val (.ref tl), .val (.int (0 : Int32))] [(.int (own_b (y525 < q))), (.int (0 : Int32))])) t
      refine XS.iadd X626.here hx rfl (hb hby at_234) rfl ?_
      show Steps p.tables e below (T626.setTop (mkF m 235 #[.val (.long p1), .second, .val (.long b), .second, .val (.long p3), .second, .val (.long d), .second, .val (.long p5), .second, .val (.int p6), .val (.int (2 : Int32)), .val (.ref arr), .val (.int md), .val (.long q), .second, .val (.ref tl), .val (.int (0 : Int32))] [(.int ((0 : Int32) + (own_b (y525 < q))))])) t
      refine XS.istore X626.here hx rfl (hb hby at_235) rfl (l' := #[.val (.long p1), .second, .val (.long b), .second, .val (.long p3), .second, .val (.long d), .second, .val (.long p5), .second, .val (.int p6), .val (.int (2 : Int32)), .val (.ref arr), .val (.int md), .val (.long q), .second, .val (.ref tl), .val (.int ((0 : Int32) + (own_b (y525 < q))))]) rfl ?_
      show Steps p.tables e below (T626.setTop (mkF m 237 #[.val (.long p1), .second, .val (.long b), .second, .val (.long p3), .second, .val (.long d), .second, .val (.long p5), .second, .val (.int p6), .val (.int (2 : Int32)), .val (.ref arr), .val (.int md), .val (.long q), .second, .val (.ref tl), .val (.int ((0 : Int32) + (own_b (y525 < q))))] [])) t
      refine XS.iload X626.here hx rfl (hb hby at_237) rfl ?_
      show Steps p.tables e below (T626.setTop (mkF m 239 #[.val (.long p1), .second, .val (.long b), .second, .val (.long p3), .second, .val (.long d), .second, .val (.long p5), .second, .val (.int p6), .val (.int (2 : Int32)), .val (.ref arr), .val (.int md), .val (.long q), .second, .val (.ref tl), .val (.int ((0 : Int32) + (own_b (y525 < q))))] [(.int (2 : Int32))])) t
      refine XS.iconst X626.here hx rfl (hb hby at_239) ?_
      show Steps p.tables e below (T626.setTop (mkF m 240 #[.val (.long p1), .second, .val (.long b), .second, .val (.long p3), .second, .val (.long d), .second, .val (.long p5), .second, .val (.int p6), .val (.int (2 : Int32)), .val (.ref arr), .val (.int md), .val (.long q), .second, .val (.ref tl), .val (.int ((0 : Int32) + (own_b (y525 < q))))] [(.int (1 : Int32)), (.int (2 : Int32))])) t
      refine XS.icmpNo X626.here hx rfl (hb hby at_240) rfl (tlt (by decide)).2.2.2 ?_
      show Steps p.tables e below (T626.setTop (mkF m 243 #[.val (.long p1), .second, .val (.long b), .second, .val (.long p3), .second, .val (.long d), .second, .val (.long p5), .second, .val (.int p6), .val (.int (2 : Int32)), .val (.ref arr), .val (.int md), .val (.long q), .second, .val (.ref tl), .val (.int ((0 : Int32) + (own_b (y525 < q))))] [])) t
      refine XS.iload X626.here hx rfl (hb hby at_243) rfl ?_
      show Steps p.tables e below (T626.setTop (mkF m 245 #[.val (.long p1), .second, .val (.long b), .second, .val (.long p3), .second, .val (.long d), .second, .val (.long p5), .second, .val (.int p6), .val (.int (2 : Int32)), .val (.ref arr), .val (.int md), .val (.long q), .second, .val (.ref tl), .val (.int ((0 : Int32) + (own_b (y525 < q))))] [(.int ((0 : Int32) + (own_b (y525 < q))))])) t
      refine XS.aload X626.here hx rfl (hb hby at_245) rfl rfl ?_
      show Steps p.tables e below (T626.setTop (mkF m 247 #[.val (.long p1), .second, .val (.long b), .second, .val (.long p3), .second, .val (.long d), .second, .val (.long p5), .second, .val (.int p6), .val (.int (2 : Int32)), .val (.ref arr), .val (.int md), .val (.long q), .second, .val (.ref tl), .val (.int ((0 : Int32) + (own_b (y525 < q))))] [(.ref arr), (.int ((0 : Int32) + (own_b (y525 < q))))])) t
      refine XS.iconst X626.here hx rfl (hb hby at_247) ?_
      exact ht
    obtain ⟨cl636, Ar636, qc636, Sz636, Nn636, Hh636, Gg636⟩ := id f628
    have hin636 : ¬ ((1 : Int32) < 0 ∨ cl636.slots.size ≤ ((1 : Int32)).toNatClampNeg) := inb_of Sz636 ⟨by decide, by decide⟩
    have hat636 : cl636.slots[((1 : Int32)).toNatClampNeg]? = some (.long y533) := Hh636.at hin636 rfl
    have k637 : Kt p e below m (s₁.setTop (entryFrame m #[(.long p1), (.long p2), (.long p3), (.long p4), (.long p5), (.int p6)] maxLocals)) T626 251 #[.val (.long p1), .second, .val (.long b), .second, .val (.long p3), .second, .val (.long d), .second, .val (.long p5), .second, .val (.int p6), .val (.int (2 : Int32)), .val (.ref arr), .val (.int md), .val (.long q), .second, .val (.ref tl), .val (.int ((0 : Int32) + (own_b (y525 < q))))] [(.long q), (.long y533), (.int ((0 : Int32) + (own_b (y525 < q))))] := by
      intro t ht
      refine k635 t ?_
      show Steps p.tables e below (T626.setTop (mkF m 248 #[.val (.long p1), .second, .val (.long b), .second, .val (.long p3), .second, .val (.long d), .second, .val (.long p5), .second, .val (.int p6), .val (.int (2 : Int32)), .val (.ref arr), .val (.int md), .val (.long q), .second, .val (.ref tl), .val (.int ((0 : Int32) + (own_b (y525 < q))))] [(.int (1 : Int32)), (.ref arr), (.int ((0 : Int32) + (own_b (y525 < q))))])) t
      refine X626.laload hx (j := (1 : Int32)) (v := (.long y533)) Ar636.1 (State.isArrayOf_alike hZ.alike Ar636.2.1) Ar636.2.2 hin636 hat636 (g := (mkF m 248 #[.val (.long p1), .second, .val (.long b), .second, .val (.long p3), .second, .val (.long d), .second, .val (.long p5), .second, .val (.int p6), .val (.int (2 : Int32)), .val (.ref arr), .val (.int md), .val (.long q), .second, .val (.ref tl), .val (.int ((0 : Int32) + (own_b (y525 < q))))] [(.int (1 : Int32)), (.ref arr), (.int ((0 : Int32) + (own_b (y525 < q))))])) rfl rfl (hb hby at_248) _ ?_
      show Steps p.tables e below (T626.setTop (mkF m 249 #[.val (.long p1), .second, .val (.long b), .second, .val (.long p3), .second, .val (.long d), .second, .val (.long p5), .second, .val (.int p6), .val (.int (2 : Int32)), .val (.ref arr), .val (.int md), .val (.long q), .second, .val (.ref tl), .val (.int ((0 : Int32) + (own_b (y525 < q))))] [(.long y533), (.int ((0 : Int32) + (own_b (y525 < q))))])) t
      refine XS.lload X626.here hx rfl (hb hby at_249) rfl ?_
      exact ht
    obtain ⟨_, _, ⟨T638, L638, c638, n638⟩, -, X638, ⟨Lc638, hQ638, l638, y638, z638⟩, st638⟩ := Jvm.LawKit.callS X626 hx (y := (⟨"com/example/clearhour/clearhour/market/TimelineIndexFromPinLaw", "lt", "(JJ)I"⟩ : MethodName)) hown (mvT hZ (hw _ (List.mem_of_getElem? (i := 29) rfl))) (mvT hZ (hw _ (List.mem_of_getElem? (i := 30) rfl))) (mvT hZ (hw _ (List.mem_of_getElem? (i := 3) rfl))) (mvT hZ (hw _ (List.mem_of_getElem? (i := 31) rfl))) (by decide) (backOf (W := 1) (rm5 l Z a0 hw [] y533 q T626.heap n0 f627 ) hZ (hw _ (List.mem_of_getElem? (i := 31) rfl)) (hw _ (List.mem_of_getElem? (i := 3) rfl)) (by decide) (by decide)) (g := (mkF m 251 #[.val (.long p1), .second, .val (.long b), .second, .val (.long p3), .second, .val (.long d), .second, .val (.long p5), .second, .val (.int p6), .val (.int (2 : Int32)), .val (.ref arr), .val (.int md), .val (.long q), .second, .val (.ref tl), .val (.int ((0 : Int32) + (own_b (y525 < q))))] [(.long q), (.long y533), (.int ((0 : Int32) + (own_b (y525 < q))))])) rfl (by rw [hml]; rfl) (argsL := [(.long y533), (.long q)]) (rest := [(.int ((0 : Int32) + (own_b (y525 < q))))]) (lenOf pd_2 rfl) rfl (by show 2 * 0 + _ ≤ _; exact Nat.le_of_eq rfl) (hb hby at_251) (fun _ _ => ⟨rfl, rfl, (by decide : 4 + 0 ≤ _), (by decide : 40 + 0 ≤ _)⟩)
    dsimp only [Pt.U, Pt.locs, Pt.cells, Pt.slots] at X638 l638 y638 z638 st638 hQ638
    subst l638 y638 z638
    obtain ⟨rfl, Nq638, eq638⟩ := hQ638
    have N638 := Fr.app N626 Nq638
    have k638 : Kt p e below m (s₁.setTop (entryFrame m #[(.long p1), (.long p2), (.long p3), (.long p4), (.long p5), (.int p6)] maxLocals)) T638 254 #[.val (.long p1), .second, .val (.long b), .second, .val (.long p3), .second, .val (.long d), .second, .val (.long p5), .second, .val (.int p6), .val (.int (2 : Int32)), .val (.ref arr), .val (.int md), .val (.long q), .second, .val (.ref tl), .val (.int ((0 : Int32) + (own_b (y525 < q))))] [(.int (own_b (y533 < q))), (.int ((0 : Int32) + (own_b (y525 < q))))] := fun t ht => k637 t (st638 t ht)
    have f639 : n0 ≤ T638.heap.size := by rw [eq638]; exact f627
    have f640 : Arv Z T638.heap arr ak498 .long (4 : Int32) [(.long y525), (.long y533), (.long y533'), (.long y529')] (.long (0 : Int64)) := by rw [eq638]; exact f628
    have f641 : Exa Z T638.heap tl "com/example/clearhour/clearhour/market/Timeline" := by rw [eq638]; exact f629
    have f642 : Fld Z T638.heap tl "com/example/clearhour/clearhour/market/Timeline" "times" "[J" (.ref tb) := by rw [eq638]; exact f630
    have f643 : Fld Z T638.heap tl "com/example/clearhour/clearhour/market/Timeline" "values" "[Ljava/lang/Object;" (.ref vb) := by rw [eq638]; exact f631
    have f644 : Fld Z T638.heap tl "com/example/clearhour/clearhour/market/Timeline" "size" "I" (.int (2 : Int32)) := by rw [eq638]; exact f632
    have f645 : Arv Z T638.heap tb kt .long (16 : Int32) [(.long y525), (.long y533), (.long (0 : Int64)), (.long (0 : Int64))] (.long (0 : Int64)) := by rw [eq638]; exact f633
    have f646 : Arv Z T638.heap vb kv (.object "java/lang/Object") (16 : Int32) [.null, .null, .null, .null] .null := by rw [eq638]; exact f634
    have k647 : Kt p e below m (s₁.setTop (entryFrame m #[(.long p1), (.long p2), (.long p3), (.long p4), (.long p5), (.int p6)] maxLocals)) T638 301 #[.val (.long p1), .second, .val (.long b), .second, .val (.long p3), .second, .val (.long d), .second, .val (.long p5), .second, .val (.int p6), .val (.int (2 : Int32)), .val (.ref arr), .val (.int md), .val (.long q), .second, .val (.ref tl), .val (.int (((0 : Int32) + (own_b (y525 < q))) + (own_b (y533 < q))))] [(.long q), (.ref tl)] := by
      intro t ht
      refine k638 t ?_
      show Steps p.tables e below (T638.setTop (mkF m 254 #[.val (.long p1), .second, .val (.long b), .second, .val (.long p3), .second, .val (.long d), .second, .val (.long p5), .second, .val (.int p6), .val (.int (2 : Int32)), .val (.ref arr), .val (.int md), .val (.long q), .second, .val (.ref tl), .val (.int ((0 : Int32) + (own_b (y525 < q))))] [(.int (own_b (y533 < q))), (.int ((0 : Int32) + (own_b (y525 < q))))])) t
      refine XS.iadd X638.here hx rfl (hb hby at_254) rfl ?_
      show Steps p.tables e below (T638.setTop (mkF m 255 #[.val (.long p1), .second, .val (.long b), .second, .val (.long p3), .second, .val (.long d), .second, .val (.long p5), .second, .val (.int p6), .val (.int (2 : Int32)), .val (.ref arr), .val (.int md), .val (.long q), .second, .val (.ref tl), .val (.int ((0 : Int32) + (own_b (y525 < q))))] [(.int (((0 : Int32) + (own_b (y525 < q))) + (own_b (y533 < q))))])) t
      refine XS.istore X638.here hx rfl (hb hby at_255) rfl (l' := #[.val (.long p1), .second, .val (.long b), .second, .val (.long p3), .second, .val (.long d), .second, .val (.long p5), .second, .val (.int p6), .val (.int (2 : Int32)), .val (.ref arr), .val (.int md), .val (.long q), .second, .val (.ref tl), .val (.int (((0 : Int32) + (own_b (y525 < q))) + (own_b (y533 < q))))]) rfl ?_
      show Steps p.tables e below (T638.setTop (mkF m 257 #[.val (.long p1), .second, .val (.long b), .second, .val (.long p3), .second, .val (.long d), .second, .val (.long p5), .second, .val (.int p6), .val (.int (2 : Int32)), .val (.ref arr), .val (.int md), .val (.long q), .second, .val (.ref tl), .val (.int (((0 : Int32) + (own_b (y525 < q))) + (own_b (y533 < q))))] [])) t
      refine XS.iload X638.here hx rfl (hb hby at_257) rfl ?_
      show Steps p.tables e below (T638.setTop (mkF m 259 #[.val (.long p1), .second, .val (.long b), .second, .val (.long p3), .second, .val (.long d), .second, .val (.long p5), .second, .val (.int p6), .val (.int (2 : Int32)), .val (.ref arr), .val (.int md), .val (.long q), .second, .val (.ref tl), .val (.int (((0 : Int32) + (own_b (y525 < q))) + (own_b (y533 < q))))] [(.int (2 : Int32))])) t
      refine XS.iconst X638.here hx rfl (hb hby at_259) ?_
      show Steps p.tables e below (T638.setTop (mkF m 260 #[.val (.long p1), .second, .val (.long b), .second, .val (.long p3), .second, .val (.long d), .second, .val (.long p5), .second, .val (.int p6), .val (.int (2 : Int32)), .val (.ref arr), .val (.int md), .val (.long q), .second, .val (.ref tl), .val (.int (((0 : Int32) + (own_b (y525 < q))) + (own_b (y533 < q))))] [(.int (2 : Int32)), (.int (2 : Int32))])) t
      refine XS.icmpYes X638.here hx rfl (pc0 := 260) (pc' := 277) rfl (hb hby at_260) rfl (flt (by decide)).2.2.2 (by decide) (by decide) ?_
      show Steps p.tables e below (T638.setTop (mkF m 277 #[.val (.long p1), .second, .val (.long b), .second, .val (.long p3), .second, .val (.long d), .second, .val (.long p5), .second, .val (.int p6), .val (.int (2 : Int32)), .val (.ref arr), .val (.int md), .val (.long q), .second, .val (.ref tl), .val (.int (((0 : Int32) + (own_b (y525 < q))) + (own_b (y533 < q))))] [])) t
      refine XS.iload X638.here hx rfl (hb hby at_277) rfl ?_
      show Steps p.tables e below (T638.setTop (mkF m 279 #[.val (.long p1), .second, .val (.long b), .second, .val (.long p3), .second, .val (.long d), .second, .val (.long p5), .second, .val (.int p6), .val (.int (2 : Int32)), .val (.ref arr), .val (.int md), .val (.long q), .second, .val (.ref tl), .val (.int (((0 : Int32) + (own_b (y525 < q))) + (own_b (y533 < q))))] [(.int (2 : Int32))])) t
      refine XS.iconst X638.here hx rfl (hb hby at_279) ?_
      show Steps p.tables e below (T638.setTop (mkF m 280 #[.val (.long p1), .second, .val (.long b), .second, .val (.long p3), .second, .val (.long d), .second, .val (.long p5), .second, .val (.int p6), .val (.int (2 : Int32)), .val (.ref arr), .val (.int md), .val (.long q), .second, .val (.ref tl), .val (.int (((0 : Int32) + (own_b (y525 < q))) + (own_b (y533 < q))))] [(.int (3 : Int32)), (.int (2 : Int32))])) t
      refine XS.icmpYes X638.here hx rfl (pc0 := 280) (pc' := 297) rfl (hb hby at_280) rfl (flt (by decide)).2.2.2 (by decide) (by decide) ?_
      show Steps p.tables e below (T638.setTop (mkF m 297 #[.val (.long p1), .second, .val (.long b), .second, .val (.long p3), .second, .val (.long d), .second, .val (.long p5), .second, .val (.int p6), .val (.int (2 : Int32)), .val (.ref arr), .val (.int md), .val (.long q), .second, .val (.ref tl), .val (.int (((0 : Int32) + (own_b (y525 < q))) + (own_b (y533 < q))))] [])) t
      refine XS.aload X638.here hx rfl (hb hby at_297) rfl rfl ?_
      show Steps p.tables e below (T638.setTop (mkF m 299 #[.val (.long p1), .second, .val (.long b), .second, .val (.long p3), .second, .val (.long d), .second, .val (.long p5), .second, .val (.int p6), .val (.int (2 : Int32)), .val (.ref arr), .val (.int md), .val (.long q), .second, .val (.ref tl), .val (.int (((0 : Int32) + (own_b (y525 < q))) + (own_b (y533 < q))))] [(.ref tl)])) t
      refine XS.lload X638.here hx rfl (hb hby at_299) rfl ?_
      exact ht
    obtain ⟨cq648, kq648, q648a, q648b, q648c⟩ := isOf hZ rfl f641
    obtain ⟨_, _, ⟨T648, L648, c648, n648⟩, -, X648, ⟨Lc648, hQ648, l648, y648, z648⟩, st648⟩ := X638.virtualBack hx (y := (⟨"com/example/clearhour/clearhour/market/Timeline", "indexFrom", "(J)I"⟩ : MethodName)) (z := (⟨"com/example/clearhour/clearhour/market/Timeline", "indexFrom", "(J)I"⟩ : MethodName)) hown (mvT hZ (hw _ (List.mem_of_getElem? (i := 32) rfl))) (mvT hZ (hw _ (List.mem_of_getElem? (i := 33) rfl))) (notFace_of_selects (args := #[]) (mvT hZ (hw _ (List.mem_of_getElem? (i := 35) rfl)))) (mvT hZ (hw _ (List.mem_of_getElem? (i := 35) rfl))) (mvT hZ (hw _ (List.mem_of_getElem? (i := 34) rfl))) (by decide) (backOf (W := 0) (rmix2 l Z a0 hw [] tl q tb kt y525 y533 (0 : Int64) (0 : Int64) T638.heap n0 f639 f642 f644 f645 o0) hZ (hw _ (List.mem_of_getElem? (i := 36) rfl)) (hw _ (List.mem_of_getElem? (i := 7) rfl)) (by decide) (by decide)) q648a q648c (g := (mkF m 301 #[.val (.long p1), .second, .val (.long b), .second, .val (.long p3), .second, .val (.long d), .second, .val (.long p5), .second, .val (.int p6), .val (.int (2 : Int32)), .val (.ref arr), .val (.int md), .val (.long q), .second, .val (.ref tl), .val (.int (((0 : Int32) + (own_b (y525 < q))) + (own_b (y533 < q))))] [(.long q), (.ref tl)])) rfl (by rw [hml]; rfl) (Steps.refl _) (argsL := [(.long q)]) (rest := []) (lenOf pd_1 rfl) rfl (by show 2 * 0 + _ ≤ _; exact Nat.le_of_eq rfl) (hb hby at_301) (fun _ _ => ⟨rfl, rfl, (by decide : 4 + 0 ≤ _), (by decide : 40 + 0 ≤ _)⟩)
    dsimp only [Pt.U, Pt.locs, Pt.cells, Pt.slots] at X648 l648 y648 z648 st648 hQ648
    subst l648 y648 z648
    obtain ⟨rfl, Nq648, eqz⟩ := hQ648
    have N648 := Fr.app N638 Nq648
    have k648 : Kt p e below m (s₁.setTop (entryFrame m #[(.long p1), (.long p2), (.long p3), (.long p4), (.long p5), (.int p6)] maxLocals)) T648 304 #[.val (.long p1), .second, .val (.long b), .second, .val (.long p3), .second, .val (.long d), .second, .val (.long p5), .second, .val (.int p6), .val (.int (2 : Int32)), .val (.ref arr), .val (.int md), .val (.long q), .second, .val (.ref tl), .val (.int (((0 : Int32) + (own_b (y525 < q))) + (own_b (y533 < q))))] [(.int (((0 : Int32) + (own_b (y525 < q))) + (own_b (y533 < q))))] := fun t ht => k647 t (st648.trans ht)
    have k649 : Kt p e below m (s₁.setTop (entryFrame m #[(.long p1), (.long p2), (.long p3), (.long p4), (.long p5), (.int p6)] maxLocals)) T648 314 #[.val (.long p1), .second, .val (.long b), .second, .val (.long p3), .second, .val (.long d), .second, .val (.long p5), .second, .val (.int p6), .val (.int (2 : Int32)), .val (.ref arr), .val (.int md), .val (.long q), .second, .val (.ref tl), .val (.int (((0 : Int32) + (own_b (y525 < q))) + (own_b (y533 < q))))] [(.int (1 : Int32))] := by
      intro t ht
      refine k648 t ?_
      show Steps p.tables e below (T648.setTop (mkF m 304 #[.val (.long p1), .second, .val (.long b), .second, .val (.long p3), .second, .val (.long d), .second, .val (.long p5), .second, .val (.int p6), .val (.int (2 : Int32)), .val (.ref arr), .val (.int md), .val (.long q), .second, .val (.ref tl), .val (.int (((0 : Int32) + (own_b (y525 < q))) + (own_b (y533 < q))))] [(.int (((0 : Int32) + (own_b (y525 < q))) + (own_b (y533 < q))))])) t
      refine XS.iload X648.here hx rfl (hb hby at_304) rfl ?_
      show Steps p.tables e below (T648.setTop (mkF m 306 #[.val (.long p1), .second, .val (.long b), .second, .val (.long p3), .second, .val (.long d), .second, .val (.long p5), .second, .val (.int p6), .val (.int (2 : Int32)), .val (.ref arr), .val (.int md), .val (.long q), .second, .val (.ref tl), .val (.int (((0 : Int32) + (own_b (y525 < q))) + (own_b (y533 < q))))] [(.int (((0 : Int32) + (own_b (y525 < q))) + (own_b (y533 < q)))), (.int (((0 : Int32) + (own_b (y525 < q))) + (own_b (y533 < q))))])) t
      refine XS.icmpNo X648.here hx rfl (hb hby at_306) rfl (teq rfl).2 ?_
      show Steps p.tables e below (T648.setTop (mkF m 309 #[.val (.long p1), .second, .val (.long b), .second, .val (.long p3), .second, .val (.long d), .second, .val (.long p5), .second, .val (.int p6), .val (.int (2 : Int32)), .val (.ref arr), .val (.int md), .val (.long q), .second, .val (.ref tl), .val (.int (((0 : Int32) + (own_b (y525 < q))) + (own_b (y533 < q))))] [])) t
      refine XS.iconst X648.here hx rfl (hb hby at_309) ?_
      show Steps p.tables e below (T648.setTop (mkF m 310 #[.val (.long p1), .second, .val (.long b), .second, .val (.long p3), .second, .val (.long d), .second, .val (.long p5), .second, .val (.int p6), .val (.int (2 : Int32)), .val (.ref arr), .val (.int md), .val (.long q), .second, .val (.ref tl), .val (.int (((0 : Int32) + (own_b (y525 < q))) + (own_b (y533 < q))))] [(.int (1 : Int32))])) t
      refine XS.goto X648.here hx rfl (pc0 := 310) (pc' := 314) rfl (hb hby at_310) (by decide) (by decide) ?_
      exact ht
    obtain ⟨fs, hr, hrun, hended, hW, hsame⟩ := X648.leave (v := some (.int (1 : Int32))) (fun h => by rw [Bd.returns] at h; cases h)
    refine ⟨_, _, k649 _ ?_, hrun, hended, _, _, rfl, ?_, ⟨_, rfl⟩, hW, hsame.mono (by decide) (by decide)⟩
    · exact retN X648 hx (t := .boolean) Bd.returns (by simp) (hb hby at_314) hr
    · show Q0 Z p1 p2 p3 p4 p5 p6 h0 n0 _ T648.heap _
      exact ⟨rfl, N648⟩
  · rw [hN] at k568
    have k650 : Kt p e below m (s₁.setTop (entryFrame m #[(.long p1), (.long p2), (.long p3), (.long p4), (.long p5), (.int p6)] maxLocals)) T560 162 #[.val (.long p1), .second, .val (.long b), .second, .val (.long p3), .second, .val (.long d), .second, .val (.long p5), .second, .val (.int p6), .val (.int (3 : Int32)), .val (.ref arr), .val (.int md), .val (.long q), .second, .val (.ref tl), .unset] [(.int (0 : Int32)), (.ref arr), (.ref tl)] := by
      intro t ht
      refine k568 t ?_
      show Steps p.tables e below (T560.setTop (mkF m 154 #[.val (.long p1), .second, .val (.long b), .second, .val (.long p3), .second, .val (.long d), .second, .val (.long p5), .second, .val (.int p6), .val (.int (3 : Int32)), .val (.ref arr), .val (.int md), .val (.long q), .second, .val (.ref tl), .unset] [(.int (3 : Int32))])) t
      refine XS.ifNo X560.here hx rfl (hb hby at_154) rfl ((if0 _ _).trans (tlt (by decide)).2.2.2) ?_
      show Steps p.tables e below (T560.setTop (mkF m 157 #[.val (.long p1), .second, .val (.long b), .second, .val (.long p3), .second, .val (.long d), .second, .val (.long p5), .second, .val (.int p6), .val (.int (3 : Int32)), .val (.ref arr), .val (.int md), .val (.long q), .second, .val (.ref tl), .unset] [])) t
      refine XS.aload X560.here hx rfl (hb hby at_157) rfl rfl ?_
      show Steps p.tables e below (T560.setTop (mkF m 159 #[.val (.long p1), .second, .val (.long b), .second, .val (.long p3), .second, .val (.long d), .second, .val (.long p5), .second, .val (.int p6), .val (.int (3 : Int32)), .val (.ref arr), .val (.int md), .val (.long q), .second, .val (.ref tl), .unset] [(.ref tl)])) t
      refine XS.aload X560.here hx rfl (hb hby at_159) rfl rfl ?_
      show Steps p.tables e below (T560.setTop (mkF m 161 #[.val (.long p1), .second, .val (.long b), .second, .val (.long p3), .second, .val (.long d), .second, .val (.long p5), .second, .val (.int p6), .val (.int (3 : Int32)), .val (.ref arr), .val (.int md), .val (.long q), .second, .val (.ref tl), .unset] [(.ref arr), (.ref tl)])) t
      refine XS.iconst X560.here hx rfl (hb hby at_161) ?_
      exact ht
    obtain ⟨cl651, Ar651, qc651, Sz651, Nn651, Hh651, Gg651⟩ := id f562
    have hin651 : ¬ ((0 : Int32) < 0 ∨ cl651.slots.size ≤ ((0 : Int32)).toNatClampNeg) := inb_of Sz651 ⟨by decide, by decide⟩
    have hat651 : cl651.slots[((0 : Int32)).toNatClampNeg]? = some (.long y525) := Hh651.at hin651 rfl
    have k652 : Kt p e below m (s₁.setTop (entryFrame m #[(.long p1), (.long p2), (.long p3), (.long p4), (.long p5), (.int p6)] maxLocals)) T560 164 #[.val (.long p1), .second, .val (.long b), .second, .val (.long p3), .second, .val (.long d), .second, .val (.long p5), .second, .val (.int p6), .val (.int (3 : Int32)), .val (.ref arr), .val (.int md), .val (.long q), .second, .val (.ref tl), .unset] [.null, (.long y525), (.ref tl)] := by
      intro t ht
      refine k650 t ?_
      show Steps p.tables e below (T560.setTop (mkF m 162 #[.val (.long p1), .second, .val (.long b), .second, .val (.long p3), .second, .val (.long d), .second, .val (.long p5), .second, .val (.int p6), .val (.int (3 : Int32)), .val (.ref arr), .val (.int md), .val (.long q), .second, .val (.ref tl), .unset] [(.int (0 : Int32)), (.ref arr), (.ref tl)])) t
      refine X560.laload hx (j := (0 : Int32)) (v := (.long y525)) Ar651.1 (State.isArrayOf_alike hZ.alike Ar651.2.1) Ar651.2.2 hin651 hat651 (g := (mkF m 162 #[.val (.long p1), .second, .val (.long b), .second, .val (.long p3), .second, .val (.long d), .second, .val (.long p5), .second, .val (.int p6), .val (.int (3 : Int32)), .val (.ref arr), .val (.int md), .val (.long q), .second, .val (.ref tl), .unset] [(.int (0 : Int32)), (.ref arr), (.ref tl)])) rfl rfl (hb hby at_162) _ ?_
      show Steps p.tables e below (T560.setTop (mkF m 163 #[.val (.long p1), .second, .val (.long b), .second, .val (.long p3), .second, .val (.long d), .second, .val (.long p5), .second, .val (.int p6), .val (.int (3 : Int32)), .val (.ref arr), .val (.int md), .val (.long q), .second, .val (.ref tl), .unset] [(.long y525), (.ref tl)])) t
      refine XS.aconstNull X560.here hx rfl (hb hby at_163) ?_
      exact ht
    obtain ⟨cq653, kq653, q653a, q653b, q653c⟩ := isOf hZ rfl f563
    obtain ⟨_, _, ⟨T653, L653, c653, n653⟩, -, X653, ⟨Lc653, hQ653, l653, y653, z653⟩, st653⟩ := X560.virtualBack hx (y := (⟨"com/example/clearhour/clearhour/market/Timeline", "add", "(JLjava/lang/Object;)V"⟩ : MethodName)) (z := (⟨"com/example/clearhour/clearhour/market/Timeline", "add", "(JLjava/lang/Object;)V"⟩ : MethodName)) hown (mvT hZ (hw _ (List.mem_of_getElem? (i := 22) rfl))) (mvT hZ (hw _ (List.mem_of_getElem? (i := 23) rfl))) (notFace_of_selects (args := #[]) (mvT hZ (hw _ (List.mem_of_getElem? (i := 25) rfl)))) (mvT hZ (hw _ (List.mem_of_getElem? (i := 25) rfl))) (mvT hZ (hw _ (List.mem_of_getElem? (i := 24) rfl))) (by decide) (backOf (W := 0) (rmad0 l Z a0 hw [] tl y525 tb vb kt kv (0 : Int64) (0 : Int64) (0 : Int64) (0 : Int64) T560.heap n0 f561 f563 Ft Fv Fz Vt Vv ne_tl_tb ne_tl_vb ne_tb_vb g_tl g_tb g_vb) hZ (hw _ (List.mem_of_getElem? (i := 26) rfl)) (hw _ (List.mem_of_getElem? (i := 7) rfl)) (by decide) (by decide)) q653a q653c (g := (mkF m 164 #[.val (.long p1), .second, .val (.long b), .second, .val (.long p3), .second, .val (.long d), .second, .val (.long p5), .second, .val (.int p6), .val (.int (3 : Int32)), .val (.ref arr), .val (.int md), .val (.long q), .second, .val (.ref tl), .unset] [.null, (.long y525), (.ref tl)])) rfl (by rw [hml]; rfl) (Steps.refl _) (argsL := [(.long y525), .null]) (rest := []) (lenOf pd_3 rfl) rfl (by show 2 * 0 + _ ≤ _; exact Nat.le_of_eq rfl) (hb hby at_164) (fun _ _ => ⟨rfl, rfl, (by decide : 4 + 0 ≤ _), (by decide : 40 + 0 ≤ _)⟩)
    dsimp only [Pt.U, Pt.locs, Pt.cells, Pt.slots] at X653 l653 y653 z653 st653 hQ653
    subst l653 y653 z653
    obtain ⟨rfl, Nq653, Kp653, Fa653, Fb653, Fc653, Va653, Vb653⟩ := hQ653
    have N653 := Fr.app N560 Nq653
    have k653 : Kt p e below m (s₁.setTop (entryFrame m #[(.long p1), (.long p2), (.long p3), (.long p4), (.long p5), (.int p6)] maxLocals)) T653 167 #[.val (.long p1), .second, .val (.long b), .second, .val (.long p3), .second, .val (.long d), .second, .val (.long p5), .second, .val (.int p6), .val (.int (3 : Int32)), .val (.ref arr), .val (.int md), .val (.long q), .second, .val (.ref tl), .unset] [] := fun t ht => k652 t (st653.trans ht)
    have f654 : n0 ≤ T653.heap.size := Nat.le_trans f561 Kp653.1
    have f655 : Arv Z T653.heap arr ak498 .long (4 : Int32) [(.long y525), (.long y533), (.long y533'), (.long y529')] (.long (0 : Int64)) := f562.keep Kp653 (ninS ne_arr_tl (ninS ne_arr_tb (ninS ne_arr_vb nin0)))
    have f656 : Exa Z T653.heap tl "com/example/clearhour/clearhour/market/Timeline" := f563.keep Kp653
    have k662 : Kt p e below m (s₁.setTop (entryFrame m #[(.long p1), (.long p2), (.long p3), (.long p4), (.long p5), (.int p6)] maxLocals)) T653 178 #[.val (.long p1), .second, .val (.long b), .second, .val (.long p3), .second, .val (.long d), .second, .val (.long p5), .second, .val (.int p6), .val (.int (3 : Int32)), .val (.ref arr), .val (.int md), .val (.long q), .second, .val (.ref tl), .unset] [(.int (1 : Int32)), (.ref arr), (.ref tl)] := by
      intro t ht
      refine k653 t ?_
      show Steps p.tables e below (T653.setTop (mkF m 167 #[.val (.long p1), .second, .val (.long b), .second, .val (.long p3), .second, .val (.long d), .second, .val (.long p5), .second, .val (.int p6), .val (.int (3 : Int32)), .val (.ref arr), .val (.int md), .val (.long q), .second, .val (.ref tl), .unset] [])) t
      refine XS.iload X653.here hx rfl (hb hby at_167) rfl ?_
      show Steps p.tables e below (T653.setTop (mkF m 169 #[.val (.long p1), .second, .val (.long b), .second, .val (.long p3), .second, .val (.long d), .second, .val (.long p5), .second, .val (.int p6), .val (.int (3 : Int32)), .val (.ref arr), .val (.int md), .val (.long q), .second, .val (.ref tl), .unset] [(.int (3 : Int32))])) t
      refine XS.iconst X653.here hx rfl (hb hby at_169) ?_
      show Steps p.tables e below (T653.setTop (mkF m 170 #[.val (.long p1), .second, .val (.long b), .second, .val (.long p3), .second, .val (.long d), .second, .val (.long p5), .second, .val (.int p6), .val (.int (3 : Int32)), .val (.ref arr), .val (.int md), .val (.long q), .second, .val (.ref tl), .unset] [(.int (1 : Int32)), (.int (3 : Int32))])) t
      refine XS.icmpNo X653.here hx rfl (hb hby at_170) rfl (tlt (by decide)).2.2.2 ?_
      show Steps p.tables e below (T653.setTop (mkF m 173 #[.val (.long p1), .second, .val (.long b), .second, .val (.long p3), .second, .val (.long d), .second, .val (.long p5), .second, .val (.int p6), .val (.int (3 : Int32)), .val (.ref arr), .val (.int md), .val (.long q), .second, .val (.ref tl), .unset] [])) t
      refine XS.aload X653.here hx rfl (hb hby at_173) rfl rfl ?_
      show Steps p.tables e below (T653.setTop (mkF m 175 #[.val (.long p1), .second, .val (.long b), .second, .val (.long p3), .second, .val (.long d), .second, .val (.long p5), .second, .val (.int p6), .val (.int (3 : Int32)), .val (.ref arr), .val (.int md), .val (.long q), .second, .val (.ref tl), .unset] [(.ref tl)])) t
      refine XS.aload X653.here hx rfl (hb hby at_175) rfl rfl ?_
      show Steps p.tables e below (T653.setTop (mkF m 177 #[.val (.long p1), .second, .val (.long b), .second, .val (.long p3), .second, .val (.long d), .second, .val (.long p5), .second, .val (.int p6), .val (.int (3 : Int32)), .val (.ref arr), .val (.int md), .val (.long q), .second, .val (.ref tl), .unset] [(.ref arr), (.ref tl)])) t
      refine XS.iconst X653.here hx rfl (hb hby at_177) ?_
      exact ht
    obtain ⟨cl663, Ar663, qc663, Sz663, Nn663, Hh663, Gg663⟩ := id f655
    have hin663 : ¬ ((1 : Int32) < 0 ∨ cl663.slots.size ≤ ((1 : Int32)).toNatClampNeg) := inb_of Sz663 ⟨by decide, by decide⟩
    have hat663 : cl663.slots[((1 : Int32)).toNatClampNeg]? = some (.long y533) := Hh663.at hin663 rfl
    have k664 : Kt p e below m (s₁.setTop (entryFrame m #[(.long p1), (.long p2), (.long p3), (.long p4), (.long p5), (.int p6)] maxLocals)) T653 180 #[.val (.long p1), .second, .val (.long b), .second, .val (.long p3), .second, .val (.long d), .second, .val (.long p5), .second, .val (.int p6), .val (.int (3 : Int32)), .val (.ref arr), .val (.int md), .val (.long q), .second, .val (.ref tl), .unset] [.null, (.long y533), (.ref tl)] := by
      intro t ht
      refine k662 t ?_
      show Steps p.tables e below (T653.setTop (mkF m 178 #[.val (.long p1), .second, .val (.long b), .second, .val (.long p3), .second, .val (.long d), .second, .val (.long p5), .second, .val (.int p6), .val (.int (3 : Int32)), .val (.ref arr), .val (.int md), .val (.long q), .second, .val (.ref tl), .unset] [(.int (1 : Int32)), (.ref arr), (.ref tl)])) t
      refine X653.laload hx (j := (1 : Int32)) (v := (.long y533)) Ar663.1 (State.isArrayOf_alike hZ.alike Ar663.2.1) Ar663.2.2 hin663 hat663 (g := (mkF m 178 #[.val (.long p1), .second, .val (.long b), .second, .val (.long p3), .second, .val (.long d), .second, .val (.long p5), .second, .val (.int p6), .val (.int (3 : Int32)), .val (.ref arr), .val (.int md), .val (.long q), .second, .val (.ref tl), .unset] [(.int (1 : Int32)), (.ref arr), (.ref tl)])) rfl rfl (hb hby at_178) _ ?_
      show Steps p.tables e below (T653.setTop (mkF m 179 #[.val (.long p1), .second, .val (.long b), .second, .val (.long p3), .second, .val (.long d), .second, .val (.long p5), .second, .val (.int p6), .val (.int (3 : Int32)), .val (.ref arr), .val (.int md), .val (.long q), .second, .val (.ref tl), .unset] [(.long y533), (.ref tl)])) t
      refine XS.aconstNull X653.here hx rfl (hb hby at_179) ?_
      exact ht
    obtain ⟨cq665, kq665, q665a, q665b, q665c⟩ := isOf hZ rfl f656
    obtain ⟨_, _, ⟨T665, L665, c665, n665⟩, -, X665, ⟨Lc665, hQ665, l665, y665, z665⟩, st665⟩ := X653.virtualBack hx (y := (⟨"com/example/clearhour/clearhour/market/Timeline", "add", "(JLjava/lang/Object;)V"⟩ : MethodName)) (z := (⟨"com/example/clearhour/clearhour/market/Timeline", "add", "(JLjava/lang/Object;)V"⟩ : MethodName)) hown (mvT hZ (hw _ (List.mem_of_getElem? (i := 22) rfl))) (mvT hZ (hw _ (List.mem_of_getElem? (i := 23) rfl))) (notFace_of_selects (args := #[]) (mvT hZ (hw _ (List.mem_of_getElem? (i := 25) rfl)))) (mvT hZ (hw _ (List.mem_of_getElem? (i := 25) rfl))) (mvT hZ (hw _ (List.mem_of_getElem? (i := 24) rfl))) (by decide) (backOf (W := 0) (rmad1 l Z a0 hw [] tl y533 tb vb kt kv y525 (0 : Int64) (0 : Int64) (0 : Int64) T653.heap n0 f654 f656 Fa653 Fb653 Fc653 Va653 Vb653 ne_tl_tb ne_tl_vb ne_tb_vb g_tl g_tb g_vb o0) hZ (hw _ (List.mem_of_getElem? (i := 26) rfl)) (hw _ (List.mem_of_getElem? (i := 7) rfl)) (by decide) (by decide)) q665a q665c (g := (mkF m 180 #[.val (.long p1), .second, .val (.long b), .second, .val (.long p3), .second, .val (.long d), .second, .val (.long p5), .second, .val (.int p6), .val (.int (3 : Int32)), .val (.ref arr), .val (.int md), .val (.long q), .second, .val (.ref tl), .unset] [.null, (.long y533), (.ref tl)])) rfl (by rw [hml]; rfl) (Steps.refl _) (argsL := [(.long y533), .null]) (rest := []) (lenOf pd_3 rfl) rfl (by show 2 * 0 + _ ≤ _; exact Nat.le_of_eq rfl) (hb hby at_180) (fun _ _ => ⟨rfl, rfl, (by decide : 4 + 0 ≤ _), (by decide : 40 + 0 ≤ _)⟩)
    dsimp only [Pt.U, Pt.locs, Pt.cells, Pt.slots] at X665 l665 y665 z665 st665 hQ665
    subst l665 y665 z665
    obtain ⟨rfl, Nq665, Kp665, Fa665, Fb665, Fc665, Va665, Vb665⟩ := hQ665
    have N665 := Fr.app N653 Nq665
    have k665 : Kt p e below m (s₁.setTop (entryFrame m #[(.long p1), (.long p2), (.long p3), (.long p4), (.long p5), (.int p6)] maxLocals)) T665 183 #[.val (.long p1), .second, .val (.long b), .second, .val (.long p3), .second, .val (.long d), .second, .val (.long p5), .second, .val (.int p6), .val (.int (3 : Int32)), .val (.ref arr), .val (.int md), .val (.long q), .second, .val (.ref tl), .unset] [] := fun t ht => k664 t (st665.trans ht)
    have f666 : n0 ≤ T665.heap.size := Nat.le_trans f654 Kp665.1
    have f667 : Arv Z T665.heap arr ak498 .long (4 : Int32) [(.long y525), (.long y533), (.long y533'), (.long y529')] (.long (0 : Int64)) := f655.keep Kp665 (ninS ne_arr_tl (ninS ne_arr_tb (ninS ne_arr_vb nin0)))
    have f668 : Exa Z T665.heap tl "com/example/clearhour/clearhour/market/Timeline" := f656.keep Kp665
    have k674 : Kt p e below m (s₁.setTop (entryFrame m #[(.long p1), (.long p2), (.long p3), (.long p4), (.long p5), (.int p6)] maxLocals)) T665 194 #[.val (.long p1), .second, .val (.long b), .second, .val (.long p3), .second, .val (.long d), .second, .val (.long p5), .second, .val (.int p6), .val (.int (3 : Int32)), .val (.ref arr), .val (.int md), .val (.long q), .second, .val (.ref tl), .unset] [(.int (2 : Int32)), (.ref arr), (.ref tl)] := by
      intro t ht
      refine k665 t ?_
      show Steps p.tables e below (T665.setTop (mkF m 183 #[.val (.long p1), .second, .val (.long b), .second, .val (.long p3), .second, .val (.long d), .second, .val (.long p5), .second, .val (.int p6), .val (.int (3 : Int32)), .val (.ref arr), .val (.int md), .val (.long q), .second, .val (.ref tl), .unset] [])) t
      refine XS.iload X665.here hx rfl (hb hby at_183) rfl ?_
      show Steps p.tables e below (T665.setTop (mkF m 185 #[.val (.long p1), .second, .val (.long b), .second, .val (.long p3), .second, .val (.long d), .second, .val (.long p5), .second, .val (.int p6), .val (.int (3 : Int32)), .val (.ref arr), .val (.int md), .val (.long q), .second, .val (.ref tl), .unset] [(.int (3 : Int32))])) t
      refine XS.iconst X665.here hx rfl (hb hby at_185) ?_
      show Steps p.tables e below (T665.setTop (mkF m 186 #[.val (.long p1), .second, .val (.long b), .second, .val (.long p3), .second, .val (.long d), .second, .val (.long p5), .second, .val (.int p6), .val (.int (3 : Int32)), .val (.ref arr), .val (.int md), .val (.long q), .second, .val (.ref tl), .unset] [(.int (2 : Int32)), (.int (3 : Int32))])) t
      refine XS.icmpNo X665.here hx rfl (hb hby at_186) rfl (tlt (by decide)).2.2.2 ?_
      show Steps p.tables e below (T665.setTop (mkF m 189 #[.val (.long p1), .second, .val (.long b), .second, .val (.long p3), .second, .val (.long d), .second, .val (.long p5), .second, .val (.int p6), .val (.int (3 : Int32)), .val (.ref arr), .val (.int md), .val (.long q), .second, .val (.ref tl), .unset] [])) t
      refine XS.aload X665.here hx rfl (hb hby at_189) rfl rfl ?_
      show Steps p.tables e below (T665.setTop (mkF m 191 #[.val (.long p1), .second, .val (.long b), .second, .val (.long p3), .second, .val (.long d), .second, .val (.long p5), .second, .val (.int p6), .val (.int (3 : Int32)), .val (.ref arr), .val (.int md), .val (.long q), .second, .val (.ref tl), .unset] [(.ref tl)])) t
      refine XS.aload X665.here hx rfl (hb hby at_191) rfl rfl ?_
      show Steps p.tables e below (T665.setTop (mkF m 193 #[.val (.long p1), .second, .val (.long b), .second, .val (.long p3), .second, .val (.long d), .second, .val (.long p5), .second, .val (.int p6), .val (.int (3 : Int32)), .val (.ref arr), .val (.int md), .val (.long q), .second, .val (.ref tl), .unset] [(.ref arr), (.ref tl)])) t
      refine XS.iconst X665.here hx rfl (hb hby at_193) ?_
      exact ht
    obtain ⟨cl675, Ar675, qc675, Sz675, Nn675, Hh675, Gg675⟩ := id f667
    have hin675 : ¬ ((2 : Int32) < 0 ∨ cl675.slots.size ≤ ((2 : Int32)).toNatClampNeg) := inb_of Sz675 ⟨by decide, by decide⟩
    have hat675 : cl675.slots[((2 : Int32)).toNatClampNeg]? = some (.long y533') := Hh675.at hin675 rfl
    have k676 : Kt p e below m (s₁.setTop (entryFrame m #[(.long p1), (.long p2), (.long p3), (.long p4), (.long p5), (.int p6)] maxLocals)) T665 196 #[.val (.long p1), .second, .val (.long b), .second, .val (.long p3), .second, .val (.long d), .second, .val (.long p5), .second, .val (.int p6), .val (.int (3 : Int32)), .val (.ref arr), .val (.int md), .val (.long q), .second, .val (.ref tl), .unset] [.null, (.long y533'), (.ref tl)] := by
      intro t ht
      refine k674 t ?_
      show Steps p.tables e below (T665.setTop (mkF m 194 #[.val (.long p1), .second, .val (.long b), .second, .val (.long p3), .second, .val (.long d), .second, .val (.long p5), .second, .val (.int p6), .val (.int (3 : Int32)), .val (.ref arr), .val (.int md), .val (.long q), .second, .val (.ref tl), .unset] [(.int (2 : Int32)), (.ref arr), (.ref tl)])) t
      refine X665.laload hx (j := (2 : Int32)) (v := (.long y533')) Ar675.1 (State.isArrayOf_alike hZ.alike Ar675.2.1) Ar675.2.2 hin675 hat675 (g := (mkF m 194 #[.val (.long p1), .second, .val (.long b), .second, .val (.long p3), .second, .val (.long d), .second, .val (.long p5), .second, .val (.int p6), .val (.int (3 : Int32)), .val (.ref arr), .val (.int md), .val (.long q), .second, .val (.ref tl), .unset] [(.int (2 : Int32)), (.ref arr), (.ref tl)])) rfl rfl (hb hby at_194) _ ?_
      show Steps p.tables e below (T665.setTop (mkF m 195 #[.val (.long p1), .second, .val (.long b), .second, .val (.long p3), .second, .val (.long d), .second, .val (.long p5), .second, .val (.int p6), .val (.int (3 : Int32)), .val (.ref arr), .val (.int md), .val (.long q), .second, .val (.ref tl), .unset] [(.long y533'), (.ref tl)])) t
      refine XS.aconstNull X665.here hx rfl (hb hby at_195) ?_
      exact ht
    obtain ⟨cq677, kq677, q677a, q677b, q677c⟩ := isOf hZ rfl f668
    obtain ⟨_, _, ⟨T677, L677, c677, n677⟩, -, X677, ⟨Lc677, hQ677, l677, y677, z677⟩, st677⟩ := X665.virtualBack hx (y := (⟨"com/example/clearhour/clearhour/market/Timeline", "add", "(JLjava/lang/Object;)V"⟩ : MethodName)) (z := (⟨"com/example/clearhour/clearhour/market/Timeline", "add", "(JLjava/lang/Object;)V"⟩ : MethodName)) hown (mvT hZ (hw _ (List.mem_of_getElem? (i := 22) rfl))) (mvT hZ (hw _ (List.mem_of_getElem? (i := 23) rfl))) (notFace_of_selects (args := #[]) (mvT hZ (hw _ (List.mem_of_getElem? (i := 25) rfl)))) (mvT hZ (hw _ (List.mem_of_getElem? (i := 25) rfl))) (mvT hZ (hw _ (List.mem_of_getElem? (i := 24) rfl))) (by decide) (backOf (W := 0) (rmad2 l Z a0 hw [] tl y533' tb vb kt kv y525 y533 (0 : Int64) (0 : Int64) T665.heap n0 f666 f668 Fa665 Fb665 Fc665 Va665 Vb665 ne_tl_tb ne_tl_vb ne_tb_vb g_tl g_tb g_vb o1) hZ (hw _ (List.mem_of_getElem? (i := 26) rfl)) (hw _ (List.mem_of_getElem? (i := 7) rfl)) (by decide) (by decide)) q677a q677c (g := (mkF m 196 #[.val (.long p1), .second, .val (.long b), .second, .val (.long p3), .second, .val (.long d), .second, .val (.long p5), .second, .val (.int p6), .val (.int (3 : Int32)), .val (.ref arr), .val (.int md), .val (.long q), .second, .val (.ref tl), .unset] [.null, (.long y533'), (.ref tl)])) rfl (by rw [hml]; rfl) (Steps.refl _) (argsL := [(.long y533'), .null]) (rest := []) (lenOf pd_3 rfl) rfl (by show 2 * 0 + _ ≤ _; exact Nat.le_of_eq rfl) (hb hby at_196) (fun _ _ => ⟨rfl, rfl, (by decide : 4 + 0 ≤ _), (by decide : 40 + 0 ≤ _)⟩)
    dsimp only [Pt.U, Pt.locs, Pt.cells, Pt.slots] at X677 l677 y677 z677 st677 hQ677
    subst l677 y677 z677
    obtain ⟨rfl, Nq677, Kp677, Fa677, Fb677, Fc677, Va677, Vb677⟩ := hQ677
    have N677 := Fr.app N665 Nq677
    have k677 : Kt p e below m (s₁.setTop (entryFrame m #[(.long p1), (.long p2), (.long p3), (.long p4), (.long p5), (.int p6)] maxLocals)) T677 199 #[.val (.long p1), .second, .val (.long b), .second, .val (.long p3), .second, .val (.long d), .second, .val (.long p5), .second, .val (.int p6), .val (.int (3 : Int32)), .val (.ref arr), .val (.int md), .val (.long q), .second, .val (.ref tl), .unset] [] := fun t ht => k676 t (st677.trans ht)
    have f678 : n0 ≤ T677.heap.size := Nat.le_trans f666 Kp677.1
    have f679 : Arv Z T677.heap arr ak498 .long (4 : Int32) [(.long y525), (.long y533), (.long y533'), (.long y529')] (.long (0 : Int64)) := f667.keep Kp677 (ninS ne_arr_tl (ninS ne_arr_tb (ninS ne_arr_vb nin0)))
    have f680 : Exa Z T677.heap tl "com/example/clearhour/clearhour/market/Timeline" := f668.keep Kp677
    have k686 : Kt p e below m (s₁.setTop (entryFrame m #[(.long p1), (.long p2), (.long p3), (.long p4), (.long p5), (.int p6)] maxLocals)) T677 228 #[.val (.long p1), .second, .val (.long b), .second, .val (.long p3), .second, .val (.long d), .second, .val (.long p5), .second, .val (.int p6), .val (.int (3 : Int32)), .val (.ref arr), .val (.int md), .val (.long q), .second, .val (.ref tl), .val (.int (0 : Int32))] [(.int (0 : Int32)), (.ref arr), (.int (0 : Int32))] := by
      intro t ht
      refine k677 t ?_
      show Steps p.tables e below (T677.setTop (mkF m 199 #[.val (.long p1), .second, .val (.long b), .second, .val (.long p3), .second, .val (.long d), .second, .val (.long p5), .second, .val (.int p6), .val (.int (3 : Int32)), .val (.ref arr), .val (.int md), .val (.long q), .second, .val (.ref tl), .unset] [])) t
      refine XS.iload X677.here hx rfl (hb hby at_199) rfl ?_
      show Steps p.tables e below (T677.setTop (mkF m 201 #[.val (.long p1), .second, .val (.long b), .second, .val (.long p3), .second, .val (.long d), .second, .val (.long p5), .second, .val (.int p6), .val (.int (3 : Int32)), .val (.ref arr), .val (.int md), .val (.long q), .second, .val (.ref tl), .unset] [(.int (3 : Int32))])) t
      refine XS.iconst X677.here hx rfl (hb hby at_201) ?_
      show Steps p.tables e below (T677.setTop (mkF m 202 #[.val (.long p1), .second, .val (.long b), .second, .val (.long p3), .second, .val (.long d), .second, .val (.long p5), .second, .val (.int p6), .val (.int (3 : Int32)), .val (.ref arr), .val (.int md), .val (.long q), .second, .val (.ref tl), .unset] [(.int (3 : Int32)), (.int (3 : Int32))])) t
      refine XS.icmpYes X677.here hx rfl (pc0 := 202) (pc' := 215) rfl (hb hby at_202) rfl (flt (by decide)).2.2.2 (by decide) (by decide) ?_
      show Steps p.tables e below (T677.setTop (mkF m 215 #[.val (.long p1), .second, .val (.long b), .second, .val (.long p3), .second, .val (.long d), .second, .val (.long p5), .second, .val (.int p6), .val (.int (3 : Int32)), .val (.ref arr), .val (.int md), .val (.long q), .second, .val (.ref tl), .unset] [])) t
      refine XS.iconst X677.here hx rfl (hb hby at_215) ?_
      show Steps p.tables e below (T677.setTop (mkF m 216 #[.val (.long p1), .second, .val (.long b), .second, .val (.long p3), .second, .val (.long d), .second, .val (.long p5), .second, .val (.int p6), .val (.int (3 : Int32)), .val (.ref arr), .val (.int md), .val (.long q), .second, .val (.ref tl), .unset] [(.int (0 : Int32))])) t
      refine XS.istore X677.here hx rfl (hb hby at_216) rfl (l' := #[.val (.long p1), .second, .val (.long b), .second, .val (.long p3), .second, .val (.long d), .second, .val (.long p5), .second, .val (.int p6), .val (.int (3 : Int32)), .val (.ref arr), .val (.int md), .val (.long q), .second, .val (.ref tl), .val (.int (0 : Int32))]) rfl ?_
      show Steps p.tables e below (T677.setTop (mkF m 218 #[.val (.long p1), .second, .val (.long b), .second, .val (.long p3), .second, .val (.long d), .second, .val (.long p5), .second, .val (.int p6), .val (.int (3 : Int32)), .val (.ref arr), .val (.int md), .val (.long q), .second, .val (.ref tl), .val (.int (0 : Int32))] [])) t
      refine XS.iload X677.here hx rfl (hb hby at_218) rfl ?_
      show Steps p.tables e below (T677.setTop (mkF m 220 #[.val (.long p1), .second, .val (.long b), .second, .val (.long p3), .second, .val (.long d), .second, .val (.long p5), .second, .val (.int p6), .val (.int (3 : Int32)), .val (.ref arr), .val (.int md), .val (.long q), .second, .val (.ref tl), .val (.int (0 : Int32))] [(.int (3 : Int32))])) t
      refine XS.ifNo X677.here hx rfl (hb hby at_220) rfl ((if0 _ _).trans (tlt (by decide)).2.2.2) ?_
      show Steps p.tables e below (T677.setTop (mkF m 223 #[.val (.long p1), .second, .val (.long b), .second, .val (.long p3), .second, .val (.long d), .second, .val (.long p5), .second, .val (.int p6), .val (.int (3 : Int32)), .val (.ref arr), .val (.int md), .val (.long q), .second, .val (.ref tl), .val (.int (0 : Int32))] [])) t
      refine XS.iload X677.here hx rfl (hb hby at_223) rfl ?_
      show Steps p.tables e below (T677.setTop (mkF m 225 #[.val (.long p1), .second, .val (.long b), .second, .val (.long p3), .second, .val (.long d), .second, .val (.long p5), .second, .val (.int p6), .val (.int (3 : Int32)), .val (.ref arr), .val (.int md), .val (.long q), .second, .val (.ref tl), .val (.int (0 : Int32))] [(.int (0 : Int32))])) t
      refine XS.aload X677.here hx rfl (hb hby at_225) rfl rfl ?_
      show Steps p.tables e below (T677.setTop (mkF m 227 #[.val (.long p1), .second, .val (.long b), .second, .val (.long p3), .second, .val (.long d), .second, .val (.long p5), .second, .val (.int p6), .val (.int (3 : Int32)), .val (.ref arr), .val (.int md), .val (.long q), .second, .val (.ref tl), .val (.int (0 : Int32))] [(.ref arr), (.int (0 : Int32))])) t
      refine XS.iconst X677.here hx rfl (hb hby at_227) ?_
      exact ht
    obtain ⟨cl687, Ar687, qc687, Sz687, Nn687, Hh687, Gg687⟩ := id f679
    have hin687 : ¬ ((0 : Int32) < 0 ∨ cl687.slots.size ≤ ((0 : Int32)).toNatClampNeg) := inb_of Sz687 ⟨by decide, by decide⟩
    have hat687 : cl687.slots[((0 : Int32)).toNatClampNeg]? = some (.long y525) := Hh687.at hin687 rfl
    have k688 : Kt p e below m (s₁.setTop (entryFrame m #[(.long p1), (.long p2), (.long p3), (.long p4), (.long p5), (.int p6)] maxLocals)) T677 231 #[.val (.long p1), .second, .val (.long b), .second, .val (.long p3), .second, .val (.long d), .second, .val (.long p5), .second, .val (.int p6), .val (.int (3 : Int32)), .val (.ref arr), .val (.int md), .val (.long q), .second, .val (.ref tl), .val (.int (0 : Int32))] [(.long q), (.long y525), (.int (0 : Int32))] := by
      intro t ht
      refine k686 t ?_
      show Steps p.tables e below (T677.setTop (mkF m 228 #[.val (.long p1), .second, .val (.long b), .second, .val (.long p3), .second, .val (.long d), .second, .val (.long p5), .second, .val (.int p6), .val (.int (3 : Int32)), .val (.ref arr), .val (.int md), .val (.long q), .second, .val (.ref tl), .val (.int (0 : Int32))] [(.int (0 : Int32)), (.ref arr), (.int (0 : Int32))])) t
      refine X677.laload hx (j := (0 : Int32)) (v := (.long y525)) Ar687.1 (State.isArrayOf_alike hZ.alike Ar687.2.1) Ar687.2.2 hin687 hat687 (g := (mkF m 228 #[.val (.long p1), .second, .val (.long b), .second, .val (.long p3), .second, .val (.long d), .second, .val (.long p5), .second, .val (.int p6), .val (.int (3 : Int32)), .val (.ref arr), .val (.int md), .val (.long q), .second, .val (.ref tl), .val (.int (0 : Int32))] [(.int (0 : Int32)), (.ref arr), (.int (0 : Int32))])) rfl rfl (hb hby at_228) _ ?_
      show Steps p.tables e below (T677.setTop (mkF m 229 #[.val (.long p1), .second, .val (.long b), .second, .val (.long p3), .second, .val (.long d), .second, .val (.long p5), .second, .val (.int p6), .val (.int (3 : Int32)), .val (.ref arr), .val (.int md), .val (.long q), .second, .val (.ref tl), .val (.int (0 : Int32))] [(.long y525), (.int (0 : Int32))])) t
      refine XS.lload X677.here hx rfl (hb hby at_229) rfl ?_
      exact ht
    obtain ⟨_, _, ⟨T689, L689, c689, n689⟩, -, X689, ⟨Lc689, hQ689, l689, y689, z689⟩, st689⟩ := Jvm.LawKit.callS X677 hx (y := (⟨"com/example/clearhour/clearhour/market/TimelineIndexFromPinLaw", "lt", "(JJ)I"⟩ : MethodName)) hown (mvT hZ (hw _ (List.mem_of_getElem? (i := 29) rfl))) (mvT hZ (hw _ (List.mem_of_getElem? (i := 30) rfl))) (mvT hZ (hw _ (List.mem_of_getElem? (i := 3) rfl))) (mvT hZ (hw _ (List.mem_of_getElem? (i := 31) rfl))) (by decide) (backOf (W := 1) (rm5 l Z a0 hw [] y525 q T677.heap n0 f678 ) hZ (hw _ (List.mem_of_getElem? (i := 31) rfl)) (hw _ (List.mem_of_getElem? (i := 3) rfl)) (by decide) (by decide)) (g := (mkF m 231 #[.val (.long p1), .second, .val (.long b), .second, .val (.long p3), .second, .val (.long d), .second, .val (.long p5), .second, .val (.int p6), .val (.int (3 : Int32)), .val (.ref arr), .val (.int md), .val (.long q), .second, .val (.ref tl), .val (.int (0 : Int32))] [(.long q), (.long y525), (.int (0 : Int32))])) rfl (by rw [hml]; rfl) (argsL := [(.long y525), (.long q)]) (rest := [(.int (0 : Int32))]) (lenOf pd_2 rfl) rfl (by show 2 * 0 + _ ≤ _; exact Nat.le_of_eq rfl) (hb hby at_231) (fun _ _ => ⟨rfl, rfl, (by decide : 4 + 0 ≤ _), (by decide : 40 + 0 ≤ _)⟩)
    dsimp only [Pt.U, Pt.locs, Pt.cells, Pt.slots] at X689 l689 y689 z689 st689 hQ689
    subst l689 y689 z689
    obtain ⟨rfl, Nq689, eq689⟩ := hQ689
    have N689 := Fr.app N677 Nq689
    have k689 : Kt p e below m (s₁.setTop (entryFrame m #[(.long p1), (.long p2), (.long p3), (.long p4), (.long p5), (.int p6)] maxLocals)) T689 234 #[.val (.long p1), .second, .val (.long b), .second, .val (.long p3), .second, .val (.long d), .second, .val (.long p5), .second, .val (.int p6), .val (.int (3 : Int32)), .val (.ref arr), .val (.int md), .val (.long q), .second, .val (.ref tl), .val (.int (0 : Int32))] [(.int (own_b (y525 < q))), (.int (0 : Int32))] := fun t ht => k688 t (st689 t ht)
    have f690 : n0 ≤ T689.heap.size := by rw [eq689]; exact f678
    have f691 : Arv Z T689.heap arr ak498 .long (4 : Int32) [(.long y525), (.long y533), (.long y533'), (.long y529')] (.long (0 : Int64)) := by rw [eq689]; exact f679
    have f692 : Exa Z T689.heap tl "com/example/clearhour/clearhour/market/Timeline" := by rw [eq689]; exact f680
    have f693 : Fld Z T689.heap tl "com/example/clearhour/clearhour/market/Timeline" "times" "[J" (.ref tb) := by rw [eq689]; exact Fa677
    have f694 : Fld Z T689.heap tl "com/example/clearhour/clearhour/market/Timeline" "values" "[Ljava/lang/Object;" (.ref vb) := by rw [eq689]; exact Fb677
    have f695 : Fld Z T689.heap tl "com/example/clearhour/clearhour/market/Timeline" "size" "I" (.int (3 : Int32)) := by rw [eq689]; exact Fc677
    have f696 : Arv Z T689.heap tb kt .long (16 : Int32) [(.long y525), (.long y533), (.long y533'), (.long (0 : Int64))] (.long (0 : Int64)) := by rw [eq689]; exact Va677
    have f697 : Arv Z T689.heap vb kv (.object "java/lang/Object") (16 : Int32) [.null, .null, .null, .null] .null := by rw [eq689]; exact Vb677
    have k698 : Kt p e below m (s₁.setTop (entryFrame m #[(.long p1), (.long p2), (.long p3), (.long p4), (.long p5), (.int p6)] maxLocals)) T689 248 #[.val (.long p1), .second, .val (.long b), .second, .val (.long p3), .second, .val (.long d), .second, .val (.long p5), .second, .val (.int p6), .val (.int (3 : Int32)), .val (.ref arr), .val (.int md), .val (.long q), .second, .val (.ref tl), .val (.int ((0 : Int32) + (own_b (y525 < q))))] [(.int (1 : Int32)), (.ref arr), (.int ((0 : Int32) + (own_b (y525 < q))))] := by
      intro t ht
      refine k689 t ?_
      show Steps p.tables e below (T689.setTop (mkF m 234 #[.val (.long p1), .second, .val (.long b), .second, .val (.long p3), .second, .val (.long d), .second, .val (.long p5), .second, .val (.int p6), .val (.int (3 : Int32)), .val (.ref arr), .val (.int md), .val (.long q), .second, .val (.ref tl), .val (.int (0 : Int32))] [(.int (own_b (y525 < q))), (.int (0 : Int32))])) t
      refine XS.iadd X689.here hx rfl (hb hby at_234) rfl ?_
      show Steps p.tables e below (T689.setTop (mkF m 235 #[.val (.long p1), .second, .val (.long b), .second, .val (.long p3), .second, .val (.long d), .second, .val (.long p5), .second, .val (.int p6), .val (.int (3 : Int32)), .val (.ref arr), .val (.int md), .val (.long q), .second, .val (.ref tl), .val (.int (0 : Int32))] [(.int ((0 : Int32) + (own_b (y525 < q))))])) t
      refine XS.istore X689.here hx rfl (hb hby at_235) rfl (l' := #[.val (.long p1), .second, .val (.long b), .second, .val (.long p3), .second, .val (.long d), .second, .val (.long p5), .second, .val (.int p6), .val (.int (3 : Int32)), .val (.ref arr), .val (.int md), .val (.long q), .second, .val (.ref tl), .val (.int ((0 : Int32) + (own_b (y525 < q))))]) rfl ?_
      show Steps p.tables e below (T689.setTop (mkF m 237 #[.val (.long p1), .second, .val (.long b), .second, .val (.long p3), .second, .val (.long d), .second, .val (.long p5), .second, .val (.int p6), .val (.int (3 : Int32)), .val (.ref arr), .val (.int md), .val (.long q), .second, .val (.ref tl), .val (.int ((0 : Int32) + (own_b (y525 < q))))] [])) t
      refine XS.iload X689.here hx rfl (hb hby at_237) rfl ?_
      show Steps p.tables e below (T689.setTop (mkF m 239 #[.val (.long p1), .second, .val (.long b), .second, .val (.long p3), .second, .val (.long d), .second, .val (.long p5), .second, .val (.int p6), .val (.int (3 : Int32)), .val (.ref arr), .val (.int md), .val (.long q), .second, .val (.ref tl), .val (.int ((0 : Int32) + (own_b (y525 < q))))] [(.int (3 : Int32))])) t
      refine XS.iconst X689.here hx rfl (hb hby at_239) ?_
      show Steps p.tables e below (T689.setTop (mkF m 240 #[.val (.long p1), .second, .val (.long b), .second, .val (.long p3), .second, .val (.long d), .second, .val (.long p5), .second, .val (.int p6), .val (.int (3 : Int32)), .val (.ref arr), .val (.int md), .val (.long q), .second, .val (.ref tl), .val (.int ((0 : Int32) + (own_b (y525 < q))))] [(.int (1 : Int32)), (.int (3 : Int32))])) t
      refine XS.icmpNo X689.here hx rfl (hb hby at_240) rfl (tlt (by decide)).2.2.2 ?_
      show Steps p.tables e below (T689.setTop (mkF m 243 #[.val (.long p1), .second, .val (.long b), .second, .val (.long p3), .second, .val (.long d), .second, .val (.long p5), .second, .val (.int p6), .val (.int (3 : Int32)), .val (.ref arr), .val (.int md), .val (.long q), .second, .val (.ref tl), .val (.int ((0 : Int32) + (own_b (y525 < q))))] [])) t
      refine XS.iload X689.here hx rfl (hb hby at_243) rfl ?_
      show Steps p.tables e below (T689.setTop (mkF m 245 #[.val (.long p1), .second, .val (.long b), .second, .val (.long p3), .second, .val (.long d), .second, .val (.long p5), .second, .val (.int p6), .val (.int (3 : Int32)), .val (.ref arr), .val (.int md), .val (.long q), .second, .val (.ref tl), .val (.int ((0 : Int32) + (own_b (y525 < q))))] [(.int ((0 : Int32) + (own_b (y525 < q))))])) t
      refine XS.aload X689.here hx rfl (hb hby at_245) rfl rfl ?_
      show Steps p.tables e below (T689.setTop (mkF m 247 #[.val (.long p1), .second, .val (.long b), .second, .val (.long p3), .second, .val (.long d), .second, .val (.long p5), .second, .val (.int p6), .val (.int (3 : Int32)), .val (.ref arr), .val (.int md), .val (.long q), .second, .val (.ref tl), .val (.int ((0 : Int32) + (own_b (y525 < q))))] [(.ref arr), (.int ((0 : Int32) + (own_b (y525 < q))))])) t
      refine XS.iconst X689.here hx rfl (hb hby at_247) ?_
      exact ht
    obtain ⟨cl699, Ar699, qc699, Sz699, Nn699, Hh699, Gg699⟩ := id f691
    have hin699 : ¬ ((1 : Int32) < 0 ∨ cl699.slots.size ≤ ((1 : Int32)).toNatClampNeg) := inb_of Sz699 ⟨by decide, by decide⟩
    have hat699 : cl699.slots[((1 : Int32)).toNatClampNeg]? = some (.long y533) := Hh699.at hin699 rfl
    have k700 : Kt p e below m (s₁.setTop (entryFrame m #[(.long p1), (.long p2), (.long p3), (.long p4), (.long p5), (.int p6)] maxLocals)) T689 251 #[.val (.long p1), .second, .val (.long b), .second, .val (.long p3), .second, .val (.long d), .second, .val (.long p5), .second, .val (.int p6), .val (.int (3 : Int32)), .val (.ref arr), .val (.int md), .val (.long q), .second, .val (.ref tl), .val (.int ((0 : Int32) + (own_b (y525 < q))))] [(.long q), (.long y533), (.int ((0 : Int32) + (own_b (y525 < q))))] := by
      intro t ht
      refine k698 t ?_
      show Steps p.tables e below (T689.setTop (mkF m 248 #[.val (.long p1), .second, .val (.long b), .second, .val (.long p3), .second, .val (.long d), .second, .val (.long p5), .second, .val (.int p6), .val (.int (3 : Int32)), .val (.ref arr), .val (.int md), .val (.long q), .second, .val (.ref tl), .val (.int ((0 : Int32) + (own_b (y525 < q))))] [(.int (1 : Int32)), (.ref arr), (.int ((0 : Int32) + (own_b (y525 < q))))])) t
      refine X689.laload hx (j := (1 : Int32)) (v := (.long y533)) Ar699.1 (State.isArrayOf_alike hZ.alike Ar699.2.1) Ar699.2.2 hin699 hat699 (g := (mkF m 248 #[.val (.long p1), .second, .val (.long b), .second, .val (.long p3), .second, .val (.long d), .second, .val (.long p5), .second, .val (.int p6), .val (.int (3 : Int32)), .val (.ref arr), .val (.int md), .val (.long q), .second, .val (.ref tl), .val (.int ((0 : Int32) + (own_b (y525 < q))))] [(.int (1 : Int32)), (.ref arr), (.int ((0 : Int32) + (own_b (y525 < q))))])) rfl rfl (hb hby at_248) _ ?_
      show Steps p.tables e below (T689.setTop (mkF m 249 #[.val (.long p1), .second, .val (.long b), .second, .val (.long p3), .second, .val (.long d), .second, .val (.long p5), .second, .val (.int p6), .val (.int (3 : Int32)), .val (.ref arr), .val (.int md), .val (.long q), .second, .val (.ref tl), .val (.int ((0 : Int32) + (own_b (y525 < q))))] [(.long y533), (.int ((0 : Int32) + (own_b (y525 < q))))])) t
      refine XS.lload X689.here hx rfl (hb hby at_249) rfl ?_
      exact ht
    obtain ⟨_, _, ⟨T701, L701, c701, n701⟩, -, X701, ⟨Lc701, hQ701, l701, y701, z701⟩, st701⟩ := Jvm.LawKit.callS X689 hx (y := (⟨"com/example/clearhour/clearhour/market/TimelineIndexFromPinLaw", "lt", "(JJ)I"⟩ : MethodName)) hown (mvT hZ (hw _ (List.mem_of_getElem? (i := 29) rfl))) (mvT hZ (hw _ (List.mem_of_getElem? (i := 30) rfl))) (mvT hZ (hw _ (List.mem_of_getElem? (i := 3) rfl))) (mvT hZ (hw _ (List.mem_of_getElem? (i := 31) rfl))) (by decide) (backOf (W := 1) (rm5 l Z a0 hw [] y533 q T689.heap n0 f690 ) hZ (hw _ (List.mem_of_getElem? (i := 31) rfl)) (hw _ (List.mem_of_getElem? (i := 3) rfl)) (by decide) (by decide)) (g := (mkF m 251 #[.val (.long p1), .second, .val (.long b), .second, .val (.long p3), .second, .val (.long d), .second, .val (.long p5), .second, .val (.int p6), .val (.int (3 : Int32)), .val (.ref arr), .val (.int md), .val (.long q), .second, .val (.ref tl), .val (.int ((0 : Int32) + (own_b (y525 < q))))] [(.long q), (.long y533), (.int ((0 : Int32) + (own_b (y525 < q))))])) rfl (by rw [hml]; rfl) (argsL := [(.long y533), (.long q)]) (rest := [(.int ((0 : Int32) + (own_b (y525 < q))))]) (lenOf pd_2 rfl) rfl (by show 2 * 0 + _ ≤ _; exact Nat.le_of_eq rfl) (hb hby at_251) (fun _ _ => ⟨rfl, rfl, (by decide : 4 + 0 ≤ _), (by decide : 40 + 0 ≤ _)⟩)
    dsimp only [Pt.U, Pt.locs, Pt.cells, Pt.slots] at X701 l701 y701 z701 st701 hQ701
    subst l701 y701 z701
    obtain ⟨rfl, Nq701, eq701⟩ := hQ701
    have N701 := Fr.app N689 Nq701
    have k701 : Kt p e below m (s₁.setTop (entryFrame m #[(.long p1), (.long p2), (.long p3), (.long p4), (.long p5), (.int p6)] maxLocals)) T701 254 #[.val (.long p1), .second, .val (.long b), .second, .val (.long p3), .second, .val (.long d), .second, .val (.long p5), .second, .val (.int p6), .val (.int (3 : Int32)), .val (.ref arr), .val (.int md), .val (.long q), .second, .val (.ref tl), .val (.int ((0 : Int32) + (own_b (y525 < q))))] [(.int (own_b (y533 < q))), (.int ((0 : Int32) + (own_b (y525 < q))))] := fun t ht => k700 t (st701 t ht)
    have f702 : n0 ≤ T701.heap.size := by rw [eq701]; exact f690
    have f703 : Arv Z T701.heap arr ak498 .long (4 : Int32) [(.long y525), (.long y533), (.long y533'), (.long y529')] (.long (0 : Int64)) := by rw [eq701]; exact f691
    have f704 : Exa Z T701.heap tl "com/example/clearhour/clearhour/market/Timeline" := by rw [eq701]; exact f692
    have f705 : Fld Z T701.heap tl "com/example/clearhour/clearhour/market/Timeline" "times" "[J" (.ref tb) := by rw [eq701]; exact f693
    have f706 : Fld Z T701.heap tl "com/example/clearhour/clearhour/market/Timeline" "values" "[Ljava/lang/Object;" (.ref vb) := by rw [eq701]; exact f694
    have f707 : Fld Z T701.heap tl "com/example/clearhour/clearhour/market/Timeline" "size" "I" (.int (3 : Int32)) := by rw [eq701]; exact f695
    have f708 : Arv Z T701.heap tb kt .long (16 : Int32) [(.long y525), (.long y533), (.long y533'), (.long (0 : Int64))] (.long (0 : Int64)) := by rw [eq701]; exact f696
    have f709 : Arv Z T701.heap vb kv (.object "java/lang/Object") (16 : Int32) [.null, .null, .null, .null] .null := by rw [eq701]; exact f697
    have k710 : Kt p e below m (s₁.setTop (entryFrame m #[(.long p1), (.long p2), (.long p3), (.long p4), (.long p5), (.int p6)] maxLocals)) T701 268 #[.val (.long p1), .second, .val (.long b), .second, .val (.long p3), .second, .val (.long d), .second, .val (.long p5), .second, .val (.int p6), .val (.int (3 : Int32)), .val (.ref arr), .val (.int md), .val (.long q), .second, .val (.ref tl), .val (.int (((0 : Int32) + (own_b (y525 < q))) + (own_b (y533 < q))))] [(.int (2 : Int32)), (.ref arr), (.int (((0 : Int32) + (own_b (y525 < q))) + (own_b (y533 < q))))] := by
      intro t ht
      refine k701 t ?_
      show Steps p.tables e below (T701.setTop (mkF m 254 #[.val (.long p1), .second, .val (.long b), .second, .val (.long p3), .second, .val (.long d), .second, .val (.long p5), .second, .val (.int p6), .val (.int (3 : Int32)), .val (.ref arr), .val (.int md), .val (.long q), .second, .val (.ref tl), .val (.int ((0 : Int32) + (own_b (y525 < q))))] [(.int (own_b (y533 < q))), (.int ((0 : Int32) + (own_b (y525 < q))))])) t
      refine XS.iadd X701.here hx rfl (hb hby at_254) rfl ?_
      show Steps p.tables e below (T701.setTop (mkF m 255 #[.val (.long p1), .second, .val (.long b), .second, .val (.long p3), .second, .val (.long d), .second, .val (.long p5), .second, .val (.int p6), .val (.int (3 : Int32)), .val (.ref arr), .val (.int md), .val (.long q), .second, .val (.ref tl), .val (.int ((0 : Int32) + (own_b (y525 < q))))] [(.int (((0 : Int32) + (own_b (y525 < q))) + (own_b (y533 < q))))])) t
      refine XS.istore X701.here hx rfl (hb hby at_255) rfl (l' := #[.val (.long p1), .second, .val (.long b), .second, .val (.long p3), .second, .val (.long d), .second, .val (.long p5), .second, .val (.int p6), .val (.int (3 : Int32)), .val (.ref arr), .val (.int md), .val (.long q), .second, .val (.ref tl), .val (.int (((0 : Int32) + (own_b (y525 < q))) + (own_b (y533 < q))))]) rfl ?_
      show Steps p.tables e below (T701.setTop (mkF m 257 #[.val (.long p1), .second, .val (.long b), .second, .val (.long p3), .second, .val (.long d), .second, .val (.long p5), .second, .val (.int p6), .val (.int (3 : Int32)), .val (.ref arr), .val (.int md), .val (.long q), .second, .val (.ref tl), .val (.int (((0 : Int32) + (own_b (y525 < q))) + (own_b (y533 < q))))] [])) t
      refine XS.iload X701.here hx rfl (hb hby at_257) rfl ?_
      show Steps p.tables e below (T701.setTop (mkF m 259 #[.val (.long p1), .second, .val (.long b), .second, .val (.long p3), .second, .val (.long d), .second, .val (.long p5), .second, .val (.int p6), .val (.int (3 : Int32)), .val (.ref arr), .val (.int md), .val (.long q), .second, .val (.ref tl), .val (.int (((0 : Int32) + (own_b (y525 < q))) + (own_b (y533 < q))))] [(.int (3 : Int32))])) t
      refine XS.iconst X701.here hx rfl (hb hby at_259) ?_
      show Steps p.tables e below (T701.setTop (mkF m 260 #[.val (.long p1), .second, .val (.long b), .second, .val (.long p3), .second, .val (.long d), .second, .val (.long p5), .second, .val (.int p6), .val (.int (3 : Int32)), .val (.ref arr), .val (.int md), .val (.long q), .second, .val (.ref tl), .val (.int (((0 : Int32) + (own_b (y525 < q))) + (own_b (y533 < q))))] [(.int (2 : Int32)), (.int (3 : Int32))])) t
      refine XS.icmpNo X701.here hx rfl (hb hby at_260) rfl (tlt (by decide)).2.2.2 ?_
      show Steps p.tables e below (T701.setTop (mkF m 263 #[.val (.long p1), .second, .val (.long b), .second, .val (.long p3), .second, .val (.long d), .second, .val (.long p5), .second, .val (.int p6), .val (.int (3 : Int32)), .val (.ref arr), .val (.int md), .val (.long q), .second, .val (.ref tl), .val (.int (((0 : Int32) + (own_b (y525 < q))) + (own_b (y533 < q))))] [])) t
      refine XS.iload X701.here hx rfl (hb hby at_263) rfl ?_
      show Steps p.tables e below (T701.setTop (mkF m 265 #[.val (.long p1), .second, .val (.long b), .second, .val (.long p3), .second, .val (.long d), .second, .val (.long p5), .second, .val (.int p6), .val (.int (3 : Int32)), .val (.ref arr), .val (.int md), .val (.long q), .second, .val (.ref tl), .val (.int (((0 : Int32) + (own_b (y525 < q))) + (own_b (y533 < q))))] [(.int (((0 : Int32) + (own_b (y525 < q))) + (own_b (y533 < q))))])) t
      refine XS.aload X701.here hx rfl (hb hby at_265) rfl rfl ?_
      show Steps p.tables e below (T701.setTop (mkF m 267 #[.val (.long p1), .second, .val (.long b), .second, .val (.long p3), .second, .val (.long d), .second, .val (.long p5), .second, .val (.int p6), .val (.int (3 : Int32)), .val (.ref arr), .val (.int md), .val (.long q), .second, .val (.ref tl), .val (.int (((0 : Int32) + (own_b (y525 < q))) + (own_b (y533 < q))))] [(.ref arr), (.int (((0 : Int32) + (own_b (y525 < q))) + (own_b (y533 < q))))])) t
      refine XS.iconst X701.here hx rfl (hb hby at_267) ?_
      exact ht
    obtain ⟨cl711, Ar711, qc711, Sz711, Nn711, Hh711, Gg711⟩ := id f703
    have hin711 : ¬ ((2 : Int32) < 0 ∨ cl711.slots.size ≤ ((2 : Int32)).toNatClampNeg) := inb_of Sz711 ⟨by decide, by decide⟩
    have hat711 : cl711.slots[((2 : Int32)).toNatClampNeg]? = some (.long y533') := Hh711.at hin711 rfl
    have k712 : Kt p e below m (s₁.setTop (entryFrame m #[(.long p1), (.long p2), (.long p3), (.long p4), (.long p5), (.int p6)] maxLocals)) T701 271 #[.val (.long p1), .second, .val (.long b), .second, .val (.long p3), .second, .val (.long d), .second, .val (.long p5), .second, .val (.int p6), .val (.int (3 : Int32)), .val (.ref arr), .val (.int md), .val (.long q), .second, .val (.ref tl), .val (.int (((0 : Int32) + (own_b (y525 < q))) + (own_b (y533 < q))))] [(.long q), (.long y533'), (.int (((0 : Int32) + (own_b (y525 < q))) + (own_b (y533 < q))))] := by
      intro t ht
      refine k710 t ?_
      show Steps p.tables e below (T701.setTop (mkF m 268 #[.val (.long p1), .second, .val (.long b), .second, .val (.long p3), .second, .val (.long d), .second, .val (.long p5), .second, .val (.int p6), .val (.int (3 : Int32)), .val (.ref arr), .val (.int md), .val (.long q), .second, .val (.ref tl), .val (.int (((0 : Int32) + (own_b (y525 < q))) + (own_b (y533 < q))))] [(.int (2 : Int32)), (.ref arr), (.int (((0 : Int32) + (own_b (y525 < q))) + (own_b (y533 < q))))])) t
      refine X701.laload hx (j := (2 : Int32)) (v := (.long y533')) Ar711.1 (State.isArrayOf_alike hZ.alike Ar711.2.1) Ar711.2.2 hin711 hat711 (g := (mkF m 268 #[.val (.long p1), .second, .val (.long b), .second, .val (.long p3), .second, .val (.long d), .second, .val (.long p5), .second, .val (.int p6), .val (.int (3 : Int32)), .val (.ref arr), .val (.int md), .val (.long q), .second, .val (.ref tl), .val (.int (((0 : Int32) + (own_b (y525 < q))) + (own_b (y533 < q))))] [(.int (2 : Int32)), (.ref arr), (.int (((0 : Int32) + (own_b (y525 < q))) + (own_b (y533 < q))))])) rfl rfl (hb hby at_268) _ ?_
      show Steps p.tables e below (T701.setTop (mkF m 269 #[.val (.long p1), .second, .val (.long b), .second, .val (.long p3), .second, .val (.long d), .second, .val (.long p5), .second, .val (.int p6), .val (.int (3 : Int32)), .val (.ref arr), .val (.int md), .val (.long q), .second, .val (.ref tl), .val (.int (((0 : Int32) + (own_b (y525 < q))) + (own_b (y533 < q))))] [(.long y533'), (.int (((0 : Int32) + (own_b (y525 < q))) + (own_b (y533 < q))))])) t
      refine XS.lload X701.here hx rfl (hb hby at_269) rfl ?_
      exact ht
    obtain ⟨_, _, ⟨T713, L713, c713, n713⟩, -, X713, ⟨Lc713, hQ713, l713, y713, z713⟩, st713⟩ := Jvm.LawKit.callS X701 hx (y := (⟨"com/example/clearhour/clearhour/market/TimelineIndexFromPinLaw", "lt", "(JJ)I"⟩ : MethodName)) hown (mvT hZ (hw _ (List.mem_of_getElem? (i := 29) rfl))) (mvT hZ (hw _ (List.mem_of_getElem? (i := 30) rfl))) (mvT hZ (hw _ (List.mem_of_getElem? (i := 3) rfl))) (mvT hZ (hw _ (List.mem_of_getElem? (i := 31) rfl))) (by decide) (backOf (W := 1) (rm5 l Z a0 hw [] y533' q T701.heap n0 f702 ) hZ (hw _ (List.mem_of_getElem? (i := 31) rfl)) (hw _ (List.mem_of_getElem? (i := 3) rfl)) (by decide) (by decide)) (g := (mkF m 271 #[.val (.long p1), .second, .val (.long b), .second, .val (.long p3), .second, .val (.long d), .second, .val (.long p5), .second, .val (.int p6), .val (.int (3 : Int32)), .val (.ref arr), .val (.int md), .val (.long q), .second, .val (.ref tl), .val (.int (((0 : Int32) + (own_b (y525 < q))) + (own_b (y533 < q))))] [(.long q), (.long y533'), (.int (((0 : Int32) + (own_b (y525 < q))) + (own_b (y533 < q))))])) rfl (by rw [hml]; rfl) (argsL := [(.long y533'), (.long q)]) (rest := [(.int (((0 : Int32) + (own_b (y525 < q))) + (own_b (y533 < q))))]) (lenOf pd_2 rfl) rfl (by show 2 * 0 + _ ≤ _; exact Nat.le_of_eq rfl) (hb hby at_271) (fun _ _ => ⟨rfl, rfl, (by decide : 4 + 0 ≤ _), (by decide : 40 + 0 ≤ _)⟩)
    dsimp only [Pt.U, Pt.locs, Pt.cells, Pt.slots] at X713 l713 y713 z713 st713 hQ713
    subst l713 y713 z713
    obtain ⟨rfl, Nq713, eq713⟩ := hQ713
    have N713 := Fr.app N701 Nq713
    have k713 : Kt p e below m (s₁.setTop (entryFrame m #[(.long p1), (.long p2), (.long p3), (.long p4), (.long p5), (.int p6)] maxLocals)) T713 274 #[.val (.long p1), .second, .val (.long b), .second, .val (.long p3), .second, .val (.long d), .second, .val (.long p5), .second, .val (.int p6), .val (.int (3 : Int32)), .val (.ref arr), .val (.int md), .val (.long q), .second, .val (.ref tl), .val (.int (((0 : Int32) + (own_b (y525 < q))) + (own_b (y533 < q))))] [(.int (own_b (y533' < q))), (.int (((0 : Int32) + (own_b (y525 < q))) + (own_b (y533 < q))))] := fun t ht => k712 t (st713 t ht)
    have f714 : n0 ≤ T713.heap.size := by rw [eq713]; exact f702
    have f715 : Arv Z T713.heap arr ak498 .long (4 : Int32) [(.long y525), (.long y533), (.long y533'), (.long y529')] (.long (0 : Int64)) := by rw [eq713]; exact f703
    have f716 : Exa Z T713.heap tl "com/example/clearhour/clearhour/market/Timeline" := by rw [eq713]; exact f704
    have f717 : Fld Z T713.heap tl "com/example/clearhour/clearhour/market/Timeline" "times" "[J" (.ref tb) := by rw [eq713]; exact f705
    have f718 : Fld Z T713.heap tl "com/example/clearhour/clearhour/market/Timeline" "values" "[Ljava/lang/Object;" (.ref vb) := by rw [eq713]; exact f706
    have f719 : Fld Z T713.heap tl "com/example/clearhour/clearhour/market/Timeline" "size" "I" (.int (3 : Int32)) := by rw [eq713]; exact f707
    have f720 : Arv Z T713.heap tb kt .long (16 : Int32) [(.long y525), (.long y533), (.long y533'), (.long (0 : Int64))] (.long (0 : Int64)) := by rw [eq713]; exact f708
    have f721 : Arv Z T713.heap vb kv (.object "java/lang/Object") (16 : Int32) [.null, .null, .null, .null] .null := by rw [eq713]; exact f709
    have k722 : Kt p e below m (s₁.setTop (entryFrame m #[(.long p1), (.long p2), (.long p3), (.long p4), (.long p5), (.int p6)] maxLocals)) T713 301 #[.val (.long p1), .second, .val (.long b), .second, .val (.long p3), .second, .val (.long d), .second, .val (.long p5), .second, .val (.int p6), .val (.int (3 : Int32)), .val (.ref arr), .val (.int md), .val (.long q), .second, .val (.ref tl), .val (.int ((((0 : Int32) + (own_b (y525 < q))) + (own_b (y533 < q))) + (own_b (y533' < q))))] [(.long q), (.ref tl)] := by
      intro t ht
      refine k713 t ?_
      show Steps p.tables e below (T713.setTop (mkF m 274 #[.val (.long p1), .second, .val (.long b), .second, .val (.long p3), .second, .val (.long d), .second, .val (.long p5), .second, .val (.int p6), .val (.int (3 : Int32)), .val (.ref arr), .val (.int md), .val (.long q), .second, .val (.ref tl), .val (.int (((0 : Int32) + (own_b (y525 < q))) + (own_b (y533 < q))))] [(.int (own_b (y533' < q))), (.int (((0 : Int32) + (own_b (y525 < q))) + (own_b (y533 < q))))])) t
      refine XS.iadd X713.here hx rfl (hb hby at_274) rfl ?_
      show Steps p.tables e below (T713.setTop (mkF m 275 #[.val (.long p1), .second, .val (.long b), .second, .val (.long p3), .second, .val (.long d), .second, .val (.long p5), .second, .val (.int p6), .val (.int (3 : Int32)), .val (.ref arr), .val (.int md), .val (.long q), .second, .val (.ref tl), .val (.int (((0 : Int32) + (own_b (y525 < q))) + (own_b (y533 < q))))] [(.int ((((0 : Int32) + (own_b (y525 < q))) + (own_b (y533 < q))) + (own_b (y533' < q))))])) t
      refine XS.istore X713.here hx rfl (hb hby at_275) rfl (l' := #[.val (.long p1), .second, .val (.long b), .second, .val (.long p3), .second, .val (.long d), .second, .val (.long p5), .second, .val (.int p6), .val (.int (3 : Int32)), .val (.ref arr), .val (.int md), .val (.long q), .second, .val (.ref tl), .val (.int ((((0 : Int32) + (own_b (y525 < q))) + (own_b (y533 < q))) + (own_b (y533' < q))))]) rfl ?_
      show Steps p.tables e below (T713.setTop (mkF m 277 #[.val (.long p1), .second, .val (.long b), .second, .val (.long p3), .second, .val (.long d), .second, .val (.long p5), .second, .val (.int p6), .val (.int (3 : Int32)), .val (.ref arr), .val (.int md), .val (.long q), .second, .val (.ref tl), .val (.int ((((0 : Int32) + (own_b (y525 < q))) + (own_b (y533 < q))) + (own_b (y533' < q))))] [])) t
      refine XS.iload X713.here hx rfl (hb hby at_277) rfl ?_
      show Steps p.tables e below (T713.setTop (mkF m 279 #[.val (.long p1), .second, .val (.long b), .second, .val (.long p3), .second, .val (.long d), .second, .val (.long p5), .second, .val (.int p6), .val (.int (3 : Int32)), .val (.ref arr), .val (.int md), .val (.long q), .second, .val (.ref tl), .val (.int ((((0 : Int32) + (own_b (y525 < q))) + (own_b (y533 < q))) + (own_b (y533' < q))))] [(.int (3 : Int32))])) t
      refine XS.iconst X713.here hx rfl (hb hby at_279) ?_
      show Steps p.tables e below (T713.setTop (mkF m 280 #[.val (.long p1), .second, .val (.long b), .second, .val (.long p3), .second, .val (.long d), .second, .val (.long p5), .second, .val (.int p6), .val (.int (3 : Int32)), .val (.ref arr), .val (.int md), .val (.long q), .second, .val (.ref tl), .val (.int ((((0 : Int32) + (own_b (y525 < q))) + (own_b (y533 < q))) + (own_b (y533' < q))))] [(.int (3 : Int32)), (.int (3 : Int32))])) t
      refine XS.icmpYes X713.here hx rfl (pc0 := 280) (pc' := 297) rfl (hb hby at_280) rfl (flt (by decide)).2.2.2 (by decide) (by decide) ?_
      show Steps p.tables e below (T713.setTop (mkF m 297 #[.val (.long p1), .second, .val (.long b), .second, .val (.long p3), .second, .val (.long d), .second, .val (.long p5), .second, .val (.int p6), .val (.int (3 : Int32)), .val (.ref arr), .val (.int md), .val (.long q), .second, .val (.ref tl), .val (.int ((((0 : Int32) + (own_b (y525 < q))) + (own_b (y533 < q))) + (own_b (y533' < q))))] [])) t
      refine XS.aload X713.here hx rfl (hb hby at_297) rfl rfl ?_
      show Steps p.tables e below (T713.setTop (mkF m 299 #[.val (.long p1), .second, .val (.long b), .second, .val (.long p3), .second, .val (.long d), .second, .val (.long p5), .second, .val (.int p6), .val (.int (3 : Int32)), .val (.ref arr), .val (.int md), .val (.long q), .second, .val (.ref tl), .val (.int ((((0 : Int32) + (own_b (y525 < q))) + (own_b (y533 < q))) + (own_b (y533' < q))))] [(.ref tl)])) t
      refine XS.lload X713.here hx rfl (hb hby at_299) rfl ?_
      exact ht
    obtain ⟨cq723, kq723, q723a, q723b, q723c⟩ := isOf hZ rfl f716
    obtain ⟨_, _, ⟨T723, L723, c723, n723⟩, -, X723, ⟨Lc723, hQ723, l723, y723, z723⟩, st723⟩ := X713.virtualBack hx (y := (⟨"com/example/clearhour/clearhour/market/Timeline", "indexFrom", "(J)I"⟩ : MethodName)) (z := (⟨"com/example/clearhour/clearhour/market/Timeline", "indexFrom", "(J)I"⟩ : MethodName)) hown (mvT hZ (hw _ (List.mem_of_getElem? (i := 32) rfl))) (mvT hZ (hw _ (List.mem_of_getElem? (i := 33) rfl))) (notFace_of_selects (args := #[]) (mvT hZ (hw _ (List.mem_of_getElem? (i := 35) rfl)))) (mvT hZ (hw _ (List.mem_of_getElem? (i := 35) rfl))) (mvT hZ (hw _ (List.mem_of_getElem? (i := 34) rfl))) (by decide) (backOf (W := 0) (rmix3 l Z a0 hw [] tl q tb kt y525 y533 y533' (0 : Int64) T713.heap n0 f714 f717 f719 f720 o0 o1) hZ (hw _ (List.mem_of_getElem? (i := 36) rfl)) (hw _ (List.mem_of_getElem? (i := 7) rfl)) (by decide) (by decide)) q723a q723c (g := (mkF m 301 #[.val (.long p1), .second, .val (.long b), .second, .val (.long p3), .second, .val (.long d), .second, .val (.long p5), .second, .val (.int p6), .val (.int (3 : Int32)), .val (.ref arr), .val (.int md), .val (.long q), .second, .val (.ref tl), .val (.int ((((0 : Int32) + (own_b (y525 < q))) + (own_b (y533 < q))) + (own_b (y533' < q))))] [(.long q), (.ref tl)])) rfl (by rw [hml]; rfl) (Steps.refl _) (argsL := [(.long q)]) (rest := []) (lenOf pd_1 rfl) rfl (by show 2 * 0 + _ ≤ _; exact Nat.le_of_eq rfl) (hb hby at_301) (fun _ _ => ⟨rfl, rfl, (by decide : 4 + 0 ≤ _), (by decide : 40 + 0 ≤ _)⟩)
    dsimp only [Pt.U, Pt.locs, Pt.cells, Pt.slots] at X723 l723 y723 z723 st723 hQ723
    subst l723 y723 z723
    obtain ⟨rfl, Nq723, eqz⟩ := hQ723
    have N723 := Fr.app N713 Nq723
    have k723 : Kt p e below m (s₁.setTop (entryFrame m #[(.long p1), (.long p2), (.long p3), (.long p4), (.long p5), (.int p6)] maxLocals)) T723 304 #[.val (.long p1), .second, .val (.long b), .second, .val (.long p3), .second, .val (.long d), .second, .val (.long p5), .second, .val (.int p6), .val (.int (3 : Int32)), .val (.ref arr), .val (.int md), .val (.long q), .second, .val (.ref tl), .val (.int ((((0 : Int32) + (own_b (y525 < q))) + (own_b (y533 < q))) + (own_b (y533' < q))))] [(.int ((((0 : Int32) + (own_b (y525 < q))) + (own_b (y533 < q))) + (own_b (y533' < q))))] := fun t ht => k722 t (st723.trans ht)
    have k724 : Kt p e below m (s₁.setTop (entryFrame m #[(.long p1), (.long p2), (.long p3), (.long p4), (.long p5), (.int p6)] maxLocals)) T723 314 #[.val (.long p1), .second, .val (.long b), .second, .val (.long p3), .second, .val (.long d), .second, .val (.long p5), .second, .val (.int p6), .val (.int (3 : Int32)), .val (.ref arr), .val (.int md), .val (.long q), .second, .val (.ref tl), .val (.int ((((0 : Int32) + (own_b (y525 < q))) + (own_b (y533 < q))) + (own_b (y533' < q))))] [(.int (1 : Int32))] := by
      intro t ht
      refine k723 t ?_
      show Steps p.tables e below (T723.setTop (mkF m 304 #[.val (.long p1), .second, .val (.long b), .second, .val (.long p3), .second, .val (.long d), .second, .val (.long p5), .second, .val (.int p6), .val (.int (3 : Int32)), .val (.ref arr), .val (.int md), .val (.long q), .second, .val (.ref tl), .val (.int ((((0 : Int32) + (own_b (y525 < q))) + (own_b (y533 < q))) + (own_b (y533' < q))))] [(.int ((((0 : Int32) + (own_b (y525 < q))) + (own_b (y533 < q))) + (own_b (y533' < q))))])) t
      refine XS.iload X723.here hx rfl (hb hby at_304) rfl ?_
      show Steps p.tables e below (T723.setTop (mkF m 306 #[.val (.long p1), .second, .val (.long b), .second, .val (.long p3), .second, .val (.long d), .second, .val (.long p5), .second, .val (.int p6), .val (.int (3 : Int32)), .val (.ref arr), .val (.int md), .val (.long q), .second, .val (.ref tl), .val (.int ((((0 : Int32) + (own_b (y525 < q))) + (own_b (y533 < q))) + (own_b (y533' < q))))] [(.int ((((0 : Int32) + (own_b (y525 < q))) + (own_b (y533 < q))) + (own_b (y533' < q)))), (.int ((((0 : Int32) + (own_b (y525 < q))) + (own_b (y533 < q))) + (own_b (y533' < q))))])) t
      refine XS.icmpNo X723.here hx rfl (hb hby at_306) rfl (teq rfl).2 ?_
      show Steps p.tables e below (T723.setTop (mkF m 309 #[.val (.long p1), .second, .val (.long b), .second, .val (.long p3), .second, .val (.long d), .second, .val (.long p5), .second, .val (.int p6), .val (.int (3 : Int32)), .val (.ref arr), .val (.int md), .val (.long q), .second, .val (.ref tl), .val (.int ((((0 : Int32) + (own_b (y525 < q))) + (own_b (y533 < q))) + (own_b (y533' < q))))] [])) t
      refine XS.iconst X723.here hx rfl (hb hby at_309) ?_
      show Steps p.tables e below (T723.setTop (mkF m 310 #[.val (.long p1), .second, .val (.long b), .second, .val (.long p3), .second, .val (.long d), .second, .val (.long p5), .second, .val (.int p6), .val (.int (3 : Int32)), .val (.ref arr), .val (.int md), .val (.long q), .second, .val (.ref tl), .val (.int ((((0 : Int32) + (own_b (y525 < q))) + (own_b (y533 < q))) + (own_b (y533' < q))))] [(.int (1 : Int32))])) t
      refine XS.goto X723.here hx rfl (pc0 := 310) (pc' := 314) rfl (hb hby at_310) (by decide) (by decide) ?_
      exact ht
    obtain ⟨fs, hr, hrun, hended, hW, hsame⟩ := X723.leave (v := some (.int (1 : Int32))) (fun h => by rw [Bd.returns] at h; cases h)
    refine ⟨_, _, k724 _ ?_, hrun, hended, _, _, rfl, ?_, ⟨_, rfl⟩, hW, hsame.mono (by decide) (by decide)⟩
    · exact retN X723 hx (t := .boolean) Bd.returns (by simp) (hb hby at_314) hr
    · show Q0 Z p1 p2 p3 p4 p5 p6 h0 n0 _ T723.heap _
      exact ⟨rfl, N723⟩
  · rw [hN] at k568
    have k725 : Kt p e below m (s₁.setTop (entryFrame m #[(.long p1), (.long p2), (.long p3), (.long p4), (.long p5), (.int p6)] maxLocals)) T560 162 #[.val (.long p1), .second, .val (.long b), .second, .val (.long p3), .second, .val (.long d), .second, .val (.long p5), .second, .val (.int p6), .val (.int (4 : Int32)), .val (.ref arr), .val (.int md), .val (.long q), .second, .val (.ref tl), .unset] [(.int (0 : Int32)), (.ref arr), (.ref tl)] := by
      intro t ht
      refine k568 t ?_
      show Steps p.tables e below (T560.setTop (mkF m 154 #[.val (.long p1), .second, .val (.long b), .second, .val (.long p3), .second, .val (.long d), .second, .val (.long p5), .second, .val (.int p6), .val (.int (4 : Int32)), .val (.ref arr), .val (.int md), .val (.long q), .second, .val (.ref tl), .unset] [(.int (4 : Int32))])) t
      refine XS.ifNo X560.here hx rfl (hb hby at_154) rfl ((if0 _ _).trans (tlt (by decide)).2.2.2) ?_
      show Steps p.tables e below (T560.setTop (mkF m 157 #[.val (.long p1), .second, .val (.long b), .second, .val (.long p3), .second, .val (.long d), .second, .val (.long p5), .second, .val (.int p6), .val (.int (4 : Int32)), .val (.ref arr), .val (.int md), .val (.long q), .second, .val (.ref tl), .unset] [])) t
      refine XS.aload X560.here hx rfl (hb hby at_157) rfl rfl ?_
      show Steps p.tables e below (T560.setTop (mkF m 159 #[.val (.long p1), .second, .val (.long b), .second, .val (.long p3), .second, .val (.long d), .second, .val (.long p5), .second, .val (.int p6), .val (.int (4 : Int32)), .val (.ref arr), .val (.int md), .val (.long q), .second, .val (.ref tl), .unset] [(.ref tl)])) t
      refine XS.aload X560.here hx rfl (hb hby at_159) rfl rfl ?_
      show Steps p.tables e below (T560.setTop (mkF m 161 #[.val (.long p1), .second, .val (.long b), .second, .val (.long p3), .second, .val (.long d), .second, .val (.long p5), .second, .val (.int p6), .val (.int (4 : Int32)), .val (.ref arr), .val (.int md), .val (.long q), .second, .val (.ref tl), .unset] [(.ref arr), (.ref tl)])) t
      refine XS.iconst X560.here hx rfl (hb hby at_161) ?_
      exact ht
    obtain ⟨cl726, Ar726, qc726, Sz726, Nn726, Hh726, Gg726⟩ := id f562
    have hin726 : ¬ ((0 : Int32) < 0 ∨ cl726.slots.size ≤ ((0 : Int32)).toNatClampNeg) := inb_of Sz726 ⟨by decide, by decide⟩
    have hat726 : cl726.slots[((0 : Int32)).toNatClampNeg]? = some (.long y525) := Hh726.at hin726 rfl
    have k727 : Kt p e below m (s₁.setTop (entryFrame m #[(.long p1), (.long p2), (.long p3), (.long p4), (.long p5), (.int p6)] maxLocals)) T560 164 #[.val (.long p1), .second, .val (.long b), .second, .val (.long p3), .second, .val (.long d), .second, .val (.long p5), .second, .val (.int p6), .val (.int (4 : Int32)), .val (.ref arr), .val (.int md), .val (.long q), .second, .val (.ref tl), .unset] [.null, (.long y525), (.ref tl)] := by
      intro t ht
      refine k725 t ?_
      show Steps p.tables e below (T560.setTop (mkF m 162 #[.val (.long p1), .second, .val (.long b), .second, .val (.long p3), .second, .val (.long d), .second, .val (.long p5), .second, .val (.int p6), .val (.int (4 : Int32)), .val (.ref arr), .val (.int md), .val (.long q), .second, .val (.ref tl), .unset] [(.int (0 : Int32)), (.ref arr), (.ref tl)])) t
      refine X560.laload hx (j := (0 : Int32)) (v := (.long y525)) Ar726.1 (State.isArrayOf_alike hZ.alike Ar726.2.1) Ar726.2.2 hin726 hat726 (g := (mkF m 162 #[.val (.long p1), .second, .val (.long b), .second, .val (.long p3), .second, .val (.long d), .second, .val (.long p5), .second, .val (.int p6), .val (.int (4 : Int32)), .val (.ref arr), .val (.int md), .val (.long q), .second, .val (.ref tl), .unset] [(.int (0 : Int32)), (.ref arr), (.ref tl)])) rfl rfl (hb hby at_162) _ ?_
      show Steps p.tables e below (T560.setTop (mkF m 163 #[.val (.long p1), .second, .val (.long b), .second, .val (.long p3), .second, .val (.long d), .second, .val (.long p5), .second, .val (.int p6), .val (.int (4 : Int32)), .val (.ref arr), .val (.int md), .val (.long q), .second, .val (.ref tl), .unset] [(.long y525), (.ref tl)])) t
      refine XS.aconstNull X560.here hx rfl (hb hby at_163) ?_
      exact ht
    obtain ⟨cq728, kq728, q728a, q728b, q728c⟩ := isOf hZ rfl f563
    obtain ⟨_, _, ⟨T728, L728, c728, n728⟩, -, X728, ⟨Lc728, hQ728, l728, y728, z728⟩, st728⟩ := X560.virtualBack hx (y := (⟨"com/example/clearhour/clearhour/market/Timeline", "add", "(JLjava/lang/Object;)V"⟩ : MethodName)) (z := (⟨"com/example/clearhour/clearhour/market/Timeline", "add", "(JLjava/lang/Object;)V"⟩ : MethodName)) hown (mvT hZ (hw _ (List.mem_of_getElem? (i := 22) rfl))) (mvT hZ (hw _ (List.mem_of_getElem? (i := 23) rfl))) (notFace_of_selects (args := #[]) (mvT hZ (hw _ (List.mem_of_getElem? (i := 25) rfl)))) (mvT hZ (hw _ (List.mem_of_getElem? (i := 25) rfl))) (mvT hZ (hw _ (List.mem_of_getElem? (i := 24) rfl))) (by decide) (backOf (W := 0) (rmad0 l Z a0 hw [] tl y525 tb vb kt kv (0 : Int64) (0 : Int64) (0 : Int64) (0 : Int64) T560.heap n0 f561 f563 Ft Fv Fz Vt Vv ne_tl_tb ne_tl_vb ne_tb_vb g_tl g_tb g_vb) hZ (hw _ (List.mem_of_getElem? (i := 26) rfl)) (hw _ (List.mem_of_getElem? (i := 7) rfl)) (by decide) (by decide)) q728a q728c (g := (mkF m 164 #[.val (.long p1), .second, .val (.long b), .second, .val (.long p3), .second, .val (.long d), .second, .val (.long p5), .second, .val (.int p6), .val (.int (4 : Int32)), .val (.ref arr), .val (.int md), .val (.long q), .second, .val (.ref tl), .unset] [.null, (.long y525), (.ref tl)])) rfl (by rw [hml]; rfl) (Steps.refl _) (argsL := [(.long y525), .null]) (rest := []) (lenOf pd_3 rfl) rfl (by show 2 * 0 + _ ≤ _; exact Nat.le_of_eq rfl) (hb hby at_164) (fun _ _ => ⟨rfl, rfl, (by decide : 4 + 0 ≤ _), (by decide : 40 + 0 ≤ _)⟩)
    dsimp only [Pt.U, Pt.locs, Pt.cells, Pt.slots] at X728 l728 y728 z728 st728 hQ728
    subst l728 y728 z728
    obtain ⟨rfl, Nq728, Kp728, Fa728, Fb728, Fc728, Va728, Vb728⟩ := hQ728
    have N728 := Fr.app N560 Nq728
    have k728 : Kt p e below m (s₁.setTop (entryFrame m #[(.long p1), (.long p2), (.long p3), (.long p4), (.long p5), (.int p6)] maxLocals)) T728 167 #[.val (.long p1), .second, .val (.long b), .second, .val (.long p3), .second, .val (.long d), .second, .val (.long p5), .second, .val (.int p6), .val (.int (4 : Int32)), .val (.ref arr), .val (.int md), .val (.long q), .second, .val (.ref tl), .unset] [] := fun t ht => k727 t (st728.trans ht)
    have f729 : n0 ≤ T728.heap.size := Nat.le_trans f561 Kp728.1
    have f730 : Arv Z T728.heap arr ak498 .long (4 : Int32) [(.long y525), (.long y533), (.long y533'), (.long y529')] (.long (0 : Int64)) := f562.keep Kp728 (ninS ne_arr_tl (ninS ne_arr_tb (ninS ne_arr_vb nin0)))
    have f731 : Exa Z T728.heap tl "com/example/clearhour/clearhour/market/Timeline" := f563.keep Kp728
    have k737 : Kt p e below m (s₁.setTop (entryFrame m #[(.long p1), (.long p2), (.long p3), (.long p4), (.long p5), (.int p6)] maxLocals)) T728 178 #[.val (.long p1), .second, .val (.long b), .second, .val (.long p3), .second, .val (.long d), .second, .val (.long p5), .second, .val (.int p6), .val (.int (4 : Int32)), .val (.ref arr), .val (.int md), .val (.long q), .second, .val (.ref tl), .unset] [(.int (1 : Int32)), (.ref arr), (.ref tl)] := by
      intro t ht
      refine k728 t ?_
      show Steps p.tables e below (T728.setTop (mkF m 167 #[.val (.long p1), .second, .val (.long b), .second, .val (.long p3), .second, .val (.long d), .second, .val (.long p5), .second, .val (.int p6), .val (.int (4 : Int32)), .val (.ref arr), .val (.int md), .val (.long q), .second, .val (.ref tl), .unset] [])) t
      refine XS.iload X728.here hx rfl (hb hby at_167) rfl ?_
      show Steps p.tables e below (T728.setTop (mkF m 169 #[.val (.long p1), .second, .val (.long b), .second, .val (.long p3), .second, .val (.long d), .second, .val (.long p5), .second, .val (.int p6), .val (.int (4 : Int32)), .val (.ref arr), .val (.int md), .val (.long q), .second, .val (.ref tl), .unset] [(.int (4 : Int32))])) t
      refine XS.iconst X728.here hx rfl (hb hby at_169) ?_
      show Steps p.tables e below (T728.setTop (mkF m 170 #[.val (.long p1), .second, .val (.long b), .second, .val (.long p3), .second, .val (.long d), .second, .val (.long p5), .second, .val (.int p6), .val (.int (4 : Int32)), .val (.ref arr), .val (.int md), .val (.long q), .second, .val (.ref tl), .unset] [(.int (1 : Int32)), (.int (4 : Int32))])) t
      refine XS.icmpNo X728.here hx rfl (hb hby at_170) rfl (tlt (by decide)).2.2.2 ?_
      show Steps p.tables e below (T728.setTop (mkF m 173 #[.val (.long p1), .second, .val (.long b), .second, .val (.long p3), .second, .val (.long d), .second, .val (.long p5), .second, .val (.int p6), .val (.int (4 : Int32)), .val (.ref arr), .val (.int md), .val (.long q), .second, .val (.ref tl), .unset] [])) t
      refine XS.aload X728.here hx rfl (hb hby at_173) rfl rfl ?_
      show Steps p.tables e below (T728.setTop (mkF m 175 #[.val (.long p1), .second, .val (.long b), .second, .val (.long p3), .second, .val (.long d), .second, .val (.long p5), .second, .val (.int p6), .val (.int (4 : Int32)), .val (.ref arr), .val (.int md), .val (.long q), .second, .val (.ref tl), .unset] [(.ref tl)])) t
      refine XS.aload X728.here hx rfl (hb hby at_175) rfl rfl ?_
      show Steps p.tables e below (T728.setTop (mkF m 177 #[.val (.long p1), .second, .val (.long b), .second, .val (.long p3), .second, .val (.long d), .second, .val (.long p5), .second, .val (.int p6), .val (.int (4 : Int32)), .val (.ref arr), .val (.int md), .val (.long q), .second, .val (.ref tl), .unset] [(.ref arr), (.ref tl)])) t
      refine XS.iconst X728.here hx rfl (hb hby at_177) ?_
      exact ht
    obtain ⟨cl738, Ar738, qc738, Sz738, Nn738, Hh738, Gg738⟩ := id f730
    have hin738 : ¬ ((1 : Int32) < 0 ∨ cl738.slots.size ≤ ((1 : Int32)).toNatClampNeg) := inb_of Sz738 ⟨by decide, by decide⟩
    have hat738 : cl738.slots[((1 : Int32)).toNatClampNeg]? = some (.long y533) := Hh738.at hin738 rfl
    have k739 : Kt p e below m (s₁.setTop (entryFrame m #[(.long p1), (.long p2), (.long p3), (.long p4), (.long p5), (.int p6)] maxLocals)) T728 180 #[.val (.long p1), .second, .val (.long b), .second, .val (.long p3), .second, .val (.long d), .second, .val (.long p5), .second, .val (.int p6), .val (.int (4 : Int32)), .val (.ref arr), .val (.int md), .val (.long q), .second, .val (.ref tl), .unset] [.null, (.long y533), (.ref tl)] := by
      intro t ht
      refine k737 t ?_
      show Steps p.tables e below (T728.setTop (mkF m 178 #[.val (.long p1), .second, .val (.long b), .second, .val (.long p3), .second, .val (.long d), .second, .val (.long p5), .second, .val (.int p6), .val (.int (4 : Int32)), .val (.ref arr), .val (.int md), .val (.long q), .second, .val (.ref tl), .unset] [(.int (1 : Int32)), (.ref arr), (.ref tl)])) t
      refine X728.laload hx (j := (1 : Int32)) (v := (.long y533)) Ar738.1 (State.isArrayOf_alike hZ.alike Ar738.2.1) Ar738.2.2 hin738 hat738 (g := (mkF m 178 #[.val (.long p1), .second, .val (.long b), .second, .val (.long p3), .second, .val (.long d), .second, .val (.long p5), .second, .val (.int p6), .val (.int (4 : Int32)), .val (.ref arr), .val (.int md), .val (.long q), .second, .val (.ref tl), .unset] [(.int (1 : Int32)), (.ref arr), (.ref tl)])) rfl rfl (hb hby at_178) _ ?_
      show Steps p.tables e below (T728.setTop (mkF m 179 #[.val (.long p1), .second, .val (.long b), .second, .val (.long p3), .second, .val (.long d), .second, .val (.long p5), .second, .val (.int p6), .val (.int (4 : Int32)), .val (.ref arr), .val (.int md), .val (.long q), .second, .val (.ref tl), .unset] [(.long y533), (.ref tl)])) t
      refine XS.aconstNull X728.here hx rfl (hb hby at_179) ?_
      exact ht
    obtain ⟨cq740, kq740, q740a, q740b, q740c⟩ := isOf hZ rfl f731
    obtain ⟨_, _, ⟨T740, L740, c740, n740⟩, -, X740, ⟨Lc740, hQ740, l740, y740, z740⟩, st740⟩ := X728.virtualBack hx (y := (⟨"com/example/clearhour/clearhour/market/Timeline", "add", "(JLjava/lang/Object;)V"⟩ : MethodName)) (z := (⟨"com/example/clearhour/clearhour/market/Timeline", "add", "(JLjava/lang/Object;)V"⟩ : MethodName)) hown (mvT hZ (hw _ (List.mem_of_getElem? (i := 22) rfl))) (mvT hZ (hw _ (List.mem_of_getElem? (i := 23) rfl))) (notFace_of_selects (args := #[]) (mvT hZ (hw _ (List.mem_of_getElem? (i := 25) rfl)))) (mvT hZ (hw _ (List.mem_of_getElem? (i := 25) rfl))) (mvT hZ (hw _ (List.mem_of_getElem? (i := 24) rfl))) (by decide) (backOf (W := 0) (rmad1 l Z a0 hw [] tl y533 tb vb kt kv y525 (0 : Int64) (0 : Int64) (0 : Int64) T728.heap n0 f729 f731 Fa728 Fb728 Fc728 Va728 Vb728 ne_tl_tb ne_tl_vb ne_tb_vb g_tl g_tb g_vb o0) hZ (hw _ (List.mem_of_getElem? (i := 26) rfl)) (hw _ (List.mem_of_getElem? (i := 7) rfl)) (by decide) (by decide)) q740a q740c (g := (mkF m 180 #[.val (.long p1), .second, .val (.long b), .second, .val (.long p3), .second, .val (.long d), .second, .val (.long p5), .second, .val (.int p6), .val (.int (4 : Int32)), .val (.ref arr), .val (.int md), .val (.long q), .second, .val (.ref tl), .unset] [.null, (.long y533), (.ref tl)])) rfl (by rw [hml]; rfl) (Steps.refl _) (argsL := [(.long y533), .null]) (rest := []) (lenOf pd_3 rfl) rfl (by show 2 * 0 + _ ≤ _; exact Nat.le_of_eq rfl) (hb hby at_180) (fun _ _ => ⟨rfl, rfl, (by decide : 4 + 0 ≤ _), (by decide : 40 + 0 ≤ _)⟩)
    dsimp only [Pt.U, Pt.locs, Pt.cells, Pt.slots] at X740 l740 y740 z740 st740 hQ740
    subst l740 y740 z740
    obtain ⟨rfl, Nq740, Kp740, Fa740, Fb740, Fc740, Va740, Vb740⟩ := hQ740
    have N740 := Fr.app N728 Nq740
    have k740 : Kt p e below m (s₁.setTop (entryFrame m #[(.long p1), (.long p2), (.long p3), (.long p4), (.long p5), (.int p6)] maxLocals)) T740 183 #[.val (.long p1), .second, .val (.long b), .second, .val (.long p3), .second, .val (.long d), .second, .val (.long p5), .second, .val (.int p6), .val (.int (4 : Int32)), .val (.ref arr), .val (.int md), .val (.long q), .second, .val (.ref tl), .unset] [] := fun t ht => k739 t (st740.trans ht)
    have f741 : n0 ≤ T740.heap.size := Nat.le_trans f729 Kp740.1
    have f742 : Arv Z T740.heap arr ak498 .long (4 : Int32) [(.long y525), (.long y533), (.long y533'), (.long y529')] (.long (0 : Int64)) := f730.keep Kp740 (ninS ne_arr_tl (ninS ne_arr_tb (ninS ne_arr_vb nin0)))
    have f743 : Exa Z T740.heap tl "com/example/clearhour/clearhour/market/Timeline" := f731.keep Kp740
    have k749 : Kt p e below m (s₁.setTop (entryFrame m #[(.long p1), (.long p2), (.long p3), (.long p4), (.long p5), (.int p6)] maxLocals)) T740 194 #[.val (.long p1), .second, .val (.long b), .second, .val (.long p3), .second, .val (.long d), .second, .val (.long p5), .second, .val (.int p6), .val (.int (4 : Int32)), .val (.ref arr), .val (.int md), .val (.long q), .second, .val (.ref tl), .unset] [(.int (2 : Int32)), (.ref arr), (.ref tl)] := by
      intro t ht
      refine k740 t ?_
      show Steps p.tables e below (T740.setTop (mkF m 183 #[.val (.long p1), .second, .val (.long b), .second, .val (.long p3), .second, .val (.long d), .second, .val (.long p5), .second, .val (.int p6), .val (.int (4 : Int32)), .val (.ref arr), .val (.int md), .val (.long q), .second, .val (.ref tl), .unset] [])) t
      refine XS.iload X740.here hx rfl (hb hby at_183) rfl ?_
      show Steps p.tables e below (T740.setTop (mkF m 185 #[.val (.long p1), .second, .val (.long b), .second, .val (.long p3), .second, .val (.long d), .second, .val (.long p5), .second, .val (.int p6), .val (.int (4 : Int32)), .val (.ref arr), .val (.int md), .val (.long q), .second, .val (.ref tl), .unset] [(.int (4 : Int32))])) t
      refine XS.iconst X740.here hx rfl (hb hby at_185) ?_
      show Steps p.tables e below (T740.setTop (mkF m 186 #[.val (.long p1), .second, .val (.long b), .second, .val (.long p3), .second, .val (.long d), .second, .val (.long p5), .second, .val (.int p6), .val (.int (4 : Int32)), .val (.ref arr), .val (.int md), .val (.long q), .second, .val (.ref tl), .unset] [(.int (2 : Int32)), (.int (4 : Int32))])) t
      refine XS.icmpNo X740.here hx rfl (hb hby at_186) rfl (tlt (by decide)).2.2.2 ?_
      show Steps p.tables e below (T740.setTop (mkF m 189 #[.val (.long p1), .second, .val (.long b), .second, .val (.long p3), .second, .val (.long d), .second, .val (.long p5), .second, .val (.int p6), .val (.int (4 : Int32)), .val (.ref arr), .val (.int md), .val (.long q), .second, .val (.ref tl), .unset] [])) t
      refine XS.aload X740.here hx rfl (hb hby at_189) rfl rfl ?_
      show Steps p.tables e below (T740.setTop (mkF m 191 #[.val (.long p1), .second, .val (.long b), .second, .val (.long p3), .second, .val (.long d), .second, .val (.long p5), .second, .val (.int p6), .val (.int (4 : Int32)), .val (.ref arr), .val (.int md), .val (.long q), .second, .val (.ref tl), .unset] [(.ref tl)])) t
      refine XS.aload X740.here hx rfl (hb hby at_191) rfl rfl ?_
      show Steps p.tables e below (T740.setTop (mkF m 193 #[.val (.long p1), .second, .val (.long b), .second, .val (.long p3), .second, .val (.long d), .second, .val (.long p5), .second, .val (.int p6), .val (.int (4 : Int32)), .val (.ref arr), .val (.int md), .val (.long q), .second, .val (.ref tl), .unset] [(.ref arr), (.ref tl)])) t
      refine XS.iconst X740.here hx rfl (hb hby at_193) ?_
      exact ht
    obtain ⟨cl750, Ar750, qc750, Sz750, Nn750, Hh750, Gg750⟩ := id f742
    have hin750 : ¬ ((2 : Int32) < 0 ∨ cl750.slots.size ≤ ((2 : Int32)).toNatClampNeg) := inb_of Sz750 ⟨by decide, by decide⟩
    have hat750 : cl750.slots[((2 : Int32)).toNatClampNeg]? = some (.long y533') := Hh750.at hin750 rfl
    have k751 : Kt p e below m (s₁.setTop (entryFrame m #[(.long p1), (.long p2), (.long p3), (.long p4), (.long p5), (.int p6)] maxLocals)) T740 196 #[.val (.long p1), .second, .val (.long b), .second, .val (.long p3), .second, .val (.long d), .second, .val (.long p5), .second, .val (.int p6), .val (.int (4 : Int32)), .val (.ref arr), .val (.int md), .val (.long q), .second, .val (.ref tl), .unset] [.null, (.long y533'), (.ref tl)] := by
      intro t ht
      refine k749 t ?_
      show Steps p.tables e below (T740.setTop (mkF m 194 #[.val (.long p1), .second, .val (.long b), .second, .val (.long p3), .second, .val (.long d), .second, .val (.long p5), .second, .val (.int p6), .val (.int (4 : Int32)), .val (.ref arr), .val (.int md), .val (.long q), .second, .val (.ref tl), .unset] [(.int (2 : Int32)), (.ref arr), (.ref tl)])) t
      refine X740.laload hx (j := (2 : Int32)) (v := (.long y533')) Ar750.1 (State.isArrayOf_alike hZ.alike Ar750.2.1) Ar750.2.2 hin750 hat750 (g := (mkF m 194 #[.val (.long p1), .second, .val (.long b), .second, .val (.long p3), .second, .val (.long d), .second, .val (.long p5), .second, .val (.int p6), .val (.int (4 : Int32)), .val (.ref arr), .val (.int md), .val (.long q), .second, .val (.ref tl), .unset] [(.int (2 : Int32)), (.ref arr), (.ref tl)])) rfl rfl (hb hby at_194) _ ?_
      show Steps p.tables e below (T740.setTop (mkF m 195 #[.val (.long p1), .second, .val (.long b), .second, .val (.long p3), .second, .val (.long d), .second, .val (.long p5), .second, .val (.int p6), .val (.int (4 : Int32)), .val (.ref arr), .val (.int md), .val (.long q), .second, .val (.ref tl), .unset] [(.long y533'), (.ref tl)])) t
      refine XS.aconstNull X740.here hx rfl (hb hby at_195) ?_
      exact ht
    obtain ⟨cq752, kq752, q752a, q752b, q752c⟩ := isOf hZ rfl f743
    obtain ⟨_, _, ⟨T752, L752, c752, n752⟩, -, X752, ⟨Lc752, hQ752, l752, y752, z752⟩, st752⟩ := X740.virtualBack hx (y := (⟨"com/example/clearhour/clearhour/market/Timeline", "add", "(JLjava/lang/Object;)V"⟩ : MethodName)) (z := (⟨"com/example/clearhour/clearhour/market/Timeline", "add", "(JLjava/lang/Object;)V"⟩ : MethodName)) hown (mvT hZ (hw _ (List.mem_of_getElem? (i := 22) rfl))) (mvT hZ (hw _ (List.mem_of_getElem? (i := 23) rfl))) (notFace_of_selects (args := #[]) (mvT hZ (hw _ (List.mem_of_getElem? (i := 25) rfl)))) (mvT hZ (hw _ (List.mem_of_getElem? (i := 25) rfl))) (mvT hZ (hw _ (List.mem_of_getElem? (i := 24) rfl))) (by decide) (backOf (W := 0) (rmad2 l Z a0 hw [] tl y533' tb vb kt kv y525 y533 (0 : Int64) (0 : Int64) T740.heap n0 f741 f743 Fa740 Fb740 Fc740 Va740 Vb740 ne_tl_tb ne_tl_vb ne_tb_vb g_tl g_tb g_vb o1) hZ (hw _ (List.mem_of_getElem? (i := 26) rfl)) (hw _ (List.mem_of_getElem? (i := 7) rfl)) (by decide) (by decide)) q752a q752c (g := (mkF m 196 #[.val (.long p1), .second, .val (.long b), .second, .val (.long p3), .second, .val (.long d), .second, .val (.long p5), .second, .val (.int p6), .val (.int (4 : Int32)), .val (.ref arr), .val (.int md), .val (.long q), .second, .val (.ref tl), .unset] [.null, (.long y533'), (.ref tl)])) rfl (by rw [hml]; rfl) (Steps.refl _) (argsL := [(.long y533'), .null]) (rest := []) (lenOf pd_3 rfl) rfl (by show 2 * 0 + _ ≤ _; exact Nat.le_of_eq rfl) (hb hby at_196) (fun _ _ => ⟨rfl, rfl, (by decide : 4 + 0 ≤ _), (by decide : 40 + 0 ≤ _)⟩)
    dsimp only [Pt.U, Pt.locs, Pt.cells, Pt.slots] at X752 l752 y752 z752 st752 hQ752
    subst l752 y752 z752
    obtain ⟨rfl, Nq752, Kp752, Fa752, Fb752, Fc752, Va752, Vb752⟩ := hQ752
    have N752 := Fr.app N740 Nq752
    have k752 : Kt p e below m (s₁.setTop (entryFrame m #[(.long p1), (.long p2), (.long p3), (.long p4), (.long p5), (.int p6)] maxLocals)) T752 199 #[.val (.long p1), .second, .val (.long b), .second, .val (.long p3), .second, .val (.long d), .second, .val (.long p5), .second, .val (.int p6), .val (.int (4 : Int32)), .val (.ref arr), .val (.int md), .val (.long q), .second, .val (.ref tl), .unset] [] := fun t ht => k751 t (st752.trans ht)
    have f753 : n0 ≤ T752.heap.size := Nat.le_trans f741 Kp752.1
    have f754 : Arv Z T752.heap arr ak498 .long (4 : Int32) [(.long y525), (.long y533), (.long y533'), (.long y529')] (.long (0 : Int64)) := f742.keep Kp752 (ninS ne_arr_tl (ninS ne_arr_tb (ninS ne_arr_vb nin0)))
    have f755 : Exa Z T752.heap tl "com/example/clearhour/clearhour/market/Timeline" := f743.keep Kp752
    have k761 : Kt p e below m (s₁.setTop (entryFrame m #[(.long p1), (.long p2), (.long p3), (.long p4), (.long p5), (.int p6)] maxLocals)) T752 210 #[.val (.long p1), .second, .val (.long b), .second, .val (.long p3), .second, .val (.long d), .second, .val (.long p5), .second, .val (.int p6), .val (.int (4 : Int32)), .val (.ref arr), .val (.int md), .val (.long q), .second, .val (.ref tl), .unset] [(.int (3 : Int32)), (.ref arr), (.ref tl)] := by
      intro t ht
      refine k752 t ?_
      show Steps p.tables e below (T752.setTop (mkF m 199 #[.val (.long p1), .second, .val (.long b), .second, .val (.long p3), .second, .val (.long d), .second, .val (.long p5), .second, .val (.int p6), .val (.int (4 : Int32)), .val (.ref arr), .val (.int md), .val (.long q), .second, .val (.ref tl), .unset] [])) t
      refine XS.iload X752.here hx rfl (hb hby at_199) rfl ?_
      show Steps p.tables e below (T752.setTop (mkF m 201 #[.val (.long p1), .second, .val (.long b), .second, .val (.long p3), .second, .val (.long d), .second, .val (.long p5), .second, .val (.int p6), .val (.int (4 : Int32)), .val (.ref arr), .val (.int md), .val (.long q), .second, .val (.ref tl), .unset] [(.int (4 : Int32))])) t
      refine XS.iconst X752.here hx rfl (hb hby at_201) ?_
      show Steps p.tables e below (T752.setTop (mkF m 202 #[.val (.long p1), .second, .val (.long b), .second, .val (.long p3), .second, .val (.long d), .second, .val (.long p5), .second, .val (.int p6), .val (.int (4 : Int32)), .val (.ref arr), .val (.int md), .val (.long q), .second, .val (.ref tl), .unset] [(.int (3 : Int32)), (.int (4 : Int32))])) t
      refine XS.icmpNo X752.here hx rfl (hb hby at_202) rfl (tlt (by decide)).2.2.2 ?_
      show Steps p.tables e below (T752.setTop (mkF m 205 #[.val (.long p1), .second, .val (.long b), .second, .val (.long p3), .second, .val (.long d), .second, .val (.long p5), .second, .val (.int p6), .val (.int (4 : Int32)), .val (.ref arr), .val (.int md), .val (.long q), .second, .val (.ref tl), .unset] [])) t
      refine XS.aload X752.here hx rfl (hb hby at_205) rfl rfl ?_
      show Steps p.tables e below (T752.setTop (mkF m 207 #[.val (.long p1), .second, .val (.long b), .second, .val (.long p3), .second, .val (.long d), .second, .val (.long p5), .second, .val (.int p6), .val (.int (4 : Int32)), .val (.ref arr), .val (.int md), .val (.long q), .second, .val (.ref tl), .unset] [(.ref tl)])) t
      refine XS.aload X752.here hx rfl (hb hby at_207) rfl rfl ?_
      show Steps p.tables e below (T752.setTop (mkF m 209 #[.val (.long p1), .second, .val (.long b), .second, .val (.long p3), .second, .val (.long d), .second, .val (.long p5), .second, .val (.int p6), .val (.int (4 : Int32)), .val (.ref arr), .val (.int md), .val (.long q), .second, .val (.ref tl), .unset] [(.ref arr), (.ref tl)])) t
      refine XS.iconst X752.here hx rfl (hb hby at_209) ?_
      exact ht
    obtain ⟨cl762, Ar762, qc762, Sz762, Nn762, Hh762, Gg762⟩ := id f754
    have hin762 : ¬ ((3 : Int32) < 0 ∨ cl762.slots.size ≤ ((3 : Int32)).toNatClampNeg) := inb_of Sz762 ⟨by decide, by decide⟩
    have hat762 : cl762.slots[((3 : Int32)).toNatClampNeg]? = some (.long y529') := Hh762.at hin762 rfl
    have k763 : Kt p e below m (s₁.setTop (entryFrame m #[(.long p1), (.long p2), (.long p3), (.long p4), (.long p5), (.int p6)] maxLocals)) T752 212 #[.val (.long p1), .second, .val (.long b), .second, .val (.long p3), .second, .val (.long d), .second, .val (.long p5), .second, .val (.int p6), .val (.int (4 : Int32)), .val (.ref arr), .val (.int md), .val (.long q), .second, .val (.ref tl), .unset] [.null, (.long y529'), (.ref tl)] := by
      intro t ht
      refine k761 t ?_
      show Steps p.tables e below (T752.setTop (mkF m 210 #[.val (.long p1), .second, .val (.long b), .second, .val (.long p3), .second, .val (.long d), .second, .val (.long p5), .second, .val (.int p6), .val (.int (4 : Int32)), .val (.ref arr), .val (.int md), .val (.long q), .second, .val (.ref tl), .unset] [(.int (3 : Int32)), (.ref arr), (.ref tl)])) t
      refine X752.laload hx (j := (3 : Int32)) (v := (.long y529')) Ar762.1 (State.isArrayOf_alike hZ.alike Ar762.2.1) Ar762.2.2 hin762 hat762 (g := (mkF m 210 #[.val (.long p1), .second, .val (.long b), .second, .val (.long p3), .second, .val (.long d), .second, .val (.long p5), .second, .val (.int p6), .val (.int (4 : Int32)), .val (.ref arr), .val (.int md), .val (.long q), .second, .val (.ref tl), .unset] [(.int (3 : Int32)), (.ref arr), (.ref tl)])) rfl rfl (hb hby at_210) _ ?_
      show Steps p.tables e below (T752.setTop (mkF m 211 #[.val (.long p1), .second, .val (.long b), .second, .val (.long p3), .second, .val (.long d), .second, .val (.long p5), .second, .val (.int p6), .val (.int (4 : Int32)), .val (.ref arr), .val (.int md), .val (.long q), .second, .val (.ref tl), .unset] [(.long y529'), (.ref tl)])) t
      refine XS.aconstNull X752.here hx rfl (hb hby at_211) ?_
      exact ht
    obtain ⟨cq764, kq764, q764a, q764b, q764c⟩ := isOf hZ rfl f755
    obtain ⟨_, _, ⟨T764, L764, c764, n764⟩, -, X764, ⟨Lc764, hQ764, l764, y764, z764⟩, st764⟩ := X752.virtualBack hx (y := (⟨"com/example/clearhour/clearhour/market/Timeline", "add", "(JLjava/lang/Object;)V"⟩ : MethodName)) (z := (⟨"com/example/clearhour/clearhour/market/Timeline", "add", "(JLjava/lang/Object;)V"⟩ : MethodName)) hown (mvT hZ (hw _ (List.mem_of_getElem? (i := 22) rfl))) (mvT hZ (hw _ (List.mem_of_getElem? (i := 23) rfl))) (notFace_of_selects (args := #[]) (mvT hZ (hw _ (List.mem_of_getElem? (i := 25) rfl)))) (mvT hZ (hw _ (List.mem_of_getElem? (i := 25) rfl))) (mvT hZ (hw _ (List.mem_of_getElem? (i := 24) rfl))) (by decide) (backOf (W := 0) (rmad3 l Z a0 hw [] tl y529' tb vb kt kv y525 y533 y533' (0 : Int64) T752.heap n0 f753 f755 Fa752 Fb752 Fc752 Va752 Vb752 ne_tl_tb ne_tl_vb ne_tb_vb g_tl g_tb g_vb o2) hZ (hw _ (List.mem_of_getElem? (i := 26) rfl)) (hw _ (List.mem_of_getElem? (i := 7) rfl)) (by decide) (by decide)) q764a q764c (g := (mkF m 212 #[.val (.long p1), .second, .val (.long b), .second, .val (.long p3), .second, .val (.long d), .second, .val (.long p5), .second, .val (.int p6), .val (.int (4 : Int32)), .val (.ref arr), .val (.int md), .val (.long q), .second, .val (.ref tl), .unset] [.null, (.long y529'), (.ref tl)])) rfl (by rw [hml]; rfl) (Steps.refl _) (argsL := [(.long y529'), .null]) (rest := []) (lenOf pd_3 rfl) rfl (by show 2 * 0 + _ ≤ _; exact Nat.le_of_eq rfl) (hb hby at_212) (fun _ _ => ⟨rfl, rfl, (by decide : 4 + 0 ≤ _), (by decide : 40 + 0 ≤ _)⟩)
    dsimp only [Pt.U, Pt.locs, Pt.cells, Pt.slots] at X764 l764 y764 z764 st764 hQ764
    subst l764 y764 z764
    obtain ⟨rfl, Nq764, Kp764, Fa764, Fb764, Fc764, Va764, Vb764⟩ := hQ764
    have N764 := Fr.app N752 Nq764
    have k764 : Kt p e below m (s₁.setTop (entryFrame m #[(.long p1), (.long p2), (.long p3), (.long p4), (.long p5), (.int p6)] maxLocals)) T764 215 #[.val (.long p1), .second, .val (.long b), .second, .val (.long p3), .second, .val (.long d), .second, .val (.long p5), .second, .val (.int p6), .val (.int (4 : Int32)), .val (.ref arr), .val (.int md), .val (.long q), .second, .val (.ref tl), .unset] [] := fun t ht => k763 t (st764.trans ht)
    have f765 : n0 ≤ T764.heap.size := Nat.le_trans f753 Kp764.1
    have f766 : Arv Z T764.heap arr ak498 .long (4 : Int32) [(.long y525), (.long y533), (.long y533'), (.long y529')] (.long (0 : Int64)) := f754.keep Kp764 (ninS ne_arr_tl (ninS ne_arr_tb (ninS ne_arr_vb nin0)))
    have f767 : Exa Z T764.heap tl "com/example/clearhour/clearhour/market/Timeline" := f755.keep Kp764
    have k773 : Kt p e below m (s₁.setTop (entryFrame m #[(.long p1), (.long p2), (.long p3), (.long p4), (.long p5), (.int p6)] maxLocals)) T764 228 #[.val (.long p1), .second, .val (.long b), .second, .val (.long p3), .second, .val (.long d), .second, .val (.long p5), .second, .val (.int p6), .val (.int (4 : Int32)), .val (.ref arr), .val (.int md), .val (.long q), .second, .val (.ref tl), .val (.int (0 : Int32))] [(.int (0 : Int32)), (.ref arr), (.int (0 : Int32))] := by
      intro t ht
      refine k764 t ?_
      show Steps p.tables e below (T764.setTop (mkF m 215 #[.val (.long p1), .second, .val (.long b), .second, .val (.long p3), .second, .val (.long d), .second, .val (.long p5), .second, .val (.int p6), .val (.int (4 : Int32)), .val (.ref arr), .val (.int md), .val (.long q), .second, .val (.ref tl), .unset] [])) t
      refine XS.iconst X764.here hx rfl (hb hby at_215) ?_
      show Steps p.tables e below (T764.setTop (mkF m 216 #[.val (.long p1), .second, .val (.long b), .second, .val (.long p3), .second, .val (.long d), .second, .val (.long p5), .second, .val (.int p6), .val (.int (4 : Int32)), .val (.ref arr), .val (.int md), .val (.long q), .second, .val (.ref tl), .unset] [(.int (0 : Int32))])) t
      refine XS.istore X764.here hx rfl (hb hby at_216) rfl (l' := #[.val (.long p1), .second, .val (.long b), .second, .val (.long p3), .second, .val (.long d), .second, .val (.long p5), .second, .val (.int p6), .val (.int (4 : Int32)), .val (.ref arr), .val (.int md), .val (.long q), .second, .val (.ref tl), .val (.int (0 : Int32))]) rfl ?_
      show Steps p.tables e below (T764.setTop (mkF m 218 #[.val (.long p1), .second, .val (.long b), .second, .val (.long p3), .second, .val (.long d), .second, .val (.long p5), .second, .val (.int p6), .val (.int (4 : Int32)), .val (.ref arr), .val (.int md), .val (.long q), .second, .val (.ref tl), .val (.int (0 : Int32))] [])) t
      refine XS.iload X764.here hx rfl (hb hby at_218) rfl ?_
      show Steps p.tables e below (T764.setTop (mkF m 220 #[.val (.long p1), .second, .val (.long b), .second, .val (.long p3), .second, .val (.long d), .second, .val (.long p5), .second, .val (.int p6), .val (.int (4 : Int32)), .val (.ref arr), .val (.int md), .val (.long q), .second, .val (.ref tl), .val (.int (0 : Int32))] [(.int (4 : Int32))])) t
      refine XS.ifNo X764.here hx rfl (hb hby at_220) rfl ((if0 _ _).trans (tlt (by decide)).2.2.2) ?_
      show Steps p.tables e below (T764.setTop (mkF m 223 #[.val (.long p1), .second, .val (.long b), .second, .val (.long p3), .second, .val (.long d), .second, .val (.long p5), .second, .val (.int p6), .val (.int (4 : Int32)), .val (.ref arr), .val (.int md), .val (.long q), .second, .val (.ref tl), .val (.int (0 : Int32))] [])) t
      refine XS.iload X764.here hx rfl (hb hby at_223) rfl ?_
      show Steps p.tables e below (T764.setTop (mkF m 225 #[.val (.long p1), .second, .val (.long b), .second, .val (.long p3), .second, .val (.long d), .second, .val (.long p5), .second, .val (.int p6), .val (.int (4 : Int32)), .val (.ref arr), .val (.int md), .val (.long q), .second, .val (.ref tl), .val (.int (0 : Int32))] [(.int (0 : Int32))])) t
      refine XS.aload X764.here hx rfl (hb hby at_225) rfl rfl ?_
      show Steps p.tables e below (T764.setTop (mkF m 227 #[.val (.long p1), .second, .val (.long b), .second, .val (.long p3), .second, .val (.long d), .second, .val (.long p5), .second, .val (.int p6), .val (.int (4 : Int32)), .val (.ref arr), .val (.int md), .val (.long q), .second, .val (.ref tl), .val (.int (0 : Int32))] [(.ref arr), (.int (0 : Int32))])) t
      refine XS.iconst X764.here hx rfl (hb hby at_227) ?_
      exact ht
    obtain ⟨cl774, Ar774, qc774, Sz774, Nn774, Hh774, Gg774⟩ := id f766
    have hin774 : ¬ ((0 : Int32) < 0 ∨ cl774.slots.size ≤ ((0 : Int32)).toNatClampNeg) := inb_of Sz774 ⟨by decide, by decide⟩
    have hat774 : cl774.slots[((0 : Int32)).toNatClampNeg]? = some (.long y525) := Hh774.at hin774 rfl
    have k775 : Kt p e below m (s₁.setTop (entryFrame m #[(.long p1), (.long p2), (.long p3), (.long p4), (.long p5), (.int p6)] maxLocals)) T764 231 #[.val (.long p1), .second, .val (.long b), .second, .val (.long p3), .second, .val (.long d), .second, .val (.long p5), .second, .val (.int p6), .val (.int (4 : Int32)), .val (.ref arr), .val (.int md), .val (.long q), .second, .val (.ref tl), .val (.int (0 : Int32))] [(.long q), (.long y525), (.int (0 : Int32))] := by
      intro t ht
      refine k773 t ?_
      show Steps p.tables e below (T764.setTop (mkF m 228 #[.val (.long p1), .second, .val (.long b), .second, .val (.long p3), .second, .val (.long d), .second, .val (.long p5), .second, .val (.int p6), .val (.int (4 : Int32)), .val (.ref arr), .val (.int md), .val (.long q), .second, .val (.ref tl), .val (.int (0 : Int32))] [(.int (0 : Int32)), (.ref arr), (.int (0 : Int32))])) t
      refine X764.laload hx (j := (0 : Int32)) (v := (.long y525)) Ar774.1 (State.isArrayOf_alike hZ.alike Ar774.2.1) Ar774.2.2 hin774 hat774 (g := (mkF m 228 #[.val (.long p1), .second, .val (.long b), .second, .val (.long p3), .second, .val (.long d), .second, .val (.long p5), .second, .val (.int p6), .val (.int (4 : Int32)), .val (.ref arr), .val (.int md), .val (.long q), .second, .val (.ref tl), .val (.int (0 : Int32))] [(.int (0 : Int32)), (.ref arr), (.int (0 : Int32))])) rfl rfl (hb hby at_228) _ ?_
      show Steps p.tables e below (T764.setTop (mkF m 229 #[.val (.long p1), .second, .val (.long b), .second, .val (.long p3), .second, .val (.long d), .second, .val (.long p5), .second, .val (.int p6), .val (.int (4 : Int32)), .val (.ref arr), .val (.int md), .val (.long q), .second, .val (.ref tl), .val (.int (0 : Int32))] [(.long y525), (.int (0 : Int32))])) t
      refine XS.lload X764.here hx rfl (hb hby at_229) rfl ?_
      exact ht
    obtain ⟨_, _, ⟨T776, L776, c776, n776⟩, -, X776, ⟨Lc776, hQ776, l776, y776, z776⟩, st776⟩ := Jvm.LawKit.callS X764 hx (y := (⟨"com/example/clearhour/clearhour/market/TimelineIndexFromPinLaw", "lt", "(JJ)I"⟩ : MethodName)) hown (mvT hZ (hw _ (List.mem_of_getElem? (i := 29) rfl))) (mvT hZ (hw _ (List.mem_of_getElem? (i := 30) rfl))) (mvT hZ (hw _ (List.mem_of_getElem? (i := 3) rfl))) (mvT hZ (hw _ (List.mem_of_getElem? (i := 31) rfl))) (by decide) (backOf (W := 1) (rm5 l Z a0 hw [] y525 q T764.heap n0 f765 ) hZ (hw _ (List.mem_of_getElem? (i := 31) rfl)) (hw _ (List.mem_of_getElem? (i := 3) rfl)) (by decide) (by decide)) (g := (mkF m 231 #[.val (.long p1), .second, .val (.long b), .second, .val (.long p3), .second, .val (.long d), .second, .val (.long p5), .second, .val (.int p6), .val (.int (4 : Int32)), .val (.ref arr), .val (.int md), .val (.long q), .second, .val (.ref tl), .val (.int (0 : Int32))] [(.long q), (.long y525), (.int (0 : Int32))])) rfl (by rw [hml]; rfl) (argsL := [(.long y525), (.long q)]) (rest := [(.int (0 : Int32))]) (lenOf pd_2 rfl) rfl (by show 2 * 0 + _ ≤ _; exact Nat.le_of_eq rfl) (hb hby at_231) (fun _ _ => ⟨rfl, rfl, (by decide : 4 + 0 ≤ _), (by decide : 40 + 0 ≤ _)⟩)
    dsimp only [Pt.U, Pt.locs, Pt.cells, Pt.slots] at X776 l776 y776 z776 st776 hQ776
    subst l776 y776 z776
    obtain ⟨rfl, Nq776, eq776⟩ := hQ776
    have N776 := Fr.app N764 Nq776
    have k776 : Kt p e below m (s₁.setTop (entryFrame m #[(.long p1), (.long p2), (.long p3), (.long p4), (.long p5), (.int p6)] maxLocals)) T776 234 #[.val (.long p1), .second, .val (.long b), .second, .val (.long p3), .second, .val (.long d), .second, .val (.long p5), .second, .val (.int p6), .val (.int (4 : Int32)), .val (.ref arr), .val (.int md), .val (.long q), .second, .val (.ref tl), .val (.int (0 : Int32))] [(.int (own_b (y525 < q))), (.int (0 : Int32))] := fun t ht => k775 t (st776 t ht)
    have f777 : n0 ≤ T776.heap.size := by rw [eq776]; exact f765
    have f778 : Arv Z T776.heap arr ak498 .long (4 : Int32) [(.long y525), (.long y533), (.long y533'), (.long y529')] (.long (0 : Int64)) := by rw [eq776]; exact f766
    have f779 : Exa Z T776.heap tl "com/example/clearhour/clearhour/market/Timeline" := by rw [eq776]; exact f767
    have f780 : Fld Z T776.heap tl "com/example/clearhour/clearhour/market/Timeline" "times" "[J" (.ref tb) := by rw [eq776]; exact Fa764
    have f781 : Fld Z T776.heap tl "com/example/clearhour/clearhour/market/Timeline" "values" "[Ljava/lang/Object;" (.ref vb) := by rw [eq776]; exact Fb764
    have f782 : Fld Z T776.heap tl "com/example/clearhour/clearhour/market/Timeline" "size" "I" (.int (4 : Int32)) := by rw [eq776]; exact Fc764
    have f783 : Arv Z T776.heap tb kt .long (16 : Int32) [(.long y525), (.long y533), (.long y533'), (.long y529')] (.long (0 : Int64)) := by rw [eq776]; exact Va764
    have f784 : Arv Z T776.heap vb kv (.object "java/lang/Object") (16 : Int32) [.null, .null, .null, .null] .null := by rw [eq776]; exact Vb764
    have k785 : Kt p e below m (s₁.setTop (entryFrame m #[(.long p1), (.long p2), (.long p3), (.long p4), (.long p5), (.int p6)] maxLocals)) T776 248 #[.val (.long p1), .second, .val (.long b), .second, .val (.long p3), .second, .val (.long d), .second, .val (.long p5), .second, .val (.int p6), .val (.int (4 : Int32)), .val (.ref arr), .val (.int md), .val (.long q), .second, .val (.ref tl), .val (.int ((0 : Int32) + (own_b (y525 < q))))] [(.int (1 : Int32)), (.ref arr), (.int ((0 : Int32) + (own_b (y525 < q))))] := by
      intro t ht
      refine k776 t ?_
      show Steps p.tables e below (T776.setTop (mkF m 234 #[.val (.long p1), .second, .val (.long b), .second, .val (.long p3), .second, .val (.long d), .second, .val (.long p5), .second, .val (.int p6), .val (.int (4 : Int32)), .val (.ref arr), .val (.int md), .val (.long q), .second, .val (.ref tl), .val (.int (0 : Int32))] [(.int (own_b (y525 < q))), (.int (0 : Int32))])) t
      refine XS.iadd X776.here hx rfl (hb hby at_234) rfl ?_
      show Steps p.tables e below (T776.setTop (mkF m 235 #[.val (.long p1), .second, .val (.long b), .second, .val (.long p3), .second, .val (.long d), .second, .val (.long p5), .second, .val (.int p6), .val (.int (4 : Int32)), .val (.ref arr), .val (.int md), .val (.long q), .second, .val (.ref tl), .val (.int (0 : Int32))] [(.int ((0 : Int32) + (own_b (y525 < q))))])) t
      refine XS.istore X776.here hx rfl (hb hby at_235) rfl (l' := #[.val (.long p1), .second, .val (.long b), .second, .val (.long p3), .second, .val (.long d), .second, .val (.long p5), .second, .val (.int p6), .val (.int (4 : Int32)), .val (.ref arr), .val (.int md), .val (.long q), .second, .val (.ref tl), .val (.int ((0 : Int32) + (own_b (y525 < q))))]) rfl ?_
      show Steps p.tables e below (T776.setTop (mkF m 237 #[.val (.long p1), .second, .val (.long b), .second, .val (.long p3), .second, .val (.long d), .second, .val (.long p5), .second, .val (.int p6), .val (.int (4 : Int32)), .val (.ref arr), .val (.int md), .val (.long q), .second, .val (.ref tl), .val (.int ((0 : Int32) + (own_b (y525 < q))))] [])) t
      refine XS.iload X776.here hx rfl (hb hby at_237) rfl ?_
      show Steps p.tables e below (T776.setTop (mkF m 239 #[.val (.long p1), .second, .val (.long b), .second, .val (.long p3), .second, .val (.long d), .second, .val (.long p5), .second, .val (.int p6), .val (.int (4 : Int32)), .val (.ref arr), .val (.int md), .val (.long q), .second, .val (.ref tl), .val (.int ((0 : Int32) + (own_b (y525 < q))))] [(.int (4 : Int32))])) t
      refine XS.iconst X776.here hx rfl (hb hby at_239) ?_
      show Steps p.tables e below (T776.setTop (mkF m 240 #[.val (.long p1), .second, .val (.long b), .second, .val (.long p3), .second, .val (.long d), .second, .val (.long p5), .second, .val (.int p6), .val (.int (4 : Int32)), .val (.ref arr), .val (.int md), .val (.long q), .second, .val (.ref tl), .val (.int ((0 : Int32) + (own_b (y525 < q))))] [(.int (1 : Int32)), (.int (4 : Int32))])) t
      refine XS.icmpNo X776.here hx rfl (hb hby at_240) rfl (tlt (by decide)).2.2.2 ?_
      show Steps p.tables e below (T776.setTop (mkF m 243 #[.val (.long p1), .second, .val (.long b), .second, .val (.long p3), .second, .val (.long d), .second, .val (.long p5), .second, .val (.int p6), .val (.int (4 : Int32)), .val (.ref arr), .val (.int md), .val (.long q), .second, .val (.ref tl), .val (.int ((0 : Int32) + (own_b (y525 < q))))] [])) t
      refine XS.iload X776.here hx rfl (hb hby at_243) rfl ?_
      show Steps p.tables e below (T776.setTop (mkF m 245 #[.val (.long p1), .second, .val (.long b), .second, .val (.long p3), .second, .val (.long d), .second, .val (.long p5), .second, .val (.int p6), .val (.int (4 : Int32)), .val (.ref arr), .val (.int md), .val (.long q), .second, .val (.ref tl), .val (.int ((0 : Int32) + (own_b (y525 < q))))] [(.int ((0 : Int32) + (own_b (y525 < q))))])) t
      refine XS.aload X776.here hx rfl (hb hby at_245) rfl rfl ?_
      show Steps p.tables e below (T776.setTop (mkF m 247 #[.val (.long p1), .second, .val (.long b), .second, .val (.long p3), .second, .val (.long d), .second, .val (.long p5), .second, .val (.int p6), .val (.int (4 : Int32)), .val (.ref arr), .val (.int md), .val (.long q), .second, .val (.ref tl), .val (.int ((0 : Int32) + (own_b (y525 < q))))] [(.ref arr), (.int ((0 : Int32) + (own_b (y525 < q))))])) t
      refine XS.iconst X776.here hx rfl (hb hby at_247) ?_
      exact ht
    obtain ⟨cl786, Ar786, qc786, Sz786, Nn786, Hh786, Gg786⟩ := id f778
    have hin786 : ¬ ((1 : Int32) < 0 ∨ cl786.slots.size ≤ ((1 : Int32)).toNatClampNeg) := inb_of Sz786 ⟨by decide, by decide⟩
    have hat786 : cl786.slots[((1 : Int32)).toNatClampNeg]? = some (.long y533) := Hh786.at hin786 rfl
    have k787 : Kt p e below m (s₁.setTop (entryFrame m #[(.long p1), (.long p2), (.long p3), (.long p4), (.long p5), (.int p6)] maxLocals)) T776 251 #[.val (.long p1), .second, .val (.long b), .second, .val (.long p3), .second, .val (.long d), .second, .val (.long p5), .second, .val (.int p6), .val (.int (4 : Int32)), .val (.ref arr), .val (.int md), .val (.long q), .second, .val (.ref tl), .val (.int ((0 : Int32) + (own_b (y525 < q))))] [(.long q), (.long y533), (.int ((0 : Int32) + (own_b (y525 < q))))] := by
      intro t ht
      refine k785 t ?_
      show Steps p.tables e below (T776.setTop (mkF m 248 #[.val (.long p1), .second, .val (.long b), .second, .val (.long p3), .second, .val (.long d), .second, .val (.long p5), .second, .val (.int p6), .val (.int (4 : Int32)), .val (.ref arr), .val (.int md), .val (.long q), .second, .val (.ref tl), .val (.int ((0 : Int32) + (own_b (y525 < q))))] [(.int (1 : Int32)), (.ref arr), (.int ((0 : Int32) + (own_b (y525 < q))))])) t
      refine X776.laload hx (j := (1 : Int32)) (v := (.long y533)) Ar786.1 (State.isArrayOf_alike hZ.alike Ar786.2.1) Ar786.2.2 hin786 hat786 (g := (mkF m 248 #[.val (.long p1), .second, .val (.long b), .second, .val (.long p3), .second, .val (.long d), .second, .val (.long p5), .second, .val (.int p6), .val (.int (4 : Int32)), .val (.ref arr), .val (.int md), .val (.long q), .second, .val (.ref tl), .val (.int ((0 : Int32) + (own_b (y525 < q))))] [(.int (1 : Int32)), (.ref arr), (.int ((0 : Int32) + (own_b (y525 < q))))])) rfl rfl (hb hby at_248) _ ?_
      show Steps p.tables e below (T776.setTop (mkF m 249 #[.val (.long p1), .second, .val (.long b), .second, .val (.long p3), .second, .val (.long d), .second, .val (.long p5), .second, .val (.int p6), .val (.int (4 : Int32)), .val (.ref arr), .val (.int md), .val (.long q), .second, .val (.ref tl), .val (.int ((0 : Int32) + (own_b (y525 < q))))] [(.long y533), (.int ((0 : Int32) + (own_b (y525 < q))))])) t
      refine XS.lload X776.here hx rfl (hb hby at_249) rfl ?_
      exact ht
    obtain ⟨_, _, ⟨T788, L788, c788, n788⟩, -, X788, ⟨Lc788, hQ788, l788, y788, z788⟩, st788⟩ := Jvm.LawKit.callS X776 hx (y := (⟨"com/example/clearhour/clearhour/market/TimelineIndexFromPinLaw", "lt", "(JJ)I"⟩ : MethodName)) hown (mvT hZ (hw _ (List.mem_of_getElem? (i := 29) rfl))) (mvT hZ (hw _ (List.mem_of_getElem? (i := 30) rfl))) (mvT hZ (hw _ (List.mem_of_getElem? (i := 3) rfl))) (mvT hZ (hw _ (List.mem_of_getElem? (i := 31) rfl))) (by decide) (backOf (W := 1) (rm5 l Z a0 hw [] y533 q T776.heap n0 f777 ) hZ (hw _ (List.mem_of_getElem? (i := 31) rfl)) (hw _ (List.mem_of_getElem? (i := 3) rfl)) (by decide) (by decide)) (g := (mkF m 251 #[.val (.long p1), .second, .val (.long b), .second, .val (.long p3), .second, .val (.long d), .second, .val (.long p5), .second, .val (.int p6), .val (.int (4 : Int32)), .val (.ref arr), .val (.int md), .val (.long q), .second, .val (.ref tl), .val (.int ((0 : Int32) + (own_b (y525 < q))))] [(.long q), (.long y533), (.int ((0 : Int32) + (own_b (y525 < q))))])) rfl (by rw [hml]; rfl) (argsL := [(.long y533), (.long q)]) (rest := [(.int ((0 : Int32) + (own_b (y525 < q))))]) (lenOf pd_2 rfl) rfl (by show 2 * 0 + _ ≤ _; exact Nat.le_of_eq rfl) (hb hby at_251) (fun _ _ => ⟨rfl, rfl, (by decide : 4 + 0 ≤ _), (by decide : 40 + 0 ≤ _)⟩)
    dsimp only [Pt.U, Pt.locs, Pt.cells, Pt.slots] at X788 l788 y788 z788 st788 hQ788
    subst l788 y788 z788
    obtain ⟨rfl, Nq788, eq788⟩ := hQ788
    have N788 := Fr.app N776 Nq788
    have k788 : Kt p e below m (s₁.setTop (entryFrame m #[(.long p1), (.long p2), (.long p3), (.long p4), (.long p5), (.int p6)] maxLocals)) T788 254 #[.val (.long p1), .second, .val (.long b), .second, .val (.long p3), .second, .val (.long d), .second, .val (.long p5), .second, .val (.int p6), .val (.int (4 : Int32)), .val (.ref arr), .val (.int md), .val (.long q), .second, .val (.ref tl), .val (.int ((0 : Int32) + (own_b (y525 < q))))] [(.int (own_b (y533 < q))), (.int ((0 : Int32) + (own_b (y525 < q))))] := fun t ht => k787 t (st788 t ht)
    have f789 : n0 ≤ T788.heap.size := by rw [eq788]; exact f777
    have f790 : Arv Z T788.heap arr ak498 .long (4 : Int32) [(.long y525), (.long y533), (.long y533'), (.long y529')] (.long (0 : Int64)) := by rw [eq788]; exact f778
    have f791 : Exa Z T788.heap tl "com/example/clearhour/clearhour/market/Timeline" := by rw [eq788]; exact f779
    have f792 : Fld Z T788.heap tl "com/example/clearhour/clearhour/market/Timeline" "times" "[J" (.ref tb) := by rw [eq788]; exact f780
    have f793 : Fld Z T788.heap tl "com/example/clearhour/clearhour/market/Timeline" "values" "[Ljava/lang/Object;" (.ref vb) := by rw [eq788]; exact f781
    have f794 : Fld Z T788.heap tl "com/example/clearhour/clearhour/market/Timeline" "size" "I" (.int (4 : Int32)) := by rw [eq788]; exact f782
    have f795 : Arv Z T788.heap tb kt .long (16 : Int32) [(.long y525), (.long y533), (.long y533'), (.long y529')] (.long (0 : Int64)) := by rw [eq788]; exact f783
    have f796 : Arv Z T788.heap vb kv (.object "java/lang/Object") (16 : Int32) [.null, .null, .null, .null] .null := by rw [eq788]; exact f784
    have k797 : Kt p e below m (s₁.setTop (entryFrame m #[(.long p1), (.long p2), (.long p3), (.long p4), (.long p5), (.int p6)] maxLocals)) T788 268 #[.val (.long p1), .second, .val (.long b), .second, .val (.long p3), .second, .val (.long d), .second, .val (.long p5), .second, .val (.int p6), .val (.int (4 : Int32)), .val (.ref arr), .val (.int md), .val (.long q), .second, .val (.ref tl), .val (.int (((0 : Int32) + (own_b (y525 < q))) + (own_b (y533 < q))))] [(.int (2 : Int32)), (.ref arr), (.int (((0 : Int32) + (own_b (y525 < q))) + (own_b (y533 < q))))] := by
      intro t ht
      refine k788 t ?_
      show Steps p.tables e below (T788.setTop (mkF m 254 #[.val (.long p1), .second, .val (.long b), .second, .val (.long p3), .second, .val (.long d), .second, .val (.long p5), .second, .val (.int p6), .val (.int (4 : Int32)), .val (.ref arr), .val (.int md), .val (.long q), .second, .val (.ref tl), .val (.int ((0 : Int32) + (own_b (y525 < q))))] [(.int (own_b (y533 < q))), (.int ((0 : Int32) + (own_b (y525 < q))))])) t
      refine XS.iadd X788.here hx rfl (hb hby at_254) rfl ?_
      show Steps p.tables e below (T788.setTop (mkF m 255 #[.val (.long p1), .second, .val (.long b), .second, .val (.long p3), .second, .val (.long d), .second, .val (.long p5), .second, .val (.int p6), .val (.int (4 : Int32)), .val (.ref arr), .val (.int md), .val (.long q), .second, .val (.ref tl), .val (.int ((0 : Int32) + (own_b (y525 < q))))] [(.int (((0 : Int32) + (own_b (y525 < q))) + (own_b (y533 < q))))])) t
      refine XS.istore X788.here hx rfl (hb hby at_255) rfl (l' := #[.val (.long p1), .second, .val (.long b), .second, .val (.long p3), .second, .val (.long d), .second, .val (.long p5), .second, .val (.int p6), .val (.int (4 : Int32)), .val (.ref arr), .val (.int md), .val (.long q), .second, .val (.ref tl), .val (.int (((0 : Int32) + (own_b (y525 < q))) + (own_b (y533 < q))))]) rfl ?_
      show Steps p.tables e below (T788.setTop (mkF m 257 #[.val (.long p1), .second, .val (.long b), .second, .val (.long p3), .second, .val (.long d), .second, .val (.long p5), .second, .val (.int p6), .val (.int (4 : Int32)), .val (.ref arr), .val (.int md), .val (.long q), .second, .val (.ref tl), .val (.int (((0 : Int32) + (own_b (y525 < q))) + (own_b (y533 < q))))] [])) t
      refine XS.iload X788.here hx rfl (hb hby at_257) rfl ?_
      show Steps p.tables e below (T788.setTop (mkF m 259 #[.val (.long p1), .second, .val (.long b), .second, .val (.long p3), .second, .val (.long d), .second, .val (.long p5), .second, .val (.int p6), .val (.int (4 : Int32)), .val (.ref arr), .val (.int md), .val (.long q), .second, .val (.ref tl), .val (.int (((0 : Int32) + (own_b (y525 < q))) + (own_b (y533 < q))))] [(.int (4 : Int32))])) t
      refine XS.iconst X788.here hx rfl (hb hby at_259) ?_
      show Steps p.tables e below (T788.setTop (mkF m 260 #[.val (.long p1), .second, .val (.long b), .second, .val (.long p3), .second, .val (.long d), .second, .val (.long p5), .second, .val (.int p6), .val (.int (4 : Int32)), .val (.ref arr), .val (.int md), .val (.long q), .second, .val (.ref tl), .val (.int (((0 : Int32) + (own_b (y525 < q))) + (own_b (y533 < q))))] [(.int (2 : Int32)), (.int (4 : Int32))])) t
      refine XS.icmpNo X788.here hx rfl (hb hby at_260) rfl (tlt (by decide)).2.2.2 ?_
      show Steps p.tables e below (T788.setTop (mkF m 263 #[.val (.long p1), .second, .val (.long b), .second, .val (.long p3), .second, .val (.long d), .second, .val (.long p5), .second, .val (.int p6), .val (.int (4 : Int32)), .val (.ref arr), .val (.int md), .val (.long q), .second, .val (.ref tl), .val (.int (((0 : Int32) + (own_b (y525 < q))) + (own_b (y533 < q))))] [])) t
      refine XS.iload X788.here hx rfl (hb hby at_263) rfl ?_
      show Steps p.tables e below (T788.setTop (mkF m 265 #[.val (.long p1), .second, .val (.long b), .second, .val (.long p3), .second, .val (.long d), .second, .val (.long p5), .second, .val (.int p6), .val (.int (4 : Int32)), .val (.ref arr), .val (.int md), .val (.long q), .second, .val (.ref tl), .val (.int (((0 : Int32) + (own_b (y525 < q))) + (own_b (y533 < q))))] [(.int (((0 : Int32) + (own_b (y525 < q))) + (own_b (y533 < q))))])) t
      refine XS.aload X788.here hx rfl (hb hby at_265) rfl rfl ?_
      show Steps p.tables e below (T788.setTop (mkF m 267 #[.val (.long p1), .second, .val (.long b), .second, .val (.long p3), .second, .val (.long d), .second, .val (.long p5), .second, .val (.int p6), .val (.int (4 : Int32)), .val (.ref arr), .val (.int md), .val (.long q), .second, .val (.ref tl), .val (.int (((0 : Int32) + (own_b (y525 < q))) + (own_b (y533 < q))))] [(.ref arr), (.int (((0 : Int32) + (own_b (y525 < q))) + (own_b (y533 < q))))])) t
      refine XS.iconst X788.here hx rfl (hb hby at_267) ?_
      exact ht
    obtain ⟨cl798, Ar798, qc798, Sz798, Nn798, Hh798, Gg798⟩ := id f790
    have hin798 : ¬ ((2 : Int32) < 0 ∨ cl798.slots.size ≤ ((2 : Int32)).toNatClampNeg) := inb_of Sz798 ⟨by decide, by decide⟩
    have hat798 : cl798.slots[((2 : Int32)).toNatClampNeg]? = some (.long y533') := Hh798.at hin798 rfl
    have k799 : Kt p e below m (s₁.setTop (entryFrame m #[(.long p1), (.long p2), (.long p3), (.long p4), (.long p5), (.int p6)] maxLocals)) T788 271 #[.val (.long p1), .second, .val (.long b), .second, .val (.long p3), .second, .val (.long d), .second, .val (.long p5), .second, .val (.int p6), .val (.int (4 : Int32)), .val (.ref arr), .val (.int md), .val (.long q), .second, .val (.ref tl), .val (.int (((0 : Int32) + (own_b (y525 < q))) + (own_b (y533 < q))))] [(.long q), (.long y533'), (.int (((0 : Int32) + (own_b (y525 < q))) + (own_b (y533 < q))))] := by
      intro t ht
      refine k797 t ?_
      show Steps p.tables e below (T788.setTop (mkF m 268 #[.val (.long p1), .second, .val (.long b), .second, .val (.long p3), .second, .val (.long d), .second, .val (.long p5), .second, .val (.int p6), .val (.int (4 : Int32)), .val (.ref arr), .val (.int md), .val (.long q), .second, .val (.ref tl), .val (.int (((0 : Int32) + (own_b (y525 < q))) + (own_b (y533 < q))))] [(.int (2 : Int32)), (.ref arr), (.int (((0 : Int32) + (own_b (y525 < q))) + (own_b (y533 < q))))])) t
      refine X788.laload hx (j := (2 : Int32)) (v := (.long y533')) Ar798.1 (State.isArrayOf_alike hZ.alike Ar798.2.1) Ar798.2.2 hin798 hat798 (g := (mkF m 268 #[.val (.long p1), .second, .val (.long b), .second, .val (.long p3), .second, .val (.long d), .second, .val (.long p5), .second, .val (.int p6), .val (.int (4 : Int32)), .val (.ref arr), .val (.int md), .val (.long q), .second, .val (.ref tl), .val (.int (((0 : Int32) + (own_b (y525 < q))) + (own_b (y533 < q))))] [(.int (2 : Int32)), (.ref arr), (.int (((0 : Int32) + (own_b (y525 < q))) + (own_b (y533 < q))))])) rfl rfl (hb hby at_268) _ ?_
      show Steps p.tables e below (T788.setTop (mkF m 269 #[.val (.long p1), .second, .val (.long b), .second, .val (.long p3), .second, .val (.long d), .second, .val (.long p5), .second, .val (.int p6), .val (.int (4 : Int32)), .val (.ref arr), .val (.int md), .val (.long q), .second, .val (.ref tl), .val (.int (((0 : Int32) + (own_b (y525 < q))) + (own_b (y533 < q))))] [(.long y533'), (.int (((0 : Int32) + (own_b (y525 < q))) + (own_b (y533 < q))))])) t
      refine XS.lload X788.here hx rfl (hb hby at_269) rfl ?_
      exact ht
    obtain ⟨_, _, ⟨T800, L800, c800, n800⟩, -, X800, ⟨Lc800, hQ800, l800, y800, z800⟩, st800⟩ := Jvm.LawKit.callS X788 hx (y := (⟨"com/example/clearhour/clearhour/market/TimelineIndexFromPinLaw", "lt", "(JJ)I"⟩ : MethodName)) hown (mvT hZ (hw _ (List.mem_of_getElem? (i := 29) rfl))) (mvT hZ (hw _ (List.mem_of_getElem? (i := 30) rfl))) (mvT hZ (hw _ (List.mem_of_getElem? (i := 3) rfl))) (mvT hZ (hw _ (List.mem_of_getElem? (i := 31) rfl))) (by decide) (backOf (W := 1) (rm5 l Z a0 hw [] y533' q T788.heap n0 f789 ) hZ (hw _ (List.mem_of_getElem? (i := 31) rfl)) (hw _ (List.mem_of_getElem? (i := 3) rfl)) (by decide) (by decide)) (g := (mkF m 271 #[.val (.long p1), .second, .val (.long b), .second, .val (.long p3), .second, .val (.long d), .second, .val (.long p5), .second, .val (.int p6), .val (.int (4 : Int32)), .val (.ref arr), .val (.int md), .val (.long q), .second, .val (.ref tl), .val (.int (((0 : Int32) + (own_b (y525 < q))) + (own_b (y533 < q))))] [(.long q), (.long y533'), (.int (((0 : Int32) + (own_b (y525 < q))) + (own_b (y533 < q))))])) rfl (by rw [hml]; rfl) (argsL := [(.long y533'), (.long q)]) (rest := [(.int (((0 : Int32) + (own_b (y525 < q))) + (own_b (y533 < q))))]) (lenOf pd_2 rfl) rfl (by show 2 * 0 + _ ≤ _; exact Nat.le_of_eq rfl) (hb hby at_271) (fun _ _ => ⟨rfl, rfl, (by decide : 4 + 0 ≤ _), (by decide : 40 + 0 ≤ _)⟩)
    dsimp only [Pt.U, Pt.locs, Pt.cells, Pt.slots] at X800 l800 y800 z800 st800 hQ800
    subst l800 y800 z800
    obtain ⟨rfl, Nq800, eq800⟩ := hQ800
    have N800 := Fr.app N788 Nq800
    have k800 : Kt p e below m (s₁.setTop (entryFrame m #[(.long p1), (.long p2), (.long p3), (.long p4), (.long p5), (.int p6)] maxLocals)) T800 274 #[.val (.long p1), .second, .val (.long b), .second, .val (.long p3), .second, .val (.long d), .second, .val (.long p5), .second, .val (.int p6), .val (.int (4 : Int32)), .val (.ref arr), .val (.int md), .val (.long q), .second, .val (.ref tl), .val (.int (((0 : Int32) + (own_b (y525 < q))) + (own_b (y533 < q))))] [(.int (own_b (y533' < q))), (.int (((0 : Int32) + (own_b (y525 < q))) + (own_b (y533 < q))))] := fun t ht => k799 t (st800 t ht)
    have f801 : n0 ≤ T800.heap.size := by rw [eq800]; exact f789
    have f802 : Arv Z T800.heap arr ak498 .long (4 : Int32) [(.long y525), (.long y533), (.long y533'), (.long y529')] (.long (0 : Int64)) := by rw [eq800]; exact f790
    have f803 : Exa Z T800.heap tl "com/example/clearhour/clearhour/market/Timeline" := by rw [eq800]; exact f791
    have f804 : Fld Z T800.heap tl "com/example/clearhour/clearhour/market/Timeline" "times" "[J" (.ref tb) := by rw [eq800]; exact f792
    have f805 : Fld Z T800.heap tl "com/example/clearhour/clearhour/market/Timeline" "values" "[Ljava/lang/Object;" (.ref vb) := by rw [eq800]; exact f793
    have f806 : Fld Z T800.heap tl "com/example/clearhour/clearhour/market/Timeline" "size" "I" (.int (4 : Int32)) := by rw [eq800]; exact f794
    have f807 : Arv Z T800.heap tb kt .long (16 : Int32) [(.long y525), (.long y533), (.long y533'), (.long y529')] (.long (0 : Int64)) := by rw [eq800]; exact f795
    have f808 : Arv Z T800.heap vb kv (.object "java/lang/Object") (16 : Int32) [.null, .null, .null, .null] .null := by rw [eq800]; exact f796
    have k809 : Kt p e below m (s₁.setTop (entryFrame m #[(.long p1), (.long p2), (.long p3), (.long p4), (.long p5), (.int p6)] maxLocals)) T800 288 #[.val (.long p1), .second, .val (.long b), .second, .val (.long p3), .second, .val (.long d), .second, .val (.long p5), .second, .val (.int p6), .val (.int (4 : Int32)), .val (.ref arr), .val (.int md), .val (.long q), .second, .val (.ref tl), .val (.int ((((0 : Int32) + (own_b (y525 < q))) + (own_b (y533 < q))) + (own_b (y533' < q))))] [(.int (3 : Int32)), (.ref arr), (.int ((((0 : Int32) + (own_b (y525 < q))) + (own_b (y533 < q))) + (own_b (y533' < q))))] := by
      intro t ht
      refine k800 t ?_
      show Steps p.tables e below (T800.setTop (mkF m 274 #[.val (.long p1), .second, .val (.long b), .second, .val (.long p3), .second, .val (.long d), .second, .val (.long p5), .second, .val (.int p6), .val (.int (4 : Int32)), .val (.ref arr), .val (.int md), .val (.long q), .second, .val (.ref tl), .val (.int (((0 : Int32) + (own_b (y525 < q))) + (own_b (y533 < q))))] [(.int (own_b (y533' < q))), (.int (((0 : Int32) + (own_b (y525 < q))) + (own_b (y533 < q))))])) t
      refine XS.iadd X800.here hx rfl (hb hby at_274) rfl ?_
      show Steps p.tables e below (T800.setTop (mkF m 275 #[.val (.long p1), .second, .val (.long b), .second, .val (.long p3), .second, .val (.long d), .second, .val (.long p5), .second, .val (.int p6), .val (.int (4 : Int32)), .val (.ref arr), .val (.int md), .val (.long q), .second, .val (.ref tl), .val (.int (((0 : Int32) + (own_b (y525 < q))) + (own_b (y533 < q))))] [(.int ((((0 : Int32) + (own_b (y525 < q))) + (own_b (y533 < q))) + (own_b (y533' < q))))])) t
      refine XS.istore X800.here hx rfl (hb hby at_275) rfl (l' := #[.val (.long p1), .second, .val (.long b), .second, .val (.long p3), .second, .val (.long d), .second, .val (.long p5), .second, .val (.int p6), .val (.int (4 : Int32)), .val (.ref arr), .val (.int md), .val (.long q), .second, .val (.ref tl), .val (.int ((((0 : Int32) + (own_b (y525 < q))) + (own_b (y533 < q))) + (own_b (y533' < q))))]) rfl ?_
      show Steps p.tables e below (T800.setTop (mkF m 277 #[.val (.long p1), .second, .val (.long b), .second, .val (.long p3), .second, .val (.long d), .second, .val (.long p5), .second, .val (.int p6), .val (.int (4 : Int32)), .val (.ref arr), .val (.int md), .val (.long q), .second, .val (.ref tl), .val (.int ((((0 : Int32) + (own_b (y525 < q))) + (own_b (y533 < q))) + (own_b (y533' < q))))] [])) t
      refine XS.iload X800.here hx rfl (hb hby at_277) rfl ?_
      show Steps p.tables e below (T800.setTop (mkF m 279 #[.val (.long p1), .second, .val (.long b), .second, .val (.long p3), .second, .val (.long d), .second, .val (.long p5), .second, .val (.int p6), .val (.int (4 : Int32)), .val (.ref arr), .val (.int md), .val (.long q), .second, .val (.ref tl), .val (.int ((((0 : Int32) + (own_b (y525 < q))) + (own_b (y533 < q))) + (own_b (y533' < q))))] [(.int (4 : Int32))])) t
      refine XS.iconst X800.here hx rfl (hb hby at_279) ?_
      show Steps p.tables e below (T800.setTop (mkF m 280 #[.val (.long p1), .second, .val (.long b), .second, .val (.long p3), .second, .val (.long d), .second, .val (.long p5), .second, .val (.int p6), .val (.int (4 : Int32)), .val (.ref arr), .val (.int md), .val (.long q), .second, .val (.ref tl), .val (.int ((((0 : Int32) + (own_b (y525 < q))) + (own_b (y533 < q))) + (own_b (y533' < q))))] [(.int (3 : Int32)), (.int (4 : Int32))])) t
      refine XS.icmpNo X800.here hx rfl (hb hby at_280) rfl (tlt (by decide)).2.2.2 ?_
      show Steps p.tables e below (T800.setTop (mkF m 283 #[.val (.long p1), .second, .val (.long b), .second, .val (.long p3), .second, .val (.long d), .second, .val (.long p5), .second, .val (.int p6), .val (.int (4 : Int32)), .val (.ref arr), .val (.int md), .val (.long q), .second, .val (.ref tl), .val (.int ((((0 : Int32) + (own_b (y525 < q))) + (own_b (y533 < q))) + (own_b (y533' < q))))] [])) t
      refine XS.iload X800.here hx rfl (hb hby at_283) rfl ?_
      show Steps p.tables e below (T800.setTop (mkF m 285 #[.val (.long p1), .second, .val (.long b), .second, .val (.long p3), .second, .val (.long d), .second, .val (.long p5), .second, .val (.int p6), .val (.int (4 : Int32)), .val (.ref arr), .val (.int md), .val (.long q), .second, .val (.ref tl), .val (.int ((((0 : Int32) + (own_b (y525 < q))) + (own_b (y533 < q))) + (own_b (y533' < q))))] [(.int ((((0 : Int32) + (own_b (y525 < q))) + (own_b (y533 < q))) + (own_b (y533' < q))))])) t
      refine XS.aload X800.here hx rfl (hb hby at_285) rfl rfl ?_
      show Steps p.tables e below (T800.setTop (mkF m 287 #[.val (.long p1), .second, .val (.long b), .second, .val (.long p3), .second, .val (.long d), .second, .val (.long p5), .second, .val (.int p6), .val (.int (4 : Int32)), .val (.ref arr), .val (.int md), .val (.long q), .second, .val (.ref tl), .val (.int ((((0 : Int32) + (own_b (y525 < q))) + (own_b (y533 < q))) + (own_b (y533' < q))))] [(.ref arr), (.int ((((0 : Int32) + (own_b (y525 < q))) + (own_b (y533 < q))) + (own_b (y533' < q))))])) t
      refine XS.iconst X800.here hx rfl (hb hby at_287) ?_
      exact ht
    obtain ⟨cl810, Ar810, qc810, Sz810, Nn810, Hh810, Gg810⟩ := id f802
    have hin810 : ¬ ((3 : Int32) < 0 ∨ cl810.slots.size ≤ ((3 : Int32)).toNatClampNeg) := inb_of Sz810 ⟨by decide, by decide⟩
    have hat810 : cl810.slots[((3 : Int32)).toNatClampNeg]? = some (.long y529') := Hh810.at hin810 rfl
    have k811 : Kt p e below m (s₁.setTop (entryFrame m #[(.long p1), (.long p2), (.long p3), (.long p4), (.long p5), (.int p6)] maxLocals)) T800 291 #[.val (.long p1), .second, .val (.long b), .second, .val (.long p3), .second, .val (.long d), .second, .val (.long p5), .second, .val (.int p6), .val (.int (4 : Int32)), .val (.ref arr), .val (.int md), .val (.long q), .second, .val (.ref tl), .val (.int ((((0 : Int32) + (own_b (y525 < q))) + (own_b (y533 < q))) + (own_b (y533' < q))))] [(.long q), (.long y529'), (.int ((((0 : Int32) + (own_b (y525 < q))) + (own_b (y533 < q))) + (own_b (y533' < q))))] := by
      intro t ht
      refine k809 t ?_
      show Steps p.tables e below (T800.setTop (mkF m 288 #[.val (.long p1), .second, .val (.long b), .second, .val (.long p3), .second, .val (.long d), .second, .val (.long p5), .second, .val (.int p6), .val (.int (4 : Int32)), .val (.ref arr), .val (.int md), .val (.long q), .second, .val (.ref tl), .val (.int ((((0 : Int32) + (own_b (y525 < q))) + (own_b (y533 < q))) + (own_b (y533' < q))))] [(.int (3 : Int32)), (.ref arr), (.int ((((0 : Int32) + (own_b (y525 < q))) + (own_b (y533 < q))) + (own_b (y533' < q))))])) t
      refine X800.laload hx (j := (3 : Int32)) (v := (.long y529')) Ar810.1 (State.isArrayOf_alike hZ.alike Ar810.2.1) Ar810.2.2 hin810 hat810 (g := (mkF m 288 #[.val (.long p1), .second, .val (.long b), .second, .val (.long p3), .second, .val (.long d), .second, .val (.long p5), .second, .val (.int p6), .val (.int (4 : Int32)), .val (.ref arr), .val (.int md), .val (.long q), .second, .val (.ref tl), .val (.int ((((0 : Int32) + (own_b (y525 < q))) + (own_b (y533 < q))) + (own_b (y533' < q))))] [(.int (3 : Int32)), (.ref arr), (.int ((((0 : Int32) + (own_b (y525 < q))) + (own_b (y533 < q))) + (own_b (y533' < q))))])) rfl rfl (hb hby at_288) _ ?_
      show Steps p.tables e below (T800.setTop (mkF m 289 #[.val (.long p1), .second, .val (.long b), .second, .val (.long p3), .second, .val (.long d), .second, .val (.long p5), .second, .val (.int p6), .val (.int (4 : Int32)), .val (.ref arr), .val (.int md), .val (.long q), .second, .val (.ref tl), .val (.int ((((0 : Int32) + (own_b (y525 < q))) + (own_b (y533 < q))) + (own_b (y533' < q))))] [(.long y529'), (.int ((((0 : Int32) + (own_b (y525 < q))) + (own_b (y533 < q))) + (own_b (y533' < q))))])) t
      refine XS.lload X800.here hx rfl (hb hby at_289) rfl ?_
      exact ht
    obtain ⟨_, _, ⟨T812, L812, c812, n812⟩, -, X812, ⟨Lc812, hQ812, l812, y812, z812⟩, st812⟩ := Jvm.LawKit.callS X800 hx (y := (⟨"com/example/clearhour/clearhour/market/TimelineIndexFromPinLaw", "lt", "(JJ)I"⟩ : MethodName)) hown (mvT hZ (hw _ (List.mem_of_getElem? (i := 29) rfl))) (mvT hZ (hw _ (List.mem_of_getElem? (i := 30) rfl))) (mvT hZ (hw _ (List.mem_of_getElem? (i := 3) rfl))) (mvT hZ (hw _ (List.mem_of_getElem? (i := 31) rfl))) (by decide) (backOf (W := 1) (rm5 l Z a0 hw [] y529' q T800.heap n0 f801 ) hZ (hw _ (List.mem_of_getElem? (i := 31) rfl)) (hw _ (List.mem_of_getElem? (i := 3) rfl)) (by decide) (by decide)) (g := (mkF m 291 #[.val (.long p1), .second, .val (.long b), .second, .val (.long p3), .second, .val (.long d), .second, .val (.long p5), .second, .val (.int p6), .val (.int (4 : Int32)), .val (.ref arr), .val (.int md), .val (.long q), .second, .val (.ref tl), .val (.int ((((0 : Int32) + (own_b (y525 < q))) + (own_b (y533 < q))) + (own_b (y533' < q))))] [(.long q), (.long y529'), (.int ((((0 : Int32) + (own_b (y525 < q))) + (own_b (y533 < q))) + (own_b (y533' < q))))])) rfl (by rw [hml]; rfl) (argsL := [(.long y529'), (.long q)]) (rest := [(.int ((((0 : Int32) + (own_b (y525 < q))) + (own_b (y533 < q))) + (own_b (y533' < q))))]) (lenOf pd_2 rfl) rfl (by show 2 * 0 + _ ≤ _; exact Nat.le_of_eq rfl) (hb hby at_291) (fun _ _ => ⟨rfl, rfl, (by decide : 4 + 0 ≤ _), (by decide : 40 + 0 ≤ _)⟩)
    dsimp only [Pt.U, Pt.locs, Pt.cells, Pt.slots] at X812 l812 y812 z812 st812 hQ812
    subst l812 y812 z812
    obtain ⟨rfl, Nq812, eq812⟩ := hQ812
    have N812 := Fr.app N800 Nq812
    have k812 : Kt p e below m (s₁.setTop (entryFrame m #[(.long p1), (.long p2), (.long p3), (.long p4), (.long p5), (.int p6)] maxLocals)) T812 294 #[.val (.long p1), .second, .val (.long b), .second, .val (.long p3), .second, .val (.long d), .second, .val (.long p5), .second, .val (.int p6), .val (.int (4 : Int32)), .val (.ref arr), .val (.int md), .val (.long q), .second, .val (.ref tl), .val (.int ((((0 : Int32) + (own_b (y525 < q))) + (own_b (y533 < q))) + (own_b (y533' < q))))] [(.int (own_b (y529' < q))), (.int ((((0 : Int32) + (own_b (y525 < q))) + (own_b (y533 < q))) + (own_b (y533' < q))))] := fun t ht => k811 t (st812 t ht)
    have f813 : n0 ≤ T812.heap.size := by rw [eq812]; exact f801
    have f814 : Arv Z T812.heap arr ak498 .long (4 : Int32) [(.long y525), (.long y533), (.long y533'), (.long y529')] (.long (0 : Int64)) := by rw [eq812]; exact f802
    have f815 : Exa Z T812.heap tl "com/example/clearhour/clearhour/market/Timeline" := by rw [eq812]; exact f803
    have f816 : Fld Z T812.heap tl "com/example/clearhour/clearhour/market/Timeline" "times" "[J" (.ref tb) := by rw [eq812]; exact f804
    have f817 : Fld Z T812.heap tl "com/example/clearhour/clearhour/market/Timeline" "values" "[Ljava/lang/Object;" (.ref vb) := by rw [eq812]; exact f805
    have f818 : Fld Z T812.heap tl "com/example/clearhour/clearhour/market/Timeline" "size" "I" (.int (4 : Int32)) := by rw [eq812]; exact f806
    have f819 : Arv Z T812.heap tb kt .long (16 : Int32) [(.long y525), (.long y533), (.long y533'), (.long y529')] (.long (0 : Int64)) := by rw [eq812]; exact f807
    have f820 : Arv Z T812.heap vb kv (.object "java/lang/Object") (16 : Int32) [.null, .null, .null, .null] .null := by rw [eq812]; exact f808
    have k821 : Kt p e below m (s₁.setTop (entryFrame m #[(.long p1), (.long p2), (.long p3), (.long p4), (.long p5), (.int p6)] maxLocals)) T812 301 #[.val (.long p1), .second, .val (.long b), .second, .val (.long p3), .second, .val (.long d), .second, .val (.long p5), .second, .val (.int p6), .val (.int (4 : Int32)), .val (.ref arr), .val (.int md), .val (.long q), .second, .val (.ref tl), .val (.int (((((0 : Int32) + (own_b (y525 < q))) + (own_b (y533 < q))) + (own_b (y533' < q))) + (own_b (y529' < q))))] [(.long q), (.ref tl)] := by
      intro t ht
      refine k812 t ?_
      show Steps p.tables e below (T812.setTop (mkF m 294 #[.val (.long p1), .second, .val (.long b), .second, .val (.long p3), .second, .val (.long d), .second, .val (.long p5), .second, .val (.int p6), .val (.int (4 : Int32)), .val (.ref arr), .val (.int md), .val (.long q), .second, .val (.ref tl), .val (.int ((((0 : Int32) + (own_b (y525 < q))) + (own_b (y533 < q))) + (own_b (y533' < q))))] [(.int (own_b (y529' < q))), (.int ((((0 : Int32) + (own_b (y525 < q))) + (own_b (y533 < q))) + (own_b (y533' < q))))])) t
      refine XS.iadd X812.here hx rfl (hb hby at_294) rfl ?_
      show Steps p.tables e below (T812.setTop (mkF m 295 #[.val (.long p1), .second, .val (.long b), .second, .val (.long p3), .second, .val (.long d), .second, .val (.long p5), .second, .val (.int p6), .val (.int (4 : Int32)), .val (.ref arr), .val (.int md), .val (.long q), .second, .val (.ref tl), .val (.int ((((0 : Int32) + (own_b (y525 < q))) + (own_b (y533 < q))) + (own_b (y533' < q))))] [(.int (((((0 : Int32) + (own_b (y525 < q))) + (own_b (y533 < q))) + (own_b (y533' < q))) + (own_b (y529' < q))))])) t
      refine XS.istore X812.here hx rfl (hb hby at_295) rfl (l' := #[.val (.long p1), .second, .val (.long b), .second, .val (.long p3), .second, .val (.long d), .second, .val (.long p5), .second, .val (.int p6), .val (.int (4 : Int32)), .val (.ref arr), .val (.int md), .val (.long q), .second, .val (.ref tl), .val (.int (((((0 : Int32) + (own_b (y525 < q))) + (own_b (y533 < q))) + (own_b (y533' < q))) + (own_b (y529' < q))))]) rfl ?_
      show Steps p.tables e below (T812.setTop (mkF m 297 #[.val (.long p1), .second, .val (.long b), .second, .val (.long p3), .second, .val (.long d), .second, .val (.long p5), .second, .val (.int p6), .val (.int (4 : Int32)), .val (.ref arr), .val (.int md), .val (.long q), .second, .val (.ref tl), .val (.int (((((0 : Int32) + (own_b (y525 < q))) + (own_b (y533 < q))) + (own_b (y533' < q))) + (own_b (y529' < q))))] [])) t
      refine XS.aload X812.here hx rfl (hb hby at_297) rfl rfl ?_
      show Steps p.tables e below (T812.setTop (mkF m 299 #[.val (.long p1), .second, .val (.long b), .second, .val (.long p3), .second, .val (.long d), .second, .val (.long p5), .second, .val (.int p6), .val (.int (4 : Int32)), .val (.ref arr), .val (.int md), .val (.long q), .second, .val (.ref tl), .val (.int (((((0 : Int32) + (own_b (y525 < q))) + (own_b (y533 < q))) + (own_b (y533' < q))) + (own_b (y529' < q))))] [(.ref tl)])) t
      refine XS.lload X812.here hx rfl (hb hby at_299) rfl ?_
      exact ht
    obtain ⟨cq822, kq822, q822a, q822b, q822c⟩ := isOf hZ rfl f815
    obtain ⟨_, _, ⟨T822, L822, c822, n822⟩, -, X822, ⟨Lc822, hQ822, l822, y822, z822⟩, st822⟩ := X812.virtualBack hx (y := (⟨"com/example/clearhour/clearhour/market/Timeline", "indexFrom", "(J)I"⟩ : MethodName)) (z := (⟨"com/example/clearhour/clearhour/market/Timeline", "indexFrom", "(J)I"⟩ : MethodName)) hown (mvT hZ (hw _ (List.mem_of_getElem? (i := 32) rfl))) (mvT hZ (hw _ (List.mem_of_getElem? (i := 33) rfl))) (notFace_of_selects (args := #[]) (mvT hZ (hw _ (List.mem_of_getElem? (i := 35) rfl)))) (mvT hZ (hw _ (List.mem_of_getElem? (i := 35) rfl))) (mvT hZ (hw _ (List.mem_of_getElem? (i := 34) rfl))) (by decide) (backOf (W := 0) (rmix4 l Z a0 hw [] tl q tb kt y525 y533 y533' y529' T812.heap n0 f813 f816 f818 f819 o0 o1 o2) hZ (hw _ (List.mem_of_getElem? (i := 36) rfl)) (hw _ (List.mem_of_getElem? (i := 7) rfl)) (by decide) (by decide)) q822a q822c (g := (mkF m 301 #[.val (.long p1), .second, .val (.long b), .second, .val (.long p3), .second, .val (.long d), .second, .val (.long p5), .second, .val (.int p6), .val (.int (4 : Int32)), .val (.ref arr), .val (.int md), .val (.long q), .second, .val (.ref tl), .val (.int (((((0 : Int32) + (own_b (y525 < q))) + (own_b (y533 < q))) + (own_b (y533' < q))) + (own_b (y529' < q))))] [(.long q), (.ref tl)])) rfl (by rw [hml]; rfl) (Steps.refl _) (argsL := [(.long q)]) (rest := []) (lenOf pd_1 rfl) rfl (by show 2 * 0 + _ ≤ _; exact Nat.le_of_eq rfl) (hb hby at_301) (fun _ _ => ⟨rfl, rfl, (by decide : 4 + 0 ≤ _), (by decide : 40 + 0 ≤ _)⟩)
    dsimp only [Pt.U, Pt.locs, Pt.cells, Pt.slots] at X822 l822 y822 z822 st822 hQ822
    subst l822 y822 z822
    obtain ⟨rfl, Nq822, eqz⟩ := hQ822
    have N822 := Fr.app N812 Nq822
    have k822 : Kt p e below m (s₁.setTop (entryFrame m #[(.long p1), (.long p2), (.long p3), (.long p4), (.long p5), (.int p6)] maxLocals)) T822 304 #[.val (.long p1), .second, .val (.long b), .second, .val (.long p3), .second, .val (.long d), .second, .val (.long p5), .second, .val (.int p6), .val (.int (4 : Int32)), .val (.ref arr), .val (.int md), .val (.long q), .second, .val (.ref tl), .val (.int (((((0 : Int32) + (own_b (y525 < q))) + (own_b (y533 < q))) + (own_b (y533' < q))) + (own_b (y529' < q))))] [(.int (((((0 : Int32) + (own_b (y525 < q))) + (own_b (y533 < q))) + (own_b (y533' < q))) + (own_b (y529' < q))))] := fun t ht => k821 t (st822.trans ht)
    have k823 : Kt p e below m (s₁.setTop (entryFrame m #[(.long p1), (.long p2), (.long p3), (.long p4), (.long p5), (.int p6)] maxLocals)) T822 314 #[.val (.long p1), .second, .val (.long b), .second, .val (.long p3), .second, .val (.long d), .second, .val (.long p5), .second, .val (.int p6), .val (.int (4 : Int32)), .val (.ref arr), .val (.int md), .val (.long q), .second, .val (.ref tl), .val (.int (((((0 : Int32) + (own_b (y525 < q))) + (own_b (y533 < q))) + (own_b (y533' < q))) + (own_b (y529' < q))))] [(.int (1 : Int32))] := by
      intro t ht
      refine k822 t ?_
      show Steps p.tables e below (T822.setTop (mkF m 304 #[.val (.long p1), .second, .val (.long b), .second, .val (.long p3), .second, .val (.long d), .second, .val (.long p5), .second, .val (.int p6), .val (.int (4 : Int32)), .val (.ref arr), .val (.int md), .val (.long q), .second, .val (.ref tl), .val (.int (((((0 : Int32) + (own_b (y525 < q))) + (own_b (y533 < q))) + (own_b (y533' < q))) + (own_b (y529' < q))))] [(.int (((((0 : Int32) + (own_b (y525 < q))) + (own_b (y533 < q))) + (own_b (y533' < q))) + (own_b (y529' < q))))])) t
      refine XS.iload X822.here hx rfl (hb hby at_304) rfl ?_
      show Steps p.tables e below (T822.setTop (mkF m 306 #[.val (.long p1), .second, .val (.long b), .second, .val (.long p3), .second, .val (.long d), .second, .val (.long p5), .second, .val (.int p6), .val (.int (4 : Int32)), .val (.ref arr), .val (.int md), .val (.long q), .second, .val (.ref tl), .val (.int (((((0 : Int32) + (own_b (y525 < q))) + (own_b (y533 < q))) + (own_b (y533' < q))) + (own_b (y529' < q))))] [(.int (((((0 : Int32) + (own_b (y525 < q))) + (own_b (y533 < q))) + (own_b (y533' < q))) + (own_b (y529' < q)))), (.int (((((0 : Int32) + (own_b (y525 < q))) + (own_b (y533 < q))) + (own_b (y533' < q))) + (own_b (y529' < q))))])) t
      refine XS.icmpNo X822.here hx rfl (hb hby at_306) rfl (teq rfl).2 ?_
      show Steps p.tables e below (T822.setTop (mkF m 309 #[.val (.long p1), .second, .val (.long b), .second, .val (.long p3), .second, .val (.long d), .second, .val (.long p5), .second, .val (.int p6), .val (.int (4 : Int32)), .val (.ref arr), .val (.int md), .val (.long q), .second, .val (.ref tl), .val (.int (((((0 : Int32) + (own_b (y525 < q))) + (own_b (y533 < q))) + (own_b (y533' < q))) + (own_b (y529' < q))))] [])) t
      refine XS.iconst X822.here hx rfl (hb hby at_309) ?_
      show Steps p.tables e below (T822.setTop (mkF m 310 #[.val (.long p1), .second, .val (.long b), .second, .val (.long p3), .second, .val (.long d), .second, .val (.long p5), .second, .val (.int p6), .val (.int (4 : Int32)), .val (.ref arr), .val (.int md), .val (.long q), .second, .val (.ref tl), .val (.int (((((0 : Int32) + (own_b (y525 < q))) + (own_b (y533 < q))) + (own_b (y533' < q))) + (own_b (y529' < q))))] [(.int (1 : Int32))])) t
      refine XS.goto X822.here hx rfl (pc0 := 310) (pc' := 314) rfl (hb hby at_310) (by decide) (by decide) ?_
      exact ht
    obtain ⟨fs, hr, hrun, hended, hW, hsame⟩ := X822.leave (v := some (.int (1 : Int32))) (fun h => by rw [Bd.returns] at h; cases h)
    refine ⟨_, _, k823 _ ?_, hrun, hended, _, _, rfl, ?_, ⟨_, rfl⟩, hW, hsame.mono (by decide) (by decide)⟩
    · exact retN X822 hx (t := .boolean) Bd.returns (by simp) (hb hby at_314) hr
    · show Q0 Z p1 p2 p3 p4 p5 p6 h0 n0 _ T822.heap _
      exact ⟨rfl, N822⟩
set_option maxRecDepth 65536 in
set_option maxHeartbeats 40000000 in
theorem comes_1 {Post : Tables → Env → Array Value → State → Outcome → State → Prop} (hpost : ∀ tb e args s v u, (limb_1_1.after args s (.returned v) u = true ∧ limb_1_2.after args s (.returned v) u = true ∧ True) → FrameEnd s (.returned v) u (Jvm.fieldLocs frame_1_writes args s ++ Jvm.arrayLocs frame_1_arrays args s ++ Jvm.staticLocs frame_1_statics s) 16 192 → Post tb e args s (.returned v) u) :
    ArmFor flags0 classFile x code maxLocals ret World_1 tables_1 room_1 Calls_1 rest_1 Pre_1 Post := by
  intro l hfl _ _ p e ha hc hk s m args below hf hA hF happ hP
  obtain ⟨hcalls, hrest, hpre⟩ := hP
  obtain ⟨-, -, -, hnamed, -, -, -, hat⟩ := (Spec.applies_iff hf).mp happ
  obtain ⟨hg, hn⟩ := and_e (Cond.before_iff.mp (show (Jvm.Cond.and given_1 narrow_1).before args s = true from hpre))
  obtain ⟨hcount, g0⟩ := and_e hg
  obtain ⟨ga0, g1⟩ := and_e g0
  obtain ⟨ga1, g2⟩ := and_e g1
  obtain ⟨ga2, g3⟩ := and_e g2
  obtain ⟨ga3, g4⟩ := and_e g3
  obtain ⟨ga4, g5⟩ := and_e g4
  obtain ⟨w0, w1, w2, w3, w4, w5, rfl⟩ : ∃ w0 w1 w2 w3 w4 w5 : Value, args = #[w0, w1, w2, w3, w4, w5] := by
    have hs : args.size = 6 := by simpa [Cond.value, given_1] using hcount
    obtain ⟨L⟩ := args
    match L, hs with
    | [w0, w1, w2, w3, w4, w5], _ => exact ⟨w0, w1, w2, w3, w4, w5, rfl⟩
  have hw := fun d (hd : d ∈ tables_1) => atoms_spec (ws := Jvm.Cond.code x code maxLocals ret :: tables_1) hat d (List.mem_cons_of_mem _ hd)
  have hfit : Fit s := fun {y c} hc i hi => by
    obtain ⟨ha, rfl⟩ := Array.getElem?_eq_some_iff.mp hc
    have q := List.all_eq_true.mp ((Array.all_eq_true_iff_forall_mem.mp hF) _ (Array.getElem_mem ha)) i (List.mem_range.mpr hi)
    simpa [Array.getElem?_eq_getElem hi] using q
  obtain ⟨i0, ei0⟩ := isL_v ga0
  obtain rfl : w0 = (.long i0) := Option.some.inj ei0
  obtain ⟨i1, ei1⟩ := isL_v ga1
  obtain rfl : w1 = (.long i1) := Option.some.inj ei1
  obtain ⟨i2, ei2⟩ := isL_v ga2
  obtain rfl : w2 = (.long i2) := Option.some.inj ei2
  obtain ⟨i3, ei3⟩ := isL_v ga3
  obtain rfl : w3 = (.long i3) := Option.some.inj ei3
  obtain ⟨i4, ei4⟩ := isL_v ga4
  obtain rfl : w4 = (.long i4) := Option.some.inj ei4
  obtain ⟨i5, ei5⟩ := is_v g5
  obtain rfl : w5 = (.int i5) := Option.some.inj ei5
  obtain ⟨n, o, h1, h2, h3, _, L, rfl, ⟨rfl, N⟩, hq⟩ := rm0 l s _ hw tables_1 i0 i1 i2 i3 i4 i5 s.heap s.heap.size (Nat.le_refl _) p e ha hc hk s m _ below hf ((Spec.applies_iff_loose hf).mp happ).1 ⟨rfl, State.Warmed39.refl s, rfl⟩ trivial
  refine ⟨n, _, h1, h2, h3, hpost _ _ _ _ _ _ ⟨Cond.after_iff.mpr rfl, Cond.after_iff.mpr (eq_i res_at (Term.int_eval (1)) rfl), trivial⟩ ⟨hq.1, hq.2.1, (hq.2.2.sift fun y hy => Or.inr (N y hy)).mono (by decide) (by decide)⟩⟩
theorem main_1_1 : Claimed_1_1 := comes_1 fun _ _ _ _ _ _ h hF => ⟨h.1, hF⟩
theorem main_1_2 : Claimed_1_2 := comes_1 fun _ _ _ _ _ _ h hF => ⟨h.2.1, hF⟩
end Jvm.Pilot.@@N@@
namespace Jvm.Pilot.@@N@@
open Jvm Jvm.ClassFile Sem Op Lib Jvm.Free Jvm.Stand Jvm.Pilot.@@N@@.Jvm.D
/-! MADE BY PROGRAM (witnessworld.py) out of the Statement's table words and the real class files: 12 classes; the members and pool entries that the words name. The judged class is class 1, her method 3. -/
namespace start1
open Jvm.ClassFile
def u (s : String) : CpInfo := .utf8 (stringToUtf16 s)
/-- a pool by its gaps: so many unusable entries, then the entry; so many at the end -/
def gap : Nat → List CpInfo → List CpInfo
  | 0, r => r
  | n + 1, r => .unusable :: gap n r
def poolList (es : List (Nat × CpInfo)) (last : Nat) : List CpInfo := es.foldr (fun e r => gap e.1 (e.2 :: r)) (gap last [])
def pool (es : List (Nat × CpInfo)) (last : Nat) : Array CpInfo := ⟨poolList es last⟩
def fileOf (pool : Array CpInfo) (this : Nat) (attrs : Array Attribute := #[]) (ms : Array MethodInfo := #[]) (fl : Nat := 33) (sup : Nat := 0) (ifs : Array Nat := #[]) (fds : Array FieldInfo := #[]) : ClassFile where
  minorVersion := 0
  majorVersion := 65
  constantPool := pool
  accessFlags := fl
  thisClass := this
  superClass := sup
  interfaces := ifs
  fields := fds
  methods := ms
  attributes := attrs
def plain (name : String) (sup : Option ClassId) : Class where
  name := name
  kind := .ordinary
  loader := none
  accessFlags := 33
  super := sup
  interfaces := #[]
  cf := none
  fields := #[]
  methods := #[]
  instanceTypes := #[]
  staticTypes := #[]
  resolved := #[]
  callSites := []
  init := .initialized
  statics := none
  mirror := none

def pool0 : Array CpInfo := pool [(5, u "<init>"), (0, u "()V"), (1, .class_ 10), (1, u "java/lang/Object")] 113

def k0c0 : Code := { maxStack := 0, maxLocals := 1, code := object_method_1_code, exceptionTable := #[], attributes := #[] }
def k0m0 : Method := { name := "<init>", desc := "()V", sig := { parameters := [], returnType := none }, accessFlags := 1, code := some k0c0 }
/-- java/lang/Object -/
def k0 : Class := { plain "java/lang/Object" none with
  accessFlags := 33
  interfaces := #[]
  cf := some (fileOf pool0 8 #[] #[{ accessFlags := 1, nameIndex := 5, descriptorIndex := 6, attributes := #[] }] 33 0 #[] #[])
  fields := #[]
  methods := #[k0m0]
  instanceTypes := #[]
  staticTypes := #[]
  resolved := Array.replicate 124 none
  statics := none }

def pool1 : Array CpInfo := pool [(2, .class_ 4), (0, .nameAndType 5 6), (0, u "java/lang/Object"), (0, u "<init>"), (0, u "()V"), (0, .methodref 8 9), (0, .class_ 10), (0, .nameAndType 11 12), (0, u "com/example/clearhour/clearhour/market/TimelineIndexFromPinLaw"), (0, u "cs"), (0, u "([JII)V"), (0, .class_ 14), (0, u "com/example/clearhour/clearhour/market/Timeline"), (0, .methodref 13 3), (0, .methodref 13 17), (0, .nameAndType 18 19), (0, u "add"), (0, u "(JLjava/lang/Object;)V"), (0, .methodref 8 21), (0, .nameAndType 22 23), (0, u "lt"), (0, u "(JJ)I"), (0, .methodref 13 25), (0, .nameAndType 26 27), (0, u "indexFrom"), (0, u "(J)I"), (3, u "law"), (0, u "(JJJJJI)Z")] 4

def k1m0 : Method := { name := "<init>", desc := "()V", sig := { parameters := [], returnType := none }, accessFlags := 1, code := none }
def k1c1 : Code := { maxStack := 4, maxLocals := 5, code := method_2_code, exceptionTable := #[], attributes := #[] }
def k1m1 : Method := { name := "cs", desc := "([JII)V", sig := { parameters := [(.array .long), .int, .int], returnType := none }, accessFlags := 10, code := some k1c1 }
def k1c2 : Code := { maxStack := 4, maxLocals := 4, code := method_3_code, exceptionTable := #[], attributes := #[] }
def k1m2 : Method := { name := "lt", desc := "(JJ)I", sig := { parameters := [.long, .long], returnType := some .int }, accessFlags := 10, code := some k1c2 }
def k1c3 : Code := { maxStack := 5, maxLocals := 18, code := code, exceptionTable := #[], attributes := #[] }
def k1m3 : Method := { name := "law", desc := "(JJJJJI)Z", sig := { parameters := [.long, .long, .long, .long, .long, .int], returnType := some .boolean }, accessFlags := 9, code := some k1c3 }
/-- com/example/clearhour/clearhour/market/TimelineIndexFromPinLaw -/
def k1 : Class := { plain "com/example/clearhour/clearhour/market/TimelineIndexFromPinLaw" (some 0) with
  accessFlags := 49
  interfaces := #[]
  cf := some (fileOf pool1 8 #[] #[{ accessFlags := 1, nameIndex := 5, descriptorIndex := 6, attributes := #[] }, { accessFlags := 10, nameIndex := 11, descriptorIndex := 12, attributes := #[] }, { accessFlags := 10, nameIndex := 22, descriptorIndex := 23, attributes := #[] }, { accessFlags := 9, nameIndex := 31, descriptorIndex := 32, attributes := #[] }] 49 2 #[] #[])
  fields := #[]
  methods := #[k1m0, k1m1, k1m2, k1m3]
  instanceTypes := #[]
  staticTypes := #[]
  resolved := Array.replicate 37 none
  statics := none }

def pool2 : Array CpInfo := pool [(1, .methodref 2 3), (0, .class_ 4), (0, .nameAndType 5 6), (0, u "java/lang/Object"), (0, u "<init>"), (0, u "()V"), (0, .class_ 8), (0, u "com/example/clearhour/clearhour/market/Timeline"), (0, .fieldref 7 10), (0, .nameAndType 11 12), (0, u "times"), (0, u "[J"), (0, .fieldref 7 14), (0, .nameAndType 15 16), (0, u "values"), (0, u "[Ljava/lang/Object;"), (0, .fieldref 7 18), (0, .nameAndType 19 20), (0, u "sorted"), (0, u "Z"), (0, .fieldref 7 22), (0, .nameAndType 23 24), (0, u "size"), (0, u "I"), (57, u "indexFrom"), (0, u "(J)I"), (10, .class_ 95), (0, u "com/example/clearhour/clearhour/market/Timeline$1"), (3, u "FIRST_CAPACITY"), (4, u "add"), (0, u "(JLjava/lang/Object;)V")] 49

def k2c0 : Code := { maxStack := 2, maxLocals := 1, code := prog_61_method_1_code, exceptionTable := #[], attributes := #[] }
def k2m0 : Method := { name := "<init>", desc := "()V", sig := { parameters := [], returnType := none }, accessFlags := 1, code := some k2c0 }
def k2c1 : Code := { maxStack := 5, maxLocals := 4, code := prog_61_method_2_code, exceptionTable := #[], attributes := #[] }
def k2m1 : Method := { name := "add", desc := "(JLjava/lang/Object;)V", sig := { parameters := [.long, (.object "java/lang/Object")], returnType := none }, accessFlags := 1, code := some k2c1 }
def k2c2 : Code := { maxStack := 4, maxLocals := 6, code := prog_61_method_8_code, exceptionTable := #[], attributes := #[] }
def k2m2 : Method := { name := "indexFrom", desc := "(J)I", sig := { parameters := [.long], returnType := some .int }, accessFlags := 1, code := some k2c2 }
/-- com/example/clearhour/clearhour/market/Timeline -/
def k2 : Class := { plain "com/example/clearhour/clearhour/market/Timeline" (some 0) with
  accessFlags := 49
  interfaces := #[]
  cf := some (fileOf pool2 7 #[.nestMembers #[94]] #[{ accessFlags := 1, nameIndex := 5, descriptorIndex := 6, attributes := #[] }, { accessFlags := 1, nameIndex := 104, descriptorIndex := 105, attributes := #[] }, { accessFlags := 1, nameIndex := 82, descriptorIndex := 83, attributes := #[] }] 49 2 #[] #[{ accessFlags := 26, nameIndex := 99, descriptorIndex := 24, attributes := #[] }, { accessFlags := 2, nameIndex := 11, descriptorIndex := 12, attributes := #[] }, { accessFlags := 2, nameIndex := 15, descriptorIndex := 16, attributes := #[] }, { accessFlags := 2, nameIndex := 23, descriptorIndex := 24, attributes := #[] }, { accessFlags := 2, nameIndex := 19, descriptorIndex := 20, attributes := #[] }])
  fields := #[{ name := "FIRST_CAPACITY", type := .int, accessFlags := 26, slot := 0, constantValue := 0 }, { name := "times", type := (.array .long), accessFlags := 2, slot := 0, constantValue := 0 }, { name := "values", type := (.array (.object "java/lang/Object")), accessFlags := 2, slot := 1, constantValue := 0 }, { name := "size", type := .int, accessFlags := 2, slot := 2, constantValue := 0 }, { name := "sorted", type := .boolean, accessFlags := 2, slot := 3, constantValue := 0 }]
  methods := #[k2m0, k2m1, k2m2]
  instanceTypes := #[(.array .long), (.array (.object "java/lang/Object")), .int, .boolean]
  staticTypes := #[.int]
  resolved := Array.replicate 155 none
  statics := none }

def pool3 : Array CpInfo := pool [(1, u "java/lang/Cloneable"), (0, .class_ 1), (0, u "java/lang/Object"), (0, .class_ 3)] 3

/-- java/lang/Cloneable -/
def k3 : Class := { plain "java/lang/Cloneable" (some 0) with
  accessFlags := 1537
  interfaces := #[]
  cf := some (fileOf pool3 2 #[] #[] 1537 4 #[] #[])
  fields := #[]
  methods := #[]
  instanceTypes := #[]
  staticTypes := #[]
  resolved := Array.replicate 8 none
  statics := none }

def pool4 : Array CpInfo := pool [(1, u "java/io/Serializable"), (0, .class_ 1), (0, u "java/lang/Object"), (0, .class_ 3)] 3

/-- java/io/Serializable -/
def k4 : Class := { plain "java/io/Serializable" (some 0) with
  accessFlags := 1537
  interfaces := #[]
  cf := some (fileOf pool4 2 #[] #[] 1537 4 #[] #[])
  fields := #[]
  methods := #[]
  instanceTypes := #[]
  staticTypes := #[]
  resolved := Array.replicate 8 none
  statics := none }

/-- the primitive byte -/
def k5 : Class := { plain "byte" none with kind := .primitive 'B', accessFlags := 0x411 }
/-- [B -/
def k6 : Class := { plain "[B" (some 0) with kind := .array 5 .byte, interfaces := #[3, 4], accessFlags := 1041 }

/-- the primitive int -/
def k7 : Class := { plain "int" none with kind := .primitive 'I', accessFlags := 0x411 }
/-- [I -/
def k8 : Class := { plain "[I" (some 0) with kind := .array 7 .int, interfaces := #[3, 4], accessFlags := 1041 }

/-- the primitive long -/
def k9 : Class := { plain "long" none with kind := .primitive 'J', accessFlags := 0x411 }
/-- [J -/
def k10 : Class := { plain "[J" (some 0) with kind := .array 9 .long, interfaces := #[3, 4], accessFlags := 1041 }

/-- [Ljava/lang/Object; -/
def k11 : Class := { plain "[Ljava/lang/Object;" (some 0) with kind := .array 0 (.object "java/lang/Object"), interfaces := #[3, 4], accessFlags := 1041 }

def heap : Heap := #[]
def classes : Array Class := #[k0, k1, k2, k3, k4, k5, k6, k7, k8, k9, k10, k11]
def interned : List (Array UInt16 × Addr) := []
def slotsUsed : Nat := 0
def theMethod : MethodId := ⟨1, 3⟩
def args0 : Array Value := #[.long 5, .long 7, .long 1, .long 2, .long 3, .int 4]
def aboutOver (below : List Frame) : State where
  vm := { classes := classes, interned := interned.toArray }
  heap := heap
  slotsUsed := slotsUsed
  threads := #[{ frames := .invoking theMethod args0 :: below }]
def below0 : List Frame := [.native { method := ⟨0, 0⟩, args := #[] }]
def about1 : State := aboutOver below0
def p0 : Program := .bare "" "" ""
def e0 : Env := launch0.env 0 0 0
theorem w_frames : about1.frames = Frame.invoking theMethod args0 :: below0 := rfl
set_option maxRecDepth 65536 in
theorem w_args : argsFit about1.vm theMethod args0 = true := by decide +kernel
set_option maxRecDepth 65536 in
theorem w_heap : heapFits about1 = true := by decide +kernel
set_option maxRecDepth 65536 in
theorem w_runnable : about1.curStatus? = some .runnable := by decide +kernel
set_option maxRecDepth 65536 in
theorem w_alone : about1.alone = true := by decide +kernel
set_option maxRecDepth 65536 in
theorem w_named : about1.methodNamed? x = some theMethod := by decide +kernel
set_option maxRecDepth 65536 in
theorem w_hears : about1.hears theMethod below0 = true := by decide +kernel
set_option maxRecDepth 65536 in
theorem w_ripe : about1.ripe theMethod args0 below0 = true := by decide +kernel
theorem w_running : about1.status = .running := rfl
set_option maxRecDepth 65536 in
theorem w_room : about1.hasRoom e0.platform room_1 = true :=
  launch0.hasRoom_least _ room_1 (by decide +kernel) (by decide +kernel) (by decide +kernel) (by decide +kernel) (by decide +kernel) (by decide +kernel)
theorem allAtoms_all (ts : List Jvm.Cond) (a : Array Jvm.Value) (st : Jvm.State) : (allAtoms ts).before a st = ts.all (fun c => c.before a st) := by
  induction ts with
  | nil => rfl
  | cons c t ih =>
    show (Jvm.Cond.and c (allAtoms t)).before a st = _
    rw [Jvm.Cond.before_and, ih, List.all_cons]
def words1 : List Jvm.Cond := Jvm.Cond.code x code maxLocals ret :: tables_1
/-- a 'code' word, met by the world's own term for the bytes: nothing is compared byte by byte -/
theorem code_word {y : MethodName} {bytes : ByteArray} {mx : Nat} {rt : Option FieldType} {a : Array Value} {s : State} {m : MethodId} {meth : Method} {c : Code} (h1 : s.methodNamed? y = some m) (h2 : s.vm.method? m = some meth) (h3 : meth.code = some c) (h4 : c.code = bytes)
    (h5 : (c.maxLocals == mx && c.exceptionTable.isEmpty && decide (c.maxStack ≤ mostOperands) && decide (meth.sig.returnType = rt) && !meth.locks && decide (parseMethodDescriptor y.desc = some meth.sig)) = true) : (Jvm.Cond.code y bytes mx rt).before a s = true := by
  simp only [Bool.and_eq_true, beq_iff_eq, Bool.not_eq_true', decide_eq_true_eq] at h5
  obtain ⟨⟨⟨⟨⟨g1, g2⟩, g3⟩, g4⟩, g5⟩, g6⟩ := h5
  simp [Cond.before, Cond.holds, Cond.value, h1, h2, h3, h4, g1, g2, g3, g4, g5, g6]
def isCode : Jvm.Cond → Bool
  | .code _ _ _ _ => true
  | _ => false
theorem all_split {L : List Jvm.Cond} {P : Jvm.Cond → Bool} (h1 : L.all (fun c => isCode c || P c) = true) (h2 : ∀ c ∈ L.filter isCode, P c = true) : L.all P = true := by
  refine List.all_eq_true.mpr fun c hc => ?_
  have h := List.all_eq_true.mp h1 c hc
  rcases Bool.eq_false_or_eq_true (isCode c) with hi | hi
  · exact h2 c (List.mem_filter.mpr ⟨hc, hi⟩)
  · simpa [hi] using h
set_option maxRecDepth 65536 in
theorem w_c0 : (Jvm.Cond.code x code maxLocals ret).before args0 about1 = true := code_word (m := ⟨1, 3⟩) (meth := k1m3) (c := k1c3) (by decide +kernel) rfl rfl rfl (by decide +kernel)
set_option maxRecDepth 65536 in
theorem w_c1 : (Jvm.Cond.code ({ cls := "com/example/clearhour/clearhour/market/TimelineIndexFromPinLaw", name := "cs", desc := "([JII)V" } : Jvm.MethodName) method_2_code (5 : Nat) (Option.none : Option Jvm.ClassFile.FieldType)).before args0 about1 = true := code_word (m := ⟨1, 1⟩) (meth := k1m1) (c := k1c1) (by decide +kernel) rfl rfl rfl (by decide +kernel)
set_option maxRecDepth 65536 in
theorem w_c2 : (Jvm.Cond.code ({ cls := "com/example/clearhour/clearhour/market/Timeline", name := "<init>", desc := "()V" } : Jvm.MethodName) prog_61_method_1_code (1 : Nat) (Option.none : Option Jvm.ClassFile.FieldType)).before args0 about1 = true := code_word (m := ⟨2, 0⟩) (meth := k2m0) (c := k2c0) (by decide +kernel) rfl rfl rfl (by decide +kernel)
set_option maxRecDepth 65536 in
theorem w_c3 : (Jvm.Cond.code ({ cls := "java/lang/Object", name := "<init>", desc := "()V" } : Jvm.MethodName) object_method_1_code (1 : Nat) (Option.none : Option Jvm.ClassFile.FieldType)).before args0 about1 = true := code_word (m := ⟨0, 0⟩) (meth := k0m0) (c := k0c0) (by decide +kernel) rfl rfl rfl (by decide +kernel)
set_option maxRecDepth 65536 in
theorem w_c4 : (Jvm.Cond.code ({ cls := "com/example/clearhour/clearhour/market/Timeline", name := "add", desc := "(JLjava/lang/Object;)V" } : Jvm.MethodName) prog_61_method_2_code (4 : Nat) (Option.none : Option Jvm.ClassFile.FieldType)).before args0 about1 = true := code_word (m := ⟨2, 1⟩) (meth := k2m1) (c := k2c1) (by decide +kernel) rfl rfl rfl (by decide +kernel)
set_option maxRecDepth 65536 in
theorem w_c5 : (Jvm.Cond.code ({ cls := "com/example/clearhour/clearhour/market/TimelineIndexFromPinLaw", name := "lt", desc := "(JJ)I" } : Jvm.MethodName) method_3_code (4 : Nat) (Option.some Jvm.ClassFile.FieldType.int)).before args0 about1 = true := code_word (m := ⟨1, 2⟩) (meth := k1m2) (c := k1c2) (by decide +kernel) rfl rfl rfl (by decide +kernel)
set_option maxRecDepth 65536 in
theorem w_c6 : (Jvm.Cond.code ({ cls := "com/example/clearhour/clearhour/market/Timeline", name := "indexFrom", desc := "(J)I" } : Jvm.MethodName) prog_61_method_8_code (6 : Nat) (Option.some Jvm.ClassFile.FieldType.int)).before args0 about1 = true := code_word (m := ⟨2, 2⟩) (meth := k2m2) (c := k2c2) (by decide +kernel) rfl rfl rfl (by decide +kernel)
def codes1 : List Jvm.Cond := [Jvm.Cond.code x code maxLocals ret, Jvm.Cond.code ({ cls := "com/example/clearhour/clearhour/market/TimelineIndexFromPinLaw", name := "cs", desc := "([JII)V" } : Jvm.MethodName) method_2_code (5 : Nat) (Option.none : Option Jvm.ClassFile.FieldType), Jvm.Cond.code ({ cls := "com/example/clearhour/clearhour/market/Timeline", name := "<init>", desc := "()V" } : Jvm.MethodName) prog_61_method_1_code (1 : Nat) (Option.none : Option Jvm.ClassFile.FieldType), Jvm.Cond.code ({ cls := "java/lang/Object", name := "<init>", desc := "()V" } : Jvm.MethodName) object_method_1_code (1 : Nat) (Option.none : Option Jvm.ClassFile.FieldType), Jvm.Cond.code ({ cls := "com/example/clearhour/clearhour/market/Timeline", name := "add", desc := "(JLjava/lang/Object;)V" } : Jvm.MethodName) prog_61_method_2_code (4 : Nat) (Option.none : Option Jvm.ClassFile.FieldType), Jvm.Cond.code ({ cls := "com/example/clearhour/clearhour/market/TimelineIndexFromPinLaw", name := "lt", desc := "(JJ)I" } : Jvm.MethodName) method_3_code (4 : Nat) (Option.some Jvm.ClassFile.FieldType.int), Jvm.Cond.code ({ cls := "com/example/clearhour/clearhour/market/Timeline", name := "indexFrom", desc := "(J)I" } : Jvm.MethodName) prog_61_method_8_code (6 : Nat) (Option.some Jvm.ClassFile.FieldType.int)]
set_option maxRecDepth 65536 in
theorem codes_eq : words1.filter isCode = codes1 := rfl
theorem w_codes : ∀ c ∈ words1.filter isCode, c.before args0 about1 = true := by
  rw [codes_eq]
  intro c hc
  simp only [codes1, List.mem_cons, List.not_mem_nil, or_false] at hc
  rcases hc with rfl | rfl | rfl | rfl | rfl | rfl | rfl
  · exact w_c0
  · exact w_c1
  · exact w_c2
  · exact w_c3
  · exact w_c4
  · exact w_c5
  · exact w_c6
set_option maxRecDepth 65536 in
theorem w_t1 : (words1.take 24).all (fun c => isCode c || c.before args0 about1) = true := by decide +kernel
set_option maxRecDepth 65536 in
theorem w_t2 : (words1.drop 24).all (fun c => isCode c || c.before args0 about1) = true := by decide +kernel
theorem w_tables : (allAtoms (Jvm.Cond.code x code maxLocals ret :: tables_1)).before args0 about1 = true := by
  rw [allAtoms_all]
  show words1.all (fun c => c.before args0 about1) = true
  refine all_split ?_ w_codes
  rw [← List.take_append_drop 24 words1, List.all_append, w_t1, w_t2]
  rfl
set_option maxRecDepth 65536 in
theorem w_case : (Jvm.Cond.and given_1 narrow_1).before args0 about1 = true := by decide +kernel
theorem w_applies : (headSpec (Jvm.Cond.code x code maxLocals ret :: tables_1) room_1).applies x e0.platform about1 = true :=
  (Spec.applies_iff w_frames).mpr ⟨w_running, w_runnable, w_alone, w_named, w_hears, w_ripe, w_room, w_tables⟩
theorem atStart : AtStart classFile x code maxLocals ret World_1 tables_1 room_1 Calls_1 rest_1 Pre_1 launch0 p0 e0 about1 theMethod args0 below0 :=
  ⟨lists_1, trivial, launch0.admits_env _ _ _, launch0.least_env, fairChoices_fair.cas, fairChoices_fair.clock, w_frames, w_args, w_heap, w_applies, trivial, trivial, w_case⟩
end start1
theorem witness_1 : WitnessClaimed_1 := ⟨start1.p0, start1.e0, start1.about1, start1.theMethod, start1.args0, start1.below0, start1.atStart⟩
end Jvm.Pilot.@@N@@
