import JvmDerived
import JvmDerived.Pilot.@@N@@Statement
import JvmDerived.Pilot.@@N@@Code
set_option linter.unusedVariables false
set_option linter.unusedSimpArgs false
namespace Jvm.RoadKit
open Sem ClassFile Op Lib Jvm.Stand Jvm.Free Jvm.LawKit
section New
variable {p : Program} {l : Launch} {e : Env} {R : Room} {s : State} {m : MethodId} {args : Array Value} {below : List Frame} {meth : Method} {c : Code} {T : State} {locs : List Loc} {cells slots : Nat}
theorem retI (X : Stand p l e R s m args below meth c T locs cells slots) (hx : p.tables.exec = Jvm.exec) {pc : Nat} {Ls : Array Slot} {z : Int32} {rest : List Value} (hret : meth.sig.returnType = some .int) (hd : decode c.code pc = .ok (.ireturn, 1)) {fs : List Frame}
    (hl : ∀ (f : JFrame) (acts : List Action), f.method = m → f.locked = none → f.entered = [] → (doReturn e (T.setTop f) acts (some (.int z))).1 = T.setFrames fs) : Steps p.tables e below (T.setTop (mkF m pc Ls (.int z :: rest))) (T.setFrames fs) := by
  have hm' : T.vm.method? m = some meth := X.method'
  have hn : narrow .int (.int z) = .int z := rfl
  show Steps p.tables e below (T.setTop { method := m, pc := pc, locals := Ls, stack := _ :: rest, locked := none }) _
  jvm_step X.here [X.here.top, hx, hd, hm', hret, hn]
  first | (intro acts; rw [hl _ acts rfl rfl rfl]) | rw [hl _ _ rfl rfl rfl]
  exact Steps.refl _
end New
end Jvm.RoadKit
namespace Jvm.Pilot.@@N@@
open Jvm Jvm.ClassFile Sem Op Lib Jvm.Free Jvm.Stand Jvm.LawKit Jvm.RoadKit Bundle Jvm.Pilot.@@N@@.Jvm.D
theorem own_noface {a b : Bool} (h : (a || b) = false) : a = false := by
  cases a
  · rfl
  · cases h
/-- who comes to t from this place of the method comes to t from G -/
abbrev Kt (p : Program) (e : Env) (below : List Frame) (m : MethodId) (G T : State) (pc : Nat) (Ls : Array Slot) (st : List Value) : Prop :=
  ∀ t, Steps p.tables e below (T.setTop (mkF m pc Ls st)) t → Steps p.tables e below G t
/-! plain numbers -/
def own_b (P : Prop) [Decidable P] : Int32 := if P then 1 else 0
theorem own_b1 {P : Prop} [Decidable P] (h : P) : (1 : Int32) = own_b P := (if_pos h).symm
theorem own_b0 {P : Prop} [Decidable P] (h : ¬ P) : (0 : Int32) = own_b P := (if_neg h).symm
theorem own_bz {P : Prop} [Decidable P] : own_b P = 0 ↔ ¬ P := by
  unfold own_b
  by_cases h : P <;> simp [h]
theorem own_bn {P Q : Prop} [Decidable P] [Decidable Q] (h : P ↔ Q) : own_b P = own_b Q := by
  unfold own_b
  by_cases h1 : P
  · rw [if_pos h1, if_pos (h.mp h1)]
  · rw [if_neg h1, if_neg (fun q => h1 (h.mpr q))]
abbrev own_iso (c : Int32) : Prop := (0 ≤ c.toInt ∧ c.toInt ≤ 31) ∨ (127 ≤ c.toInt ∧ c.toInt ≤ 159)
abbrev own_ctl (c : Int32) : Prop := own_iso c ∨ c.toInt = 8232 ∨ c.toInt = 8233
theorem own_lt {a b : Int32} : a < b ↔ a.toInt < b.toInt := Int32.lt_iff_toInt_lt
theorem own_eq {a b : Int32} : a = b ↔ a.toInt = b.toInt := Int32.toInt_inj.symm
theorem own_0 : (0 : Int32).toInt = 0 := by decide
theorem own_31 : (31 : Int32).toInt = 31 := by decide
theorem own_127 : (127 : Int32).toInt = 127 := by decide
theorem own_159 : (159 : Int32).toInt = 159 := by decide
theorem own_8232 : (8232 : Int32).toInt = 8232 := by decide
theorem own_8233 : (8233 : Int32).toInt = 8233 := by decide
theorem own_7 : (7 : Int32).toInt = 7 := by decide
theorem own_8 : (8 : Int32).toInt = 8 := by decide
theorem own_get8 (i : Nat) (a b c d e f g h z : Int32) : ∃ y : Int32, ([.int a, .int b, .int c, .int d, .int e, .int f, .int g, .int h] : List Value).getD i (.int z) = .int y := by
  match i with
  | 0 => exact ⟨_, rfl⟩
  | 1 => exact ⟨_, rfl⟩
  | 2 => exact ⟨_, rfl⟩
  | 3 => exact ⟨_, rfl⟩
  | 4 => exact ⟨_, rfl⟩
  | 5 => exact ⟨_, rfl⟩
  | 6 => exact ⟨_, rfl⟩
  | 7 => exact ⟨_, rfl⟩
  | n + 8 => exact ⟨_, rfl⟩
theorem own_in7 (k : Int32) : ¬ (k &&& 7) < 0 ∧ (k &&& 7) < (8 : Int32) := by
  have h := c_mask k 7 3 (by decide) (by decide)
  rw [own_lt, own_lt, own_0, own_8]
  omega
theorem d2_0 : decode jdk_89_method_89_code 0 = .ok (.iload_n 0, 1) := by decide +kernel
theorem d2_1 : decode jdk_89_method_89_code 1 = .ok (.sipush 159, 3) := by decide +kernel
theorem d2_4 : decode jdk_89_method_89_code 4 = .ok (.if_icmp .gt 19, 3) := by decide +kernel
theorem d2_7 : decode jdk_89_method_89_code 7 = .ok (.iload_n 0, 1) := by decide +kernel
theorem d2_8 : decode jdk_89_method_89_code 8 = .ok (.bipush 127, 2) := by decide +kernel
theorem d2_10 : decode jdk_89_method_89_code 10 = .ok (.if_icmp .ge 9, 3) := by decide +kernel
theorem d2_13 : decode jdk_89_method_89_code 13 = .ok (.iload_n 0, 1) := by decide +kernel
theorem d2_14 : decode jdk_89_method_89_code 14 = .ok (.iconst 5, 1) := by decide +kernel
theorem d2_15 : decode jdk_89_method_89_code 15 = .ok (.iushr, 1) := by decide +kernel
theorem d2_16 : decode jdk_89_method_89_code 16 = .ok (.ifCond .ne 7, 3) := by decide +kernel
theorem d2_19 : decode jdk_89_method_89_code 19 = .ok (.iconst 1, 1) := by decide +kernel
theorem d2_20 : decode jdk_89_method_89_code 20 = .ok (.goto 4, 3) := by decide +kernel
theorem d2_23 : decode jdk_89_method_89_code 23 = .ok (.iconst 0, 1) := by decide +kernel
theorem d2_24 : decode jdk_89_method_89_code 24 = .ok (.ireturn, 1) := by decide +kernel
theorem pn2 : plainName "java/lang/Character" = true := by first | (simp [plainName, overriddenIn]; done) | decide +kernel
theorem pd_0 : parseMethodDescriptor "(I)Z" = some ⟨[.int], some .boolean⟩ := by decide +kernel
theorem ef2 (m : MethodId) (p1 : Int32) : entryFrame m #[(.int p1)] 1 = mkF m 0 #[.val (.int p1)] [] := by first | (simp [entryFrame, mkF, argsToLocals, Value.category]; done) | rfl
def Q2 (Z : State) (p1 : Int32) (h0 : Heap) (n0 : Nat) (v : Option Value) (h : Heap) (L : List Loc) : Prop := v = some (.int (own_b (own_iso p1))) ∧ Fr n0 L ∧ h = h0
set_option maxRecDepth 65536 in
set_option maxHeartbeats 40000000 in
theorem rm2 (l : Launch) (Z : State) (a0 : Array Value) (hw : ∀ d ∈ tables_1, d.before a0 Z = true) (ws : List Jvm.Cond) (p1 : Int32) (h0 : Heap) (n0 : Nat) (Z0 : n0 ≤ h0.size)  :
    MetFree l (⟨"java/lang/Character", "isISOControl", "(I)Z"⟩ : MethodName) (head1 (Jvm.Cond.code (⟨"java/lang/Character", "isISOControl", "(I)Z"⟩ : MethodName) jdk_89_method_89_code 1 (some .boolean) :: ws) ({ frames := 0, cells := 0, slots := 0, locals := 0 } : Room)) (fun gs' U => gs' = #[(.int p1)] ∧ Z.Warmed39 U.vm ∧ U.heap = h0) (fun _ _ _ _ _ => True) (fun _ U o U' => ∃ v L, o = .returned v ∧ Q2 Z p1 h0 n0 v U'.heap L ∧ FrameEnd U o U' L ({ frames := 0, cells := 0, slots := 0, locals := 0 } : Room).cells ({ frames := 0, cells := 0, slots := 0, locals := 0 } : Room).slots) := by
  refine MetFree.of_bodySF (plainFor_of_name pn2) hisR ?_
  intro p e s m args below meth c s₁ Bd hml0 hP hK
  obtain ⟨rfl, hZ, hh⟩ := hP
  have hx := Bd.exec
  have hby := Bd.bytes
  have hml : c.maxLocals = 1 := hml0
  have hown : s.vm.findClass "java/lang/Character" = some m.cls := findClass_of_methodNamed Bd.named
  have hnm := (name_of_methodNamed Bd.named Bd.method).1
  have X0 : Stand p l e ({ frames := 0, cells := 0, slots := 0, locals := 0 } : Room) s m #[(.int p1)] below meth c s₁ [] 0 0 := Stand.of_body Bd
  have e0 : s₁.heap = h0 := by rw [← hh, Bd.state]; rfl
  have N0 := Fr.nil n0
  have k0 : Kt p e below m (s₁.setTop (entryFrame m #[(.int p1)] 1)) s₁ 0 #[.val (.int p1)] [] := fun t ht => castTop (ef2 m p1) ht
  have k1 : Kt p e below m (s₁.setTop (entryFrame m #[(.int p1)] 1)) s₁ 4 #[.val (.int p1)] [(.int (159 : Int32)), (.int p1)] := by
    intro t ht
    refine k0 t ?_
    show Steps p.tables e below (s₁.setTop (mkF m 0 #[.val (.int p1)] [])) t
    refine XS.iloadN X0.here hx rfl (hb hby d2_0) rfl ?_
    show Steps p.tables e below (s₁.setTop (mkF m 1 #[.val (.int p1)] [(.int p1)])) t
    refine XS.sipush X0.here hx rfl (hb hby d2_1) ?_
    exact ht
  by_cases h1 : (159 : Int32) < p1
  · have k2 : Kt p e below m (s₁.setTop (entryFrame m #[(.int p1)] 1)) s₁ 24 #[.val (.int p1)] [(.int (0 : Int32))] := by
      intro t ht
      refine k1 t ?_
      show Steps p.tables e below (s₁.setTop (mkF m 4 #[.val (.int p1)] [(.int (159 : Int32)), (.int p1)])) t
      refine XS.icmpYes X0.here hx rfl (pc0 := 4) (pc' := 23) rfl (hb hby d2_4) rfl (tlt h1).2.2.1 (by decide) (by decide) ?_
      show Steps p.tables e below (s₁.setTop (mkF m 23 #[.val (.int p1)] [])) t
      refine XS.iconst X0.here hx rfl (hb hby d2_23) ?_
      exact ht
    obtain ⟨fs, hr, hrun, hended, hW, hsame⟩ := X0.leave (v := some (.int (0 : Int32))) (fun h => by rw [Bd.returns] at h; cases h)
    refine ⟨_, _, k2 _ ?_, hrun, hended, _, _, rfl, ?_, ⟨_, rfl⟩, hW, hsame.mono (by decide) (by decide)⟩
    · exact retN X0 hx (t := .boolean) Bd.returns (by simp) (hb hby d2_24) hr
    · show Q2 Z p1 h0 n0 _ s₁.heap _
      rw [e0]
      exact ⟨congrArg (fun z => some (Value.int z)) (own_b0 (by simp only [own_lt, own_eq, own_0, own_31, own_127, own_159, own_8232, own_8233, own_ctl, own_iso] at h1 ⊢; omega)), N0, rfl⟩
  · have k3 : Kt p e below m (s₁.setTop (entryFrame m #[(.int p1)] 1)) s₁ 10 #[.val (.int p1)] [(.int (127 : Int32)), (.int p1)] := by
      intro t ht
      refine k1 t ?_
      show Steps p.tables e below (s₁.setTop (mkF m 4 #[.val (.int p1)] [(.int (159 : Int32)), (.int p1)])) t
      refine XS.icmpNo X0.here hx rfl (hb hby d2_4) rfl (flt h1).2.2.1 ?_
      show Steps p.tables e below (s₁.setTop (mkF m 7 #[.val (.int p1)] [])) t
      refine XS.iloadN X0.here hx rfl (hb hby d2_7) rfl ?_
      show Steps p.tables e below (s₁.setTop (mkF m 8 #[.val (.int p1)] [(.int p1)])) t
      refine XS.bipush X0.here hx rfl (hb hby d2_8) ?_
      exact ht
    by_cases h2 : p1 < (127 : Int32)
    · have k4 : Kt p e below m (s₁.setTop (entryFrame m #[(.int p1)] 1)) s₁ 16 #[.val (.int p1)] [(.int ((p1.toUInt32 >>> ((5 : Int32) &&& 31).toUInt32).toInt32))] := by
        intro t ht
        refine k3 t ?_
        show Steps p.tables e below (s₁.setTop (mkF m 10 #[.val (.int p1)] [(.int (127 : Int32)), (.int p1)])) t
        refine XS.icmpNo X0.here hx rfl (hb hby d2_10) rfl (tlt h2).2.1 ?_
        show Steps p.tables e below (s₁.setTop (mkF m 13 #[.val (.int p1)] [])) t
        refine XS.iloadN X0.here hx rfl (hb hby d2_13) rfl ?_
        show Steps p.tables e below (s₁.setTop (mkF m 14 #[.val (.int p1)] [(.int p1)])) t
        refine XS.iconst X0.here hx rfl (hb hby d2_14) ?_
        show Steps p.tables e below (s₁.setTop (mkF m 15 #[.val (.int p1)] [(.int (5 : Int32)), (.int p1)])) t
        refine XS.iushr X0.here hx rfl (hb hby d2_15) rfl ?_
        exact ht
      by_cases h3 : ((p1.toUInt32 >>> ((5 : Int32) &&& 31).toUInt32).toInt32) = (0 : Int32)
      · have k5 : Kt p e below m (s₁.setTop (entryFrame m #[(.int p1)] 1)) s₁ 24 #[.val (.int p1)] [(.int (1 : Int32))] := by
          intro t ht
          refine k4 t ?_
          show Steps p.tables e below (s₁.setTop (mkF m 16 #[.val (.int p1)] [(.int ((p1.toUInt32 >>> ((5 : Int32) &&& 31).toUInt32).toInt32))])) t
          refine XS.ifNo X0.here hx rfl (hb hby d2_16) rfl ((if0 _ _).trans (teq h3).2) ?_
          show Steps p.tables e below (s₁.setTop (mkF m 19 #[.val (.int p1)] [])) t
          refine XS.iconst X0.here hx rfl (hb hby d2_19) ?_
          show Steps p.tables e below (s₁.setTop (mkF m 20 #[.val (.int p1)] [(.int (1 : Int32))])) t
          refine XS.goto X0.here hx rfl (pc0 := 20) (pc' := 24) rfl (hb hby d2_20) (by decide) (by decide) ?_
          exact ht
        obtain ⟨fs, hr, hrun, hended, hW, hsame⟩ := X0.leave (v := some (.int (1 : Int32))) (fun h => by rw [Bd.returns] at h; cases h)
        refine ⟨_, _, k5 _ ?_, hrun, hended, _, _, rfl, ?_, ⟨_, rfl⟩, hW, hsame.mono (by decide) (by decide)⟩
        · exact retN X0 hx (t := .boolean) Bd.returns (by simp) (hb hby d2_24) hr
        · show Q2 Z p1 h0 n0 _ s₁.heap _
          rw [e0]
          exact ⟨congrArg (fun z => some (Value.int z)) (own_b1 (by have hu := c_iushr p1 5 5 (by decide) (by decide); have hr := rng32 p1; simp only [own_lt, own_eq, own_0, own_31, own_127, own_159, own_8232, own_8233, own_ctl, own_iso] at h1 h2 h3 ⊢; omega)), N0, rfl⟩
      · have k6 : Kt p e below m (s₁.setTop (entryFrame m #[(.int p1)] 1)) s₁ 24 #[.val (.int p1)] [(.int (0 : Int32))] := by
          intro t ht
          refine k4 t ?_
          show Steps p.tables e below (s₁.setTop (mkF m 16 #[.val (.int p1)] [(.int ((p1.toUInt32 >>> ((5 : Int32) &&& 31).toUInt32).toInt32))])) t
          refine XS.ifYes X0.here hx rfl (pc0 := 16) (pc' := 23) rfl (hb hby d2_16) rfl ((if0 _ _).trans (feq h3).2) (by decide) (by decide) ?_
          show Steps p.tables e below (s₁.setTop (mkF m 23 #[.val (.int p1)] [])) t
          refine XS.iconst X0.here hx rfl (hb hby d2_23) ?_
          exact ht
        obtain ⟨fs, hr, hrun, hended, hW, hsame⟩ := X0.leave (v := some (.int (0 : Int32))) (fun h => by rw [Bd.returns] at h; cases h)
        refine ⟨_, _, k6 _ ?_, hrun, hended, _, _, rfl, ?_, ⟨_, rfl⟩, hW, hsame.mono (by decide) (by decide)⟩
        · exact retN X0 hx (t := .boolean) Bd.returns (by simp) (hb hby d2_24) hr
        · show Q2 Z p1 h0 n0 _ s₁.heap _
          rw [e0]
          exact ⟨congrArg (fun z => some (Value.int z)) (own_b0 (by have hu := c_iushr p1 5 5 (by decide) (by decide); have hr := rng32 p1; simp only [own_lt, own_eq, own_0, own_31, own_127, own_159, own_8232, own_8233, own_ctl, own_iso] at h1 h2 h3 ⊢; omega)), N0, rfl⟩
    · have k7 : Kt p e below m (s₁.setTop (entryFrame m #[(.int p1)] 1)) s₁ 24 #[.val (.int p1)] [(.int (1 : Int32))] := by
        intro t ht
        refine k3 t ?_
        show Steps p.tables e below (s₁.setTop (mkF m 10 #[.val (.int p1)] [(.int (127 : Int32)), (.int p1)])) t
        refine XS.icmpYes X0.here hx rfl (pc0 := 10) (pc' := 19) rfl (hb hby d2_10) rfl (flt h2).2.1 (by decide) (by decide) ?_
        show Steps p.tables e below (s₁.setTop (mkF m 19 #[.val (.int p1)] [])) t
        refine XS.iconst X0.here hx rfl (hb hby d2_19) ?_
        show Steps p.tables e below (s₁.setTop (mkF m 20 #[.val (.int p1)] [(.int (1 : Int32))])) t
        refine XS.goto X0.here hx rfl (pc0 := 20) (pc' := 24) rfl (hb hby d2_20) (by decide) (by decide) ?_
        exact ht
      obtain ⟨fs, hr, hrun, hended, hW, hsame⟩ := X0.leave (v := some (.int (1 : Int32))) (fun h => by rw [Bd.returns] at h; cases h)
      refine ⟨_, _, k7 _ ?_, hrun, hended, _, _, rfl, ?_, ⟨_, rfl⟩, hW, hsame.mono (by decide) (by decide)⟩
      · exact retN X0 hx (t := .boolean) Bd.returns (by simp) (hb hby d2_24) hr
      · show Q2 Z p1 h0 n0 _ s₁.heap _
        rw [e0]
        exact ⟨congrArg (fun z => some (Value.int z)) (own_b1 (by simp only [own_lt, own_eq, own_0, own_31, own_127, own_159, own_8232, own_8233, own_ctl, own_iso] at h1 h2 ⊢; omega)), N0, rfl⟩
theorem d1_0 : decode prog_31_method_3_code 0 = .ok (.iload_n 0, 1) := by decide +kernel
theorem d1_1 : decode prog_31_method_3_code 1 = .ok (.invokestatic 51, 3) := by decide +kernel
theorem d1_4 : decode prog_31_method_3_code 4 = .ok (.ifCond .ne 17, 3) := by decide +kernel
theorem d1_7 : decode prog_31_method_3_code 7 = .ok (.iload_n 0, 1) := by decide +kernel
theorem d1_8 : decode prog_31_method_3_code 8 = .ok (.sipush 8232, 3) := by decide +kernel
theorem d1_11 : decode prog_31_method_3_code 11 = .ok (.if_icmp .eq 10, 3) := by decide +kernel
theorem d1_14 : decode prog_31_method_3_code 14 = .ok (.iload_n 0, 1) := by decide +kernel
theorem d1_15 : decode prog_31_method_3_code 15 = .ok (.sipush 8233, 3) := by decide +kernel
theorem d1_18 : decode prog_31_method_3_code 18 = .ok (.if_icmp .ne 7, 3) := by decide +kernel
theorem d1_21 : decode prog_31_method_3_code 21 = .ok (.iconst 1, 1) := by decide +kernel
theorem d1_22 : decode prog_31_method_3_code 22 = .ok (.goto 4, 3) := by decide +kernel
theorem d1_25 : decode prog_31_method_3_code 25 = .ok (.iconst 0, 1) := by decide +kernel
theorem d1_26 : decode prog_31_method_3_code 26 = .ok (.ireturn, 1) := by decide +kernel
theorem pn1 : plainName "com/example/lockstile/lockstile/namespace/Names" = true := by first | (simp [plainName, overriddenIn]; done) | decide +kernel
theorem ef1 (m : MethodId) (p1 : Int32) : entryFrame m #[(.int p1)] 1 = mkF m 0 #[.val (.int p1)] [] := by first | (simp [entryFrame, mkF, argsToLocals, Value.category]; done) | rfl
def Q1 (Z : State) (p1 : Int32) (h0 : Heap) (n0 : Nat) (v : Option Value) (h : Heap) (L : List Loc) : Prop := v = some (.int (own_b (own_ctl p1))) ∧ Fr n0 L ∧ h = h0
set_option maxRecDepth 65536 in
set_option maxHeartbeats 40000000 in
theorem rm1 (l : Launch) (Z : State) (a0 : Array Value) (hw : ∀ d ∈ tables_1, d.before a0 Z = true) (ws : List Jvm.Cond) (p1 : Int32) (h0 : Heap) (n0 : Nat) (Z0 : n0 ≤ h0.size)  :
    MetFree l (⟨"com/example/lockstile/lockstile/namespace/Names", "isControl", "(I)Z"⟩ : MethodName) (head1 (Jvm.Cond.code (⟨"com/example/lockstile/lockstile/namespace/Names", "isControl", "(I)Z"⟩ : MethodName) prog_31_method_3_code 1 (some .boolean) :: ws) ({ frames := 1, cells := 0, slots := 0, locals := 12 } : Room)) (fun gs' U => gs' = #[(.int p1)] ∧ Z.Warmed39 U.vm ∧ U.heap = h0) (fun _ _ _ _ _ => True) (fun _ U o U' => ∃ v L, o = .returned v ∧ Q1 Z p1 h0 n0 v U'.heap L ∧ FrameEnd U o U' L ({ frames := 1, cells := 0, slots := 0, locals := 12 } : Room).cells ({ frames := 1, cells := 0, slots := 0, locals := 12 } : Room).slots) := by
  refine MetFree.of_bodySF (plainFor_of_name pn1) hisR ?_
  intro p e s m args below meth c s₁ Bd hml0 hP hK
  obtain ⟨rfl, hZ, hh⟩ := hP
  have hx := Bd.exec
  have hby := Bd.bytes
  have hml : c.maxLocals = 1 := hml0
  have hown : s.vm.findClass "com/example/lockstile/lockstile/namespace/Names" = some m.cls := findClass_of_methodNamed Bd.named
  have hnm := (name_of_methodNamed Bd.named Bd.method).1
  have X0 : Stand p l e ({ frames := 1, cells := 0, slots := 0, locals := 12 } : Room) s m #[(.int p1)] below meth c s₁ [] 0 0 := Stand.of_body Bd
  have e0 : s₁.heap = h0 := by rw [← hh, Bd.state]; rfl
  have N0 := Fr.nil n0
  have k0 : Kt p e below m (s₁.setTop (entryFrame m #[(.int p1)] 1)) s₁ 0 #[.val (.int p1)] [] := fun t ht => castTop (ef1 m p1) ht
  have k8 : Kt p e below m (s₁.setTop (entryFrame m #[(.int p1)] 1)) s₁ 1 #[.val (.int p1)] [(.int p1)] := by
    intro t ht
    refine k0 t ?_
    show Steps p.tables e below (s₁.setTop (mkF m 0 #[.val (.int p1)] [])) t
    refine XS.iloadN X0.here hx rfl (hb hby d1_0) rfl ?_
    exact ht
  obtain ⟨_, _, ⟨T9, L9, c9, n9⟩, -, X9, ⟨Lc9, hQ9, l9, y9, z9⟩, st9⟩ := Jvm.LawKit.callS X0 hx (y := (⟨"java/lang/Character", "isISOControl", "(I)Z"⟩ : MethodName)) hown (mvT hZ (hw _ (List.mem_of_getElem? (i := 6) rfl))) (mvT hZ (hw _ (List.mem_of_getElem? (i := 7) rfl))) (mvT hZ (hw _ (List.mem_of_getElem? (i := 8) rfl))) (mvT hZ (hw _ (List.mem_of_getElem? (i := 9) rfl))) (by decide) (backOf (W := 0) (rm2 l Z a0 hw [] p1 h0 n0 Z0 ) hZ (hw _ (List.mem_of_getElem? (i := 9) rfl)) (hw _ (List.mem_of_getElem? (i := 8) rfl)) (by decide) (by decide)) (g := (mkF m 1 #[.val (.int p1)] [(.int p1)])) rfl (by rw [hml]; rfl) (argsL := [(.int p1)]) (rest := []) (lenOf pd_0 rfl) rfl (by show 2 * 0 + _ ≤ _; exact Nat.le_of_eq rfl) (hb hby d1_1) (fun _ _ => ⟨rfl, e0, (by decide : 0 + 0 ≤ _), (by decide : 0 + 0 ≤ _)⟩)
  dsimp only [Pt.U, Pt.locs, Pt.cells, Pt.slots] at X9 l9 y9 z9 st9 hQ9
  subst l9 y9 z9
  obtain ⟨rfl, Nq9, eq1⟩ := hQ9
  have N9 := Fr.app N0 Nq9
  have k9 : Kt p e below m (s₁.setTop (entryFrame m #[(.int p1)] 1)) T9 4 #[.val (.int p1)] [(.int (own_b (own_iso p1)))] := fun t ht => k8 t (st9 t ht)
  have hbz : (own_b (own_iso p1) = 0) ↔ ¬ own_iso p1 := own_bz
  by_cases h1 : (own_b (own_iso p1)) = (0 : Int32)
  · have k10 : Kt p e below m (s₁.setTop (entryFrame m #[(.int p1)] 1)) T9 11 #[.val (.int p1)] [(.int (8232 : Int32)), (.int p1)] := by
      intro t ht
      refine k9 t ?_
      show Steps p.tables e below (T9.setTop (mkF m 4 #[.val (.int p1)] [(.int (own_b (own_iso p1)))])) t
      refine XS.ifNo X9.here hx rfl (hb hby d1_4) rfl ((if0 _ _).trans (teq h1).2) ?_
      show Steps p.tables e below (T9.setTop (mkF m 7 #[.val (.int p1)] [])) t
      refine XS.iloadN X9.here hx rfl (hb hby d1_7) rfl ?_
      show Steps p.tables e below (T9.setTop (mkF m 8 #[.val (.int p1)] [(.int p1)])) t
      refine XS.sipush X9.here hx rfl (hb hby d1_8) ?_
      exact ht
    by_cases h2 : p1 = (8232 : Int32)
    · have k11 : Kt p e below m (s₁.setTop (entryFrame m #[(.int p1)] 1)) T9 26 #[.val (.int p1)] [(.int (1 : Int32))] := by
        intro t ht
        refine k10 t ?_
        show Steps p.tables e below (T9.setTop (mkF m 11 #[.val (.int p1)] [(.int (8232 : Int32)), (.int p1)])) t
        refine XS.icmpYes X9.here hx rfl (pc0 := 11) (pc' := 21) rfl (hb hby d1_11) rfl (teq h2).1 (by decide) (by decide) ?_
        show Steps p.tables e below (T9.setTop (mkF m 21 #[.val (.int p1)] [])) t
        refine XS.iconst X9.here hx rfl (hb hby d1_21) ?_
        show Steps p.tables e below (T9.setTop (mkF m 22 #[.val (.int p1)] [(.int (1 : Int32))])) t
        refine XS.goto X9.here hx rfl (pc0 := 22) (pc' := 26) rfl (hb hby d1_22) (by decide) (by decide) ?_
        exact ht
      obtain ⟨fs, hr, hrun, hended, hW, hsame⟩ := X9.leave (v := some (.int (1 : Int32))) (fun h => by rw [Bd.returns] at h; cases h)
      refine ⟨_, _, k11 _ ?_, hrun, hended, _, _, rfl, ?_, ⟨_, rfl⟩, hW, hsame.mono (by decide) (by decide)⟩
      · exact retN X9 hx (t := .boolean) Bd.returns (by simp) (hb hby d1_26) hr
      · show Q1 Z p1 h0 n0 _ T9.heap _
        exact ⟨congrArg (fun z => some (Value.int z)) (own_b1 (by simp only [own_eq, own_8232] at h2; exact Or.inr (Or.inl h2))), N9, eq1⟩
    · have k12 : Kt p e below m (s₁.setTop (entryFrame m #[(.int p1)] 1)) T9 18 #[.val (.int p1)] [(.int (8233 : Int32)), (.int p1)] := by
        intro t ht
        refine k10 t ?_
        show Steps p.tables e below (T9.setTop (mkF m 11 #[.val (.int p1)] [(.int (8232 : Int32)), (.int p1)])) t
        refine XS.icmpNo X9.here hx rfl (hb hby d1_11) rfl (feq h2).1 ?_
        show Steps p.tables e below (T9.setTop (mkF m 14 #[.val (.int p1)] [])) t
        refine XS.iloadN X9.here hx rfl (hb hby d1_14) rfl ?_
        show Steps p.tables e below (T9.setTop (mkF m 15 #[.val (.int p1)] [(.int p1)])) t
        refine XS.sipush X9.here hx rfl (hb hby d1_15) ?_
        exact ht
      by_cases h3 : p1 = (8233 : Int32)
      · have k13 : Kt p e below m (s₁.setTop (entryFrame m #[(.int p1)] 1)) T9 26 #[.val (.int p1)] [(.int (1 : Int32))] := by
          intro t ht
          refine k12 t ?_
          show Steps p.tables e below (T9.setTop (mkF m 18 #[.val (.int p1)] [(.int (8233 : Int32)), (.int p1)])) t
          refine XS.icmpNo X9.here hx rfl (hb hby d1_18) rfl (teq h3).2 ?_
          show Steps p.tables e below (T9.setTop (mkF m 21 #[.val (.int p1)] [])) t
          refine XS.iconst X9.here hx rfl (hb hby d1_21) ?_
          show Steps p.tables e below (T9.setTop (mkF m 22 #[.val (.int p1)] [(.int (1 : Int32))])) t
          refine XS.goto X9.here hx rfl (pc0 := 22) (pc' := 26) rfl (hb hby d1_22) (by decide) (by decide) ?_
          exact ht
        obtain ⟨fs, hr, hrun, hended, hW, hsame⟩ := X9.leave (v := some (.int (1 : Int32))) (fun h => by rw [Bd.returns] at h; cases h)
        refine ⟨_, _, k13 _ ?_, hrun, hended, _, _, rfl, ?_, ⟨_, rfl⟩, hW, hsame.mono (by decide) (by decide)⟩
        · exact retN X9 hx (t := .boolean) Bd.returns (by simp) (hb hby d1_26) hr
        · show Q1 Z p1 h0 n0 _ T9.heap _
          exact ⟨congrArg (fun z => some (Value.int z)) (own_b1 (by simp only [own_eq, own_8233] at h3; exact Or.inr (Or.inr h3))), N9, eq1⟩
      · have k14 : Kt p e below m (s₁.setTop (entryFrame m #[(.int p1)] 1)) T9 26 #[.val (.int p1)] [(.int (0 : Int32))] := by
          intro t ht
          refine k12 t ?_
          show Steps p.tables e below (T9.setTop (mkF m 18 #[.val (.int p1)] [(.int (8233 : Int32)), (.int p1)])) t
          refine XS.icmpYes X9.here hx rfl (pc0 := 18) (pc' := 25) rfl (hb hby d1_18) rfl (feq h3).2 (by decide) (by decide) ?_
          show Steps p.tables e below (T9.setTop (mkF m 25 #[.val (.int p1)] [])) t
          refine XS.iconst X9.here hx rfl (hb hby d1_25) ?_
          exact ht
        obtain ⟨fs, hr, hrun, hended, hW, hsame⟩ := X9.leave (v := some (.int (0 : Int32))) (fun h => by rw [Bd.returns] at h; cases h)
        refine ⟨_, _, k14 _ ?_, hrun, hended, _, _, rfl, ?_, ⟨_, rfl⟩, hW, hsame.mono (by decide) (by decide)⟩
        · exact retN X9 hx (t := .boolean) Bd.returns (by simp) (hb hby d1_26) hr
        · show Q1 Z p1 h0 n0 _ T9.heap _
          exact ⟨congrArg (fun z => some (Value.int z)) (own_b0 (by rw [hbz] at h1; simp only [own_eq, own_8232, own_8233] at h2 h3; omega)), N9, eq1⟩
  · have k15 : Kt p e below m (s₁.setTop (entryFrame m #[(.int p1)] 1)) T9 26 #[.val (.int p1)] [(.int (1 : Int32))] := by
      intro t ht
      refine k9 t ?_
      show Steps p.tables e below (T9.setTop (mkF m 4 #[.val (.int p1)] [(.int (own_b (own_iso p1)))])) t
      refine XS.ifYes X9.here hx rfl (pc0 := 4) (pc' := 21) rfl (hb hby d1_4) rfl ((if0 _ _).trans (feq h1).2) (by decide) (by decide) ?_
      show Steps p.tables e below (T9.setTop (mkF m 21 #[.val (.int p1)] [])) t
      refine XS.iconst X9.here hx rfl (hb hby d1_21) ?_
      show Steps p.tables e below (T9.setTop (mkF m 22 #[.val (.int p1)] [(.int (1 : Int32))])) t
      refine XS.goto X9.here hx rfl (pc0 := 22) (pc' := 26) rfl (hb hby d1_22) (by decide) (by decide) ?_
      exact ht
    obtain ⟨fs, hr, hrun, hended, hW, hsame⟩ := X9.leave (v := some (.int (1 : Int32))) (fun h => by rw [Bd.returns] at h; cases h)
    refine ⟨_, _, k15 _ ?_, hrun, hended, _, _, rfl, ?_, ⟨_, rfl⟩, hW, hsame.mono (by decide) (by decide)⟩
    · exact retN X9 hx (t := .boolean) Bd.returns (by simp) (hb hby d1_26) hr
    · show Q1 Z p1 h0 n0 _ T9.heap _
      exact ⟨congrArg (fun z => some (Value.int z)) (own_b1 (by exact Or.inl (Classical.not_not.mp fun q => h1 (hbz.mpr q)))), N9, eq1⟩
theorem d3_0 : decode method_2_code 0 = .ok (.iload_n 0, 1) := by decide +kernel
theorem d3_1 : decode method_2_code 1 = .ok (.ifCond .lt 11, 3) := by decide +kernel
theorem d3_4 : decode method_2_code 4 = .ok (.iload_n 0, 1) := by decide +kernel
theorem d3_5 : decode method_2_code 5 = .ok (.bipush 31, 2) := by decide +kernel
theorem d3_7 : decode method_2_code 7 = .ok (.if_icmp .gt 5, 3) := by decide +kernel
theorem d3_10 : decode method_2_code 10 = .ok (.iconst 1, 1) := by decide +kernel
theorem d3_11 : decode method_2_code 11 = .ok (.ireturn, 1) := by decide +kernel
theorem d3_12 : decode method_2_code 12 = .ok (.iload_n 0, 1) := by decide +kernel
theorem d3_13 : decode method_2_code 13 = .ok (.bipush 127, 2) := by decide +kernel
theorem d3_15 : decode method_2_code 15 = .ok (.if_icmp .lt 12, 3) := by decide +kernel
theorem d3_18 : decode method_2_code 18 = .ok (.iload_n 0, 1) := by decide +kernel
theorem d3_19 : decode method_2_code 19 = .ok (.sipush 159, 3) := by decide +kernel
theorem d3_22 : decode method_2_code 22 = .ok (.if_icmp .gt 5, 3) := by decide +kernel
theorem d3_25 : decode method_2_code 25 = .ok (.iconst 1, 1) := by decide +kernel
theorem d3_26 : decode method_2_code 26 = .ok (.ireturn, 1) := by decide +kernel
theorem d3_27 : decode method_2_code 27 = .ok (.iload_n 0, 1) := by decide +kernel
theorem d3_28 : decode method_2_code 28 = .ok (.sipush 8232, 3) := by decide +kernel
theorem d3_31 : decode method_2_code 31 = .ok (.if_icmp .ne 5, 3) := by decide +kernel
theorem d3_34 : decode method_2_code 34 = .ok (.iconst 1, 1) := by decide +kernel
theorem d3_35 : decode method_2_code 35 = .ok (.ireturn, 1) := by decide +kernel
theorem d3_36 : decode method_2_code 36 = .ok (.iload_n 0, 1) := by decide +kernel
theorem d3_37 : decode method_2_code 37 = .ok (.sipush 8233, 3) := by decide +kernel
theorem d3_40 : decode method_2_code 40 = .ok (.if_icmp .ne 5, 3) := by decide +kernel
theorem d3_43 : decode method_2_code 43 = .ok (.iconst 1, 1) := by decide +kernel
theorem d3_44 : decode method_2_code 44 = .ok (.ireturn, 1) := by decide +kernel
theorem d3_45 : decode method_2_code 45 = .ok (.iconst 0, 1) := by decide +kernel
theorem d3_46 : decode method_2_code 46 = .ok (.ireturn, 1) := by decide +kernel
theorem pn3 : plainName "com/example/lockstile/lockstile/namespace/NamesIsControlPinLaw" = true := by first | (simp [plainName, overriddenIn]; done) | decide +kernel
theorem ef3 (m : MethodId) (p1 : Int32) : entryFrame m #[(.int p1)] 1 = mkF m 0 #[.val (.int p1)] [] := by first | (simp [entryFrame, mkF, argsToLocals, Value.category]; done) | rfl
def Q3 (Z : State) (p1 : Int32) (h0 : Heap) (n0 : Nat) (v : Option Value) (h : Heap) (L : List Loc) : Prop := v = some (.int (own_b (own_ctl p1))) ∧ Fr n0 L ∧ h = h0
set_option maxRecDepth 65536 in
set_option maxHeartbeats 40000000 in
theorem rm3 (l : Launch) (Z : State) (a0 : Array Value) (hw : ∀ d ∈ tables_1, d.before a0 Z = true) (ws : List Jvm.Cond) (p1 : Int32) (h0 : Heap) (n0 : Nat) (Z0 : n0 ≤ h0.size)  :
    MetFree l (⟨"com/example/lockstile/lockstile/namespace/NamesIsControlPinLaw", "ref", "(I)Z"⟩ : MethodName) (head1 (Jvm.Cond.code (⟨"com/example/lockstile/lockstile/namespace/NamesIsControlPinLaw", "ref", "(I)Z"⟩ : MethodName) method_2_code 1 (some .boolean) :: ws) ({ frames := 0, cells := 0, slots := 0, locals := 0 } : Room)) (fun gs' U => gs' = #[(.int p1)] ∧ Z.Warmed39 U.vm ∧ U.heap = h0) (fun _ _ _ _ _ => True) (fun _ U o U' => ∃ v L, o = .returned v ∧ Q3 Z p1 h0 n0 v U'.heap L ∧ FrameEnd U o U' L ({ frames := 0, cells := 0, slots := 0, locals := 0 } : Room).cells ({ frames := 0, cells := 0, slots := 0, locals := 0 } : Room).slots) := by
  refine MetFree.of_bodySF (plainFor_of_name pn3) hisR ?_
  intro p e s m args below meth c s₁ Bd hml0 hP hK
  obtain ⟨rfl, hZ, hh⟩ := hP
  have hx := Bd.exec
  have hby := Bd.bytes
  have hml : c.maxLocals = 1 := hml0
  have hown : s.vm.findClass "com/example/lockstile/lockstile/namespace/NamesIsControlPinLaw" = some m.cls := findClass_of_methodNamed Bd.named
  have hnm := (name_of_methodNamed Bd.named Bd.method).1
  have X0 : Stand p l e ({ frames := 0, cells := 0, slots := 0, locals := 0 } : Room) s m #[(.int p1)] below meth c s₁ [] 0 0 := Stand.of_body Bd
  have e0 : s₁.heap = h0 := by rw [← hh, Bd.state]; rfl
  have N0 := Fr.nil n0
  have k0 : Kt p e below m (s₁.setTop (entryFrame m #[(.int p1)] 1)) s₁ 0 #[.val (.int p1)] [] := fun t ht => castTop (ef3 m p1) ht
  have k16 : Kt p e below m (s₁.setTop (entryFrame m #[(.int p1)] 1)) s₁ 1 #[.val (.int p1)] [(.int p1)] := by
    intro t ht
    refine k0 t ?_
    show Steps p.tables e below (s₁.setTop (mkF m 0 #[.val (.int p1)] [])) t
    refine XS.iloadN X0.here hx rfl (hb hby d3_0) rfl ?_
    exact ht
  by_cases h1 : p1 < (0 : Int32)
  · have k17 : Kt p e below m (s₁.setTop (entryFrame m #[(.int p1)] 1)) s₁ 15 #[.val (.int p1)] [(.int (127 : Int32)), (.int p1)] := by
      intro t ht
      refine k16 t ?_
      show Steps p.tables e below (s₁.setTop (mkF m 1 #[.val (.int p1)] [(.int p1)])) t
      refine XS.ifYes X0.here hx rfl (pc0 := 1) (pc' := 12) rfl (hb hby d3_1) rfl ((if0 _ _).trans (tlt h1).1) (by decide) (by decide) ?_
      show Steps p.tables e below (s₁.setTop (mkF m 12 #[.val (.int p1)] [])) t
      refine XS.iloadN X0.here hx rfl (hb hby d3_12) rfl ?_
      show Steps p.tables e below (s₁.setTop (mkF m 13 #[.val (.int p1)] [(.int p1)])) t
      refine XS.bipush X0.here hx rfl (hb hby d3_13) ?_
      exact ht
    by_cases h3 : p1 < (127 : Int32)
    · have k18 : Kt p e below m (s₁.setTop (entryFrame m #[(.int p1)] 1)) s₁ 31 #[.val (.int p1)] [(.int (8232 : Int32)), (.int p1)] := by
        intro t ht
        refine k17 t ?_
        show Steps p.tables e below (s₁.setTop (mkF m 15 #[.val (.int p1)] [(.int (127 : Int32)), (.int p1)])) t
        refine XS.icmpYes X0.here hx rfl (pc0 := 15) (pc' := 27) rfl (hb hby d3_15) rfl (tlt h3).1 (by decide) (by decide) ?_
        show Steps p.tables e below (s₁.setTop (mkF m 27 #[.val (.int p1)] [])) t
        refine XS.iloadN X0.here hx rfl (hb hby d3_27) rfl ?_
        show Steps p.tables e below (s₁.setTop (mkF m 28 #[.val (.int p1)] [(.int p1)])) t
        refine XS.sipush X0.here hx rfl (hb hby d3_28) ?_
        exact ht
      by_cases h5 : p1 = (8232 : Int32)
      · have k19 : Kt p e below m (s₁.setTop (entryFrame m #[(.int p1)] 1)) s₁ 35 #[.val (.int p1)] [(.int (1 : Int32))] := by
          intro t ht
          refine k18 t ?_
          show Steps p.tables e below (s₁.setTop (mkF m 31 #[.val (.int p1)] [(.int (8232 : Int32)), (.int p1)])) t
          refine XS.icmpNo X0.here hx rfl (hb hby d3_31) rfl (teq h5).2 ?_
          show Steps p.tables e below (s₁.setTop (mkF m 34 #[.val (.int p1)] [])) t
          refine XS.iconst X0.here hx rfl (hb hby d3_34) ?_
          exact ht
        obtain ⟨fs, hr, hrun, hended, hW, hsame⟩ := X0.leave (v := some (.int (1 : Int32))) (fun h => by rw [Bd.returns] at h; cases h)
        refine ⟨_, _, k19 _ ?_, hrun, hended, _, _, rfl, ?_, ⟨_, rfl⟩, hW, hsame.mono (by decide) (by decide)⟩
        · exact retN X0 hx (t := .boolean) Bd.returns (by simp) (hb hby d3_35) hr
        · show Q3 Z p1 h0 n0 _ s₁.heap _
          rw [e0]
          exact ⟨congrArg (fun z => some (Value.int z)) (own_b1 (by simp only [own_lt, own_eq, own_0, own_31, own_127, own_159, own_8232, own_8233, own_ctl, own_iso] at h1 h3 h5 ⊢; omega)), N0, rfl⟩
      · have k20 : Kt p e below m (s₁.setTop (entryFrame m #[(.int p1)] 1)) s₁ 40 #[.val (.int p1)] [(.int (8233 : Int32)), (.int p1)] := by
          intro t ht
          refine k18 t ?_
          show Steps p.tables e below (s₁.setTop (mkF m 31 #[.val (.int p1)] [(.int (8232 : Int32)), (.int p1)])) t
          refine XS.icmpYes X0.here hx rfl (pc0 := 31) (pc' := 36) rfl (hb hby d3_31) rfl (feq h5).2 (by decide) (by decide) ?_
          show Steps p.tables e below (s₁.setTop (mkF m 36 #[.val (.int p1)] [])) t
          refine XS.iloadN X0.here hx rfl (hb hby d3_36) rfl ?_
          show Steps p.tables e below (s₁.setTop (mkF m 37 #[.val (.int p1)] [(.int p1)])) t
          refine XS.sipush X0.here hx rfl (hb hby d3_37) ?_
          exact ht
        by_cases h6 : p1 = (8233 : Int32)
        · have k21 : Kt p e below m (s₁.setTop (entryFrame m #[(.int p1)] 1)) s₁ 44 #[.val (.int p1)] [(.int (1 : Int32))] := by
            intro t ht
            refine k20 t ?_
            show Steps p.tables e below (s₁.setTop (mkF m 40 #[.val (.int p1)] [(.int (8233 : Int32)), (.int p1)])) t
            refine XS.icmpNo X0.here hx rfl (hb hby d3_40) rfl (teq h6).2 ?_
            show Steps p.tables e below (s₁.setTop (mkF m 43 #[.val (.int p1)] [])) t
            refine XS.iconst X0.here hx rfl (hb hby d3_43) ?_
            exact ht
          obtain ⟨fs, hr, hrun, hended, hW, hsame⟩ := X0.leave (v := some (.int (1 : Int32))) (fun h => by rw [Bd.returns] at h; cases h)
          refine ⟨_, _, k21 _ ?_, hrun, hended, _, _, rfl, ?_, ⟨_, rfl⟩, hW, hsame.mono (by decide) (by decide)⟩
          · exact retN X0 hx (t := .boolean) Bd.returns (by simp) (hb hby d3_44) hr
          · show Q3 Z p1 h0 n0 _ s₁.heap _
            rw [e0]
            exact ⟨congrArg (fun z => some (Value.int z)) (own_b1 (by simp only [own_lt, own_eq, own_0, own_31, own_127, own_159, own_8232, own_8233, own_ctl, own_iso] at h1 h3 h5 h6 ⊢; omega)), N0, rfl⟩
        · have k22 : Kt p e below m (s₁.setTop (entryFrame m #[(.int p1)] 1)) s₁ 46 #[.val (.int p1)] [(.int (0 : Int32))] := by
            intro t ht
            refine k20 t ?_
            show Steps p.tables e below (s₁.setTop (mkF m 40 #[.val (.int p1)] [(.int (8233 : Int32)), (.int p1)])) t
            refine XS.icmpYes X0.here hx rfl (pc0 := 40) (pc' := 45) rfl (hb hby d3_40) rfl (feq h6).2 (by decide) (by decide) ?_
            show Steps p.tables e below (s₁.setTop (mkF m 45 #[.val (.int p1)] [])) t
            refine XS.iconst X0.here hx rfl (hb hby d3_45) ?_
            exact ht
          obtain ⟨fs, hr, hrun, hended, hW, hsame⟩ := X0.leave (v := some (.int (0 : Int32))) (fun h => by rw [Bd.returns] at h; cases h)
          refine ⟨_, _, k22 _ ?_, hrun, hended, _, _, rfl, ?_, ⟨_, rfl⟩, hW, hsame.mono (by decide) (by decide)⟩
          · exact retN X0 hx (t := .boolean) Bd.returns (by simp) (hb hby d3_46) hr
          · show Q3 Z p1 h0 n0 _ s₁.heap _
            rw [e0]
            exact ⟨congrArg (fun z => some (Value.int z)) (own_b0 (by simp only [own_lt, own_eq, own_0, own_31, own_127, own_159, own_8232, own_8233, own_ctl, own_iso] at h1 h3 h5 h6 ⊢; omega)), N0, rfl⟩
    · have k23 : Kt p e below m (s₁.setTop (entryFrame m #[(.int p1)] 1)) s₁ 22 #[.val (.int p1)] [(.int (159 : Int32)), (.int p1)] := by
        intro t ht
        refine k17 t ?_
        show Steps p.tables e below (s₁.setTop (mkF m 15 #[.val (.int p1)] [(.int (127 : Int32)), (.int p1)])) t
        refine XS.icmpNo X0.here hx rfl (hb hby d3_15) rfl (flt h3).1 ?_
        show Steps p.tables e below (s₁.setTop (mkF m 18 #[.val (.int p1)] [])) t
        refine XS.iloadN X0.here hx rfl (hb hby d3_18) rfl ?_
        show Steps p.tables e below (s₁.setTop (mkF m 19 #[.val (.int p1)] [(.int p1)])) t
        refine XS.sipush X0.here hx rfl (hb hby d3_19) ?_
        exact ht
      by_cases h4 : (159 : Int32) < p1
      · have k24 : Kt p e below m (s₁.setTop (entryFrame m #[(.int p1)] 1)) s₁ 31 #[.val (.int p1)] [(.int (8232 : Int32)), (.int p1)] := by
          intro t ht
          refine k23 t ?_
          show Steps p.tables e below (s₁.setTop (mkF m 22 #[.val (.int p1)] [(.int (159 : Int32)), (.int p1)])) t
          refine XS.icmpYes X0.here hx rfl (pc0 := 22) (pc' := 27) rfl (hb hby d3_22) rfl (tlt h4).2.2.1 (by decide) (by decide) ?_
          show Steps p.tables e below (s₁.setTop (mkF m 27 #[.val (.int p1)] [])) t
          refine XS.iloadN X0.here hx rfl (hb hby d3_27) rfl ?_
          show Steps p.tables e below (s₁.setTop (mkF m 28 #[.val (.int p1)] [(.int p1)])) t
          refine XS.sipush X0.here hx rfl (hb hby d3_28) ?_
          exact ht
        by_cases h5 : p1 = (8232 : Int32)
        · have k25 : Kt p e below m (s₁.setTop (entryFrame m #[(.int p1)] 1)) s₁ 35 #[.val (.int p1)] [(.int (1 : Int32))] := by
            intro t ht
            refine k24 t ?_
            show Steps p.tables e below (s₁.setTop (mkF m 31 #[.val (.int p1)] [(.int (8232 : Int32)), (.int p1)])) t
            refine XS.icmpNo X0.here hx rfl (hb hby d3_31) rfl (teq h5).2 ?_
            show Steps p.tables e below (s₁.setTop (mkF m 34 #[.val (.int p1)] [])) t
            refine XS.iconst X0.here hx rfl (hb hby d3_34) ?_
            exact ht
          obtain ⟨fs, hr, hrun, hended, hW, hsame⟩ := X0.leave (v := some (.int (1 : Int32))) (fun h => by rw [Bd.returns] at h; cases h)
          refine ⟨_, _, k25 _ ?_, hrun, hended, _, _, rfl, ?_, ⟨_, rfl⟩, hW, hsame.mono (by decide) (by decide)⟩
          · exact retN X0 hx (t := .boolean) Bd.returns (by simp) (hb hby d3_35) hr
          · show Q3 Z p1 h0 n0 _ s₁.heap _
            rw [e0]
            exact ⟨congrArg (fun z => some (Value.int z)) (own_b1 (by simp only [own_lt, own_eq, own_0, own_31, own_127, own_159, own_8232, own_8233, own_ctl, own_iso] at h1 h3 h4 h5 ⊢; omega)), N0, rfl⟩
        · have k26 : Kt p e below m (s₁.setTop (entryFrame m #[(.int p1)] 1)) s₁ 40 #[.val (.int p1)] [(.int (8233 : Int32)), (.int p1)] := by
            intro t ht
            refine k24 t ?_
            show Steps p.tables e below (s₁.setTop (mkF m 31 #[.val (.int p1)] [(.int (8232 : Int32)), (.int p1)])) t
            refine XS.icmpYes X0.here hx rfl (pc0 := 31) (pc' := 36) rfl (hb hby d3_31) rfl (feq h5).2 (by decide) (by decide) ?_
            show Steps p.tables e below (s₁.setTop (mkF m 36 #[.val (.int p1)] [])) t
            refine XS.iloadN X0.here hx rfl (hb hby d3_36) rfl ?_
            show Steps p.tables e below (s₁.setTop (mkF m 37 #[.val (.int p1)] [(.int p1)])) t
            refine XS.sipush X0.here hx rfl (hb hby d3_37) ?_
            exact ht
          by_cases h6 : p1 = (8233 : Int32)
          · have k27 : Kt p e below m (s₁.setTop (entryFrame m #[(.int p1)] 1)) s₁ 44 #[.val (.int p1)] [(.int (1 : Int32))] := by
              intro t ht
              refine k26 t ?_
              show Steps p.tables e below (s₁.setTop (mkF m 40 #[.val (.int p1)] [(.int (8233 : Int32)), (.int p1)])) t
              refine XS.icmpNo X0.here hx rfl (hb hby d3_40) rfl (teq h6).2 ?_
              show Steps p.tables e below (s₁.setTop (mkF m 43 #[.val (.int p1)] [])) t
              refine XS.iconst X0.here hx rfl (hb hby d3_43) ?_
              exact ht
            obtain ⟨fs, hr, hrun, hended, hW, hsame⟩ := X0.leave (v := some (.int (1 : Int32))) (fun h => by rw [Bd.returns] at h; cases h)
            refine ⟨_, _, k27 _ ?_, hrun, hended, _, _, rfl, ?_, ⟨_, rfl⟩, hW, hsame.mono (by decide) (by decide)⟩
            · exact retN X0 hx (t := .boolean) Bd.returns (by simp) (hb hby d3_44) hr
            · show Q3 Z p1 h0 n0 _ s₁.heap _
              rw [e0]
              exact ⟨congrArg (fun z => some (Value.int z)) (own_b1 (by simp only [own_lt, own_eq, own_0, own_31, own_127, own_159, own_8232, own_8233, own_ctl, own_iso] at h1 h3 h4 h5 h6 ⊢; omega)), N0, rfl⟩
          · have k28 : Kt p e below m (s₁.setTop (entryFrame m #[(.int p1)] 1)) s₁ 46 #[.val (.int p1)] [(.int (0 : Int32))] := by
              intro t ht
              refine k26 t ?_
              show Steps p.tables e below (s₁.setTop (mkF m 40 #[.val (.int p1)] [(.int (8233 : Int32)), (.int p1)])) t
              refine XS.icmpYes X0.here hx rfl (pc0 := 40) (pc' := 45) rfl (hb hby d3_40) rfl (feq h6).2 (by decide) (by decide) ?_
              show Steps p.tables e below (s₁.setTop (mkF m 45 #[.val (.int p1)] [])) t
              refine XS.iconst X0.here hx rfl (hb hby d3_45) ?_
              exact ht
            obtain ⟨fs, hr, hrun, hended, hW, hsame⟩ := X0.leave (v := some (.int (0 : Int32))) (fun h => by rw [Bd.returns] at h; cases h)
            refine ⟨_, _, k28 _ ?_, hrun, hended, _, _, rfl, ?_, ⟨_, rfl⟩, hW, hsame.mono (by decide) (by decide)⟩
            · exact retN X0 hx (t := .boolean) Bd.returns (by simp) (hb hby d3_46) hr
            · show Q3 Z p1 h0 n0 _ s₁.heap _
              rw [e0]
              exact ⟨congrArg (fun z => some (Value.int z)) (own_b0 (by simp only [own_lt, own_eq, own_0, own_31, own_127, own_159, own_8232, own_8233, own_ctl, own_iso] at h1 h3 h4 h5 h6 ⊢; omega)), N0, rfl⟩
      · have k29 : Kt p e below m (s₁.setTop (entryFrame m #[(.int p1)] 1)) s₁ 26 #[.val (.int p1)] [(.int (1 : Int32))] := by
          intro t ht
          refine k23 t ?_
          show Steps p.tables e below (s₁.setTop (mkF m 22 #[.val (.int p1)] [(.int (159 : Int32)), (.int p1)])) t
          refine XS.icmpNo X0.here hx rfl (hb hby d3_22) rfl (flt h4).2.2.1 ?_
          show Steps p.tables e below (s₁.setTop (mkF m 25 #[.val (.int p1)] [])) t
          refine XS.iconst X0.here hx rfl (hb hby d3_25) ?_
          exact ht
        obtain ⟨fs, hr, hrun, hended, hW, hsame⟩ := X0.leave (v := some (.int (1 : Int32))) (fun h => by rw [Bd.returns] at h; cases h)
        refine ⟨_, _, k29 _ ?_, hrun, hended, _, _, rfl, ?_, ⟨_, rfl⟩, hW, hsame.mono (by decide) (by decide)⟩
        · exact retN X0 hx (t := .boolean) Bd.returns (by simp) (hb hby d3_26) hr
        · show Q3 Z p1 h0 n0 _ s₁.heap _
          rw [e0]
          exact ⟨congrArg (fun z => some (Value.int z)) (own_b1 (by simp only [own_lt, own_eq, own_0, own_31, own_127, own_159, own_8232, own_8233, own_ctl, own_iso] at h1 h3 h4 ⊢; omega)), N0, rfl⟩
  · have k30 : Kt p e below m (s₁.setTop (entryFrame m #[(.int p1)] 1)) s₁ 7 #[.val (.int p1)] [(.int (31 : Int32)), (.int p1)] := by
      intro t ht
      refine k16 t ?_
      show Steps p.tables e below (s₁.setTop (mkF m 1 #[.val (.int p1)] [(.int p1)])) t
      refine XS.ifNo X0.here hx rfl (hb hby d3_1) rfl ((if0 _ _).trans (flt h1).1) ?_
      show Steps p.tables e below (s₁.setTop (mkF m 4 #[.val (.int p1)] [])) t
      refine XS.iloadN X0.here hx rfl (hb hby d3_4) rfl ?_
      show Steps p.tables e below (s₁.setTop (mkF m 5 #[.val (.int p1)] [(.int p1)])) t
      refine XS.bipush X0.here hx rfl (hb hby d3_5) ?_
      exact ht
    by_cases h2 : (31 : Int32) < p1
    · have k31 : Kt p e below m (s₁.setTop (entryFrame m #[(.int p1)] 1)) s₁ 15 #[.val (.int p1)] [(.int (127 : Int32)), (.int p1)] := by
        intro t ht
        refine k30 t ?_
        show Steps p.tables e below (s₁.setTop (mkF m 7 #[.val (.int p1)] [(.int (31 : Int32)), (.int p1)])) t
        refine XS.icmpYes X0.here hx rfl (pc0 := 7) (pc' := 12) rfl (hb hby d3_7) rfl (tlt h2).2.2.1 (by decide) (by decide) ?_
        show Steps p.tables e below (s₁.setTop (mkF m 12 #[.val (.int p1)] [])) t
        refine XS.iloadN X0.here hx rfl (hb hby d3_12) rfl ?_
        show Steps p.tables e below (s₁.setTop (mkF m 13 #[.val (.int p1)] [(.int p1)])) t
        refine XS.bipush X0.here hx rfl (hb hby d3_13) ?_
        exact ht
      by_cases h3 : p1 < (127 : Int32)
      · have k32 : Kt p e below m (s₁.setTop (entryFrame m #[(.int p1)] 1)) s₁ 31 #[.val (.int p1)] [(.int (8232 : Int32)), (.int p1)] := by
          intro t ht
          refine k31 t ?_
          show Steps p.tables e below (s₁.setTop (mkF m 15 #[.val (.int p1)] [(.int (127 : Int32)), (.int p1)])) t
          refine XS.icmpYes X0.here hx rfl (pc0 := 15) (pc' := 27) rfl (hb hby d3_15) rfl (tlt h3).1 (by decide) (by decide) ?_
          show Steps p.tables e below (s₁.setTop (mkF m 27 #[.val (.int p1)] [])) t
          refine XS.iloadN X0.here hx rfl (hb hby d3_27) rfl ?_
          show Steps p.tables e below (s₁.setTop (mkF m 28 #[.val (.int p1)] [(.int p1)])) t
          refine XS.sipush X0.here hx rfl (hb hby d3_28) ?_
          exact ht
        by_cases h5 : p1 = (8232 : Int32)
        · have k33 : Kt p e below m (s₁.setTop (entryFrame m #[(.int p1)] 1)) s₁ 35 #[.val (.int p1)] [(.int (1 : Int32))] := by
            intro t ht
            refine k32 t ?_
            show Steps p.tables e below (s₁.setTop (mkF m 31 #[.val (.int p1)] [(.int (8232 : Int32)), (.int p1)])) t
            refine XS.icmpNo X0.here hx rfl (hb hby d3_31) rfl (teq h5).2 ?_
            show Steps p.tables e below (s₁.setTop (mkF m 34 #[.val (.int p1)] [])) t
            refine XS.iconst X0.here hx rfl (hb hby d3_34) ?_
            exact ht
          obtain ⟨fs, hr, hrun, hended, hW, hsame⟩ := X0.leave (v := some (.int (1 : Int32))) (fun h => by rw [Bd.returns] at h; cases h)
          refine ⟨_, _, k33 _ ?_, hrun, hended, _, _, rfl, ?_, ⟨_, rfl⟩, hW, hsame.mono (by decide) (by decide)⟩
          · exact retN X0 hx (t := .boolean) Bd.returns (by simp) (hb hby d3_35) hr
          · show Q3 Z p1 h0 n0 _ s₁.heap _
            rw [e0]
            exact ⟨congrArg (fun z => some (Value.int z)) (own_b1 (by simp only [own_lt, own_eq, own_0, own_31, own_127, own_159, own_8232, own_8233, own_ctl, own_iso] at h1 h2 h3 h5 ⊢; omega)), N0, rfl⟩
        · have k34 : Kt p e below m (s₁.setTop (entryFrame m #[(.int p1)] 1)) s₁ 40 #[.val (.int p1)] [(.int (8233 : Int32)), (.int p1)] := by
            intro t ht
            refine k32 t ?_
            show Steps p.tables e below (s₁.setTop (mkF m 31 #[.val (.int p1)] [(.int (8232 : Int32)), (.int p1)])) t
            refine XS.icmpYes X0.here hx rfl (pc0 := 31) (pc' := 36) rfl (hb hby d3_31) rfl (feq h5).2 (by decide) (by decide) ?_
            show Steps p.tables e below (s₁.setTop (mkF m 36 #[.val (.int p1)] [])) t
            refine XS.iloadN X0.here hx rfl (hb hby d3_36) rfl ?_
            show Steps p.tables e below (s₁.setTop (mkF m 37 #[.val (.int p1)] [(.int p1)])) t
            refine XS.sipush X0.here hx rfl (hb hby d3_37) ?_
            exact ht
          by_cases h6 : p1 = (8233 : Int32)
          · have k35 : Kt p e below m (s₁.setTop (entryFrame m #[(.int p1)] 1)) s₁ 44 #[.val (.int p1)] [(.int (1 : Int32))] := by
              intro t ht
              refine k34 t ?_
              show Steps p.tables e below (s₁.setTop (mkF m 40 #[.val (.int p1)] [(.int (8233 : Int32)), (.int p1)])) t
              refine XS.icmpNo X0.here hx rfl (hb hby d3_40) rfl (teq h6).2 ?_
              show Steps p.tables e below (s₁.setTop (mkF m 43 #[.val (.int p1)] [])) t
              refine XS.iconst X0.here hx rfl (hb hby d3_43) ?_
              exact ht
            obtain ⟨fs, hr, hrun, hended, hW, hsame⟩ := X0.leave (v := some (.int (1 : Int32))) (fun h => by rw [Bd.returns] at h; cases h)
            refine ⟨_, _, k35 _ ?_, hrun, hended, _, _, rfl, ?_, ⟨_, rfl⟩, hW, hsame.mono (by decide) (by decide)⟩
            · exact retN X0 hx (t := .boolean) Bd.returns (by simp) (hb hby d3_44) hr
            · show Q3 Z p1 h0 n0 _ s₁.heap _
              rw [e0]
              exact ⟨congrArg (fun z => some (Value.int z)) (own_b1 (by simp only [own_lt, own_eq, own_0, own_31, own_127, own_159, own_8232, own_8233, own_ctl, own_iso] at h1 h2 h3 h5 h6 ⊢; omega)), N0, rfl⟩
          · have k36 : Kt p e below m (s₁.setTop (entryFrame m #[(.int p1)] 1)) s₁ 46 #[.val (.int p1)] [(.int (0 : Int32))] := by
              intro t ht
              refine k34 t ?_
              show Steps p.tables e below (s₁.setTop (mkF m 40 #[.val (.int p1)] [(.int (8233 : Int32)), (.int p1)])) t
              refine XS.icmpYes X0.here hx rfl (pc0 := 40) (pc' := 45) rfl (hb hby d3_40) rfl (feq h6).2 (by decide) (by decide) ?_
              show Steps p.tables e below (s₁.setTop (mkF m 45 #[.val (.int p1)] [])) t
              refine XS.iconst X0.here hx rfl (hb hby d3_45) ?_
              exact ht
            obtain ⟨fs, hr, hrun, hended, hW, hsame⟩ := X0.leave (v := some (.int (0 : Int32))) (fun h => by rw [Bd.returns] at h; cases h)
            refine ⟨_, _, k36 _ ?_, hrun, hended, _, _, rfl, ?_, ⟨_, rfl⟩, hW, hsame.mono (by decide) (by decide)⟩
            · exact retN X0 hx (t := .boolean) Bd.returns (by simp) (hb hby d3_46) hr
            · show Q3 Z p1 h0 n0 _ s₁.heap _
              rw [e0]
              exact ⟨congrArg (fun z => some (Value.int z)) (own_b0 (by simp only [own_lt, own_eq, own_0, own_31, own_127, own_159, own_8232, own_8233, own_ctl, own_iso] at h1 h2 h3 h5 h6 ⊢; omega)), N0, rfl⟩
      · have k37 : Kt p e below m (s₁.setTop (entryFrame m #[(.int p1)] 1)) s₁ 22 #[.val (.int p1)] [(.int (159 : Int32)), (.int p1)] := by
          intro t ht
          refine k31 t ?_
          show Steps p.tables e below (s₁.setTop (mkF m 15 #[.val (.int p1)] [(.int (127 : Int32)), (.int p1)])) t
          refine XS.icmpNo X0.here hx rfl (hb hby d3_15) rfl (flt h3).1 ?_
          show Steps p.tables e below (s₁.setTop (mkF m 18 #[.val (.int p1)] [])) t
          refine XS.iloadN X0.here hx rfl (hb hby d3_18) rfl ?_
          show Steps p.tables e below (s₁.setTop (mkF m 19 #[.val (.int p1)] [(.int p1)])) t
          refine XS.sipush X0.here hx rfl (hb hby d3_19) ?_
          exact ht
        by_cases h4 : (159 : Int32) < p1
        · have k38 : Kt p e below m (s₁.setTop (entryFrame m #[(.int p1)] 1)) s₁ 31 #[.val (.int p1)] [(.int (8232 : Int32)), (.int p1)] := by
            intro t ht
            refine k37 t ?_
            show Steps p.tables e below (s₁.setTop (mkF m 22 #[.val (.int p1)] [(.int (159 : Int32)), (.int p1)])) t
            refine XS.icmpYes X0.here hx rfl (pc0 := 22) (pc' := 27) rfl (hb hby d3_22) rfl (tlt h4).2.2.1 (by decide) (by decide) ?_
            show Steps p.tables e below (s₁.setTop (mkF m 27 #[.val (.int p1)] [])) t
            refine XS.iloadN X0.here hx rfl (hb hby d3_27) rfl ?_
            show Steps p.tables e below (s₁.setTop (mkF m 28 #[.val (.int p1)] [(.int p1)])) t
            refine XS.sipush X0.here hx rfl (hb hby d3_28) ?_
            exact ht
          by_cases h5 : p1 = (8232 : Int32)
          · have k39 : Kt p e below m (s₁.setTop (entryFrame m #[(.int p1)] 1)) s₁ 35 #[.val (.int p1)] [(.int (1 : Int32))] := by
              intro t ht
              refine k38 t ?_
              show Steps p.tables e below (s₁.setTop (mkF m 31 #[.val (.int p1)] [(.int (8232 : Int32)), (.int p1)])) t
              refine XS.icmpNo X0.here hx rfl (hb hby d3_31) rfl (teq h5).2 ?_
              show Steps p.tables e below (s₁.setTop (mkF m 34 #[.val (.int p1)] [])) t
              refine XS.iconst X0.here hx rfl (hb hby d3_34) ?_
              exact ht
            obtain ⟨fs, hr, hrun, hended, hW, hsame⟩ := X0.leave (v := some (.int (1 : Int32))) (fun h => by rw [Bd.returns] at h; cases h)
            refine ⟨_, _, k39 _ ?_, hrun, hended, _, _, rfl, ?_, ⟨_, rfl⟩, hW, hsame.mono (by decide) (by decide)⟩
            · exact retN X0 hx (t := .boolean) Bd.returns (by simp) (hb hby d3_35) hr
            · show Q3 Z p1 h0 n0 _ s₁.heap _
              rw [e0]
              exact ⟨congrArg (fun z => some (Value.int z)) (own_b1 (by simp only [own_lt, own_eq, own_0, own_31, own_127, own_159, own_8232, own_8233, own_ctl, own_iso] at h1 h2 h3 h4 h5 ⊢; omega)), N0, rfl⟩
          · have k40 : Kt p e below m (s₁.setTop (entryFrame m #[(.int p1)] 1)) s₁ 40 #[.val (.int p1)] [(.int (8233 : Int32)), (.int p1)] := by
              intro t ht
              refine k38 t ?_
              show Steps p.tables e below (s₁.setTop (mkF m 31 #[.val (.int p1)] [(.int (8232 : Int32)), (.int p1)])) t
              refine XS.icmpYes X0.here hx rfl (pc0 := 31) (pc' := 36) rfl (hb hby d3_31) rfl (feq h5).2 (by decide) (by decide) ?_
              show Steps p.tables e below (s₁.setTop (mkF m 36 #[.val (.int p1)] [])) t
              refine XS.iloadN X0.here hx rfl (hb hby d3_36) rfl ?_
              show Steps p.tables e below (s₁.setTop (mkF m 37 #[.val (.int p1)] [(.int p1)])) t
              refine XS.sipush X0.here hx rfl (hb hby d3_37) ?_
              exact ht
            by_cases h6 : p1 = (8233 : Int32)
            · have k41 : Kt p e below m (s₁.setTop (entryFrame m #[(.int p1)] 1)) s₁ 44 #[.val (.int p1)] [(.int (1 : Int32))] := by
                intro t ht
                refine k40 t ?_
                show Steps p.tables e below (s₁.setTop (mkF m 40 #[.val (.int p1)] [(.int (8233 : Int32)), (.int p1)])) t
                refine XS.icmpNo X0.here hx rfl (hb hby d3_40) rfl (teq h6).2 ?_
                show Steps p.tables e below (s₁.setTop (mkF m 43 #[.val (.int p1)] [])) t
                refine XS.iconst X0.here hx rfl (hb hby d3_43) ?_
                exact ht
              obtain ⟨fs, hr, hrun, hended, hW, hsame⟩ := X0.leave (v := some (.int (1 : Int32))) (fun h => by rw [Bd.returns] at h; cases h)
              refine ⟨_, _, k41 _ ?_, hrun, hended, _, _, rfl, ?_, ⟨_, rfl⟩, hW, hsame.mono (by decide) (by decide)⟩
              · exact retN X0 hx (t := .boolean) Bd.returns (by simp) (hb hby d3_44) hr
              · show Q3 Z p1 h0 n0 _ s₁.heap _
                rw [e0]
                exact ⟨congrArg (fun z => some (Value.int z)) (own_b1 (by simp only [own_lt, own_eq, own_0, own_31, own_127, own_159, own_8232, own_8233, own_ctl, own_iso] at h1 h2 h3 h4 h5 h6 ⊢; omega)), N0, rfl⟩
            · have k42 : Kt p e below m (s₁.setTop (entryFrame m #[(.int p1)] 1)) s₁ 46 #[.val (.int p1)] [(.int (0 : Int32))] := by
                intro t ht
                refine k40 t ?_
                show Steps p.tables e below (s₁.setTop (mkF m 40 #[.val (.int p1)] [(.int (8233 : Int32)), (.int p1)])) t
                refine XS.icmpYes X0.here hx rfl (pc0 := 40) (pc' := 45) rfl (hb hby d3_40) rfl (feq h6).2 (by decide) (by decide) ?_
                show Steps p.tables e below (s₁.setTop (mkF m 45 #[.val (.int p1)] [])) t
                refine XS.iconst X0.here hx rfl (hb hby d3_45) ?_
                exact ht
              obtain ⟨fs, hr, hrun, hended, hW, hsame⟩ := X0.leave (v := some (.int (0 : Int32))) (fun h => by rw [Bd.returns] at h; cases h)
              refine ⟨_, _, k42 _ ?_, hrun, hended, _, _, rfl, ?_, ⟨_, rfl⟩, hW, hsame.mono (by decide) (by decide)⟩
              · exact retN X0 hx (t := .boolean) Bd.returns (by simp) (hb hby d3_46) hr
              · show Q3 Z p1 h0 n0 _ s₁.heap _
                rw [e0]
                exact ⟨congrArg (fun z => some (Value.int z)) (own_b0 (by simp only [own_lt, own_eq, own_0, own_31, own_127, own_159, own_8232, own_8233, own_ctl, own_iso] at h1 h2 h3 h4 h5 h6 ⊢; omega)), N0, rfl⟩
        · have k43 : Kt p e below m (s₁.setTop (entryFrame m #[(.int p1)] 1)) s₁ 26 #[.val (.int p1)] [(.int (1 : Int32))] := by
            intro t ht
            refine k37 t ?_
            show Steps p.tables e below (s₁.setTop (mkF m 22 #[.val (.int p1)] [(.int (159 : Int32)), (.int p1)])) t
            refine XS.icmpNo X0.here hx rfl (hb hby d3_22) rfl (flt h4).2.2.1 ?_
            show Steps p.tables e below (s₁.setTop (mkF m 25 #[.val (.int p1)] [])) t
            refine XS.iconst X0.here hx rfl (hb hby d3_25) ?_
            exact ht
          obtain ⟨fs, hr, hrun, hended, hW, hsame⟩ := X0.leave (v := some (.int (1 : Int32))) (fun h => by rw [Bd.returns] at h; cases h)
          refine ⟨_, _, k43 _ ?_, hrun, hended, _, _, rfl, ?_, ⟨_, rfl⟩, hW, hsame.mono (by decide) (by decide)⟩
          · exact retN X0 hx (t := .boolean) Bd.returns (by simp) (hb hby d3_26) hr
          · show Q3 Z p1 h0 n0 _ s₁.heap _
            rw [e0]
            exact ⟨congrArg (fun z => some (Value.int z)) (own_b1 (by simp only [own_lt, own_eq, own_0, own_31, own_127, own_159, own_8232, own_8233, own_ctl, own_iso] at h1 h2 h3 h4 ⊢; omega)), N0, rfl⟩
    · have k44 : Kt p e below m (s₁.setTop (entryFrame m #[(.int p1)] 1)) s₁ 11 #[.val (.int p1)] [(.int (1 : Int32))] := by
        intro t ht
        refine k30 t ?_
        show Steps p.tables e below (s₁.setTop (mkF m 7 #[.val (.int p1)] [(.int (31 : Int32)), (.int p1)])) t
        refine XS.icmpNo X0.here hx rfl (hb hby d3_7) rfl (flt h2).2.2.1 ?_
        show Steps p.tables e below (s₁.setTop (mkF m 10 #[.val (.int p1)] [])) t
        refine XS.iconst X0.here hx rfl (hb hby d3_10) ?_
        exact ht
      obtain ⟨fs, hr, hrun, hended, hW, hsame⟩ := X0.leave (v := some (.int (1 : Int32))) (fun h => by rw [Bd.returns] at h; cases h)
      refine ⟨_, _, k44 _ ?_, hrun, hended, _, _, rfl, ?_, ⟨_, rfl⟩, hW, hsame.mono (by decide) (by decide)⟩
      · exact retN X0 hx (t := .boolean) Bd.returns (by simp) (hb hby d3_11) hr
      · show Q3 Z p1 h0 n0 _ s₁.heap _
        rw [e0]
        exact ⟨congrArg (fun z => some (Value.int z)) (own_b1 (by simp only [own_lt, own_eq, own_0, own_31, own_127, own_159, own_8232, own_8233, own_ctl, own_iso] at h1 h2 ⊢; omega)), N0, rfl⟩
theorem pn0 : plainName "com/example/lockstile/lockstile/namespace/NamesIsControlPinLaw" = true := by first | (simp [plainName, overriddenIn]; done) | decide +kernel
theorem ef0 (m : MethodId) (p1 : Int32) (p2 : Int32) : entryFrame m #[(.int p1), (.int p2)] maxLocals = mkF m 0 #[.val (.int p1), .val (.int p2), .unset, .unset, .unset, .unset] [] := by first | (simp [entryFrame, mkF, argsToLocals, Value.category, maxLocals]; done) | rfl
def Q0 (Z : State) (p1 : Int32) (p2 : Int32) (h0 : Heap) (n0 : Nat) (v : Option Value) (h : Heap) (L : List Loc) : Prop := v = some (.int 1) ∧ Fr n0 L
set_option maxRecDepth 65536 in
set_option maxHeartbeats 40000000 in
theorem rm0 (l : Launch) (Z : State) (a0 : Array Value) (hw : ∀ d ∈ tables_1, d.before a0 Z = true) (ws : List Jvm.Cond) (p1 : Int32) (p2 : Int32) (h0 : Heap) (n0 : Nat) (Z0 : n0 ≤ h0.size)  :
    MetFree l x (head1 (Jvm.Cond.code x code maxLocals ret :: ws) room_1) (fun gs' U => gs' = #[(.int p1), (.int p2)] ∧ Z.Warmed39 U.vm ∧ U.heap = h0) (fun _ _ _ _ _ => True) (fun _ U o U' => ∃ v L, o = .returned v ∧ Q0 Z p1 p2 h0 n0 v U'.heap L ∧ FrameEnd U o U' L room_1.cells room_1.slots) := by
  refine MetFree.of_bodySF (plainFor_of_name pn0) hisR ?_
  intro p e s m args below meth c s₁ Bd hml0 hP hK
  obtain ⟨rfl, hZ, hh⟩ := hP
  have hx := Bd.exec
  have hby := Bd.bytes
  have hml : c.maxLocals = 6 := hml0
  have hown : s.vm.findClass "com/example/lockstile/lockstile/namespace/NamesIsControlPinLaw" = some m.cls := findClass_of_methodNamed Bd.named
  have hnm := (name_of_methodNamed Bd.named Bd.method).1
  have X0 : Stand p l e room_1 s m #[(.int p1), (.int p2)] below meth c s₁ [] 0 0 := Stand.of_body Bd
  have e0 : s₁.heap = h0 := by rw [← hh, Bd.state]; rfl
  have N0 := Fr.nil n0
  have k0 : Kt p e below m (s₁.setTop (entryFrame m #[(.int p1), (.int p2)] maxLocals)) s₁ 0 #[.val (.int p1), .val (.int p2), .unset, .unset, .unset, .unset] [] := fun t ht => castTop (ef0 m p1 p2) ht
  have k45 : Kt p e below m (s₁.setTop (entryFrame m #[(.int p1), (.int p2)] maxLocals)) s₁ 2 #[.val (.int p1), .val (.int p2), .unset, .unset, .unset, .unset] [(.int (8 : Int32))] := by
    intro t ht
    refine k0 t ?_
    show Steps p.tables e below (s₁.setTop (mkF m 0 #[.val (.int p1), .val (.int p2), .unset, .unset, .unset, .unset] [])) t
    refine XS.bipush X0.here hx rfl (hb hby at_0) ?_
    exact ht
  obtain ⟨T46, h46, ak46, X46, e46, E46, A46, st46⟩ := newP X0 hx hZ (hw _ (List.mem_of_getElem? (i := 0) rfl)) e0 (g := (mkF m 2 #[.val (.int p1), .val (.int p2), .unset, .unset, .unset, .unset] [(.int (8 : Int32))])) rfl (hb hby at_2) rfl (by decide) (cap := 8) (by decide) (by decide) (by decide) (by decide)
  obtain ⟨arr, q46⟩ : ∃ z, z = h0.size := ⟨_, rfl⟩
  have g_arr : n0 ≤ arr := by rw [q46]; exact Z0
  rw [← q46] at A46 st46
  have f47 : n0 ≤ h46.size := Nat.le_trans Z0 E46.1
  have f46 : Arv Z h46 arr ak46 .int (8 : Int32) [(.int (0 : Int32)), (.int (0 : Int32)), (.int (0 : Int32)), (.int (0 : Int32)), (.int (0 : Int32)), (.int (0 : Int32)), (.int (0 : Int32)), (.int (0 : Int32))] (.int (0 : Int32)) := (Arv.new A46 (by decide)).pad (pad_rep [] (.int (0 : Int32)) 8)
  have k46 : Kt p e below m (s₁.setTop (entryFrame m #[(.int p1), (.int p2)] maxLocals)) T46 4 #[.val (.int p1), .val (.int p2), .unset, .unset, .unset, .unset] [(.ref arr)] := fun t ht => k45 t (st46 t ht)
  have k48 : Kt p e below m (s₁.setTop (entryFrame m #[(.int p1), (.int p2)] maxLocals)) T46 7 #[.val (.int p1), .val (.int p2), .unset, .unset, .unset, .unset] [(.int (0 : Int32)), (.int (0 : Int32)), (.ref arr), (.ref arr)] := by
    intro t ht
    refine k46 t ?_
    show Steps p.tables e below (T46.setTop (mkF m 4 #[.val (.int p1), .val (.int p2), .unset, .unset, .unset, .unset] [(.ref arr)])) t
    refine XS.dup X46.here hx rfl (hb hby at_4) rfl rfl ?_
    show Steps p.tables e below (T46.setTop (mkF m 5 #[.val (.int p1), .val (.int p2), .unset, .unset, .unset, .unset] [(.ref arr), (.ref arr)])) t
    refine XS.iconst X46.here hx rfl (hb hby at_5) ?_
    show Steps p.tables e below (T46.setTop (mkF m 6 #[.val (.int p1), .val (.int p2), .unset, .unset, .unset, .unset] [(.int (0 : Int32)), (.ref arr), (.ref arr)])) t
    refine XS.iconst X46.here hx rfl (hb hby at_6) ?_
    exact ht
  obtain ⟨cl49, Ar49, qc49, Sz49, Nn49, Hh49, Gg49⟩ := id f46
  have hin49 : ¬ ((0 : Int32) < 0 ∨ cl49.slots.size ≤ ((0 : Int32)).toNatClampNeg) := inb_of Sz49 ⟨by decide, by decide⟩
  obtain ⟨T49, h49, X49, e49, W49, st49⟩ := stI X46 hx hZ e46 Ar49 (j := (0 : Int32)) hin49 (g := (mkF m 7 #[.val (.int p1), .val (.int p2), .unset, .unset, .unset, .unset] [(.int (0 : Int32)), (.int (0 : Int32)), (.ref arr), (.ref arr)])) rfl rfl (hb hby at_7)
  have N49 := Fr.snoc X49 N0 g_arr
  have f50 : n0 ≤ h49.size := Nat.le_trans f47 (Keep.of_wr W49).1
  have f51 : Arv Z h49 arr ak46 .int (8 : Int32) [(.int (0 : Int32)), (.int (0 : Int32)), (.int (0 : Int32)), (.int (0 : Int32)), (.int (0 : Int32)), (.int (0 : Int32)), (.int (0 : Int32)), (.int (0 : Int32))] (.int (0 : Int32)) := Arv.set Ar49 qc49 Sz49 Nn49 Hh49 Gg49 rfl W49 0 rfl (Nat.le_of_ble_eq_true rfl)
  have k49 : Kt p e below m (s₁.setTop (entryFrame m #[(.int p1), (.int p2)] maxLocals)) T49 8 #[.val (.int p1), .val (.int p2), .unset, .unset, .unset, .unset] [(.ref arr)] := fun t ht => k48 t (st49 t ht)
  have k52 : Kt p e below m (s₁.setTop (entryFrame m #[(.int p1), (.int p2)] maxLocals)) T49 12 #[.val (.int p1), .val (.int p2), .unset, .unset, .unset, .unset] [(.int (31 : Int32)), (.int (1 : Int32)), (.ref arr), (.ref arr)] := by
    intro t ht
    refine k49 t ?_
    show Steps p.tables e below (T49.setTop (mkF m 8 #[.val (.int p1), .val (.int p2), .unset, .unset, .unset, .unset] [(.ref arr)])) t
    refine XS.dup X49.here hx rfl (hb hby at_8) rfl rfl ?_
    show Steps p.tables e below (T49.setTop (mkF m 9 #[.val (.int p1), .val (.int p2), .unset, .unset, .unset, .unset] [(.ref arr), (.ref arr)])) t
    refine XS.iconst X49.here hx rfl (hb hby at_9) ?_
    show Steps p.tables e below (T49.setTop (mkF m 10 #[.val (.int p1), .val (.int p2), .unset, .unset, .unset, .unset] [(.int (1 : Int32)), (.ref arr), (.ref arr)])) t
    refine XS.bipush X49.here hx rfl (hb hby at_10) ?_
    exact ht
  obtain ⟨cl53, Ar53, qc53, Sz53, Nn53, Hh53, Gg53⟩ := id f51
  have hin53 : ¬ ((1 : Int32) < 0 ∨ cl53.slots.size ≤ ((1 : Int32)).toNatClampNeg) := inb_of Sz53 ⟨by decide, by decide⟩
  obtain ⟨T53, h53, X53, e53, W53, st53⟩ := stI X49 hx hZ e49 Ar53 (j := (1 : Int32)) hin53 (g := (mkF m 12 #[.val (.int p1), .val (.int p2), .unset, .unset, .unset, .unset] [(.int (31 : Int32)), (.int (1 : Int32)), (.ref arr), (.ref arr)])) rfl rfl (hb hby at_12)
  have N53 := Fr.snoc X53 N49 g_arr
  have f54 : n0 ≤ h53.size := Nat.le_trans f50 (Keep.of_wr W53).1
  have f55 : Arv Z h53 arr ak46 .int (8 : Int32) [(.int (0 : Int32)), (.int (31 : Int32)), (.int (0 : Int32)), (.int (0 : Int32)), (.int (0 : Int32)), (.int (0 : Int32)), (.int (0 : Int32)), (.int (0 : Int32))] (.int (0 : Int32)) := Arv.set Ar53 qc53 Sz53 Nn53 Hh53 Gg53 rfl W53 1 rfl (Nat.le_of_ble_eq_true rfl)
  have k53 : Kt p e below m (s₁.setTop (entryFrame m #[(.int p1), (.int p2)] maxLocals)) T53 13 #[.val (.int p1), .val (.int p2), .unset, .unset, .unset, .unset] [(.ref arr)] := fun t ht => k52 t (st53 t ht)
  have k56 : Kt p e below m (s₁.setTop (entryFrame m #[(.int p1), (.int p2)] maxLocals)) T53 17 #[.val (.int p1), .val (.int p2), .unset, .unset, .unset, .unset] [(.int (127 : Int32)), (.int (2 : Int32)), (.ref arr), (.ref arr)] := by
    intro t ht
    refine k53 t ?_
    show Steps p.tables e below (T53.setTop (mkF m 13 #[.val (.int p1), .val (.int p2), .unset, .unset, .unset, .unset] [(.ref arr)])) t
    refine XS.dup X53.here hx rfl (hb hby at_13) rfl rfl ?_
    show Steps p.tables e below (T53.setTop (mkF m 14 #[.val (.int p1), .val (.int p2), .unset, .unset, .unset, .unset] [(.ref arr), (.ref arr)])) t
    refine XS.iconst X53.here hx rfl (hb hby at_14) ?_
    show Steps p.tables e below (T53.setTop (mkF m 15 #[.val (.int p1), .val (.int p2), .unset, .unset, .unset, .unset] [(.int (2 : Int32)), (.ref arr), (.ref arr)])) t
    refine XS.bipush X53.here hx rfl (hb hby at_15) ?_
    exact ht
  obtain ⟨cl57, Ar57, qc57, Sz57, Nn57, Hh57, Gg57⟩ := id f55
  have hin57 : ¬ ((2 : Int32) < 0 ∨ cl57.slots.size ≤ ((2 : Int32)).toNatClampNeg) := inb_of Sz57 ⟨by decide, by decide⟩
  obtain ⟨T57, h57, X57, e57, W57, st57⟩ := stI X53 hx hZ e53 Ar57 (j := (2 : Int32)) hin57 (g := (mkF m 17 #[.val (.int p1), .val (.int p2), .unset, .unset, .unset, .unset] [(.int (127 : Int32)), (.int (2 : Int32)), (.ref arr), (.ref arr)])) rfl rfl (hb hby at_17)
  have N57 := Fr.snoc X57 N53 g_arr
  have f58 : n0 ≤ h57.size := Nat.le_trans f54 (Keep.of_wr W57).1
  have f59 : Arv Z h57 arr ak46 .int (8 : Int32) [(.int (0 : Int32)), (.int (31 : Int32)), (.int (127 : Int32)), (.int (0 : Int32)), (.int (0 : Int32)), (.int (0 : Int32)), (.int (0 : Int32)), (.int (0 : Int32))] (.int (0 : Int32)) := Arv.set Ar57 qc57 Sz57 Nn57 Hh57 Gg57 rfl W57 2 rfl (Nat.le_of_ble_eq_true rfl)
  have k57 : Kt p e below m (s₁.setTop (entryFrame m #[(.int p1), (.int p2)] maxLocals)) T57 18 #[.val (.int p1), .val (.int p2), .unset, .unset, .unset, .unset] [(.ref arr)] := fun t ht => k56 t (st57 t ht)
  have k60 : Kt p e below m (s₁.setTop (entryFrame m #[(.int p1), (.int p2)] maxLocals)) T57 23 #[.val (.int p1), .val (.int p2), .unset, .unset, .unset, .unset] [(.int (159 : Int32)), (.int (3 : Int32)), (.ref arr), (.ref arr)] := by
    intro t ht
    refine k57 t ?_
    show Steps p.tables e below (T57.setTop (mkF m 18 #[.val (.int p1), .val (.int p2), .unset, .unset, .unset, .unset] [(.ref arr)])) t
    refine XS.dup X57.here hx rfl (hb hby at_18) rfl rfl ?_
    show Steps p.tables e below (T57.setTop (mkF m 19 #[.val (.int p1), .val (.int p2), .unset, .unset, .unset, .unset] [(.ref arr), (.ref arr)])) t
    refine XS.iconst X57.here hx rfl (hb hby at_19) ?_
    show Steps p.tables e below (T57.setTop (mkF m 20 #[.val (.int p1), .val (.int p2), .unset, .unset, .unset, .unset] [(.int (3 : Int32)), (.ref arr), (.ref arr)])) t
    refine XS.sipush X57.here hx rfl (hb hby at_20) ?_
    exact ht
  obtain ⟨cl61, Ar61, qc61, Sz61, Nn61, Hh61, Gg61⟩ := id f59
  have hin61 : ¬ ((3 : Int32) < 0 ∨ cl61.slots.size ≤ ((3 : Int32)).toNatClampNeg) := inb_of Sz61 ⟨by decide, by decide⟩
  obtain ⟨T61, h61, X61, e61, W61, st61⟩ := stI X57 hx hZ e57 Ar61 (j := (3 : Int32)) hin61 (g := (mkF m 23 #[.val (.int p1), .val (.int p2), .unset, .unset, .unset, .unset] [(.int (159 : Int32)), (.int (3 : Int32)), (.ref arr), (.ref arr)])) rfl rfl (hb hby at_23)
  have N61 := Fr.snoc X61 N57 g_arr
  have f62 : n0 ≤ h61.size := Nat.le_trans f58 (Keep.of_wr W61).1
  have f63 : Arv Z h61 arr ak46 .int (8 : Int32) [(.int (0 : Int32)), (.int (31 : Int32)), (.int (127 : Int32)), (.int (159 : Int32)), (.int (0 : Int32)), (.int (0 : Int32)), (.int (0 : Int32)), (.int (0 : Int32))] (.int (0 : Int32)) := Arv.set Ar61 qc61 Sz61 Nn61 Hh61 Gg61 rfl W61 3 rfl (Nat.le_of_ble_eq_true rfl)
  have k61 : Kt p e below m (s₁.setTop (entryFrame m #[(.int p1), (.int p2)] maxLocals)) T61 24 #[.val (.int p1), .val (.int p2), .unset, .unset, .unset, .unset] [(.ref arr)] := fun t ht => k60 t (st61 t ht)
  have k64 : Kt p e below m (s₁.setTop (entryFrame m #[(.int p1), (.int p2)] maxLocals)) T61 29 #[.val (.int p1), .val (.int p2), .unset, .unset, .unset, .unset] [(.int (8232 : Int32)), (.int (4 : Int32)), (.ref arr), (.ref arr)] := by
    intro t ht
    refine k61 t ?_
    show Steps p.tables e below (T61.setTop (mkF m 24 #[.val (.int p1), .val (.int p2), .unset, .unset, .unset, .unset] [(.ref arr)])) t
    refine XS.dup X61.here hx rfl (hb hby at_24) rfl rfl ?_
    show Steps p.tables e below (T61.setTop (mkF m 25 #[.val (.int p1), .val (.int p2), .unset, .unset, .unset, .unset] [(.ref arr), (.ref arr)])) t
    refine XS.iconst X61.here hx rfl (hb hby at_25) ?_
    show Steps p.tables e below (T61.setTop (mkF m 26 #[.val (.int p1), .val (.int p2), .unset, .unset, .unset, .unset] [(.int (4 : Int32)), (.ref arr), (.ref arr)])) t
    refine XS.sipush X61.here hx rfl (hb hby at_26) ?_
    exact ht
  obtain ⟨cl65, Ar65, qc65, Sz65, Nn65, Hh65, Gg65⟩ := id f63
  have hin65 : ¬ ((4 : Int32) < 0 ∨ cl65.slots.size ≤ ((4 : Int32)).toNatClampNeg) := inb_of Sz65 ⟨by decide, by decide⟩
  obtain ⟨T65, h65, X65, e65, W65, st65⟩ := stI X61 hx hZ e61 Ar65 (j := (4 : Int32)) hin65 (g := (mkF m 29 #[.val (.int p1), .val (.int p2), .unset, .unset, .unset, .unset] [(.int (8232 : Int32)), (.int (4 : Int32)), (.ref arr), (.ref arr)])) rfl rfl (hb hby at_29)
  have N65 := Fr.snoc X65 N61 g_arr
  have f66 : n0 ≤ h65.size := Nat.le_trans f62 (Keep.of_wr W65).1
  have f67 : Arv Z h65 arr ak46 .int (8 : Int32) [(.int (0 : Int32)), (.int (31 : Int32)), (.int (127 : Int32)), (.int (159 : Int32)), (.int (8232 : Int32)), (.int (0 : Int32)), (.int (0 : Int32)), (.int (0 : Int32))] (.int (0 : Int32)) := Arv.set Ar65 qc65 Sz65 Nn65 Hh65 Gg65 rfl W65 4 rfl (Nat.le_of_ble_eq_true rfl)
  have k65 : Kt p e below m (s₁.setTop (entryFrame m #[(.int p1), (.int p2)] maxLocals)) T65 30 #[.val (.int p1), .val (.int p2), .unset, .unset, .unset, .unset] [(.ref arr)] := fun t ht => k64 t (st65 t ht)
  have k68 : Kt p e below m (s₁.setTop (entryFrame m #[(.int p1), (.int p2)] maxLocals)) T65 35 #[.val (.int p1), .val (.int p2), .unset, .unset, .unset, .unset] [(.int (8233 : Int32)), (.int (5 : Int32)), (.ref arr), (.ref arr)] := by
    intro t ht
    refine k65 t ?_
    show Steps p.tables e below (T65.setTop (mkF m 30 #[.val (.int p1), .val (.int p2), .unset, .unset, .unset, .unset] [(.ref arr)])) t
    refine XS.dup X65.here hx rfl (hb hby at_30) rfl rfl ?_
    show Steps p.tables e below (T65.setTop (mkF m 31 #[.val (.int p1), .val (.int p2), .unset, .unset, .unset, .unset] [(.ref arr), (.ref arr)])) t
    refine XS.iconst X65.here hx rfl (hb hby at_31) ?_
    show Steps p.tables e below (T65.setTop (mkF m 32 #[.val (.int p1), .val (.int p2), .unset, .unset, .unset, .unset] [(.int (5 : Int32)), (.ref arr), (.ref arr)])) t
    refine XS.sipush X65.here hx rfl (hb hby at_32) ?_
    exact ht
  obtain ⟨cl69, Ar69, qc69, Sz69, Nn69, Hh69, Gg69⟩ := id f67
  have hin69 : ¬ ((5 : Int32) < 0 ∨ cl69.slots.size ≤ ((5 : Int32)).toNatClampNeg) := inb_of Sz69 ⟨by decide, by decide⟩
  obtain ⟨T69, h69, X69, e69, W69, st69⟩ := stI X65 hx hZ e65 Ar69 (j := (5 : Int32)) hin69 (g := (mkF m 35 #[.val (.int p1), .val (.int p2), .unset, .unset, .unset, .unset] [(.int (8233 : Int32)), (.int (5 : Int32)), (.ref arr), (.ref arr)])) rfl rfl (hb hby at_35)
  have N69 := Fr.snoc X69 N65 g_arr
  have f70 : n0 ≤ h69.size := Nat.le_trans f66 (Keep.of_wr W69).1
  have f71 : Arv Z h69 arr ak46 .int (8 : Int32) [(.int (0 : Int32)), (.int (31 : Int32)), (.int (127 : Int32)), (.int (159 : Int32)), (.int (8232 : Int32)), (.int (8233 : Int32)), (.int (0 : Int32)), (.int (0 : Int32))] (.int (0 : Int32)) := Arv.set Ar69 qc69 Sz69 Nn69 Hh69 Gg69 rfl W69 5 rfl (Nat.le_of_ble_eq_true rfl)
  have k69 : Kt p e below m (s₁.setTop (entryFrame m #[(.int p1), (.int p2)] maxLocals)) T69 36 #[.val (.int p1), .val (.int p2), .unset, .unset, .unset, .unset] [(.ref arr)] := fun t ht => k68 t (st69 t ht)
  have k72 : Kt p e below m (s₁.setTop (entryFrame m #[(.int p1), (.int p2)] maxLocals)) T69 42 #[.val (.int p1), .val (.int p2), .unset, .unset, .unset, .unset] [(.int (133 : Int32)), (.int (6 : Int32)), (.ref arr), (.ref arr)] := by
    intro t ht
    refine k69 t ?_
    show Steps p.tables e below (T69.setTop (mkF m 36 #[.val (.int p1), .val (.int p2), .unset, .unset, .unset, .unset] [(.ref arr)])) t
    refine XS.dup X69.here hx rfl (hb hby at_36) rfl rfl ?_
    show Steps p.tables e below (T69.setTop (mkF m 37 #[.val (.int p1), .val (.int p2), .unset, .unset, .unset, .unset] [(.ref arr), (.ref arr)])) t
    refine XS.bipush X69.here hx rfl (hb hby at_37) ?_
    show Steps p.tables e below (T69.setTop (mkF m 39 #[.val (.int p1), .val (.int p2), .unset, .unset, .unset, .unset] [(.int (6 : Int32)), (.ref arr), (.ref arr)])) t
    refine XS.sipush X69.here hx rfl (hb hby at_39) ?_
    exact ht
  obtain ⟨cl73, Ar73, qc73, Sz73, Nn73, Hh73, Gg73⟩ := id f71
  have hin73 : ¬ ((6 : Int32) < 0 ∨ cl73.slots.size ≤ ((6 : Int32)).toNatClampNeg) := inb_of Sz73 ⟨by decide, by decide⟩
  obtain ⟨T73, h73, X73, e73, W73, st73⟩ := stI X69 hx hZ e69 Ar73 (j := (6 : Int32)) hin73 (g := (mkF m 42 #[.val (.int p1), .val (.int p2), .unset, .unset, .unset, .unset] [(.int (133 : Int32)), (.int (6 : Int32)), (.ref arr), (.ref arr)])) rfl rfl (hb hby at_42)
  have N73 := Fr.snoc X73 N69 g_arr
  have f74 : n0 ≤ h73.size := Nat.le_trans f70 (Keep.of_wr W73).1
  have f75 : Arv Z h73 arr ak46 .int (8 : Int32) [(.int (0 : Int32)), (.int (31 : Int32)), (.int (127 : Int32)), (.int (159 : Int32)), (.int (8232 : Int32)), (.int (8233 : Int32)), (.int (133 : Int32)), (.int (0 : Int32))] (.int (0 : Int32)) := Arv.set Ar73 qc73 Sz73 Nn73 Hh73 Gg73 rfl W73 6 rfl (Nat.le_of_ble_eq_true rfl)
  have k73 : Kt p e below m (s₁.setTop (entryFrame m #[(.int p1), (.int p2)] maxLocals)) T73 43 #[.val (.int p1), .val (.int p2), .unset, .unset, .unset, .unset] [(.ref arr)] := fun t ht => k72 t (st73 t ht)
  have k76 : Kt p e below m (s₁.setTop (entryFrame m #[(.int p1), (.int p2)] maxLocals)) T73 48 #[.val (.int p1), .val (.int p2), .unset, .unset, .unset, .unset] [(.int (-2147483648 : Int32)), (.int (7 : Int32)), (.ref arr), (.ref arr)] := by
    intro t ht
    refine k73 t ?_
    show Steps p.tables e below (T73.setTop (mkF m 43 #[.val (.int p1), .val (.int p2), .unset, .unset, .unset, .unset] [(.ref arr)])) t
    refine XS.dup X73.here hx rfl (hb hby at_43) rfl rfl ?_
    show Steps p.tables e below (T73.setTop (mkF m 44 #[.val (.int p1), .val (.int p2), .unset, .unset, .unset, .unset] [(.ref arr), (.ref arr)])) t
    refine XS.bipush X73.here hx rfl (hb hby at_44) ?_
    show Steps p.tables e below (T73.setTop (mkF m 46 #[.val (.int p1), .val (.int p2), .unset, .unset, .unset, .unset] [(.int (7 : Int32)), (.ref arr), (.ref arr)])) t
    refine X73.ldcInt hx hown (mvT hZ (hw _ (List.mem_of_getElem? (i := 1) rfl))) (g := (mkF m 46 #[.val (.int p1), .val (.int p2), .unset, .unset, .unset, .unset] [(.int (7 : Int32)), (.ref arr), (.ref arr)])) rfl (hb hby at_46) _ ?_
    exact ht
  obtain ⟨cl77, Ar77, qc77, Sz77, Nn77, Hh77, Gg77⟩ := id f75
  have hin77 : ¬ ((7 : Int32) < 0 ∨ cl77.slots.size ≤ ((7 : Int32)).toNatClampNeg) := inb_of Sz77 ⟨by decide, by decide⟩
  obtain ⟨T77, h77, X77, e77, W77, st77⟩ := stI X73 hx hZ e73 Ar77 (j := (7 : Int32)) hin77 (g := (mkF m 48 #[.val (.int p1), .val (.int p2), .unset, .unset, .unset, .unset] [(.int (-2147483648 : Int32)), (.int (7 : Int32)), (.ref arr), (.ref arr)])) rfl rfl (hb hby at_48)
  have N77 := Fr.snoc X77 N73 g_arr
  have f78 : n0 ≤ h77.size := Nat.le_trans f74 (Keep.of_wr W77).1
  have f79 : Arv Z h77 arr ak46 .int (8 : Int32) [(.int (0 : Int32)), (.int (31 : Int32)), (.int (127 : Int32)), (.int (159 : Int32)), (.int (8232 : Int32)), (.int (8233 : Int32)), (.int (133 : Int32)), (.int (-2147483648 : Int32))] (.int (0 : Int32)) := Arv.set Ar77 qc77 Sz77 Nn77 Hh77 Gg77 rfl W77 7 rfl (Nat.le_of_ble_eq_true rfl)
  have k77 : Kt p e below m (s₁.setTop (entryFrame m #[(.int p1), (.int p2)] maxLocals)) T77 49 #[.val (.int p1), .val (.int p2), .unset, .unset, .unset, .unset] [(.ref arr)] := fun t ht => k76 t (st77 t ht)
  obtain ⟨y, hy⟩ := own_get8 (p2 &&& 7).toNatClampNeg (0 : Int32) (31 : Int32) (127 : Int32) (159 : Int32) (8232 : Int32) (8233 : Int32) (133 : Int32) (-2147483648 : Int32) 0
  have k80 : Kt p e below m (s₁.setTop (entryFrame m #[(.int p1), (.int p2)] maxLocals)) T77 55 #[.val (.int p1), .val (.int p2), .val (.ref arr), .unset, .unset, .unset] [(.int (p2 &&& (7 : Int32))), (.ref arr)] := by
    intro t ht
    refine k77 t ?_
    show Steps p.tables e below (T77.setTop (mkF m 49 #[.val (.int p1), .val (.int p2), .unset, .unset, .unset, .unset] [(.ref arr)])) t
    refine XS.astoreN X77.here hx rfl (hb hby at_49) rfl rfl (l' := #[.val (.int p1), .val (.int p2), .val (.ref arr), .unset, .unset, .unset]) rfl ?_
    show Steps p.tables e below (T77.setTop (mkF m 50 #[.val (.int p1), .val (.int p2), .val (.ref arr), .unset, .unset, .unset] [])) t
    refine XS.aloadN X77.here hx rfl (hb hby at_50) rfl rfl ?_
    show Steps p.tables e below (T77.setTop (mkF m 51 #[.val (.int p1), .val (.int p2), .val (.ref arr), .unset, .unset, .unset] [(.ref arr)])) t
    refine XS.iloadN X77.here hx rfl (hb hby at_51) rfl ?_
    show Steps p.tables e below (T77.setTop (mkF m 52 #[.val (.int p1), .val (.int p2), .val (.ref arr), .unset, .unset, .unset] [(.int p2), (.ref arr)])) t
    refine XS.bipush X77.here hx rfl (hb hby at_52) ?_
    show Steps p.tables e below (T77.setTop (mkF m 54 #[.val (.int p1), .val (.int p2), .val (.ref arr), .unset, .unset, .unset] [(.int (7 : Int32)), (.int p2), (.ref arr)])) t
    refine XS.iand X77.here hx rfl (hb hby at_54) rfl ?_
    exact ht
  obtain ⟨cl81, Ar81, qc81, Sz81, Nn81, Hh81, Gg81⟩ := id f79
  have hin81 : ¬ ((p2 &&& (7 : Int32)) < 0 ∨ cl81.slots.size ≤ ((p2 &&& (7 : Int32))).toNatClampNeg) := inb_of Sz81 (own_in7 p2)
  have hat81 : cl81.slots[((p2 &&& (7 : Int32))).toNatClampNeg]? = some (.int y) := Hh81.at hin81 hy
  have k82 : Kt p e below m (s₁.setTop (entryFrame m #[(.int p1), (.int p2)] maxLocals)) T77 62 #[.val (.int p1), .val (.int p2), .val (.ref arr), .unset, .unset, .unset] [(.int (y + ((p2 >>> ((3 : Int32) &&& 31)) % (3 : Int32))))] := by
    intro t ht
    refine k80 t ?_
    show Steps p.tables e below (T77.setTop (mkF m 55 #[.val (.int p1), .val (.int p2), .val (.ref arr), .unset, .unset, .unset] [(.int (p2 &&& (7 : Int32))), (.ref arr)])) t
    refine X77.iaload hx (j := (p2 &&& (7 : Int32))) (v := (.int y)) (by rw [e77]; exact Ar81.1) (State.isArrayOf_alike hZ.alike Ar81.2.1) Ar81.2.2 hin81 hat81 (g := (mkF m 55 #[.val (.int p1), .val (.int p2), .val (.ref arr), .unset, .unset, .unset] [(.int (p2 &&& (7 : Int32))), (.ref arr)])) rfl rfl (hb hby at_55) _ ?_
    show Steps p.tables e below (T77.setTop (mkF m 56 #[.val (.int p1), .val (.int p2), .val (.ref arr), .unset, .unset, .unset] [(.int y)])) t
    refine XS.iloadN X77.here hx rfl (hb hby at_56) rfl ?_
    show Steps p.tables e below (T77.setTop (mkF m 57 #[.val (.int p1), .val (.int p2), .val (.ref arr), .unset, .unset, .unset] [(.int p2), (.int y)])) t
    refine XS.iconst X77.here hx rfl (hb hby at_57) ?_
    show Steps p.tables e below (T77.setTop (mkF m 58 #[.val (.int p1), .val (.int p2), .val (.ref arr), .unset, .unset, .unset] [(.int (3 : Int32)), (.int p2), (.int y)])) t
    refine XS.ishr X77.here hx rfl (hb hby at_58) rfl ?_
    show Steps p.tables e below (T77.setTop (mkF m 59 #[.val (.int p1), .val (.int p2), .val (.ref arr), .unset, .unset, .unset] [(.int (p2 >>> ((3 : Int32) &&& 31))), (.int y)])) t
    refine XS.iconst X77.here hx rfl (hb hby at_59) ?_
    show Steps p.tables e below (T77.setTop (mkF m 60 #[.val (.int p1), .val (.int p2), .val (.ref arr), .unset, .unset, .unset] [(.int (3 : Int32)), (.int (p2 >>> ((3 : Int32) &&& 31))), (.int y)])) t
    refine iremM X77 hx rfl (hb hby at_60) rfl (by decide) ?_
    show Steps p.tables e below (T77.setTop (mkF m 61 #[.val (.int p1), .val (.int p2), .val (.ref arr), .unset, .unset, .unset] [(.int ((p2 >>> ((3 : Int32) &&& 31)) % (3 : Int32))), (.int y)])) t
    refine XS.iadd X77.here hx rfl (hb hby at_61) rfl ?_
    exact ht
  obtain ⟨bx, hbx, k83⟩ : ∃ bx : Int32, bx = (y + ((p2 >>> ((3 : Int32) &&& 31)) % (3 : Int32))) ∧ Kt p e below m (s₁.setTop (entryFrame m #[(.int p1), (.int p2)] maxLocals)) T77 62 #[.val (.int p1), .val (.int p2), .val (.ref arr), .unset, .unset, .unset] [(.int bx)] := ⟨_, rfl, k82⟩
  have k84 : Kt p e below m (s₁.setTop (entryFrame m #[(.int p1), (.int p2)] maxLocals)) T77 64 #[.val (.int p1), .val (.int p2), .val (.ref arr), .val (.int bx), .unset, .unset] [(.int p1)] := by
    intro t ht
    refine k83 t ?_
    show Steps p.tables e below (T77.setTop (mkF m 62 #[.val (.int p1), .val (.int p2), .val (.ref arr), .unset, .unset, .unset] [(.int bx)])) t
    refine XS.istoreN X77.here hx rfl (hb hby at_62) rfl (l' := #[.val (.int p1), .val (.int p2), .val (.ref arr), .val (.int bx), .unset, .unset]) rfl ?_
    show Steps p.tables e below (T77.setTop (mkF m 63 #[.val (.int p1), .val (.int p2), .val (.ref arr), .val (.int bx), .unset, .unset] [])) t
    refine XS.iloadN X77.here hx rfl (hb hby at_63) rfl ?_
    exact ht
  obtain ⟨_, _, ⟨T85, L85, c85, n85⟩, -, X85, ⟨Lc85, hQ85, l85, y85, z85⟩, st85⟩ := Jvm.LawKit.callS X77 hx (y := (⟨"com/example/lockstile/lockstile/namespace/Names", "isControl", "(I)Z"⟩ : MethodName)) hown (mvT hZ (hw _ (List.mem_of_getElem? (i := 2) rfl))) (mvT hZ (hw _ (List.mem_of_getElem? (i := 3) rfl))) (mvT hZ (hw _ (List.mem_of_getElem? (i := 4) rfl))) (mvT hZ (hw _ (List.mem_of_getElem? (i := 5) rfl))) (by decide) (backOf (W := 0) (rm1 l Z a0 hw [] p1 h77 n0 f78 ) hZ (hw _ (List.mem_of_getElem? (i := 5) rfl)) (hw _ (List.mem_of_getElem? (i := 4) rfl)) (by decide) (by decide)) (g := (mkF m 64 #[.val (.int p1), .val (.int p2), .val (.ref arr), .val (.int bx), .unset, .unset] [(.int p1)])) rfl (by rw [hml]; rfl) (argsL := [(.int p1)]) (rest := []) (lenOf pd_0 rfl) rfl (by show 2 * 0 + _ ≤ _; exact Nat.le_of_eq rfl) (hb hby at_64) (fun _ _ => ⟨rfl, e77, (by decide : 1 + 0 ≤ _), (by decide : 8 + 0 ≤ _)⟩)
  dsimp only [Pt.U, Pt.locs, Pt.cells, Pt.slots] at X85 l85 y85 z85 st85 hQ85
  subst l85 y85 z85
  obtain ⟨rfl, Nq85, eq1⟩ := hQ85
  have N85 := Fr.app N77 Nq85
  have k85 : Kt p e below m (s₁.setTop (entryFrame m #[(.int p1), (.int p2)] maxLocals)) T85 67 #[.val (.int p1), .val (.int p2), .val (.ref arr), .val (.int bx), .unset, .unset] [(.int (own_b (own_ctl p1)))] := fun t ht => k84 t (st85 t ht)
  have f86 : n0 ≤ T85.heap.size := by rw [eq1]; exact f78
  have f87 : Arv Z T85.heap arr ak46 .int (8 : Int32) [(.int (0 : Int32)), (.int (31 : Int32)), (.int (127 : Int32)), (.int (159 : Int32)), (.int (8232 : Int32)), (.int (8233 : Int32)), (.int (133 : Int32)), (.int (-2147483648 : Int32))] (.int (0 : Int32)) := by rw [eq1]; exact f79
  have k88 : Kt p e below m (s₁.setTop (entryFrame m #[(.int p1), (.int p2)] maxLocals)) T85 68 #[.val (.int p1), .val (.int p2), .val (.ref arr), .val (.int bx), .unset, .unset] [(.int p1), (.int (own_b (own_ctl p1)))] := by
    intro t ht
    refine k85 t ?_
    show Steps p.tables e below (T85.setTop (mkF m 67 #[.val (.int p1), .val (.int p2), .val (.ref arr), .val (.int bx), .unset, .unset] [(.int (own_b (own_ctl p1)))])) t
    refine XS.iloadN X85.here hx rfl (hb hby at_67) rfl ?_
    exact ht
  obtain ⟨_, _, ⟨T89, L89, c89, n89⟩, -, X89, ⟨Lc89, hQ89, l89, y89, z89⟩, st89⟩ := Jvm.LawKit.callS X85 hx (y := (⟨"com/example/lockstile/lockstile/namespace/NamesIsControlPinLaw", "ref", "(I)Z"⟩ : MethodName)) hown (mvT hZ (hw _ (List.mem_of_getElem? (i := 10) rfl))) (mvT hZ (hw _ (List.mem_of_getElem? (i := 11) rfl))) (mvT hZ (hw _ (List.mem_of_getElem? (i := 12) rfl))) (mvT hZ (hw _ (List.mem_of_getElem? (i := 13) rfl))) (by decide) (backOf (W := 1) (rm3 l Z a0 hw [] p1 T85.heap n0 f86 ) hZ (hw _ (List.mem_of_getElem? (i := 13) rfl)) (hw _ (List.mem_of_getElem? (i := 12) rfl)) (by decide) (by decide)) (g := (mkF m 68 #[.val (.int p1), .val (.int p2), .val (.ref arr), .val (.int bx), .unset, .unset] [(.int p1), (.int (own_b (own_ctl p1)))])) rfl (by rw [hml]; rfl) (argsL := [(.int p1)]) (rest := [(.int (own_b (own_ctl p1)))]) (lenOf pd_0 rfl) rfl (by show 2 * 0 + _ ≤ _; exact Nat.le_of_eq rfl) (hb hby at_68) (fun _ _ => ⟨rfl, rfl, (by decide : 1 + 0 ≤ _), (by decide : 8 + 0 ≤ _)⟩)
  dsimp only [Pt.U, Pt.locs, Pt.cells, Pt.slots] at X89 l89 y89 z89 st89 hQ89
  subst l89 y89 z89
  obtain ⟨rfl, Nq89, eq2⟩ := hQ89
  have N89 := Fr.app N85 Nq89
  have k89 : Kt p e below m (s₁.setTop (entryFrame m #[(.int p1), (.int p2)] maxLocals)) T89 71 #[.val (.int p1), .val (.int p2), .val (.ref arr), .val (.int bx), .unset, .unset] [(.int (own_b (own_ctl p1))), (.int (own_b (own_ctl p1)))] := fun t ht => k88 t (st89 t ht)
  have f90 : n0 ≤ T89.heap.size := by rw [eq2]; exact f86
  have f91 : Arv Z T89.heap arr ak46 .int (8 : Int32) [(.int (0 : Int32)), (.int (31 : Int32)), (.int (127 : Int32)), (.int (159 : Int32)), (.int (8232 : Int32)), (.int (8233 : Int32)), (.int (133 : Int32)), (.int (-2147483648 : Int32))] (.int (0 : Int32)) := by rw [eq2]; exact f87
  have k92 : Kt p e below m (s₁.setTop (entryFrame m #[(.int p1), (.int p2)] maxLocals)) T89 82 #[.val (.int p1), .val (.int p2), .val (.ref arr), .val (.int bx), .val (.int (1 : Int32)), .unset] [(.int bx)] := by
    intro t ht
    refine k89 t ?_
    show Steps p.tables e below (T89.setTop (mkF m 71 #[.val (.int p1), .val (.int p2), .val (.ref arr), .val (.int bx), .unset, .unset] [(.int (own_b (own_ctl p1))), (.int (own_b (own_ctl p1)))])) t
    refine XS.icmpNo X89.here hx rfl (hb hby at_71) rfl (teq rfl).2 ?_
    show Steps p.tables e below (T89.setTop (mkF m 74 #[.val (.int p1), .val (.int p2), .val (.ref arr), .val (.int bx), .unset, .unset] [])) t
    refine XS.iconst X89.here hx rfl (hb hby at_74) ?_
    show Steps p.tables e below (T89.setTop (mkF m 75 #[.val (.int p1), .val (.int p2), .val (.ref arr), .val (.int bx), .unset, .unset] [(.int (1 : Int32))])) t
    refine XS.goto X89.here hx rfl (pc0 := 75) (pc' := 79) rfl (hb hby at_75) (by decide) (by decide) ?_
    show Steps p.tables e below (T89.setTop (mkF m 79 #[.val (.int p1), .val (.int p2), .val (.ref arr), .val (.int bx), .unset, .unset] [(.int (1 : Int32))])) t
    refine XS.istore X89.here hx rfl (hb hby at_79) rfl (l' := #[.val (.int p1), .val (.int p2), .val (.ref arr), .val (.int bx), .val (.int (1 : Int32)), .unset]) rfl ?_
    show Steps p.tables e below (T89.setTop (mkF m 81 #[.val (.int p1), .val (.int p2), .val (.ref arr), .val (.int bx), .val (.int (1 : Int32)), .unset] [])) t
    refine XS.iloadN X89.here hx rfl (hb hby at_81) rfl ?_
    exact ht
  obtain ⟨_, _, ⟨T93, L93, c93, n93⟩, -, X93, ⟨Lc93, hQ93, l93, y93, z93⟩, st93⟩ := Jvm.LawKit.callS X89 hx (y := (⟨"com/example/lockstile/lockstile/namespace/Names", "isControl", "(I)Z"⟩ : MethodName)) hown (mvT hZ (hw _ (List.mem_of_getElem? (i := 2) rfl))) (mvT hZ (hw _ (List.mem_of_getElem? (i := 3) rfl))) (mvT hZ (hw _ (List.mem_of_getElem? (i := 4) rfl))) (mvT hZ (hw _ (List.mem_of_getElem? (i := 5) rfl))) (by decide) (backOf (W := 0) (rm1 l Z a0 hw [] bx T89.heap n0 f90 ) hZ (hw _ (List.mem_of_getElem? (i := 5) rfl)) (hw _ (List.mem_of_getElem? (i := 4) rfl)) (by decide) (by decide)) (g := (mkF m 82 #[.val (.int p1), .val (.int p2), .val (.ref arr), .val (.int bx), .val (.int (1 : Int32)), .unset] [(.int bx)])) rfl (by rw [hml]; rfl) (argsL := [(.int bx)]) (rest := []) (lenOf pd_0 rfl) rfl (by show 2 * 0 + _ ≤ _; exact Nat.le_of_eq rfl) (hb hby at_82) (fun _ _ => ⟨rfl, rfl, (by decide : 1 + 0 ≤ _), (by decide : 8 + 0 ≤ _)⟩)
  dsimp only [Pt.U, Pt.locs, Pt.cells, Pt.slots] at X93 l93 y93 z93 st93 hQ93
  subst l93 y93 z93
  obtain ⟨rfl, Nq93, eq3⟩ := hQ93
  have N93 := Fr.app N89 Nq93
  have k93 : Kt p e below m (s₁.setTop (entryFrame m #[(.int p1), (.int p2)] maxLocals)) T93 85 #[.val (.int p1), .val (.int p2), .val (.ref arr), .val (.int bx), .val (.int (1 : Int32)), .unset] [(.int (own_b (own_ctl bx)))] := fun t ht => k92 t (st93 t ht)
  have f94 : n0 ≤ T93.heap.size := by rw [eq3]; exact f90
  have f95 : Arv Z T93.heap arr ak46 .int (8 : Int32) [(.int (0 : Int32)), (.int (31 : Int32)), (.int (127 : Int32)), (.int (159 : Int32)), (.int (8232 : Int32)), (.int (8233 : Int32)), (.int (133 : Int32)), (.int (-2147483648 : Int32))] (.int (0 : Int32)) := by rw [eq3]; exact f91
  have k96 : Kt p e below m (s₁.setTop (entryFrame m #[(.int p1), (.int p2)] maxLocals)) T93 86 #[.val (.int p1), .val (.int p2), .val (.ref arr), .val (.int bx), .val (.int (1 : Int32)), .unset] [(.int bx), (.int (own_b (own_ctl bx)))] := by
    intro t ht
    refine k93 t ?_
    show Steps p.tables e below (T93.setTop (mkF m 85 #[.val (.int p1), .val (.int p2), .val (.ref arr), .val (.int bx), .val (.int (1 : Int32)), .unset] [(.int (own_b (own_ctl bx)))])) t
    refine XS.iloadN X93.here hx rfl (hb hby at_85) rfl ?_
    exact ht
  obtain ⟨_, _, ⟨T97, L97, c97, n97⟩, -, X97, ⟨Lc97, hQ97, l97, y97, z97⟩, st97⟩ := Jvm.LawKit.callS X93 hx (y := (⟨"com/example/lockstile/lockstile/namespace/NamesIsControlPinLaw", "ref", "(I)Z"⟩ : MethodName)) hown (mvT hZ (hw _ (List.mem_of_getElem? (i := 10) rfl))) (mvT hZ (hw _ (List.mem_of_getElem? (i := 11) rfl))) (mvT hZ (hw _ (List.mem_of_getElem? (i := 12) rfl))) (mvT hZ (hw _ (List.mem_of_getElem? (i := 13) rfl))) (by decide) (backOf (W := 1) (rm3 l Z a0 hw [] bx T93.heap n0 f94 ) hZ (hw _ (List.mem_of_getElem? (i := 13) rfl)) (hw _ (List.mem_of_getElem? (i := 12) rfl)) (by decide) (by decide)) (g := (mkF m 86 #[.val (.int p1), .val (.int p2), .val (.ref arr), .val (.int bx), .val (.int (1 : Int32)), .unset] [(.int bx), (.int (own_b (own_ctl bx)))])) rfl (by rw [hml]; rfl) (argsL := [(.int bx)]) (rest := [(.int (own_b (own_ctl bx)))]) (lenOf pd_0 rfl) rfl (by show 2 * 0 + _ ≤ _; exact Nat.le_of_eq rfl) (hb hby at_86) (fun _ _ => ⟨rfl, rfl, (by decide : 1 + 0 ≤ _), (by decide : 8 + 0 ≤ _)⟩)
  dsimp only [Pt.U, Pt.locs, Pt.cells, Pt.slots] at X97 l97 y97 z97 st97 hQ97
  subst l97 y97 z97
  obtain ⟨rfl, Nq97, eq4⟩ := hQ97
  have N97 := Fr.app N93 Nq97
  have k97 : Kt p e below m (s₁.setTop (entryFrame m #[(.int p1), (.int p2)] maxLocals)) T97 89 #[.val (.int p1), .val (.int p2), .val (.ref arr), .val (.int bx), .val (.int (1 : Int32)), .unset] [(.int (own_b (own_ctl bx))), (.int (own_b (own_ctl bx)))] := fun t ht => k96 t (st97 t ht)
  have k98 : Kt p e below m (s₁.setTop (entryFrame m #[(.int p1), (.int p2)] maxLocals)) T97 114 #[.val (.int p1), .val (.int p2), .val (.ref arr), .val (.int bx), .val (.int (1 : Int32)), .val (.int (1 : Int32))] [(.int (1 : Int32))] := by
    intro t ht
    refine k97 t ?_
    show Steps p.tables e below (T97.setTop (mkF m 89 #[.val (.int p1), .val (.int p2), .val (.ref arr), .val (.int bx), .val (.int (1 : Int32)), .unset] [(.int (own_b (own_ctl bx))), (.int (own_b (own_ctl bx)))])) t
    refine XS.icmpNo X97.here hx rfl (hb hby at_89) rfl (teq rfl).2 ?_
    show Steps p.tables e below (T97.setTop (mkF m 92 #[.val (.int p1), .val (.int p2), .val (.ref arr), .val (.int bx), .val (.int (1 : Int32)), .unset] [])) t
    refine XS.iconst X97.here hx rfl (hb hby at_92) ?_
    show Steps p.tables e below (T97.setTop (mkF m 93 #[.val (.int p1), .val (.int p2), .val (.ref arr), .val (.int bx), .val (.int (1 : Int32)), .unset] [(.int (1 : Int32))])) t
    refine XS.goto X97.here hx rfl (pc0 := 93) (pc' := 97) rfl (hb hby at_93) (by decide) (by decide) ?_
    show Steps p.tables e below (T97.setTop (mkF m 97 #[.val (.int p1), .val (.int p2), .val (.ref arr), .val (.int bx), .val (.int (1 : Int32)), .unset] [(.int (1 : Int32))])) t
    refine XS.istore X97.here hx rfl (hb hby at_97) rfl (l' := #[.val (.int p1), .val (.int p2), .val (.ref arr), .val (.int bx), .val (.int (1 : Int32)), .val (.int (1 : Int32))]) rfl ?_
    show Steps p.tables e below (T97.setTop (mkF m 99 #[.val (.int p1), .val (.int p2), .val (.ref arr), .val (.int bx), .val (.int (1 : Int32)), .val (.int (1 : Int32))] [])) t
    refine XS.iload X97.here hx rfl (hb hby at_99) rfl ?_
    show Steps p.tables e below (T97.setTop (mkF m 101 #[.val (.int p1), .val (.int p2), .val (.ref arr), .val (.int bx), .val (.int (1 : Int32)), .val (.int (1 : Int32))] [(.int (1 : Int32))])) t
    refine XS.ifNo X97.here hx rfl (hb hby at_101) rfl ((if0 _ _).trans (feq (by decide)).1) ?_
    show Steps p.tables e below (T97.setTop (mkF m 104 #[.val (.int p1), .val (.int p2), .val (.ref arr), .val (.int bx), .val (.int (1 : Int32)), .val (.int (1 : Int32))] [])) t
    refine XS.iload X97.here hx rfl (hb hby at_104) rfl ?_
    show Steps p.tables e below (T97.setTop (mkF m 106 #[.val (.int p1), .val (.int p2), .val (.ref arr), .val (.int bx), .val (.int (1 : Int32)), .val (.int (1 : Int32))] [(.int (1 : Int32))])) t
    refine XS.ifNo X97.here hx rfl (hb hby at_106) rfl ((if0 _ _).trans (feq (by decide)).1) ?_
    show Steps p.tables e below (T97.setTop (mkF m 109 #[.val (.int p1), .val (.int p2), .val (.ref arr), .val (.int bx), .val (.int (1 : Int32)), .val (.int (1 : Int32))] [])) t
    refine XS.iconst X97.here hx rfl (hb hby at_109) ?_
    show Steps p.tables e below (T97.setTop (mkF m 110 #[.val (.int p1), .val (.int p2), .val (.ref arr), .val (.int bx), .val (.int (1 : Int32)), .val (.int (1 : Int32))] [(.int (1 : Int32))])) t
    refine XS.goto X97.here hx rfl (pc0 := 110) (pc' := 114) rfl (hb hby at_110) (by decide) (by decide) ?_
    exact ht
  obtain ⟨fs, hr, hrun, hended, hW, hsame⟩ := X97.leave (v := some (.int (1 : Int32))) (fun h => by rw [Bd.returns] at h; cases h)
  refine ⟨_, _, k98 _ ?_, hrun, hended, _, _, rfl, ?_, ⟨_, rfl⟩, hW, hsame.mono (by decide) (by decide)⟩
  · exact retN X97 hx (t := .boolean) Bd.returns (by simp) (hb hby at_114) hr
  · show Q0 Z p1 p2 h0 n0 _ T97.heap _
    exact ⟨rfl, N97⟩
set_option maxRecDepth 65536 in
set_option maxHeartbeats 40000000 in
theorem comes_1 {Post : Tables → Env → Array Value → State → Outcome → State → Prop} (hpost : ∀ tb e args s v u, (limb_1_1.after args s (.returned v) u = true ∧ limb_1_2.after args s (.returned v) u = true ∧ True) → FrameEnd s (.returned v) u (Jvm.fieldLocs frame_1_writes args s ++ Jvm.arrayLocs frame_1_arrays args s ++ Jvm.staticLocs frame_1_statics s) 16 128 → Post tb e args s (.returned v) u) :
    ArmFor flags0 classFile x code maxLocals ret World_1 tables_1 room_1 Calls_1 rest_1 Pre_1 Post := by
  intro l hfl _ _ p e ha hc hk s m args below hf hA hF happ hP
  obtain ⟨hcalls, hrest, hpre⟩ := hP
  obtain ⟨-, -, -, hnamed, -, -, -, hat⟩ := (Spec.applies_iff hf).mp happ
  obtain ⟨hg, hn⟩ := and_e (Cond.before_iff.mp (show (Jvm.Cond.and given_1 narrow_1).before args s = true from hpre))
  obtain ⟨hcount, g0⟩ := and_e hg
  obtain ⟨ga0, g1⟩ := and_e g0
  obtain ⟨w0, w1, rfl⟩ : ∃ w0 w1 : Value, args = #[w0, w1] := by
    have hs : args.size = 2 := by simpa [Cond.value, given_1] using hcount
    obtain ⟨L⟩ := args
    match L, hs with
    | [w0, w1], _ => exact ⟨w0, w1, rfl⟩
  have hw := fun d (hd : d ∈ tables_1) => atoms_spec (ws := Jvm.Cond.code x code maxLocals ret :: tables_1) hat d (List.mem_cons_of_mem _ hd)
  have hfit : Fit s := fun {y c} hc i hi => by
    obtain ⟨ha, rfl⟩ := Array.getElem?_eq_some_iff.mp hc
    have q := List.all_eq_true.mp ((Array.all_eq_true_iff_forall_mem.mp hF) _ (Array.getElem_mem ha)) i (List.mem_range.mpr hi)
    simpa [Array.getElem?_eq_getElem hi] using q
  obtain ⟨i0, ei0⟩ := is_v ga0
  obtain rfl : w0 = (.int i0) := Option.some.inj ei0
  obtain ⟨i1, ei1⟩ := is_v g1
  obtain rfl : w1 = (.int i1) := Option.some.inj ei1
  obtain ⟨n, o, h1, h2, h3, _, L, rfl, ⟨rfl, N⟩, hq⟩ := rm0 l s _ hw tables_1 i0 i1 s.heap s.heap.size (Nat.le_refl _) p e ha hc hk s m _ below hf ((Spec.applies_iff_loose hf).mp happ).1 ⟨rfl, State.Warmed39.refl s, rfl⟩ trivial
  refine ⟨n, _, h1, h2, h3, hpost _ _ _ _ _ _ ⟨Cond.after_iff.mpr rfl, Cond.after_iff.mpr (eq_i res_at (Term.int_eval (1)) rfl), trivial⟩ ⟨hq.1, hq.2.1, (hq.2.2.sift fun y hy => Or.inr (N y hy)).mono (by decide) (by decide)⟩⟩
theorem main_1_1 : Claimed_1_1 := comes_1 fun _ _ _ _ _ _ h hF => ⟨h.1, hF⟩
theorem main_1_2 : Claimed_1_2 := comes_1 fun _ _ _ _ _ _ h hF => ⟨h.2.1, hF⟩
end Jvm.Pilot.@@N@@
namespace Jvm.Pilot.@@N@@
open Jvm Jvm.ClassFile Sem Op Lib Jvm.Free Jvm.Stand Jvm.Pilot.@@N@@.Jvm.D
/-! MADE BY PROGRAM (witnessworld.py) out of the Statement's table words and the real class files: 12 classes; the members and pool entries that the words name. The judged class is class 1, her method 2. -/
namespace start1
open Jvm.ClassFile
def u (s : String) : CpInfo := .utf8 (stringToUtf16 s)
/-- a pool by its gaps: so many unusable entries, then the entry; so many at the end -/
def gap : Nat → List CpInfo → List CpInfo
  | 0, r => r
  | n + 1, r => .unusable :: gap n r
def poolList (es : List (Nat × CpInfo)) (last : Nat) : List CpInfo := es.foldr (fun e r => gap e.1 (e.2 :: r)) (gap last [])
def pool (es : List (Nat × CpInfo)) (last : Nat) : Array CpInfo := ⟨poolList es last⟩
def fileOf (pool : Array CpInfo) (this : Nat) (attrs : Array Attribute := #[]) (ms : Array MethodInfo := #[]) (fl : Nat := 33) (sup : Nat := 0) (ifs : Array Nat := #[]) (fds : Array FieldInfo := #[]) : ClassFile where
  minorVersion := 0
  majorVersion := 65
  constantPool := pool
  accessFlags := fl
  thisClass := this
  superClass := sup
  interfaces := ifs
  fields := fds
  methods := ms
  attributes := attrs
def plain (name : String) (sup : Option ClassId) : Class where
  name := name
  kind := .ordinary
  loader := none
  accessFlags := 33
  super := sup
  interfaces := #[]
  cf := none
  fields := #[]
  methods := #[]
  instanceTypes := #[]
  staticTypes := #[]
  resolved := #[]
  callSites := []
  init := .initialized
  statics := none
  mirror := none

def pool0 : Array CpInfo := pool [(5, u "<init>"), (0, u "()V"), (1, .class_ 10), (1, u "java/lang/Object")] 113

def k0m0 : Method := { name := "<init>", desc := "()V", sig := { parameters := [], returnType := none }, accessFlags := 1, code := none }
/-- java/lang/Object -/
def k0 : Class := { plain "java/lang/Object" none with
  accessFlags := 33
  interfaces := #[]
  cf := some (fileOf pool0 8 #[] #[{ accessFlags := 1, nameIndex := 5, descriptorIndex := 6, attributes := #[] }] 33 0 #[] #[])
  fields := #[]
  methods := #[k0m0]
  instanceTypes := #[]
  staticTypes := #[]
  resolved := Array.replicate 124 none
  statics := none }

def pool1 : Array CpInfo := pool [(2, .class_ 4), (1, u "java/lang/Object"), (0, u "<init>"), (0, u "()V"), (2, .integer 2147483648), (0, .methodref 11 12), (0, .class_ 13), (0, .nameAndType 14 15), (0, u "com/example/lockstile/lockstile/namespace/Names"), (0, u "isControl"), (0, u "(I)Z"), (0, .methodref 17 18), (0, .class_ 19), (0, .nameAndType 20 15), (0, u "com/example/lockstile/lockstile/namespace/NamesIsControlPinLaw"), (0, u "ref"), (3, u "law"), (0, u "(II)Z")] 4

def k1m0 : Method := { name := "<init>", desc := "()V", sig := { parameters := [], returnType := none }, accessFlags := 2, code := none }
def k1c1 : Code := { maxStack := 2, maxLocals := 1, code := method_2_code, exceptionTable := #[], attributes := #[] }
def k1m1 : Method := { name := "ref", desc := "(I)Z", sig := { parameters := [.int], returnType := some .boolean }, accessFlags := 10, code := some k1c1 }
def k1c2 : Code := { maxStack := 4, maxLocals := 6, code := code, exceptionTable := #[], attributes := #[] }
def k1m2 : Method := { name := "law", desc := "(II)Z", sig := { parameters := [.int, .int], returnType := some .boolean }, accessFlags := 9, code := some k1c2 }
/-- com/example/lockstile/lockstile/namespace/NamesIsControlPinLaw -/
def k1 : Class := { plain "com/example/lockstile/lockstile/namespace/NamesIsControlPinLaw" (some 0) with
  accessFlags := 49
  interfaces := #[]
  cf := some (fileOf pool1 17 #[] #[{ accessFlags := 2, nameIndex := 5, descriptorIndex := 6, attributes := #[] }, { accessFlags := 10, nameIndex := 20, descriptorIndex := 15, attributes := #[] }, { accessFlags := 9, nameIndex := 24, descriptorIndex := 25, attributes := #[] }] 49 2 #[] #[])
  fields := #[]
  methods := #[k1m0, k1m1, k1m2]
  instanceTypes := #[]
  staticTypes := #[]
  resolved := Array.replicate 30 none
  statics := none }

def pool2 : Array CpInfo := pool [(2, .class_ 4), (1, u "java/lang/Object"), (0, u "<init>"), (0, u "()V"), (23, .class_ 31), (0, u "com/example/lockstile/lockstile/namespace/Names"), (19, .methodref 52 53), (0, .class_ 54), (0, .nameAndType 55 56), (0, u "java/lang/Character"), (0, u "isISOControl"), (0, u "(I)Z"), (41, u "isControl"), (5, u "BYTE_ORDER"), (0, u "Ljava/util/Comparator;"), (0, u "MAX_NAME_BYTES"), (0, u "I"), (4, u "LINE_SEPARATOR"), (1, u "PARAGRAPH_SEPARATOR")] 45

def k2m0 : Method := { name := "<init>", desc := "()V", sig := { parameters := [], returnType := none }, accessFlags := 2, code := none }
def k2c1 : Code := { maxStack := 2, maxLocals := 1, code := prog_31_method_3_code, exceptionTable := #[], attributes := #[] }
def k2m1 : Method := { name := "isControl", desc := "(I)Z", sig := { parameters := [.int], returnType := some .boolean }, accessFlags := 9, code := some k2c1 }
/-- com/example/lockstile/lockstile/namespace/Names -/
def k2 : Class := { plain "com/example/lockstile/lockstile/namespace/Names" (some 0) with
  accessFlags := 49
  interfaces := #[]
  cf := some (fileOf pool2 30 #[] #[{ accessFlags := 2, nameIndex := 5, descriptorIndex := 6, attributes := #[] }, { accessFlags := 9, nameIndex := 98, descriptorIndex := 56, attributes := #[] }] 49 2 #[] #[{ accessFlags := 25, nameIndex := 106, descriptorIndex := 107, attributes := #[] }, { accessFlags := 25, nameIndex := 104, descriptorIndex := 105, attributes := #[] }, { accessFlags := 26, nameIndex := 112, descriptorIndex := 107, attributes := #[] }, { accessFlags := 26, nameIndex := 114, descriptorIndex := 107, attributes := #[] }])
  fields := #[{ name := "MAX_NAME_BYTES", type := .int, accessFlags := 25, slot := 0, constantValue := 0 }, { name := "BYTE_ORDER", type := (.object "java/util/Comparator"), accessFlags := 25, slot := 1, constantValue := 0 }, { name := "LINE_SEPARATOR", type := .int, accessFlags := 26, slot := 2, constantValue := 0 }, { name := "PARAGRAPH_SEPARATOR", type := .int, accessFlags := 26, slot := 3, constantValue := 0 }]
  methods := #[k2m0, k2m1]
  instanceTypes := #[]
  staticTypes := #[.int, (.object "java/util/Comparator"), .int, .int]
  resolved := Array.replicate 160 none
  statics := none }

def pool3 : Array CpInfo := pool [(1, .class_ 2), (0, u "java/io/Serializable"), (0, .class_ 4), (0, u "java/lang/Object")] 2

/-- java/io/Serializable -/
def k3 : Class := { plain "java/io/Serializable" (some 0) with
  accessFlags := 1537
  interfaces := #[]
  cf := some (fileOf pool3 1 #[] #[] 1537 3 #[] #[])
  fields := #[]
  methods := #[]
  instanceTypes := #[]
  staticTypes := #[]
  resolved := Array.replicate 7 none
  statics := none }

def pool4 : Array CpInfo := pool [(1, .class_ 2), (0, u "java/lang/Comparable"), (0, .class_ 4), (0, u "java/lang/Object")] 7

/-- java/lang/Comparable -/
def k4 : Class := { plain "java/lang/Comparable" (some 0) with
  accessFlags := 1537
  interfaces := #[]
  cf := some (fileOf pool4 1 #[] #[] 1537 3 #[] #[])
  fields := #[]
  methods := #[]
  instanceTypes := #[]
  staticTypes := #[]
  resolved := Array.replicate 12 none
  statics := none }

def pool5 : Array CpInfo := pool [(1, .class_ 2), (0, u "java/lang/constant/Constable"), (0, .class_ 4), (0, u "java/lang/Object")] 6

/-- java/lang/constant/Constable -/
def k5 : Class := { plain "java/lang/constant/Constable" (some 0) with
  accessFlags := 1537
  interfaces := #[]
  cf := some (fileOf pool5 1 #[] #[] 1537 3 #[] #[])
  fields := #[]
  methods := #[]
  instanceTypes := #[]
  staticTypes := #[]
  resolved := Array.replicate 11 none
  statics := none }

def pool6 : Array CpInfo := pool [(1, .class_ 2), (0, u "java/lang/Character"), (18, u "value"), (0, u "C"), (19, .class_ 44), (1, u "java/lang/Object"), (3, .class_ 50), (1, u "java/lang/Character$CharacterCache"), (63, u "(I)Z"), (153, u "isISOControl"), (15, u "$assertionsDisabled"), (0, u "Z"), (21, .class_ 309), (1, u "java/lang/Character$UnicodeBlock"), (73, u "TYPE"), (0, u "Ljava/lang/Class;"), (0, .class_ 386), (0, u "java/io/Serializable"), (0, .class_ 388), (0, u "java/lang/Comparable"), (0, .class_ 390), (0, u "java/lang/constant/Constable"), (0, u "MIN_RADIX"), (0, u "I"), (2, u "MAX_RADIX"), (1, u "MIN_VALUE"), (1, u "MAX_VALUE"), (3, u "UNASSIGNED"), (0, u "B"), (0, u "UPPERCASE_LETTER"), (1, u "LOWERCASE_LETTER"), (0, u "TITLECASE_LETTER"), (1, u "MODIFIER_LETTER"), (1, u "OTHER_LETTER"), (1, u "NON_SPACING_MARK"), (1, u "ENCLOSING_MARK"), (1, u "COMBINING_SPACING_MARK"), (1, u "DECIMAL_DIGIT_NUMBER"), (1, u "LETTER_NUMBER"), (1, u "OTHER_NUMBER"), (1, u "SPACE_SEPARATOR"), (1, u "LINE_SEPARATOR"), (1, u "PARAGRAPH_SEPARATOR"), (1, u "CONTROL"), (1, u "FORMAT"), (1, u "PRIVATE_USE"), (1, u "SURROGATE"), (1, u "DASH_PUNCTUATION"), (1, u "START_PUNCTUATION"), (1, u "END_PUNCTUATION"), (1, u "CONNECTOR_PUNCTUATION"), (1, u "OTHER_PUNCTUATION"), (1, u "MATH_SYMBOL"), (1, u "CURRENCY_SYMBOL"), (1, u "MODIFIER_SYMBOL"), (1, u "OTHER_SYMBOL"), (1, u "INITIAL_QUOTE_PUNCTUATION"), (1, u "FINAL_QUOTE_PUNCTUATION"), (1, u "ERROR"), (1, u "DIRECTIONALITY_UNDEFINED"), (0, u "DIRECTIONALITY_LEFT_TO_RIGHT"), (0, u "DIRECTIONALITY_RIGHT_TO_LEFT"), (0, u "DIRECTIONALITY_RIGHT_TO_LEFT_ARABIC"), (0, u "DIRECTIONALITY_EUROPEAN_NUMBER"), (0, u "DIRECTIONALITY_EUROPEAN_NUMBER_SEPARATOR"), (0, u "DIRECTIONALITY_EUROPEAN_NUMBER_TERMINATOR"), (0, u "DIRECTIONALITY_ARABIC_NUMBER"), (0, u "DIRECTIONALITY_COMMON_NUMBER_SEPARATOR"), (0, u "DIRECTIONALITY_NONSPACING_MARK"), (0, u "DIRECTIONALITY_BOUNDARY_NEUTRAL"), (0, u "DIRECTIONALITY_PARAGRAPH_SEPARATOR"), (0, u "DIRECTIONALITY_SEGMENT_SEPARATOR"), (0, u "DIRECTIONALITY_WHITESPACE"), (0, u "DIRECTIONALITY_OTHER_NEUTRALS"), (0, u "DIRECTIONALITY_LEFT_TO_RIGHT_EMBEDDING"), (0, u "DIRECTIONALITY_LEFT_TO_RIGHT_OVERRIDE"), (0, u "DIRECTIONALITY_RIGHT_TO_LEFT_EMBEDDING"), (0, u "DIRECTIONALITY_RIGHT_TO_LEFT_OVERRIDE"), (1, u "DIRECTIONALITY_POP_DIRECTIONAL_FORMAT"), (0, u "DIRECTIONALITY_LEFT_TO_RIGHT_ISOLATE"), (0, u "DIRECTIONALITY_RIGHT_TO_LEFT_ISOLATE"), (0, u "DIRECTIONALITY_FIRST_STRONG_ISOLATE"), (0, u "DIRECTIONALITY_POP_DIRECTIONAL_ISOLATE"), (0, u "MIN_HIGH_SURROGATE"), (0, u "MAX_HIGH_SURROGATE"), (1, u "MIN_LOW_SURROGATE"), (0, u "MAX_LOW_SURROGATE"), (1, u "MIN_SURROGATE"), (0, u "MAX_SURROGATE"), (0, u "MIN_SUPPLEMENTARY_CODE_POINT"), (0, u "MIN_CODE_POINT"), (0, u "MAX_CODE_POINT"), (1, u "serialVersionUID"), (0, u "J"), (2, u "SIZE"), (0, u "BYTES"), (88, .class_ 596), (0, u "java/lang/Character$UnicodeScript"), (0, .class_ 598), (0, u "java/lang/Character$Subset")] 5

def k6c0 : Code := { maxStack := 2, maxLocals := 1, code := jdk_89_method_89_code, exceptionTable := #[], attributes := #[] }
def k6m0 : Method := { name := "isISOControl", desc := "(I)Z", sig := { parameters := [.int], returnType := some .boolean }, accessFlags := 9, code := some k6c0 }
/-- java/lang/Character -/
def k6 : Class := { plain "java/lang/Character" (some 0) with
  accessFlags := 49
  interfaces := #[3, 4, 5]
  cf := some (fileOf pool6 1 #[.nestMembers #[48, 595, 307, 597]] #[{ accessFlags := 9, nameIndex := 268, descriptorIndex := 114, attributes := #[] }] 49 42 #[385, 387, 389] #[{ accessFlags := 25, nameIndex := 391, descriptorIndex := 392, attributes := #[] }, { accessFlags := 25, nameIndex := 395, descriptorIndex := 392, attributes := #[] }, { accessFlags := 25, nameIndex := 397, descriptorIndex := 22, attributes := #[] }, { accessFlags := 25, nameIndex := 399, descriptorIndex := 22, attributes := #[] }, { accessFlags := 25, nameIndex := 383, descriptorIndex := 384, attributes := #[] }, { accessFlags := 25, nameIndex := 403, descriptorIndex := 404, attributes := #[] }, { accessFlags := 25, nameIndex := 405, descriptorIndex := 404, attributes := #[] }, { accessFlags := 25, nameIndex := 407, descriptorIndex := 404, attributes := #[] }, { accessFlags := 25, nameIndex := 408, descriptorIndex := 404, attributes := #[] }, { accessFlags := 25, nameIndex := 410, descriptorIndex := 404, attributes := #[] }, { accessFlags := 25, nameIndex := 412, descriptorIndex := 404, attributes := #[] }, { accessFlags := 25, nameIndex := 414, descriptorIndex := 404, attributes := #[] }, { accessFlags := 25, nameIndex := 416, descriptorIndex := 404, attributes := #[] }, { accessFlags := 25, nameIndex := 418, descriptorIndex := 404, attributes := #[] }, { accessFlags := 25, nameIndex := 420, descriptorIndex := 404, attributes := #[] }, { accessFlags := 25, nameIndex := 422, descriptorIndex := 404, attributes := #[] }, { accessFlags := 25, nameIndex := 424, descriptorIndex := 404, attributes := #[] }, { accessFlags := 25, nameIndex := 426, descriptorIndex := 404, attributes := #[] }, { accessFlags := 25, nameIndex := 428, descriptorIndex := 404, attributes := #[] }, { accessFlags := 25, nameIndex := 430, descriptorIndex := 404, attributes := #[] }, { accessFlags := 25, nameIndex := 432, descriptorIndex := 404, attributes := #[] }, { accessFlags := 25, nameIndex := 434, descriptorIndex := 404, attributes := #[] }, { accessFlags := 25, nameIndex := 436, descriptorIndex := 404, attributes := #[] }, { accessFlags := 25, nameIndex := 438, descriptorIndex := 404, attributes := #[] }, { accessFlags := 25, nameIndex := 440, descriptorIndex := 404, attributes := #[] }, { accessFlags := 25, nameIndex := 442, descriptorIndex := 404, attributes := #[] }, { accessFlags := 25, nameIndex := 444, descriptorIndex := 404, attributes := #[] }, { accessFlags := 25, nameIndex := 446, descriptorIndex := 404, attributes := #[] }, { accessFlags := 25, nameIndex := 448, descriptorIndex := 404, attributes := #[] }, { accessFlags := 25, nameIndex := 450, descriptorIndex := 404, attributes := #[] }, { accessFlags := 25, nameIndex := 452, descriptorIndex := 404, attributes := #[] }, { accessFlags := 25, nameIndex := 454, descriptorIndex := 404, attributes := #[] }, { accessFlags := 25, nameIndex := 456, descriptorIndex := 404, attributes := #[] }, { accessFlags := 25, nameIndex := 458, descriptorIndex := 404, attributes := #[] }, { accessFlags := 25, nameIndex := 460, descriptorIndex := 404, attributes := #[] }, { accessFlags := 24, nameIndex := 462, descriptorIndex := 392, attributes := #[] }, { accessFlags := 25, nameIndex := 464, descriptorIndex := 404, attributes := #[] }, { accessFlags := 25, nameIndex := 465, descriptorIndex := 404, attributes := #[] }, { accessFlags := 25, nameIndex := 466, descriptorIndex := 404, attributes := #[] }, { accessFlags := 25, nameIndex := 467, descriptorIndex := 404, attributes := #[] }, { accessFlags := 25, nameIndex := 468, descriptorIndex := 404, attributes := #[] }, { accessFlags := 25, nameIndex := 469, descriptorIndex := 404, attributes := #[] }, { accessFlags := 25, nameIndex := 470, descriptorIndex := 404, attributes := #[] }, { accessFlags := 25, nameIndex := 471, descriptorIndex := 404, attributes := #[] }, { accessFlags := 25, nameIndex := 472, descriptorIndex := 404, attributes := #[] }, { accessFlags := 25, nameIndex := 473, descriptorIndex := 404, attributes := #[] }, { accessFlags := 25, nameIndex := 474, descriptorIndex := 404, attributes := #[] }, { accessFlags := 25, nameIndex := 475, descriptorIndex := 404, attributes := #[] }, { accessFlags := 25, nameIndex := 476, descriptorIndex := 404, attributes := #[] }, { accessFlags := 25, nameIndex := 477, descriptorIndex := 404, attributes := #[] }, { accessFlags := 25, nameIndex := 478, descriptorIndex := 404, attributes := #[] }, { accessFlags := 25, nameIndex := 479, descriptorIndex := 404, attributes := #[] }, { accessFlags := 25, nameIndex := 480, descriptorIndex := 404, attributes := #[] }, { accessFlags := 25, nameIndex := 481, descriptorIndex := 404, attributes := #[] }, { accessFlags := 25, nameIndex := 482, descriptorIndex := 404, attributes := #[] }, { accessFlags := 25, nameIndex := 484, descriptorIndex := 404, attributes := #[] }, { accessFlags := 25, nameIndex := 485, descriptorIndex := 404, attributes := #[] }, { accessFlags := 25, nameIndex := 486, descriptorIndex := 404, attributes := #[] }, { accessFlags := 25, nameIndex := 487, descriptorIndex := 404, attributes := #[] }, { accessFlags := 25, nameIndex := 488, descriptorIndex := 404, attributes := #[] }, { accessFlags := 25, nameIndex := 489, descriptorIndex := 22, attributes := #[] }, { accessFlags := 25, nameIndex := 490, descriptorIndex := 22, attributes := #[] }, { accessFlags := 25, nameIndex := 492, descriptorIndex := 22, attributes := #[] }, { accessFlags := 25, nameIndex := 493, descriptorIndex := 22, attributes := #[] }, { accessFlags := 25, nameIndex := 495, descriptorIndex := 22, attributes := #[] }, { accessFlags := 25, nameIndex := 496, descriptorIndex := 22, attributes := #[] }, { accessFlags := 25, nameIndex := 497, descriptorIndex := 392, attributes := #[] }, { accessFlags := 25, nameIndex := 498, descriptorIndex := 392, attributes := #[] }, { accessFlags := 25, nameIndex := 499, descriptorIndex := 392, attributes := #[] }, { accessFlags := 18, nameIndex := 21, descriptorIndex := 22, attributes := #[] }, { accessFlags := 26, nameIndex := 501, descriptorIndex := 502, attributes := #[] }, { accessFlags := 25, nameIndex := 505, descriptorIndex := 392, attributes := #[] }, { accessFlags := 25, nameIndex := 506, descriptorIndex := 392, attributes := #[] }, { accessFlags := 4120, nameIndex := 284, descriptorIndex := 285, attributes := #[] }])
  fields := #[{ name := "MIN_RADIX", type := .int, accessFlags := 25, slot := 0, constantValue := 0 }, { name := "MAX_RADIX", type := .int, accessFlags := 25, slot := 1, constantValue := 0 }, { name := "MIN_VALUE", type := .char, accessFlags := 25, slot := 2, constantValue := 0 }, { name := "MAX_VALUE", type := .char, accessFlags := 25, slot := 3, constantValue := 0 }, { name := "TYPE", type := (.object "java/lang/Class"), accessFlags := 25, slot := 4, constantValue := 0 }, { name := "UNASSIGNED", type := .byte, accessFlags := 25, slot := 5, constantValue := 0 }, { name := "UPPERCASE_LETTER", type := .byte, accessFlags := 25, slot := 6, constantValue := 0 }, { name := "LOWERCASE_LETTER", type := .byte, accessFlags := 25, slot := 7, constantValue := 0 }, { name := "TITLECASE_LETTER", type := .byte, accessFlags := 25, slot := 8, constantValue := 0 }, { name := "MODIFIER_LETTER", type := .byte, accessFlags := 25, slot := 9, constantValue := 0 }, { name := "OTHER_LETTER", type := .byte, accessFlags := 25, slot := 10, constantValue := 0 }, { name := "NON_SPACING_MARK", type := .byte, accessFlags := 25, slot := 11, constantValue := 0 }, { name := "ENCLOSING_MARK", type := .byte, accessFlags := 25, slot := 12, constantValue := 0 }, { name := "COMBINING_SPACING_MARK", type := .byte, accessFlags := 25, slot := 13, constantValue := 0 }, { name := "DECIMAL_DIGIT_NUMBER", type := .byte, accessFlags := 25, slot := 14, constantValue := 0 }, { name := "LETTER_NUMBER", type := .byte, accessFlags := 25, slot := 15, constantValue := 0 }, { name := "OTHER_NUMBER", type := .byte, accessFlags := 25, slot := 16, constantValue := 0 }, { name := "SPACE_SEPARATOR", type := .byte, accessFlags := 25, slot := 17, constantValue := 0 }, { name := "LINE_SEPARATOR", type := .byte, accessFlags := 25, slot := 18, constantValue := 0 }, { name := "PARAGRAPH_SEPARATOR", type := .byte, accessFlags := 25, slot := 19, constantValue := 0 }, { name := "CONTROL", type := .byte, accessFlags := 25, slot := 20, constantValue := 0 }, { name := "FORMAT", type := .byte, accessFlags := 25, slot := 21, constantValue := 0 }, { name := "PRIVATE_USE", type := .byte, accessFlags := 25, slot := 22, constantValue := 0 }, { name := "SURROGATE", type := .byte, accessFlags := 25, slot := 23, constantValue := 0 }, { name := "DASH_PUNCTUATION", type := .byte, accessFlags := 25, slot := 24, constantValue := 0 }, { name := "START_PUNCTUATION", type := .byte, accessFlags := 25, slot := 25, constantValue := 0 }, { name := "END_PUNCTUATION", type := .byte, accessFlags := 25, slot := 26, constantValue := 0 }, { name := "CONNECTOR_PUNCTUATION", type := .byte, accessFlags := 25, slot := 27, constantValue := 0 }, { name := "OTHER_PUNCTUATION", type := .byte, accessFlags := 25, slot := 28, constantValue := 0 }, { name := "MATH_SYMBOL", type := .byte, accessFlags := 25, slot := 29, constantValue := 0 }, { name := "CURRENCY_SYMBOL", type := .byte, accessFlags := 25, slot := 30, constantValue := 0 }, { name := "MODIFIER_SYMBOL", type := .byte, accessFlags := 25, slot := 31, constantValue := 0 }, { name := "OTHER_SYMBOL", type := .byte, accessFlags := 25, slot := 32, constantValue := 0 }, { name := "INITIAL_QUOTE_PUNCTUATION", type := .byte, accessFlags := 25, slot := 33, constantValue := 0 }, { name := "FINAL_QUOTE_PUNCTUATION", type := .byte, accessFlags := 25, slot := 34, constantValue := 0 }, { name := "ERROR", type := .int, accessFlags := 24, slot := 35, constantValue := 0 }, { name := "DIRECTIONALITY_UNDEFINED", type := .byte, accessFlags := 25, slot := 36, constantValue := 0 }, { name := "DIRECTIONALITY_LEFT_TO_RIGHT", type := .byte, accessFlags := 25, slot := 37, constantValue := 0 }, { name := "DIRECTIONALITY_RIGHT_TO_LEFT", type := .byte, accessFlags := 25, slot := 38, constantValue := 0 }, { name := "DIRECTIONALITY_RIGHT_TO_LEFT_ARABIC", type := .byte, accessFlags := 25, slot := 39, constantValue := 0 }, { name := "DIRECTIONALITY_EUROPEAN_NUMBER", type := .byte, accessFlags := 25, slot := 40, constantValue := 0 }, { name := "DIRECTIONALITY_EUROPEAN_NUMBER_SEPARATOR", type := .byte, accessFlags := 25, slot := 41, constantValue := 0 }, { name := "DIRECTIONALITY_EUROPEAN_NUMBER_TERMINATOR", type := .byte, accessFlags := 25, slot := 42, constantValue := 0 }, { name := "DIRECTIONALITY_ARABIC_NUMBER", type := .byte, accessFlags := 25, slot := 43, constantValue := 0 }, { name := "DIRECTIONALITY_COMMON_NUMBER_SEPARATOR", type := .byte, accessFlags := 25, slot := 44, constantValue := 0 }, { name := "DIRECTIONALITY_NONSPACING_MARK", type := .byte, accessFlags := 25, slot := 45, constantValue := 0 }, { name := "DIRECTIONALITY_BOUNDARY_NEUTRAL", type := .byte, accessFlags := 25, slot := 46, constantValue := 0 }, { name := "DIRECTIONALITY_PARAGRAPH_SEPARATOR", type := .byte, accessFlags := 25, slot := 47, constantValue := 0 }, { name := "DIRECTIONALITY_SEGMENT_SEPARATOR", type := .byte, accessFlags := 25, slot := 48, constantValue := 0 }, { name := "DIRECTIONALITY_WHITESPACE", type := .byte, accessFlags := 25, slot := 49, constantValue := 0 }, { name := "DIRECTIONALITY_OTHER_NEUTRALS", type := .byte, accessFlags := 25, slot := 50, constantValue := 0 }, { name := "DIRECTIONALITY_LEFT_TO_RIGHT_EMBEDDING", type := .byte, accessFlags := 25, slot := 51, constantValue := 0 }, { name := "DIRECTIONALITY_LEFT_TO_RIGHT_OVERRIDE", type := .byte, accessFlags := 25, slot := 52, constantValue := 0 }, { name := "DIRECTIONALITY_RIGHT_TO_LEFT_EMBEDDING", type := .byte, accessFlags := 25, slot := 53, constantValue := 0 }, { name := "DIRECTIONALITY_RIGHT_TO_LEFT_OVERRIDE", type := .byte, accessFlags := 25, slot := 54, constantValue := 0 }, { name := "DIRECTIONALITY_POP_DIRECTIONAL_FORMAT", type := .byte, accessFlags := 25, slot := 55, constantValue := 0 }, { name := "DIRECTIONALITY_LEFT_TO_RIGHT_ISOLATE", type := .byte, accessFlags := 25, slot := 56, constantValue := 0 }, { name := "DIRECTIONALITY_RIGHT_TO_LEFT_ISOLATE", type := .byte, accessFlags := 25, slot := 57, constantValue := 0 }, { name := "DIRECTIONALITY_FIRST_STRONG_ISOLATE", type := .byte, accessFlags := 25, slot := 58, constantValue := 0 }, { name := "DIRECTIONALITY_POP_DIRECTIONAL_ISOLATE", type := .byte, accessFlags := 25, slot := 59, constantValue := 0 }, { name := "MIN_HIGH_SURROGATE", type := .char, accessFlags := 25, slot := 60, constantValue := 0 }, { name := "MAX_HIGH_SURROGATE", type := .char, accessFlags := 25, slot := 61, constantValue := 0 }, { name := "MIN_LOW_SURROGATE", type := .char, accessFlags := 25, slot := 62, constantValue := 0 }, { name := "MAX_LOW_SURROGATE", type := .char, accessFlags := 25, slot := 63, constantValue := 0 }, { name := "MIN_SURROGATE", type := .char, accessFlags := 25, slot := 64, constantValue := 0 }, { name := "MAX_SURROGATE", type := .char, accessFlags := 25, slot := 65, constantValue := 0 }, { name := "MIN_SUPPLEMENTARY_CODE_POINT", type := .int, accessFlags := 25, slot := 66, constantValue := 0 }, { name := "MIN_CODE_POINT", type := .int, accessFlags := 25, slot := 67, constantValue := 0 }, { name := "MAX_CODE_POINT", type := .int, accessFlags := 25, slot := 68, constantValue := 0 }, { name := "value", type := .char, accessFlags := 18, slot := 0, constantValue := 0 }, { name := "serialVersionUID", type := .long, accessFlags := 26, slot := 69, constantValue := 0 }, { name := "SIZE", type := .int, accessFlags := 25, slot := 70, constantValue := 0 }, { name := "BYTES", type := .int, accessFlags := 25, slot := 71, constantValue := 0 }, { name := "$assertionsDisabled", type := .boolean, accessFlags := 4120, slot := 72, constantValue := 0 }]
  methods := #[k6m0]
  instanceTypes := #[.char]
  staticTypes := #[.int, .int, .char, .char, (.object "java/lang/Class"), .byte, .byte, .byte, .byte, .byte, .byte, .byte, .byte, .byte, .byte, .byte, .byte, .byte, .byte, .byte, .byte, .byte, .byte, .byte, .byte, .byte, .byte, .byte, .byte, .byte, .byte, .byte, .byte, .byte, .byte, .int, .byte, .byte, .byte, .byte, .byte, .byte, .byte, .byte, .byte, .byte, .byte, .byte, .byte, .byte, .byte, .byte, .byte, .byte, .byte, .byte, .byte, .byte, .byte, .byte, .char, .char, .char, .char, .char, .char, .int, .int, .int, .long, .int, .int, .boolean]
  resolved := Array.replicate 604 none
  statics := none }

def pool7 : Array CpInfo := pool [(1, u "java/lang/Cloneable"), (0, .class_ 1), (0, u "java/lang/Object"), (0, .class_ 3)] 3

/-- java/lang/Cloneable -/
def k7 : Class := { plain "java/lang/Cloneable" (some 0) with
  accessFlags := 1537
  interfaces := #[]
  cf := some (fileOf pool7 2 #[] #[] 1537 4 #[] #[])
  fields := #[]
  methods := #[]
  instanceTypes := #[]
  staticTypes := #[]
  resolved := Array.replicate 8 none
  statics := none }

/-- the primitive byte -/
def k8 : Class := { plain "byte" none with kind := .primitive 'B', accessFlags := 0x411 }
/-- [B -/
def k9 : Class := { plain "[B" (some 0) with kind := .array 8 .byte, interfaces := #[7, 3], accessFlags := 1041 }

/-- the primitive int -/
def k10 : Class := { plain "int" none with kind := .primitive 'I', accessFlags := 0x411 }
/-- [I -/
def k11 : Class := { plain "[I" (some 0) with kind := .array 10 .int, interfaces := #[7, 3], accessFlags := 1041 }

def heap : Heap := #[]
def classes : Array Class := #[k0, k1, k2, k3, k4, k5, k6, k7, k8, k9, k10, k11]
def interned : List (Array UInt16 × Addr) := []
def slotsUsed : Nat := 0
def theMethod : MethodId := ⟨1, 2⟩
def args0 : Array Value := #[.int 5, .int 2]
def aboutOver (below : List Frame) : State where
  vm := { classes := classes, interned := interned.toArray }
  heap := heap
  slotsUsed := slotsUsed
  threads := #[{ frames := .invoking theMethod args0 :: below }]
def below0 : List Frame := [.native { method := ⟨0, 0⟩, args := #[] }]
def about1 : State := aboutOver below0
def p0 : Program := .bare "" "" ""
def e0 : Env := launch0.env 0 0 0
theorem w_frames : about1.frames = Frame.invoking theMethod args0 :: below0 := rfl
set_option maxRecDepth 65536 in
theorem w_args : argsFit about1.vm theMethod args0 = true := by decide +kernel
set_option maxRecDepth 65536 in
theorem w_heap : heapFits about1 = true := by decide +kernel
set_option maxRecDepth 65536 in
theorem w_runnable : about1.curStatus? = some .runnable := by decide +kernel
set_option maxRecDepth 65536 in
theorem w_alone : about1.alone = true := by decide +kernel
set_option maxRecDepth 65536 in
theorem w_named : about1.methodNamed? x = some theMethod := by decide +kernel
set_option maxRecDepth 65536 in
theorem w_hears : about1.hears theMethod below0 = true := by decide +kernel
set_option maxRecDepth 65536 in
theorem w_ripe : about1.ripe theMethod args0 below0 = true := by decide +kernel
theorem w_running : about1.status = .running := rfl
set_option maxRecDepth 65536 in
theorem w_room : about1.hasRoom e0.platform room_1 = true :=
  launch0.hasRoom_least _ room_1 (by decide +kernel) (by decide +kernel) (by decide +kernel) (by decide +kernel) (by decide +kernel) (by decide +kernel)
theorem allAtoms_all (ts : List Jvm.Cond) (a : Array Jvm.Value) (st : Jvm.State) : (allAtoms ts).before a st = ts.all (fun c => c.before a st) := by
  induction ts with
  | nil => rfl
  | cons c t ih =>
    show (Jvm.Cond.and c (allAtoms t)).before a st = _
    rw [Jvm.Cond.before_and, ih, List.all_cons]
def words1 : List Jvm.Cond := Jvm.Cond.code x code maxLocals ret :: tables_1
/-- a 'code' word, met by the world's own term for the bytes: nothing is compared byte by byte -/
theorem code_word {y : MethodName} {bytes : ByteArray} {mx : Nat} {rt : Option FieldType} {a : Array Value} {s : State} {m : MethodId} {meth : Method} {c : Code} (h1 : s.methodNamed? y = some m) (h2 : s.vm.method? m = some meth) (h3 : meth.code = some c) (h4 : c.code = bytes)
    (h5 : (c.maxLocals == mx && c.exceptionTable.isEmpty && decide (c.maxStack ≤ mostOperands) && decide (meth.sig.returnType = rt) && !meth.locks && decide (parseMethodDescriptor y.desc = some meth.sig)) = true) : (Jvm.Cond.code y bytes mx rt).before a s = true := by
  simp only [Bool.and_eq_true, beq_iff_eq, Bool.not_eq_true', decide_eq_true_eq] at h5
  obtain ⟨⟨⟨⟨⟨g1, g2⟩, g3⟩, g4⟩, g5⟩, g6⟩ := h5
  simp [Cond.before, Cond.holds, Cond.value, h1, h2, h3, h4, g1, g2, g3, g4, g5, g6]
def isCode : Jvm.Cond → Bool
  | .code _ _ _ _ => true
  | _ => false
theorem all_split {L : List Jvm.Cond} {P : Jvm.Cond → Bool} (h1 : L.all (fun c => isCode c || P c) = true) (h2 : ∀ c ∈ L.filter isCode, P c = true) : L.all P = true := by
  refine List.all_eq_true.mpr fun c hc => ?_
  have h := List.all_eq_true.mp h1 c hc
  rcases Bool.eq_false_or_eq_true (isCode c) with hi | hi
  · exact h2 c (List.mem_filter.mpr ⟨hc, hi⟩)
  · simpa [hi] using h
set_option maxRecDepth 65536 in
theorem w_c0 : (Jvm.Cond.code x code maxLocals ret).before args0 about1 = true := code_word (m := ⟨1, 2⟩) (meth := k1m2) (c := k1c2) (by decide +kernel) rfl rfl rfl (by decide +kernel)
set_option maxRecDepth 65536 in
theorem w_c1 : (Jvm.Cond.code ({ cls := "com/example/lockstile/lockstile/namespace/Names", name := "isControl", desc := "(I)Z" } : Jvm.MethodName) prog_31_method_3_code (1 : Nat) (Option.some Jvm.ClassFile.FieldType.boolean)).before args0 about1 = true := code_word (m := ⟨2, 1⟩) (meth := k2m1) (c := k2c1) (by decide +kernel) rfl rfl rfl (by decide +kernel)
set_option maxRecDepth 65536 in
theorem w_c2 : (Jvm.Cond.code ({ cls := "java/lang/Character", name := "isISOControl", desc := "(I)Z" } : Jvm.MethodName) jdk_89_method_89_code (1 : Nat) (Option.some Jvm.ClassFile.FieldType.boolean)).before args0 about1 = true := code_word (m := ⟨6, 0⟩) (meth := k6m0) (c := k6c0) (by decide +kernel) rfl rfl rfl (by decide +kernel)
set_option maxRecDepth 65536 in
theorem w_c3 : (Jvm.Cond.code ({ cls := "com/example/lockstile/lockstile/namespace/NamesIsControlPinLaw", name := "ref", desc := "(I)Z" } : Jvm.MethodName) method_2_code (1 : Nat) (Option.some Jvm.ClassFile.FieldType.boolean)).before args0 about1 = true := code_word (m := ⟨1, 1⟩) (meth := k1m1) (c := k1c1) (by decide +kernel) rfl rfl rfl (by decide +kernel)
def codes1 : List Jvm.Cond := [Jvm.Cond.code x code maxLocals ret, Jvm.Cond.code ({ cls := "com/example/lockstile/lockstile/namespace/Names", name := "isControl", desc := "(I)Z" } : Jvm.MethodName) prog_31_method_3_code (1 : Nat) (Option.some Jvm.ClassFile.FieldType.boolean), Jvm.Cond.code ({ cls := "java/lang/Character", name := "isISOControl", desc := "(I)Z" } : Jvm.MethodName) jdk_89_method_89_code (1 : Nat) (Option.some Jvm.ClassFile.FieldType.boolean), Jvm.Cond.code ({ cls := "com/example/lockstile/lockstile/namespace/NamesIsControlPinLaw", name := "ref", desc := "(I)Z" } : Jvm.MethodName) method_2_code (1 : Nat) (Option.some Jvm.ClassFile.FieldType.boolean)]
set_option maxRecDepth 65536 in
theorem codes_eq : words1.filter isCode = codes1 := rfl
theorem w_codes : ∀ c ∈ words1.filter isCode, c.before args0 about1 = true := by
  rw [codes_eq]
  intro c hc
  simp only [codes1, List.mem_cons, List.not_mem_nil, or_false] at hc
  rcases hc with rfl | rfl | rfl | rfl
  · exact w_c0
  · exact w_c1
  · exact w_c2
  · exact w_c3
set_option maxRecDepth 65536 in
theorem w_t1 : words1.all (fun c => isCode c || c.before args0 about1) = true := by decide +kernel
theorem w_tables : (allAtoms (Jvm.Cond.code x code maxLocals ret :: tables_1)).before args0 about1 = true := by
  rw [allAtoms_all]
  show words1.all (fun c => c.before args0 about1) = true
  refine all_split ?_ w_codes
  rw [w_t1]
set_option maxRecDepth 65536 in
theorem w_case : (Jvm.Cond.and given_1 narrow_1).before args0 about1 = true := by decide +kernel
theorem w_applies : (headSpec (Jvm.Cond.code x code maxLocals ret :: tables_1) room_1).applies x e0.platform about1 = true :=
  (Spec.applies_iff w_frames).mpr ⟨w_running, w_runnable, w_alone, w_named, w_hears, w_ripe, w_room, w_tables⟩
theorem atStart : AtStart classFile x code maxLocals ret World_1 tables_1 room_1 Calls_1 rest_1 Pre_1 launch0 p0 e0 about1 theMethod args0 below0 :=
  ⟨lists_1, trivial, launch0.admits_env _ _ _, launch0.least_env, fairChoices_fair.cas, fairChoices_fair.clock, w_frames, w_args, w_heap, w_applies, trivial, trivial, w_case⟩
end start1
theorem witness_1 : WitnessClaimed_1 := ⟨start1.p0, start1.e0, start1.about1, start1.theMethod, start1.args0, start1.below0, start1.atStart⟩
end Jvm.Pilot.@@N@@
