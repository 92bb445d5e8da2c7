import JvmDerived
import JvmDerived.Pilot.@@N@@Statement
import JvmDerived.Pilot.@@N@@Code
set_option linter.unusedVariables false
set_option linter.unusedSimpArgs false
namespace Jvm.RoadKit
open Sem ClassFile Op Lib Jvm.Stand Jvm.Free Jvm.LawKit
section New
variable {p : Program} {l : Launch} {e : Env} {R : Room} {s : State} {m : MethodId} {args : Array Value} {below : List Frame} {meth : Method} {c : Code} {T : State} {locs : List Loc} {cells slots : Nat}
theorem retI (X : Stand p l e R s m args below meth c T locs cells slots) (hx : p.tables.exec = Jvm.exec) {pc : Nat} {Ls : Array Slot} {z : Int32} {rest : List Value} (hret : meth.sig.returnType = some .int) (hd : decode c.code pc = .ok (.ireturn, 1)) {fs : List Frame}
    (hl : ∀ (f : JFrame) (acts : List Action), f.method = m → f.locked = none → f.entered = [] → (doReturn e (T.setTop f) acts (some (.int z))).1 = T.setFrames fs) : Steps p.tables e below (T.setTop (mkF m pc Ls (.int z :: rest))) (T.setFrames fs) := by
  have hm' : T.vm.method? m = some meth := X.method'
  have hn : narrow .int (.int z) = .int z := rfl
  show Steps p.tables e below (T.setTop { method := m, pc := pc, locals := Ls, stack := _ :: rest, locked := none }) _
  jvm_step X.here [X.here.top, hx, hd, hm', hret, hn]
  first | (intro acts; rw [hl _ acts rfl rfl rfl]) | rw [hl _ _ rfl rfl rfl]
  exact Steps.refl _
end New
end Jvm.RoadKit
namespace Jvm.Pilot.@@N@@
open Jvm Jvm.ClassFile Sem Op Lib Jvm.Free Jvm.Stand Jvm.LawKit Jvm.RoadKit Bundle Jvm.Pilot.@@N@@.Jvm.D
/-- who comes to t from this place of the method comes to t from G -/
abbrev Kt (p : Program) (e : Env) (below : List Frame) (m : MethodId) (G T : State) (pc : Nat) (Ls : Array Slot) (st : List Value) : Prop :=
  ∀ t, Steps p.tables e below (T.setTop (mkF m pc Ls st)) t → Steps p.tables e below G t
/-! plain facts -/
def own_b (P : Prop) [Decidable P] : Int32 := if P then 1 else 0
theorem own_b1 {P : Prop} [Decidable P] (h : P) : (1 : Int32) = own_b P := (if_pos h).symm
theorem own_b0 {P : Prop} [Decidable P] (h : ¬ P) : (0 : Int32) = own_b P := (if_neg h).symm
theorem own_bn {P Q : Prop} [Decidable P] [Decidable Q] (h : P ↔ Q) : own_b P = own_b Q := by
  unfold own_b
  by_cases h1 : P
  · rw [if_pos h1, if_pos (h.mp h1)]
  · rw [if_neg h1, if_neg (fun q => h1 (h.mpr q))]
def own_pick (k : Int32) (a b c d e f : Addr) : Addr := if k = 0 then a else if k = 1 then b else if k = 2 then c else if k = 3 then d else if k = 4 then e else f
theorem own_pickAll {P : Addr → Prop} {a b c d e f : Addr} (k : Int32) (ha : P a) (hb : P b) (hc : P c) (hd : P d) (he : P e) (hf : P f) : P (own_pick k a b c d e f) := by
  unfold own_pick
  split
  · exact ha
  split
  · exact hb
  split
  · exact hc
  split
  · exact hd
  split
  · exact he
  exact hf
theorem own_left {a b c d e f : Addr} (k : Int32) (n1 : a ≠ c) (n2 : a ≠ d) (n3 : a ≠ e) (n4 : a ≠ f) (m1 : b ≠ c) (m2 : b ≠ d) (m3 : b ≠ e) (m4 : b ≠ f) :
    (own_pick k a b c d e f = c ∨ own_pick k a b c d e f = d ∨ own_pick k a b c d e f = e ∨ own_pick k a b c d e f = f) ↔ (¬ k = 0 ∧ ¬ k = 1) := by
  unfold own_pick
  by_cases h0 : k = 0
  · simp [h0, n1, n2, n3, n4]
  by_cases h1 : k = 1
  · simp [h1, m1, m2, m3, m4]
  by_cases h2 : k = 2
  · simp [h2]
  by_cases h3 : k = 3
  · simp [h3]
  by_cases h4 : k = 4
  · simp [h4]
  simp [h0, h1, h2, h3, h4]
theorem own_eqI {args : Array Value} {first s : State} {o : Option Outcome} {idx : List Nat} {t : Term} {n : Int32} (h : (Jvm.Cond.eq t (.int n)).value args first o s idx = some true) : t.eval args first o idx s = some (.int n) := by
  obtain ⟨x, y, e1, e2, -, k2⟩ := cmp_v (Or.inl h)
  cases (Term.int_eval n).symm.trans e2
  obtain ⟨z, rfl⟩ := k2
  have q : z = n := gotT (Cond.eq_ints e1 (Term.int_eval n)) h
  rw [e1, q]
theorem d1_0 : decode method_2_code 0 = .ok (.iload_n 0, 1) := by decide +kernel
theorem d1_1 : decode method_2_code 1 = .ok (.ifCond .ne 7, 3) := by decide +kernel
theorem d1_4 : decode method_2_code 4 = .ok (.getstatic 7, 3) := by decide +kernel
theorem d1_7 : decode method_2_code 7 = .ok (.areturn, 1) := by decide +kernel
theorem d1_8 : decode method_2_code 8 = .ok (.iload_n 0, 1) := by decide +kernel
theorem d1_9 : decode method_2_code 9 = .ok (.iconst 1, 1) := by decide +kernel
theorem d1_10 : decode method_2_code 10 = .ok (.if_icmp .ne 7, 3) := by decide +kernel
theorem d1_13 : decode method_2_code 13 = .ok (.getstatic 13, 3) := by decide +kernel
theorem d1_16 : decode method_2_code 16 = .ok (.areturn, 1) := by decide +kernel
theorem d1_17 : decode method_2_code 17 = .ok (.iload_n 0, 1) := by decide +kernel
theorem d1_18 : decode method_2_code 18 = .ok (.iconst 2, 1) := by decide +kernel
theorem d1_19 : decode method_2_code 19 = .ok (.if_icmp .ne 7, 3) := by decide +kernel
theorem d1_22 : decode method_2_code 22 = .ok (.getstatic 16, 3) := by decide +kernel
theorem d1_25 : decode method_2_code 25 = .ok (.areturn, 1) := by decide +kernel
theorem d1_26 : decode method_2_code 26 = .ok (.iload_n 0, 1) := by decide +kernel
theorem d1_27 : decode method_2_code 27 = .ok (.iconst 3, 1) := by decide +kernel
theorem d1_28 : decode method_2_code 28 = .ok (.if_icmp .ne 7, 3) := by decide +kernel
theorem d1_31 : decode method_2_code 31 = .ok (.getstatic 19, 3) := by decide +kernel
theorem d1_34 : decode method_2_code 34 = .ok (.areturn, 1) := by decide +kernel
theorem d1_35 : decode method_2_code 35 = .ok (.iload_n 0, 1) := by decide +kernel
theorem d1_36 : decode method_2_code 36 = .ok (.iconst 4, 1) := by decide +kernel
theorem d1_37 : decode method_2_code 37 = .ok (.if_icmp .ne 7, 3) := by decide +kernel
theorem d1_40 : decode method_2_code 40 = .ok (.getstatic 22, 3) := by decide +kernel
theorem d1_43 : decode method_2_code 43 = .ok (.areturn, 1) := by decide +kernel
theorem d1_44 : decode method_2_code 44 = .ok (.getstatic 25, 3) := by decide +kernel
theorem d1_47 : decode method_2_code 47 = .ok (.areturn, 1) := by decide +kernel
theorem pn1 : plainName "com/example/threadwright/threadwright/execution/EndingLeftRunningPinLaw" = true := by first | (simp [plainName, overriddenIn]; done) | decide +kernel
theorem pd_0 : parseMethodDescriptor "()Z" = some ⟨[], some .boolean⟩ := by decide +kernel
theorem pd_1 : parseMethodDescriptor "(I)Lcom/example/threadwright/threadwright/execution/Ending;" = some ⟨[.int], some (.object "com/example/threadwright/threadwright/execution/Ending")⟩ := by decide +kernel
theorem ef1 (m : MethodId) (p1 : Int32) : entryFrame m #[(.int p1)] 1 = mkF m 0 #[.val (.int p1)] [] := by first | (simp [entryFrame, mkF, argsToLocals, Value.category]; done) | rfl
def Q1 (Z : State) (p1 : Int32) (aA : Addr) (aV : Addr) (aD : Addr) (aH : Addr) (aC : Addr) (aE : Addr) (h0 : Heap) (n0 : Nat) (v : Option Value) (h : Heap) (L : List Loc) : Prop := v = some (.ref (own_pick p1 aA aV aD aH aC aE)) ∧ Fr n0 L ∧ h = h0
set_option maxRecDepth 65536 in
set_option maxHeartbeats 40000000 in
theorem rm1 (l : Launch) (Z : State) (a0 : Array Value) (hw : ∀ d ∈ tables_1, d.before a0 Z = true) (ws : List Jvm.Cond) (p1 : Int32) (aA : Addr) (aV : Addr) (aD : Addr) (aH : Addr) (aC : Addr) (aE : Addr) (h0 : Heap) (n0 : Nat) (Z0 : n0 ≤ h0.size) (SaA : Sta Z h0 "com/example/threadwright/threadwright/execution/Ending" "ADMITTED" "Lcom/example/threadwright/threadwright/execution/Ending;" (.ref aA)) (SaV : Sta Z h0 "com/example/threadwright/threadwright/execution/Ending" "VIOLATION" "Lcom/example/threadwright/threadwright/execution/Ending;" (.ref aV)) (SaD : Sta Z h0 "com/example/threadwright/threadwright/execution/Ending" "DEADLOCK" "Lcom/example/threadwright/threadwright/execution/Ending;" (.ref aD)) (SaH : Sta Z h0 "com/example/threadwright/threadwright/execution/Ending" "HUNG" "Lcom/example/threadwright/threadwright/execution/Ending;" (.ref aH)) (SaC : Sta Z h0 "com/example/threadwright/threadwright/execution/Ending" "CUT" "Lcom/example/threadwright/threadwright/execution/Ending;" (.ref aC)) (SaE : Sta Z h0 "com/example/threadwright/threadwright/execution/Ending" "EXPIRED" "Lcom/example/threadwright/threadwright/execution/Ending;" (.ref aE)) :
    MetFree l (⟨"com/example/threadwright/threadwright/execution/EndingLeftRunningPinLaw", "pick", "(I)Lcom/example/threadwright/threadwright/execution/Ending;"⟩ : MethodName) (head1 (Jvm.Cond.code (⟨"com/example/threadwright/threadwright/execution/EndingLeftRunningPinLaw", "pick", "(I)Lcom/example/threadwright/threadwright/execution/Ending;"⟩ : MethodName) method_2_code 1 (some (.object "com/example/threadwright/threadwright/execution/Ending")) :: ws) ({ frames := 0, cells := 0, slots := 0, locals := 0 } : Room)) (fun gs' U => gs' = #[(.int p1)] ∧ Z.Warmed39 U.vm ∧ U.heap = h0) (fun _ _ _ _ _ => True) (fun _ U o U' => ∃ v L, o = .returned v ∧ Q1 Z p1 aA aV aD aH aC aE h0 n0 v U'.heap L ∧ FrameEnd U o U' L ({ frames := 0, cells := 0, slots := 0, locals := 0 } : Room).cells ({ frames := 0, cells := 0, slots := 0, locals := 0 } : Room).slots) := by
  refine MetFree.of_bodySF (plainFor_of_name pn1) hisR ?_
  intro p e s m args below meth c s₁ Bd hml0 hP hK
  obtain ⟨rfl, hZ, hh⟩ := hP
  have hx := Bd.exec
  have hby := Bd.bytes
  have hml : c.maxLocals = 1 := hml0
  have hown : s.vm.findClass "com/example/threadwright/threadwright/execution/EndingLeftRunningPinLaw" = some m.cls := findClass_of_methodNamed Bd.named
  have hnm := (name_of_methodNamed Bd.named Bd.method).1
  have X0 : Stand p l e ({ frames := 0, cells := 0, slots := 0, locals := 0 } : Room) s m #[(.int p1)] below meth c s₁ [] 0 0 := Stand.of_body Bd
  have e0 : s₁.heap = h0 := by rw [← hh, Bd.state]; rfl
  have N0 := Fr.nil n0
  have k0 : Kt p e below m (s₁.setTop (entryFrame m #[(.int p1)] 1)) s₁ 0 #[.val (.int p1)] [] := fun t ht => castTop (ef1 m p1) ht
  have k1 : Kt p e below m (s₁.setTop (entryFrame m #[(.int p1)] 1)) s₁ 1 #[.val (.int p1)] [(.int p1)] := by
    intro t ht
    refine k0 t ?_
    show Steps p.tables e below (s₁.setTop (mkF m 0 #[.val (.int p1)] [])) t
    refine XS.iloadN X0.here hx rfl (hb hby d1_0) rfl ?_
    exact ht
  by_cases hc0 : p1 = (0 : Int32)
  · have k2 : Kt p e below m (s₁.setTop (entryFrame m #[(.int p1)] 1)) s₁ 4 #[.val (.int p1)] [] := by
      intro t ht
      refine k1 t ?_
      show Steps p.tables e below (s₁.setTop (mkF m 1 #[.val (.int p1)] [(.int p1)])) t
      refine XS.ifNo X0.here hx rfl (hb hby d1_1) rfl ((if0 _ _).trans (teq hc0).2) ?_
      exact ht
    obtain ⟨T3, X3, e3, st3⟩ := getS2 X0 hx hZ hown (host := "") (Or.inl (hw _ (List.mem_of_getElem? (i := 5) rfl))) Via.refl e0 SaA (g := (mkF m 4 #[.val (.int p1)] [])) rfl (hb hby d1_4)
    have k3 : Kt p e below m (s₁.setTop (entryFrame m #[(.int p1)] 1)) T3 7 #[.val (.int p1)] [(.ref aA)] := fun t ht => k2 t (st3 t ht)
    obtain ⟨fs, hr, hrun, hended, hW, hsame⟩ := X3.leave (v := some (.ref aA)) (fun h => by rw [Bd.returns] at h; cases h)
    refine ⟨_, _, k3 _ ?_, hrun, hended, _, _, rfl, ?_, ⟨_, rfl⟩, hW, hsame.mono (by decide) (by decide)⟩
    · show Steps p.tables e below (T3.setTop (mkF m 7 #[.val (.int p1)] [(.ref aA)])) _
      jvm_step X3.here [X3.here.top, hx, (hb hby d1_7), X3.method', Bd.returns, Value.isRef, FieldType.isReference]
      first | (intro acts; rw [hr _ acts rfl rfl rfl]) | rw [hr _ _ rfl rfl rfl]
      exact Steps.refl _
    · show Q1 Z p1 aA aV aD aH aC aE h0 n0 _ T3.heap _
      rw [e3]
      exact ⟨congrArg (fun z => some (Value.ref z)) (by unfold own_pick; simp [hc0]), N0, rfl⟩
  · have k4 : Kt p e below m (s₁.setTop (entryFrame m #[(.int p1)] 1)) s₁ 10 #[.val (.int p1)] [(.int (1 : Int32)), (.int p1)] := by
      intro t ht
      refine k1 t ?_
      show Steps p.tables e below (s₁.setTop (mkF m 1 #[.val (.int p1)] [(.int p1)])) t
      refine XS.ifYes X0.here hx rfl (pc0 := 1) (pc' := 8) rfl (hb hby d1_1) rfl ((if0 _ _).trans (feq hc0).2) (by decide) (by decide) ?_
      show Steps p.tables e below (s₁.setTop (mkF m 8 #[.val (.int p1)] [])) t
      refine XS.iloadN X0.here hx rfl (hb hby d1_8) rfl ?_
      show Steps p.tables e below (s₁.setTop (mkF m 9 #[.val (.int p1)] [(.int p1)])) t
      refine XS.iconst X0.here hx rfl (hb hby d1_9) ?_
      exact ht
    by_cases hc1 : p1 = (1 : Int32)
    · have k5 : Kt p e below m (s₁.setTop (entryFrame m #[(.int p1)] 1)) s₁ 13 #[.val (.int p1)] [] := by
        intro t ht
        refine k4 t ?_
        show Steps p.tables e below (s₁.setTop (mkF m 10 #[.val (.int p1)] [(.int (1 : Int32)), (.int p1)])) t
        refine XS.icmpNo X0.here hx rfl (hb hby d1_10) rfl (teq hc1).2 ?_
        exact ht
      obtain ⟨T6, X6, e6, st6⟩ := getS2 X0 hx hZ hown (host := "") (Or.inl (hw _ (List.mem_of_getElem? (i := 23) rfl))) Via.refl e0 SaV (g := (mkF m 13 #[.val (.int p1)] [])) rfl (hb hby d1_13)
      have k6 : Kt p e below m (s₁.setTop (entryFrame m #[(.int p1)] 1)) T6 16 #[.val (.int p1)] [(.ref aV)] := fun t ht => k5 t (st6 t ht)
      obtain ⟨fs, hr, hrun, hended, hW, hsame⟩ := X6.leave (v := some (.ref aV)) (fun h => by rw [Bd.returns] at h; cases h)
      refine ⟨_, _, k6 _ ?_, hrun, hended, _, _, rfl, ?_, ⟨_, rfl⟩, hW, hsame.mono (by decide) (by decide)⟩
      · show Steps p.tables e below (T6.setTop (mkF m 16 #[.val (.int p1)] [(.ref aV)])) _
        jvm_step X6.here [X6.here.top, hx, (hb hby d1_16), X6.method', Bd.returns, Value.isRef, FieldType.isReference]
        first | (intro acts; rw [hr _ acts rfl rfl rfl]) | rw [hr _ _ rfl rfl rfl]
        exact Steps.refl _
      · show Q1 Z p1 aA aV aD aH aC aE h0 n0 _ T6.heap _
        rw [e6]
        exact ⟨congrArg (fun z => some (Value.ref z)) (by unfold own_pick; simp [hc0, hc1]), N0, rfl⟩
    · have k7 : Kt p e below m (s₁.setTop (entryFrame m #[(.int p1)] 1)) s₁ 19 #[.val (.int p1)] [(.int (2 : Int32)), (.int p1)] := by
        intro t ht
        refine k4 t ?_
        show Steps p.tables e below (s₁.setTop (mkF m 10 #[.val (.int p1)] [(.int (1 : Int32)), (.int p1)])) t
        refine XS.icmpYes X0.here hx rfl (pc0 := 10) (pc' := 17) rfl (hb hby d1_10) rfl (feq hc1).2 (by decide) (by decide) ?_
        show Steps p.tables e below (s₁.setTop (mkF m 17 #[.val (.int p1)] [])) t
        refine XS.iloadN X0.here hx rfl (hb hby d1_17) rfl ?_
        show Steps p.tables e below (s₁.setTop (mkF m 18 #[.val (.int p1)] [(.int p1)])) t
        refine XS.iconst X0.here hx rfl (hb hby d1_18) ?_
        exact ht
      by_cases hc2 : p1 = (2 : Int32)
      · have k8 : Kt p e below m (s₁.setTop (entryFrame m #[(.int p1)] 1)) s₁ 22 #[.val (.int p1)] [] := by
          intro t ht
          refine k7 t ?_
          show Steps p.tables e below (s₁.setTop (mkF m 19 #[.val (.int p1)] [(.int (2 : Int32)), (.int p1)])) t
          refine XS.icmpNo X0.here hx rfl (hb hby d1_19) rfl (teq hc2).2 ?_
          exact ht
        obtain ⟨T9, X9, e9, st9⟩ := getS2 X0 hx hZ hown (host := "") (Or.inl (hw _ (List.mem_of_getElem? (i := 22) rfl))) Via.refl e0 SaD (g := (mkF m 22 #[.val (.int p1)] [])) rfl (hb hby d1_22)
        have k9 : Kt p e below m (s₁.setTop (entryFrame m #[(.int p1)] 1)) T9 25 #[.val (.int p1)] [(.ref aD)] := fun t ht => k8 t (st9 t ht)
        obtain ⟨fs, hr, hrun, hended, hW, hsame⟩ := X9.leave (v := some (.ref aD)) (fun h => by rw [Bd.returns] at h; cases h)
        refine ⟨_, _, k9 _ ?_, hrun, hended, _, _, rfl, ?_, ⟨_, rfl⟩, hW, hsame.mono (by decide) (by decide)⟩
        · show Steps p.tables e below (T9.setTop (mkF m 25 #[.val (.int p1)] [(.ref aD)])) _
          jvm_step X9.here [X9.here.top, hx, (hb hby d1_25), X9.method', Bd.returns, Value.isRef, FieldType.isReference]
          first | (intro acts; rw [hr _ acts rfl rfl rfl]) | rw [hr _ _ rfl rfl rfl]
          exact Steps.refl _
        · show Q1 Z p1 aA aV aD aH aC aE h0 n0 _ T9.heap _
          rw [e9]
          exact ⟨congrArg (fun z => some (Value.ref z)) (by unfold own_pick; simp [hc0, hc1, hc2]), N0, rfl⟩
      · have k10 : Kt p e below m (s₁.setTop (entryFrame m #[(.int p1)] 1)) s₁ 28 #[.val (.int p1)] [(.int (3 : Int32)), (.int p1)] := by
          intro t ht
          refine k7 t ?_
          show Steps p.tables e below (s₁.setTop (mkF m 19 #[.val (.int p1)] [(.int (2 : Int32)), (.int p1)])) t
          refine XS.icmpYes X0.here hx rfl (pc0 := 19) (pc' := 26) rfl (hb hby d1_19) rfl (feq hc2).2 (by decide) (by decide) ?_
          show Steps p.tables e below (s₁.setTop (mkF m 26 #[.val (.int p1)] [])) t
          refine XS.iloadN X0.here hx rfl (hb hby d1_26) rfl ?_
          show Steps p.tables e below (s₁.setTop (mkF m 27 #[.val (.int p1)] [(.int p1)])) t
          refine XS.iconst X0.here hx rfl (hb hby d1_27) ?_
          exact ht
        by_cases hc3 : p1 = (3 : Int32)
        · have k11 : Kt p e below m (s₁.setTop (entryFrame m #[(.int p1)] 1)) s₁ 31 #[.val (.int p1)] [] := by
            intro t ht
            refine k10 t ?_
            show Steps p.tables e below (s₁.setTop (mkF m 28 #[.val (.int p1)] [(.int (3 : Int32)), (.int p1)])) t
            refine XS.icmpNo X0.here hx rfl (hb hby d1_28) rfl (teq hc3).2 ?_
            exact ht
          obtain ⟨T12, X12, e12, st12⟩ := getS2 X0 hx hZ hown (host := "") (Or.inl (hw _ (List.mem_of_getElem? (i := 21) rfl))) Via.refl e0 SaH (g := (mkF m 31 #[.val (.int p1)] [])) rfl (hb hby d1_31)
          have k12 : Kt p e below m (s₁.setTop (entryFrame m #[(.int p1)] 1)) T12 34 #[.val (.int p1)] [(.ref aH)] := fun t ht => k11 t (st12 t ht)
          obtain ⟨fs, hr, hrun, hended, hW, hsame⟩ := X12.leave (v := some (.ref aH)) (fun h => by rw [Bd.returns] at h; cases h)
          refine ⟨_, _, k12 _ ?_, hrun, hended, _, _, rfl, ?_, ⟨_, rfl⟩, hW, hsame.mono (by decide) (by decide)⟩
          · show Steps p.tables e below (T12.setTop (mkF m 34 #[.val (.int p1)] [(.ref aH)])) _
            jvm_step X12.here [X12.here.top, hx, (hb hby d1_34), X12.method', Bd.returns, Value.isRef, FieldType.isReference]
            first | (intro acts; rw [hr _ acts rfl rfl rfl]) | rw [hr _ _ rfl rfl rfl]
            exact Steps.refl _
          · show Q1 Z p1 aA aV aD aH aC aE h0 n0 _ T12.heap _
            rw [e12]
            exact ⟨congrArg (fun z => some (Value.ref z)) (by unfold own_pick; simp [hc0, hc1, hc2, hc3]), N0, rfl⟩
        · have k13 : Kt p e below m (s₁.setTop (entryFrame m #[(.int p1)] 1)) s₁ 37 #[.val (.int p1)] [(.int (4 : Int32)), (.int p1)] := by
            intro t ht
            refine k10 t ?_
            show Steps p.tables e below (s₁.setTop (mkF m 28 #[.val (.int p1)] [(.int (3 : Int32)), (.int p1)])) t
            refine XS.icmpYes X0.here hx rfl (pc0 := 28) (pc' := 35) rfl (hb hby d1_28) rfl (feq hc3).2 (by decide) (by decide) ?_
            show Steps p.tables e below (s₁.setTop (mkF m 35 #[.val (.int p1)] [])) t
            refine XS.iloadN X0.here hx rfl (hb hby d1_35) rfl ?_
            show Steps p.tables e below (s₁.setTop (mkF m 36 #[.val (.int p1)] [(.int p1)])) t
            refine XS.iconst X0.here hx rfl (hb hby d1_36) ?_
            exact ht
          by_cases hc4 : p1 = (4 : Int32)
          · have k14 : Kt p e below m (s₁.setTop (entryFrame m #[(.int p1)] 1)) s₁ 40 #[.val (.int p1)] [] := by
              intro t ht
              refine k13 t ?_
              show Steps p.tables e below (s₁.setTop (mkF m 37 #[.val (.int p1)] [(.int (4 : Int32)), (.int p1)])) t
              refine XS.icmpNo X0.here hx rfl (hb hby d1_37) rfl (teq hc4).2 ?_
              exact ht
            obtain ⟨T15, X15, e15, st15⟩ := getS2 X0 hx hZ hown (host := "") (Or.inl (hw _ (List.mem_of_getElem? (i := 26) rfl))) Via.refl e0 SaC (g := (mkF m 40 #[.val (.int p1)] [])) rfl (hb hby d1_40)
            have k15 : Kt p e below m (s₁.setTop (entryFrame m #[(.int p1)] 1)) T15 43 #[.val (.int p1)] [(.ref aC)] := fun t ht => k14 t (st15 t ht)
            obtain ⟨fs, hr, hrun, hended, hW, hsame⟩ := X15.leave (v := some (.ref aC)) (fun h => by rw [Bd.returns] at h; cases h)
            refine ⟨_, _, k15 _ ?_, hrun, hended, _, _, rfl, ?_, ⟨_, rfl⟩, hW, hsame.mono (by decide) (by decide)⟩
            · show Steps p.tables e below (T15.setTop (mkF m 43 #[.val (.int p1)] [(.ref aC)])) _
              jvm_step X15.here [X15.here.top, hx, (hb hby d1_43), X15.method', Bd.returns, Value.isRef, FieldType.isReference]
              first | (intro acts; rw [hr _ acts rfl rfl rfl]) | rw [hr _ _ rfl rfl rfl]
              exact Steps.refl _
            · show Q1 Z p1 aA aV aD aH aC aE h0 n0 _ T15.heap _
              rw [e15]
              exact ⟨congrArg (fun z => some (Value.ref z)) (by unfold own_pick; simp [hc0, hc1, hc2, hc3, hc4]), N0, rfl⟩
          · have k16 : Kt p e below m (s₁.setTop (entryFrame m #[(.int p1)] 1)) s₁ 44 #[.val (.int p1)] [] := by
              intro t ht
              refine k13 t ?_
              show Steps p.tables e below (s₁.setTop (mkF m 37 #[.val (.int p1)] [(.int (4 : Int32)), (.int p1)])) t
              refine XS.icmpYes X0.here hx rfl (pc0 := 37) (pc' := 44) rfl (hb hby d1_37) rfl (feq hc4).2 (by decide) (by decide) ?_
              exact ht
            obtain ⟨T17, X17, e17, st17⟩ := getS2 X0 hx hZ hown (host := "") (Or.inl (hw _ (List.mem_of_getElem? (i := 25) rfl))) Via.refl e0 SaE (g := (mkF m 44 #[.val (.int p1)] [])) rfl (hb hby d1_44)
            have k17 : Kt p e below m (s₁.setTop (entryFrame m #[(.int p1)] 1)) T17 47 #[.val (.int p1)] [(.ref aE)] := fun t ht => k16 t (st17 t ht)
            obtain ⟨fs, hr, hrun, hended, hW, hsame⟩ := X17.leave (v := some (.ref aE)) (fun h => by rw [Bd.returns] at h; cases h)
            refine ⟨_, _, k17 _ ?_, hrun, hended, _, _, rfl, ?_, ⟨_, rfl⟩, hW, hsame.mono (by decide) (by decide)⟩
            · show Steps p.tables e below (T17.setTop (mkF m 47 #[.val (.int p1)] [(.ref aE)])) _
              jvm_step X17.here [X17.here.top, hx, (hb hby d1_47), X17.method', Bd.returns, Value.isRef, FieldType.isReference]
              first | (intro acts; rw [hr _ acts rfl rfl rfl]) | rw [hr _ _ rfl rfl rfl]
              exact Steps.refl _
            · show Q1 Z p1 aA aV aD aH aC aE h0 n0 _ T17.heap _
              rw [e17]
              exact ⟨congrArg (fun z => some (Value.ref z)) (by unfold own_pick; simp [hc0, hc1, hc2, hc3, hc4]), N0, rfl⟩
theorem d2_0 : decode prog_31_method_4_code 0 = .ok (.aload_n 0, 1) := by decide +kernel
theorem d2_1 : decode prog_31_method_4_code 1 = .ok (.getstatic 10, 3) := by decide +kernel
theorem d2_4 : decode prog_31_method_4_code 4 = .ok (.if_acmp .eq 24, 3) := by decide +kernel
theorem d2_7 : decode prog_31_method_4_code 7 = .ok (.aload_n 0, 1) := by decide +kernel
theorem d2_8 : decode prog_31_method_4_code 8 = .ok (.getstatic 13, 3) := by decide +kernel
theorem d2_11 : decode prog_31_method_4_code 11 = .ok (.if_acmp .eq 17, 3) := by decide +kernel
theorem d2_14 : decode prog_31_method_4_code 14 = .ok (.aload_n 0, 1) := by decide +kernel
theorem d2_15 : decode prog_31_method_4_code 15 = .ok (.getstatic 16, 3) := by decide +kernel
theorem d2_18 : decode prog_31_method_4_code 18 = .ok (.if_acmp .eq 10, 3) := by decide +kernel
theorem d2_21 : decode prog_31_method_4_code 21 = .ok (.aload_n 0, 1) := by decide +kernel
theorem d2_22 : decode prog_31_method_4_code 22 = .ok (.getstatic 19, 3) := by decide +kernel
theorem d2_25 : decode prog_31_method_4_code 25 = .ok (.if_acmp .ne 7, 3) := by decide +kernel
theorem d2_28 : decode prog_31_method_4_code 28 = .ok (.iconst 1, 1) := by decide +kernel
theorem d2_29 : decode prog_31_method_4_code 29 = .ok (.goto 4, 3) := by decide +kernel
theorem d2_32 : decode prog_31_method_4_code 32 = .ok (.iconst 0, 1) := by decide +kernel
theorem d2_33 : decode prog_31_method_4_code 33 = .ok (.ireturn, 1) := by decide +kernel
theorem pn2 : plainName "com/example/threadwright/threadwright/execution/Ending" = true := by first | (simp [plainName, overriddenIn]; done) | decide +kernel
theorem ef2 (m : MethodId) (ep : Addr) : entryFrame m #[(.ref ep)] 1 = mkF m 0 #[.val (.ref ep)] [] := by first | (simp [entryFrame, mkF, argsToLocals, Value.category]; done) | rfl
def Q2 (Z : State) (ep : Addr) (aD : Addr) (aH : Addr) (aC : Addr) (aE : Addr) (h0 : Heap) (n0 : Nat) (v : Option Value) (h : Heap) (L : List Loc) : Prop := v = some (.int (own_b (ep = aD ∨ ep = aH ∨ ep = aC ∨ ep = aE))) ∧ Fr n0 L ∧ h = h0
set_option maxRecDepth 65536 in
set_option maxHeartbeats 40000000 in
theorem rm2 (l : Launch) (Z : State) (a0 : Array Value) (hw : ∀ d ∈ tables_1, d.before a0 Z = true) (ws : List Jvm.Cond) (ep : Addr) (aD : Addr) (aH : Addr) (aC : Addr) (aE : Addr) (h0 : Heap) (n0 : Nat) (Z0 : n0 ≤ h0.size) (SaD : Sta Z h0 "com/example/threadwright/threadwright/execution/Ending" "DEADLOCK" "Lcom/example/threadwright/threadwright/execution/Ending;" (.ref aD)) (SaH : Sta Z h0 "com/example/threadwright/threadwright/execution/Ending" "HUNG" "Lcom/example/threadwright/threadwright/execution/Ending;" (.ref aH)) (SaC : Sta Z h0 "com/example/threadwright/threadwright/execution/Ending" "CUT" "Lcom/example/threadwright/threadwright/execution/Ending;" (.ref aC)) (SaE : Sta Z h0 "com/example/threadwright/threadwright/execution/Ending" "EXPIRED" "Lcom/example/threadwright/threadwright/execution/Ending;" (.ref aE)) :
    MetFree l (⟨"com/example/threadwright/threadwright/execution/Ending", "leftRunning", "()Z"⟩ : MethodName) (head1 (Jvm.Cond.code (⟨"com/example/threadwright/threadwright/execution/Ending", "leftRunning", "()Z"⟩ : MethodName) prog_31_method_4_code 1 (some .boolean) :: ws) ({ frames := 0, cells := 0, slots := 0, locals := 0 } : Room)) (fun gs' U => gs' = #[(.ref ep)] ∧ Z.Warmed39 U.vm ∧ U.heap = h0) (fun _ _ _ _ _ => True) (fun _ U o U' => ∃ v L, o = .returned v ∧ Q2 Z ep aD aH aC aE h0 n0 v U'.heap L ∧ FrameEnd U o U' L ({ frames := 0, cells := 0, slots := 0, locals := 0 } : Room).cells ({ frames := 0, cells := 0, slots := 0, locals := 0 } : Room).slots) := by
  refine MetFree.of_bodySF (plainFor_of_name pn2) hisR ?_
  intro p e s m args below meth c s₁ Bd hml0 hP hK
  obtain ⟨rfl, hZ, hh⟩ := hP
  have hx := Bd.exec
  have hby := Bd.bytes
  have hml : c.maxLocals = 1 := hml0
  have hown : s.vm.findClass "com/example/threadwright/threadwright/execution/Ending" = some m.cls := findClass_of_methodNamed Bd.named
  have hnm := (name_of_methodNamed Bd.named Bd.method).1
  have X0 : Stand p l e ({ frames := 0, cells := 0, slots := 0, locals := 0 } : Room) s m #[(.ref ep)] below meth c s₁ [] 0 0 := Stand.of_body Bd
  have e0 : s₁.heap = h0 := by rw [← hh, Bd.state]; rfl
  have N0 := Fr.nil n0
  have k0 : Kt p e below m (s₁.setTop (entryFrame m #[(.ref ep)] 1)) s₁ 0 #[.val (.ref ep)] [] := fun t ht => castTop (ef2 m ep) ht
  have k18 : Kt p e below m (s₁.setTop (entryFrame m #[(.ref ep)] 1)) s₁ 1 #[.val (.ref ep)] [(.ref ep)] := by
    intro t ht
    refine k0 t ?_
    show Steps p.tables e below (s₁.setTop (mkF m 0 #[.val (.ref ep)] [])) t
    refine XS.aloadN X0.here hx rfl (hb hby d2_0) rfl rfl ?_
    exact ht
  obtain ⟨T19, X19, e19, st19⟩ := getS2 X0 hx hZ hown (host := "") (Or.inl (hw _ (List.mem_of_getElem? (i := 13) rfl))) Via.refl e0 SaD (g := (mkF m 1 #[.val (.ref ep)] [(.ref ep)])) rfl (hb hby d2_1)
  have k19 : Kt p e below m (s₁.setTop (entryFrame m #[(.ref ep)] 1)) T19 4 #[.val (.ref ep)] [(.ref aD), (.ref ep)] := fun t ht => k18 t (st19 t ht)
  by_cases hc0 : ep = aD
  · have k20 : Kt p e below m (s₁.setTop (entryFrame m #[(.ref ep)] 1)) T19 33 #[.val (.ref ep)] [(.int (1 : Int32))] := by
      intro t ht
      refine k19 t ?_
      show Steps p.tables e below (T19.setTop (mkF m 4 #[.val (.ref ep)] [(.ref aD), (.ref ep)])) t
      refine Jvm.RoadKit.acmp (g := (mkF m 4 #[.val (.ref ep)] [(.ref aD), (.ref ep)])) X19 hx rfl rfl rfl (pc0 := 4) (pc' := 28) (same := true) rfl (hb hby d2_4) rfl (decide_eq_true (congrArg Value.ref hc0)) (by decide) (by decide) ?_
      show Steps p.tables e below (T19.setTop (mkF m 28 #[.val (.ref ep)] [])) t
      refine XS.iconst X19.here hx rfl (hb hby d2_28) ?_
      show Steps p.tables e below (T19.setTop (mkF m 29 #[.val (.ref ep)] [(.int (1 : Int32))])) t
      refine XS.goto X19.here hx rfl (pc0 := 29) (pc' := 33) rfl (hb hby d2_29) (by decide) (by decide) ?_
      exact ht
    obtain ⟨fs, hr, hrun, hended, hW, hsame⟩ := X19.leave (v := some (.int (1 : Int32))) (fun h => by rw [Bd.returns] at h; cases h)
    refine ⟨_, _, k20 _ ?_, hrun, hended, _, _, rfl, ?_, ⟨_, rfl⟩, hW, hsame.mono (by decide) (by decide)⟩
    · exact retN X19 hx (t := .boolean) Bd.returns (by simp) (hb hby d2_33) hr
    · show Q2 Z ep aD aH aC aE h0 n0 _ T19.heap _
      rw [e19]
      exact ⟨congrArg (fun z => some (Value.int z)) (own_b1 (Or.inl hc0)), N0, rfl⟩
  · have k21 : Kt p e below m (s₁.setTop (entryFrame m #[(.ref ep)] 1)) T19 8 #[.val (.ref ep)] [(.ref ep)] := by
      intro t ht
      refine k19 t ?_
      show Steps p.tables e below (T19.setTop (mkF m 4 #[.val (.ref ep)] [(.ref aD), (.ref ep)])) t
      refine Jvm.RoadKit.acmp (g := (mkF m 4 #[.val (.ref ep)] [(.ref aD), (.ref ep)])) X19 hx rfl rfl rfl (pc0 := 4) (pc' := 7) (same := false) rfl (hb hby d2_4) rfl (decide_eq_false fun q => hc0 (Value.ref.inj q)) (by decide) (by decide) ?_
      show Steps p.tables e below (T19.setTop (mkF m 7 #[.val (.ref ep)] [])) t
      refine XS.aloadN X19.here hx rfl (hb hby d2_7) rfl rfl ?_
      exact ht
    obtain ⟨T22, X22, e22, st22⟩ := getS2 X19 hx hZ hown (host := "") (Or.inl (hw _ (List.mem_of_getElem? (i := 15) rfl))) Via.refl e19 SaH (g := (mkF m 8 #[.val (.ref ep)] [(.ref ep)])) rfl (hb hby d2_8)
    have k22 : Kt p e below m (s₁.setTop (entryFrame m #[(.ref ep)] 1)) T22 11 #[.val (.ref ep)] [(.ref aH), (.ref ep)] := fun t ht => k21 t (st22 t ht)
    by_cases hc1 : ep = aH
    · have k23 : Kt p e below m (s₁.setTop (entryFrame m #[(.ref ep)] 1)) T22 33 #[.val (.ref ep)] [(.int (1 : Int32))] := by
        intro t ht
        refine k22 t ?_
        show Steps p.tables e below (T22.setTop (mkF m 11 #[.val (.ref ep)] [(.ref aH), (.ref ep)])) t
        refine Jvm.RoadKit.acmp (g := (mkF m 11 #[.val (.ref ep)] [(.ref aH), (.ref ep)])) X22 hx rfl rfl rfl (pc0 := 11) (pc' := 28) (same := true) rfl (hb hby d2_11) rfl (decide_eq_true (congrArg Value.ref hc1)) (by decide) (by decide) ?_
        show Steps p.tables e below (T22.setTop (mkF m 28 #[.val (.ref ep)] [])) t
        refine XS.iconst X22.here hx rfl (hb hby d2_28) ?_
        show Steps p.tables e below (T22.setTop (mkF m 29 #[.val (.ref ep)] [(.int (1 : Int32))])) t
        refine XS.goto X22.here hx rfl (pc0 := 29) (pc' := 33) rfl (hb hby d2_29) (by decide) (by decide) ?_
        exact ht
      obtain ⟨fs, hr, hrun, hended, hW, hsame⟩ := X22.leave (v := some (.int (1 : Int32))) (fun h => by rw [Bd.returns] at h; cases h)
      refine ⟨_, _, k23 _ ?_, hrun, hended, _, _, rfl, ?_, ⟨_, rfl⟩, hW, hsame.mono (by decide) (by decide)⟩
      · exact retN X22 hx (t := .boolean) Bd.returns (by simp) (hb hby d2_33) hr
      · show Q2 Z ep aD aH aC aE h0 n0 _ T22.heap _
        rw [e22]
        exact ⟨congrArg (fun z => some (Value.int z)) (own_b1 (Or.inr (Or.inl hc1))), N0, rfl⟩
    · have k24 : Kt p e below m (s₁.setTop (entryFrame m #[(.ref ep)] 1)) T22 15 #[.val (.ref ep)] [(.ref ep)] := by
        intro t ht
        refine k22 t ?_
        show Steps p.tables e below (T22.setTop (mkF m 11 #[.val (.ref ep)] [(.ref aH), (.ref ep)])) t
        refine Jvm.RoadKit.acmp (g := (mkF m 11 #[.val (.ref ep)] [(.ref aH), (.ref ep)])) X22 hx rfl rfl rfl (pc0 := 11) (pc' := 14) (same := false) rfl (hb hby d2_11) rfl (decide_eq_false fun q => hc1 (Value.ref.inj q)) (by decide) (by decide) ?_
        show Steps p.tables e below (T22.setTop (mkF m 14 #[.val (.ref ep)] [])) t
        refine XS.aloadN X22.here hx rfl (hb hby d2_14) rfl rfl ?_
        exact ht
      obtain ⟨T25, X25, e25, st25⟩ := getS2 X22 hx hZ hown (host := "") (Or.inl (hw _ (List.mem_of_getElem? (i := 17) rfl))) Via.refl e22 SaC (g := (mkF m 15 #[.val (.ref ep)] [(.ref ep)])) rfl (hb hby d2_15)
      have k25 : Kt p e below m (s₁.setTop (entryFrame m #[(.ref ep)] 1)) T25 18 #[.val (.ref ep)] [(.ref aC), (.ref ep)] := fun t ht => k24 t (st25 t ht)
      by_cases hc2 : ep = aC
      · have k26 : Kt p e below m (s₁.setTop (entryFrame m #[(.ref ep)] 1)) T25 33 #[.val (.ref ep)] [(.int (1 : Int32))] := by
          intro t ht
          refine k25 t ?_
          show Steps p.tables e below (T25.setTop (mkF m 18 #[.val (.ref ep)] [(.ref aC), (.ref ep)])) t
          refine Jvm.RoadKit.acmp (g := (mkF m 18 #[.val (.ref ep)] [(.ref aC), (.ref ep)])) X25 hx rfl rfl rfl (pc0 := 18) (pc' := 28) (same := true) rfl (hb hby d2_18) rfl (decide_eq_true (congrArg Value.ref hc2)) (by decide) (by decide) ?_
          show Steps p.tables e below (T25.setTop (mkF m 28 #[.val (.ref ep)] [])) t
          refine XS.iconst X25.here hx rfl (hb hby d2_28) ?_
          show Steps p.tables e below (T25.setTop (mkF m 29 #[.val (.ref ep)] [(.int (1 : Int32))])) t
          refine XS.goto X25.here hx rfl (pc0 := 29) (pc' := 33) rfl (hb hby d2_29) (by decide) (by decide) ?_
          exact ht
        obtain ⟨fs, hr, hrun, hended, hW, hsame⟩ := X25.leave (v := some (.int (1 : Int32))) (fun h => by rw [Bd.returns] at h; cases h)
        refine ⟨_, _, k26 _ ?_, hrun, hended, _, _, rfl, ?_, ⟨_, rfl⟩, hW, hsame.mono (by decide) (by decide)⟩
        · exact retN X25 hx (t := .boolean) Bd.returns (by simp) (hb hby d2_33) hr
        · show Q2 Z ep aD aH aC aE h0 n0 _ T25.heap _
          rw [e25]
          exact ⟨congrArg (fun z => some (Value.int z)) (own_b1 (Or.inr (Or.inr (Or.inl hc2)))), N0, rfl⟩
      · have k27 : Kt p e below m (s₁.setTop (entryFrame m #[(.ref ep)] 1)) T25 22 #[.val (.ref ep)] [(.ref ep)] := by
          intro t ht
          refine k25 t ?_
          show Steps p.tables e below (T25.setTop (mkF m 18 #[.val (.ref ep)] [(.ref aC), (.ref ep)])) t
          refine Jvm.RoadKit.acmp (g := (mkF m 18 #[.val (.ref ep)] [(.ref aC), (.ref ep)])) X25 hx rfl rfl rfl (pc0 := 18) (pc' := 21) (same := false) rfl (hb hby d2_18) rfl (decide_eq_false fun q => hc2 (Value.ref.inj q)) (by decide) (by decide) ?_
          show Steps p.tables e below (T25.setTop (mkF m 21 #[.val (.ref ep)] [])) t
          refine XS.aloadN X25.here hx rfl (hb hby d2_21) rfl rfl ?_
          exact ht
        obtain ⟨T28, X28, e28, st28⟩ := getS2 X25 hx hZ hown (host := "") (Or.inl (hw _ (List.mem_of_getElem? (i := 19) rfl))) Via.refl e25 SaE (g := (mkF m 22 #[.val (.ref ep)] [(.ref ep)])) rfl (hb hby d2_22)
        have k28 : Kt p e below m (s₁.setTop (entryFrame m #[(.ref ep)] 1)) T28 25 #[.val (.ref ep)] [(.ref aE), (.ref ep)] := fun t ht => k27 t (st28 t ht)
        by_cases hc3 : ep = aE
        · have k29 : Kt p e below m (s₁.setTop (entryFrame m #[(.ref ep)] 1)) T28 33 #[.val (.ref ep)] [(.int (1 : Int32))] := by
            intro t ht
            refine k28 t ?_
            show Steps p.tables e below (T28.setTop (mkF m 25 #[.val (.ref ep)] [(.ref aE), (.ref ep)])) t
            refine Jvm.RoadKit.acmp (g := (mkF m 25 #[.val (.ref ep)] [(.ref aE), (.ref ep)])) X28 hx rfl rfl rfl (pc0 := 25) (pc' := 28) (same := true) rfl (hb hby d2_25) rfl (decide_eq_true (congrArg Value.ref hc3)) (by decide) (by decide) ?_
            show Steps p.tables e below (T28.setTop (mkF m 28 #[.val (.ref ep)] [])) t
            refine XS.iconst X28.here hx rfl (hb hby d2_28) ?_
            show Steps p.tables e below (T28.setTop (mkF m 29 #[.val (.ref ep)] [(.int (1 : Int32))])) t
            refine XS.goto X28.here hx rfl (pc0 := 29) (pc' := 33) rfl (hb hby d2_29) (by decide) (by decide) ?_
            exact ht
          obtain ⟨fs, hr, hrun, hended, hW, hsame⟩ := X28.leave (v := some (.int (1 : Int32))) (fun h => by rw [Bd.returns] at h; cases h)
          refine ⟨_, _, k29 _ ?_, hrun, hended, _, _, rfl, ?_, ⟨_, rfl⟩, hW, hsame.mono (by decide) (by decide)⟩
          · exact retN X28 hx (t := .boolean) Bd.returns (by simp) (hb hby d2_33) hr
          · show Q2 Z ep aD aH aC aE h0 n0 _ T28.heap _
            rw [e28]
            exact ⟨congrArg (fun z => some (Value.int z)) (own_b1 (Or.inr (Or.inr (Or.inr (hc3))))), N0, rfl⟩
        · have k30 : Kt p e below m (s₁.setTop (entryFrame m #[(.ref ep)] 1)) T28 33 #[.val (.ref ep)] [(.int (0 : Int32))] := by
            intro t ht
            refine k28 t ?_
            show Steps p.tables e below (T28.setTop (mkF m 25 #[.val (.ref ep)] [(.ref aE), (.ref ep)])) t
            refine Jvm.RoadKit.acmp (g := (mkF m 25 #[.val (.ref ep)] [(.ref aE), (.ref ep)])) X28 hx rfl rfl rfl (pc0 := 25) (pc' := 32) (same := false) rfl (hb hby d2_25) rfl (decide_eq_false fun q => hc3 (Value.ref.inj q)) (by decide) (by decide) ?_
            show Steps p.tables e below (T28.setTop (mkF m 32 #[.val (.ref ep)] [])) t
            refine XS.iconst X28.here hx rfl (hb hby d2_32) ?_
            exact ht
          obtain ⟨fs, hr, hrun, hended, hW, hsame⟩ := X28.leave (v := some (.int (0 : Int32))) (fun h => by rw [Bd.returns] at h; cases h)
          refine ⟨_, _, k30 _ ?_, hrun, hended, _, _, rfl, ?_, ⟨_, rfl⟩, hW, hsame.mono (by decide) (by decide)⟩
          · exact retN X28 hx (t := .boolean) Bd.returns (by simp) (hb hby d2_33) hr
          · show Q2 Z ep aD aH aC aE h0 n0 _ T28.heap _
            rw [e28]
            exact ⟨congrArg (fun z => some (Value.int z)) (own_b0 (fun q => q.elim hc0 fun q => q.elim hc1 fun q => q.elim hc2 hc3)), N0, rfl⟩
theorem pn0 : plainName "com/example/threadwright/threadwright/execution/EndingLeftRunningPinLaw" = true := by first | (simp [plainName, overriddenIn]; done) | decide +kernel
theorem ef0 (m : MethodId) (p1 : Int32) : entryFrame m #[(.int p1)] maxLocals = mkF m 0 #[.val (.int p1), .unset, .unset, .unset] [] := by first | (simp [entryFrame, mkF, argsToLocals, Value.category, maxLocals]; done) | rfl
def Q0 (Z : State) (p1 : Int32) (aA : Addr) (aV : Addr) (aD : Addr) (aH : Addr) (aC : Addr) (aE : Addr) (h0 : Heap) (n0 : Nat) (v : Option Value) (h : Heap) (L : List Loc) : Prop := v = some (.int 1) ∧ Fr n0 L
set_option maxRecDepth 65536 in
set_option maxHeartbeats 40000000 in
theorem rm0 (l : Launch) (Z : State) (a0 : Array Value) (hw : ∀ d ∈ tables_1, d.before a0 Z = true) (ws : List Jvm.Cond) (p1 : Int32) (aA : Addr) (aV : Addr) (aD : Addr) (aH : Addr) (aC : Addr) (aE : Addr) (h0 : Heap) (n0 : Nat) (Z0 : n0 ≤ h0.size) (SaA : Sta Z h0 "com/example/threadwright/threadwright/execution/Ending" "ADMITTED" "Lcom/example/threadwright/threadwright/execution/Ending;" (.ref aA)) (SaV : Sta Z h0 "com/example/threadwright/threadwright/execution/Ending" "VIOLATION" "Lcom/example/threadwright/threadwright/execution/Ending;" (.ref aV)) (SaD : Sta Z h0 "com/example/threadwright/threadwright/execution/Ending" "DEADLOCK" "Lcom/example/threadwright/threadwright/execution/Ending;" (.ref aD)) (SaH : Sta Z h0 "com/example/threadwright/threadwright/execution/Ending" "HUNG" "Lcom/example/threadwright/threadwright/execution/Ending;" (.ref aH)) (SaC : Sta Z h0 "com/example/threadwright/threadwright/execution/Ending" "CUT" "Lcom/example/threadwright/threadwright/execution/Ending;" (.ref aC)) (SaE : Sta Z h0 "com/example/threadwright/threadwright/execution/Ending" "EXPIRED" "Lcom/example/threadwright/threadwright/execution/Ending;" (.ref aE)) (EaA : Exa Z h0 aA "com/example/threadwright/threadwright/execution/Ending") (EaV : Exa Z h0 aV "com/example/threadwright/threadwright/execution/Ending") (EaD : Exa Z h0 aD "com/example/threadwright/threadwright/execution/Ending") (EaH : Exa Z h0 aH "com/example/threadwright/threadwright/execution/Ending") (EaC : Exa Z h0 aC "com/example/threadwright/threadwright/execution/Ending") (EaE : Exa Z h0 aE "com/example/threadwright/threadwright/execution/Ending") (naAaD : aA ≠ aD) (naAaH : aA ≠ aH) (naAaC : aA ≠ aC) (naAaE : aA ≠ aE) (naVaD : aV ≠ aD) (naVaH : aV ≠ aH) (naVaC : aV ≠ aC) (naVaE : aV ≠ aE) :
    MetFree l x (head1 (Jvm.Cond.code x code maxLocals ret :: ws) room_1) (fun gs' U => gs' = #[(.int p1)] ∧ Z.Warmed39 U.vm ∧ U.heap = h0) (fun _ _ _ _ _ => True) (fun _ U o U' => ∃ v L, o = .returned v ∧ Q0 Z p1 aA aV aD aH aC aE h0 n0 v U'.heap L ∧ FrameEnd U o U' L room_1.cells room_1.slots) := by
  refine MetFree.of_bodySF (plainFor_of_name pn0) hisR ?_
  intro p e s m args below meth c s₁ Bd hml0 hP hK
  obtain ⟨rfl, hZ, hh⟩ := hP
  have hx := Bd.exec
  have hby := Bd.bytes
  have hml : c.maxLocals = 4 := hml0
  have hown : s.vm.findClass "com/example/threadwright/threadwright/execution/EndingLeftRunningPinLaw" = some m.cls := findClass_of_methodNamed Bd.named
  have hnm := (name_of_methodNamed Bd.named Bd.method).1
  have X0 : Stand p l e room_1 s m #[(.int p1)] below meth c s₁ [] 0 0 := Stand.of_body Bd
  have e0 : s₁.heap = h0 := by rw [← hh, Bd.state]; rfl
  have N0 := Fr.nil n0
  have k0 : Kt p e below m (s₁.setTop (entryFrame m #[(.int p1)] maxLocals)) s₁ 0 #[.val (.int p1), .unset, .unset, .unset] [] := fun t ht => castTop (ef0 m p1) ht
  have k31 : Kt p e below m (s₁.setTop (entryFrame m #[(.int p1)] maxLocals)) s₁ 7 #[.val (.int p1), .unset, .unset, .unset] [(.int ((p1 &&& (2147483647 : Int32)) % (6 : Int32)))] := by
    intro t ht
    refine k0 t ?_
    show Steps p.tables e below (s₁.setTop (mkF m 0 #[.val (.int p1), .unset, .unset, .unset] [])) t
    refine XS.iloadN X0.here hx rfl (hb hby at_0) rfl ?_
    show Steps p.tables e below (s₁.setTop (mkF m 1 #[.val (.int p1), .unset, .unset, .unset] [(.int p1)])) t
    refine X0.ldcInt hx hown (mvT hZ (hw _ (List.mem_of_getElem? (i := 0) rfl))) (g := (mkF m 1 #[.val (.int p1), .unset, .unset, .unset] [(.int p1)])) rfl (hb hby at_1) _ ?_
    show Steps p.tables e below (s₁.setTop (mkF m 3 #[.val (.int p1), .unset, .unset, .unset] [(.int (2147483647 : Int32)), (.int p1)])) t
    refine XS.iand X0.here hx rfl (hb hby at_3) rfl ?_
    show Steps p.tables e below (s₁.setTop (mkF m 4 #[.val (.int p1), .unset, .unset, .unset] [(.int (p1 &&& (2147483647 : Int32)))])) t
    refine XS.bipush X0.here hx rfl (hb hby at_4) ?_
    show Steps p.tables e below (s₁.setTop (mkF m 6 #[.val (.int p1), .unset, .unset, .unset] [(.int (6 : Int32)), (.int (p1 &&& (2147483647 : Int32)))])) t
    refine iremM X0 hx rfl (hb hby at_6) rfl (by decide) ?_
    exact ht
  obtain ⟨k, hk, k32⟩ : ∃ k : Int32, k = ((p1 &&& (2147483647 : Int32)) % (6 : Int32)) ∧ Kt p e below m (s₁.setTop (entryFrame m #[(.int p1)] maxLocals)) s₁ 7 #[.val (.int p1), .unset, .unset, .unset] [(.int k)] := ⟨_, rfl, k31⟩
  have k33 : Kt p e below m (s₁.setTop (entryFrame m #[(.int p1)] maxLocals)) s₁ 9 #[.val (.int p1), .val (.int k), .unset, .unset] [(.int k)] := by
    intro t ht
    refine k32 t ?_
    show Steps p.tables e below (s₁.setTop (mkF m 7 #[.val (.int p1), .unset, .unset, .unset] [(.int k)])) t
    refine XS.istoreN X0.here hx rfl (hb hby at_7) rfl (l' := #[.val (.int p1), .val (.int k), .unset, .unset]) rfl ?_
    show Steps p.tables e below (s₁.setTop (mkF m 8 #[.val (.int p1), .val (.int k), .unset, .unset] [])) t
    refine XS.iloadN X0.here hx rfl (hb hby at_8) rfl ?_
    exact ht
  obtain ⟨_, _, ⟨T34, L34, c34, n34⟩, -, X34, ⟨Lc34, hQ34, l34, y34, z34⟩, st34⟩ := Jvm.LawKit.callS X0 hx (y := (⟨"com/example/threadwright/threadwright/execution/EndingLeftRunningPinLaw", "pick", "(I)Lcom/example/threadwright/threadwright/execution/Ending;"⟩ : MethodName)) hown (mvT hZ (hw _ (List.mem_of_getElem? (i := 1) rfl))) (mvT hZ (hw _ (List.mem_of_getElem? (i := 2) rfl))) (mvT hZ (hw _ (List.mem_of_getElem? (i := 3) rfl))) (mvT hZ (hw _ (List.mem_of_getElem? (i := 4) rfl))) (by decide) (backOf (W := 0) (rm1 l Z a0 hw [] k aA aV aD aH aC aE h0 n0 Z0 SaA SaV SaD SaH SaC SaE) hZ (hw _ (List.mem_of_getElem? (i := 4) rfl)) (hw _ (List.mem_of_getElem? (i := 3) rfl)) (by decide) (by decide)) (g := (mkF m 9 #[.val (.int p1), .val (.int k), .unset, .unset] [(.int k)])) rfl (by rw [hml]; rfl) (argsL := [(.int k)]) (rest := []) (lenOf pd_1 rfl) rfl (by show 2 * 0 + _ ≤ _; exact Nat.le_of_eq rfl) (hb hby at_9) (fun _ _ => ⟨rfl, e0, (by decide : 0 + 0 ≤ _), (by decide : 0 + 0 ≤ _)⟩)
  dsimp only [Pt.U, Pt.locs, Pt.cells, Pt.slots] at X34 l34 y34 z34 st34 hQ34
  subst l34 y34 z34
  obtain ⟨rfl, Nq34, eq1⟩ := hQ34
  have N34 := Fr.app N0 Nq34
  have k34 : Kt p e below m (s₁.setTop (entryFrame m #[(.int p1)] maxLocals)) T34 12 #[.val (.int p1), .val (.int k), .unset, .unset] [(.ref (own_pick k aA aV aD aH aC aE))] := fun t ht => k33 t (st34 t ht)
  have Ex : Exa Z T34.heap (own_pick k aA aV aD aH aC aE) "com/example/threadwright/threadwright/execution/Ending" := by rw [eq1]; exact own_pickAll (P := fun z => Exa Z h0 z "com/example/threadwright/threadwright/execution/Ending") k EaA EaV EaD EaH EaC EaE
  have hl := own_left k naAaD naAaH naAaC naAaE naVaD naVaH naVaC naVaE
  have k35 : Kt p e below m (s₁.setTop (entryFrame m #[(.int p1)] maxLocals)) T34 13 #[.val (.int p1), .val (.int k), .val (.ref (own_pick k aA aV aD aH aC aE)), .unset] [] := by
    intro t ht
    refine k34 t ?_
    show Steps p.tables e below (T34.setTop (mkF m 12 #[.val (.int p1), .val (.int k), .unset, .unset] [(.ref (own_pick k aA aV aD aH aC aE))])) t
    refine XS.astoreN X34.here hx rfl (hb hby at_12) rfl rfl (l' := #[.val (.int p1), .val (.int k), .val (.ref (own_pick k aA aV aD aH aC aE)), .unset]) rfl ?_
    exact ht
  obtain ⟨z, hp36, k36⟩ : ∃ z : Int32, (z = own_b (¬ k = 0 ∧ ¬ k = 1)) ∧ Kt p e below m (s₁.setTop (entryFrame m #[(.int p1)] maxLocals)) T34 34 #[.val (.int p1), .val (.int k), .val (.ref (own_pick k aA aV aD aH aC aE)), .val (.int z)] [] := by
    have k37 : Kt p e below m (s₁.setTop (entryFrame m #[(.int p1)] maxLocals)) T34 14 #[.val (.int p1), .val (.int k), .val (.ref (own_pick k aA aV aD aH aC aE)), .unset] [(.int k)] := by
      intro t ht
      refine k35 t ?_
      show Steps p.tables e below (T34.setTop (mkF m 13 #[.val (.int p1), .val (.int k), .val (.ref (own_pick k aA aV aD aH aC aE)), .unset] [])) t
      refine XS.iloadN X34.here hx rfl (hb hby at_13) rfl ?_
      exact ht
    by_cases hj38 : k = (0 : Int32)
    · have k39 : Kt p e below m (s₁.setTop (entryFrame m #[(.int p1)] maxLocals)) T34 34 #[.val (.int p1), .val (.int k), .val (.ref (own_pick k aA aV aD aH aC aE)), .val (.int (0 : Int32))] [] := by
        intro t ht
        refine k37 t ?_
        show Steps p.tables e below (T34.setTop (mkF m 14 #[.val (.int p1), .val (.int k), .val (.ref (own_pick k aA aV aD aH aC aE)), .unset] [(.int k)])) t
        refine XS.ifNo X34.here hx rfl (hb hby at_14) rfl ((if0 _ _).trans (teq hj38).2) ?_
        show Steps p.tables e below (T34.setTop (mkF m 17 #[.val (.int p1), .val (.int k), .val (.ref (own_pick k aA aV aD aH aC aE)), .unset] [])) t
        refine XS.iconst X34.here hx rfl (hb hby at_17) ?_
        show Steps p.tables e below (T34.setTop (mkF m 18 #[.val (.int p1), .val (.int k), .val (.ref (own_pick k aA aV aD aH aC aE)), .unset] [(.int (0 : Int32))])) t
        refine XS.istoreN X34.here hx rfl (hb hby at_18) rfl (l' := #[.val (.int p1), .val (.int k), .val (.ref (own_pick k aA aV aD aH aC aE)), .val (.int (0 : Int32))]) rfl ?_
        show Steps p.tables e below (T34.setTop (mkF m 19 #[.val (.int p1), .val (.int k), .val (.ref (own_pick k aA aV aD aH aC aE)), .val (.int (0 : Int32))] [])) t
        refine XS.goto X34.here hx rfl (pc0 := 19) (pc' := 34) rfl (hb hby at_19) (by decide) (by decide) ?_
        exact ht
      exact ⟨(0 : Int32), (by unfold own_b; simp [hj38]), k39⟩
    · have k40 : Kt p e below m (s₁.setTop (entryFrame m #[(.int p1)] maxLocals)) T34 24 #[.val (.int p1), .val (.int k), .val (.ref (own_pick k aA aV aD aH aC aE)), .unset] [(.int (1 : Int32)), (.int k)] := by
        intro t ht
        refine k37 t ?_
        show Steps p.tables e below (T34.setTop (mkF m 14 #[.val (.int p1), .val (.int k), .val (.ref (own_pick k aA aV aD aH aC aE)), .unset] [(.int k)])) t
        refine XS.ifYes X34.here hx rfl (pc0 := 14) (pc' := 22) rfl (hb hby at_14) rfl ((if0 _ _).trans (feq hj38).2) (by decide) (by decide) ?_
        show Steps p.tables e below (T34.setTop (mkF m 22 #[.val (.int p1), .val (.int k), .val (.ref (own_pick k aA aV aD aH aC aE)), .unset] [])) t
        refine XS.iloadN X34.here hx rfl (hb hby at_22) rfl ?_
        show Steps p.tables e below (T34.setTop (mkF m 23 #[.val (.int p1), .val (.int k), .val (.ref (own_pick k aA aV aD aH aC aE)), .unset] [(.int k)])) t
        refine XS.iconst X34.here hx rfl (hb hby at_23) ?_
        exact ht
      by_cases hj41 : k = (1 : Int32)
      · have k42 : Kt p e below m (s₁.setTop (entryFrame m #[(.int p1)] maxLocals)) T34 34 #[.val (.int p1), .val (.int k), .val (.ref (own_pick k aA aV aD aH aC aE)), .val (.int (0 : Int32))] [] := by
          intro t ht
          refine k40 t ?_
          show Steps p.tables e below (T34.setTop (mkF m 24 #[.val (.int p1), .val (.int k), .val (.ref (own_pick k aA aV aD aH aC aE)), .unset] [(.int (1 : Int32)), (.int k)])) t
          refine XS.icmpNo X34.here hx rfl (hb hby at_24) rfl (teq hj41).2 ?_
          show Steps p.tables e below (T34.setTop (mkF m 27 #[.val (.int p1), .val (.int k), .val (.ref (own_pick k aA aV aD aH aC aE)), .unset] [])) t
          refine XS.iconst X34.here hx rfl (hb hby at_27) ?_
          show Steps p.tables e below (T34.setTop (mkF m 28 #[.val (.int p1), .val (.int k), .val (.ref (own_pick k aA aV aD aH aC aE)), .unset] [(.int (0 : Int32))])) t
          refine XS.istoreN X34.here hx rfl (hb hby at_28) rfl (l' := #[.val (.int p1), .val (.int k), .val (.ref (own_pick k aA aV aD aH aC aE)), .val (.int (0 : Int32))]) rfl ?_
          show Steps p.tables e below (T34.setTop (mkF m 29 #[.val (.int p1), .val (.int k), .val (.ref (own_pick k aA aV aD aH aC aE)), .val (.int (0 : Int32))] [])) t
          refine XS.goto X34.here hx rfl (pc0 := 29) (pc' := 34) rfl (hb hby at_29) (by decide) (by decide) ?_
          exact ht
        exact ⟨(0 : Int32), (by unfold own_b; simp [hj38, hj41]), k42⟩
      · have k43 : Kt p e below m (s₁.setTop (entryFrame m #[(.int p1)] maxLocals)) T34 34 #[.val (.int p1), .val (.int k), .val (.ref (own_pick k aA aV aD aH aC aE)), .val (.int (1 : Int32))] [] := by
          intro t ht
          refine k40 t ?_
          show Steps p.tables e below (T34.setTop (mkF m 24 #[.val (.int p1), .val (.int k), .val (.ref (own_pick k aA aV aD aH aC aE)), .unset] [(.int (1 : Int32)), (.int k)])) t
          refine XS.icmpYes X34.here hx rfl (pc0 := 24) (pc' := 32) rfl (hb hby at_24) rfl (feq hj41).2 (by decide) (by decide) ?_
          show Steps p.tables e below (T34.setTop (mkF m 32 #[.val (.int p1), .val (.int k), .val (.ref (own_pick k aA aV aD aH aC aE)), .unset] [])) t
          refine XS.iconst X34.here hx rfl (hb hby at_32) ?_
          show Steps p.tables e below (T34.setTop (mkF m 33 #[.val (.int p1), .val (.int k), .val (.ref (own_pick k aA aV aD aH aC aE)), .unset] [(.int (1 : Int32))])) t
          refine XS.istoreN X34.here hx rfl (hb hby at_33) rfl (l' := #[.val (.int p1), .val (.int k), .val (.ref (own_pick k aA aV aD aH aC aE)), .val (.int (1 : Int32))]) rfl ?_
          exact ht
        exact ⟨(1 : Int32), (by unfold own_b; simp [hj38, hj41]), k43⟩
  have k44 : Kt p e below m (s₁.setTop (entryFrame m #[(.int p1)] maxLocals)) T34 35 #[.val (.int p1), .val (.int k), .val (.ref (own_pick k aA aV aD aH aC aE)), .val (.int z)] [(.ref (own_pick k aA aV aD aH aC aE))] := by
    intro t ht
    refine k36 t ?_
    show Steps p.tables e below (T34.setTop (mkF m 34 #[.val (.int p1), .val (.int k), .val (.ref (own_pick k aA aV aD aH aC aE)), .val (.int z)] [])) t
    refine XS.aloadN X34.here hx rfl (hb hby at_34) rfl rfl ?_
    exact ht
  obtain ⟨cq45, kq45, q45a, q45b, q45c⟩ := isOf hZ rfl Ex
  obtain ⟨_, _, ⟨T45, L45, c45, n45⟩, -, X45, ⟨Lc45, hQ45, l45, y45, z45⟩, st45⟩ := X34.virtualBack hx (y := (⟨"com/example/threadwright/threadwright/execution/Ending", "leftRunning", "()Z"⟩ : MethodName)) (z := (⟨"com/example/threadwright/threadwright/execution/Ending", "leftRunning", "()Z"⟩ : MethodName)) hown (mvT hZ (hw _ (List.mem_of_getElem? (i := 8) rfl))) (mvT hZ (hw _ (List.mem_of_getElem? (i := 9) rfl))) (notFace_of_selects (args := #[]) (mvT hZ (hw _ (List.mem_of_getElem? (i := 11) rfl)))) (mvT hZ (hw _ (List.mem_of_getElem? (i := 11) rfl))) (mvT hZ (hw _ (List.mem_of_getElem? (i := 10) rfl))) (by decide) (backOf (W := 0) (rm2 l Z a0 hw [] (own_pick k aA aV aD aH aC aE) aD aH aC aE T34.heap n0 (eq1 ▸ Z0 : n0 ≤ T34.heap.size) (by rw [eq1]; exact SaD) (by rw [eq1]; exact SaH) (by rw [eq1]; exact SaC) (by rw [eq1]; exact SaE)) hZ (hw _ (List.mem_of_getElem? (i := 12) rfl)) (hw _ (List.mem_of_getElem? (i := 6) rfl)) (by decide) (by decide)) q45a q45c (g := (mkF m 35 #[.val (.int p1), .val (.int k), .val (.ref (own_pick k aA aV aD aH aC aE)), .val (.int z)] [(.ref (own_pick k aA aV aD aH aC aE))])) rfl (by rw [hml]; rfl) (Steps.refl _) (argsL := []) (rest := []) (lenOf pd_0 rfl) rfl (by show 2 * 0 + _ ≤ _; exact Nat.le_of_eq rfl) (hb hby at_35) (fun _ _ => ⟨rfl, rfl, (by decide : 0 + 0 ≤ _), (by decide : 0 + 0 ≤ _)⟩)
  dsimp only [Pt.U, Pt.locs, Pt.cells, Pt.slots] at X45 l45 y45 z45 st45 hQ45
  subst l45 y45 z45
  obtain ⟨rfl, Nq45, eq2⟩ := hQ45
  have N45 := Fr.app N34 Nq45
  have k45 : Kt p e below m (s₁.setTop (entryFrame m #[(.int p1)] maxLocals)) T45 38 #[.val (.int p1), .val (.int k), .val (.ref (own_pick k aA aV aD aH aC aE)), .val (.int z)] [(.int (own_b ((own_pick k aA aV aD aH aC aE) = aD ∨ (own_pick k aA aV aD aH aC aE) = aH ∨ (own_pick k aA aV aD aH aC aE) = aC ∨ (own_pick k aA aV aD aH aC aE) = aE)))] := fun t ht => k44 t (st45.trans ht)
  have k46 : Kt p e below m (s₁.setTop (entryFrame m #[(.int p1)] maxLocals)) T45 47 #[.val (.int p1), .val (.int k), .val (.ref (own_pick k aA aV aD aH aC aE)), .val (.int z)] [(.int (1 : Int32))] := by
    intro t ht
    refine k45 t ?_
    show Steps p.tables e below (T45.setTop (mkF m 38 #[.val (.int p1), .val (.int k), .val (.ref (own_pick k aA aV aD aH aC aE)), .val (.int z)] [(.int (own_b ((own_pick k aA aV aD aH aC aE) = aD ∨ (own_pick k aA aV aD aH aC aE) = aH ∨ (own_pick k aA aV aD aH aC aE) = aC ∨ (own_pick k aA aV aD aH aC aE) = aE)))])) t
    refine XS.iloadN X45.here hx rfl (hb hby at_38) rfl ?_
    show Steps p.tables e below (T45.setTop (mkF m 39 #[.val (.int p1), .val (.int k), .val (.ref (own_pick k aA aV aD aH aC aE)), .val (.int z)] [(.int z), (.int (own_b ((own_pick k aA aV aD aH aC aE) = aD ∨ (own_pick k aA aV aD aH aC aE) = aH ∨ (own_pick k aA aV aD aH aC aE) = aC ∨ (own_pick k aA aV aD aH aC aE) = aE)))])) t
    refine XS.icmpNo X45.here hx rfl (hb hby at_39) rfl (teq ((own_bn hl).trans hp36.symm)).2 ?_
    show Steps p.tables e below (T45.setTop (mkF m 42 #[.val (.int p1), .val (.int k), .val (.ref (own_pick k aA aV aD aH aC aE)), .val (.int z)] [])) t
    refine XS.iconst X45.here hx rfl (hb hby at_42) ?_
    show Steps p.tables e below (T45.setTop (mkF m 43 #[.val (.int p1), .val (.int k), .val (.ref (own_pick k aA aV aD aH aC aE)), .val (.int z)] [(.int (1 : Int32))])) t
    refine XS.goto X45.here hx rfl (pc0 := 43) (pc' := 47) rfl (hb hby at_43) (by decide) (by decide) ?_
    exact ht
  obtain ⟨fs, hr, hrun, hended, hW, hsame⟩ := X45.leave (v := some (.int (1 : Int32))) (fun h => by rw [Bd.returns] at h; cases h)
  refine ⟨_, _, k46 _ ?_, hrun, hended, _, _, rfl, ?_, ⟨_, rfl⟩, hW, hsame.mono (by decide) (by decide)⟩
  · exact retN X45 hx (t := .boolean) Bd.returns (by simp) (hb hby at_47) hr
  · show Q0 Z p1 aA aV aD aH aC aE h0 n0 _ T45.heap _
    exact ⟨rfl, N45⟩
set_option maxRecDepth 65536 in
set_option maxHeartbeats 40000000 in
theorem comes_1 {Post : Tables → Env → Array Value → State → Outcome → State → Prop} (hpost : ∀ tb e args s v u, (limb_1_1.after args s (.returned v) u = true ∧ limb_1_2.after args s (.returned v) u = true ∧ True) → FrameEnd s (.returned v) u (Jvm.fieldLocs frame_1_writes args s ++ Jvm.arrayLocs frame_1_arrays args s ++ Jvm.staticLocs frame_1_statics s) 0 0 → Post tb e args s (.returned v) u) :
    ArmFor flags0 classFile x code maxLocals ret World_1 tables_1 room_1 Calls_1 rest_1 Pre_1 Post := by
  intro l hfl _ _ p e ha hc hk s m args below hf hA hF happ hP
  obtain ⟨hcalls, hrest, hpre⟩ := hP
  obtain ⟨-, -, -, hnamed, -, -, -, hat⟩ := (Spec.applies_iff hf).mp happ
  obtain ⟨hg, hn⟩ := and_e (Cond.before_iff.mp (show (Jvm.Cond.and given_1 narrow_1).before args s = true from hpre))
  obtain ⟨hcount, g0⟩ := and_e hg
  obtain ⟨w0, rfl⟩ : ∃ w0 : Value, args = #[w0] := by
    have hs : args.size = 1 := by simpa [Cond.value, given_1] using hcount
    obtain ⟨L⟩ := args
    match L, hs with
    | [w0], _ => exact ⟨w0, rfl⟩
  have hw := fun d (hd : d ∈ tables_1) => atoms_spec (ws := Jvm.Cond.code x code maxLocals ret :: tables_1) hat d (List.mem_cons_of_mem _ hd)
  have hfit : Fit s := fun {y c} hc i hi => by
    obtain ⟨ha, rfl⟩ := Array.getElem?_eq_some_iff.mp hc
    have q := List.all_eq_true.mp ((Array.all_eq_true_iff_forall_mem.mp hF) _ (Array.getElem_mem ha)) i (List.mem_range.mpr hi)
    simpa [Array.getElem?_eq_getElem hi] using q
  obtain ⟨i0, ei0⟩ := is_v g0
  obtain rfl : w0 = (.int i0) := Option.some.inj ei0
  have z0 := hn
  obtain ⟨xADMITTED, z1⟩ := and_e z0
  obtain ⟨xDEADLOCK, z2⟩ := and_e z1
  obtain ⟨oADMITTED, z3⟩ := and_e z2
  obtain ⟨oDEADLOCK, z4⟩ := and_e z3
  obtain ⟨xHUNG, z5⟩ := and_e z4
  obtain ⟨oHUNG, z6⟩ := and_e z5
  obtain ⟨xCUT, z7⟩ := and_e z6
  obtain ⟨oCUT, z8⟩ := and_e z7
  obtain ⟨xEXPIRED, z9⟩ := and_e z8
  obtain ⟨oEXPIRED, z10⟩ := and_e z9
  obtain ⟨xVIOLATION, z11⟩ := and_e z10
  have oVIOLATION := z11
  obtain ⟨aA, eaA⟩ := exa_v xADMITTED
  have SaA : Sta s s.heap "com/example/threadwright/threadwright/execution/Ending" "ADMITTED" "Lcom/example/threadwright/threadwright/execution/Ending;" (.ref aA) := Sta.start eaA (Or.inr ⟨(hw _ (List.mem_of_getElem? (i := 6) rfl)), (hw _ (List.mem_of_getElem? (i := 7) rfl))⟩)
  have EaA : Exa s s.heap aA "com/example/threadwright/threadwright/execution/Ending" := Exa.start eaA xADMITTED
  have FaA : Fld s s.heap aA "java/lang/Enum" "ordinal" "I" (.int 0) := Fld.start ((fld_at eaA).symm.trans (own_eqI oADMITTED))
  obtain ⟨aV, eaV⟩ := exa_v xVIOLATION
  have SaV : Sta s s.heap "com/example/threadwright/threadwright/execution/Ending" "VIOLATION" "Lcom/example/threadwright/threadwright/execution/Ending;" (.ref aV) := Sta.start eaV (Or.inr ⟨(hw _ (List.mem_of_getElem? (i := 6) rfl)), (hw _ (List.mem_of_getElem? (i := 24) rfl))⟩)
  have EaV : Exa s s.heap aV "com/example/threadwright/threadwright/execution/Ending" := Exa.start eaV xVIOLATION
  have FaV : Fld s s.heap aV "java/lang/Enum" "ordinal" "I" (.int 1) := Fld.start ((fld_at eaV).symm.trans (own_eqI oVIOLATION))
  obtain ⟨aD, eaD⟩ := exa_v xDEADLOCK
  have SaD : Sta s s.heap "com/example/threadwright/threadwright/execution/Ending" "DEADLOCK" "Lcom/example/threadwright/threadwright/execution/Ending;" (.ref aD) := Sta.start eaD (Or.inr ⟨(hw _ (List.mem_of_getElem? (i := 6) rfl)), (hw _ (List.mem_of_getElem? (i := 14) rfl))⟩)
  have EaD : Exa s s.heap aD "com/example/threadwright/threadwright/execution/Ending" := Exa.start eaD xDEADLOCK
  have FaD : Fld s s.heap aD "java/lang/Enum" "ordinal" "I" (.int 2) := Fld.start ((fld_at eaD).symm.trans (own_eqI oDEADLOCK))
  obtain ⟨aH, eaH⟩ := exa_v xHUNG
  have SaH : Sta s s.heap "com/example/threadwright/threadwright/execution/Ending" "HUNG" "Lcom/example/threadwright/threadwright/execution/Ending;" (.ref aH) := Sta.start eaH (Or.inr ⟨(hw _ (List.mem_of_getElem? (i := 6) rfl)), (hw _ (List.mem_of_getElem? (i := 16) rfl))⟩)
  have EaH : Exa s s.heap aH "com/example/threadwright/threadwright/execution/Ending" := Exa.start eaH xHUNG
  have FaH : Fld s s.heap aH "java/lang/Enum" "ordinal" "I" (.int 3) := Fld.start ((fld_at eaH).symm.trans (own_eqI oHUNG))
  obtain ⟨aC, eaC⟩ := exa_v xCUT
  have SaC : Sta s s.heap "com/example/threadwright/threadwright/execution/Ending" "CUT" "Lcom/example/threadwright/threadwright/execution/Ending;" (.ref aC) := Sta.start eaC (Or.inr ⟨(hw _ (List.mem_of_getElem? (i := 6) rfl)), (hw _ (List.mem_of_getElem? (i := 18) rfl))⟩)
  have EaC : Exa s s.heap aC "com/example/threadwright/threadwright/execution/Ending" := Exa.start eaC xCUT
  have FaC : Fld s s.heap aC "java/lang/Enum" "ordinal" "I" (.int 4) := Fld.start ((fld_at eaC).symm.trans (own_eqI oCUT))
  obtain ⟨aE, eaE⟩ := exa_v xEXPIRED
  have SaE : Sta s s.heap "com/example/threadwright/threadwright/execution/Ending" "EXPIRED" "Lcom/example/threadwright/threadwright/execution/Ending;" (.ref aE) := Sta.start eaE (Or.inr ⟨(hw _ (List.mem_of_getElem? (i := 6) rfl)), (hw _ (List.mem_of_getElem? (i := 20) rfl))⟩)
  have EaE : Exa s s.heap aE "com/example/threadwright/threadwright/execution/Ending" := Exa.start eaE xEXPIRED
  have FaE : Fld s s.heap aE "java/lang/Enum" "ordinal" "I" (.int 5) := Fld.start ((fld_at eaE).symm.trans (own_eqI oEXPIRED))
  obtain ⟨n, o, h1, h2, h3, _, L, rfl, ⟨rfl, N⟩, hq⟩ := rm0 l s _ hw tables_1 i0 aA aV aD aH aC aE s.heap s.heap.size (Nat.le_refl _) SaA SaV SaD SaH SaC SaE EaA EaV EaD EaH EaC EaE (FaA.ne FaD (by decide)) (FaA.ne FaH (by decide)) (FaA.ne FaC (by decide)) (FaA.ne FaE (by decide)) (FaV.ne FaD (by decide)) (FaV.ne FaH (by decide)) (FaV.ne FaC (by decide)) (FaV.ne FaE (by decide)) p e ha hc hk s m _ below hf ((Spec.applies_iff_loose hf).mp happ).1 ⟨rfl, State.Warmed39.refl s, rfl⟩ trivial
  refine ⟨n, _, h1, h2, h3, hpost _ _ _ _ _ _ ⟨Cond.after_iff.mpr rfl, Cond.after_iff.mpr (eq_i res_at (Term.int_eval (1)) rfl), trivial⟩ ⟨hq.1, hq.2.1, (hq.2.2.sift fun y hy => Or.inr (N y hy)).mono (by decide) (by decide)⟩⟩
theorem main_1_1 : Claimed_1_1 := comes_1 fun _ _ _ _ _ _ h hF => ⟨h.1, hF⟩
theorem main_1_2 : Claimed_1_2 := comes_1 fun _ _ _ _ _ _ h hF => ⟨h.2.1, hF⟩
end Jvm.Pilot.@@N@@
namespace Jvm.Pilot.@@N@@
open Jvm Jvm.ClassFile Sem Op Lib Jvm.Free Jvm.Stand Jvm.Pilot.@@N@@.Jvm.D
/-! MADE BY PROGRAM (witnessworld.py) out of the Statement's table words and the real class files: 12 classes; the members and pool entries that the words name. The judged class is class 1, her method 2. -/
namespace start1
open Jvm.ClassFile
def u (s : String) : CpInfo := .utf8 (stringToUtf16 s)
/-- a pool by its gaps: so many unusable entries, then the entry; so many at the end -/
def gap : Nat → List CpInfo → List CpInfo
  | 0, r => r
  | n + 1, r => .unusable :: gap n r
def poolList (es : List (Nat × CpInfo)) (last : Nat) : List CpInfo := es.foldr (fun e r => gap e.1 (e.2 :: r)) (gap last [])
def pool (es : List (Nat × CpInfo)) (last : Nat) : Array CpInfo := ⟨poolList es last⟩
def fileOf (pool : Array CpInfo) (this : Nat) (attrs : Array Attribute := #[]) (ms : Array MethodInfo := #[]) (fl : Nat := 33) (sup : Nat := 0) (ifs : Array Nat := #[]) (fds : Array FieldInfo := #[]) : ClassFile where
  minorVersion := 0
  majorVersion := 65
  constantPool := pool
  accessFlags := fl
  thisClass := this
  superClass := sup
  interfaces := ifs
  fields := fds
  methods := ms
  attributes := attrs
def plain (name : String) (sup : Option ClassId) : Class where
  name := name
  kind := .ordinary
  loader := none
  accessFlags := 33
  super := sup
  interfaces := #[]
  cf := none
  fields := #[]
  methods := #[]
  instanceTypes := #[]
  staticTypes := #[]
  resolved := #[]
  callSites := []
  init := .initialized
  statics := none
  mirror := none

def pool0 : Array CpInfo := pool [(5, u "<init>"), (0, u "()V"), (1, .class_ 10), (1, u "java/lang/Object")] 113

def k0m0 : Method := { name := "<init>", desc := "()V", sig := { parameters := [], returnType := none }, accessFlags := 1, code := none }
/-- java/lang/Object -/
def k0 : Class := { plain "java/lang/Object" none with
  accessFlags := 33
  interfaces := #[]
  cf := some (fileOf pool0 8 #[] #[{ accessFlags := 1, nameIndex := 5, descriptorIndex := 6, attributes := #[] }] 33 0 #[] #[])
  fields := #[]
  methods := #[k0m0]
  instanceTypes := #[]
  staticTypes := #[]
  resolved := Array.replicate 124 none
  statics := none }

def pool1 : Array CpInfo := pool [(2, .class_ 4), (1, u "java/lang/Object"), (0, u "<init>"), (0, u "()V"), (0, .fieldref 8 9), (0, .class_ 10), (0, .nameAndType 11 12), (0, u "com/example/threadwright/threadwright/execution/Ending"), (0, u "ADMITTED"), (0, u "Lcom/example/threadwright/threadwright/execution/Ending;"), (0, .fieldref 8 14), (0, .nameAndType 15 12), (0, u "VIOLATION"), (0, .fieldref 8 17), (0, .nameAndType 18 12), (0, u "DEADLOCK"), (0, .fieldref 8 20), (0, .nameAndType 21 12), (0, u "HUNG"), (0, .fieldref 8 23), (0, .nameAndType 24 12), (0, u "CUT"), (0, .fieldref 8 26), (0, .nameAndType 27 12), (0, u "EXPIRED"), (0, .integer 2147483647), (0, .methodref 30 31), (0, .class_ 32), (0, .nameAndType 33 34), (0, u "com/example/threadwright/threadwright/execution/EndingLeftRunningPinLaw"), (0, u "pick"), (0, u "(I)Lcom/example/threadwright/threadwright/execution/Ending;"), (0, .methodref 8 36), (0, .nameAndType 37 38), (0, u "leftRunning"), (0, u "()Z"), (3, u "law"), (0, u "(I)Z")] 2

def k1m0 : Method := { name := "<init>", desc := "()V", sig := { parameters := [], returnType := none }, accessFlags := 2, code := none }
def k1c1 : Code := { maxStack := 2, maxLocals := 1, code := method_2_code, exceptionTable := #[], attributes := #[] }
def k1m1 : Method := { name := "pick", desc := "(I)Lcom/example/threadwright/threadwright/execution/Ending;", sig := { parameters := [.int], returnType := some (.object "com/example/threadwright/threadwright/execution/Ending") }, accessFlags := 10, code := some k1c1 }
def k1c2 : Code := { maxStack := 2, maxLocals := 4, code := code, exceptionTable := #[], attributes := #[] }
def k1m2 : Method := { name := "law", desc := "(I)Z", sig := { parameters := [.int], returnType := some .boolean }, accessFlags := 9, code := some k1c2 }
/-- com/example/threadwright/threadwright/execution/EndingLeftRunningPinLaw -/
def k1 : Class := { plain "com/example/threadwright/threadwright/execution/EndingLeftRunningPinLaw" (some 0) with
  accessFlags := 49
  interfaces := #[]
  cf := some (fileOf pool1 30 #[] #[{ accessFlags := 2, nameIndex := 5, descriptorIndex := 6, attributes := #[] }, { accessFlags := 10, nameIndex := 33, descriptorIndex := 34, attributes := #[] }, { accessFlags := 9, nameIndex := 42, descriptorIndex := 43, attributes := #[] }] 49 2 #[] #[])
  fields := #[]
  methods := #[k1m0, k1m1, k1m2]
  instanceTypes := #[]
  staticTypes := #[]
  resolved := Array.replicate 46 none
  statics := none }

def pool2 : Array CpInfo := pool [(1, .class_ 2), (0, u "java/lang/constant/Constable"), (0, .class_ 4), (0, u "java/lang/Object")] 6

/-- java/lang/constant/Constable -/
def k2 : Class := { plain "java/lang/constant/Constable" (some 0) with
  accessFlags := 1537
  interfaces := #[]
  cf := some (fileOf pool2 1 #[] #[] 1537 3 #[] #[])
  fields := #[]
  methods := #[]
  instanceTypes := #[]
  staticTypes := #[]
  resolved := Array.replicate 11 none
  statics := none }

def pool3 : Array CpInfo := pool [(1, .class_ 2), (0, u "java/lang/Comparable"), (0, .class_ 4), (0, u "java/lang/Object")] 7

/-- java/lang/Comparable -/
def k3 : Class := { plain "java/lang/Comparable" (some 0) with
  accessFlags := 1537
  interfaces := #[]
  cf := some (fileOf pool3 1 #[] #[] 1537 3 #[] #[])
  fields := #[]
  methods := #[]
  instanceTypes := #[]
  staticTypes := #[]
  resolved := Array.replicate 12 none
  statics := none }

def pool4 : Array CpInfo := pool [(1, .class_ 2), (0, u "java/io/Serializable"), (0, .class_ 4), (0, u "java/lang/Object")] 2

/-- java/io/Serializable -/
def k4 : Class := { plain "java/io/Serializable" (some 0) with
  accessFlags := 1537
  interfaces := #[]
  cf := some (fileOf pool4 1 #[] #[] 1537 3 #[] #[])
  fields := #[]
  methods := #[]
  instanceTypes := #[]
  staticTypes := #[]
  resolved := Array.replicate 7 none
  statics := none }

def pool5 : Array CpInfo := pool [(2, .class_ 4), (1, u "java/lang/Enum"), (0, u "name"), (0, u "Ljava/lang/String;"), (2, u "ordinal"), (0, u "I"), (1, .class_ 14), (1, u "java/lang/Object"), (4, u "hash"), (86, .class_ 108), (1, u "java/lang/Enum$EnumDesc"), (2, .class_ 112), (0, u "java/lang/constant/Constable"), (0, .class_ 114), (0, u "java/lang/Comparable"), (0, .class_ 116), (0, u "java/io/Serializable")] 87

/-- java/lang/Enum -/
def k5 : Class := { plain "java/lang/Enum" (some 0) with
  accessFlags := 1057
  interfaces := #[2, 3, 4]
  cf := some (fileOf pool5 2 #[.nestMembers #[106]] #[] 1057 12 #[111, 113, 115] #[{ accessFlags := 18, nameIndex := 5, descriptorIndex := 6, attributes := #[] }, { accessFlags := 18, nameIndex := 9, descriptorIndex := 10, attributes := #[] }, { accessFlags := 2, nameIndex := 19, descriptorIndex := 10, attributes := #[] }])
  fields := #[{ name := "name", type := (.object "java/lang/String"), accessFlags := 18, slot := 0, constantValue := 0 }, { name := "ordinal", type := .int, accessFlags := 18, slot := 1, constantValue := 0 }, { name := "hash", type := .int, accessFlags := 2, slot := 2, constantValue := 0 }]
  methods := #[]
  instanceTypes := #[(.object "java/lang/String"), .int, .int]
  staticTypes := #[]
  resolved := Array.replicate 204 none
  statics := none }

def pool6 : Array CpInfo := pool [(1, .class_ 2), (0, u "com/example/threadwright/threadwright/execution/Ending"), (2, u "ADMITTED"), (0, u "Lcom/example/threadwright/threadwright/execution/Ending;"), (2, u "VIOLATION"), (0, .fieldref 1 11), (0, .nameAndType 12 6), (0, u "DEADLOCK"), (0, .fieldref 1 14), (0, .nameAndType 15 6), (0, u "HUNG"), (0, .fieldref 1 17), (0, .nameAndType 18 6), (0, u "CUT"), (0, .fieldref 1 20), (0, .nameAndType 21 6), (0, u "EXPIRED"), (2, u "$VALUES"), (0, u "[Lcom/example/threadwright/threadwright/execution/Ending;"), (6, .class_ 34), (1, u "java/lang/Enum"), (24, u "leftRunning"), (0, u "()Z")] 5

def k6c0 : Code := { maxStack := 2, maxLocals := 1, code := prog_31_method_4_code, exceptionTable := #[], attributes := #[] }
def k6m0 : Method := { name := "leftRunning", desc := "()Z", sig := { parameters := [], returnType := some .boolean }, accessFlags := 1, code := some k6c0 }
/-- com/example/threadwright/threadwright/execution/Ending -/
def k6 : Class := { plain "com/example/threadwright/threadwright/execution/Ending" (some 5) with
  accessFlags := 16433
  interfaces := #[]
  cf := some (fileOf pool6 1 #[] #[{ accessFlags := 1, nameIndex := 59, descriptorIndex := 60, attributes := #[] }] 16433 32 #[] #[{ accessFlags := 16409, nameIndex := 5, descriptorIndex := 6, attributes := #[] }, { accessFlags := 16409, nameIndex := 9, descriptorIndex := 6, attributes := #[] }, { accessFlags := 16409, nameIndex := 12, descriptorIndex := 6, attributes := #[] }, { accessFlags := 16409, nameIndex := 15, descriptorIndex := 6, attributes := #[] }, { accessFlags := 16409, nameIndex := 18, descriptorIndex := 6, attributes := #[] }, { accessFlags := 16409, nameIndex := 21, descriptorIndex := 6, attributes := #[] }, { accessFlags := 4122, nameIndex := 24, descriptorIndex := 25, attributes := #[] }])
  fields := #[{ name := "ADMITTED", type := (.object "com/example/threadwright/threadwright/execution/Ending"), accessFlags := 16409, slot := 0, constantValue := 0 }, { name := "VIOLATION", type := (.object "com/example/threadwright/threadwright/execution/Ending"), accessFlags := 16409, slot := 1, constantValue := 0 }, { name := "DEADLOCK", type := (.object "com/example/threadwright/threadwright/execution/Ending"), accessFlags := 16409, slot := 2, constantValue := 0 }, { name := "HUNG", type := (.object "com/example/threadwright/threadwright/execution/Ending"), accessFlags := 16409, slot := 3, constantValue := 0 }, { name := "CUT", type := (.object "com/example/threadwright/threadwright/execution/Ending"), accessFlags := 16409, slot := 4, constantValue := 0 }, { name := "EXPIRED", type := (.object "com/example/threadwright/threadwright/execution/Ending"), accessFlags := 16409, slot := 5, constantValue := 0 }, { name := "$VALUES", type := (.array (.object "com/example/threadwright/threadwright/execution/Ending")), accessFlags := 4122, slot := 6, constantValue := 0 }]
  methods := #[k6m0]
  instanceTypes := #[(.object "java/lang/String"), .int, .int]
  staticTypes := #[(.object "com/example/threadwright/threadwright/execution/Ending"), (.object "com/example/threadwright/threadwright/execution/Ending"), (.object "com/example/threadwright/threadwright/execution/Ending"), (.object "com/example/threadwright/threadwright/execution/Ending"), (.object "com/example/threadwright/threadwright/execution/Ending"), (.object "com/example/threadwright/threadwright/execution/Ending"), (.array (.object "com/example/threadwright/threadwright/execution/Ending"))]
  resolved := Array.replicate 66 none
  statics := some 0 }

def pool7 : Array CpInfo := pool [(1, u "java/lang/Cloneable"), (0, .class_ 1), (0, u "java/lang/Object"), (0, .class_ 3)] 3

/-- java/lang/Cloneable -/
def k7 : Class := { plain "java/lang/Cloneable" (some 0) with
  accessFlags := 1537
  interfaces := #[]
  cf := some (fileOf pool7 2 #[] #[] 1537 4 #[] #[])
  fields := #[]
  methods := #[]
  instanceTypes := #[]
  staticTypes := #[]
  resolved := Array.replicate 8 none
  statics := none }

/-- the primitive byte -/
def k8 : Class := { plain "byte" none with kind := .primitive 'B', accessFlags := 0x411 }
/-- [B -/
def k9 : Class := { plain "[B" (some 0) with kind := .array 8 .byte, interfaces := #[7, 4], accessFlags := 1041 }

/-- the primitive int -/
def k10 : Class := { plain "int" none with kind := .primitive 'I', accessFlags := 0x411 }
/-- [I -/
def k11 : Class := { plain "[I" (some 0) with kind := .array 10 .int, interfaces := #[7, 4], accessFlags := 1041 }

def heap : Heap := #[{ cls := 6, slots := #[.ref 1, .ref 2, .ref 3, .ref 4, .ref 5, .ref 6, .null], vm := .statics 6 },
  { cls := 6, slots := #[.null, .int 0, .int 0], vm := .none },
  { cls := 6, slots := #[.null, .int 1, .int 0], vm := .none },
  { cls := 6, slots := #[.null, .int 2, .int 0], vm := .none },
  { cls := 6, slots := #[.null, .int 3, .int 0], vm := .none },
  { cls := 6, slots := #[.null, .int 4, .int 0], vm := .none },
  { cls := 6, slots := #[.null, .int 5, .int 0], vm := .none }]
def classes : Array Class := #[k0, k1, k2, k3, k4, k5, k6, k7, k8, k9, k10, k11]
def interned : List (Array UInt16 × Addr) := []
def slotsUsed : Nat := 25
def theMethod : MethodId := ⟨1, 2⟩
def args0 : Array Value := #[.int 5]
def aboutOver (below : List Frame) : State where
  vm := { classes := classes, interned := interned.toArray }
  heap := heap
  slotsUsed := slotsUsed
  threads := #[{ frames := .invoking theMethod args0 :: below }]
def below0 : List Frame := [.native { method := ⟨0, 0⟩, args := #[] }]
def about1 : State := aboutOver below0
def p0 : Program := .bare "" "" ""
def e0 : Env := launch0.env 0 0 0
theorem w_frames : about1.frames = Frame.invoking theMethod args0 :: below0 := rfl
set_option maxRecDepth 65536 in
theorem w_args : argsFit about1.vm theMethod args0 = true := by decide +kernel
set_option maxRecDepth 65536 in
theorem w_heap : heapFits about1 = true := by decide +kernel
set_option maxRecDepth 65536 in
theorem w_runnable : about1.curStatus? = some .runnable := by decide +kernel
set_option maxRecDepth 65536 in
theorem w_alone : about1.alone = true := by decide +kernel
set_option maxRecDepth 65536 in
theorem w_named : about1.methodNamed? x = some theMethod := by decide +kernel
set_option maxRecDepth 65536 in
theorem w_hears : about1.hears theMethod below0 = true := by decide +kernel
set_option maxRecDepth 65536 in
theorem w_ripe : about1.ripe theMethod args0 below0 = true := by decide +kernel
theorem w_running : about1.status = .running := rfl
set_option maxRecDepth 65536 in
theorem w_room : about1.hasRoom e0.platform room_1 = true :=
  launch0.hasRoom_least _ room_1 (by decide +kernel) (by decide +kernel) (by decide +kernel) (by decide +kernel) (by decide +kernel) (by decide +kernel)
theorem allAtoms_all (ts : List Jvm.Cond) (a : Array Jvm.Value) (st : Jvm.State) : (allAtoms ts).before a st = ts.all (fun c => c.before a st) := by
  induction ts with
  | nil => rfl
  | cons c t ih =>
    show (Jvm.Cond.and c (allAtoms t)).before a st = _
    rw [Jvm.Cond.before_and, ih, List.all_cons]
def words1 : List Jvm.Cond := Jvm.Cond.code x code maxLocals ret :: tables_1
/-- a 'code' word, met by the world's own term for the bytes: nothing is compared byte by byte -/
theorem code_word {y : MethodName} {bytes : ByteArray} {mx : Nat} {rt : Option FieldType} {a : Array Value} {s : State} {m : MethodId} {meth : Method} {c : Code} (h1 : s.methodNamed? y = some m) (h2 : s.vm.method? m = some meth) (h3 : meth.code = some c) (h4 : c.code = bytes)
    (h5 : (c.maxLocals == mx && c.exceptionTable.isEmpty && decide (c.maxStack ≤ mostOperands) && decide (meth.sig.returnType = rt) && !meth.locks && decide (parseMethodDescriptor y.desc = some meth.sig)) = true) : (Jvm.Cond.code y bytes mx rt).before a s = true := by
  simp only [Bool.and_eq_true, beq_iff_eq, Bool.not_eq_true', decide_eq_true_eq] at h5
  obtain ⟨⟨⟨⟨⟨g1, g2⟩, g3⟩, g4⟩, g5⟩, g6⟩ := h5
  simp [Cond.before, Cond.holds, Cond.value, h1, h2, h3, h4, g1, g2, g3, g4, g5, g6]
def isCode : Jvm.Cond → Bool
  | .code _ _ _ _ => true
  | _ => false
theorem all_split {L : List Jvm.Cond} {P : Jvm.Cond → Bool} (h1 : L.all (fun c => isCode c || P c) = true) (h2 : ∀ c ∈ L.filter isCode, P c = true) : L.all P = true := by
  refine List.all_eq_true.mpr fun c hc => ?_
  have h := List.all_eq_true.mp h1 c hc
  rcases Bool.eq_false_or_eq_true (isCode c) with hi | hi
  · exact h2 c (List.mem_filter.mpr ⟨hc, hi⟩)
  · simpa [hi] using h
set_option maxRecDepth 65536 in
theorem w_c0 : (Jvm.Cond.code x code maxLocals ret).before args0 about1 = true := code_word (m := ⟨1, 2⟩) (meth := k1m2) (c := k1c2) (by decide +kernel) rfl rfl rfl (by decide +kernel)
set_option maxRecDepth 65536 in
theorem w_c1 : (Jvm.Cond.code ({ cls := "com/example/threadwright/threadwright/execution/EndingLeftRunningPinLaw", name := "pick", desc := "(I)Lcom/example/threadwright/threadwright/execution/Ending;" } : Jvm.MethodName) method_2_code (1 : Nat) (Option.some (Jvm.ClassFile.FieldType.object "com/example/threadwright/threadwright/execution/Ending"))).before args0 about1 = true := code_word (m := ⟨1, 1⟩) (meth := k1m1) (c := k1c1) (by decide +kernel) rfl rfl rfl (by decide +kernel)
set_option maxRecDepth 65536 in
theorem w_c2 : (Jvm.Cond.code ({ cls := "com/example/threadwright/threadwright/execution/Ending", name := "leftRunning", desc := "()Z" } : Jvm.MethodName) prog_31_method_4_code (1 : Nat) (Option.some Jvm.ClassFile.FieldType.boolean)).before args0 about1 = true := code_word (m := ⟨6, 0⟩) (meth := k6m0) (c := k6c0) (by decide +kernel) rfl rfl rfl (by decide +kernel)
def codes1 : List Jvm.Cond := [Jvm.Cond.code x code maxLocals ret, Jvm.Cond.code ({ cls := "com/example/threadwright/threadwright/execution/EndingLeftRunningPinLaw", name := "pick", desc := "(I)Lcom/example/threadwright/threadwright/execution/Ending;" } : Jvm.MethodName) method_2_code (1 : Nat) (Option.some (Jvm.ClassFile.FieldType.object "com/example/threadwright/threadwright/execution/Ending")), Jvm.Cond.code ({ cls := "com/example/threadwright/threadwright/execution/Ending", name := "leftRunning", desc := "()Z" } : Jvm.MethodName) prog_31_method_4_code (1 : Nat) (Option.some Jvm.ClassFile.FieldType.boolean)]
set_option maxRecDepth 65536 in
theorem codes_eq : words1.filter isCode = codes1 := rfl
theorem w_codes : ∀ c ∈ words1.filter isCode, c.before args0 about1 = true := by
  rw [codes_eq]
  intro c hc
  simp only [codes1, List.mem_cons, List.not_mem_nil, or_false] at hc
  rcases hc with rfl | rfl | rfl
  · exact w_c0
  · exact w_c1
  · exact w_c2
set_option maxRecDepth 65536 in
theorem w_t1 : (words1.take 24).all (fun c => isCode c || c.before args0 about1) = true := by decide +kernel
set_option maxRecDepth 65536 in
theorem w_t2 : (words1.drop 24).all (fun c => isCode c || c.before args0 about1) = true := by decide +kernel
theorem w_tables : (allAtoms (Jvm.Cond.code x code maxLocals ret :: tables_1)).before args0 about1 = true := by
  rw [allAtoms_all]
  show words1.all (fun c => c.before args0 about1) = true
  refine all_split ?_ w_codes
  rw [← List.take_append_drop 24 words1, List.all_append, w_t1, w_t2]
  rfl
set_option maxRecDepth 65536 in
theorem w_case : (Jvm.Cond.and given_1 narrow_1).before args0 about1 = true := by decide +kernel
theorem w_applies : (headSpec (Jvm.Cond.code x code maxLocals ret :: tables_1) room_1).applies x e0.platform about1 = true :=
  (Spec.applies_iff w_frames).mpr ⟨w_running, w_runnable, w_alone, w_named, w_hears, w_ripe, w_room, w_tables⟩
theorem atStart : AtStart classFile x code maxLocals ret World_1 tables_1 room_1 Calls_1 rest_1 Pre_1 launch0 p0 e0 about1 theMethod args0 below0 :=
  ⟨lists_1, trivial, launch0.admits_env _ _ _, launch0.least_env, fairChoices_fair.cas, fairChoices_fair.clock, w_frames, w_args, w_heap, w_applies, trivial, trivial, w_case⟩
end start1
theorem witness_1 : WitnessClaimed_1 := ⟨start1.p0, start1.e0, start1.about1, start1.theMethod, start1.args0, start1.below0, start1.atStart⟩
end Jvm.Pilot.@@N@@
