import JvmDerived
import JvmDerived.Pilot.@@N@@Statement
import JvmDerived.Pilot.@@N@@Code
set_option linter.unusedVariables false
set_option linter.unusedSimpArgs false
namespace Jvm.RoadKit
open Sem ClassFile Op Lib Jvm.Stand Jvm.Free Jvm.LawKit
section New
variable {p : Program} {l : Launch} {e : Env} {R : Room} {s : State} {m : MethodId} {args : Array Value} {below : List Frame} {meth : Method} {c : Code} {T : State} {locs : List Loc} {cells slots : Nat}
theorem retI (X : Stand p l e R s m args below meth c T locs cells slots) (hx : p.tables.exec = Jvm.exec) {pc : Nat} {Ls : Array Slot} {z : Int32} {rest : List Value} (hret : meth.sig.returnType = some .int) (hd : decode c.code pc = .ok (.ireturn, 1)) {fs : List Frame}
    (hl : ∀ (f : JFrame) (acts : List Action), f.method = m → f.locked = none → f.entered = [] → (doReturn e (T.setTop f) acts (some (.int z))).1 = T.setFrames fs) : Steps p.tables e below (T.setTop (mkF m pc Ls (.int z :: rest))) (T.setFrames fs) := by
  have hm' : T.vm.method? m = some meth := X.method'
  have hn : narrow .int (.int z) = .int z := rfl
  show Steps p.tables e below (T.setTop { method := m, pc := pc, locals := Ls, stack := _ :: rest, locked := none }) _
  jvm_step X.here [X.here.top, hx, hd, hm', hret, hn]
  first | (intro acts; rw [hl _ acts rfl rfl rfl]) | rw [hl _ _ rfl rfl rfl]
  exact Steps.refl _
end New
end Jvm.RoadKit
namespace Jvm.Pilot.@@N@@
open Jvm Jvm.ClassFile Sem Op Lib Jvm.Free Jvm.Stand Jvm.LawKit Jvm.RoadKit Bundle Jvm.Pilot.@@N@@.Jvm.D
/-- who comes to t from this place of the method comes to t from G -/
abbrev Kt (p : Program) (e : Env) (below : List Frame) (m : MethodId) (G T : State) (pc : Nat) (Ls : Array Slot) (st : List Value) : Prop :=
  ∀ t, Steps p.tables e below (T.setTop (mkF m pc Ls st)) t → Steps p.tables e below G t
/-! plain facts -/
def own_b (P : Prop) [Decidable P] : Int32 := if P then 1 else 0
theorem own_b1 {P : Prop} [Decidable P] (h : P) : (1 : Int32) = own_b P := (if_pos h).symm
theorem own_b0 {P : Prop} [Decidable P] (h : ¬ P) : (0 : Int32) = own_b P := (if_neg h).symm
theorem own_nar {z : Int32} (h : z = 0 ∨ z = 1) : narrow .boolean (.int z) = .int z := by rcases h with rfl | rfl <;> rfl
theorem own_fits {z : Int32} (h : z = 0 ∨ z = 1) : fits .boolean (.int z) = true := by rcases h with rfl | rfl <;> rfl
/-- an object of C (C below S below O, O the root) is none of K, a class that can be made -/
theorem own_no {Z : State} {a0 : Array Value} {C S O K : String} {n : Nat} (w1 : (Jvm.Cond.superclass C S).before a0 Z = true) (w2 : (Jvm.Cond.superclass S O).before a0 Z = true) (w3 : (Jvm.Cond.noSuperclass O).before a0 Z = true) (wk : (Jvm.Cond.instantiable K n).before a0 Z = true)
    (h1 : C ≠ K) (h2 : S ≠ K) (h3 : O ≠ K) : ∃ c t, Z.vm.findClass C = some c ∧ Z.vm.findClass K = some t ∧ Z.vm.assignable c t = false := by
  obtain ⟨t, kt, g1, g2, g3, g4, -⟩ := Cond.instantiable_spec wk
  have r : NS Z O K := by
    obtain ⟨c, k, q1, q2, q3, -, -⟩ := Cond.noSuperclass_spec w3
    have ne := ids_ne q1 g1 h3
    refine ⟨c, t, q1, g1, fun fuel => ?_⟩
    cases fuel with
    | zero => rfl
    | succ f => simp [Vm.isSubclassAux, ne, q2, q3]
  obtain ⟨c, t', q1, q2, q3⟩ := NS.step w1 (NS.step w2 r h2) h1
  cases g1.symm.trans q2
  obtain ⟨p, k, kp, -, s2, -, s4, s5, -, s7⟩ := Cond.superclass_spec q1 w1
  have ne := ids_ne q1 g1 h1
  have gi : kt.isInterface = false := by
    cases hi : kt.isInterface
    · rfl
    · simp [hi] at g4
  refine ⟨c, t, q1, g1, ?_⟩
  show Z.vm.assignableAux (255 + 1) c t = false
  simp [Vm.assignableAux, ne, s2, g2, s5, g3, gi, Vm.isSubclass, q3]
theorem d2_0 : decode jdk_30_method_1_code 0 = .ok (.aload_n 0, 1) := by decide +kernel
theorem d2_1 : decode jdk_30_method_1_code 1 = .ok (.invokespecial 1, 3) := by decide +kernel
theorem d2_4 : decode jdk_30_method_1_code 4 = .ok (.return_, 1) := by decide +kernel
theorem pn2 : plainName "java/lang/Record" = true := by first | (simp [plainName, overriddenIn]; done) | decide +kernel
theorem pd_0 : parseMethodDescriptor "()V" = some ⟨[], none⟩ := by decide +kernel
theorem pd_1 : parseMethodDescriptor "(JZ)V" = some ⟨[.long, .boolean], none⟩ := by decide +kernel
theorem pd_2 : parseMethodDescriptor "(Ljava/lang/Object;)Z" = some ⟨[(.object "java/lang/Object")], some .boolean⟩ := by decide +kernel
theorem pd_3 : parseMethodDescriptor "(Z)V" = some ⟨[.boolean], none⟩ := by decide +kernel
theorem ef2 (m : MethodId) (a : Addr) : entryFrame m #[(.ref a)] 1 = mkF m 0 #[.val (.ref a)] [] := by first | (simp [entryFrame, mkF, argsToLocals, Value.category]; done) | rfl
def Q2 (Z : State) (a : Addr) (h0 : Heap) (n0 : Nat) (v : Option Value) (h : Heap) (L : List Loc) : Prop := v = none ∧ Fr n0 L ∧ h = h0
set_option maxRecDepth 65536 in
set_option maxHeartbeats 40000000 in
theorem rm2 (l : Launch) (Z : State) (a0 : Array Value) (hw : ∀ d ∈ tables_1, d.before a0 Z = true) (ws : List Jvm.Cond) (a : Addr) (h0 : Heap) (n0 : Nat) (Z0 : n0 ≤ h0.size)  :
    MetFree l (⟨"java/lang/Record", "<init>", "()V"⟩ : MethodName) (head1 (Jvm.Cond.code (⟨"java/lang/Record", "<init>", "()V"⟩ : MethodName) jdk_30_method_1_code 1 none :: ws) ({ frames := 1, cells := 0, slots := 0, locals := 12 } : Room)) (fun gs' U => gs' = #[(.ref a)] ∧ Z.Warmed39 U.vm ∧ U.heap = h0) (fun _ _ _ _ _ => True) (fun _ U o U' => ∃ v L, o = .returned v ∧ Q2 Z a h0 n0 v U'.heap L ∧ FrameEnd U o U' L ({ frames := 1, cells := 0, slots := 0, locals := 12 } : Room).cells ({ frames := 1, cells := 0, slots := 0, locals := 12 } : Room).slots) := by
  refine MetFree.of_bodySF (plainFor_of_name pn2) hisR ?_
  intro p e s m args below meth c s₁ Bd hml0 hP hK
  obtain ⟨rfl, hZ, hh⟩ := hP
  have hx := Bd.exec
  have hby := Bd.bytes
  have hml : c.maxLocals = 1 := hml0
  have hown : s.vm.findClass "java/lang/Record" = some m.cls := findClass_of_methodNamed Bd.named
  have hnm := (name_of_methodNamed Bd.named Bd.method).1
  have X0 : Stand p l e ({ frames := 1, cells := 0, slots := 0, locals := 12 } : Room) s m #[(.ref a)] below meth c s₁ [] 0 0 := Stand.of_body Bd
  have e0 : s₁.heap = h0 := by rw [← hh, Bd.state]; rfl
  have N0 := Fr.nil n0
  have k0 : Kt p e below m (s₁.setTop (entryFrame m #[(.ref a)] 1)) s₁ 0 #[.val (.ref a)] [] := fun t ht => castTop (ef2 m a) ht
  have k1 : Kt p e below m (s₁.setTop (entryFrame m #[(.ref a)] 1)) s₁ 1 #[.val (.ref a)] [(.ref a)] := by
    intro t ht
    refine k0 t ?_
    show Steps p.tables e below (s₁.setTop (mkF m 0 #[.val (.ref a)] [])) t
    refine XS.aloadN X0.here hx rfl (hb hby d2_0) rfl rfl ?_
    exact ht
  obtain ⟨T2, X2, e2, st2⟩ := initO X0 hx hZ hown (hw _ (List.mem_of_getElem? (i := 11) rfl)) (hw _ (List.mem_of_getElem? (i := 12) rfl)) (hw _ (List.mem_of_getElem? (i := 13) rfl)) e0 (g := (mkF m 1 #[.val (.ref a)] [(.ref a)])) rfl (by rw [hml]; rfl) rfl (hb hby d2_1) (by decide) (W := 0) (by show 2 * 0 + _ ≤ _; exact Nat.le_of_eq rfl) (by decide)
  have k2 : Kt p e below m (s₁.setTop (entryFrame m #[(.ref a)] 1)) T2 4 #[.val (.ref a)] [] := fun t ht => k1 t (st2 t ht)
  obtain ⟨fs, hr, hrun, hended, hW, hsame⟩ := X2.leave (v := none) (fun _ => rfl)
  refine ⟨_, _, k2 _ ?_, hrun, hended, _, _, rfl, ?_, ⟨_, rfl⟩, hW, hsame.mono (by decide) (by decide)⟩
  · exact X2.returnOut hx Bd.returns (hb hby d2_4) hr
  · show Q2 Z a h0 n0 _ T2.heap _
    rw [e2]
    exact ⟨rfl, N0, rfl⟩
theorem d1_0 : decode prog_80_method_1_code 0 = .ok (.aload_n 0, 1) := by decide +kernel
theorem d1_1 : decode prog_80_method_1_code 1 = .ok (.invokespecial 1, 3) := by decide +kernel
theorem d1_4 : decode prog_80_method_1_code 4 = .ok (.aload_n 0, 1) := by decide +kernel
theorem d1_5 : decode prog_80_method_1_code 5 = .ok (.lload_n 1, 1) := by decide +kernel
theorem d1_6 : decode prog_80_method_1_code 6 = .ok (.putfield 7, 3) := by decide +kernel
theorem d1_9 : decode prog_80_method_1_code 9 = .ok (.aload_n 0, 1) := by decide +kernel
theorem d1_10 : decode prog_80_method_1_code 10 = .ok (.iload_n 3, 1) := by decide +kernel
theorem d1_11 : decode prog_80_method_1_code 11 = .ok (.putfield 13, 3) := by decide +kernel
theorem d1_14 : decode prog_80_method_1_code 14 = .ok (.return_, 1) := by decide +kernel
theorem pn1 : plainName "com/example/threadwright/threadwright/schema/Literal$Int" = true := by first | (simp [plainName, overriddenIn]; done) | decide +kernel
theorem ef1 (m : MethodId) (a : Addr) (q : Int64) (z : Int32) : entryFrame m #[(.ref a), (.long q), (.int z)] 4 = mkF m 0 #[.val (.ref a), .val (.long q), .second, .val (.int z)] [] := by first | (simp [entryFrame, mkF, argsToLocals, Value.category]; done) | rfl
def Q1 (Z : State) (a : Addr) (q : Int64) (z : Int32) (h0 : Heap) (n0 : Nat) (v : Option Value) (h : Heap) (L : List Loc) : Prop := v = none ∧ Fr n0 L ∧ Keep h0 h [a] ∧ Fld Z h a "com/example/threadwright/threadwright/schema/Literal$Int" "value" "J" (.long q) ∧ Fld Z h a "com/example/threadwright/threadwright/schema/Literal$Int" "isLong" "Z" (.int z)
set_option maxRecDepth 65536 in
set_option maxHeartbeats 40000000 in
theorem rm1 (l : Launch) (Z : State) (a0 : Array Value) (hw : ∀ d ∈ tables_1, d.before a0 Z = true) (ws : List Jvm.Cond) (a : Addr) (q : Int64) (z : Int32) (h0 : Heap) (n0 : Nat) (Z0 : n0 ≤ h0.size) (hz : z = 0 ∨ z = 1) (E_a : Exa Z h0 a "com/example/threadwright/threadwright/schema/Literal$Int") (F1 : Fld Z h0 a "com/example/threadwright/threadwright/schema/Literal$Int" "value" "J" (.long (0 : Int64))) (F2 : Fld Z h0 a "com/example/threadwright/threadwright/schema/Literal$Int" "isLong" "Z" (.int (0 : Int32))) (g_a : n0 ≤ a) :
    MetFree l (⟨"com/example/threadwright/threadwright/schema/Literal$Int", "<init>", "(JZ)V"⟩ : MethodName) (head1 (Jvm.Cond.code (⟨"com/example/threadwright/threadwright/schema/Literal$Int", "<init>", "(JZ)V"⟩ : MethodName) prog_80_method_1_code 4 none :: ws) ({ frames := 2, cells := 0, slots := 0, locals := 24 } : Room)) (fun gs' U => gs' = #[(.ref a), (.long q), (.int z)] ∧ Z.Warmed39 U.vm ∧ U.heap = h0) (fun _ _ _ _ _ => True) (fun _ U o U' => ∃ v L, o = .returned v ∧ Q1 Z a q z h0 n0 v U'.heap L ∧ FrameEnd U o U' L ({ frames := 2, cells := 0, slots := 0, locals := 24 } : Room).cells ({ frames := 2, cells := 0, slots := 0, locals := 24 } : Room).slots) := by
  refine MetFree.of_bodySF (plainFor_of_name pn1) hisR ?_
  intro p e s m args below meth c s₁ Bd hml0 hP hK
  obtain ⟨rfl, hZ, hh⟩ := hP
  have hx := Bd.exec
  have hby := Bd.bytes
  have hml : c.maxLocals = 4 := hml0
  have hown : s.vm.findClass "com/example/threadwright/threadwright/schema/Literal$Int" = some m.cls := findClass_of_methodNamed Bd.named
  have hnm := (name_of_methodNamed Bd.named Bd.method).1
  have X0 : Stand p l e ({ frames := 2, cells := 0, slots := 0, locals := 24 } : Room) s m #[(.ref a), (.long q), (.int z)] below meth c s₁ [] 0 0 := Stand.of_body Bd
  have e0 : s₁.heap = h0 := by rw [← hh, Bd.state]; rfl
  have N0 := Fr.nil n0
  have k0 : Kt p e below m (s₁.setTop (entryFrame m #[(.ref a), (.long q), (.int z)] 4)) s₁ 0 #[.val (.ref a), .val (.long q), .second, .val (.int z)] [] := fun t ht => castTop (ef1 m a q z) ht
  have K0 : Keep h0 h0 [a] := Keep.refl _ _
  have k3 : Kt p e below m (s₁.setTop (entryFrame m #[(.ref a), (.long q), (.int z)] 4)) s₁ 1 #[.val (.ref a), .val (.long q), .second, .val (.int z)] [(.ref a)] := by
    intro t ht
    refine k0 t ?_
    show Steps p.tables e below (s₁.setTop (mkF m 0 #[.val (.ref a), .val (.long q), .second, .val (.int z)] [])) t
    refine XS.aloadN X0.here hx rfl (hb hby d1_0) rfl rfl ?_
    exact ht
  obtain ⟨_, _, ⟨T4, L4, c4, n4⟩, -, X4, ⟨Lc4, hQ4, l4, y4, z4⟩, st4⟩ := X0.specialBack hx (y := (⟨"java/lang/Record", "<init>", "()V"⟩ : MethodName)) rfl hown (mvT hZ (hw _ (List.mem_of_getElem? (i := 6) rfl))) (mvT hZ (hw _ (List.mem_of_getElem? (i := 7) rfl))) (mvT hZ (hw _ (List.mem_of_getElem? (i := 10) rfl))) (by decide) (backOf (W := 0) (rm2 l Z a0 hw [] a h0 n0 Z0 ) hZ (hw _ (List.mem_of_getElem? (i := 10) rfl)) (hw _ (List.mem_of_getElem? (i := 9) rfl)) (by decide) (by decide)) (g := (mkF m 1 #[.val (.ref a), .val (.long q), .second, .val (.int z)] [(.ref a)])) rfl (by rw [hml]; rfl) (Steps.refl _) (a := a) (argsL := []) (rest := []) (lenOf pd_0 rfl) rfl (by show 2 * 0 + _ ≤ _; exact Nat.le_of_eq rfl) (hb hby d1_1) (fun _ _ => ⟨rfl, e0, (by decide : 0 + 0 ≤ _), (by decide : 0 + 0 ≤ _)⟩)
  dsimp only [Pt.U, Pt.locs, Pt.cells, Pt.slots] at X4 l4 y4 z4 st4 hQ4
  subst l4 y4 z4
  obtain ⟨rfl, Nq4, eq1⟩ := hQ4
  have N4 := Fr.app N0 Nq4
  have k4 : Kt p e below m (s₁.setTop (entryFrame m #[(.ref a), (.long q), (.int z)] 4)) T4 4 #[.val (.ref a), .val (.long q), .second, .val (.int z)] [] := fun t ht => k3 t (st4.trans ht)
  have f5 : n0 ≤ T4.heap.size := by rw [eq1]; exact Z0
  have f6 : Exa Z T4.heap a "com/example/threadwright/threadwright/schema/Literal$Int" := by rw [eq1]; exact E_a
  have f7 : Fld Z T4.heap a "com/example/threadwright/threadwright/schema/Literal$Int" "value" "J" (.long (0 : Int64)) := by rw [eq1]; exact F1
  have f8 : Fld Z T4.heap a "com/example/threadwright/threadwright/schema/Literal$Int" "isLong" "Z" (.int (0 : Int32)) := by rw [eq1]; exact F2
  have f9 : Keep h0 T4.heap [a] := by rw [eq1]; exact K0
  have k10 : Kt p e below m (s₁.setTop (entryFrame m #[(.ref a), (.long q), (.int z)] 4)) T4 6 #[.val (.ref a), .val (.long q), .second, .val (.int z)] [(.long q), (.ref a)] := by
    intro t ht
    refine k4 t ?_
    show Steps p.tables e below (T4.setTop (mkF m 4 #[.val (.ref a), .val (.long q), .second, .val (.int z)] [])) t
    refine XS.aloadN X4.here hx rfl (hb hby d1_4) rfl rfl ?_
    show Steps p.tables e below (T4.setTop (mkF m 5 #[.val (.ref a), .val (.long q), .second, .val (.int z)] [(.ref a)])) t
    refine XS.lloadN X4.here hx rfl (hb hby d1_5) rfl ?_
    exact ht
  obtain ⟨T11, h11, X11, e11, W11, st11⟩ := putF X4 hx hZ hown (host := "") (Or.inl (hw _ (List.mem_of_getElem? (i := 14) rfl))) Via.refl rfl f7 f6 (Or.inr ⟨(hw _ (List.mem_of_getElem? (i := 15) rfl)), rfl, hnm⟩) (hw _ (List.mem_of_getElem? (i := 1) rfl)) (ty := .long) (by decide) rfl rfl (g := (mkF m 6 #[.val (.ref a), .val (.long q), .second, .val (.int z)] [(.long q), (.ref a)])) rfl rfl (hb hby d1_6)
  have N11 := Fr.snoc X11 N4 g_a
  have f12 : n0 ≤ h11.size := Nat.le_trans f5 (Keep.of_wr W11).1
  have f13 : Exa Z h11 a "com/example/threadwright/threadwright/schema/Literal$Int" := f6.wr W11
  have f14 : Fld Z h11 a "com/example/threadwright/threadwright/schema/Literal$Int" "value" "J" (.long q) := f7.same W11
  have f15 : Fld Z h11 a "com/example/threadwright/threadwright/schema/Literal$Int" "isLong" "Z" (.int (0 : Int32)) := f8.other W11 (Or.inr (slot_ne (Or.inr (hw _ (List.mem_of_getElem? (i := 17) rfl))) (Or.inr (hw _ (List.mem_of_getElem? (i := 15) rfl))) (by decide) (t := .boolean) (t' := .long) (by decide) (by decide)))
  have f16 : Keep h0 h11 [a] := f9.wr W11 (Or.inl (List.mem_of_getElem? (i := 0) rfl))
  have k11 : Kt p e below m (s₁.setTop (entryFrame m #[(.ref a), (.long q), (.int z)] 4)) T11 9 #[.val (.ref a), .val (.long q), .second, .val (.int z)] [] := fun t ht => k10 t (st11 t ht)
  have k17 : Kt p e below m (s₁.setTop (entryFrame m #[(.ref a), (.long q), (.int z)] 4)) T11 11 #[.val (.ref a), .val (.long q), .second, .val (.int z)] [(.int z), (.ref a)] := by
    intro t ht
    refine k11 t ?_
    show Steps p.tables e below (T11.setTop (mkF m 9 #[.val (.ref a), .val (.long q), .second, .val (.int z)] [])) t
    refine XS.aloadN X11.here hx rfl (hb hby d1_9) rfl rfl ?_
    show Steps p.tables e below (T11.setTop (mkF m 10 #[.val (.ref a), .val (.long q), .second, .val (.int z)] [(.ref a)])) t
    refine XS.iloadN X11.here hx rfl (hb hby d1_10) rfl ?_
    exact ht
  obtain ⟨T18, h18, X18, e18, W18, st18⟩ := putFN X11 hx hZ hown (hw _ (List.mem_of_getElem? (i := 16) rfl)) Via.refl e11 f15 f13 (Or.inr ⟨(hw _ (List.mem_of_getElem? (i := 17) rfl)), rfl, hnm⟩) (hw _ (List.mem_of_getElem? (i := 1) rfl)) (ty := .boolean) (v' := (.int z)) (by decide) (own_nar hz) (own_fits hz) (g := (mkF m 11 #[.val (.ref a), .val (.long q), .second, .val (.int z)] [(.int z), (.ref a)])) rfl rfl (hb hby d1_11)
  have N18 := Fr.snoc X18 N11 g_a
  have f19 : n0 ≤ h18.size := Nat.le_trans f12 (Keep.of_wr W18).1
  have f20 : Exa Z h18 a "com/example/threadwright/threadwright/schema/Literal$Int" := f13.wr W18
  have f21 : Fld Z h18 a "com/example/threadwright/threadwright/schema/Literal$Int" "value" "J" (.long q) := f14.other W18 (Or.inr (slot_ne (Or.inr (hw _ (List.mem_of_getElem? (i := 15) rfl))) (Or.inr (hw _ (List.mem_of_getElem? (i := 17) rfl))) (by decide) (t := .long) (t' := .boolean) (by decide) (by decide)))
  have f22 : Fld Z h18 a "com/example/threadwright/threadwright/schema/Literal$Int" "isLong" "Z" (.int z) := f15.same W18
  have f23 : Keep h0 h18 [a] := f16.wr W18 (Or.inl (List.mem_of_getElem? (i := 0) rfl))
  have k18 : Kt p e below m (s₁.setTop (entryFrame m #[(.ref a), (.long q), (.int z)] 4)) T18 14 #[.val (.ref a), .val (.long q), .second, .val (.int z)] [] := fun t ht => k17 t (st18 t ht)
  obtain ⟨fs, hr, hrun, hended, hW, hsame⟩ := X18.leave (v := none) (fun _ => rfl)
  refine ⟨_, _, k18 _ ?_, hrun, hended, _, _, rfl, ?_, ⟨_, rfl⟩, hW, hsame.mono (by decide) (by decide)⟩
  · exact X18.returnOut hx Bd.returns (hb hby d1_14) hr
  · show Q1 Z a q z h0 n0 _ T18.heap _
    rw [e18]
    exact ⟨rfl, N18, f23, f21, f22⟩
theorem d5_0 : decode prog_76_method_1_code 0 = .ok (.aload_n 0, 1) := by decide +kernel
theorem d5_1 : decode prog_76_method_1_code 1 = .ok (.invokespecial 1, 3) := by decide +kernel
theorem d5_4 : decode prog_76_method_1_code 4 = .ok (.aload_n 0, 1) := by decide +kernel
theorem d5_5 : decode prog_76_method_1_code 5 = .ok (.iload_n 1, 1) := by decide +kernel
theorem d5_6 : decode prog_76_method_1_code 6 = .ok (.putfield 7, 3) := by decide +kernel
theorem d5_9 : decode prog_76_method_1_code 9 = .ok (.return_, 1) := by decide +kernel
theorem pn5 : plainName "com/example/threadwright/threadwright/schema/Literal$Bool" = true := by first | (simp [plainName, overriddenIn]; done) | decide +kernel
theorem ef5 (m : MethodId) (a : Addr) (z : Int32) : entryFrame m #[(.ref a), (.int z)] 2 = mkF m 0 #[.val (.ref a), .val (.int z)] [] := by first | (simp [entryFrame, mkF, argsToLocals, Value.category]; done) | rfl
def Q5 (Z : State) (a : Addr) (z : Int32) (h0 : Heap) (n0 : Nat) (v : Option Value) (h : Heap) (L : List Loc) : Prop := v = none ∧ Fr n0 L ∧ Keep h0 h [a]
set_option maxRecDepth 65536 in
set_option maxHeartbeats 40000000 in
theorem rm5 (l : Launch) (Z : State) (a0 : Array Value) (hw : ∀ d ∈ tables_1, d.before a0 Z = true) (ws : List Jvm.Cond) (a : Addr) (z : Int32) (h0 : Heap) (n0 : Nat) (Z0 : n0 ≤ h0.size) (hz : z = 0 ∨ z = 1) (E_a : Exa Z h0 a "com/example/threadwright/threadwright/schema/Literal$Bool") (F1 : Fld Z h0 a "com/example/threadwright/threadwright/schema/Literal$Bool" "value" "Z" (.int (0 : Int32))) (g_a : n0 ≤ a) :
    MetFree l (⟨"com/example/threadwright/threadwright/schema/Literal$Bool", "<init>", "(Z)V"⟩ : MethodName) (head1 (Jvm.Cond.code (⟨"com/example/threadwright/threadwright/schema/Literal$Bool", "<init>", "(Z)V"⟩ : MethodName) prog_76_method_1_code 2 none :: ws) ({ frames := 2, cells := 0, slots := 0, locals := 24 } : Room)) (fun gs' U => gs' = #[(.ref a), (.int z)] ∧ Z.Warmed39 U.vm ∧ U.heap = h0) (fun _ _ _ _ _ => True) (fun _ U o U' => ∃ v L, o = .returned v ∧ Q5 Z a z h0 n0 v U'.heap L ∧ FrameEnd U o U' L ({ frames := 2, cells := 0, slots := 0, locals := 24 } : Room).cells ({ frames := 2, cells := 0, slots := 0, locals := 24 } : Room).slots) := by
  refine MetFree.of_bodySF (plainFor_of_name pn5) hisR ?_
  intro p e s m args below meth c s₁ Bd hml0 hP hK
  obtain ⟨rfl, hZ, hh⟩ := hP
  have hx := Bd.exec
  have hby := Bd.bytes
  have hml : c.maxLocals = 2 := hml0
  have hown : s.vm.findClass "com/example/threadwright/threadwright/schema/Literal$Bool" = some m.cls := findClass_of_methodNamed Bd.named
  have hnm := (name_of_methodNamed Bd.named Bd.method).1
  have X0 : Stand p l e ({ frames := 2, cells := 0, slots := 0, locals := 24 } : Room) s m #[(.ref a), (.int z)] below meth c s₁ [] 0 0 := Stand.of_body Bd
  have e0 : s₁.heap = h0 := by rw [← hh, Bd.state]; rfl
  have N0 := Fr.nil n0
  have k0 : Kt p e below m (s₁.setTop (entryFrame m #[(.ref a), (.int z)] 2)) s₁ 0 #[.val (.ref a), .val (.int z)] [] := fun t ht => castTop (ef5 m a z) ht
  have K0 : Keep h0 h0 [a] := Keep.refl _ _
  have k24 : Kt p e below m (s₁.setTop (entryFrame m #[(.ref a), (.int z)] 2)) s₁ 1 #[.val (.ref a), .val (.int z)] [(.ref a)] := by
    intro t ht
    refine k0 t ?_
    show Steps p.tables e below (s₁.setTop (mkF m 0 #[.val (.ref a), .val (.int z)] [])) t
    refine XS.aloadN X0.here hx rfl (hb hby d5_0) rfl rfl ?_
    exact ht
  obtain ⟨_, _, ⟨T25, L25, c25, n25⟩, -, X25, ⟨Lc25, hQ25, l25, y25, z25⟩, st25⟩ := X0.specialBack hx (y := (⟨"java/lang/Record", "<init>", "()V"⟩ : MethodName)) rfl hown (mvT hZ (hw _ (List.mem_of_getElem? (i := 31) rfl))) (mvT hZ (hw _ (List.mem_of_getElem? (i := 7) rfl))) (mvT hZ (hw _ (List.mem_of_getElem? (i := 10) rfl))) (by decide) (backOf (W := 0) (rm2 l Z a0 hw [] a h0 n0 Z0 ) hZ (hw _ (List.mem_of_getElem? (i := 10) rfl)) (hw _ (List.mem_of_getElem? (i := 9) rfl)) (by decide) (by decide)) (g := (mkF m 1 #[.val (.ref a), .val (.int z)] [(.ref a)])) rfl (by rw [hml]; rfl) (Steps.refl _) (a := a) (argsL := []) (rest := []) (lenOf pd_0 rfl) rfl (by show 2 * 0 + _ ≤ _; exact Nat.le_of_eq rfl) (hb hby d5_1) (fun _ _ => ⟨rfl, e0, (by decide : 0 + 0 ≤ _), (by decide : 0 + 0 ≤ _)⟩)
  dsimp only [Pt.U, Pt.locs, Pt.cells, Pt.slots] at X25 l25 y25 z25 st25 hQ25
  subst l25 y25 z25
  obtain ⟨rfl, Nq25, eq1⟩ := hQ25
  have N25 := Fr.app N0 Nq25
  have k25 : Kt p e below m (s₁.setTop (entryFrame m #[(.ref a), (.int z)] 2)) T25 4 #[.val (.ref a), .val (.int z)] [] := fun t ht => k24 t (st25.trans ht)
  have f26 : n0 ≤ T25.heap.size := by rw [eq1]; exact Z0
  have f27 : Exa Z T25.heap a "com/example/threadwright/threadwright/schema/Literal$Bool" := by rw [eq1]; exact E_a
  have f28 : Fld Z T25.heap a "com/example/threadwright/threadwright/schema/Literal$Bool" "value" "Z" (.int (0 : Int32)) := by rw [eq1]; exact F1
  have f29 : Keep h0 T25.heap [a] := by rw [eq1]; exact K0
  have k30 : Kt p e below m (s₁.setTop (entryFrame m #[(.ref a), (.int z)] 2)) T25 6 #[.val (.ref a), .val (.int z)] [(.int z), (.ref a)] := by
    intro t ht
    refine k25 t ?_
    show Steps p.tables e below (T25.setTop (mkF m 4 #[.val (.ref a), .val (.int z)] [])) t
    refine XS.aloadN X25.here hx rfl (hb hby d5_4) rfl rfl ?_
    show Steps p.tables e below (T25.setTop (mkF m 5 #[.val (.ref a), .val (.int z)] [(.ref a)])) t
    refine XS.iloadN X25.here hx rfl (hb hby d5_5) rfl ?_
    exact ht
  obtain ⟨T31, h31, X31, e31, W31, st31⟩ := putFN X25 hx hZ hown (hw _ (List.mem_of_getElem? (i := 32) rfl)) Via.refl rfl f28 f27 (Or.inr ⟨(hw _ (List.mem_of_getElem? (i := 33) rfl)), rfl, hnm⟩) (hw _ (List.mem_of_getElem? (i := 26) rfl)) (ty := .boolean) (v' := (.int z)) (by decide) (own_nar hz) (own_fits hz) (g := (mkF m 6 #[.val (.ref a), .val (.int z)] [(.int z), (.ref a)])) rfl rfl (hb hby d5_6)
  have N31 := Fr.snoc X31 N25 g_a
  have f32 : n0 ≤ h31.size := Nat.le_trans f26 (Keep.of_wr W31).1
  have f33 : Exa Z h31 a "com/example/threadwright/threadwright/schema/Literal$Bool" := f27.wr W31
  have f34 : Fld Z h31 a "com/example/threadwright/threadwright/schema/Literal$Bool" "value" "Z" (.int z) := f28.same W31
  have f35 : Keep h0 h31 [a] := f29.wr W31 (Or.inl (List.mem_of_getElem? (i := 0) rfl))
  have k31 : Kt p e below m (s₁.setTop (entryFrame m #[(.ref a), (.int z)] 2)) T31 9 #[.val (.ref a), .val (.int z)] [] := fun t ht => k30 t (st31 t ht)
  obtain ⟨fs, hr, hrun, hended, hW, hsame⟩ := X31.leave (v := none) (fun _ => rfl)
  refine ⟨_, _, k31 _ ?_, hrun, hended, _, _, rfl, ?_, ⟨_, rfl⟩, hW, hsame.mono (by decide) (by decide)⟩
  · exact X31.returnOut hx Bd.returns (hb hby d5_9) hr
  · show Q5 Z a z h0 n0 _ T31.heap _
    rw [e31]
    exact ⟨rfl, N31, f35⟩
theorem deqN_0 : decode prog_80_method_7_code 0 = .ok (.aload_n 1, 1) := by decide +kernel
theorem deqN_1 : decode prog_80_method_7_code 1 = .ok (.instanceof 8, 3) := by decide +kernel
theorem deqN_4 : decode prog_80_method_7_code 4 = .ok (.ifCond .eq 35, 3) := by decide +kernel
theorem deqN_7 : decode prog_80_method_7_code 7 = .ok (.aload_n 1, 1) := by decide +kernel
theorem deqN_8 : decode prog_80_method_7_code 8 = .ok (.checkcast 8, 3) := by decide +kernel
theorem deqN_11 : decode prog_80_method_7_code 11 = .ok (.astore_n 2, 1) := by decide +kernel
theorem deqN_12 : decode prog_80_method_7_code 12 = .ok (.aload_n 0, 1) := by decide +kernel
theorem deqN_13 : decode prog_80_method_7_code 13 = .ok (.getfield 7, 3) := by decide +kernel
theorem deqN_16 : decode prog_80_method_7_code 16 = .ok (.aload_n 2, 1) := by decide +kernel
theorem deqN_17 : decode prog_80_method_7_code 17 = .ok (.getfield 7, 3) := by decide +kernel
theorem deqN_20 : decode prog_80_method_7_code 20 = .ok (.lcmp, 1) := by decide +kernel
theorem deqN_21 : decode prog_80_method_7_code 21 = .ok (.ifCond .ne 18, 3) := by decide +kernel
theorem deqN_24 : decode prog_80_method_7_code 24 = .ok (.aload_n 0, 1) := by decide +kernel
theorem deqN_25 : decode prog_80_method_7_code 25 = .ok (.getfield 13, 3) := by decide +kernel
theorem deqN_28 : decode prog_80_method_7_code 28 = .ok (.aload_n 2, 1) := by decide +kernel
theorem deqN_29 : decode prog_80_method_7_code 29 = .ok (.getfield 13, 3) := by decide +kernel
theorem deqN_32 : decode prog_80_method_7_code 32 = .ok (.if_icmp .ne 7, 3) := by decide +kernel
theorem deqN_35 : decode prog_80_method_7_code 35 = .ok (.iconst 1, 1) := by decide +kernel
theorem deqN_36 : decode prog_80_method_7_code 36 = .ok (.goto 4, 3) := by decide +kernel
theorem deqN_39 : decode prog_80_method_7_code 39 = .ok (.iconst 0, 1) := by decide +kernel
theorem deqN_40 : decode prog_80_method_7_code 40 = .ok (.ireturn, 1) := by decide +kernel
theorem pneqN : plainName "com/example/threadwright/threadwright/schema/Literal$Int" = true := by first | (simp [plainName, overriddenIn]; done) | decide +kernel
theorem efeqN (m : MethodId) (a : Addr) : entryFrame m #[(.ref a), .null] 3 = mkF m 0 #[.val (.ref a), .val .null, .unset] [] := by first | (simp [entryFrame, mkF, argsToLocals, Value.category]; done) | rfl
def QeqN (Z : State) (a : Addr) (h0 : Heap) (n0 : Nat) (v : Option Value) (h : Heap) (L : List Loc) : Prop := v = some (.int 0) ∧ Fr n0 L ∧ h = h0
set_option maxRecDepth 65536 in
set_option maxHeartbeats 40000000 in
theorem rmeqN (l : Launch) (Z : State) (a0 : Array Value) (hw : ∀ d ∈ tables_1, d.before a0 Z = true) (ws : List Jvm.Cond) (a : Addr) (h0 : Heap) (n0 : Nat) (Z0 : n0 ≤ h0.size)  :
    MetFree l (⟨"com/example/threadwright/threadwright/schema/Literal$Int", "equals", "(Ljava/lang/Object;)Z"⟩ : MethodName) (head1 (Jvm.Cond.code (⟨"com/example/threadwright/threadwright/schema/Literal$Int", "equals", "(Ljava/lang/Object;)Z"⟩ : MethodName) prog_80_method_7_code 3 (some .boolean) :: ws) ({ frames := 0, cells := 0, slots := 0, locals := 0 } : Room)) (fun gs' U => gs' = #[(.ref a), .null] ∧ Z.Warmed39 U.vm ∧ U.heap = h0) (fun _ _ _ _ _ => True) (fun _ U o U' => ∃ v L, o = .returned v ∧ QeqN Z a h0 n0 v U'.heap L ∧ FrameEnd U o U' L ({ frames := 0, cells := 0, slots := 0, locals := 0 } : Room).cells ({ frames := 0, cells := 0, slots := 0, locals := 0 } : Room).slots) := by
  refine MetFree.of_bodySF (plainFor_of_name pneqN) hisR ?_
  intro p e s m args below meth c s₁ Bd hml0 hP hK
  obtain ⟨rfl, hZ, hh⟩ := hP
  have hx := Bd.exec
  have hby := Bd.bytes
  have hml : c.maxLocals = 3 := hml0
  have hown : s.vm.findClass "com/example/threadwright/threadwright/schema/Literal$Int" = some m.cls := findClass_of_methodNamed Bd.named
  have hnm := (name_of_methodNamed Bd.named Bd.method).1
  have X0 : Stand p l e ({ frames := 0, cells := 0, slots := 0, locals := 0 } : Room) s m #[(.ref a), .null] below meth c s₁ [] 0 0 := Stand.of_body Bd
  have e0 : s₁.heap = h0 := by rw [← hh, Bd.state]; rfl
  have N0 := Fr.nil n0
  have k0 : Kt p e below m (s₁.setTop (entryFrame m #[(.ref a), .null] 3)) s₁ 0 #[.val (.ref a), .val .null, .unset] [] := fun t ht => castTop (efeqN m a) ht
  have k36 : Kt p e below m (s₁.setTop (entryFrame m #[(.ref a), .null] 3)) s₁ 40 #[.val (.ref a), .val .null, .unset] [(.int (0 : Int32))] := by
    intro t ht
    refine k0 t ?_
    show Steps p.tables e below (s₁.setTop (mkF m 0 #[.val (.ref a), .val .null, .unset] [])) t
    refine XS.aloadN X0.here hx rfl (hb hby deqN_0) rfl rfl ?_
    show Steps p.tables e below (s₁.setTop (mkF m 1 #[.val (.ref a), .val .null, .unset] [.null])) t
    refine X0.instanceofNull hx (g := (mkF m 1 #[.val (.ref a), .val .null, .unset] [.null])) rfl rfl (hb hby deqN_1) _ ?_
    show Steps p.tables e below (s₁.setTop (mkF m 4 #[.val (.ref a), .val .null, .unset] [(.int (0 : Int32))])) t
    refine XS.ifYes X0.here hx rfl (pc0 := 4) (pc' := 39) rfl (hb hby deqN_4) rfl ((if0 _ _).trans (teq rfl).1) (by decide) (by decide) ?_
    show Steps p.tables e below (s₁.setTop (mkF m 39 #[.val (.ref a), .val .null, .unset] [])) t
    refine XS.iconst X0.here hx rfl (hb hby deqN_39) ?_
    exact ht
  obtain ⟨fs, hr, hrun, hended, hW, hsame⟩ := X0.leave (v := some (.int (0 : Int32))) (fun h => by rw [Bd.returns] at h; cases h)
  refine ⟨_, _, k36 _ ?_, hrun, hended, _, _, rfl, ?_, ⟨_, rfl⟩, hW, hsame.mono (by decide) (by decide)⟩
  · exact retN X0 hx (t := .boolean) Bd.returns (by simp) (hb hby deqN_40) hr
  · show QeqN Z a h0 n0 _ s₁.heap _
    rw [e0]
    exact ⟨rfl, N0, rfl⟩
theorem deqB_0 : decode prog_80_method_7_code 0 = .ok (.aload_n 1, 1) := by decide +kernel
theorem deqB_1 : decode prog_80_method_7_code 1 = .ok (.instanceof 8, 3) := by decide +kernel
theorem deqB_4 : decode prog_80_method_7_code 4 = .ok (.ifCond .eq 35, 3) := by decide +kernel
theorem deqB_7 : decode prog_80_method_7_code 7 = .ok (.aload_n 1, 1) := by decide +kernel
theorem deqB_8 : decode prog_80_method_7_code 8 = .ok (.checkcast 8, 3) := by decide +kernel
theorem deqB_11 : decode prog_80_method_7_code 11 = .ok (.astore_n 2, 1) := by decide +kernel
theorem deqB_12 : decode prog_80_method_7_code 12 = .ok (.aload_n 0, 1) := by decide +kernel
theorem deqB_13 : decode prog_80_method_7_code 13 = .ok (.getfield 7, 3) := by decide +kernel
theorem deqB_16 : decode prog_80_method_7_code 16 = .ok (.aload_n 2, 1) := by decide +kernel
theorem deqB_17 : decode prog_80_method_7_code 17 = .ok (.getfield 7, 3) := by decide +kernel
theorem deqB_20 : decode prog_80_method_7_code 20 = .ok (.lcmp, 1) := by decide +kernel
theorem deqB_21 : decode prog_80_method_7_code 21 = .ok (.ifCond .ne 18, 3) := by decide +kernel
theorem deqB_24 : decode prog_80_method_7_code 24 = .ok (.aload_n 0, 1) := by decide +kernel
theorem deqB_25 : decode prog_80_method_7_code 25 = .ok (.getfield 13, 3) := by decide +kernel
theorem deqB_28 : decode prog_80_method_7_code 28 = .ok (.aload_n 2, 1) := by decide +kernel
theorem deqB_29 : decode prog_80_method_7_code 29 = .ok (.getfield 13, 3) := by decide +kernel
theorem deqB_32 : decode prog_80_method_7_code 32 = .ok (.if_icmp .ne 7, 3) := by decide +kernel
theorem deqB_35 : decode prog_80_method_7_code 35 = .ok (.iconst 1, 1) := by decide +kernel
theorem deqB_36 : decode prog_80_method_7_code 36 = .ok (.goto 4, 3) := by decide +kernel
theorem deqB_39 : decode prog_80_method_7_code 39 = .ok (.iconst 0, 1) := by decide +kernel
theorem deqB_40 : decode prog_80_method_7_code 40 = .ok (.ireturn, 1) := by decide +kernel
theorem pneqB : plainName "com/example/threadwright/threadwright/schema/Literal$Int" = true := by first | (simp [plainName, overriddenIn]; done) | decide +kernel
theorem efeqB (m : MethodId) (a : Addr) (b : Addr) : entryFrame m #[(.ref a), (.ref b)] 3 = mkF m 0 #[.val (.ref a), .val (.ref b), .unset] [] := by first | (simp [entryFrame, mkF, argsToLocals, Value.category]; done) | rfl
def QeqB (Z : State) (a : Addr) (b : Addr) (h0 : Heap) (n0 : Nat) (v : Option Value) (h : Heap) (L : List Loc) : Prop := v = some (.int 0) ∧ Fr n0 L ∧ h = h0
set_option maxRecDepth 65536 in
set_option maxHeartbeats 40000000 in
theorem rmeqB (l : Launch) (Z : State) (a0 : Array Value) (hw : ∀ d ∈ tables_1, d.before a0 Z = true) (ws : List Jvm.Cond) (a : Addr) (b : Addr) (h0 : Heap) (n0 : Nat) (Z0 : n0 ≤ h0.size) (E_b : Exa Z h0 b "com/example/threadwright/threadwright/schema/Literal$Bool") :
    MetFree l (⟨"com/example/threadwright/threadwright/schema/Literal$Int", "equals", "(Ljava/lang/Object;)Z"⟩ : MethodName) (head1 (Jvm.Cond.code (⟨"com/example/threadwright/threadwright/schema/Literal$Int", "equals", "(Ljava/lang/Object;)Z"⟩ : MethodName) prog_80_method_7_code 3 (some .boolean) :: ws) ({ frames := 0, cells := 0, slots := 0, locals := 0 } : Room)) (fun gs' U => gs' = #[(.ref a), (.ref b)] ∧ Z.Warmed39 U.vm ∧ U.heap = h0) (fun _ _ _ _ _ => True) (fun _ U o U' => ∃ v L, o = .returned v ∧ QeqB Z a b h0 n0 v U'.heap L ∧ FrameEnd U o U' L ({ frames := 0, cells := 0, slots := 0, locals := 0 } : Room).cells ({ frames := 0, cells := 0, slots := 0, locals := 0 } : Room).slots) := by
  refine MetFree.of_bodySF (plainFor_of_name pneqB) hisR ?_
  intro p e s m args below meth c s₁ Bd hml0 hP hK
  obtain ⟨rfl, hZ, hh⟩ := hP
  have hx := Bd.exec
  have hby := Bd.bytes
  have hml : c.maxLocals = 3 := hml0
  have hown : s.vm.findClass "com/example/threadwright/threadwright/schema/Literal$Int" = some m.cls := findClass_of_methodNamed Bd.named
  have hnm := (name_of_methodNamed Bd.named Bd.method).1
  have X0 : Stand p l e ({ frames := 0, cells := 0, slots := 0, locals := 0 } : Room) s m #[(.ref a), (.ref b)] below meth c s₁ [] 0 0 := Stand.of_body Bd
  have e0 : s₁.heap = h0 := by rw [← hh, Bd.state]; rfl
  have N0 := Fr.nil n0
  have k0 : Kt p e below m (s₁.setTop (entryFrame m #[(.ref a), (.ref b)] 3)) s₁ 0 #[.val (.ref a), .val (.ref b), .unset] [] := fun t ht => castTop (efeqB m a b) ht
  have hno := own_no (hw _ (List.mem_of_getElem? (i := 34) rfl)) (hw _ (List.mem_of_getElem? (i := 35) rfl)) (hw _ (List.mem_of_getElem? (i := 36) rfl)) (hw _ (List.mem_of_getElem? (i := 1) rfl)) (by decide) (by decide) (by decide)
  have k37 : Kt p e below m (s₁.setTop (entryFrame m #[(.ref a), (.ref b)] 3)) s₁ 1 #[.val (.ref a), .val (.ref b), .unset] [(.ref b)] := by
    intro t ht
    refine k0 t ?_
    show Steps p.tables e below (s₁.setTop (mkF m 0 #[.val (.ref a), .val (.ref b), .unset] [])) t
    refine XS.aloadN X0.here hx rfl (hb hby deqB_0) rfl rfl ?_
    exact ht
  obtain ⟨T38, X38, e38, st38⟩ := instNo X0 hx hZ hown (hw _ (List.mem_of_getElem? (i := 23) rfl)) e0 E_b hno (g := (mkF m 1 #[.val (.ref a), .val (.ref b), .unset] [(.ref b)])) rfl rfl (hb hby deqB_1)
  have k38 : Kt p e below m (s₁.setTop (entryFrame m #[(.ref a), (.ref b)] 3)) T38 4 #[.val (.ref a), .val (.ref b), .unset] [(.int (0 : Int32))] := fun t ht => k37 t (st38 t ht)
  have k39 : Kt p e below m (s₁.setTop (entryFrame m #[(.ref a), (.ref b)] 3)) T38 40 #[.val (.ref a), .val (.ref b), .unset] [(.int (0 : Int32))] := by
    intro t ht
    refine k38 t ?_
    show Steps p.tables e below (T38.setTop (mkF m 4 #[.val (.ref a), .val (.ref b), .unset] [(.int (0 : Int32))])) t
    refine XS.ifYes X38.here hx rfl (pc0 := 4) (pc' := 39) rfl (hb hby deqB_4) rfl ((if0 _ _).trans (teq rfl).1) (by decide) (by decide) ?_
    show Steps p.tables e below (T38.setTop (mkF m 39 #[.val (.ref a), .val (.ref b), .unset] [])) t
    refine XS.iconst X38.here hx rfl (hb hby deqB_39) ?_
    exact ht
  obtain ⟨fs, hr, hrun, hended, hW, hsame⟩ := X38.leave (v := some (.int (0 : Int32))) (fun h => by rw [Bd.returns] at h; cases h)
  refine ⟨_, _, k39 _ ?_, hrun, hended, _, _, rfl, ?_, ⟨_, rfl⟩, hW, hsame.mono (by decide) (by decide)⟩
  · exact retN X38 hx (t := .boolean) Bd.returns (by simp) (hb hby deqB_40) hr
  · show QeqB Z a b h0 n0 _ T38.heap _
    rw [e38]
    exact ⟨rfl, N0, rfl⟩
theorem deqI_0 : decode prog_80_method_7_code 0 = .ok (.aload_n 1, 1) := by decide +kernel
theorem deqI_1 : decode prog_80_method_7_code 1 = .ok (.instanceof 8, 3) := by decide +kernel
theorem deqI_4 : decode prog_80_method_7_code 4 = .ok (.ifCond .eq 35, 3) := by decide +kernel
theorem deqI_7 : decode prog_80_method_7_code 7 = .ok (.aload_n 1, 1) := by decide +kernel
theorem deqI_8 : decode prog_80_method_7_code 8 = .ok (.checkcast 8, 3) := by decide +kernel
theorem deqI_11 : decode prog_80_method_7_code 11 = .ok (.astore_n 2, 1) := by decide +kernel
theorem deqI_12 : decode prog_80_method_7_code 12 = .ok (.aload_n 0, 1) := by decide +kernel
theorem deqI_13 : decode prog_80_method_7_code 13 = .ok (.getfield 7, 3) := by decide +kernel
theorem deqI_16 : decode prog_80_method_7_code 16 = .ok (.aload_n 2, 1) := by decide +kernel
theorem deqI_17 : decode prog_80_method_7_code 17 = .ok (.getfield 7, 3) := by decide +kernel
theorem deqI_20 : decode prog_80_method_7_code 20 = .ok (.lcmp, 1) := by decide +kernel
theorem deqI_21 : decode prog_80_method_7_code 21 = .ok (.ifCond .ne 18, 3) := by decide +kernel
theorem deqI_24 : decode prog_80_method_7_code 24 = .ok (.aload_n 0, 1) := by decide +kernel
theorem deqI_25 : decode prog_80_method_7_code 25 = .ok (.getfield 13, 3) := by decide +kernel
theorem deqI_28 : decode prog_80_method_7_code 28 = .ok (.aload_n 2, 1) := by decide +kernel
theorem deqI_29 : decode prog_80_method_7_code 29 = .ok (.getfield 13, 3) := by decide +kernel
theorem deqI_32 : decode prog_80_method_7_code 32 = .ok (.if_icmp .ne 7, 3) := by decide +kernel
theorem deqI_35 : decode prog_80_method_7_code 35 = .ok (.iconst 1, 1) := by decide +kernel
theorem deqI_36 : decode prog_80_method_7_code 36 = .ok (.goto 4, 3) := by decide +kernel
theorem deqI_39 : decode prog_80_method_7_code 39 = .ok (.iconst 0, 1) := by decide +kernel
theorem deqI_40 : decode prog_80_method_7_code 40 = .ok (.ireturn, 1) := by decide +kernel
theorem pneqI : plainName "com/example/threadwright/threadwright/schema/Literal$Int" = true := by first | (simp [plainName, overriddenIn]; done) | decide +kernel
theorem efeqI (m : MethodId) (a : Addr) (b : Addr) : entryFrame m #[(.ref a), (.ref b)] 3 = mkF m 0 #[.val (.ref a), .val (.ref b), .unset] [] := by first | (simp [entryFrame, mkF, argsToLocals, Value.category]; done) | rfl
def QeqI (Z : State) (a : Addr) (b : Addr) (q : Int64) (z : Int32) (r : Int64) (u : Int32) (h0 : Heap) (n0 : Nat) (v : Option Value) (h : Heap) (L : List Loc) : Prop := v = some (.int (own_b (q = r ∧ z = u))) ∧ Fr n0 L ∧ h = h0
set_option maxRecDepth 65536 in
set_option maxHeartbeats 40000000 in
theorem rmeqI (l : Launch) (Z : State) (a0 : Array Value) (hw : ∀ d ∈ tables_1, d.before a0 Z = true) (ws : List Jvm.Cond) (a : Addr) (b : Addr) (q : Int64) (z : Int32) (r : Int64) (u : Int32) (h0 : Heap) (n0 : Nat) (Z0 : n0 ≤ h0.size) (E_b : Exa Z h0 b "com/example/threadwright/threadwright/schema/Literal$Int") (F1 : Fld Z h0 a "com/example/threadwright/threadwright/schema/Literal$Int" "value" "J" (.long q)) (F2 : Fld Z h0 a "com/example/threadwright/threadwright/schema/Literal$Int" "isLong" "Z" (.int z)) (F3 : Fld Z h0 b "com/example/threadwright/threadwright/schema/Literal$Int" "value" "J" (.long r)) (F4 : Fld Z h0 b "com/example/threadwright/threadwright/schema/Literal$Int" "isLong" "Z" (.int u)) :
    MetFree l (⟨"com/example/threadwright/threadwright/schema/Literal$Int", "equals", "(Ljava/lang/Object;)Z"⟩ : MethodName) (head1 (Jvm.Cond.code (⟨"com/example/threadwright/threadwright/schema/Literal$Int", "equals", "(Ljava/lang/Object;)Z"⟩ : MethodName) prog_80_method_7_code 3 (some .boolean) :: ws) ({ frames := 0, cells := 0, slots := 0, locals := 0 } : Room)) (fun gs' U => gs' = #[(.ref a), (.ref b)] ∧ Z.Warmed39 U.vm ∧ U.heap = h0) (fun _ _ _ _ _ => True) (fun _ U o U' => ∃ v L, o = .returned v ∧ QeqI Z a b q z r u h0 n0 v U'.heap L ∧ FrameEnd U o U' L ({ frames := 0, cells := 0, slots := 0, locals := 0 } : Room).cells ({ frames := 0, cells := 0, slots := 0, locals := 0 } : Room).slots) := by
  refine MetFree.of_bodySF (plainFor_of_name pneqI) hisR ?_
  intro p e s m args below meth c s₁ Bd hml0 hP hK
  obtain ⟨rfl, hZ, hh⟩ := hP
  have hx := Bd.exec
  have hby := Bd.bytes
  have hml : c.maxLocals = 3 := hml0
  have hown : s.vm.findClass "com/example/threadwright/threadwright/schema/Literal$Int" = some m.cls := findClass_of_methodNamed Bd.named
  have hnm := (name_of_methodNamed Bd.named Bd.method).1
  have X0 : Stand p l e ({ frames := 0, cells := 0, slots := 0, locals := 0 } : Room) s m #[(.ref a), (.ref b)] below meth c s₁ [] 0 0 := Stand.of_body Bd
  have e0 : s₁.heap = h0 := by rw [← hh, Bd.state]; rfl
  have N0 := Fr.nil n0
  have k0 : Kt p e below m (s₁.setTop (entryFrame m #[(.ref a), (.ref b)] 3)) s₁ 0 #[.val (.ref a), .val (.ref b), .unset] [] := fun t ht => castTop (efeqI m a b) ht
  have k40 : Kt p e below m (s₁.setTop (entryFrame m #[(.ref a), (.ref b)] 3)) s₁ 1 #[.val (.ref a), .val (.ref b), .unset] [(.ref b)] := by
    intro t ht
    refine k0 t ?_
    show Steps p.tables e below (s₁.setTop (mkF m 0 #[.val (.ref a), .val (.ref b), .unset] [])) t
    refine XS.aloadN X0.here hx rfl (hb hby deqI_0) rfl rfl ?_
    exact ht
  obtain ⟨T41, X41, e41, st41⟩ := instY X0 hx hZ hown (hw _ (List.mem_of_getElem? (i := 23) rfl)) e0 (Ins.self E_b) (g := (mkF m 1 #[.val (.ref a), .val (.ref b), .unset] [(.ref b)])) rfl rfl (hb hby deqI_1)
  have k41 : Kt p e below m (s₁.setTop (entryFrame m #[(.ref a), (.ref b)] 3)) T41 4 #[.val (.ref a), .val (.ref b), .unset] [(.int (1 : Int32))] := fun t ht => k40 t (st41 t ht)
  have k42 : Kt p e below m (s₁.setTop (entryFrame m #[(.ref a), (.ref b)] 3)) T41 8 #[.val (.ref a), .val (.ref b), .unset] [(.ref b)] := by
    intro t ht
    refine k41 t ?_
    show Steps p.tables e below (T41.setTop (mkF m 4 #[.val (.ref a), .val (.ref b), .unset] [(.int (1 : Int32))])) t
    refine XS.ifNo X41.here hx rfl (hb hby deqI_4) rfl ((if0 _ _).trans (feq (by decide)).1) ?_
    show Steps p.tables e below (T41.setTop (mkF m 7 #[.val (.ref a), .val (.ref b), .unset] [])) t
    refine XS.aloadN X41.here hx rfl (hb hby deqI_7) rfl rfl ?_
    exact ht
  obtain ⟨T43, X43, e43, st43⟩ := castY X41 hx hZ hown (hw _ (List.mem_of_getElem? (i := 23) rfl)) e41 (Ins.self E_b) (g := (mkF m 8 #[.val (.ref a), .val (.ref b), .unset] [(.ref b)])) rfl rfl (hb hby deqI_8)
  have k43 : Kt p e below m (s₁.setTop (entryFrame m #[(.ref a), (.ref b)] 3)) T43 11 #[.val (.ref a), .val (.ref b), .unset] [(.ref b)] := fun t ht => k42 t (st43 t ht)
  have k44 : Kt p e below m (s₁.setTop (entryFrame m #[(.ref a), (.ref b)] 3)) T43 13 #[.val (.ref a), .val (.ref b), .val (.ref b)] [(.ref a)] := by
    intro t ht
    refine k43 t ?_
    show Steps p.tables e below (T43.setTop (mkF m 11 #[.val (.ref a), .val (.ref b), .unset] [(.ref b)])) t
    refine XS.astoreN X43.here hx rfl (hb hby deqI_11) rfl rfl (l' := #[.val (.ref a), .val (.ref b), .val (.ref b)]) rfl ?_
    show Steps p.tables e below (T43.setTop (mkF m 12 #[.val (.ref a), .val (.ref b), .val (.ref b)] [])) t
    refine XS.aloadN X43.here hx rfl (hb hby deqI_12) rfl rfl ?_
    exact ht
  obtain ⟨T45, X45, e45, st45⟩ := getF X43 hx hZ hown (host := "") (Or.inl (hw _ (List.mem_of_getElem? (i := 14) rfl))) Via.refl e43 F1 (g := (mkF m 13 #[.val (.ref a), .val (.ref b), .val (.ref b)] [(.ref a)])) rfl rfl (hb hby deqI_13)
  have k45 : Kt p e below m (s₁.setTop (entryFrame m #[(.ref a), (.ref b)] 3)) T45 16 #[.val (.ref a), .val (.ref b), .val (.ref b)] [(.long q)] := fun t ht => k44 t (st45 t ht)
  have k46 : Kt p e below m (s₁.setTop (entryFrame m #[(.ref a), (.ref b)] 3)) T45 17 #[.val (.ref a), .val (.ref b), .val (.ref b)] [(.ref b), (.long q)] := by
    intro t ht
    refine k45 t ?_
    show Steps p.tables e below (T45.setTop (mkF m 16 #[.val (.ref a), .val (.ref b), .val (.ref b)] [(.long q)])) t
    refine XS.aloadN X45.here hx rfl (hb hby deqI_16) rfl rfl ?_
    exact ht
  obtain ⟨T47, X47, e47, st47⟩ := getF X45 hx hZ hown (host := "") (Or.inl (hw _ (List.mem_of_getElem? (i := 14) rfl))) Via.refl e45 F3 (g := (mkF m 17 #[.val (.ref a), .val (.ref b), .val (.ref b)] [(.ref b), (.long q)])) rfl rfl (hb hby deqI_17)
  have k47 : Kt p e below m (s₁.setTop (entryFrame m #[(.ref a), (.ref b)] 3)) T47 20 #[.val (.ref a), .val (.ref b), .val (.ref b)] [(.long r), (.long q)] := fun t ht => k46 t (st47 t ht)
  have k48 : Kt p e below m (s₁.setTop (entryFrame m #[(.ref a), (.ref b)] 3)) T47 21 #[.val (.ref a), .val (.ref b), .val (.ref b)] [(.int (lcmpW q r))] := by
    intro t ht
    refine k47 t ?_
    show Steps p.tables e below (T47.setTop (mkF m 20 #[.val (.ref a), .val (.ref b), .val (.ref b)] [(.long r), (.long q)])) t
    refine XS.lcmp X47.here hx rfl (hb hby deqI_20) rfl ?_
    exact ht
  by_cases h1 : q = r
  · have k49 : Kt p e below m (s₁.setTop (entryFrame m #[(.ref a), (.ref b)] 3)) T47 25 #[.val (.ref a), .val (.ref b), .val (.ref b)] [(.ref a)] := by
      intro t ht
      refine k48 t ?_
      show Steps p.tables e below (T47.setTop (mkF m 21 #[.val (.ref a), .val (.ref b), .val (.ref b)] [(.int (lcmpW q r))])) t
      refine XS.ifNo X47.here hx rfl (hb hby deqI_21) rfl ((if0 _ _).trans (teq ((lw_eq _ _).mpr h1)).2) ?_
      show Steps p.tables e below (T47.setTop (mkF m 24 #[.val (.ref a), .val (.ref b), .val (.ref b)] [])) t
      refine XS.aloadN X47.here hx rfl (hb hby deqI_24) rfl rfl ?_
      exact ht
    obtain ⟨T50, X50, e50, st50⟩ := getF X47 hx hZ hown (host := "") (Or.inl (hw _ (List.mem_of_getElem? (i := 16) rfl))) Via.refl e47 F2 (g := (mkF m 25 #[.val (.ref a), .val (.ref b), .val (.ref b)] [(.ref a)])) rfl rfl (hb hby deqI_25)
    have k50 : Kt p e below m (s₁.setTop (entryFrame m #[(.ref a), (.ref b)] 3)) T50 28 #[.val (.ref a), .val (.ref b), .val (.ref b)] [(.int z)] := fun t ht => k49 t (st50 t ht)
    have k51 : Kt p e below m (s₁.setTop (entryFrame m #[(.ref a), (.ref b)] 3)) T50 29 #[.val (.ref a), .val (.ref b), .val (.ref b)] [(.ref b), (.int z)] := by
      intro t ht
      refine k50 t ?_
      show Steps p.tables e below (T50.setTop (mkF m 28 #[.val (.ref a), .val (.ref b), .val (.ref b)] [(.int z)])) t
      refine XS.aloadN X50.here hx rfl (hb hby deqI_28) rfl rfl ?_
      exact ht
    obtain ⟨T52, X52, e52, st52⟩ := getF X50 hx hZ hown (host := "") (Or.inl (hw _ (List.mem_of_getElem? (i := 16) rfl))) Via.refl e50 F4 (g := (mkF m 29 #[.val (.ref a), .val (.ref b), .val (.ref b)] [(.ref b), (.int z)])) rfl rfl (hb hby deqI_29)
    have k52 : Kt p e below m (s₁.setTop (entryFrame m #[(.ref a), (.ref b)] 3)) T52 32 #[.val (.ref a), .val (.ref b), .val (.ref b)] [(.int u), (.int z)] := fun t ht => k51 t (st52 t ht)
    by_cases h2 : z = u
    · have k53 : Kt p e below m (s₁.setTop (entryFrame m #[(.ref a), (.ref b)] 3)) T52 40 #[.val (.ref a), .val (.ref b), .val (.ref b)] [(.int (1 : Int32))] := by
        intro t ht
        refine k52 t ?_
        show Steps p.tables e below (T52.setTop (mkF m 32 #[.val (.ref a), .val (.ref b), .val (.ref b)] [(.int u), (.int z)])) t
        refine XS.icmpNo X52.here hx rfl (hb hby deqI_32) rfl (teq h2).2 ?_
        show Steps p.tables e below (T52.setTop (mkF m 35 #[.val (.ref a), .val (.ref b), .val (.ref b)] [])) t
        refine XS.iconst X52.here hx rfl (hb hby deqI_35) ?_
        show Steps p.tables e below (T52.setTop (mkF m 36 #[.val (.ref a), .val (.ref b), .val (.ref b)] [(.int (1 : Int32))])) t
        refine XS.goto X52.here hx rfl (pc0 := 36) (pc' := 40) rfl (hb hby deqI_36) (by decide) (by decide) ?_
        exact ht
      obtain ⟨fs, hr, hrun, hended, hW, hsame⟩ := X52.leave (v := some (.int (1 : Int32))) (fun h => by rw [Bd.returns] at h; cases h)
      refine ⟨_, _, k53 _ ?_, hrun, hended, _, _, rfl, ?_, ⟨_, rfl⟩, hW, hsame.mono (by decide) (by decide)⟩
      · exact retN X52 hx (t := .boolean) Bd.returns (by simp) (hb hby deqI_40) hr
      · show QeqI Z a b q z r u h0 n0 _ T52.heap _
        rw [e52]
        exact ⟨congrArg (fun z => some (Value.int z)) (own_b1 (⟨h1, h2⟩)), N0, rfl⟩
    · have k54 : Kt p e below m (s₁.setTop (entryFrame m #[(.ref a), (.ref b)] 3)) T52 40 #[.val (.ref a), .val (.ref b), .val (.ref b)] [(.int (0 : Int32))] := by
        intro t ht
        refine k52 t ?_
        show Steps p.tables e below (T52.setTop (mkF m 32 #[.val (.ref a), .val (.ref b), .val (.ref b)] [(.int u), (.int z)])) t
        refine XS.icmpYes X52.here hx rfl (pc0 := 32) (pc' := 39) rfl (hb hby deqI_32) rfl (feq h2).2 (by decide) (by decide) ?_
        show Steps p.tables e below (T52.setTop (mkF m 39 #[.val (.ref a), .val (.ref b), .val (.ref b)] [])) t
        refine XS.iconst X52.here hx rfl (hb hby deqI_39) ?_
        exact ht
      obtain ⟨fs, hr, hrun, hended, hW, hsame⟩ := X52.leave (v := some (.int (0 : Int32))) (fun h => by rw [Bd.returns] at h; cases h)
      refine ⟨_, _, k54 _ ?_, hrun, hended, _, _, rfl, ?_, ⟨_, rfl⟩, hW, hsame.mono (by decide) (by decide)⟩
      · exact retN X52 hx (t := .boolean) Bd.returns (by simp) (hb hby deqI_40) hr
      · show QeqI Z a b q z r u h0 n0 _ T52.heap _
        rw [e52]
        exact ⟨congrArg (fun z => some (Value.int z)) (own_b0 (fun q => h2 q.2)), N0, rfl⟩
  · have k55 : Kt p e below m (s₁.setTop (entryFrame m #[(.ref a), (.ref b)] 3)) T47 40 #[.val (.ref a), .val (.ref b), .val (.ref b)] [(.int (0 : Int32))] := by
      intro t ht
      refine k48 t ?_
      show Steps p.tables e below (T47.setTop (mkF m 21 #[.val (.ref a), .val (.ref b), .val (.ref b)] [(.int (lcmpW q r))])) t
      refine XS.ifYes X47.here hx rfl (pc0 := 21) (pc' := 39) rfl (hb hby deqI_21) rfl ((if0 _ _).trans (feq (mt (lw_eq _ _).mp h1)).2) (by decide) (by decide) ?_
      show Steps p.tables e below (T47.setTop (mkF m 39 #[.val (.ref a), .val (.ref b), .val (.ref b)] [])) t
      refine XS.iconst X47.here hx rfl (hb hby deqI_39) ?_
      exact ht
    obtain ⟨fs, hr, hrun, hended, hW, hsame⟩ := X47.leave (v := some (.int (0 : Int32))) (fun h => by rw [Bd.returns] at h; cases h)
    refine ⟨_, _, k55 _ ?_, hrun, hended, _, _, rfl, ?_, ⟨_, rfl⟩, hW, hsame.mono (by decide) (by decide)⟩
    · exact retN X47 hx (t := .boolean) Bd.returns (by simp) (hb hby deqI_40) hr
    · show QeqI Z a b q z r u h0 n0 _ T47.heap _
      rw [e47]
      exact ⟨congrArg (fun z => some (Value.int z)) (own_b0 (fun q => h1 q.1)), N0, rfl⟩
theorem pn0 : plainName "com/example/threadwright/threadwright/schema/IntEqualsPinLaw" = true := by first | (simp [plainName, overriddenIn]; done) | decide +kernel
theorem ef0 (m : MethodId) (p1 : Int64) (p2 : Int64) (p3 : Int32) : entryFrame m #[(.long p1), (.long p2), (.int p3)] maxLocals = mkF m 0 #[.val (.long p1), .second, .val (.long p2), .second, .val (.int p3), .unset, .unset, .unset, .unset, .unset, .unset, .unset, .unset, .unset, .unset, .unset, .unset] [] := by first | (simp [entryFrame, mkF, argsToLocals, Value.category, maxLocals]; done) | rfl
def Q0 (Z : State) (p1 : Int64) (p2 : Int64) (p3 : Int32) (h0 : Heap) (n0 : Nat) (v : Option Value) (h : Heap) (L : List Loc) : Prop := v = some (.int 1) ∧ Fr n0 L
set_option maxRecDepth 65536 in
set_option maxHeartbeats 40000000 in
theorem rm0 (l : Launch) (Z : State) (a0 : Array Value) (hw : ∀ d ∈ tables_1, d.before a0 Z = true) (ws : List Jvm.Cond) (p1 : Int64) (p2 : Int64) (p3 : Int32) (h0 : Heap) (n0 : Nat) (Z0 : n0 ≤ h0.size)  :
    MetFree l x (head1 (Jvm.Cond.code x code maxLocals ret :: ws) room_1) (fun gs' U => gs' = #[(.long p1), (.long p2), (.int p3)] ∧ Z.Warmed39 U.vm ∧ U.heap = h0) (fun _ _ _ _ _ => True) (fun _ U o U' => ∃ v L, o = .returned v ∧ Q0 Z p1 p2 p3 h0 n0 v U'.heap L ∧ FrameEnd U o U' L room_1.cells room_1.slots) := by
  refine MetFree.of_bodySF (plainFor_of_name pn0) hisR ?_
  intro p e s m args below meth c s₁ Bd hml0 hP hK
  obtain ⟨rfl, hZ, hh⟩ := hP
  have hx := Bd.exec
  have hby := Bd.bytes
  have hml : c.maxLocals = 17 := hml0
  have hown : s.vm.findClass "com/example/threadwright/threadwright/schema/IntEqualsPinLaw" = some m.cls := findClass_of_methodNamed Bd.named
  have hnm := (name_of_methodNamed Bd.named Bd.method).1
  have X0 : Stand p l e room_1 s m #[(.long p1), (.long p2), (.int p3)] below meth c s₁ [] 0 0 := Stand.of_body Bd
  have e0 : s₁.heap = h0 := by rw [← hh, Bd.state]; rfl
  have N0 := Fr.nil n0
  have k0 : Kt p e below m (s₁.setTop (entryFrame m #[(.long p1), (.long p2), (.int p3)] maxLocals)) s₁ 0 #[.val (.long p1), .second, .val (.long p2), .second, .val (.int p3), .unset, .unset, .unset, .unset, .unset, .unset, .unset, .unset, .unset, .unset, .unset, .unset] [] := fun t ht => castTop (ef0 m p1 p2 p3) ht
  obtain ⟨z5, hp56, k56⟩ : ∃ z5 : Int32, (z5 = 0 ∨ z5 = 1) ∧ Kt p e below m (s₁.setTop (entryFrame m #[(.long p1), (.long p2), (.int p3)] maxLocals)) s₁ 12 #[.val (.long p1), .second, .val (.long p2), .second, .val (.int p3), .unset, .unset, .unset, .unset, .unset, .unset, .unset, .unset, .unset, .unset, .unset, .unset] [(.int z5)] := by
    have k57 : Kt p e below m (s₁.setTop (entryFrame m #[(.long p1), (.long p2), (.int p3)] maxLocals)) s₁ 4 #[.val (.long p1), .second, .val (.long p2), .second, .val (.int p3), .unset, .unset, .unset, .unset, .unset, .unset, .unset, .unset, .unset, .unset, .unset, .unset] [(.int (p3 &&& (1 : Int32)))] := by
      intro t ht
      refine k0 t ?_
      show Steps p.tables e below (s₁.setTop (mkF m 0 #[.val (.long p1), .second, .val (.long p2), .second, .val (.int p3), .unset, .unset, .unset, .unset, .unset, .unset, .unset, .unset, .unset, .unset, .unset, .unset] [])) t
      refine XS.iload X0.here hx rfl (hb hby at_0) rfl ?_
      show Steps p.tables e below (s₁.setTop (mkF m 2 #[.val (.long p1), .second, .val (.long p2), .second, .val (.int p3), .unset, .unset, .unset, .unset, .unset, .unset, .unset, .unset, .unset, .unset, .unset, .unset] [(.int p3)])) t
      refine XS.iconst X0.here hx rfl (hb hby at_2) ?_
      show Steps p.tables e below (s₁.setTop (mkF m 3 #[.val (.long p1), .second, .val (.long p2), .second, .val (.int p3), .unset, .unset, .unset, .unset, .unset, .unset, .unset, .unset, .unset, .unset, .unset, .unset] [(.int (1 : Int32)), (.int p3)])) t
      refine XS.iand X0.here hx rfl (hb hby at_3) rfl ?_
      exact ht
    by_cases hj58 : (p3 &&& (1 : Int32)) = (0 : Int32)
    · have k59 : Kt p e below m (s₁.setTop (entryFrame m #[(.long p1), (.long p2), (.int p3)] maxLocals)) s₁ 12 #[.val (.long p1), .second, .val (.long p2), .second, .val (.int p3), .unset, .unset, .unset, .unset, .unset, .unset, .unset, .unset, .unset, .unset, .unset, .unset] [(.int (0 : Int32))] := by
        intro t ht
        refine k57 t ?_
        show Steps p.tables e below (s₁.setTop (mkF m 4 #[.val (.long p1), .second, .val (.long p2), .second, .val (.int p3), .unset, .unset, .unset, .unset, .unset, .unset, .unset, .unset, .unset, .unset, .unset, .unset] [(.int (p3 &&& (1 : Int32)))])) t
        refine XS.ifYes X0.here hx rfl (pc0 := 4) (pc' := 11) rfl (hb hby at_4) rfl ((if0 _ _).trans (teq hj58).1) (by decide) (by decide) ?_
        show Steps p.tables e below (s₁.setTop (mkF m 11 #[.val (.long p1), .second, .val (.long p2), .second, .val (.int p3), .unset, .unset, .unset, .unset, .unset, .unset, .unset, .unset, .unset, .unset, .unset, .unset] [])) t
        refine XS.iconst X0.here hx rfl (hb hby at_11) ?_
        exact ht
      exact ⟨(0 : Int32), (by decide), k59⟩
    · have k60 : Kt p e below m (s₁.setTop (entryFrame m #[(.long p1), (.long p2), (.int p3)] maxLocals)) s₁ 12 #[.val (.long p1), .second, .val (.long p2), .second, .val (.int p3), .unset, .unset, .unset, .unset, .unset, .unset, .unset, .unset, .unset, .unset, .unset, .unset] [(.int (1 : Int32))] := by
        intro t ht
        refine k57 t ?_
        show Steps p.tables e below (s₁.setTop (mkF m 4 #[.val (.long p1), .second, .val (.long p2), .second, .val (.int p3), .unset, .unset, .unset, .unset, .unset, .unset, .unset, .unset, .unset, .unset, .unset, .unset] [(.int (p3 &&& (1 : Int32)))])) t
        refine XS.ifNo X0.here hx rfl (hb hby at_4) rfl ((if0 _ _).trans (feq hj58).1) ?_
        show Steps p.tables e below (s₁.setTop (mkF m 7 #[.val (.long p1), .second, .val (.long p2), .second, .val (.int p3), .unset, .unset, .unset, .unset, .unset, .unset, .unset, .unset, .unset, .unset, .unset, .unset] [])) t
        refine XS.iconst X0.here hx rfl (hb hby at_7) ?_
        show Steps p.tables e below (s₁.setTop (mkF m 8 #[.val (.long p1), .second, .val (.long p2), .second, .val (.int p3), .unset, .unset, .unset, .unset, .unset, .unset, .unset, .unset, .unset, .unset, .unset, .unset] [(.int (1 : Int32))])) t
        refine XS.goto X0.here hx rfl (pc0 := 8) (pc' := 12) rfl (hb hby at_8) (by decide) (by decide) ?_
        exact ht
      exact ⟨(1 : Int32), (by decide), k60⟩
  have k61 : Kt p e below m (s₁.setTop (entryFrame m #[(.long p1), (.long p2), (.int p3)] maxLocals)) s₁ 18 #[.val (.long p1), .second, .val (.long p2), .second, .val (.int p3), .val (.int z5), .unset, .unset, .unset, .unset, .unset, .unset, .unset, .unset, .unset, .unset, .unset] [(.int (p3 &&& (2 : Int32)))] := by
    intro t ht
    refine k56 t ?_
    show Steps p.tables e below (s₁.setTop (mkF m 12 #[.val (.long p1), .second, .val (.long p2), .second, .val (.int p3), .unset, .unset, .unset, .unset, .unset, .unset, .unset, .unset, .unset, .unset, .unset, .unset] [(.int z5)])) t
    refine XS.istore X0.here hx rfl (hb hby at_12) rfl (l' := #[.val (.long p1), .second, .val (.long p2), .second, .val (.int p3), .val (.int z5), .unset, .unset, .unset, .unset, .unset, .unset, .unset, .unset, .unset, .unset, .unset]) rfl ?_
    show Steps p.tables e below (s₁.setTop (mkF m 14 #[.val (.long p1), .second, .val (.long p2), .second, .val (.int p3), .val (.int z5), .unset, .unset, .unset, .unset, .unset, .unset, .unset, .unset, .unset, .unset, .unset] [])) t
    refine XS.iload X0.here hx rfl (hb hby at_14) rfl ?_
    show Steps p.tables e below (s₁.setTop (mkF m 16 #[.val (.long p1), .second, .val (.long p2), .second, .val (.int p3), .val (.int z5), .unset, .unset, .unset, .unset, .unset, .unset, .unset, .unset, .unset, .unset, .unset] [(.int p3)])) t
    refine XS.iconst X0.here hx rfl (hb hby at_16) ?_
    show Steps p.tables e below (s₁.setTop (mkF m 17 #[.val (.long p1), .second, .val (.long p2), .second, .val (.int p3), .val (.int z5), .unset, .unset, .unset, .unset, .unset, .unset, .unset, .unset, .unset, .unset, .unset] [(.int (2 : Int32)), (.int p3)])) t
    refine XS.iand X0.here hx rfl (hb hby at_17) rfl ?_
    exact ht
  obtain ⟨z6, hp62, k62⟩ : ∃ z6 : Int32, (z6 = 0 ∨ z6 = 1) ∧ Kt p e below m (s₁.setTop (entryFrame m #[(.long p1), (.long p2), (.int p3)] maxLocals)) s₁ 26 #[.val (.long p1), .second, .val (.long p2), .second, .val (.int p3), .val (.int z5), .unset, .unset, .unset, .unset, .unset, .unset, .unset, .unset, .unset, .unset, .unset] [(.int z6)] := by
    by_cases hj63 : (p3 &&& (2 : Int32)) = (0 : Int32)
    · have k64 : Kt p e below m (s₁.setTop (entryFrame m #[(.long p1), (.long p2), (.int p3)] maxLocals)) s₁ 26 #[.val (.long p1), .second, .val (.long p2), .second, .val (.int p3), .val (.int z5), .unset, .unset, .unset, .unset, .unset, .unset, .unset, .unset, .unset, .unset, .unset] [(.int (0 : Int32))] := by
        intro t ht
        refine k61 t ?_
        show Steps p.tables e below (s₁.setTop (mkF m 18 #[.val (.long p1), .second, .val (.long p2), .second, .val (.int p3), .val (.int z5), .unset, .unset, .unset, .unset, .unset, .unset, .unset, .unset, .unset, .unset, .unset] [(.int (p3 &&& (2 : Int32)))])) t
        refine XS.ifYes X0.here hx rfl (pc0 := 18) (pc' := 25) rfl (hb hby at_18) rfl ((if0 _ _).trans (teq hj63).1) (by decide) (by decide) ?_
        show Steps p.tables e below (s₁.setTop (mkF m 25 #[.val (.long p1), .second, .val (.long p2), .second, .val (.int p3), .val (.int z5), .unset, .unset, .unset, .unset, .unset, .unset, .unset, .unset, .unset, .unset, .unset] [])) t
        refine XS.iconst X0.here hx rfl (hb hby at_25) ?_
        exact ht
      exact ⟨(0 : Int32), (by decide), k64⟩
    · have k65 : Kt p e below m (s₁.setTop (entryFrame m #[(.long p1), (.long p2), (.int p3)] maxLocals)) s₁ 26 #[.val (.long p1), .second, .val (.long p2), .second, .val (.int p3), .val (.int z5), .unset, .unset, .unset, .unset, .unset, .unset, .unset, .unset, .unset, .unset, .unset] [(.int (1 : Int32))] := by
        intro t ht
        refine k61 t ?_
        show Steps p.tables e below (s₁.setTop (mkF m 18 #[.val (.long p1), .second, .val (.long p2), .second, .val (.int p3), .val (.int z5), .unset, .unset, .unset, .unset, .unset, .unset, .unset, .unset, .unset, .unset, .unset] [(.int (p3 &&& (2 : Int32)))])) t
        refine XS.ifNo X0.here hx rfl (hb hby at_18) rfl ((if0 _ _).trans (feq hj63).1) ?_
        show Steps p.tables e below (s₁.setTop (mkF m 21 #[.val (.long p1), .second, .val (.long p2), .second, .val (.int p3), .val (.int z5), .unset, .unset, .unset, .unset, .unset, .unset, .unset, .unset, .unset, .unset, .unset] [])) t
        refine XS.iconst X0.here hx rfl (hb hby at_21) ?_
        show Steps p.tables e below (s₁.setTop (mkF m 22 #[.val (.long p1), .second, .val (.long p2), .second, .val (.int p3), .val (.int z5), .unset, .unset, .unset, .unset, .unset, .unset, .unset, .unset, .unset, .unset, .unset] [(.int (1 : Int32))])) t
        refine XS.goto X0.here hx rfl (pc0 := 22) (pc' := 26) rfl (hb hby at_22) (by decide) (by decide) ?_
        exact ht
      exact ⟨(1 : Int32), (by decide), k65⟩
  have k66 : Kt p e below m (s₁.setTop (entryFrame m #[(.long p1), (.long p2), (.int p3)] maxLocals)) s₁ 34 #[.val (.long p1), .second, .val (.long p2), .second, .val (.int p3), .val (.int z5), .val (.int z6), .unset, .unset, .unset, .unset, .unset, .unset, .unset, .unset, .unset, .unset] [(.int (((p3.toUInt32 >>> ((2 : Int32) &&& 31).toUInt32).toInt32) &&& (3 : Int32)))] := by
    intro t ht
    refine k62 t ?_
    show Steps p.tables e below (s₁.setTop (mkF m 26 #[.val (.long p1), .second, .val (.long p2), .second, .val (.int p3), .val (.int z5), .unset, .unset, .unset, .unset, .unset, .unset, .unset, .unset, .unset, .unset, .unset] [(.int z6)])) t
    refine XS.istore X0.here hx rfl (hb hby at_26) rfl (l' := #[.val (.long p1), .second, .val (.long p2), .second, .val (.int p3), .val (.int z5), .val (.int z6), .unset, .unset, .unset, .unset, .unset, .unset, .unset, .unset, .unset, .unset]) rfl ?_
    show Steps p.tables e below (s₁.setTop (mkF m 28 #[.val (.long p1), .second, .val (.long p2), .second, .val (.int p3), .val (.int z5), .val (.int z6), .unset, .unset, .unset, .unset, .unset, .unset, .unset, .unset, .unset, .unset] [])) t
    refine XS.iload X0.here hx rfl (hb hby at_28) rfl ?_
    show Steps p.tables e below (s₁.setTop (mkF m 30 #[.val (.long p1), .second, .val (.long p2), .second, .val (.int p3), .val (.int z5), .val (.int z6), .unset, .unset, .unset, .unset, .unset, .unset, .unset, .unset, .unset, .unset] [(.int p3)])) t
    refine XS.iconst X0.here hx rfl (hb hby at_30) ?_
    show Steps p.tables e below (s₁.setTop (mkF m 31 #[.val (.long p1), .second, .val (.long p2), .second, .val (.int p3), .val (.int z5), .val (.int z6), .unset, .unset, .unset, .unset, .unset, .unset, .unset, .unset, .unset, .unset] [(.int (2 : Int32)), (.int p3)])) t
    refine XS.iushr X0.here hx rfl (hb hby at_31) rfl ?_
    show Steps p.tables e below (s₁.setTop (mkF m 32 #[.val (.long p1), .second, .val (.long p2), .second, .val (.int p3), .val (.int z5), .val (.int z6), .unset, .unset, .unset, .unset, .unset, .unset, .unset, .unset, .unset, .unset] [(.int ((p3.toUInt32 >>> ((2 : Int32) &&& 31).toUInt32).toInt32))])) t
    refine XS.iconst X0.here hx rfl (hb hby at_32) ?_
    show Steps p.tables e below (s₁.setTop (mkF m 33 #[.val (.long p1), .second, .val (.long p2), .second, .val (.int p3), .val (.int z5), .val (.int z6), .unset, .unset, .unset, .unset, .unset, .unset, .unset, .unset, .unset, .unset] [(.int (3 : Int32)), (.int ((p3.toUInt32 >>> ((2 : Int32) &&& 31).toUInt32).toInt32))])) t
    refine XS.iand X0.here hx rfl (hb hby at_33) rfl ?_
    exact ht
  obtain ⟨kd, hkd, k67⟩ : ∃ kd : Int32, kd = (((p3.toUInt32 >>> ((2 : Int32) &&& 31).toUInt32).toInt32) &&& (3 : Int32)) ∧ Kt p e below m (s₁.setTop (entryFrame m #[(.long p1), (.long p2), (.int p3)] maxLocals)) s₁ 34 #[.val (.long p1), .second, .val (.long p2), .second, .val (.int p3), .val (.int z5), .val (.int z6), .unset, .unset, .unset, .unset, .unset, .unset, .unset, .unset, .unset, .unset] [(.int kd)] := ⟨_, rfl, k66⟩
  have k68 : Kt p e below m (s₁.setTop (entryFrame m #[(.long p1), (.long p2), (.int p3)] maxLocals)) s₁ 38 #[.val (.long p1), .second, .val (.long p2), .second, .val (.int p3), .val (.int z5), .val (.int z6), .val (.int kd), .unset, .unset, .unset, .unset, .unset, .unset, .unset, .unset, .unset] [(.int z5)] := by
    intro t ht
    refine k67 t ?_
    show Steps p.tables e below (s₁.setTop (mkF m 34 #[.val (.long p1), .second, .val (.long p2), .second, .val (.int p3), .val (.int z5), .val (.int z6), .unset, .unset, .unset, .unset, .unset, .unset, .unset, .unset, .unset, .unset] [(.int kd)])) t
    refine XS.istore X0.here hx rfl (hb hby at_34) rfl (l' := #[.val (.long p1), .second, .val (.long p2), .second, .val (.int p3), .val (.int z5), .val (.int z6), .val (.int kd), .unset, .unset, .unset, .unset, .unset, .unset, .unset, .unset, .unset]) rfl ?_
    show Steps p.tables e below (s₁.setTop (mkF m 36 #[.val (.long p1), .second, .val (.long p2), .second, .val (.int p3), .val (.int z5), .val (.int z6), .val (.int kd), .unset, .unset, .unset, .unset, .unset, .unset, .unset, .unset, .unset] [])) t
    refine XS.iload X0.here hx rfl (hb hby at_36) rfl ?_
    exact ht
  obtain ⟨av, hp69, k69⟩ : ∃ av : Int64, (True) ∧ Kt p e below m (s₁.setTop (entryFrame m #[(.long p1), (.long p2), (.int p3)] maxLocals)) s₁ 48 #[.val (.long p1), .second, .val (.long p2), .second, .val (.int p3), .val (.int z5), .val (.int z6), .val (.int kd), .unset, .unset, .unset, .unset, .unset, .unset, .unset, .unset, .unset] [(.long av)] := by
    by_cases hj70 : z5 = (0 : Int32)
    · have k71 : Kt p e below m (s₁.setTop (entryFrame m #[(.long p1), (.long p2), (.int p3)] maxLocals)) s₁ 48 #[.val (.long p1), .second, .val (.long p2), .second, .val (.int p3), .val (.int z5), .val (.int z6), .val (.int kd), .unset, .unset, .unset, .unset, .unset, .unset, .unset, .unset, .unset] [(.long ((p1.toInt32).toInt64))] := by
        intro t ht
        refine k68 t ?_
        show Steps p.tables e below (s₁.setTop (mkF m 38 #[.val (.long p1), .second, .val (.long p2), .second, .val (.int p3), .val (.int z5), .val (.int z6), .val (.int kd), .unset, .unset, .unset, .unset, .unset, .unset, .unset, .unset, .unset] [(.int z5)])) t
        refine XS.ifYes X0.here hx rfl (pc0 := 38) (pc' := 45) rfl (hb hby at_38) rfl ((if0 _ _).trans (teq hj70).1) (by decide) (by decide) ?_
        show Steps p.tables e below (s₁.setTop (mkF m 45 #[.val (.long p1), .second, .val (.long p2), .second, .val (.int p3), .val (.int z5), .val (.int z6), .val (.int kd), .unset, .unset, .unset, .unset, .unset, .unset, .unset, .unset, .unset] [])) t
        refine XS.lloadN X0.here hx rfl (hb hby at_45) rfl ?_
        show Steps p.tables e below (s₁.setTop (mkF m 46 #[.val (.long p1), .second, .val (.long p2), .second, .val (.int p3), .val (.int z5), .val (.int z6), .val (.int kd), .unset, .unset, .unset, .unset, .unset, .unset, .unset, .unset, .unset] [(.long p1)])) t
        refine XS.l2i X0.here hx rfl (hb hby at_46) rfl ?_
        show Steps p.tables e below (s₁.setTop (mkF m 47 #[.val (.long p1), .second, .val (.long p2), .second, .val (.int p3), .val (.int z5), .val (.int z6), .val (.int kd), .unset, .unset, .unset, .unset, .unset, .unset, .unset, .unset, .unset] [(.int (p1.toInt32))])) t
        refine XS.i2l X0.here hx rfl (hb hby at_47) rfl ?_
        exact ht
      exact ⟨((p1.toInt32).toInt64), trivial, k71⟩
    · have k72 : Kt p e below m (s₁.setTop (entryFrame m #[(.long p1), (.long p2), (.int p3)] maxLocals)) s₁ 48 #[.val (.long p1), .second, .val (.long p2), .second, .val (.int p3), .val (.int z5), .val (.int z6), .val (.int kd), .unset, .unset, .unset, .unset, .unset, .unset, .unset, .unset, .unset] [(.long p1)] := by
        intro t ht
        refine k68 t ?_
        show Steps p.tables e below (s₁.setTop (mkF m 38 #[.val (.long p1), .second, .val (.long p2), .second, .val (.int p3), .val (.int z5), .val (.int z6), .val (.int kd), .unset, .unset, .unset, .unset, .unset, .unset, .unset, .unset, .unset] [(.int z5)])) t
        refine XS.ifNo X0.here hx rfl (hb hby at_38) rfl ((if0 _ _).trans (feq hj70).1) ?_
        show Steps p.tables e below (s₁.setTop (mkF m 41 #[.val (.long p1), .second, .val (.long p2), .second, .val (.int p3), .val (.int z5), .val (.int z6), .val (.int kd), .unset, .unset, .unset, .unset, .unset, .unset, .unset, .unset, .unset] [])) t
        refine XS.lloadN X0.here hx rfl (hb hby at_41) rfl ?_
        show Steps p.tables e below (s₁.setTop (mkF m 42 #[.val (.long p1), .second, .val (.long p2), .second, .val (.int p3), .val (.int z5), .val (.int z6), .val (.int kd), .unset, .unset, .unset, .unset, .unset, .unset, .unset, .unset, .unset] [(.long p1)])) t
        refine XS.goto X0.here hx rfl (pc0 := 42) (pc' := 48) rfl (hb hby at_42) (by decide) (by decide) ?_
        exact ht
      exact ⟨p1, trivial, k72⟩
  have k73 : Kt p e below m (s₁.setTop (entryFrame m #[(.long p1), (.long p2), (.int p3)] maxLocals)) s₁ 53 #[.val (.long p1), .second, .val (.long p2), .second, .val (.int p3), .val (.int z5), .val (.int z6), .val (.int kd), .val (.long av), .second, .unset, .unset, .unset, .unset, .unset, .unset, .unset] [(.int (1 : Int32)), (.int kd)] := by
    intro t ht
    refine k69 t ?_
    show Steps p.tables e below (s₁.setTop (mkF m 48 #[.val (.long p1), .second, .val (.long p2), .second, .val (.int p3), .val (.int z5), .val (.int z6), .val (.int kd), .unset, .unset, .unset, .unset, .unset, .unset, .unset, .unset, .unset] [(.long av)])) t
    refine XS.lstore X0.here hx rfl (hb hby at_48) rfl (l' := #[.val (.long p1), .second, .val (.long p2), .second, .val (.int p3), .val (.int z5), .val (.int z6), .val (.int kd), .val (.long av), .second, .unset, .unset, .unset, .unset, .unset, .unset, .unset]) rfl ?_
    show Steps p.tables e below (s₁.setTop (mkF m 50 #[.val (.long p1), .second, .val (.long p2), .second, .val (.int p3), .val (.int z5), .val (.int z6), .val (.int kd), .val (.long av), .second, .unset, .unset, .unset, .unset, .unset, .unset, .unset] [])) t
    refine XS.iload X0.here hx rfl (hb hby at_50) rfl ?_
    show Steps p.tables e below (s₁.setTop (mkF m 52 #[.val (.long p1), .second, .val (.long p2), .second, .val (.int p3), .val (.int z5), .val (.int z6), .val (.int kd), .val (.long av), .second, .unset, .unset, .unset, .unset, .unset, .unset, .unset] [(.int kd)])) t
    refine XS.iconst X0.here hx rfl (hb hby at_52) ?_
    exact ht
  obtain ⟨rw0, hp74, k74⟩ : ∃ rw0 : Int64, (True) ∧ Kt p e below m (s₁.setTop (entryFrame m #[(.long p1), (.long p2), (.int p3)] maxLocals)) s₁ 61 #[.val (.long p1), .second, .val (.long p2), .second, .val (.int p3), .val (.int z5), .val (.int z6), .val (.int kd), .val (.long av), .second, .unset, .unset, .unset, .unset, .unset, .unset, .unset] [(.long rw0)] := by
    by_cases hj75 : kd = (1 : Int32)
    · have k76 : Kt p e below m (s₁.setTop (entryFrame m #[(.long p1), (.long p2), (.int p3)] maxLocals)) s₁ 61 #[.val (.long p1), .second, .val (.long p2), .second, .val (.int p3), .val (.int z5), .val (.int z6), .val (.int kd), .val (.long av), .second, .unset, .unset, .unset, .unset, .unset, .unset, .unset] [(.long p1)] := by
        intro t ht
        refine k73 t ?_
        show Steps p.tables e below (s₁.setTop (mkF m 53 #[.val (.long p1), .second, .val (.long p2), .second, .val (.int p3), .val (.int z5), .val (.int z6), .val (.int kd), .val (.long av), .second, .unset, .unset, .unset, .unset, .unset, .unset, .unset] [(.int (1 : Int32)), (.int kd)])) t
        refine XS.icmpNo X0.here hx rfl (hb hby at_53) rfl (teq hj75).2 ?_
        show Steps p.tables e below (s₁.setTop (mkF m 56 #[.val (.long p1), .second, .val (.long p2), .second, .val (.int p3), .val (.int z5), .val (.int z6), .val (.int kd), .val (.long av), .second, .unset, .unset, .unset, .unset, .unset, .unset, .unset] [])) t
        refine XS.lloadN X0.here hx rfl (hb hby at_56) rfl ?_
        show Steps p.tables e below (s₁.setTop (mkF m 57 #[.val (.long p1), .second, .val (.long p2), .second, .val (.int p3), .val (.int z5), .val (.int z6), .val (.int kd), .val (.long av), .second, .unset, .unset, .unset, .unset, .unset, .unset, .unset] [(.long p1)])) t
        refine XS.goto X0.here hx rfl (pc0 := 57) (pc' := 61) rfl (hb hby at_57) (by decide) (by decide) ?_
        exact ht
      exact ⟨p1, trivial, k76⟩
    · have k77 : Kt p e below m (s₁.setTop (entryFrame m #[(.long p1), (.long p2), (.int p3)] maxLocals)) s₁ 61 #[.val (.long p1), .second, .val (.long p2), .second, .val (.int p3), .val (.int z5), .val (.int z6), .val (.int kd), .val (.long av), .second, .unset, .unset, .unset, .unset, .unset, .unset, .unset] [(.long p2)] := by
        intro t ht
        refine k73 t ?_
        show Steps p.tables e below (s₁.setTop (mkF m 53 #[.val (.long p1), .second, .val (.long p2), .second, .val (.int p3), .val (.int z5), .val (.int z6), .val (.int kd), .val (.long av), .second, .unset, .unset, .unset, .unset, .unset, .unset, .unset] [(.int (1 : Int32)), (.int kd)])) t
        refine XS.icmpYes X0.here hx rfl (pc0 := 53) (pc' := 60) rfl (hb hby at_53) rfl (feq hj75).2 (by decide) (by decide) ?_
        show Steps p.tables e below (s₁.setTop (mkF m 60 #[.val (.long p1), .second, .val (.long p2), .second, .val (.int p3), .val (.int z5), .val (.int z6), .val (.int kd), .val (.long av), .second, .unset, .unset, .unset, .unset, .unset, .unset, .unset] [])) t
        refine XS.lloadN X0.here hx rfl (hb hby at_60) rfl ?_
        exact ht
      exact ⟨p2, trivial, k77⟩
  have k78 : Kt p e below m (s₁.setTop (entryFrame m #[(.long p1), (.long p2), (.int p3)] maxLocals)) s₁ 65 #[.val (.long p1), .second, .val (.long p2), .second, .val (.int p3), .val (.int z5), .val (.int z6), .val (.int kd), .val (.long av), .second, .val (.long rw0), .second, .unset, .unset, .unset, .unset, .unset] [(.int z6)] := by
    intro t ht
    refine k74 t ?_
    show Steps p.tables e below (s₁.setTop (mkF m 61 #[.val (.long p1), .second, .val (.long p2), .second, .val (.int p3), .val (.int z5), .val (.int z6), .val (.int kd), .val (.long av), .second, .unset, .unset, .unset, .unset, .unset, .unset, .unset] [(.long rw0)])) t
    refine XS.lstore X0.here hx rfl (hb hby at_61) rfl (l' := #[.val (.long p1), .second, .val (.long p2), .second, .val (.int p3), .val (.int z5), .val (.int z6), .val (.int kd), .val (.long av), .second, .val (.long rw0), .second, .unset, .unset, .unset, .unset, .unset]) rfl ?_
    show Steps p.tables e below (s₁.setTop (mkF m 63 #[.val (.long p1), .second, .val (.long p2), .second, .val (.int p3), .val (.int z5), .val (.int z6), .val (.int kd), .val (.long av), .second, .val (.long rw0), .second, .unset, .unset, .unset, .unset, .unset] [])) t
    refine XS.iload X0.here hx rfl (hb hby at_63) rfl ?_
    exact ht
  obtain ⟨bv, hp79, k79⟩ : ∃ bv : Int64, (True) ∧ Kt p e below m (s₁.setTop (entryFrame m #[(.long p1), (.long p2), (.int p3)] maxLocals)) s₁ 77 #[.val (.long p1), .second, .val (.long p2), .second, .val (.int p3), .val (.int z5), .val (.int z6), .val (.int kd), .val (.long av), .second, .val (.long rw0), .second, .unset, .unset, .unset, .unset, .unset] [(.long bv)] := by
    by_cases hj80 : z6 = (0 : Int32)
    · have k81 : Kt p e below m (s₁.setTop (entryFrame m #[(.long p1), (.long p2), (.int p3)] maxLocals)) s₁ 77 #[.val (.long p1), .second, .val (.long p2), .second, .val (.int p3), .val (.int z5), .val (.int z6), .val (.int kd), .val (.long av), .second, .val (.long rw0), .second, .unset, .unset, .unset, .unset, .unset] [(.long ((rw0.toInt32).toInt64))] := by
        intro t ht
        refine k78 t ?_
        show Steps p.tables e below (s₁.setTop (mkF m 65 #[.val (.long p1), .second, .val (.long p2), .second, .val (.int p3), .val (.int z5), .val (.int z6), .val (.int kd), .val (.long av), .second, .val (.long rw0), .second, .unset, .unset, .unset, .unset, .unset] [(.int z6)])) t
        refine XS.ifYes X0.here hx rfl (pc0 := 65) (pc' := 73) rfl (hb hby at_65) rfl ((if0 _ _).trans (teq hj80).1) (by decide) (by decide) ?_
        show Steps p.tables e below (s₁.setTop (mkF m 73 #[.val (.long p1), .second, .val (.long p2), .second, .val (.int p3), .val (.int z5), .val (.int z6), .val (.int kd), .val (.long av), .second, .val (.long rw0), .second, .unset, .unset, .unset, .unset, .unset] [])) t
        refine XS.lload X0.here hx rfl (hb hby at_73) rfl ?_
        show Steps p.tables e below (s₁.setTop (mkF m 75 #[.val (.long p1), .second, .val (.long p2), .second, .val (.int p3), .val (.int z5), .val (.int z6), .val (.int kd), .val (.long av), .second, .val (.long rw0), .second, .unset, .unset, .unset, .unset, .unset] [(.long rw0)])) t
        refine XS.l2i X0.here hx rfl (hb hby at_75) rfl ?_
        show Steps p.tables e below (s₁.setTop (mkF m 76 #[.val (.long p1), .second, .val (.long p2), .second, .val (.int p3), .val (.int z5), .val (.int z6), .val (.int kd), .val (.long av), .second, .val (.long rw0), .second, .unset, .unset, .unset, .unset, .unset] [(.int (rw0.toInt32))])) t
        refine XS.i2l X0.here hx rfl (hb hby at_76) rfl ?_
        exact ht
      exact ⟨((rw0.toInt32).toInt64), trivial, k81⟩
    · have k82 : Kt p e below m (s₁.setTop (entryFrame m #[(.long p1), (.long p2), (.int p3)] maxLocals)) s₁ 77 #[.val (.long p1), .second, .val (.long p2), .second, .val (.int p3), .val (.int z5), .val (.int z6), .val (.int kd), .val (.long av), .second, .val (.long rw0), .second, .unset, .unset, .unset, .unset, .unset] [(.long rw0)] := by
        intro t ht
        refine k78 t ?_
        show Steps p.tables e below (s₁.setTop (mkF m 65 #[.val (.long p1), .second, .val (.long p2), .second, .val (.int p3), .val (.int z5), .val (.int z6), .val (.int kd), .val (.long av), .second, .val (.long rw0), .second, .unset, .unset, .unset, .unset, .unset] [(.int z6)])) t
        refine XS.ifNo X0.here hx rfl (hb hby at_65) rfl ((if0 _ _).trans (feq hj80).1) ?_
        show Steps p.tables e below (s₁.setTop (mkF m 68 #[.val (.long p1), .second, .val (.long p2), .second, .val (.int p3), .val (.int z5), .val (.int z6), .val (.int kd), .val (.long av), .second, .val (.long rw0), .second, .unset, .unset, .unset, .unset, .unset] [])) t
        refine XS.lload X0.here hx rfl (hb hby at_68) rfl ?_
        show Steps p.tables e below (s₁.setTop (mkF m 70 #[.val (.long p1), .second, .val (.long p2), .second, .val (.int p3), .val (.int z5), .val (.int z6), .val (.int kd), .val (.long av), .second, .val (.long rw0), .second, .unset, .unset, .unset, .unset, .unset] [(.long rw0)])) t
        refine XS.goto X0.here hx rfl (pc0 := 70) (pc' := 77) rfl (hb hby at_70) (by decide) (by decide) ?_
        exact ht
      exact ⟨rw0, trivial, k82⟩
  have k83 : Kt p e below m (s₁.setTop (entryFrame m #[(.long p1), (.long p2), (.int p3)] maxLocals)) s₁ 79 #[.val (.long p1), .second, .val (.long p2), .second, .val (.int p3), .val (.int z5), .val (.int z6), .val (.int kd), .val (.long av), .second, .val (.long rw0), .second, .val (.long bv), .second, .unset, .unset, .unset] [] := by
    intro t ht
    refine k79 t ?_
    show Steps p.tables e below (s₁.setTop (mkF m 77 #[.val (.long p1), .second, .val (.long p2), .second, .val (.int p3), .val (.int z5), .val (.int z6), .val (.int kd), .val (.long av), .second, .val (.long rw0), .second, .unset, .unset, .unset, .unset, .unset] [(.long bv)])) t
    refine XS.lstore X0.here hx rfl (hb hby at_77) rfl (l' := #[.val (.long p1), .second, .val (.long p2), .second, .val (.int p3), .val (.int z5), .val (.int z6), .val (.int kd), .val (.long av), .second, .val (.long rw0), .second, .val (.long bv), .second, .unset, .unset, .unset]) rfl ?_
    exact ht
  obtain ⟨T84, h84, X84, e84, E84, A84, D84, -, st84⟩ := newO X0 hx hZ hown (hw _ (List.mem_of_getElem? (i := 0) rfl)) (hw _ (List.mem_of_getElem? (i := 1) rfl)) (hw _ (List.mem_of_getElem? (i := 2) rfl)) e0 (g := (mkF m 79 #[.val (.long p1), .second, .val (.long p2), .second, .val (.int p3), .val (.int z5), .val (.int z6), .val (.int kd), .val (.long av), .second, .val (.long rw0), .second, .val (.long bv), .second, .unset, .unset, .unset] [])) rfl (hb hby at_79) (by decide) (by decide)
  obtain ⟨oa, q84⟩ : ∃ z, z = h0.size := ⟨_, rfl⟩
  have g_oa : n0 ≤ oa := by rw [q84]; exact Z0
  rw [← q84] at A84 D84 st84
  have f85 : n0 ≤ h84.size := Nat.le_trans Z0 E84.1
  have f84 : Exa Z h84 oa "com/example/threadwright/threadwright/schema/Literal$Int" := A84
  have f86 : Fld Z h84 oa "com/example/threadwright/threadwright/schema/Literal$Int" "value" "J" (.long (0 : Int64)) := D84 (Or.inr (hw _ (List.mem_of_getElem? (i := 15) rfl))) (ty := .long) (by decide)
  have f87 : Fld Z h84 oa "com/example/threadwright/threadwright/schema/Literal$Int" "isLong" "Z" (.int (0 : Int32)) := D84 (Or.inr (hw _ (List.mem_of_getElem? (i := 17) rfl))) (ty := .boolean) (by decide)
  have k84 : Kt p e below m (s₁.setTop (entryFrame m #[(.long p1), (.long p2), (.int p3)] maxLocals)) T84 82 #[.val (.long p1), .second, .val (.long p2), .second, .val (.int p3), .val (.int z5), .val (.int z6), .val (.int kd), .val (.long av), .second, .val (.long rw0), .second, .val (.long bv), .second, .unset, .unset, .unset] [(.ref oa)] := fun t ht => k83 t (st84 t ht)
  have k88 : Kt p e below m (s₁.setTop (entryFrame m #[(.long p1), (.long p2), (.int p3)] maxLocals)) T84 87 #[.val (.long p1), .second, .val (.long p2), .second, .val (.int p3), .val (.int z5), .val (.int z6), .val (.int kd), .val (.long av), .second, .val (.long rw0), .second, .val (.long bv), .second, .unset, .unset, .unset] [(.int z5), (.long av), (.ref oa), (.ref oa)] := by
    intro t ht
    refine k84 t ?_
    show Steps p.tables e below (T84.setTop (mkF m 82 #[.val (.long p1), .second, .val (.long p2), .second, .val (.int p3), .val (.int z5), .val (.int z6), .val (.int kd), .val (.long av), .second, .val (.long rw0), .second, .val (.long bv), .second, .unset, .unset, .unset] [(.ref oa)])) t
    refine XS.dup X84.here hx rfl (hb hby at_82) rfl rfl ?_
    show Steps p.tables e below (T84.setTop (mkF m 83 #[.val (.long p1), .second, .val (.long p2), .second, .val (.int p3), .val (.int z5), .val (.int z6), .val (.int kd), .val (.long av), .second, .val (.long rw0), .second, .val (.long bv), .second, .unset, .unset, .unset] [(.ref oa), (.ref oa)])) t
    refine XS.lload X84.here hx rfl (hb hby at_83) rfl ?_
    show Steps p.tables e below (T84.setTop (mkF m 85 #[.val (.long p1), .second, .val (.long p2), .second, .val (.int p3), .val (.int z5), .val (.int z6), .val (.int kd), .val (.long av), .second, .val (.long rw0), .second, .val (.long bv), .second, .unset, .unset, .unset] [(.long av), (.ref oa), (.ref oa)])) t
    refine XS.iload X84.here hx rfl (hb hby at_85) rfl ?_
    exact ht
  obtain ⟨_, _, ⟨T89, L89, c89, n89⟩, -, X89, ⟨Lc89, hQ89, l89, y89, z89⟩, st89⟩ := X84.specialBack hx (y := (⟨"com/example/threadwright/threadwright/schema/Literal$Int", "<init>", "(JZ)V"⟩ : MethodName)) rfl hown (mvT hZ (hw _ (List.mem_of_getElem? (i := 3) rfl))) (mvT hZ (hw _ (List.mem_of_getElem? (i := 4) rfl))) (mvT hZ (hw _ (List.mem_of_getElem? (i := 5) rfl))) (by decide) (backOf (W := 1) (rm1 l Z a0 hw [] oa av z5 h84 n0 f85 hp56 f84 f86 f87 g_oa) hZ (hw _ (List.mem_of_getElem? (i := 5) rfl)) (hw _ (List.mem_of_getElem? (i := 2) rfl)) (by decide) (by decide)) (g := (mkF m 87 #[.val (.long p1), .second, .val (.long p2), .second, .val (.int p3), .val (.int z5), .val (.int z6), .val (.int kd), .val (.long av), .second, .val (.long rw0), .second, .val (.long bv), .second, .unset, .unset, .unset] [(.int z5), (.long av), (.ref oa), (.ref oa)])) rfl (by rw [hml]; rfl) (Steps.refl _) (a := oa) (argsL := [(.long av), (.int z5)]) (rest := [(.ref oa)]) (lenOf pd_1 rfl) rfl (by show 2 * 0 + _ ≤ _; exact Nat.le_of_eq rfl) (hb hby at_87) (fun _ _ => ⟨rfl, e84, (by decide : 1 + 0 ≤ _), (by decide : 2 + 0 ≤ _)⟩)
  dsimp only [Pt.U, Pt.locs, Pt.cells, Pt.slots] at X89 l89 y89 z89 st89 hQ89
  subst l89 y89 z89
  obtain ⟨rfl, Nq89, Kp89, Fa89, Fb89⟩ := hQ89
  have N89 := Fr.app N0 Nq89
  have k89 : Kt p e below m (s₁.setTop (entryFrame m #[(.long p1), (.long p2), (.int p3)] maxLocals)) T89 90 #[.val (.long p1), .second, .val (.long p2), .second, .val (.int p3), .val (.int z5), .val (.int z6), .val (.int kd), .val (.long av), .second, .val (.long rw0), .second, .val (.long bv), .second, .unset, .unset, .unset] [(.ref oa)] := fun t ht => k88 t (st89.trans ht)
  have f90 : n0 ≤ T89.heap.size := Nat.le_trans f85 Kp89.1
  have f91 : Exa Z T89.heap oa "com/example/threadwright/threadwright/schema/Literal$Int" := f84.keep Kp89
  have k94 : Kt p e below m (s₁.setTop (entryFrame m #[(.long p1), (.long p2), (.int p3)] maxLocals)) T89 95 #[.val (.long p1), .second, .val (.long p2), .second, .val (.int p3), .val (.int z5), .val (.int z6), .val (.int kd), .val (.long av), .second, .val (.long rw0), .second, .val (.long bv), .second, .val (.ref oa), .unset, .unset] [(.int (2 : Int32)), (.int kd)] := by
    intro t ht
    refine k89 t ?_
    show Steps p.tables e below (T89.setTop (mkF m 90 #[.val (.long p1), .second, .val (.long p2), .second, .val (.int p3), .val (.int z5), .val (.int z6), .val (.int kd), .val (.long av), .second, .val (.long rw0), .second, .val (.long bv), .second, .unset, .unset, .unset] [(.ref oa)])) t
    refine XS.astore X89.here hx rfl (hb hby at_90) rfl rfl (l' := #[.val (.long p1), .second, .val (.long p2), .second, .val (.int p3), .val (.int z5), .val (.int z6), .val (.int kd), .val (.long av), .second, .val (.long rw0), .second, .val (.long bv), .second, .val (.ref oa), .unset, .unset]) rfl ?_
    show Steps p.tables e below (T89.setTop (mkF m 92 #[.val (.long p1), .second, .val (.long p2), .second, .val (.int p3), .val (.int z5), .val (.int z6), .val (.int kd), .val (.long av), .second, .val (.long rw0), .second, .val (.long bv), .second, .val (.ref oa), .unset, .unset] [])) t
    refine XS.iload X89.here hx rfl (hb hby at_92) rfl ?_
    show Steps p.tables e below (T89.setTop (mkF m 94 #[.val (.long p1), .second, .val (.long p2), .second, .val (.int p3), .val (.int z5), .val (.int z6), .val (.int kd), .val (.long av), .second, .val (.long rw0), .second, .val (.long bv), .second, .val (.ref oa), .unset, .unset] [(.int kd)])) t
    refine XS.iconst X89.here hx rfl (hb hby at_94) ?_
    exact ht
  by_cases hk2 : kd = (2 : Int32)
  · have k95 : Kt p e below m (s₁.setTop (entryFrame m #[(.long p1), (.long p2), (.int p3)] maxLocals)) T89 169 #[.val (.long p1), .second, .val (.long p2), .second, .val (.int p3), .val (.int z5), .val (.int z6), .val (.int kd), .val (.long av), .second, .val (.long rw0), .second, .val (.long bv), .second, .val (.ref oa), .val .null, .val (.int (0 : Int32))] [.null, (.ref oa)] := by
      intro t ht
      refine k94 t ?_
      show Steps p.tables e below (T89.setTop (mkF m 95 #[.val (.long p1), .second, .val (.long p2), .second, .val (.int p3), .val (.int z5), .val (.int z6), .val (.int kd), .val (.long av), .second, .val (.long rw0), .second, .val (.long bv), .second, .val (.ref oa), .unset, .unset] [(.int (2 : Int32)), (.int kd)])) t
      refine XS.icmpNo X89.here hx rfl (hb hby at_95) rfl (teq hk2).2 ?_
      show Steps p.tables e below (T89.setTop (mkF m 98 #[.val (.long p1), .second, .val (.long p2), .second, .val (.int p3), .val (.int z5), .val (.int z6), .val (.int kd), .val (.long av), .second, .val (.long rw0), .second, .val (.long bv), .second, .val (.ref oa), .unset, .unset] [])) t
      refine XS.aconstNull X89.here hx rfl (hb hby at_98) ?_
      show Steps p.tables e below (T89.setTop (mkF m 99 #[.val (.long p1), .second, .val (.long p2), .second, .val (.int p3), .val (.int z5), .val (.int z6), .val (.int kd), .val (.long av), .second, .val (.long rw0), .second, .val (.long bv), .second, .val (.ref oa), .unset, .unset] [.null])) t
      refine XS.astore X89.here hx rfl (hb hby at_99) rfl rfl (l' := #[.val (.long p1), .second, .val (.long p2), .second, .val (.int p3), .val (.int z5), .val (.int z6), .val (.int kd), .val (.long av), .second, .val (.long rw0), .second, .val (.long bv), .second, .val (.ref oa), .val .null, .unset]) rfl ?_
      show Steps p.tables e below (T89.setTop (mkF m 101 #[.val (.long p1), .second, .val (.long p2), .second, .val (.int p3), .val (.int z5), .val (.int z6), .val (.int kd), .val (.long av), .second, .val (.long rw0), .second, .val (.long bv), .second, .val (.ref oa), .val .null, .unset] [])) t
      refine XS.iconst X89.here hx rfl (hb hby at_101) ?_
      show Steps p.tables e below (T89.setTop (mkF m 102 #[.val (.long p1), .second, .val (.long p2), .second, .val (.int p3), .val (.int z5), .val (.int z6), .val (.int kd), .val (.long av), .second, .val (.long rw0), .second, .val (.long bv), .second, .val (.ref oa), .val .null, .unset] [(.int (0 : Int32))])) t
      refine XS.istore X89.here hx rfl (hb hby at_102) rfl (l' := #[.val (.long p1), .second, .val (.long p2), .second, .val (.int p3), .val (.int z5), .val (.int z6), .val (.int kd), .val (.long av), .second, .val (.long rw0), .second, .val (.long bv), .second, .val (.ref oa), .val .null, .val (.int (0 : Int32))]) rfl ?_
      show Steps p.tables e below (T89.setTop (mkF m 104 #[.val (.long p1), .second, .val (.long p2), .second, .val (.int p3), .val (.int z5), .val (.int z6), .val (.int kd), .val (.long av), .second, .val (.long rw0), .second, .val (.long bv), .second, .val (.ref oa), .val .null, .val (.int (0 : Int32))] [])) t
      refine XS.goto X89.here hx rfl (pc0 := 104) (pc' := 165) rfl (hb hby at_104) (by decide) (by decide) ?_
      show Steps p.tables e below (T89.setTop (mkF m 165 #[.val (.long p1), .second, .val (.long p2), .second, .val (.int p3), .val (.int z5), .val (.int z6), .val (.int kd), .val (.long av), .second, .val (.long rw0), .second, .val (.long bv), .second, .val (.ref oa), .val .null, .val (.int (0 : Int32))] [])) t
      refine XS.aload X89.here hx rfl (hb hby at_165) rfl rfl ?_
      show Steps p.tables e below (T89.setTop (mkF m 167 #[.val (.long p1), .second, .val (.long p2), .second, .val (.int p3), .val (.int z5), .val (.int z6), .val (.int kd), .val (.long av), .second, .val (.long rw0), .second, .val (.long bv), .second, .val (.ref oa), .val .null, .val (.int (0 : Int32))] [(.ref oa)])) t
      refine XS.aload X89.here hx rfl (hb hby at_167) rfl rfl ?_
      exact ht
    obtain ⟨cq96, kq96, q96a, q96b, q96c⟩ := isOf hZ rfl f91
    obtain ⟨_, _, ⟨T96, L96, c96, n96⟩, -, X96, ⟨Lc96, hQ96, l96, y96, z96⟩, st96⟩ := X89.virtualBack hx (y := (⟨"com/example/threadwright/threadwright/schema/Literal$Int", "equals", "(Ljava/lang/Object;)Z"⟩ : MethodName)) (z := (⟨"com/example/threadwright/threadwright/schema/Literal$Int", "equals", "(Ljava/lang/Object;)Z"⟩ : MethodName)) hown (mvT hZ (hw _ (List.mem_of_getElem? (i := 18) rfl))) (mvT hZ (hw _ (List.mem_of_getElem? (i := 19) rfl))) (notFace_of_selects (args := #[]) (mvT hZ (hw _ (List.mem_of_getElem? (i := 21) rfl)))) (mvT hZ (hw _ (List.mem_of_getElem? (i := 21) rfl))) (mvT hZ (hw _ (List.mem_of_getElem? (i := 20) rfl))) (by decide) (backOf (W := 0) (rmeqN l Z a0 hw [] oa T89.heap n0 f90 ) hZ (hw _ (List.mem_of_getElem? (i := 22) rfl)) (hw _ (List.mem_of_getElem? (i := 2) rfl)) (by decide) (by decide)) q96a q96c (g := (mkF m 169 #[.val (.long p1), .second, .val (.long p2), .second, .val (.int p3), .val (.int z5), .val (.int z6), .val (.int kd), .val (.long av), .second, .val (.long rw0), .second, .val (.long bv), .second, .val (.ref oa), .val .null, .val (.int (0 : Int32))] [.null, (.ref oa)])) rfl (by rw [hml]; rfl) (Steps.refl _) (argsL := [.null]) (rest := []) (lenOf pd_2 rfl) rfl (by show 2 * 0 + _ ≤ _; exact Nat.le_of_eq rfl) (hb hby at_169) (fun _ _ => ⟨rfl, rfl, (by decide : 1 + 0 ≤ _), (by decide : 2 + 0 ≤ _)⟩)
    dsimp only [Pt.U, Pt.locs, Pt.cells, Pt.slots] at X96 l96 y96 z96 st96 hQ96
    subst l96 y96 z96
    obtain ⟨rfl, Nq96, eq9⟩ := hQ96
    have N96 := Fr.app N89 Nq96
    have k96 : Kt p e below m (s₁.setTop (entryFrame m #[(.long p1), (.long p2), (.int p3)] maxLocals)) T96 172 #[.val (.long p1), .second, .val (.long p2), .second, .val (.int p3), .val (.int z5), .val (.int z6), .val (.int kd), .val (.long av), .second, .val (.long rw0), .second, .val (.long bv), .second, .val (.ref oa), .val .null, .val (.int (0 : Int32))] [(.int (0 : Int32))] := fun t ht => k95 t (st96.trans ht)
    have k97 : Kt p e below m (s₁.setTop (entryFrame m #[(.long p1), (.long p2), (.int p3)] maxLocals)) T96 182 #[.val (.long p1), .second, .val (.long p2), .second, .val (.int p3), .val (.int z5), .val (.int z6), .val (.int kd), .val (.long av), .second, .val (.long rw0), .second, .val (.long bv), .second, .val (.ref oa), .val .null, .val (.int (0 : Int32))] [(.int (1 : Int32))] := by
      intro t ht
      refine k96 t ?_
      show Steps p.tables e below (T96.setTop (mkF m 172 #[.val (.long p1), .second, .val (.long p2), .second, .val (.int p3), .val (.int z5), .val (.int z6), .val (.int kd), .val (.long av), .second, .val (.long rw0), .second, .val (.long bv), .second, .val (.ref oa), .val .null, .val (.int (0 : Int32))] [(.int (0 : Int32))])) t
      refine XS.iload X96.here hx rfl (hb hby at_172) rfl ?_
      show Steps p.tables e below (T96.setTop (mkF m 174 #[.val (.long p1), .second, .val (.long p2), .second, .val (.int p3), .val (.int z5), .val (.int z6), .val (.int kd), .val (.long av), .second, .val (.long rw0), .second, .val (.long bv), .second, .val (.ref oa), .val .null, .val (.int (0 : Int32))] [(.int (0 : Int32)), (.int (0 : Int32))])) t
      refine XS.icmpNo X96.here hx rfl (hb hby at_174) rfl (teq rfl).2 ?_
      show Steps p.tables e below (T96.setTop (mkF m 177 #[.val (.long p1), .second, .val (.long p2), .second, .val (.int p3), .val (.int z5), .val (.int z6), .val (.int kd), .val (.long av), .second, .val (.long rw0), .second, .val (.long bv), .second, .val (.ref oa), .val .null, .val (.int (0 : Int32))] [])) t
      refine XS.iconst X96.here hx rfl (hb hby at_177) ?_
      show Steps p.tables e below (T96.setTop (mkF m 178 #[.val (.long p1), .second, .val (.long p2), .second, .val (.int p3), .val (.int z5), .val (.int z6), .val (.int kd), .val (.long av), .second, .val (.long rw0), .second, .val (.long bv), .second, .val (.ref oa), .val .null, .val (.int (0 : Int32))] [(.int (1 : Int32))])) t
      refine XS.goto X96.here hx rfl (pc0 := 178) (pc' := 182) rfl (hb hby at_178) (by decide) (by decide) ?_
      exact ht
    obtain ⟨fs, hr, hrun, hended, hW, hsame⟩ := X96.leave (v := some (.int (1 : Int32))) (fun h => by rw [Bd.returns] at h; cases h)
    refine ⟨_, _, k97 _ ?_, hrun, hended, _, _, rfl, ?_, ⟨_, rfl⟩, hW, hsame.mono (by decide) (by decide)⟩
    · exact retN X96 hx (t := .boolean) Bd.returns (by simp) (hb hby at_182) hr
    · show Q0 Z p1 p2 p3 h0 n0 _ T96.heap _
      exact ⟨rfl, N96⟩
  · have k98 : Kt p e below m (s₁.setTop (entryFrame m #[(.long p1), (.long p2), (.int p3)] maxLocals)) T89 110 #[.val (.long p1), .second, .val (.long p2), .second, .val (.int p3), .val (.int z5), .val (.int z6), .val (.int kd), .val (.long av), .second, .val (.long rw0), .second, .val (.long bv), .second, .val (.ref oa), .unset, .unset] [(.int (3 : Int32)), (.int kd)] := by
      intro t ht
      refine k94 t ?_
      show Steps p.tables e below (T89.setTop (mkF m 95 #[.val (.long p1), .second, .val (.long p2), .second, .val (.int p3), .val (.int z5), .val (.int z6), .val (.int kd), .val (.long av), .second, .val (.long rw0), .second, .val (.long bv), .second, .val (.ref oa), .unset, .unset] [(.int (2 : Int32)), (.int kd)])) t
      refine XS.icmpYes X89.here hx rfl (pc0 := 95) (pc' := 107) rfl (hb hby at_95) rfl (feq hk2).2 (by decide) (by decide) ?_
      show Steps p.tables e below (T89.setTop (mkF m 107 #[.val (.long p1), .second, .val (.long p2), .second, .val (.int p3), .val (.int z5), .val (.int z6), .val (.int kd), .val (.long av), .second, .val (.long rw0), .second, .val (.long bv), .second, .val (.ref oa), .unset, .unset] [])) t
      refine XS.iload X89.here hx rfl (hb hby at_107) rfl ?_
      show Steps p.tables e below (T89.setTop (mkF m 109 #[.val (.long p1), .second, .val (.long p2), .second, .val (.int p3), .val (.int z5), .val (.int z6), .val (.int kd), .val (.long av), .second, .val (.long rw0), .second, .val (.long bv), .second, .val (.ref oa), .unset, .unset] [(.int kd)])) t
      refine XS.iconst X89.here hx rfl (hb hby at_109) ?_
      exact ht
    by_cases hk3 : kd = (3 : Int32)
    · have k99 : Kt p e below m (s₁.setTop (entryFrame m #[(.long p1), (.long p2), (.int p3)] maxLocals)) T89 113 #[.val (.long p1), .second, .val (.long p2), .second, .val (.int p3), .val (.int z5), .val (.int z6), .val (.int kd), .val (.long av), .second, .val (.long rw0), .second, .val (.long bv), .second, .val (.ref oa), .unset, .unset] [] := by
        intro t ht
        refine k98 t ?_
        show Steps p.tables e below (T89.setTop (mkF m 110 #[.val (.long p1), .second, .val (.long p2), .second, .val (.int p3), .val (.int z5), .val (.int z6), .val (.int kd), .val (.long av), .second, .val (.long rw0), .second, .val (.long bv), .second, .val (.ref oa), .unset, .unset] [(.int (3 : Int32)), (.int kd)])) t
        refine XS.icmpNo X89.here hx rfl (hb hby at_110) rfl (teq hk3).2 ?_
        exact ht
      obtain ⟨T100, h100, X100, e100, E100, A100, D100, -, st100⟩ := newO X89 hx hZ hown (hw _ (List.mem_of_getElem? (i := 25) rfl)) (hw _ (List.mem_of_getElem? (i := 26) rfl)) (hw _ (List.mem_of_getElem? (i := 27) rfl)) rfl (g := (mkF m 113 #[.val (.long p1), .second, .val (.long p2), .second, .val (.int p3), .val (.int z5), .val (.int z6), .val (.int kd), .val (.long av), .second, .val (.long rw0), .second, .val (.long bv), .second, .val (.ref oa), .unset, .unset] [])) rfl (hb hby at_113) (by decide) (by decide)
      obtain ⟨ob, q100⟩ : ∃ z, z = T89.heap.size := ⟨_, rfl⟩
      have ne_oa_ob : oa ≠ ob := by rw [q100]; exact Nat.ne_of_lt f91.lt
      have g_ob : n0 ≤ ob := by rw [q100]; exact f90
      rw [← q100] at A100 D100 st100
      have f101 : n0 ≤ h100.size := Nat.le_trans f90 E100.1
      have f102 : Exa Z h100 oa "com/example/threadwright/threadwright/schema/Literal$Int" := f91.ext E100
      have f103 : Fld Z h100 oa "com/example/threadwright/threadwright/schema/Literal$Int" "value" "J" (.long av) := Fa89.ext E100
      have f104 : Fld Z h100 oa "com/example/threadwright/threadwright/schema/Literal$Int" "isLong" "Z" (.int z5) := Fb89.ext E100
      have f100 : Exa Z h100 ob "com/example/threadwright/threadwright/schema/Literal$Bool" := A100
      have f105 : Fld Z h100 ob "com/example/threadwright/threadwright/schema/Literal$Bool" "value" "Z" (.int (0 : Int32)) := D100 (Or.inr (hw _ (List.mem_of_getElem? (i := 33) rfl))) (ty := .boolean) (by decide)
      have k100 : Kt p e below m (s₁.setTop (entryFrame m #[(.long p1), (.long p2), (.int p3)] maxLocals)) T100 116 #[.val (.long p1), .second, .val (.long p2), .second, .val (.int p3), .val (.int z5), .val (.int z6), .val (.int kd), .val (.long av), .second, .val (.long rw0), .second, .val (.long bv), .second, .val (.ref oa), .unset, .unset] [(.ref ob)] := fun t ht => k99 t (st100 t ht)
      have k106 : Kt p e below m (s₁.setTop (entryFrame m #[(.long p1), (.long p2), (.int p3)] maxLocals)) T100 119 #[.val (.long p1), .second, .val (.long p2), .second, .val (.int p3), .val (.int z5), .val (.int z6), .val (.int kd), .val (.long av), .second, .val (.long rw0), .second, .val (.long bv), .second, .val (.ref oa), .unset, .unset] [(.int z6), (.ref ob), (.ref ob)] := by
        intro t ht
        refine k100 t ?_
        show Steps p.tables e below (T100.setTop (mkF m 116 #[.val (.long p1), .second, .val (.long p2), .second, .val (.int p3), .val (.int z5), .val (.int z6), .val (.int kd), .val (.long av), .second, .val (.long rw0), .second, .val (.long bv), .second, .val (.ref oa), .unset, .unset] [(.ref ob)])) t
        refine XS.dup X100.here hx rfl (hb hby at_116) rfl rfl ?_
        show Steps p.tables e below (T100.setTop (mkF m 117 #[.val (.long p1), .second, .val (.long p2), .second, .val (.int p3), .val (.int z5), .val (.int z6), .val (.int kd), .val (.long av), .second, .val (.long rw0), .second, .val (.long bv), .second, .val (.ref oa), .unset, .unset] [(.ref ob), (.ref ob)])) t
        refine XS.iload X100.here hx rfl (hb hby at_117) rfl ?_
        exact ht
      obtain ⟨_, _, ⟨T107, L107, c107, n107⟩, -, X107, ⟨Lc107, hQ107, l107, y107, z107⟩, st107⟩ := X100.specialBack hx (y := (⟨"com/example/threadwright/threadwright/schema/Literal$Bool", "<init>", "(Z)V"⟩ : MethodName)) rfl hown (mvT hZ (hw _ (List.mem_of_getElem? (i := 28) rfl))) (mvT hZ (hw _ (List.mem_of_getElem? (i := 29) rfl))) (mvT hZ (hw _ (List.mem_of_getElem? (i := 30) rfl))) (by decide) (backOf (W := 1) (rm5 l Z a0 hw [] ob z6 h100 n0 f101 hp62 f100 f105 g_ob) hZ (hw _ (List.mem_of_getElem? (i := 30) rfl)) (hw _ (List.mem_of_getElem? (i := 27) rfl)) (by decide) (by decide)) (g := (mkF m 119 #[.val (.long p1), .second, .val (.long p2), .second, .val (.int p3), .val (.int z5), .val (.int z6), .val (.int kd), .val (.long av), .second, .val (.long rw0), .second, .val (.long bv), .second, .val (.ref oa), .unset, .unset] [(.int z6), (.ref ob), (.ref ob)])) rfl (by rw [hml]; rfl) (Steps.refl _) (a := ob) (argsL := [(.int z6)]) (rest := [(.ref ob)]) (lenOf pd_3 rfl) rfl (by show 2 * 0 + _ ≤ _; exact Nat.le_of_eq rfl) (hb hby at_119) (fun _ _ => ⟨rfl, e100, (by decide : 2 + 0 ≤ _), (by decide : 3 + 0 ≤ _)⟩)
      dsimp only [Pt.U, Pt.locs, Pt.cells, Pt.slots] at X107 l107 y107 z107 st107 hQ107
      subst l107 y107 z107
      obtain ⟨rfl, Nq107, Kp107⟩ := hQ107
      have N107 := Fr.app N89 Nq107
      have k107 : Kt p e below m (s₁.setTop (entryFrame m #[(.long p1), (.long p2), (.int p3)] maxLocals)) T107 122 #[.val (.long p1), .second, .val (.long p2), .second, .val (.int p3), .val (.int z5), .val (.int z6), .val (.int kd), .val (.long av), .second, .val (.long rw0), .second, .val (.long bv), .second, .val (.ref oa), .unset, .unset] [(.ref ob)] := fun t ht => k106 t (st107.trans ht)
      have f108 : n0 ≤ T107.heap.size := Nat.le_trans f101 Kp107.1
      have f109 : Exa Z T107.heap oa "com/example/threadwright/threadwright/schema/Literal$Int" := f102.keep Kp107
      have f110 : Fld Z T107.heap oa "com/example/threadwright/threadwright/schema/Literal$Int" "value" "J" (.long av) := f103.keep Kp107 (ninS ne_oa_ob nin0)
      have f111 : Fld Z T107.heap oa "com/example/threadwright/threadwright/schema/Literal$Int" "isLong" "Z" (.int z5) := f104.keep Kp107 (ninS ne_oa_ob nin0)
      have f112 : Exa Z T107.heap ob "com/example/threadwright/threadwright/schema/Literal$Bool" := f100.keep Kp107
      have k114 : Kt p e below m (s₁.setTop (entryFrame m #[(.long p1), (.long p2), (.int p3)] maxLocals)) T107 169 #[.val (.long p1), .second, .val (.long p2), .second, .val (.int p3), .val (.int z5), .val (.int z6), .val (.int kd), .val (.long av), .second, .val (.long rw0), .second, .val (.long bv), .second, .val (.ref oa), .val (.ref ob), .val (.int (0 : Int32))] [(.ref ob), (.ref oa)] := by
        intro t ht
        refine k107 t ?_
        show Steps p.tables e below (T107.setTop (mkF m 122 #[.val (.long p1), .second, .val (.long p2), .second, .val (.int p3), .val (.int z5), .val (.int z6), .val (.int kd), .val (.long av), .second, .val (.long rw0), .second, .val (.long bv), .second, .val (.ref oa), .unset, .unset] [(.ref ob)])) t
        refine XS.astore X107.here hx rfl (hb hby at_122) rfl rfl (l' := #[.val (.long p1), .second, .val (.long p2), .second, .val (.int p3), .val (.int z5), .val (.int z6), .val (.int kd), .val (.long av), .second, .val (.long rw0), .second, .val (.long bv), .second, .val (.ref oa), .val (.ref ob), .unset]) rfl ?_
        show Steps p.tables e below (T107.setTop (mkF m 124 #[.val (.long p1), .second, .val (.long p2), .second, .val (.int p3), .val (.int z5), .val (.int z6), .val (.int kd), .val (.long av), .second, .val (.long rw0), .second, .val (.long bv), .second, .val (.ref oa), .val (.ref ob), .unset] [])) t
        refine XS.iconst X107.here hx rfl (hb hby at_124) ?_
        show Steps p.tables e below (T107.setTop (mkF m 125 #[.val (.long p1), .second, .val (.long p2), .second, .val (.int p3), .val (.int z5), .val (.int z6), .val (.int kd), .val (.long av), .second, .val (.long rw0), .second, .val (.long bv), .second, .val (.ref oa), .val (.ref ob), .unset] [(.int (0 : Int32))])) t
        refine XS.istore X107.here hx rfl (hb hby at_125) rfl (l' := #[.val (.long p1), .second, .val (.long p2), .second, .val (.int p3), .val (.int z5), .val (.int z6), .val (.int kd), .val (.long av), .second, .val (.long rw0), .second, .val (.long bv), .second, .val (.ref oa), .val (.ref ob), .val (.int (0 : Int32))]) rfl ?_
        show Steps p.tables e below (T107.setTop (mkF m 127 #[.val (.long p1), .second, .val (.long p2), .second, .val (.int p3), .val (.int z5), .val (.int z6), .val (.int kd), .val (.long av), .second, .val (.long rw0), .second, .val (.long bv), .second, .val (.ref oa), .val (.ref ob), .val (.int (0 : Int32))] [])) t
        refine XS.goto X107.here hx rfl (pc0 := 127) (pc' := 165) rfl (hb hby at_127) (by decide) (by decide) ?_
        show Steps p.tables e below (T107.setTop (mkF m 165 #[.val (.long p1), .second, .val (.long p2), .second, .val (.int p3), .val (.int z5), .val (.int z6), .val (.int kd), .val (.long av), .second, .val (.long rw0), .second, .val (.long bv), .second, .val (.ref oa), .val (.ref ob), .val (.int (0 : Int32))] [])) t
        refine XS.aload X107.here hx rfl (hb hby at_165) rfl rfl ?_
        show Steps p.tables e below (T107.setTop (mkF m 167 #[.val (.long p1), .second, .val (.long p2), .second, .val (.int p3), .val (.int z5), .val (.int z6), .val (.int kd), .val (.long av), .second, .val (.long rw0), .second, .val (.long bv), .second, .val (.ref oa), .val (.ref ob), .val (.int (0 : Int32))] [(.ref oa)])) t
        refine XS.aload X107.here hx rfl (hb hby at_167) rfl rfl ?_
        exact ht
      obtain ⟨cq115, kq115, q115a, q115b, q115c⟩ := isOf hZ rfl f109
      obtain ⟨_, _, ⟨T115, L115, c115, n115⟩, -, X115, ⟨Lc115, hQ115, l115, y115, z115⟩, st115⟩ := X107.virtualBack hx (y := (⟨"com/example/threadwright/threadwright/schema/Literal$Int", "equals", "(Ljava/lang/Object;)Z"⟩ : MethodName)) (z := (⟨"com/example/threadwright/threadwright/schema/Literal$Int", "equals", "(Ljava/lang/Object;)Z"⟩ : MethodName)) hown (mvT hZ (hw _ (List.mem_of_getElem? (i := 18) rfl))) (mvT hZ (hw _ (List.mem_of_getElem? (i := 19) rfl))) (notFace_of_selects (args := #[]) (mvT hZ (hw _ (List.mem_of_getElem? (i := 21) rfl)))) (mvT hZ (hw _ (List.mem_of_getElem? (i := 21) rfl))) (mvT hZ (hw _ (List.mem_of_getElem? (i := 20) rfl))) (by decide) (backOf (W := 0) (rmeqB l Z a0 hw [] oa ob T107.heap n0 f108 f112) hZ (hw _ (List.mem_of_getElem? (i := 22) rfl)) (hw _ (List.mem_of_getElem? (i := 2) rfl)) (by decide) (by decide)) q115a q115c (g := (mkF m 169 #[.val (.long p1), .second, .val (.long p2), .second, .val (.int p3), .val (.int z5), .val (.int z6), .val (.int kd), .val (.long av), .second, .val (.long rw0), .second, .val (.long bv), .second, .val (.ref oa), .val (.ref ob), .val (.int (0 : Int32))] [(.ref ob), (.ref oa)])) rfl (by rw [hml]; rfl) (Steps.refl _) (argsL := [(.ref ob)]) (rest := []) (lenOf pd_2 rfl) rfl (by show 2 * 0 + _ ≤ _; exact Nat.le_of_eq rfl) (hb hby at_169) (fun _ _ => ⟨rfl, rfl, (by decide : 2 + 0 ≤ _), (by decide : 3 + 0 ≤ _)⟩)
      dsimp only [Pt.U, Pt.locs, Pt.cells, Pt.slots] at X115 l115 y115 z115 st115 hQ115
      subst l115 y115 z115
      obtain ⟨rfl, Nq115, eq9⟩ := hQ115
      have N115 := Fr.app N107 Nq115
      have k115 : Kt p e below m (s₁.setTop (entryFrame m #[(.long p1), (.long p2), (.int p3)] maxLocals)) T115 172 #[.val (.long p1), .second, .val (.long p2), .second, .val (.int p3), .val (.int z5), .val (.int z6), .val (.int kd), .val (.long av), .second, .val (.long rw0), .second, .val (.long bv), .second, .val (.ref oa), .val (.ref ob), .val (.int (0 : Int32))] [(.int (0 : Int32))] := fun t ht => k114 t (st115.trans ht)
      have k116 : Kt p e below m (s₁.setTop (entryFrame m #[(.long p1), (.long p2), (.int p3)] maxLocals)) T115 182 #[.val (.long p1), .second, .val (.long p2), .second, .val (.int p3), .val (.int z5), .val (.int z6), .val (.int kd), .val (.long av), .second, .val (.long rw0), .second, .val (.long bv), .second, .val (.ref oa), .val (.ref ob), .val (.int (0 : Int32))] [(.int (1 : Int32))] := by
        intro t ht
        refine k115 t ?_
        show Steps p.tables e below (T115.setTop (mkF m 172 #[.val (.long p1), .second, .val (.long p2), .second, .val (.int p3), .val (.int z5), .val (.int z6), .val (.int kd), .val (.long av), .second, .val (.long rw0), .second, .val (.long bv), .second, .val (.ref oa), .val (.ref ob), .val (.int (0 : Int32))] [(.int (0 : Int32))])) t
        refine XS.iload X115.here hx rfl (hb hby at_172) rfl ?_
        show Steps p.tables e below (T115.setTop (mkF m 174 #[.val (.long p1), .second, .val (.long p2), .second, .val (.int p3), .val (.int z5), .val (.int z6), .val (.int kd), .val (.long av), .second, .val (.long rw0), .second, .val (.long bv), .second, .val (.ref oa), .val (.ref ob), .val (.int (0 : Int32))] [(.int (0 : Int32)), (.int (0 : Int32))])) t
        refine XS.icmpNo X115.here hx rfl (hb hby at_174) rfl (teq rfl).2 ?_
        show Steps p.tables e below (T115.setTop (mkF m 177 #[.val (.long p1), .second, .val (.long p2), .second, .val (.int p3), .val (.int z5), .val (.int z6), .val (.int kd), .val (.long av), .second, .val (.long rw0), .second, .val (.long bv), .second, .val (.ref oa), .val (.ref ob), .val (.int (0 : Int32))] [])) t
        refine XS.iconst X115.here hx rfl (hb hby at_177) ?_
        show Steps p.tables e below (T115.setTop (mkF m 178 #[.val (.long p1), .second, .val (.long p2), .second, .val (.int p3), .val (.int z5), .val (.int z6), .val (.int kd), .val (.long av), .second, .val (.long rw0), .second, .val (.long bv), .second, .val (.ref oa), .val (.ref ob), .val (.int (0 : Int32))] [(.int (1 : Int32))])) t
        refine XS.goto X115.here hx rfl (pc0 := 178) (pc' := 182) rfl (hb hby at_178) (by decide) (by decide) ?_
        exact ht
      obtain ⟨fs, hr, hrun, hended, hW, hsame⟩ := X115.leave (v := some (.int (1 : Int32))) (fun h => by rw [Bd.returns] at h; cases h)
      refine ⟨_, _, k116 _ ?_, hrun, hended, _, _, rfl, ?_, ⟨_, rfl⟩, hW, hsame.mono (by decide) (by decide)⟩
      · exact retN X115 hx (t := .boolean) Bd.returns (by simp) (hb hby at_182) hr
      · show Q0 Z p1 p2 p3 h0 n0 _ T115.heap _
        exact ⟨rfl, N115⟩
    · have k117 : Kt p e below m (s₁.setTop (entryFrame m #[(.long p1), (.long p2), (.int p3)] maxLocals)) T89 130 #[.val (.long p1), .second, .val (.long p2), .second, .val (.int p3), .val (.int z5), .val (.int z6), .val (.int kd), .val (.long av), .second, .val (.long rw0), .second, .val (.long bv), .second, .val (.ref oa), .unset, .unset] [] := by
        intro t ht
        refine k98 t ?_
        show Steps p.tables e below (T89.setTop (mkF m 110 #[.val (.long p1), .second, .val (.long p2), .second, .val (.int p3), .val (.int z5), .val (.int z6), .val (.int kd), .val (.long av), .second, .val (.long rw0), .second, .val (.long bv), .second, .val (.ref oa), .unset, .unset] [(.int (3 : Int32)), (.int kd)])) t
        refine XS.icmpYes X89.here hx rfl (pc0 := 110) (pc' := 130) rfl (hb hby at_110) rfl (feq hk3).2 (by decide) (by decide) ?_
        exact ht
      obtain ⟨T118, h118, X118, e118, E118, A118, D118, -, st118⟩ := newO X89 hx hZ hown (hw _ (List.mem_of_getElem? (i := 0) rfl)) (hw _ (List.mem_of_getElem? (i := 1) rfl)) (hw _ (List.mem_of_getElem? (i := 2) rfl)) rfl (g := (mkF m 130 #[.val (.long p1), .second, .val (.long p2), .second, .val (.int p3), .val (.int z5), .val (.int z6), .val (.int kd), .val (.long av), .second, .val (.long rw0), .second, .val (.long bv), .second, .val (.ref oa), .unset, .unset] [])) rfl (hb hby at_130) (by decide) (by decide)
      obtain ⟨ob, q118⟩ : ∃ z, z = T89.heap.size := ⟨_, rfl⟩
      have ne_oa_ob : oa ≠ ob := by rw [q118]; exact Nat.ne_of_lt f91.lt
      have g_ob : n0 ≤ ob := by rw [q118]; exact f90
      rw [← q118] at A118 D118 st118
      have f119 : n0 ≤ h118.size := Nat.le_trans f90 E118.1
      have f120 : Exa Z h118 oa "com/example/threadwright/threadwright/schema/Literal$Int" := f91.ext E118
      have f121 : Fld Z h118 oa "com/example/threadwright/threadwright/schema/Literal$Int" "value" "J" (.long av) := Fa89.ext E118
      have f122 : Fld Z h118 oa "com/example/threadwright/threadwright/schema/Literal$Int" "isLong" "Z" (.int z5) := Fb89.ext E118
      have f118 : Exa Z h118 ob "com/example/threadwright/threadwright/schema/Literal$Int" := A118
      have f123 : Fld Z h118 ob "com/example/threadwright/threadwright/schema/Literal$Int" "value" "J" (.long (0 : Int64)) := D118 (Or.inr (hw _ (List.mem_of_getElem? (i := 15) rfl))) (ty := .long) (by decide)
      have f124 : Fld Z h118 ob "com/example/threadwright/threadwright/schema/Literal$Int" "isLong" "Z" (.int (0 : Int32)) := D118 (Or.inr (hw _ (List.mem_of_getElem? (i := 17) rfl))) (ty := .boolean) (by decide)
      have k118 : Kt p e below m (s₁.setTop (entryFrame m #[(.long p1), (.long p2), (.int p3)] maxLocals)) T118 133 #[.val (.long p1), .second, .val (.long p2), .second, .val (.int p3), .val (.int z5), .val (.int z6), .val (.int kd), .val (.long av), .second, .val (.long rw0), .second, .val (.long bv), .second, .val (.ref oa), .unset, .unset] [(.ref ob)] := fun t ht => k117 t (st118 t ht)
      have k125 : Kt p e below m (s₁.setTop (entryFrame m #[(.long p1), (.long p2), (.int p3)] maxLocals)) T118 138 #[.val (.long p1), .second, .val (.long p2), .second, .val (.int p3), .val (.int z5), .val (.int z6), .val (.int kd), .val (.long av), .second, .val (.long rw0), .second, .val (.long bv), .second, .val (.ref oa), .unset, .unset] [(.int z6), (.long bv), (.ref ob), (.ref ob)] := by
        intro t ht
        refine k118 t ?_
        show Steps p.tables e below (T118.setTop (mkF m 133 #[.val (.long p1), .second, .val (.long p2), .second, .val (.int p3), .val (.int z5), .val (.int z6), .val (.int kd), .val (.long av), .second, .val (.long rw0), .second, .val (.long bv), .second, .val (.ref oa), .unset, .unset] [(.ref ob)])) t
        refine XS.dup X118.here hx rfl (hb hby at_133) rfl rfl ?_
        show Steps p.tables e below (T118.setTop (mkF m 134 #[.val (.long p1), .second, .val (.long p2), .second, .val (.int p3), .val (.int z5), .val (.int z6), .val (.int kd), .val (.long av), .second, .val (.long rw0), .second, .val (.long bv), .second, .val (.ref oa), .unset, .unset] [(.ref ob), (.ref ob)])) t
        refine XS.lload X118.here hx rfl (hb hby at_134) rfl ?_
        show Steps p.tables e below (T118.setTop (mkF m 136 #[.val (.long p1), .second, .val (.long p2), .second, .val (.int p3), .val (.int z5), .val (.int z6), .val (.int kd), .val (.long av), .second, .val (.long rw0), .second, .val (.long bv), .second, .val (.ref oa), .unset, .unset] [(.long bv), (.ref ob), (.ref ob)])) t
        refine XS.iload X118.here hx rfl (hb hby at_136) rfl ?_
        exact ht
      obtain ⟨_, _, ⟨T126, L126, c126, n126⟩, -, X126, ⟨Lc126, hQ126, l126, y126, z126⟩, st126⟩ := X118.specialBack hx (y := (⟨"com/example/threadwright/threadwright/schema/Literal$Int", "<init>", "(JZ)V"⟩ : MethodName)) rfl hown (mvT hZ (hw _ (List.mem_of_getElem? (i := 3) rfl))) (mvT hZ (hw _ (List.mem_of_getElem? (i := 4) rfl))) (mvT hZ (hw _ (List.mem_of_getElem? (i := 5) rfl))) (by decide) (backOf (W := 1) (rm1 l Z a0 hw [] ob bv z6 h118 n0 f119 hp62 f118 f123 f124 g_ob) hZ (hw _ (List.mem_of_getElem? (i := 5) rfl)) (hw _ (List.mem_of_getElem? (i := 2) rfl)) (by decide) (by decide)) (g := (mkF m 138 #[.val (.long p1), .second, .val (.long p2), .second, .val (.int p3), .val (.int z5), .val (.int z6), .val (.int kd), .val (.long av), .second, .val (.long rw0), .second, .val (.long bv), .second, .val (.ref oa), .unset, .unset] [(.int z6), (.long bv), (.ref ob), (.ref ob)])) rfl (by rw [hml]; rfl) (Steps.refl _) (a := ob) (argsL := [(.long bv), (.int z6)]) (rest := [(.ref ob)]) (lenOf pd_1 rfl) rfl (by show 2 * 0 + _ ≤ _; exact Nat.le_of_eq rfl) (hb hby at_138) (fun _ _ => ⟨rfl, e118, (by decide : 2 + 0 ≤ _), (by decide : 4 + 0 ≤ _)⟩)
      dsimp only [Pt.U, Pt.locs, Pt.cells, Pt.slots] at X126 l126 y126 z126 st126 hQ126
      subst l126 y126 z126
      obtain ⟨rfl, Nq126, Kp126, Fa126, Fb126⟩ := hQ126
      have N126 := Fr.app N89 Nq126
      have k126 : Kt p e below m (s₁.setTop (entryFrame m #[(.long p1), (.long p2), (.int p3)] maxLocals)) T126 141 #[.val (.long p1), .second, .val (.long p2), .second, .val (.int p3), .val (.int z5), .val (.int z6), .val (.int kd), .val (.long av), .second, .val (.long rw0), .second, .val (.long bv), .second, .val (.ref oa), .unset, .unset] [(.ref ob)] := fun t ht => k125 t (st126.trans ht)
      have f127 : n0 ≤ T126.heap.size := Nat.le_trans f119 Kp126.1
      have f128 : Exa Z T126.heap oa "com/example/threadwright/threadwright/schema/Literal$Int" := f120.keep Kp126
      have f129 : Fld Z T126.heap oa "com/example/threadwright/threadwright/schema/Literal$Int" "value" "J" (.long av) := f121.keep Kp126 (ninS ne_oa_ob nin0)
      have f130 : Fld Z T126.heap oa "com/example/threadwright/threadwright/schema/Literal$Int" "isLong" "Z" (.int z5) := f122.keep Kp126 (ninS ne_oa_ob nin0)
      have f131 : Exa Z T126.heap ob "com/example/threadwright/threadwright/schema/Literal$Int" := f118.keep Kp126
      have k134 : Kt p e below m (s₁.setTop (entryFrame m #[(.long p1), (.long p2), (.int p3)] maxLocals)) T126 148 #[.val (.long p1), .second, .val (.long p2), .second, .val (.int p3), .val (.int z5), .val (.int z6), .val (.int kd), .val (.long av), .second, .val (.long rw0), .second, .val (.long bv), .second, .val (.ref oa), .val (.ref ob), .unset] [(.int (lcmpW av bv))] := by
        intro t ht
        refine k126 t ?_
        show Steps p.tables e below (T126.setTop (mkF m 141 #[.val (.long p1), .second, .val (.long p2), .second, .val (.int p3), .val (.int z5), .val (.int z6), .val (.int kd), .val (.long av), .second, .val (.long rw0), .second, .val (.long bv), .second, .val (.ref oa), .unset, .unset] [(.ref ob)])) t
        refine XS.astore X126.here hx rfl (hb hby at_141) rfl rfl (l' := #[.val (.long p1), .second, .val (.long p2), .second, .val (.int p3), .val (.int z5), .val (.int z6), .val (.int kd), .val (.long av), .second, .val (.long rw0), .second, .val (.long bv), .second, .val (.ref oa), .val (.ref ob), .unset]) rfl ?_
        show Steps p.tables e below (T126.setTop (mkF m 143 #[.val (.long p1), .second, .val (.long p2), .second, .val (.int p3), .val (.int z5), .val (.int z6), .val (.int kd), .val (.long av), .second, .val (.long rw0), .second, .val (.long bv), .second, .val (.ref oa), .val (.ref ob), .unset] [])) t
        refine XS.lload X126.here hx rfl (hb hby at_143) rfl ?_
        show Steps p.tables e below (T126.setTop (mkF m 145 #[.val (.long p1), .second, .val (.long p2), .second, .val (.int p3), .val (.int z5), .val (.int z6), .val (.int kd), .val (.long av), .second, .val (.long rw0), .second, .val (.long bv), .second, .val (.ref oa), .val (.ref ob), .unset] [(.long av)])) t
        refine XS.lload X126.here hx rfl (hb hby at_145) rfl ?_
        show Steps p.tables e below (T126.setTop (mkF m 147 #[.val (.long p1), .second, .val (.long p2), .second, .val (.int p3), .val (.int z5), .val (.int z6), .val (.int kd), .val (.long av), .second, .val (.long rw0), .second, .val (.long bv), .second, .val (.ref oa), .val (.ref ob), .unset] [(.long bv), (.long av)])) t
        refine XS.lcmp X126.here hx rfl (hb hby at_147) rfl ?_
        exact ht
      obtain ⟨z16, hp135, k135⟩ : ∃ z16 : Int32, (z16 = own_b (av = bv ∧ z5 = z6)) ∧ Kt p e below m (s₁.setTop (entryFrame m #[(.long p1), (.long p2), (.int p3)] maxLocals)) T126 163 #[.val (.long p1), .second, .val (.long p2), .second, .val (.int p3), .val (.int z5), .val (.int z6), .val (.int kd), .val (.long av), .second, .val (.long rw0), .second, .val (.long bv), .second, .val (.ref oa), .val (.ref ob), .unset] [(.int z16)] := by
        by_cases hj136 : av = bv
        · have k137 : Kt p e below m (s₁.setTop (entryFrame m #[(.long p1), (.long p2), (.int p3)] maxLocals)) T126 155 #[.val (.long p1), .second, .val (.long p2), .second, .val (.int p3), .val (.int z5), .val (.int z6), .val (.int kd), .val (.long av), .second, .val (.long rw0), .second, .val (.long bv), .second, .val (.ref oa), .val (.ref ob), .unset] [(.int z6), (.int z5)] := by
            intro t ht
            refine k134 t ?_
            show Steps p.tables e below (T126.setTop (mkF m 148 #[.val (.long p1), .second, .val (.long p2), .second, .val (.int p3), .val (.int z5), .val (.int z6), .val (.int kd), .val (.long av), .second, .val (.long rw0), .second, .val (.long bv), .second, .val (.ref oa), .val (.ref ob), .unset] [(.int (lcmpW av bv))])) t
            refine XS.ifNo X126.here hx rfl (hb hby at_148) rfl ((if0 _ _).trans (teq ((lw_eq _ _).mpr hj136)).2) ?_
            show Steps p.tables e below (T126.setTop (mkF m 151 #[.val (.long p1), .second, .val (.long p2), .second, .val (.int p3), .val (.int z5), .val (.int z6), .val (.int kd), .val (.long av), .second, .val (.long rw0), .second, .val (.long bv), .second, .val (.ref oa), .val (.ref ob), .unset] [])) t
            refine XS.iload X126.here hx rfl (hb hby at_151) rfl ?_
            show Steps p.tables e below (T126.setTop (mkF m 153 #[.val (.long p1), .second, .val (.long p2), .second, .val (.int p3), .val (.int z5), .val (.int z6), .val (.int kd), .val (.long av), .second, .val (.long rw0), .second, .val (.long bv), .second, .val (.ref oa), .val (.ref ob), .unset] [(.int z5)])) t
            refine XS.iload X126.here hx rfl (hb hby at_153) rfl ?_
            exact ht
          by_cases hj138 : z5 = z6
          · have k139 : Kt p e below m (s₁.setTop (entryFrame m #[(.long p1), (.long p2), (.int p3)] maxLocals)) T126 163 #[.val (.long p1), .second, .val (.long p2), .second, .val (.int p3), .val (.int z5), .val (.int z6), .val (.int kd), .val (.long av), .second, .val (.long rw0), .second, .val (.long bv), .second, .val (.ref oa), .val (.ref ob), .unset] [(.int (1 : Int32))] := by
              intro t ht
              refine k137 t ?_
              show Steps p.tables e below (T126.setTop (mkF m 155 #[.val (.long p1), .second, .val (.long p2), .second, .val (.int p3), .val (.int z5), .val (.int z6), .val (.int kd), .val (.long av), .second, .val (.long rw0), .second, .val (.long bv), .second, .val (.ref oa), .val (.ref ob), .unset] [(.int z6), (.int z5)])) t
              refine XS.icmpNo X126.here hx rfl (hb hby at_155) rfl (teq hj138).2 ?_
              show Steps p.tables e below (T126.setTop (mkF m 158 #[.val (.long p1), .second, .val (.long p2), .second, .val (.int p3), .val (.int z5), .val (.int z6), .val (.int kd), .val (.long av), .second, .val (.long rw0), .second, .val (.long bv), .second, .val (.ref oa), .val (.ref ob), .unset] [])) t
              refine XS.iconst X126.here hx rfl (hb hby at_158) ?_
              show Steps p.tables e below (T126.setTop (mkF m 159 #[.val (.long p1), .second, .val (.long p2), .second, .val (.int p3), .val (.int z5), .val (.int z6), .val (.int kd), .val (.long av), .second, .val (.long rw0), .second, .val (.long bv), .second, .val (.ref oa), .val (.ref ob), .unset] [(.int (1 : Int32))])) t
              refine XS.goto X126.here hx rfl (pc0 := 159) (pc' := 163) rfl (hb hby at_159) (by decide) (by decide) ?_
              exact ht
            exact ⟨(1 : Int32), (by unfold own_b; simp [hj136, hj138]), k139⟩
          · have k140 : Kt p e below m (s₁.setTop (entryFrame m #[(.long p1), (.long p2), (.int p3)] maxLocals)) T126 163 #[.val (.long p1), .second, .val (.long p2), .second, .val (.int p3), .val (.int z5), .val (.int z6), .val (.int kd), .val (.long av), .second, .val (.long rw0), .second, .val (.long bv), .second, .val (.ref oa), .val (.ref ob), .unset] [(.int (0 : Int32))] := by
              intro t ht
              refine k137 t ?_
              show Steps p.tables e below (T126.setTop (mkF m 155 #[.val (.long p1), .second, .val (.long p2), .second, .val (.int p3), .val (.int z5), .val (.int z6), .val (.int kd), .val (.long av), .second, .val (.long rw0), .second, .val (.long bv), .second, .val (.ref oa), .val (.ref ob), .unset] [(.int z6), (.int z5)])) t
              refine XS.icmpYes X126.here hx rfl (pc0 := 155) (pc' := 162) rfl (hb hby at_155) rfl (feq hj138).2 (by decide) (by decide) ?_
              show Steps p.tables e below (T126.setTop (mkF m 162 #[.val (.long p1), .second, .val (.long p2), .second, .val (.int p3), .val (.int z5), .val (.int z6), .val (.int kd), .val (.long av), .second, .val (.long rw0), .second, .val (.long bv), .second, .val (.ref oa), .val (.ref ob), .unset] [])) t
              refine XS.iconst X126.here hx rfl (hb hby at_162) ?_
              exact ht
            exact ⟨(0 : Int32), (by unfold own_b; simp [hj136, hj138]), k140⟩
        · have k141 : Kt p e below m (s₁.setTop (entryFrame m #[(.long p1), (.long p2), (.int p3)] maxLocals)) T126 163 #[.val (.long p1), .second, .val (.long p2), .second, .val (.int p3), .val (.int z5), .val (.int z6), .val (.int kd), .val (.long av), .second, .val (.long rw0), .second, .val (.long bv), .second, .val (.ref oa), .val (.ref ob), .unset] [(.int (0 : Int32))] := by
            intro t ht
            refine k134 t ?_
            show Steps p.tables e below (T126.setTop (mkF m 148 #[.val (.long p1), .second, .val (.long p2), .second, .val (.int p3), .val (.int z5), .val (.int z6), .val (.int kd), .val (.long av), .second, .val (.long rw0), .second, .val (.long bv), .second, .val (.ref oa), .val (.ref ob), .unset] [(.int (lcmpW av bv))])) t
            refine XS.ifYes X126.here hx rfl (pc0 := 148) (pc' := 162) rfl (hb hby at_148) rfl ((if0 _ _).trans (feq (mt (lw_eq _ _).mp hj136)).2) (by decide) (by decide) ?_
            show Steps p.tables e below (T126.setTop (mkF m 162 #[.val (.long p1), .second, .val (.long p2), .second, .val (.int p3), .val (.int z5), .val (.int z6), .val (.int kd), .val (.long av), .second, .val (.long rw0), .second, .val (.long bv), .second, .val (.ref oa), .val (.ref ob), .unset] [])) t
            refine XS.iconst X126.here hx rfl (hb hby at_162) ?_
            exact ht
          exact ⟨(0 : Int32), (by unfold own_b; simp [hj136]), k141⟩
      have k142 : Kt p e below m (s₁.setTop (entryFrame m #[(.long p1), (.long p2), (.int p3)] maxLocals)) T126 169 #[.val (.long p1), .second, .val (.long p2), .second, .val (.int p3), .val (.int z5), .val (.int z6), .val (.int kd), .val (.long av), .second, .val (.long rw0), .second, .val (.long bv), .second, .val (.ref oa), .val (.ref ob), .val (.int z16)] [(.ref ob), (.ref oa)] := by
        intro t ht
        refine k135 t ?_
        show Steps p.tables e below (T126.setTop (mkF m 163 #[.val (.long p1), .second, .val (.long p2), .second, .val (.int p3), .val (.int z5), .val (.int z6), .val (.int kd), .val (.long av), .second, .val (.long rw0), .second, .val (.long bv), .second, .val (.ref oa), .val (.ref ob), .unset] [(.int z16)])) t
        refine XS.istore X126.here hx rfl (hb hby at_163) rfl (l' := #[.val (.long p1), .second, .val (.long p2), .second, .val (.int p3), .val (.int z5), .val (.int z6), .val (.int kd), .val (.long av), .second, .val (.long rw0), .second, .val (.long bv), .second, .val (.ref oa), .val (.ref ob), .val (.int z16)]) rfl ?_
        show Steps p.tables e below (T126.setTop (mkF m 165 #[.val (.long p1), .second, .val (.long p2), .second, .val (.int p3), .val (.int z5), .val (.int z6), .val (.int kd), .val (.long av), .second, .val (.long rw0), .second, .val (.long bv), .second, .val (.ref oa), .val (.ref ob), .val (.int z16)] [])) t
        refine XS.aload X126.here hx rfl (hb hby at_165) rfl rfl ?_
        show Steps p.tables e below (T126.setTop (mkF m 167 #[.val (.long p1), .second, .val (.long p2), .second, .val (.int p3), .val (.int z5), .val (.int z6), .val (.int kd), .val (.long av), .second, .val (.long rw0), .second, .val (.long bv), .second, .val (.ref oa), .val (.ref ob), .val (.int z16)] [(.ref oa)])) t
        refine XS.aload X126.here hx rfl (hb hby at_167) rfl rfl ?_
        exact ht
      obtain ⟨cq143, kq143, q143a, q143b, q143c⟩ := isOf hZ rfl f128
      obtain ⟨_, _, ⟨T143, L143, c143, n143⟩, -, X143, ⟨Lc143, hQ143, l143, y143, z143⟩, st143⟩ := X126.virtualBack hx (y := (⟨"com/example/threadwright/threadwright/schema/Literal$Int", "equals", "(Ljava/lang/Object;)Z"⟩ : MethodName)) (z := (⟨"com/example/threadwright/threadwright/schema/Literal$Int", "equals", "(Ljava/lang/Object;)Z"⟩ : MethodName)) hown (mvT hZ (hw _ (List.mem_of_getElem? (i := 18) rfl))) (mvT hZ (hw _ (List.mem_of_getElem? (i := 19) rfl))) (notFace_of_selects (args := #[]) (mvT hZ (hw _ (List.mem_of_getElem? (i := 21) rfl)))) (mvT hZ (hw _ (List.mem_of_getElem? (i := 21) rfl))) (mvT hZ (hw _ (List.mem_of_getElem? (i := 20) rfl))) (by decide) (backOf (W := 0) (rmeqI l Z a0 hw [] oa ob av z5 bv z6 T126.heap n0 f127 f131 f129 f130 Fa126 Fb126) hZ (hw _ (List.mem_of_getElem? (i := 22) rfl)) (hw _ (List.mem_of_getElem? (i := 2) rfl)) (by decide) (by decide)) q143a q143c (g := (mkF m 169 #[.val (.long p1), .second, .val (.long p2), .second, .val (.int p3), .val (.int z5), .val (.int z6), .val (.int kd), .val (.long av), .second, .val (.long rw0), .second, .val (.long bv), .second, .val (.ref oa), .val (.ref ob), .val (.int z16)] [(.ref ob), (.ref oa)])) rfl (by rw [hml]; rfl) (Steps.refl _) (argsL := [(.ref ob)]) (rest := []) (lenOf pd_2 rfl) rfl (by show 2 * 0 + _ ≤ _; exact Nat.le_of_eq rfl) (hb hby at_169) (fun _ _ => ⟨rfl, rfl, (by decide : 2 + 0 ≤ _), (by decide : 4 + 0 ≤ _)⟩)
      dsimp only [Pt.U, Pt.locs, Pt.cells, Pt.slots] at X143 l143 y143 z143 st143 hQ143
      subst l143 y143 z143
      obtain ⟨rfl, Nq143, eq9⟩ := hQ143
      have N143 := Fr.app N126 Nq143
      have k143 : Kt p e below m (s₁.setTop (entryFrame m #[(.long p1), (.long p2), (.int p3)] maxLocals)) T143 172 #[.val (.long p1), .second, .val (.long p2), .second, .val (.int p3), .val (.int z5), .val (.int z6), .val (.int kd), .val (.long av), .second, .val (.long rw0), .second, .val (.long bv), .second, .val (.ref oa), .val (.ref ob), .val (.int z16)] [(.int (own_b (av = bv ∧ z5 = z6)))] := fun t ht => k142 t (st143.trans ht)
      have k144 : Kt p e below m (s₁.setTop (entryFrame m #[(.long p1), (.long p2), (.int p3)] maxLocals)) T143 182 #[.val (.long p1), .second, .val (.long p2), .second, .val (.int p3), .val (.int z5), .val (.int z6), .val (.int kd), .val (.long av), .second, .val (.long rw0), .second, .val (.long bv), .second, .val (.ref oa), .val (.ref ob), .val (.int z16)] [(.int (1 : Int32))] := by
        intro t ht
        refine k143 t ?_
        show Steps p.tables e below (T143.setTop (mkF m 172 #[.val (.long p1), .second, .val (.long p2), .second, .val (.int p3), .val (.int z5), .val (.int z6), .val (.int kd), .val (.long av), .second, .val (.long rw0), .second, .val (.long bv), .second, .val (.ref oa), .val (.ref ob), .val (.int z16)] [(.int (own_b (av = bv ∧ z5 = z6)))])) t
        refine XS.iload X143.here hx rfl (hb hby at_172) rfl ?_
        show Steps p.tables e below (T143.setTop (mkF m 174 #[.val (.long p1), .second, .val (.long p2), .second, .val (.int p3), .val (.int z5), .val (.int z6), .val (.int kd), .val (.long av), .second, .val (.long rw0), .second, .val (.long bv), .second, .val (.ref oa), .val (.ref ob), .val (.int z16)] [(.int z16), (.int (own_b (av = bv ∧ z5 = z6)))])) t
        refine XS.icmpNo X143.here hx rfl (hb hby at_174) rfl (teq hp135.symm).2 ?_
        show Steps p.tables e below (T143.setTop (mkF m 177 #[.val (.long p1), .second, .val (.long p2), .second, .val (.int p3), .val (.int z5), .val (.int z6), .val (.int kd), .val (.long av), .second, .val (.long rw0), .second, .val (.long bv), .second, .val (.ref oa), .val (.ref ob), .val (.int z16)] [])) t
        refine XS.iconst X143.here hx rfl (hb hby at_177) ?_
        show Steps p.tables e below (T143.setTop (mkF m 178 #[.val (.long p1), .second, .val (.long p2), .second, .val (.int p3), .val (.int z5), .val (.int z6), .val (.int kd), .val (.long av), .second, .val (.long rw0), .second, .val (.long bv), .second, .val (.ref oa), .val (.ref ob), .val (.int z16)] [(.int (1 : Int32))])) t
        refine XS.goto X143.here hx rfl (pc0 := 178) (pc' := 182) rfl (hb hby at_178) (by decide) (by decide) ?_
        exact ht
      obtain ⟨fs, hr, hrun, hended, hW, hsame⟩ := X143.leave (v := some (.int (1 : Int32))) (fun h => by rw [Bd.returns] at h; cases h)
      refine ⟨_, _, k144 _ ?_, hrun, hended, _, _, rfl, ?_, ⟨_, rfl⟩, hW, hsame.mono (by decide) (by decide)⟩
      · exact retN X143 hx (t := .boolean) Bd.returns (by simp) (hb hby at_182) hr
      · show Q0 Z p1 p2 p3 h0 n0 _ T143.heap _
        exact ⟨rfl, N143⟩
set_option maxRecDepth 65536 in
set_option maxHeartbeats 40000000 in
theorem comes_1 {Post : Tables → Env → Array Value → State → Outcome → State → Prop} (hpost : ∀ tb e args s v u, (limb_1_1.after args s (.returned v) u = true ∧ limb_1_2.after args s (.returned v) u = true ∧ True) → FrameEnd s (.returned v) u (Jvm.fieldLocs frame_1_writes args s ++ Jvm.arrayLocs frame_1_arrays args s ++ Jvm.staticLocs frame_1_statics s) 16 128 → Post tb e args s (.returned v) u) :
    ArmFor flags0 classFile x code maxLocals ret World_1 tables_1 room_1 Calls_1 rest_1 Pre_1 Post := by
  intro l hfl _ _ p e ha hc hk s m args below hf hA hF happ hP
  obtain ⟨hcalls, hrest, hpre⟩ := hP
  obtain ⟨-, -, -, hnamed, -, -, -, hat⟩ := (Spec.applies_iff hf).mp happ
  obtain ⟨hg, hn⟩ := and_e (Cond.before_iff.mp (show (Jvm.Cond.and given_1 narrow_1).before args s = true from hpre))
  obtain ⟨hcount, g0⟩ := and_e hg
  obtain ⟨ga0, g1⟩ := and_e g0
  obtain ⟨ga1, g2⟩ := and_e g1
  obtain ⟨w0, w1, w2, rfl⟩ : ∃ w0 w1 w2 : Value, args = #[w0, w1, w2] := by
    have hs : args.size = 3 := by simpa [Cond.value, given_1] using hcount
    obtain ⟨L⟩ := args
    match L, hs with
    | [w0, w1, w2], _ => exact ⟨w0, w1, w2, rfl⟩
  have hw := fun d (hd : d ∈ tables_1) => atoms_spec (ws := Jvm.Cond.code x code maxLocals ret :: tables_1) hat d (List.mem_cons_of_mem _ hd)
  have hfit : Fit s := fun {y c} hc i hi => by
    obtain ⟨ha, rfl⟩ := Array.getElem?_eq_some_iff.mp hc
    have q := List.all_eq_true.mp ((Array.all_eq_true_iff_forall_mem.mp hF) _ (Array.getElem_mem ha)) i (List.mem_range.mpr hi)
    simpa [Array.getElem?_eq_getElem hi] using q
  obtain ⟨i0, ei0⟩ := isL_v ga0
  obtain rfl : w0 = (.long i0) := Option.some.inj ei0
  obtain ⟨i1, ei1⟩ := isL_v ga1
  obtain rfl : w1 = (.long i1) := Option.some.inj ei1
  obtain ⟨i2, ei2⟩ := is_v g2
  obtain rfl : w2 = (.int i2) := Option.some.inj ei2
  obtain ⟨n, o, h1, h2, h3, _, L, rfl, ⟨rfl, N⟩, hq⟩ := rm0 l s _ hw tables_1 i0 i1 i2 s.heap s.heap.size (Nat.le_refl _) p e ha hc hk s m _ below hf ((Spec.applies_iff_loose hf).mp happ).1 ⟨rfl, State.Warmed39.refl s, rfl⟩ trivial
  refine ⟨n, _, h1, h2, h3, hpost _ _ _ _ _ _ ⟨Cond.after_iff.mpr rfl, Cond.after_iff.mpr (eq_i res_at (Term.int_eval (1)) rfl), trivial⟩ ⟨hq.1, hq.2.1, (hq.2.2.sift fun y hy => Or.inr (N y hy)).mono (by decide) (by decide)⟩⟩
theorem main_1_1 : Claimed_1_1 := comes_1 fun _ _ _ _ _ _ h hF => ⟨h.1, hF⟩
theorem main_1_2 : Claimed_1_2 := comes_1 fun _ _ _ _ _ _ h hF => ⟨h.2.1, hF⟩
end Jvm.Pilot.@@N@@
namespace Jvm.Pilot.@@N@@
open Jvm Jvm.ClassFile Sem Op Lib Jvm.Free Jvm.Stand Jvm.Pilot.@@N@@.Jvm.D
/-! MADE BY PROGRAM (witnessworld.py) out of the Statement's table words and the real class files: 10 classes; the members and pool entries that the words name. The judged class is class 1, her method 1. -/
namespace start1
open Jvm.ClassFile
def u (s : String) : CpInfo := .utf8 (stringToUtf16 s)
/-- a pool by its gaps: so many unusable entries, then the entry; so many at the end -/
def gap : Nat → List CpInfo → List CpInfo
  | 0, r => r
  | n + 1, r => .unusable :: gap n r
def poolList (es : List (Nat × CpInfo)) (last : Nat) : List CpInfo := es.foldr (fun e r => gap e.1 (e.2 :: r)) (gap last [])
def pool (es : List (Nat × CpInfo)) (last : Nat) : Array CpInfo := ⟨poolList es last⟩
def fileOf (pool : Array CpInfo) (this : Nat) (attrs : Array Attribute := #[]) (ms : Array MethodInfo := #[]) (fl : Nat := 33) (sup : Nat := 0) (ifs : Array Nat := #[]) (fds : Array FieldInfo := #[]) : ClassFile where
  minorVersion := 0
  majorVersion := 65
  constantPool := pool
  accessFlags := fl
  thisClass := this
  superClass := sup
  interfaces := ifs
  fields := fds
  methods := ms
  attributes := attrs
def plain (name : String) (sup : Option ClassId) : Class where
  name := name
  kind := .ordinary
  loader := none
  accessFlags := 33
  super := sup
  interfaces := #[]
  cf := none
  fields := #[]
  methods := #[]
  instanceTypes := #[]
  staticTypes := #[]
  resolved := #[]
  callSites := []
  init := .initialized
  statics := none
  mirror := none

def pool0 : Array CpInfo := pool [(5, u "<init>"), (0, u "()V"), (1, .class_ 10), (1, u "java/lang/Object")] 113

def k0c0 : Code := { maxStack := 0, maxLocals := 1, code := object_method_1_code, exceptionTable := #[], attributes := #[] }
def k0m0 : Method := { name := "<init>", desc := "()V", sig := { parameters := [], returnType := none }, accessFlags := 1, code := some k0c0 }
/-- java/lang/Object -/
def k0 : Class := { plain "java/lang/Object" none with
  accessFlags := 33
  interfaces := #[]
  cf := some (fileOf pool0 8 #[] #[{ accessFlags := 1, nameIndex := 5, descriptorIndex := 6, attributes := #[] }] 33 0 #[] #[])
  fields := #[]
  methods := #[k0m0]
  instanceTypes := #[]
  staticTypes := #[]
  resolved := Array.replicate 124 none
  statics := none }

def pool1 : Array CpInfo := pool [(2, .class_ 4), (1, u "java/lang/Object"), (0, u "<init>"), (0, u "()V"), (0, .class_ 8), (0, u "com/example/threadwright/threadwright/schema/Literal$Int"), (0, .methodref 7 10), (0, .nameAndType 5 11), (0, u "(JZ)V"), (0, .class_ 13), (0, u "com/example/threadwright/threadwright/schema/Literal$Bool"), (0, .methodref 12 15), (0, .nameAndType 5 16), (0, u "(Z)V"), (0, .methodref 7 18), (0, .nameAndType 19 20), (0, u "equals"), (0, u "(Ljava/lang/Object;)Z"), (0, .class_ 22), (0, u "com/example/threadwright/threadwright/schema/IntEqualsPinLaw"), (2, u "law"), (0, u "(JJI)Z")] 8

def k1m0 : Method := { name := "<init>", desc := "()V", sig := { parameters := [], returnType := none }, accessFlags := 1, code := none }
def k1c1 : Code := { maxStack := 5, maxLocals := 17, code := code, exceptionTable := #[], attributes := #[] }
def k1m1 : Method := { name := "law", desc := "(JJI)Z", sig := { parameters := [.long, .long, .int], returnType := some .boolean }, accessFlags := 9, code := some k1c1 }
/-- com/example/threadwright/threadwright/schema/IntEqualsPinLaw -/
def k1 : Class := { plain "com/example/threadwright/threadwright/schema/IntEqualsPinLaw" (some 0) with
  accessFlags := 49
  interfaces := #[]
  cf := some (fileOf pool1 21 #[] #[{ accessFlags := 1, nameIndex := 5, descriptorIndex := 6, attributes := #[] }, { accessFlags := 9, nameIndex := 25, descriptorIndex := 26, attributes := #[] }] 49 2 #[] #[])
  fields := #[]
  methods := #[k1m0, k1m1]
  instanceTypes := #[]
  staticTypes := #[]
  resolved := Array.replicate 35 none
  statics := none }

def pool2 : Array CpInfo := pool [(1, .methodref 2 3), (0, .class_ 4), (0, .nameAndType 5 6), (0, u "java/lang/Object"), (0, u "<init>"), (0, u "()V"), (0, .class_ 8), (0, u "java/lang/Record")] 13

def k2c0 : Code := { maxStack := 1, maxLocals := 1, code := jdk_30_method_1_code, exceptionTable := #[], attributes := #[] }
def k2m0 : Method := { name := "<init>", desc := "()V", sig := { parameters := [], returnType := none }, accessFlags := 4, code := some k2c0 }
/-- java/lang/Record -/
def k2 : Class := { plain "java/lang/Record" (some 0) with
  accessFlags := 1057
  interfaces := #[]
  cf := some (fileOf pool2 7 #[] #[{ accessFlags := 4, nameIndex := 5, descriptorIndex := 6, attributes := #[] }] 1057 2 #[] #[])
  fields := #[]
  methods := #[k2m0]
  instanceTypes := #[]
  staticTypes := #[]
  resolved := Array.replicate 22 none
  statics := none }

def pool3 : Array CpInfo := pool [(1, .class_ 2), (0, u "com/example/threadwright/threadwright/schema/Literal$Cast"), (58, .class_ 62), (0, u "com/example/threadwright/threadwright/schema/Literal"), (0, .class_ 64), (0, u "java/lang/Object"), (0, u "MAX_NESTING"), (0, u "I"), (41, .class_ 109), (0, u "com/example/threadwright/threadwright/schema/Literal$Unmade"), (0, .class_ 111), (0, u "com/example/threadwright/threadwright/schema/Literal$Instance"), (0, .class_ 113), (0, u "com/example/threadwright/threadwright/schema/Literal$ListOf"), (0, .class_ 115), (0, u "com/example/threadwright/threadwright/schema/Literal$Null"), (0, .class_ 117), (0, u "com/example/threadwright/threadwright/schema/Literal$Str"), (0, .class_ 119), (0, u "com/example/threadwright/threadwright/schema/Literal$Char"), (0, .class_ 121), (0, u "com/example/threadwright/threadwright/schema/Literal$Bool"), (0, .class_ 123), (0, u "com/example/threadwright/threadwright/schema/Literal$Int")] 29

/-- com/example/threadwright/threadwright/schema/Literal -/
def k3 : Class := { plain "com/example/threadwright/threadwright/schema/Literal" (some 0) with
  accessFlags := 1537
  interfaces := #[]
  cf := some (fileOf pool3 61 #[.nestMembers #[108, 1, 110, 112, 114, 116, 118, 120, 122]] #[] 1537 63 #[] #[{ accessFlags := 25, nameIndex := 65, descriptorIndex := 66, attributes := #[] }])
  fields := #[{ name := "MAX_NESTING", type := .int, accessFlags := 25, slot := 0, constantValue := 0 }]
  methods := #[]
  instanceTypes := #[]
  staticTypes := #[.int]
  resolved := Array.replicate 153 none
  statics := none }

def pool4 : Array CpInfo := pool [(1, .methodref 2 3), (0, .class_ 4), (0, .nameAndType 5 6), (0, u "java/lang/Record"), (0, u "<init>"), (0, u "()V"), (0, .fieldref 8 9), (0, .class_ 10), (0, .nameAndType 11 12), (0, u "com/example/threadwright/threadwright/schema/Literal$Int"), (0, u "value"), (0, u "J"), (0, .fieldref 8 14), (0, .nameAndType 15 16), (0, u "isLong"), (0, u "Z"), (7, .class_ 26), (1, u "com/example/threadwright/threadwright/schema/Literal"), (58, u "(JZ)V"), (17, u "equals"), (0, u "(Ljava/lang/Object;)Z")] 23

def k4c0 : Code := { maxStack := 3, maxLocals := 4, code := prog_80_method_1_code, exceptionTable := #[], attributes := #[] }
def k4m0 : Method := { name := "<init>", desc := "(JZ)V", sig := { parameters := [.long, .boolean], returnType := none }, accessFlags := 1, code := some k4c0 }
def k4c1 : Code := { maxStack := 4, maxLocals := 3, code := prog_80_method_7_code, exceptionTable := #[], attributes := #[] }
def k4m1 : Method := { name := "equals", desc := "(Ljava/lang/Object;)Z", sig := { parameters := [(.object "java/lang/Object")], returnType := some .boolean }, accessFlags := 1, code := some k4c1 }
/-- com/example/threadwright/threadwright/schema/Literal$Int -/
def k4 : Class := { plain "com/example/threadwright/threadwright/schema/Literal$Int" (some 2) with
  accessFlags := 49
  interfaces := #[3]
  cf := some (fileOf pool4 8 #[.nestHost 24] #[{ accessFlags := 1, nameIndex := 5, descriptorIndex := 85, attributes := #[] }, { accessFlags := 1, nameIndex := 103, descriptorIndex := 104, attributes := #[] }] 49 2 #[24] #[{ accessFlags := 18, nameIndex := 11, descriptorIndex := 12, attributes := #[] }, { accessFlags := 18, nameIndex := 15, descriptorIndex := 16, attributes := #[] }])
  fields := #[{ name := "value", type := .long, accessFlags := 18, slot := 0, constantValue := 0 }, { name := "isLong", type := .boolean, accessFlags := 18, slot := 1, constantValue := 0 }]
  methods := #[k4m0, k4m1]
  instanceTypes := #[.long, .boolean]
  staticTypes := #[]
  resolved := Array.replicate 128 none
  statics := none }

def pool5 : Array CpInfo := pool [(1, .methodref 2 3), (0, .class_ 4), (0, .nameAndType 5 6), (0, u "java/lang/Record"), (0, u "<init>"), (0, u "()V"), (0, .fieldref 8 9), (0, .class_ 10), (0, .nameAndType 11 12), (0, u "com/example/threadwright/threadwright/schema/Literal$Bool"), (0, u "value"), (0, u "Z"), (7, .class_ 22), (1, u "com/example/threadwright/threadwright/schema/Literal"), (29, u "(Z)V")] 27

def k5c0 : Code := { maxStack := 2, maxLocals := 2, code := prog_76_method_1_code, exceptionTable := #[], attributes := #[] }
def k5m0 : Method := { name := "<init>", desc := "(Z)V", sig := { parameters := [.boolean], returnType := none }, accessFlags := 1, code := some k5c0 }
/-- com/example/threadwright/threadwright/schema/Literal$Bool -/
def k5 : Class := { plain "com/example/threadwright/threadwright/schema/Literal$Bool" (some 2) with
  accessFlags := 49
  interfaces := #[3]
  cf := some (fileOf pool5 8 #[.nestHost 20] #[{ accessFlags := 1, nameIndex := 5, descriptorIndex := 52, attributes := #[] }] 49 2 #[20] #[{ accessFlags := 18, nameIndex := 11, descriptorIndex := 12, attributes := #[] }])
  fields := #[{ name := "value", type := .boolean, accessFlags := 18, slot := 0, constantValue := 0 }]
  methods := #[k5m0]
  instanceTypes := #[.boolean]
  staticTypes := #[]
  resolved := Array.replicate 80 none
  statics := none }

def pool6 : Array CpInfo := pool [(1, u "java/lang/Cloneable"), (0, .class_ 1), (0, u "java/lang/Object"), (0, .class_ 3)] 3

/-- java/lang/Cloneable -/
def k6 : Class := { plain "java/lang/Cloneable" (some 0) with
  accessFlags := 1537
  interfaces := #[]
  cf := some (fileOf pool6 2 #[] #[] 1537 4 #[] #[])
  fields := #[]
  methods := #[]
  instanceTypes := #[]
  staticTypes := #[]
  resolved := Array.replicate 8 none
  statics := none }

def pool7 : Array CpInfo := pool [(1, u "java/io/Serializable"), (0, .class_ 1), (0, u "java/lang/Object"), (0, .class_ 3)] 3

/-- java/io/Serializable -/
def k7 : Class := { plain "java/io/Serializable" (some 0) with
  accessFlags := 1537
  interfaces := #[]
  cf := some (fileOf pool7 2 #[] #[] 1537 4 #[] #[])
  fields := #[]
  methods := #[]
  instanceTypes := #[]
  staticTypes := #[]
  resolved := Array.replicate 8 none
  statics := none }

/-- the primitive byte -/
def k8 : Class := { plain "byte" none with kind := .primitive 'B', accessFlags := 0x411 }
/-- [B -/
def k9 : Class := { plain "[B" (some 0) with kind := .array 8 .byte, interfaces := #[6, 7], accessFlags := 1041 }

def heap : Heap := #[]
def classes : Array Class := #[k0, k1, k2, k3, k4, k5, k6, k7, k8, k9]
def interned : List (Array UInt16 × Addr) := []
def slotsUsed : Nat := 0
def theMethod : MethodId := ⟨1, 1⟩
def args0 : Array Value := #[.long 5, .long 7, .int 2]
def aboutOver (below : List Frame) : State where
  vm := { classes := classes, interned := interned.toArray }
  heap := heap
  slotsUsed := slotsUsed
  threads := #[{ frames := .invoking theMethod args0 :: below }]
def below0 : List Frame := [.native { method := ⟨0, 0⟩, args := #[] }]
def about1 : State := aboutOver below0
def p0 : Program := .bare "" "" ""
def e0 : Env := launch0.env 0 0 0
theorem w_frames : about1.frames = Frame.invoking theMethod args0 :: below0 := rfl
set_option maxRecDepth 65536 in
theorem w_args : argsFit about1.vm theMethod args0 = true := by decide +kernel
set_option maxRecDepth 65536 in
theorem w_heap : heapFits about1 = true := by decide +kernel
set_option maxRecDepth 65536 in
theorem w_runnable : about1.curStatus? = some .runnable := by decide +kernel
set_option maxRecDepth 65536 in
theorem w_alone : about1.alone = true := by decide +kernel
set_option maxRecDepth 65536 in
theorem w_named : about1.methodNamed? x = some theMethod := by decide +kernel
set_option maxRecDepth 65536 in
theorem w_hears : about1.hears theMethod below0 = true := by decide +kernel
set_option maxRecDepth 65536 in
theorem w_ripe : about1.ripe theMethod args0 below0 = true := by decide +kernel
theorem w_running : about1.status = .running := rfl
set_option maxRecDepth 65536 in
theorem w_room : about1.hasRoom e0.platform room_1 = true :=
  launch0.hasRoom_least _ room_1 (by decide +kernel) (by decide +kernel) (by decide +kernel) (by decide +kernel) (by decide +kernel) (by decide +kernel)
theorem allAtoms_all (ts : List Jvm.Cond) (a : Array Jvm.Value) (st : Jvm.State) : (allAtoms ts).before a st = ts.all (fun c => c.before a st) := by
  induction ts with
  | nil => rfl
  | cons c t ih =>
    show (Jvm.Cond.and c (allAtoms t)).before a st = _
    rw [Jvm.Cond.before_and, ih, List.all_cons]
def words1 : List Jvm.Cond := Jvm.Cond.code x code maxLocals ret :: tables_1
/-- a 'code' word, met by the world's own term for the bytes: nothing is compared byte by byte -/
theorem code_word {y : MethodName} {bytes : ByteArray} {mx : Nat} {rt : Option FieldType} {a : Array Value} {s : State} {m : MethodId} {meth : Method} {c : Code} (h1 : s.methodNamed? y = some m) (h2 : s.vm.method? m = some meth) (h3 : meth.code = some c) (h4 : c.code = bytes)
    (h5 : (c.maxLocals == mx && c.exceptionTable.isEmpty && decide (c.maxStack ≤ mostOperands) && decide (meth.sig.returnType = rt) && !meth.locks && decide (parseMethodDescriptor y.desc = some meth.sig)) = true) : (Jvm.Cond.code y bytes mx rt).before a s = true := by
  simp only [Bool.and_eq_true, beq_iff_eq, Bool.not_eq_true', decide_eq_true_eq] at h5
  obtain ⟨⟨⟨⟨⟨g1, g2⟩, g3⟩, g4⟩, g5⟩, g6⟩ := h5
  simp [Cond.before, Cond.holds, Cond.value, h1, h2, h3, h4, g1, g2, g3, g4, g5, g6]
def isCode : Jvm.Cond → Bool
  | .code _ _ _ _ => true
  | _ => false
theorem all_split {L : List Jvm.Cond} {P : Jvm.Cond → Bool} (h1 : L.all (fun c => isCode c || P c) = true) (h2 : ∀ c ∈ L.filter isCode, P c = true) : L.all P = true := by
  refine List.all_eq_true.mpr fun c hc => ?_
  have h := List.all_eq_true.mp h1 c hc
  rcases Bool.eq_false_or_eq_true (isCode c) with hi | hi
  · exact h2 c (List.mem_filter.mpr ⟨hc, hi⟩)
  · simpa [hi] using h
set_option maxRecDepth 65536 in
theorem w_c0 : (Jvm.Cond.code x code maxLocals ret).before args0 about1 = true := code_word (m := ⟨1, 1⟩) (meth := k1m1) (c := k1c1) (by decide +kernel) rfl rfl rfl (by decide +kernel)
set_option maxRecDepth 65536 in
theorem w_c1 : (Jvm.Cond.code ({ cls := "com/example/threadwright/threadwright/schema/Literal$Int", name := "<init>", desc := "(JZ)V" } : Jvm.MethodName) prog_80_method_1_code (4 : Nat) (Option.none : Option Jvm.ClassFile.FieldType)).before args0 about1 = true := code_word (m := ⟨4, 0⟩) (meth := k4m0) (c := k4c0) (by decide +kernel) rfl rfl rfl (by decide +kernel)
set_option maxRecDepth 65536 in
theorem w_c2 : (Jvm.Cond.code ({ cls := "java/lang/Record", name := "<init>", desc := "()V" } : Jvm.MethodName) jdk_30_method_1_code (1 : Nat) (Option.none : Option Jvm.ClassFile.FieldType)).before args0 about1 = true := code_word (m := ⟨2, 0⟩) (meth := k2m0) (c := k2c0) (by decide +kernel) rfl rfl rfl (by decide +kernel)
set_option maxRecDepth 65536 in
theorem w_c3 : (Jvm.Cond.code ({ cls := "java/lang/Object", name := "<init>", desc := "()V" } : Jvm.MethodName) object_method_1_code (1 : Nat) (Option.none : Option Jvm.ClassFile.FieldType)).before args0 about1 = true := code_word (m := ⟨0, 0⟩) (meth := k0m0) (c := k0c0) (by decide +kernel) rfl rfl rfl (by decide +kernel)
set_option maxRecDepth 65536 in
theorem w_c4 : (Jvm.Cond.code ({ cls := "com/example/threadwright/threadwright/schema/Literal$Int", name := "equals", desc := "(Ljava/lang/Object;)Z" } : Jvm.MethodName) prog_80_method_7_code (3 : Nat) (Option.some Jvm.ClassFile.FieldType.boolean)).before args0 about1 = true := code_word (m := ⟨4, 1⟩) (meth := k4m1) (c := k4c1) (by decide +kernel) rfl rfl rfl (by decide +kernel)
set_option maxRecDepth 65536 in
theorem w_c5 : (Jvm.Cond.code ({ cls := "com/example/threadwright/threadwright/schema/Literal$Bool", name := "<init>", desc := "(Z)V" } : Jvm.MethodName) prog_76_method_1_code (2 : Nat) (Option.none : Option Jvm.ClassFile.FieldType)).before args0 about1 = true := code_word (m := ⟨5, 0⟩) (meth := k5m0) (c := k5c0) (by decide +kernel) rfl rfl rfl (by decide +kernel)
def codes1 : List Jvm.Cond := [Jvm.Cond.code x code maxLocals ret, Jvm.Cond.code ({ cls := "com/example/threadwright/threadwright/schema/Literal$Int", name := "<init>", desc := "(JZ)V" } : Jvm.MethodName) prog_80_method_1_code (4 : Nat) (Option.none : Option Jvm.ClassFile.FieldType), Jvm.Cond.code ({ cls := "java/lang/Record", name := "<init>", desc := "()V" } : Jvm.MethodName) jdk_30_method_1_code (1 : Nat) (Option.none : Option Jvm.ClassFile.FieldType), Jvm.Cond.code ({ cls := "java/lang/Object", name := "<init>", desc := "()V" } : Jvm.MethodName) object_method_1_code (1 : Nat) (Option.none : Option Jvm.ClassFile.FieldType), Jvm.Cond.code ({ cls := "com/example/threadwright/threadwright/schema/Literal$Int", name := "equals", desc := "(Ljava/lang/Object;)Z" } : Jvm.MethodName) prog_80_method_7_code (3 : Nat) (Option.some Jvm.ClassFile.FieldType.boolean), Jvm.Cond.code ({ cls := "com/example/threadwright/threadwright/schema/Literal$Bool", name := "<init>", desc := "(Z)V" } : Jvm.MethodName) prog_76_method_1_code (2 : Nat) (Option.none : Option Jvm.ClassFile.FieldType)]
set_option maxRecDepth 65536 in
theorem codes_eq : words1.filter isCode = codes1 := rfl
theorem w_codes : ∀ c ∈ words1.filter isCode, c.before args0 about1 = true := by
  rw [codes_eq]
  intro c hc
  simp only [codes1, List.mem_cons, List.not_mem_nil, or_false] at hc
  rcases hc with rfl | rfl | rfl | rfl | rfl | rfl
  · exact w_c0
  · exact w_c1
  · exact w_c2
  · exact w_c3
  · exact w_c4
  · exact w_c5
set_option maxRecDepth 65536 in
theorem w_t1 : (words1.take 24).all (fun c => isCode c || c.before args0 about1) = true := by decide +kernel
set_option maxRecDepth 65536 in
theorem w_t2 : (words1.drop 24).all (fun c => isCode c || c.before args0 about1) = true := by decide +kernel
theorem w_tables : (allAtoms (Jvm.Cond.code x code maxLocals ret :: tables_1)).before args0 about1 = true := by
  rw [allAtoms_all]
  show words1.all (fun c => c.before args0 about1) = true
  refine all_split ?_ w_codes
  rw [← List.take_append_drop 24 words1, List.all_append, w_t1, w_t2]
  rfl
set_option maxRecDepth 65536 in
theorem w_case : (Jvm.Cond.and given_1 narrow_1).before args0 about1 = true := by decide +kernel
theorem w_applies : (headSpec (Jvm.Cond.code x code maxLocals ret :: tables_1) room_1).applies x e0.platform about1 = true :=
  (Spec.applies_iff w_frames).mpr ⟨w_running, w_runnable, w_alone, w_named, w_hears, w_ripe, w_room, w_tables⟩
theorem atStart : AtStart classFile x code maxLocals ret World_1 tables_1 room_1 Calls_1 rest_1 Pre_1 launch0 p0 e0 about1 theMethod args0 below0 :=
  ⟨lists_1, trivial, launch0.admits_env _ _ _, launch0.least_env, fairChoices_fair.cas, fairChoices_fair.clock, w_frames, w_args, w_heap, w_applies, trivial, trivial, w_case⟩
end start1
theorem witness_1 : WitnessClaimed_1 := ⟨start1.p0, start1.e0, start1.about1, start1.theMethod, start1.args0, start1.below0, start1.atStart⟩
end Jvm.Pilot.@@N@@
