import JvmDerived
import JvmDerived.Pilot.@@N@@Statement
import JvmDerived.Pilot.@@N@@Code
set_option linter.unusedVariables false
set_option linter.unusedSimpArgs false
namespace Jvm.RoadKit
open Sem ClassFile Op Lib Jvm.Stand Jvm.Free Jvm.LawKit
section New
variable {p : Program} {l : Launch} {e : Env} {R : Room} {s : State} {m : MethodId} {args : Array Value} {below : List Frame} {meth : Method} {c : Code} {T : State} {locs : List Loc} {cells slots : Nat}
theorem retI (X : Stand p l e R s m args below meth c T locs cells slots) (hx : p.tables.exec = Jvm.exec) {pc : Nat} {Ls : Array Slot} {z : Int32} {rest : List Value} (hret : meth.sig.returnType = some .int) (hd : decode c.code pc = .ok (.ireturn, 1)) {fs : List Frame}
    (hl : ∀ (f : JFrame) (acts : List Action), f.method = m → f.locked = none → f.entered = [] → (doReturn e (T.setTop f) acts (some (.int z))).1 = T.setFrames fs) : Steps p.tables e below (T.setTop (mkF m pc Ls (.int z :: rest))) (T.setFrames fs) := by
  have hm' : T.vm.method? m = some meth := X.method'
  have hn : narrow .int (.int z) = .int z := rfl
  show Steps p.tables e below (T.setTop { method := m, pc := pc, locals := Ls, stack := _ :: rest, locked := none }) _
  jvm_step X.here [X.here.top, hx, hd, hm', hret, hn]
  first | (intro acts; rw [hl _ acts rfl rfl rfl]) | rw [hl _ _ rfl rfl rfl]
  exact Steps.refl _
end New
end Jvm.RoadKit
namespace Jvm.Pilot.@@N@@
open Jvm Jvm.ClassFile Sem Op Lib Jvm.Free Jvm.Stand Jvm.LawKit Jvm.RoadKit Bundle Jvm.Pilot.@@N@@.Jvm.D
theorem own_noface {a b : Bool} (h : (a || b) = false) : a = false := by
  cases a
  · rfl
  · cases h
/-- who comes to t from this place of the method comes to t from G -/
abbrev Kt (p : Program) (e : Env) (below : List Frame) (m : MethodId) (G T : State) (pc : Nat) (Ls : Array Slot) (st : List Value) : Prop :=
  ∀ t, Steps p.tables e below (T.setTop (mkF m pc Ls st)) t → Steps p.tables e below G t
/-! plain facts -/
def own_b (P : Prop) [Decidable P] : Int32 := if P then 1 else 0
theorem own_b1 {P : Prop} [Decidable P] (h : P) : (1 : Int32) = own_b P := (if_pos h).symm
theorem own_b0 {P : Prop} [Decidable P] (h : ¬ P) : (0 : Int32) = own_b P := (if_neg h).symm
theorem own_bnz {P : Prop} [Decidable P] (h : P) : ¬ own_b P = 0 := by rw [← own_b1 h]; decide
theorem own_bz {P : Prop} [Decidable P] (h : ¬ P) : own_b P = 0 := (own_b0 h).symm
theorem own_bn {P Q : Prop} [Decidable P] [Decidable Q] (h : P ↔ Q) : own_b P = own_b Q := by
  unfold own_b
  by_cases h1 : P
  · rw [if_pos h1, if_pos (h.mp h1)]
  · rw [if_neg h1, if_neg (fun q => h1 (h.mpr q))]
theorem own_lt {a b : Int32} : a < b ↔ a.toInt < b.toInt := Int32.lt_iff_toInt_lt
theorem own_l2i (x : Int32) : x.toInt64.toInt32 = x := by
  apply Int32.toInt_inj.mp
  have h := c_l2i x.toInt64
  have r := rng32 x
  have q := rng32 x.toInt64.toInt32
  rw [c_i2l] at h
  omega
theorem own_as (a b : Int32) : a + b - b = a := Int32.add_sub_cancel a b
theorem own_0 : (0 : Int32).toInt = 0 := by decide
theorem own_1 : (1 : Int32).toInt = 1 := by decide
theorem own_2 : (2 : Int32).toInt = 2 := by decide
theorem own_3 : (3 : Int32).toInt = 3 := by decide
theorem own_4 : (4 : Int32).toInt = 4 := by decide
theorem own_127 : (127 : Int64).toInt = 127 := by decide
/-- a byte written twice over and read with its mask -/
theorem own_byte {t : Int32} (h0 : 0 ≤ t.toInt) (h1 : t.toInt ≤ 255) : (t.toInt8.toInt32.toInt8.toInt32 &&& (255 : Int32)) = t := by
  apply Int32.toInt_inj.mp
  have a := (c_i2b t).1
  have b := (c_i2b t.toInt8.toInt32).1
  have c := c_mask t.toInt8.toInt32.toInt8.toInt32 255 8 (by decide) (by decide)
  omega
theorem own_m3 (x : Int32) : 0 ≤ (x &&& (3 : Int32)).toInt ∧ (x &&& (3 : Int32)).toInt ≤ 3 := by
  have h := c_mask x 3 2 (by decide) (by decide)
  omega
theorem own_m255 (x : Int32) : 0 ≤ (x &&& (255 : Int32)).toInt ∧ (x &&& (255 : Int32)).toInt ≤ 255 := by
  have h := c_mask x 255 8 (by decide) (by decide)
  omega
theorem own_add {a b : Int32} (ha : 0 ≤ a.toInt) (ha' : a.toInt ≤ 1000) (hb : 0 ≤ b.toInt) (hb' : b.toInt ≤ 1000) : (a + b).toInt = a.toInt + b.toInt := by
  have h := c_iadd a b
  have r := rng32 (a + b)
  omega
theorem own_sub {a b : Int32} (ha : 0 ≤ a.toInt) (ha' : a.toInt ≤ 1000) (hb : 0 ≤ b.toInt) (hb' : b.toInt ≤ 1000) : (a - b).toInt = a.toInt - b.toInt := by
  have h := c_isub a b
  have r := rng32 (a - b)
  omega
theorem own_nat {a : Int32} (h : a.toInt ≤ 8) : a.toNatClampNeg ≤ 8 := by
  have q : a.toNatClampNeg = a.toInt.toNat := rfl
  omega
theorem own_nat3 {a : Int32} (h : a.toInt ≤ 3) : a.toNatClampNeg ≤ 3 := by
  have q : a.toNatClampNeg = a.toInt.toNat := rfl
  omega
theorem own_ll {a b : Int32} (h : a.toInt ≤ b.toInt) : ¬ b.toInt64 < a.toInt64 := by
  rw [Int64.lt_iff_toInt_lt, c_i2l, c_i2l]
  omega
theorem own_l127 {a : Int32} (h : a.toInt ≤ 127) : ¬ (127 : Int64) < a.toInt64 := by
  rw [Int64.lt_iff_toInt_lt, c_i2l, own_127]
  omega
theorem d2_0 : decode prog_16_method_2_code 0 = .ok (.aload_n 0, 1) := by decide +kernel
theorem d2_1 : decode prog_16_method_2_code 1 = .ok (.invokespecial 7, 3) := by decide +kernel
theorem d2_4 : decode prog_16_method_2_code 4 = .ok (.aload_n 0, 1) := by decide +kernel
theorem d2_5 : decode prog_16_method_2_code 5 = .ok (.aload_n 1, 1) := by decide +kernel
theorem d2_6 : decode prog_16_method_2_code 6 = .ok (.putfield 12, 3) := by decide +kernel
theorem d2_9 : decode prog_16_method_2_code 9 = .ok (.aload_n 0, 1) := by decide +kernel
theorem d2_10 : decode prog_16_method_2_code 10 = .ok (.aload_n 2, 1) := by decide +kernel
theorem d2_11 : decode prog_16_method_2_code 11 = .ok (.putfield 16, 3) := by decide +kernel
theorem d2_14 : decode prog_16_method_2_code 14 = .ok (.aload_n 0, 1) := by decide +kernel
theorem d2_15 : decode prog_16_method_2_code 15 = .ok (.iload_n 3, 1) := by decide +kernel
theorem d2_16 : decode prog_16_method_2_code 16 = .ok (.putfield 20, 3) := by decide +kernel
theorem d2_19 : decode prog_16_method_2_code 19 = .ok (.aload_n 0, 1) := by decide +kernel
theorem d2_20 : decode prog_16_method_2_code 20 = .ok (.iload 4, 2) := by decide +kernel
theorem d2_22 : decode prog_16_method_2_code 22 = .ok (.putfield 24, 3) := by decide +kernel
theorem d2_25 : decode prog_16_method_2_code 25 = .ok (.return_, 1) := by decide +kernel
theorem pn2 : plainName "com/example/subscriptor/subscriptor/Der" = true := by first | (simp [plainName, overriddenIn]; done) | decide +kernel
theorem pd_0 : parseMethodDescriptor "()I" = some ⟨[], some .int⟩ := by decide +kernel
theorem pd_1 : parseMethodDescriptor "()V" = some ⟨[], none⟩ := by decide +kernel
theorem pd_2 : parseMethodDescriptor "()Z" = some ⟨[], some .boolean⟩ := by decide +kernel
theorem pd_3 : parseMethodDescriptor "(I)I" = some ⟨[.int], some .int⟩ := by decide +kernel
theorem pd_4 : parseMethodDescriptor "(I)Lcom/example/subscriptor/subscriptor/Der;" = some ⟨[.int], some (.object "com/example/subscriptor/subscriptor/Der")⟩ := by decide +kernel
theorem pd_5 : parseMethodDescriptor "(Ljava/lang/String;[B)V" = some ⟨[(.object "java/lang/String"), (.array .byte)], none⟩ := by decide +kernel
theorem pd_6 : parseMethodDescriptor "(Ljava/lang/String;[BII)V" = some ⟨[(.object "java/lang/String"), (.array .byte), .int, .int], none⟩ := by decide +kernel
theorem ef2 (m : MethodId) (a : Addr) (st : Addr) (b : Addr) (ps : Int32) (en : Int32) : entryFrame m #[(.ref a), (.ref st), (.ref b), (.int ps), (.int en)] 5 = mkF m 0 #[.val (.ref a), .val (.ref st), .val (.ref b), .val (.int ps), .val (.int en)] [] := by first | (simp [entryFrame, mkF, argsToLocals, Value.category]; done) | rfl
def Q2 (Z : State) (a : Addr) (st : Addr) (b : Addr) (ps : Int32) (en : Int32) (h0 : Heap) (n0 : Nat) (v : Option Value) (h : Heap) (L : List Loc) : Prop := v = none ∧ Fr n0 L ∧ Keep h0 h [a] ∧ Fld Z h a "com/example/subscriptor/subscriptor/Der" "what" "Ljava/lang/String;" (.ref st) ∧ Fld Z h a "com/example/subscriptor/subscriptor/Der" "bytes" "[B" (.ref b) ∧ Fld Z h a "com/example/subscriptor/subscriptor/Der" "position" "I" (.int ps) ∧ Fld Z h a "com/example/subscriptor/subscriptor/Der" "end" "I" (.int en)
set_option maxRecDepth 65536 in
set_option maxHeartbeats 40000000 in
theorem rm2 (l : Launch) (Z : State) (a0 : Array Value) (hw : ∀ d ∈ tables_1, d.before a0 Z = true) (ws : List Jvm.Cond) (a : Addr) (st : Addr) (b : Addr) (ps : Int32) (en : Int32) (h0 : Heap) (n0 : Nat) (Z0 : n0 ≤ h0.size) (E_a : Exa Z h0 a "com/example/subscriptor/subscriptor/Der") (F_what : Fld Z h0 a "com/example/subscriptor/subscriptor/Der" "what" "Ljava/lang/String;" .null) (F_bytes : Fld Z h0 a "com/example/subscriptor/subscriptor/Der" "bytes" "[B" .null) (F_position : Fld Z h0 a "com/example/subscriptor/subscriptor/Der" "position" "I" (.int (0 : Int32))) (F_end : Fld Z h0 a "com/example/subscriptor/subscriptor/Der" "end" "I" (.int (0 : Int32))) (g_a : n0 ≤ a) :
    MetFree l (⟨"com/example/subscriptor/subscriptor/Der", "<init>", "(Ljava/lang/String;[BII)V"⟩ : MethodName) (head1 (Jvm.Cond.code (⟨"com/example/subscriptor/subscriptor/Der", "<init>", "(Ljava/lang/String;[BII)V"⟩ : MethodName) prog_16_method_2_code 5 none :: ws) ({ frames := 1, cells := 0, slots := 0, locals := 12 } : Room)) (fun gs' U => gs' = #[(.ref a), (.ref st), (.ref b), (.int ps), (.int en)] ∧ Z.Warmed39 U.vm ∧ U.heap = h0) (fun _ _ _ _ _ => True) (fun _ U o U' => ∃ v L, o = .returned v ∧ Q2 Z a st b ps en h0 n0 v U'.heap L ∧ FrameEnd U o U' L ({ frames := 1, cells := 0, slots := 0, locals := 12 } : Room).cells ({ frames := 1, cells := 0, slots := 0, locals := 12 } : Room).slots) := by
  refine MetFree.of_bodySF (plainFor_of_name pn2) hisR ?_
  intro p e s m args below meth c s₁ Bd hml0 hP hK
  obtain ⟨rfl, hZ, hh⟩ := hP
  have hx := Bd.exec
  have hby := Bd.bytes
  have hml : c.maxLocals = 5 := hml0
  have hown : s.vm.findClass "com/example/subscriptor/subscriptor/Der" = some m.cls := findClass_of_methodNamed Bd.named
  have hnm := (name_of_methodNamed Bd.named Bd.method).1
  have X0 : Stand p l e ({ frames := 1, cells := 0, slots := 0, locals := 12 } : Room) s m #[(.ref a), (.ref st), (.ref b), (.int ps), (.int en)] below meth c s₁ [] 0 0 := Stand.of_body Bd
  have e0 : s₁.heap = h0 := by rw [← hh, Bd.state]; rfl
  have N0 := Fr.nil n0
  have k0 : Kt p e below m (s₁.setTop (entryFrame m #[(.ref a), (.ref st), (.ref b), (.int ps), (.int en)] 5)) s₁ 0 #[.val (.ref a), .val (.ref st), .val (.ref b), .val (.int ps), .val (.int en)] [] := fun t ht => castTop (ef2 m a st b ps en) ht
  have K0 : Keep h0 h0 [a] := Keep.refl _ _
  have k1 : Kt p e below m (s₁.setTop (entryFrame m #[(.ref a), (.ref st), (.ref b), (.int ps), (.int en)] 5)) s₁ 1 #[.val (.ref a), .val (.ref st), .val (.ref b), .val (.int ps), .val (.int en)] [(.ref a)] := by
    intro t ht
    refine k0 t ?_
    show Steps p.tables e below (s₁.setTop (mkF m 0 #[.val (.ref a), .val (.ref st), .val (.ref b), .val (.int ps), .val (.int en)] [])) t
    refine XS.aloadN X0.here hx rfl (hb hby d2_0) rfl rfl ?_
    exact ht
  obtain ⟨T2, X2, e2, st2⟩ := initO X0 hx hZ hown (hw _ (List.mem_of_getElem? (i := 17) rfl)) (hw _ (List.mem_of_getElem? (i := 18) rfl)) (hw _ (List.mem_of_getElem? (i := 19) rfl)) e0 (g := (mkF m 1 #[.val (.ref a), .val (.ref st), .val (.ref b), .val (.int ps), .val (.int en)] [(.ref a)])) rfl (by rw [hml]; rfl) rfl (hb hby d2_1) (by decide) (W := 0) (by show 2 * 0 + _ ≤ _; exact Nat.le_of_eq rfl) (by decide)
  have k2 : Kt p e below m (s₁.setTop (entryFrame m #[(.ref a), (.ref st), (.ref b), (.int ps), (.int en)] 5)) T2 4 #[.val (.ref a), .val (.ref st), .val (.ref b), .val (.int ps), .val (.int en)] [] := fun t ht => k1 t (st2 t ht)
  have k3 : Kt p e below m (s₁.setTop (entryFrame m #[(.ref a), (.ref st), (.ref b), (.int ps), (.int en)] 5)) T2 6 #[.val (.ref a), .val (.ref st), .val (.ref b), .val (.int ps), .val (.int en)] [(.ref st), (.ref a)] := by
    intro t ht
    refine k2 t ?_
    show Steps p.tables e below (T2.setTop (mkF m 4 #[.val (.ref a), .val (.ref st), .val (.ref b), .val (.int ps), .val (.int en)] [])) t
    refine XS.aloadN X2.here hx rfl (hb hby d2_4) rfl rfl ?_
    show Steps p.tables e below (T2.setTop (mkF m 5 #[.val (.ref a), .val (.ref st), .val (.ref b), .val (.int ps), .val (.int en)] [(.ref a)])) t
    refine XS.aloadN X2.here hx rfl (hb hby d2_5) rfl rfl ?_
    exact ht
  obtain ⟨T4, h4, X4, e4, W4, st4⟩ := putF X2 hx hZ hown (host := "") (Or.inl (hw _ (List.mem_of_getElem? (i := 20) rfl))) Via.refl e2 F_what E_a (Or.inr ⟨(hw _ (List.mem_of_getElem? (i := 21) rfl)), rfl, hnm⟩) (hw _ (List.mem_of_getElem? (i := 2) rfl)) (ty := (.object "java/lang/String")) (by decide) rfl rfl (g := (mkF m 6 #[.val (.ref a), .val (.ref st), .val (.ref b), .val (.int ps), .val (.int en)] [(.ref st), (.ref a)])) rfl rfl (hb hby d2_6)
  have N4 := Fr.snoc X4 N0 g_a
  have f5 : n0 ≤ h4.size := Nat.le_trans Z0 (Keep.of_wr W4).1
  have f6 : Exa Z h4 a "com/example/subscriptor/subscriptor/Der" := E_a.wr W4
  have f7 : Fld Z h4 a "com/example/subscriptor/subscriptor/Der" "what" "Ljava/lang/String;" (.ref st) := F_what.same W4
  have f8 : Fld Z h4 a "com/example/subscriptor/subscriptor/Der" "bytes" "[B" .null := F_bytes.other W4 (Or.inr (slot_ne (Or.inr (hw _ (List.mem_of_getElem? (i := 23) rfl))) (Or.inr (hw _ (List.mem_of_getElem? (i := 21) rfl))) (by decide) (t := (.array .byte)) (t' := (.object "java/lang/String")) (by decide) (by decide)))
  have f9 : Fld Z h4 a "com/example/subscriptor/subscriptor/Der" "position" "I" (.int (0 : Int32)) := F_position.other W4 (Or.inr (slot_ne (Or.inl (hw _ (List.mem_of_getElem? (i := 25) rfl))) (Or.inr (hw _ (List.mem_of_getElem? (i := 21) rfl))) (by decide) (t := .int) (t' := (.object "java/lang/String")) (by decide) (by decide)))
  have f10 : Fld Z h4 a "com/example/subscriptor/subscriptor/Der" "end" "I" (.int (0 : Int32)) := F_end.other W4 (Or.inr (slot_ne (Or.inr (hw _ (List.mem_of_getElem? (i := 27) rfl))) (Or.inr (hw _ (List.mem_of_getElem? (i := 21) rfl))) (by decide) (t := .int) (t' := (.object "java/lang/String")) (by decide) (by decide)))
  have f11 : Keep h0 h4 [a] := K0.wr W4 (Or.inl (List.mem_of_getElem? (i := 0) rfl))
  have k4 : Kt p e below m (s₁.setTop (entryFrame m #[(.ref a), (.ref st), (.ref b), (.int ps), (.int en)] 5)) T4 9 #[.val (.ref a), .val (.ref st), .val (.ref b), .val (.int ps), .val (.int en)] [] := fun t ht => k3 t (st4 t ht)
  have k12 : Kt p e below m (s₁.setTop (entryFrame m #[(.ref a), (.ref st), (.ref b), (.int ps), (.int en)] 5)) T4 11 #[.val (.ref a), .val (.ref st), .val (.ref b), .val (.int ps), .val (.int en)] [(.ref b), (.ref a)] := by
    intro t ht
    refine k4 t ?_
    show Steps p.tables e below (T4.setTop (mkF m 9 #[.val (.ref a), .val (.ref st), .val (.ref b), .val (.int ps), .val (.int en)] [])) t
    refine XS.aloadN X4.here hx rfl (hb hby d2_9) rfl rfl ?_
    show Steps p.tables e below (T4.setTop (mkF m 10 #[.val (.ref a), .val (.ref st), .val (.ref b), .val (.int ps), .val (.int en)] [(.ref a)])) t
    refine XS.aloadN X4.here hx rfl (hb hby d2_10) rfl rfl ?_
    exact ht
  obtain ⟨T13, h13, X13, e13, W13, st13⟩ := putF X4 hx hZ hown (host := "") (Or.inl (hw _ (List.mem_of_getElem? (i := 22) rfl))) Via.refl e4 f8 f6 (Or.inr ⟨(hw _ (List.mem_of_getElem? (i := 23) rfl)), rfl, hnm⟩) (hw _ (List.mem_of_getElem? (i := 2) rfl)) (ty := (.array .byte)) (by decide) rfl rfl (g := (mkF m 11 #[.val (.ref a), .val (.ref st), .val (.ref b), .val (.int ps), .val (.int en)] [(.ref b), (.ref a)])) rfl rfl (hb hby d2_11)
  have N13 := Fr.snoc X13 N4 g_a
  have f14 : n0 ≤ h13.size := Nat.le_trans f5 (Keep.of_wr W13).1
  have f15 : Exa Z h13 a "com/example/subscriptor/subscriptor/Der" := f6.wr W13
  have f16 : Fld Z h13 a "com/example/subscriptor/subscriptor/Der" "what" "Ljava/lang/String;" (.ref st) := f7.other W13 (Or.inr (slot_ne (Or.inr (hw _ (List.mem_of_getElem? (i := 21) rfl))) (Or.inr (hw _ (List.mem_of_getElem? (i := 23) rfl))) (by decide) (t := (.object "java/lang/String")) (t' := (.array .byte)) (by decide) (by decide)))
  have f17 : Fld Z h13 a "com/example/subscriptor/subscriptor/Der" "bytes" "[B" (.ref b) := f8.same W13
  have f18 : Fld Z h13 a "com/example/subscriptor/subscriptor/Der" "position" "I" (.int (0 : Int32)) := f9.other W13 (Or.inr (slot_ne (Or.inl (hw _ (List.mem_of_getElem? (i := 25) rfl))) (Or.inr (hw _ (List.mem_of_getElem? (i := 23) rfl))) (by decide) (t := .int) (t' := (.array .byte)) (by decide) (by decide)))
  have f19 : Fld Z h13 a "com/example/subscriptor/subscriptor/Der" "end" "I" (.int (0 : Int32)) := f10.other W13 (Or.inr (slot_ne (Or.inr (hw _ (List.mem_of_getElem? (i := 27) rfl))) (Or.inr (hw _ (List.mem_of_getElem? (i := 23) rfl))) (by decide) (t := .int) (t' := (.array .byte)) (by decide) (by decide)))
  have f20 : Keep h0 h13 [a] := f11.wr W13 (Or.inl (List.mem_of_getElem? (i := 0) rfl))
  have k13 : Kt p e below m (s₁.setTop (entryFrame m #[(.ref a), (.ref st), (.ref b), (.int ps), (.int en)] 5)) T13 14 #[.val (.ref a), .val (.ref st), .val (.ref b), .val (.int ps), .val (.int en)] [] := fun t ht => k12 t (st13 t ht)
  have k21 : Kt p e below m (s₁.setTop (entryFrame m #[(.ref a), (.ref st), (.ref b), (.int ps), (.int en)] 5)) T13 16 #[.val (.ref a), .val (.ref st), .val (.ref b), .val (.int ps), .val (.int en)] [(.int ps), (.ref a)] := by
    intro t ht
    refine k13 t ?_
    show Steps p.tables e below (T13.setTop (mkF m 14 #[.val (.ref a), .val (.ref st), .val (.ref b), .val (.int ps), .val (.int en)] [])) t
    refine XS.aloadN X13.here hx rfl (hb hby d2_14) rfl rfl ?_
    show Steps p.tables e below (T13.setTop (mkF m 15 #[.val (.ref a), .val (.ref st), .val (.ref b), .val (.int ps), .val (.int en)] [(.ref a)])) t
    refine XS.iloadN X13.here hx rfl (hb hby d2_15) rfl ?_
    exact ht
  obtain ⟨T22, h22, X22, e22, W22, st22⟩ := putF X13 hx hZ hown (host := "") (Or.inl (hw _ (List.mem_of_getElem? (i := 24) rfl))) Via.refl e13 f18 f15 (Or.inl (hw _ (List.mem_of_getElem? (i := 25) rfl))) (hw _ (List.mem_of_getElem? (i := 2) rfl)) (ty := .int) (by decide) rfl rfl (g := (mkF m 16 #[.val (.ref a), .val (.ref st), .val (.ref b), .val (.int ps), .val (.int en)] [(.int ps), (.ref a)])) rfl rfl (hb hby d2_16)
  have N22 := Fr.snoc X22 N13 g_a
  have f23 : n0 ≤ h22.size := Nat.le_trans f14 (Keep.of_wr W22).1
  have f24 : Exa Z h22 a "com/example/subscriptor/subscriptor/Der" := f15.wr W22
  have f25 : Fld Z h22 a "com/example/subscriptor/subscriptor/Der" "what" "Ljava/lang/String;" (.ref st) := f16.other W22 (Or.inr (slot_ne (Or.inr (hw _ (List.mem_of_getElem? (i := 21) rfl))) (Or.inl (hw _ (List.mem_of_getElem? (i := 25) rfl))) (by decide) (t := (.object "java/lang/String")) (t' := .int) (by decide) (by decide)))
  have f26 : Fld Z h22 a "com/example/subscriptor/subscriptor/Der" "bytes" "[B" (.ref b) := f17.other W22 (Or.inr (slot_ne (Or.inr (hw _ (List.mem_of_getElem? (i := 23) rfl))) (Or.inl (hw _ (List.mem_of_getElem? (i := 25) rfl))) (by decide) (t := (.array .byte)) (t' := .int) (by decide) (by decide)))
  have f27 : Fld Z h22 a "com/example/subscriptor/subscriptor/Der" "position" "I" (.int ps) := f18.same W22
  have f28 : Fld Z h22 a "com/example/subscriptor/subscriptor/Der" "end" "I" (.int (0 : Int32)) := f19.other W22 (Or.inr (slot_ne (Or.inr (hw _ (List.mem_of_getElem? (i := 27) rfl))) (Or.inl (hw _ (List.mem_of_getElem? (i := 25) rfl))) (by decide) (t := .int) (t' := .int) (by decide) (by decide)))
  have f29 : Keep h0 h22 [a] := f20.wr W22 (Or.inl (List.mem_of_getElem? (i := 0) rfl))
  have k22 : Kt p e below m (s₁.setTop (entryFrame m #[(.ref a), (.ref st), (.ref b), (.int ps), (.int en)] 5)) T22 19 #[.val (.ref a), .val (.ref st), .val (.ref b), .val (.int ps), .val (.int en)] [] := fun t ht => k21 t (st22 t ht)
  have k30 : Kt p e below m (s₁.setTop (entryFrame m #[(.ref a), (.ref st), (.ref b), (.int ps), (.int en)] 5)) T22 22 #[.val (.ref a), .val (.ref st), .val (.ref b), .val (.int ps), .val (.int en)] [(.int en), (.ref a)] := by
    intro t ht
    refine k22 t ?_
    show Steps p.tables e below (T22.setTop (mkF m 19 #[.val (.ref a), .val (.ref st), .val (.ref b), .val (.int ps), .val (.int en)] [])) t
    refine XS.aloadN X22.here hx rfl (hb hby d2_19) rfl rfl ?_
    show Steps p.tables e below (T22.setTop (mkF m 20 #[.val (.ref a), .val (.ref st), .val (.ref b), .val (.int ps), .val (.int en)] [(.ref a)])) t
    refine XS.iload X22.here hx rfl (hb hby d2_20) rfl ?_
    exact ht
  obtain ⟨T31, h31, X31, e31, W31, st31⟩ := putF X22 hx hZ hown (host := "") (Or.inl (hw _ (List.mem_of_getElem? (i := 26) rfl))) Via.refl e22 f28 f24 (Or.inr ⟨(hw _ (List.mem_of_getElem? (i := 27) rfl)), rfl, hnm⟩) (hw _ (List.mem_of_getElem? (i := 2) rfl)) (ty := .int) (by decide) rfl rfl (g := (mkF m 22 #[.val (.ref a), .val (.ref st), .val (.ref b), .val (.int ps), .val (.int en)] [(.int en), (.ref a)])) rfl rfl (hb hby d2_22)
  have N31 := Fr.snoc X31 N22 g_a
  have f32 : n0 ≤ h31.size := Nat.le_trans f23 (Keep.of_wr W31).1
  have f33 : Exa Z h31 a "com/example/subscriptor/subscriptor/Der" := f24.wr W31
  have f34 : Fld Z h31 a "com/example/subscriptor/subscriptor/Der" "what" "Ljava/lang/String;" (.ref st) := f25.other W31 (Or.inr (slot_ne (Or.inr (hw _ (List.mem_of_getElem? (i := 21) rfl))) (Or.inr (hw _ (List.mem_of_getElem? (i := 27) rfl))) (by decide) (t := (.object "java/lang/String")) (t' := .int) (by decide) (by decide)))
  have f35 : Fld Z h31 a "com/example/subscriptor/subscriptor/Der" "bytes" "[B" (.ref b) := f26.other W31 (Or.inr (slot_ne (Or.inr (hw _ (List.mem_of_getElem? (i := 23) rfl))) (Or.inr (hw _ (List.mem_of_getElem? (i := 27) rfl))) (by decide) (t := (.array .byte)) (t' := .int) (by decide) (by decide)))
  have f36 : Fld Z h31 a "com/example/subscriptor/subscriptor/Der" "position" "I" (.int ps) := f27.other W31 (Or.inr (slot_ne (Or.inl (hw _ (List.mem_of_getElem? (i := 25) rfl))) (Or.inr (hw _ (List.mem_of_getElem? (i := 27) rfl))) (by decide) (t := .int) (t' := .int) (by decide) (by decide)))
  have f37 : Fld Z h31 a "com/example/subscriptor/subscriptor/Der" "end" "I" (.int en) := f28.same W31
  have f38 : Keep h0 h31 [a] := f29.wr W31 (Or.inl (List.mem_of_getElem? (i := 0) rfl))
  have k31 : Kt p e below m (s₁.setTop (entryFrame m #[(.ref a), (.ref st), (.ref b), (.int ps), (.int en)] 5)) T31 25 #[.val (.ref a), .val (.ref st), .val (.ref b), .val (.int ps), .val (.int en)] [] := fun t ht => k30 t (st31 t ht)
  obtain ⟨fs, hr, hrun, hended, hW, hsame⟩ := X31.leave (v := none) (fun _ => rfl)
  refine ⟨_, _, k31 _ ?_, hrun, hended, _, _, rfl, ?_, ⟨_, rfl⟩, hW, hsame.mono (by decide) (by decide)⟩
  · exact X31.returnOut hx Bd.returns (hb hby d2_25) hr
  · show Q2 Z a st b ps en h0 n0 _ T31.heap _
    rw [e31]
    exact ⟨rfl, N31, f38, f34, f35, f36, f37⟩
theorem d1_0 : decode prog_16_method_1_code 0 = .ok (.aload_n 0, 1) := by decide +kernel
theorem d1_1 : decode prog_16_method_1_code 1 = .ok (.aload_n 1, 1) := by decide +kernel
theorem d1_2 : decode prog_16_method_1_code 2 = .ok (.aload_n 2, 1) := by decide +kernel
theorem d1_3 : decode prog_16_method_1_code 3 = .ok (.iconst 0, 1) := by decide +kernel
theorem d1_4 : decode prog_16_method_1_code 4 = .ok (.aload_n 2, 1) := by decide +kernel
theorem d1_5 : decode prog_16_method_1_code 5 = .ok (.arraylength, 1) := by decide +kernel
theorem d1_6 : decode prog_16_method_1_code 6 = .ok (.invokespecial 1, 3) := by decide +kernel
theorem d1_9 : decode prog_16_method_1_code 9 = .ok (.return_, 1) := by decide +kernel
theorem pn1 : plainName "com/example/subscriptor/subscriptor/Der" = true := by first | (simp [plainName, overriddenIn]; done) | decide +kernel
theorem ef1 (m : MethodId) (a : Addr) (st : Addr) (b : Addr) : entryFrame m #[(.ref a), (.ref st), (.ref b)] 3 = mkF m 0 #[.val (.ref a), .val (.ref st), .val (.ref b)] [] := by first | (simp [entryFrame, mkF, argsToLocals, Value.category]; done) | rfl
def Q1 (Z : State) (a : Addr) (st : Addr) (b : Addr) (kb : ClassId) (N : Int32) (vs : List Value) (h0 : Heap) (n0 : Nat) (v : Option Value) (h : Heap) (L : List Loc) : Prop := v = none ∧ Fr n0 L ∧ Keep h0 h [a] ∧ Fld Z h a "com/example/subscriptor/subscriptor/Der" "what" "Ljava/lang/String;" (.ref st) ∧ Fld Z h a "com/example/subscriptor/subscriptor/Der" "bytes" "[B" (.ref b) ∧ Fld Z h a "com/example/subscriptor/subscriptor/Der" "position" "I" (.int (0 : Int32)) ∧ Fld Z h a "com/example/subscriptor/subscriptor/Der" "end" "I" (.int N)
set_option maxRecDepth 65536 in
set_option maxHeartbeats 40000000 in
theorem rm1 (l : Launch) (Z : State) (a0 : Array Value) (hw : ∀ d ∈ tables_1, d.before a0 Z = true) (ws : List Jvm.Cond) (a : Addr) (st : Addr) (b : Addr) (kb : ClassId) (N : Int32) (vs : List Value) (h0 : Heap) (n0 : Nat) (Z0 : n0 ≤ h0.size) (E_a : Exa Z h0 a "com/example/subscriptor/subscriptor/Der") (F_what : Fld Z h0 a "com/example/subscriptor/subscriptor/Der" "what" "Ljava/lang/String;" .null) (F_bytes : Fld Z h0 a "com/example/subscriptor/subscriptor/Der" "bytes" "[B" .null) (F_position : Fld Z h0 a "com/example/subscriptor/subscriptor/Der" "position" "I" (.int (0 : Int32))) (F_end : Fld Z h0 a "com/example/subscriptor/subscriptor/Der" "end" "I" (.int (0 : Int32))) (V_b : Arv Z h0 b kb .byte N vs (.int (0 : Int32))) (g_a : n0 ≤ a) :
    MetFree l (⟨"com/example/subscriptor/subscriptor/Der", "<init>", "(Ljava/lang/String;[B)V"⟩ : MethodName) (head1 (Jvm.Cond.code (⟨"com/example/subscriptor/subscriptor/Der", "<init>", "(Ljava/lang/String;[B)V"⟩ : MethodName) prog_16_method_1_code 3 none :: ws) ({ frames := 2, cells := 0, slots := 0, locals := 28 } : Room)) (fun gs' U => gs' = #[(.ref a), (.ref st), (.ref b)] ∧ Z.Warmed39 U.vm ∧ U.heap = h0) (fun _ _ _ _ _ => True) (fun _ U o U' => ∃ v L, o = .returned v ∧ Q1 Z a st b kb N vs h0 n0 v U'.heap L ∧ FrameEnd U o U' L ({ frames := 2, cells := 0, slots := 0, locals := 28 } : Room).cells ({ frames := 2, cells := 0, slots := 0, locals := 28 } : Room).slots) := by
  refine MetFree.of_bodySF (plainFor_of_name pn1) hisR ?_
  intro p e s m args below meth c s₁ Bd hml0 hP hK
  obtain ⟨rfl, hZ, hh⟩ := hP
  have hx := Bd.exec
  have hby := Bd.bytes
  have hml : c.maxLocals = 3 := hml0
  have hown : s.vm.findClass "com/example/subscriptor/subscriptor/Der" = some m.cls := findClass_of_methodNamed Bd.named
  have hnm := (name_of_methodNamed Bd.named Bd.method).1
  have X0 : Stand p l e ({ frames := 2, cells := 0, slots := 0, locals := 28 } : Room) s m #[(.ref a), (.ref st), (.ref b)] below meth c s₁ [] 0 0 := Stand.of_body Bd
  have e0 : s₁.heap = h0 := by rw [← hh, Bd.state]; rfl
  have N0 := Fr.nil n0
  have k0 : Kt p e below m (s₁.setTop (entryFrame m #[(.ref a), (.ref st), (.ref b)] 3)) s₁ 0 #[.val (.ref a), .val (.ref st), .val (.ref b)] [] := fun t ht => castTop (ef1 m a st b) ht
  have k39 : Kt p e below m (s₁.setTop (entryFrame m #[(.ref a), (.ref st), (.ref b)] 3)) s₁ 5 #[.val (.ref a), .val (.ref st), .val (.ref b)] [(.ref b), (.int (0 : Int32)), (.ref b), (.ref st), (.ref a)] := by
    intro t ht
    refine k0 t ?_
    show Steps p.tables e below (s₁.setTop (mkF m 0 #[.val (.ref a), .val (.ref st), .val (.ref b)] [])) t
    refine XS.aloadN X0.here hx rfl (hb hby d1_0) rfl rfl ?_
    show Steps p.tables e below (s₁.setTop (mkF m 1 #[.val (.ref a), .val (.ref st), .val (.ref b)] [(.ref a)])) t
    refine XS.aloadN X0.here hx rfl (hb hby d1_1) rfl rfl ?_
    show Steps p.tables e below (s₁.setTop (mkF m 2 #[.val (.ref a), .val (.ref st), .val (.ref b)] [(.ref st), (.ref a)])) t
    refine XS.aloadN X0.here hx rfl (hb hby d1_2) rfl rfl ?_
    show Steps p.tables e below (s₁.setTop (mkF m 3 #[.val (.ref a), .val (.ref st), .val (.ref b)] [(.ref b), (.ref st), (.ref a)])) t
    refine XS.iconst X0.here hx rfl (hb hby d1_3) ?_
    show Steps p.tables e below (s₁.setTop (mkF m 4 #[.val (.ref a), .val (.ref st), .val (.ref b)] [(.int (0 : Int32)), (.ref b), (.ref st), (.ref a)])) t
    refine XS.aloadN X0.here hx rfl (hb hby d1_4) rfl rfl ?_
    exact ht
  obtain ⟨cl40, Ar40, qc40, Sz40, Nn40, Hh40, Gg40⟩ := id V_b
  have k41 : Kt p e below m (s₁.setTop (entryFrame m #[(.ref a), (.ref st), (.ref b)] 3)) s₁ 6 #[.val (.ref a), .val (.ref st), .val (.ref b)] [(.int N), (.int (0 : Int32)), (.ref b), (.ref st), (.ref a)] := by
    intro t ht
    refine k39 t ?_
    show Steps p.tables e below (s₁.setTop (mkF m 5 #[.val (.ref a), .val (.ref st), .val (.ref b)] [(.ref b), (.int (0 : Int32)), (.ref b), (.ref st), (.ref a)])) t
    refine X0.arraylength hx (by rw [e0]; exact Ar40.1) (State.isArrayOf_alike hZ.alike Ar40.2.1) (g := (mkF m 5 #[.val (.ref a), .val (.ref st), .val (.ref b)] [(.ref b), (.int (0 : Int32)), (.ref b), (.ref st), (.ref a)])) rfl rfl (hb hby d1_5) _ ?_
    rw [len_of Sz40 Nn40]
    exact ht
  obtain ⟨_, _, ⟨T42, L42, c42, n42⟩, -, X42, ⟨Lc42, hQ42, l42, y42, z42⟩, st42⟩ := X0.specialBack hx (y := (⟨"com/example/subscriptor/subscriptor/Der", "<init>", "(Ljava/lang/String;[BII)V"⟩ : MethodName)) rfl hown (mvT hZ (hw _ (List.mem_of_getElem? (i := 14) rfl))) (mvT hZ (hw _ (List.mem_of_getElem? (i := 15) rfl))) (mvT hZ (hw _ (List.mem_of_getElem? (i := 16) rfl))) (by decide) (backOf (W := 0) (rm2 l Z a0 hw [] a st b (0 : Int32) N h0 n0 Z0 E_a F_what F_bytes F_position F_end g_a) hZ (hw _ (List.mem_of_getElem? (i := 16) rfl)) (hw _ (List.mem_of_getElem? (i := 3) rfl)) (by decide) (by decide)) (g := (mkF m 6 #[.val (.ref a), .val (.ref st), .val (.ref b)] [(.int N), (.int (0 : Int32)), (.ref b), (.ref st), (.ref a)])) rfl (by rw [hml]; rfl) (Steps.refl _) (a := a) (argsL := [(.ref st), (.ref b), (.int (0 : Int32)), (.int N)]) (rest := []) (lenOf pd_6 rfl) rfl (by show 2 * 0 + _ ≤ _; exact Nat.le_of_eq rfl) (hb hby d1_6) (fun _ _ => ⟨rfl, e0, (by decide : 0 + 0 ≤ _), (by decide : 0 + 0 ≤ _)⟩)
  dsimp only [Pt.U, Pt.locs, Pt.cells, Pt.slots] at X42 l42 y42 z42 st42 hQ42
  subst l42 y42 z42
  obtain ⟨rfl, Nq42, Kp, Fa, Fb, Fc, Fd⟩ := hQ42
  have N42 := Fr.app N0 Nq42
  have k42 : Kt p e below m (s₁.setTop (entryFrame m #[(.ref a), (.ref st), (.ref b)] 3)) T42 9 #[.val (.ref a), .val (.ref st), .val (.ref b)] [] := fun t ht => k41 t (st42.trans ht)
  obtain ⟨fs, hr, hrun, hended, hW, hsame⟩ := X42.leave (v := none) (fun _ => rfl)
  refine ⟨_, _, k42 _ ?_, hrun, hended, _, _, rfl, ?_, ⟨_, rfl⟩, hW, hsame.mono (by decide) (by decide)⟩
  · exact X42.returnOut hx Bd.returns (hb hby d1_9) hr
  · show Q1 Z a st b kb N vs h0 n0 _ T42.heap _
    exact ⟨rfl, N42, Kp, Fa, Fb, Fc, Fd⟩
theorem d4_0 : decode prog_16_method_3_code 0 = .ok (.aload_n 0, 1) := by decide +kernel
theorem d4_1 : decode prog_16_method_3_code 1 = .ok (.getfield 20, 3) := by decide +kernel
theorem d4_4 : decode prog_16_method_3_code 4 = .ok (.aload_n 0, 1) := by decide +kernel
theorem d4_5 : decode prog_16_method_3_code 5 = .ok (.getfield 24, 3) := by decide +kernel
theorem d4_8 : decode prog_16_method_3_code 8 = .ok (.if_icmp .ge 7, 3) := by decide +kernel
theorem d4_11 : decode prog_16_method_3_code 11 = .ok (.iconst 1, 1) := by decide +kernel
theorem d4_12 : decode prog_16_method_3_code 12 = .ok (.goto 4, 3) := by decide +kernel
theorem d4_15 : decode prog_16_method_3_code 15 = .ok (.iconst 0, 1) := by decide +kernel
theorem d4_16 : decode prog_16_method_3_code 16 = .ok (.ireturn, 1) := by decide +kernel
theorem pn4 : plainName "com/example/subscriptor/subscriptor/Der" = true := by first | (simp [plainName, overriddenIn]; done) | decide +kernel
theorem ef4 (m : MethodId) (a : Addr) : entryFrame m #[(.ref a)] 1 = mkF m 0 #[.val (.ref a)] [] := by first | (simp [entryFrame, mkF, argsToLocals, Value.category]; done) | rfl
def Q4 (Z : State) (a : Addr) (ps : Int32) (en : Int32) (h0 : Heap) (n0 : Nat) (v : Option Value) (h : Heap) (L : List Loc) : Prop := v = some (.int (own_b (ps < en))) ∧ Fr n0 L ∧ h = h0
set_option maxRecDepth 65536 in
set_option maxHeartbeats 40000000 in
theorem rm4 (l : Launch) (Z : State) (a0 : Array Value) (hw : ∀ d ∈ tables_1, d.before a0 Z = true) (ws : List Jvm.Cond) (a : Addr) (ps : Int32) (en : Int32) (h0 : Heap) (n0 : Nat) (Z0 : n0 ≤ h0.size) (F_position : Fld Z h0 a "com/example/subscriptor/subscriptor/Der" "position" "I" (.int ps)) (F_end : Fld Z h0 a "com/example/subscriptor/subscriptor/Der" "end" "I" (.int en)) :
    MetFree l (⟨"com/example/subscriptor/subscriptor/Der", "hasNext", "()Z"⟩ : MethodName) (head1 (Jvm.Cond.code (⟨"com/example/subscriptor/subscriptor/Der", "hasNext", "()Z"⟩ : MethodName) prog_16_method_3_code 1 (some .boolean) :: ws) ({ frames := 0, cells := 0, slots := 0, locals := 0 } : Room)) (fun gs' U => gs' = #[(.ref a)] ∧ Z.Warmed39 U.vm ∧ U.heap = h0) (fun _ _ _ _ _ => True) (fun _ U o U' => ∃ v L, o = .returned v ∧ Q4 Z a ps en h0 n0 v U'.heap L ∧ FrameEnd U o U' L ({ frames := 0, cells := 0, slots := 0, locals := 0 } : Room).cells ({ frames := 0, cells := 0, slots := 0, locals := 0 } : Room).slots) := by
  refine MetFree.of_bodySF (plainFor_of_name pn4) hisR ?_
  intro p e s m args below meth c s₁ Bd hml0 hP hK
  obtain ⟨rfl, hZ, hh⟩ := hP
  have hx := Bd.exec
  have hby := Bd.bytes
  have hml : c.maxLocals = 1 := hml0
  have hown : s.vm.findClass "com/example/subscriptor/subscriptor/Der" = some m.cls := findClass_of_methodNamed Bd.named
  have hnm := (name_of_methodNamed Bd.named Bd.method).1
  have X0 : Stand p l e ({ frames := 0, cells := 0, slots := 0, locals := 0 } : Room) s m #[(.ref a)] below meth c s₁ [] 0 0 := Stand.of_body Bd
  have e0 : s₁.heap = h0 := by rw [← hh, Bd.state]; rfl
  have N0 := Fr.nil n0
  have k0 : Kt p e below m (s₁.setTop (entryFrame m #[(.ref a)] 1)) s₁ 0 #[.val (.ref a)] [] := fun t ht => castTop (ef4 m a) ht
  have k43 : Kt p e below m (s₁.setTop (entryFrame m #[(.ref a)] 1)) s₁ 1 #[.val (.ref a)] [(.ref a)] := by
    intro t ht
    refine k0 t ?_
    show Steps p.tables e below (s₁.setTop (mkF m 0 #[.val (.ref a)] [])) t
    refine XS.aloadN X0.here hx rfl (hb hby d4_0) rfl rfl ?_
    exact ht
  obtain ⟨T44, X44, e44, st44⟩ := getF X0 hx hZ hown (host := "") (Or.inl (hw _ (List.mem_of_getElem? (i := 24) rfl))) Via.refl e0 F_position (g := (mkF m 1 #[.val (.ref a)] [(.ref a)])) rfl rfl (hb hby d4_1)
  have k44 : Kt p e below m (s₁.setTop (entryFrame m #[(.ref a)] 1)) T44 4 #[.val (.ref a)] [(.int ps)] := fun t ht => k43 t (st44 t ht)
  have k45 : Kt p e below m (s₁.setTop (entryFrame m #[(.ref a)] 1)) T44 5 #[.val (.ref a)] [(.ref a), (.int ps)] := by
    intro t ht
    refine k44 t ?_
    show Steps p.tables e below (T44.setTop (mkF m 4 #[.val (.ref a)] [(.int ps)])) t
    refine XS.aloadN X44.here hx rfl (hb hby d4_4) rfl rfl ?_
    exact ht
  obtain ⟨T46, X46, e46, st46⟩ := getF X44 hx hZ hown (host := "") (Or.inl (hw _ (List.mem_of_getElem? (i := 26) rfl))) Via.refl e44 F_end (g := (mkF m 5 #[.val (.ref a)] [(.ref a), (.int ps)])) rfl rfl (hb hby d4_5)
  have k46 : Kt p e below m (s₁.setTop (entryFrame m #[(.ref a)] 1)) T46 8 #[.val (.ref a)] [(.int en), (.int ps)] := fun t ht => k45 t (st46 t ht)
  by_cases h1 : ps < en
  · have k47 : Kt p e below m (s₁.setTop (entryFrame m #[(.ref a)] 1)) T46 16 #[.val (.ref a)] [(.int (1 : Int32))] := by
      intro t ht
      refine k46 t ?_
      show Steps p.tables e below (T46.setTop (mkF m 8 #[.val (.ref a)] [(.int en), (.int ps)])) t
      refine XS.icmpNo X46.here hx rfl (hb hby d4_8) rfl (tlt h1).2.1 ?_
      show Steps p.tables e below (T46.setTop (mkF m 11 #[.val (.ref a)] [])) t
      refine XS.iconst X46.here hx rfl (hb hby d4_11) ?_
      show Steps p.tables e below (T46.setTop (mkF m 12 #[.val (.ref a)] [(.int (1 : Int32))])) t
      refine XS.goto X46.here hx rfl (pc0 := 12) (pc' := 16) rfl (hb hby d4_12) (by decide) (by decide) ?_
      exact ht
    obtain ⟨fs, hr, hrun, hended, hW, hsame⟩ := X46.leave (v := some (.int (1 : Int32))) (fun h => by rw [Bd.returns] at h; cases h)
    refine ⟨_, _, k47 _ ?_, hrun, hended, _, _, rfl, ?_, ⟨_, rfl⟩, hW, hsame.mono (by decide) (by decide)⟩
    · exact retN X46 hx (t := .boolean) Bd.returns (by simp) (hb hby d4_16) hr
    · show Q4 Z a ps en h0 n0 _ T46.heap _
      rw [e46]
      exact ⟨congrArg (fun z => some (Value.int z)) (own_b1 h1), N0, rfl⟩
  · have k48 : Kt p e below m (s₁.setTop (entryFrame m #[(.ref a)] 1)) T46 16 #[.val (.ref a)] [(.int (0 : Int32))] := by
      intro t ht
      refine k46 t ?_
      show Steps p.tables e below (T46.setTop (mkF m 8 #[.val (.ref a)] [(.int en), (.int ps)])) t
      refine XS.icmpYes X46.here hx rfl (pc0 := 8) (pc' := 15) rfl (hb hby d4_8) rfl (flt h1).2.1 (by decide) (by decide) ?_
      show Steps p.tables e below (T46.setTop (mkF m 15 #[.val (.ref a)] [])) t
      refine XS.iconst X46.here hx rfl (hb hby d4_15) ?_
      exact ht
    obtain ⟨fs, hr, hrun, hended, hW, hsame⟩ := X46.leave (v := some (.int (0 : Int32))) (fun h => by rw [Bd.returns] at h; cases h)
    refine ⟨_, _, k48 _ ?_, hrun, hended, _, _, rfl, ?_, ⟨_, rfl⟩, hW, hsame.mono (by decide) (by decide)⟩
    · exact retN X46 hx (t := .boolean) Bd.returns (by simp) (hb hby d4_16) hr
    · show Q4 Z a ps en h0 n0 _ T46.heap _
      rw [e46]
      exact ⟨congrArg (fun z => some (Value.int z)) (own_b0 h1), N0, rfl⟩
theorem dnt0_0 : decode prog_16_method_4_code 0 = .ok (.aload_n 0, 1) := by decide +kernel
theorem dnt0_1 : decode prog_16_method_4_code 1 = .ok (.invokevirtual 27, 3) := by decide +kernel
theorem dnt0_4 : decode prog_16_method_4_code 4 = .ok (.ifCond .ne 10, 3) := by decide +kernel
theorem dnt0_7 : decode prog_16_method_4_code 7 = .ok (.aload_n 0, 1) := by decide +kernel
theorem dnt0_8 : decode prog_16_method_4_code 8 = .ok (.ldc 31, 2) := by decide +kernel
theorem dnt0_10 : decode prog_16_method_4_code 10 = .ok (.invokevirtual 33, 3) := by decide +kernel
theorem dnt0_13 : decode prog_16_method_4_code 13 = .ok (.athrow, 1) := by decide +kernel
theorem dnt0_14 : decode prog_16_method_4_code 14 = .ok (.aload_n 0, 1) := by decide +kernel
theorem dnt0_15 : decode prog_16_method_4_code 15 = .ok (.getfield 16, 3) := by decide +kernel
theorem dnt0_18 : decode prog_16_method_4_code 18 = .ok (.aload_n 0, 1) := by decide +kernel
theorem dnt0_19 : decode prog_16_method_4_code 19 = .ok (.getfield 20, 3) := by decide +kernel
theorem dnt0_22 : decode prog_16_method_4_code 22 = .ok (.baload, 1) := by decide +kernel
theorem dnt0_23 : decode prog_16_method_4_code 23 = .ok (.sipush 255, 3) := by decide +kernel
theorem dnt0_26 : decode prog_16_method_4_code 26 = .ok (.iand, 1) := by decide +kernel
theorem dnt0_27 : decode prog_16_method_4_code 27 = .ok (.ireturn, 1) := by decide +kernel
theorem pnnt0 : plainName "com/example/subscriptor/subscriptor/Der" = true := by first | (simp [plainName, overriddenIn]; done) | decide +kernel
theorem efnt0 (m : MethodId) (a : Addr) : entryFrame m #[(.ref a)] 1 = mkF m 0 #[.val (.ref a)] [] := by first | (simp [entryFrame, mkF, argsToLocals, Value.category]; done) | rfl
def Qnt0 (Z : State) (a : Addr) (st : Addr) (tb : Addr) (kb : ClassId) (N : Int32) (en : Int32) (v0 : Int32) (v1 : Int32) (v2 : Int32) (v3 : Int32) (h0 : Heap) (n0 : Nat) (v : Option Value) (h : Heap) (L : List Loc) : Prop := v = some (.int (v0 &&& (255 : Int32))) ∧ Fr n0 L ∧ h = h0
set_option maxRecDepth 65536 in
set_option maxHeartbeats 40000000 in
theorem rmnt0 (l : Launch) (Z : State) (a0 : Array Value) (hw : ∀ d ∈ tables_1, d.before a0 Z = true) (ws : List Jvm.Cond) (a : Addr) (st : Addr) (tb : Addr) (kb : ClassId) (N : Int32) (en : Int32) (v0 : Int32) (v1 : Int32) (v2 : Int32) (v3 : Int32) (h0 : Heap) (n0 : Nat) (Z0 : n0 ≤ h0.size) (E_a : Exa Z h0 a "com/example/subscriptor/subscriptor/Der") (F_what : Fld Z h0 a "com/example/subscriptor/subscriptor/Der" "what" "Ljava/lang/String;" (.ref st)) (F_bytes : Fld Z h0 a "com/example/subscriptor/subscriptor/Der" "bytes" "[B" (.ref tb)) (F_position : Fld Z h0 a "com/example/subscriptor/subscriptor/Der" "position" "I" (.int (0 : Int32))) (F_end : Fld Z h0 a "com/example/subscriptor/subscriptor/Der" "end" "I" (.int en)) (V_t : Arv Z h0 tb kb .byte N [(.int v0), (.int v1), (.int v2), (.int v3)] (.int (0 : Int32))) (hpe : (0 : Int32) < en) (hpN : (0 : Int32) < N) :
    MetFree l (⟨"com/example/subscriptor/subscriptor/Der", "nextTag", "()I"⟩ : MethodName) (head1 (Jvm.Cond.code (⟨"com/example/subscriptor/subscriptor/Der", "nextTag", "()I"⟩ : MethodName) prog_16_method_4_code 1 (some .int) :: ws) ({ frames := 1, cells := 0, slots := 0, locals := 12 } : Room)) (fun gs' U => gs' = #[(.ref a)] ∧ Z.Warmed39 U.vm ∧ U.heap = h0) (fun _ _ _ _ _ => True) (fun _ U o U' => ∃ v L, o = .returned v ∧ Qnt0 Z a st tb kb N en v0 v1 v2 v3 h0 n0 v U'.heap L ∧ FrameEnd U o U' L ({ frames := 1, cells := 0, slots := 0, locals := 12 } : Room).cells ({ frames := 1, cells := 0, slots := 0, locals := 12 } : Room).slots) := by
  refine MetFree.of_bodySF (plainFor_of_name pnnt0) hisR ?_
  intro p e s m args below meth c s₁ Bd hml0 hP hK
  obtain ⟨rfl, hZ, hh⟩ := hP
  have hx := Bd.exec
  have hby := Bd.bytes
  have hml : c.maxLocals = 1 := hml0
  have hown : s.vm.findClass "com/example/subscriptor/subscriptor/Der" = some m.cls := findClass_of_methodNamed Bd.named
  have hnm := (name_of_methodNamed Bd.named Bd.method).1
  have X0 : Stand p l e ({ frames := 1, cells := 0, slots := 0, locals := 12 } : Room) s m #[(.ref a)] below meth c s₁ [] 0 0 := Stand.of_body Bd
  have e0 : s₁.heap = h0 := by rw [← hh, Bd.state]; rfl
  have N0 := Fr.nil n0
  have k0 : Kt p e below m (s₁.setTop (entryFrame m #[(.ref a)] 1)) s₁ 0 #[.val (.ref a)] [] := fun t ht => castTop (efnt0 m a) ht
  have k49 : Kt p e below m (s₁.setTop (entryFrame m #[(.ref a)] 1)) s₁ 1 #[.val (.ref a)] [(.ref a)] := by
    intro t ht
    refine k0 t ?_
    show Steps p.tables e below (s₁.setTop (mkF m 0 #[.val (.ref a)] [])) t
    refine XS.aloadN X0.here hx rfl (hb hby dnt0_0) rfl rfl ?_
    exact ht
  obtain ⟨cq50, kq50, q50a, q50b, q50c⟩ := isOf hZ e0 E_a
  obtain ⟨_, _, ⟨T50, L50, c50, n50⟩, -, X50, ⟨Lc50, hQ50, l50, y50, z50⟩, st50⟩ := X0.virtualBack hx (y := (⟨"com/example/subscriptor/subscriptor/Der", "hasNext", "()Z"⟩ : MethodName)) (z := (⟨"com/example/subscriptor/subscriptor/Der", "hasNext", "()Z"⟩ : MethodName)) hown (mvT hZ (hw _ (List.mem_of_getElem? (i := 47) rfl))) (mvT hZ (hw _ (List.mem_of_getElem? (i := 29) rfl))) (notFace_of_selects (args := #[]) (mvT hZ (hw _ (List.mem_of_getElem? (i := 31) rfl)))) (mvT hZ (hw _ (List.mem_of_getElem? (i := 31) rfl))) (mvT hZ (hw _ (List.mem_of_getElem? (i := 30) rfl))) (by decide) (backOf (W := 0) (rm4 l Z a0 hw [] a (0 : Int32) en h0 n0 Z0 F_position F_end) hZ (hw _ (List.mem_of_getElem? (i := 32) rfl)) (hw _ (List.mem_of_getElem? (i := 3) rfl)) (by decide) (by decide)) q50a q50c (g := (mkF m 1 #[.val (.ref a)] [(.ref a)])) rfl (by rw [hml]; rfl) (Steps.refl _) (argsL := []) (rest := []) (lenOf pd_2 rfl) rfl (by show 2 * 0 + _ ≤ _; exact Nat.le_of_eq rfl) (hb hby dnt0_1) (fun _ _ => ⟨rfl, e0, (by decide : 0 + 0 ≤ _), (by decide : 0 + 0 ≤ _)⟩)
  dsimp only [Pt.U, Pt.locs, Pt.cells, Pt.slots] at X50 l50 y50 z50 st50 hQ50
  subst l50 y50 z50
  obtain ⟨rfl, Nq50, eq1⟩ := hQ50
  have N50 := Fr.app N0 Nq50
  have k50 : Kt p e below m (s₁.setTop (entryFrame m #[(.ref a)] 1)) T50 4 #[.val (.ref a)] [(.int (own_b ((0 : Int32) < en)))] := fun t ht => k49 t (st50.trans ht)
  have f51 : n0 ≤ T50.heap.size := by rw [eq1]; exact Z0
  have f52 : Exa Z T50.heap a "com/example/subscriptor/subscriptor/Der" := by rw [eq1]; exact E_a
  have f53 : Fld Z T50.heap a "com/example/subscriptor/subscriptor/Der" "what" "Ljava/lang/String;" (.ref st) := by rw [eq1]; exact F_what
  have f54 : Fld Z T50.heap a "com/example/subscriptor/subscriptor/Der" "bytes" "[B" (.ref tb) := by rw [eq1]; exact F_bytes
  have f55 : Fld Z T50.heap a "com/example/subscriptor/subscriptor/Der" "position" "I" (.int (0 : Int32)) := by rw [eq1]; exact F_position
  have f56 : Fld Z T50.heap a "com/example/subscriptor/subscriptor/Der" "end" "I" (.int en) := by rw [eq1]; exact F_end
  have f57 : Arv Z T50.heap tb kb .byte N [(.int v0), (.int v1), (.int v2), (.int v3)] (.int (0 : Int32)) := by rw [eq1]; exact V_t
  have k58 : Kt p e below m (s₁.setTop (entryFrame m #[(.ref a)] 1)) T50 15 #[.val (.ref a)] [(.ref a)] := by
    intro t ht
    refine k50 t ?_
    show Steps p.tables e below (T50.setTop (mkF m 4 #[.val (.ref a)] [(.int (own_b ((0 : Int32) < en)))])) t
    refine XS.ifYes X50.here hx rfl (pc0 := 4) (pc' := 14) rfl (hb hby dnt0_4) rfl ((if0 _ _).trans (feq (own_bnz hpe)).2) (by decide) (by decide) ?_
    show Steps p.tables e below (T50.setTop (mkF m 14 #[.val (.ref a)] [])) t
    refine XS.aloadN X50.here hx rfl (hb hby dnt0_14) rfl rfl ?_
    exact ht
  obtain ⟨T59, X59, e59, st59⟩ := getF X50 hx hZ hown (host := "") (Or.inl (hw _ (List.mem_of_getElem? (i := 22) rfl))) Via.refl rfl f54 (g := (mkF m 15 #[.val (.ref a)] [(.ref a)])) rfl rfl (hb hby dnt0_15)
  have k59 : Kt p e below m (s₁.setTop (entryFrame m #[(.ref a)] 1)) T59 18 #[.val (.ref a)] [(.ref tb)] := fun t ht => k58 t (st59 t ht)
  have k60 : Kt p e below m (s₁.setTop (entryFrame m #[(.ref a)] 1)) T59 19 #[.val (.ref a)] [(.ref a), (.ref tb)] := by
    intro t ht
    refine k59 t ?_
    show Steps p.tables e below (T59.setTop (mkF m 18 #[.val (.ref a)] [(.ref tb)])) t
    refine XS.aloadN X59.here hx rfl (hb hby dnt0_18) rfl rfl ?_
    exact ht
  obtain ⟨T61, X61, e61, st61⟩ := getF X59 hx hZ hown (host := "") (Or.inl (hw _ (List.mem_of_getElem? (i := 24) rfl))) Via.refl e59 f55 (g := (mkF m 19 #[.val (.ref a)] [(.ref a), (.ref tb)])) rfl rfl (hb hby dnt0_19)
  have k61 : Kt p e below m (s₁.setTop (entryFrame m #[(.ref a)] 1)) T61 22 #[.val (.ref a)] [(.int (0 : Int32)), (.ref tb)] := fun t ht => k60 t (st61 t ht)
  obtain ⟨cl62, Ar62, qc62, Sz62, Nn62, Hh62, Gg62⟩ := id f57
  have hin62 : ¬ ((0 : Int32) < 0 ∨ cl62.slots.size ≤ ((0 : Int32)).toNatClampNeg) := inb_of Sz62 ⟨by decide, hpN⟩
  have hat62 : cl62.slots[((0 : Int32)).toNatClampNeg]? = some (.int v0) := Hh62.at hin62 rfl
  have k63 : Kt p e below m (s₁.setTop (entryFrame m #[(.ref a)] 1)) T61 27 #[.val (.ref a)] [(.int (v0 &&& (255 : Int32)))] := by
    intro t ht
    refine k61 t ?_
    show Steps p.tables e below (T61.setTop (mkF m 22 #[.val (.ref a)] [(.int (0 : Int32)), (.ref tb)])) t
    refine X61.baloadBytes hx (j := (0 : Int32)) (v := (.int v0)) (by rw [e61]; exact Ar62.1) (State.isArrayOf_alike hZ.alike Ar62.2.1) Ar62.2.2 hin62 hat62 (g := (mkF m 22 #[.val (.ref a)] [(.int (0 : Int32)), (.ref tb)])) rfl rfl (hb hby dnt0_22) _ ?_
    show Steps p.tables e below (T61.setTop (mkF m 23 #[.val (.ref a)] [(.int v0)])) t
    refine XS.sipush X61.here hx rfl (hb hby dnt0_23) ?_
    show Steps p.tables e below (T61.setTop (mkF m 26 #[.val (.ref a)] [(.int (255 : Int32)), (.int v0)])) t
    refine XS.iand X61.here hx rfl (hb hby dnt0_26) rfl ?_
    exact ht
  obtain ⟨fs, hr, hrun, hended, hW, hsame⟩ := X61.leave (v := some (.int (v0 &&& (255 : Int32)))) (fun h => by rw [Bd.returns] at h; cases h)
  refine ⟨_, _, k63 _ ?_, hrun, hended, _, _, rfl, ?_, ⟨_, rfl⟩, hW, hsame.mono (by decide) (by decide)⟩
  · exact retI X61 hx Bd.returns (hb hby dnt0_27) hr
  · show Qnt0 Z a st tb kb N en v0 v1 v2 v3 h0 n0 _ T61.heap _
    rw [e61]
    exact ⟨rfl, N50, eq1⟩
theorem dhd0_0 : decode prog_16_method_13_code 0 = .ok (.aload_n 0, 1) := by decide +kernel
theorem dhd0_1 : decode prog_16_method_13_code 1 = .ok (.invokevirtual 136, 3) := by decide +kernel
theorem dhd0_4 : decode prog_16_method_13_code 4 = .ok (.istore_n 2, 1) := by decide +kernel
theorem dhd0_5 : decode prog_16_method_13_code 5 = .ok (.iload_n 2, 1) := by decide +kernel
theorem dhd0_6 : decode prog_16_method_13_code 6 = .ok (.iload_n 1, 1) := by decide +kernel
theorem dhd0_7 : decode prog_16_method_13_code 7 = .ok (.if_icmp .eq 31, 3) := by decide +kernel
theorem dhd0_10 : decode prog_16_method_13_code 10 = .ok (.aload_n 0, 1) := by decide +kernel
theorem dhd0_11 : decode prog_16_method_13_code 11 = .ok (.ldc 139, 2) := by decide +kernel
theorem dhd0_13 : decode prog_16_method_13_code 13 = .ok (.iconst 2, 1) := by decide +kernel
theorem dhd0_14 : decode prog_16_method_13_code 14 = .ok (.anewarray 8, 3) := by decide +kernel
theorem dhd0_17 : decode prog_16_method_13_code 17 = .ok (.dup, 1) := by decide +kernel
theorem dhd0_18 : decode prog_16_method_13_code 18 = .ok (.iconst 0, 1) := by decide +kernel
theorem dhd0_19 : decode prog_16_method_13_code 19 = .ok (.iload_n 2, 1) := by decide +kernel
theorem dhd0_20 : decode prog_16_method_13_code 20 = .ok (.invokestatic 141, 3) := by decide +kernel
theorem dhd0_23 : decode prog_16_method_13_code 23 = .ok (.aastore, 1) := by decide +kernel
theorem dhd0_24 : decode prog_16_method_13_code 24 = .ok (.dup, 1) := by decide +kernel
theorem dhd0_25 : decode prog_16_method_13_code 25 = .ok (.iconst 1, 1) := by decide +kernel
theorem dhd0_26 : decode prog_16_method_13_code 26 = .ok (.iload_n 1, 1) := by decide +kernel
theorem dhd0_27 : decode prog_16_method_13_code 27 = .ok (.invokestatic 141, 3) := by decide +kernel
theorem dhd0_30 : decode prog_16_method_13_code 30 = .ok (.aastore, 1) := by decide +kernel
theorem dhd0_31 : decode prog_16_method_13_code 31 = .ok (.invokestatic 144, 3) := by decide +kernel
theorem dhd0_34 : decode prog_16_method_13_code 34 = .ok (.invokevirtual 33, 3) := by decide +kernel
theorem dhd0_37 : decode prog_16_method_13_code 37 = .ok (.athrow, 1) := by decide +kernel
theorem dhd0_38 : decode prog_16_method_13_code 38 = .ok (.aload_n 0, 1) := by decide +kernel
theorem dhd0_39 : decode prog_16_method_13_code 39 = .ok (.getfield 20, 3) := by decide +kernel
theorem dhd0_42 : decode prog_16_method_13_code 42 = .ok (.iconst 1, 1) := by decide +kernel
theorem dhd0_43 : decode prog_16_method_13_code 43 = .ok (.iadd, 1) := by decide +kernel
theorem dhd0_44 : decode prog_16_method_13_code 44 = .ok (.istore_n 3, 1) := by decide +kernel
theorem dhd0_45 : decode prog_16_method_13_code 45 = .ok (.iload_n 3, 1) := by decide +kernel
theorem dhd0_46 : decode prog_16_method_13_code 46 = .ok (.aload_n 0, 1) := by decide +kernel
theorem dhd0_47 : decode prog_16_method_13_code 47 = .ok (.getfield 24, 3) := by decide +kernel
theorem dhd0_50 : decode prog_16_method_13_code 50 = .ok (.if_icmp .lt 10, 3) := by decide +kernel
theorem dhd0_53 : decode prog_16_method_13_code 53 = .ok (.aload_n 0, 1) := by decide +kernel
theorem dhd0_54 : decode prog_16_method_13_code 54 = .ok (.ldc 150, 2) := by decide +kernel
theorem dhd0_56 : decode prog_16_method_13_code 56 = .ok (.invokevirtual 33, 3) := by decide +kernel
theorem dhd0_59 : decode prog_16_method_13_code 59 = .ok (.athrow, 1) := by decide +kernel
theorem dhd0_60 : decode prog_16_method_13_code 60 = .ok (.aload_n 0, 1) := by decide +kernel
theorem dhd0_61 : decode prog_16_method_13_code 61 = .ok (.getfield 16, 3) := by decide +kernel
theorem dhd0_64 : decode prog_16_method_13_code 64 = .ok (.iload_n 3, 1) := by decide +kernel
theorem dhd0_65 : decode prog_16_method_13_code 65 = .ok (.iinc 3 1, 3) := by decide +kernel
theorem dhd0_68 : decode prog_16_method_13_code 68 = .ok (.baload, 1) := by decide +kernel
theorem dhd0_69 : decode prog_16_method_13_code 69 = .ok (.sipush 255, 3) := by decide +kernel
theorem dhd0_72 : decode prog_16_method_13_code 72 = .ok (.iand, 1) := by decide +kernel
theorem dhd0_73 : decode prog_16_method_13_code 73 = .ok (.i2l, 1) := by decide +kernel
theorem dhd0_74 : decode prog_16_method_13_code 74 = .ok (.lstore 4, 2) := by decide +kernel
theorem dhd0_76 : decode prog_16_method_13_code 76 = .ok (.lload 4, 2) := by decide +kernel
theorem dhd0_78 : decode prog_16_method_13_code 78 = .ok (.ldc2_w 152, 3) := by decide +kernel
theorem dhd0_81 : decode prog_16_method_13_code 81 = .ok (.lcmp, 1) := by decide +kernel
theorem dhd0_82 : decode prog_16_method_13_code 82 = .ok (.ifCond .le 81, 3) := by decide +kernel
theorem dhd0_85 : decode prog_16_method_13_code 85 = .ok (.lload 4, 2) := by decide +kernel
theorem dhd0_87 : decode prog_16_method_13_code 87 = .ok (.l2i, 1) := by decide +kernel
theorem dhd0_88 : decode prog_16_method_13_code 88 = .ok (.bipush 127, 2) := by decide +kernel
theorem dhd0_90 : decode prog_16_method_13_code 90 = .ok (.iand, 1) := by decide +kernel
theorem dhd0_91 : decode prog_16_method_13_code 91 = .ok (.istore 6, 2) := by decide +kernel
theorem dhd0_93 : decode prog_16_method_13_code 93 = .ok (.iload 6, 2) := by decide +kernel
theorem dhd0_95 : decode prog_16_method_13_code 95 = .ok (.ifCond .eq 20, 3) := by decide +kernel
theorem dhd0_98 : decode prog_16_method_13_code 98 = .ok (.iload 6, 2) := by decide +kernel
theorem dhd0_100 : decode prog_16_method_13_code 100 = .ok (.iconst 4, 1) := by decide +kernel
theorem dhd0_101 : decode prog_16_method_13_code 101 = .ok (.if_icmp .gt 14, 3) := by decide +kernel
theorem dhd0_104 : decode prog_16_method_13_code 104 = .ok (.aload_n 0, 1) := by decide +kernel
theorem dhd0_105 : decode prog_16_method_13_code 105 = .ok (.getfield 24, 3) := by decide +kernel
theorem dhd0_108 : decode prog_16_method_13_code 108 = .ok (.iload_n 3, 1) := by decide +kernel
theorem dhd0_109 : decode prog_16_method_13_code 109 = .ok (.isub, 1) := by decide +kernel
theorem dhd0_110 : decode prog_16_method_13_code 110 = .ok (.iload 6, 2) := by decide +kernel
theorem dhd0_112 : decode prog_16_method_13_code 112 = .ok (.if_icmp .ge 10, 3) := by decide +kernel
theorem dhd0_115 : decode prog_16_method_13_code 115 = .ok (.aload_n 0, 1) := by decide +kernel
theorem dhd0_116 : decode prog_16_method_13_code 116 = .ok (.ldc 154, 2) := by decide +kernel
theorem dhd0_118 : decode prog_16_method_13_code 118 = .ok (.invokevirtual 33, 3) := by decide +kernel
theorem dhd0_121 : decode prog_16_method_13_code 121 = .ok (.athrow, 1) := by decide +kernel
theorem dhd0_122 : decode prog_16_method_13_code 122 = .ok (.lconst 0, 1) := by decide +kernel
theorem dhd0_123 : decode prog_16_method_13_code 123 = .ok (.lstore 4, 2) := by decide +kernel
theorem dhd0_125 : decode prog_16_method_13_code 125 = .ok (.iconst 0, 1) := by decide +kernel
theorem dhd0_126 : decode prog_16_method_13_code 126 = .ok (.istore 7, 2) := by decide +kernel
theorem dhd0_128 : decode prog_16_method_13_code 128 = .ok (.iload 7, 2) := by decide +kernel
theorem dhd0_130 : decode prog_16_method_13_code 130 = .ok (.iload 6, 2) := by decide +kernel
theorem dhd0_132 : decode prog_16_method_13_code 132 = .ok (.if_icmp .ge 31, 3) := by decide +kernel
theorem dhd0_135 : decode prog_16_method_13_code 135 = .ok (.lload 4, 2) := by decide +kernel
theorem dhd0_137 : decode prog_16_method_13_code 137 = .ok (.bipush 8, 2) := by decide +kernel
theorem dhd0_139 : decode prog_16_method_13_code 139 = .ok (.lshl, 1) := by decide +kernel
theorem dhd0_140 : decode prog_16_method_13_code 140 = .ok (.aload_n 0, 1) := by decide +kernel
theorem dhd0_141 : decode prog_16_method_13_code 141 = .ok (.getfield 16, 3) := by decide +kernel
theorem dhd0_144 : decode prog_16_method_13_code 144 = .ok (.iload_n 3, 1) := by decide +kernel
theorem dhd0_145 : decode prog_16_method_13_code 145 = .ok (.iinc 3 1, 3) := by decide +kernel
theorem dhd0_148 : decode prog_16_method_13_code 148 = .ok (.baload, 1) := by decide +kernel
theorem dhd0_149 : decode prog_16_method_13_code 149 = .ok (.sipush 255, 3) := by decide +kernel
theorem dhd0_152 : decode prog_16_method_13_code 152 = .ok (.iand, 1) := by decide +kernel
theorem dhd0_153 : decode prog_16_method_13_code 153 = .ok (.i2l, 1) := by decide +kernel
theorem dhd0_154 : decode prog_16_method_13_code 154 = .ok (.lor, 1) := by decide +kernel
theorem dhd0_155 : decode prog_16_method_13_code 155 = .ok (.lstore 4, 2) := by decide +kernel
theorem dhd0_157 : decode prog_16_method_13_code 157 = .ok (.iinc 7 1, 3) := by decide +kernel
theorem dhd0_160 : decode prog_16_method_13_code 160 = .ok (.goto (-32), 3) := by decide +kernel
theorem dhd0_163 : decode prog_16_method_13_code 163 = .ok (.lload 4, 2) := by decide +kernel
theorem dhd0_165 : decode prog_16_method_13_code 165 = .ok (.aload_n 0, 1) := by decide +kernel
theorem dhd0_166 : decode prog_16_method_13_code 166 = .ok (.getfield 24, 3) := by decide +kernel
theorem dhd0_169 : decode prog_16_method_13_code 169 = .ok (.iload_n 3, 1) := by decide +kernel
theorem dhd0_170 : decode prog_16_method_13_code 170 = .ok (.isub, 1) := by decide +kernel
theorem dhd0_171 : decode prog_16_method_13_code 171 = .ok (.i2l, 1) := by decide +kernel
theorem dhd0_172 : decode prog_16_method_13_code 172 = .ok (.lcmp, 1) := by decide +kernel
theorem dhd0_173 : decode prog_16_method_13_code 173 = .ok (.ifCond .le 10, 3) := by decide +kernel
theorem dhd0_176 : decode prog_16_method_13_code 176 = .ok (.aload_n 0, 1) := by decide +kernel
theorem dhd0_177 : decode prog_16_method_13_code 177 = .ok (.ldc 156, 2) := by decide +kernel
theorem dhd0_179 : decode prog_16_method_13_code 179 = .ok (.invokevirtual 33, 3) := by decide +kernel
theorem dhd0_182 : decode prog_16_method_13_code 182 = .ok (.athrow, 1) := by decide +kernel
theorem dhd0_183 : decode prog_16_method_13_code 183 = .ok (.aload_n 0, 1) := by decide +kernel
theorem dhd0_184 : decode prog_16_method_13_code 184 = .ok (.iload_n 3, 1) := by decide +kernel
theorem dhd0_185 : decode prog_16_method_13_code 185 = .ok (.putfield 20, 3) := by decide +kernel
theorem dhd0_188 : decode prog_16_method_13_code 188 = .ok (.lload 4, 2) := by decide +kernel
theorem dhd0_190 : decode prog_16_method_13_code 190 = .ok (.l2i, 1) := by decide +kernel
theorem dhd0_191 : decode prog_16_method_13_code 191 = .ok (.ireturn, 1) := by decide +kernel
theorem pnhd0 : plainName "com/example/subscriptor/subscriptor/Der" = true := by first | (simp [plainName, overriddenIn]; done) | decide +kernel
theorem efhd0 (m : MethodId) (a : Addr) (tg : Int32) : entryFrame m #[(.ref a), (.int tg)] 8 = mkF m 0 #[.val (.ref a), .val (.int tg), .unset, .unset, .unset, .unset, .unset, .unset] [] := by first | (simp [entryFrame, mkF, argsToLocals, Value.category]; done) | rfl
def Qhd0 (Z : State) (a : Addr) (st : Addr) (tb : Addr) (kb : ClassId) (N : Int32) (en : Int32) (v0 : Int32) (v1 : Int32) (v2 : Int32) (v3 : Int32) (tg : Int32) (len : Int32) (h0 : Heap) (n0 : Nat) (v : Option Value) (h : Heap) (L : List Loc) : Prop := v = some (.int len) ∧ Fr n0 L ∧ Keep h0 h [a] ∧ Fld Z h a "com/example/subscriptor/subscriptor/Der" "what" "Ljava/lang/String;" (.ref st) ∧ Fld Z h a "com/example/subscriptor/subscriptor/Der" "bytes" "[B" (.ref tb) ∧ Fld Z h a "com/example/subscriptor/subscriptor/Der" "position" "I" (.int (2 : Int32)) ∧ Fld Z h a "com/example/subscriptor/subscriptor/Der" "end" "I" (.int en)
set_option maxRecDepth 65536 in
set_option maxHeartbeats 40000000 in
theorem rmhd0 (l : Launch) (Z : State) (a0 : Array Value) (hw : ∀ d ∈ tables_1, d.before a0 Z = true) (ws : List Jvm.Cond) (a : Addr) (st : Addr) (tb : Addr) (kb : ClassId) (N : Int32) (en : Int32) (v0 : Int32) (v1 : Int32) (v2 : Int32) (v3 : Int32) (tg : Int32) (len : Int32) (h0 : Heap) (n0 : Nat) (Z0 : n0 ≤ h0.size) (E_a : Exa Z h0 a "com/example/subscriptor/subscriptor/Der") (F_what : Fld Z h0 a "com/example/subscriptor/subscriptor/Der" "what" "Ljava/lang/String;" (.ref st)) (F_bytes : Fld Z h0 a "com/example/subscriptor/subscriptor/Der" "bytes" "[B" (.ref tb)) (F_position : Fld Z h0 a "com/example/subscriptor/subscriptor/Der" "position" "I" (.int (0 : Int32))) (F_end : Fld Z h0 a "com/example/subscriptor/subscriptor/Der" "end" "I" (.int en)) (V_t : Arv Z h0 tb kb .byte N [(.int v0), (.int v1), (.int v2), (.int v3)] (.int (0 : Int32))) (ne_a_tb : a ≠ tb) (g_a : n0 ≤ a) (hpe : (0 : Int32) < en) (hpe1 : (1 : Int32) < en) (hpN : (0 : Int32) < N) (hpN1 : (1 : Int32) < N) (htag : (v0 &&& (255 : Int32)) = tg) (hlen : (v1 &&& (255 : Int32)) = len) (h127 : ¬ (127 : Int64) < (len.toInt64)) (hle : ¬ ((en - (2 : Int32)).toInt64) < (len.toInt64)) :
    MetFree l (⟨"com/example/subscriptor/subscriptor/Der", "header", "(I)I"⟩ : MethodName) (head1 (Jvm.Cond.code (⟨"com/example/subscriptor/subscriptor/Der", "header", "(I)I"⟩ : MethodName) prog_16_method_13_code 8 (some .int) :: ws) ({ frames := 2, cells := 0, slots := 0, locals := 24 } : Room)) (fun gs' U => gs' = #[(.ref a), (.int tg)] ∧ Z.Warmed39 U.vm ∧ U.heap = h0) (fun _ _ _ _ _ => True) (fun _ U o U' => ∃ v L, o = .returned v ∧ Qhd0 Z a st tb kb N en v0 v1 v2 v3 tg len h0 n0 v U'.heap L ∧ FrameEnd U o U' L ({ frames := 2, cells := 0, slots := 0, locals := 24 } : Room).cells ({ frames := 2, cells := 0, slots := 0, locals := 24 } : Room).slots) := by
  refine MetFree.of_bodySF (plainFor_of_name pnhd0) hisR ?_
  intro p e s m args below meth c s₁ Bd hml0 hP hK
  obtain ⟨rfl, hZ, hh⟩ := hP
  have hx := Bd.exec
  have hby := Bd.bytes
  have hml : c.maxLocals = 8 := hml0
  have hown : s.vm.findClass "com/example/subscriptor/subscriptor/Der" = some m.cls := findClass_of_methodNamed Bd.named
  have hnm := (name_of_methodNamed Bd.named Bd.method).1
  have X0 : Stand p l e ({ frames := 2, cells := 0, slots := 0, locals := 24 } : Room) s m #[(.ref a), (.int tg)] below meth c s₁ [] 0 0 := Stand.of_body Bd
  have e0 : s₁.heap = h0 := by rw [← hh, Bd.state]; rfl
  have N0 := Fr.nil n0
  have k0 : Kt p e below m (s₁.setTop (entryFrame m #[(.ref a), (.int tg)] 8)) s₁ 0 #[.val (.ref a), .val (.int tg), .unset, .unset, .unset, .unset, .unset, .unset] [] := fun t ht => castTop (efhd0 m a tg) ht
  have K0 : Keep h0 h0 [a] := Keep.refl _ _
  have k64 : Kt p e below m (s₁.setTop (entryFrame m #[(.ref a), (.int tg)] 8)) s₁ 1 #[.val (.ref a), .val (.int tg), .unset, .unset, .unset, .unset, .unset, .unset] [(.ref a)] := by
    intro t ht
    refine k0 t ?_
    show Steps p.tables e below (s₁.setTop (mkF m 0 #[.val (.ref a), .val (.int tg), .unset, .unset, .unset, .unset, .unset, .unset] [])) t
    refine XS.aloadN X0.here hx rfl (hb hby dhd0_0) rfl rfl ?_
    exact ht
  obtain ⟨cq65, kq65, q65a, q65b, q65c⟩ := isOf hZ e0 E_a
  obtain ⟨_, _, ⟨T65, L65, c65, n65⟩, -, X65, ⟨Lc65, hQ65, l65, y65, z65⟩, st65⟩ := X0.virtualBack hx (y := (⟨"com/example/subscriptor/subscriptor/Der", "nextTag", "()I"⟩ : MethodName)) (z := (⟨"com/example/subscriptor/subscriptor/Der", "nextTag", "()I"⟩ : MethodName)) hown (mvT hZ (hw _ (List.mem_of_getElem? (i := 42) rfl))) (mvT hZ (hw _ (List.mem_of_getElem? (i := 43) rfl))) (notFace_of_selects (args := #[]) (mvT hZ (hw _ (List.mem_of_getElem? (i := 45) rfl)))) (mvT hZ (hw _ (List.mem_of_getElem? (i := 45) rfl))) (mvT hZ (hw _ (List.mem_of_getElem? (i := 44) rfl))) (by decide) (backOf (W := 0) (rmnt0 l Z a0 hw [] a st tb kb N en v0 v1 v2 v3 h0 n0 Z0 E_a F_what F_bytes F_position F_end V_t hpe hpN) hZ (hw _ (List.mem_of_getElem? (i := 46) rfl)) (hw _ (List.mem_of_getElem? (i := 3) rfl)) (by decide) (by decide)) q65a q65c (g := (mkF m 1 #[.val (.ref a), .val (.int tg), .unset, .unset, .unset, .unset, .unset, .unset] [(.ref a)])) rfl (by rw [hml]; rfl) (Steps.refl _) (argsL := []) (rest := []) (lenOf pd_0 rfl) rfl (by show 2 * 0 + _ ≤ _; exact Nat.le_of_eq rfl) (hb hby dhd0_1) (fun _ _ => ⟨rfl, e0, (by decide : 0 + 0 ≤ _), (by decide : 0 + 0 ≤ _)⟩)
  dsimp only [Pt.U, Pt.locs, Pt.cells, Pt.slots] at X65 l65 y65 z65 st65 hQ65
  subst l65 y65 z65
  obtain ⟨rfl, Nq65, eq1⟩ := hQ65
  have N65 := Fr.app N0 Nq65
  have k65 : Kt p e below m (s₁.setTop (entryFrame m #[(.ref a), (.int tg)] 8)) T65 4 #[.val (.ref a), .val (.int tg), .unset, .unset, .unset, .unset, .unset, .unset] [(.int (v0 &&& (255 : Int32)))] := fun t ht => k64 t (st65.trans ht)
  have f66 : n0 ≤ T65.heap.size := by rw [eq1]; exact Z0
  have f67 : Exa Z T65.heap a "com/example/subscriptor/subscriptor/Der" := by rw [eq1]; exact E_a
  have f68 : Fld Z T65.heap a "com/example/subscriptor/subscriptor/Der" "what" "Ljava/lang/String;" (.ref st) := by rw [eq1]; exact F_what
  have f69 : Fld Z T65.heap a "com/example/subscriptor/subscriptor/Der" "bytes" "[B" (.ref tb) := by rw [eq1]; exact F_bytes
  have f70 : Fld Z T65.heap a "com/example/subscriptor/subscriptor/Der" "position" "I" (.int (0 : Int32)) := by rw [eq1]; exact F_position
  have f71 : Fld Z T65.heap a "com/example/subscriptor/subscriptor/Der" "end" "I" (.int en) := by rw [eq1]; exact F_end
  have f72 : Arv Z T65.heap tb kb .byte N [(.int v0), (.int v1), (.int v2), (.int v3)] (.int (0 : Int32)) := by rw [eq1]; exact V_t
  have f73 : Keep h0 T65.heap [a] := by rw [eq1]; exact K0
  rw [htag] at k65
  have k74 : Kt p e below m (s₁.setTop (entryFrame m #[(.ref a), (.int tg)] 8)) T65 39 #[.val (.ref a), .val (.int tg), .val (.int tg), .unset, .unset, .unset, .unset, .unset] [(.ref a)] := by
    intro t ht
    refine k65 t ?_
    show Steps p.tables e below (T65.setTop (mkF m 4 #[.val (.ref a), .val (.int tg), .unset, .unset, .unset, .unset, .unset, .unset] [(.int tg)])) t
    refine XS.istoreN X65.here hx rfl (hb hby dhd0_4) rfl (l' := #[.val (.ref a), .val (.int tg), .val (.int tg), .unset, .unset, .unset, .unset, .unset]) rfl ?_
    show Steps p.tables e below (T65.setTop (mkF m 5 #[.val (.ref a), .val (.int tg), .val (.int tg), .unset, .unset, .unset, .unset, .unset] [])) t
    refine XS.iloadN X65.here hx rfl (hb hby dhd0_5) rfl ?_
    show Steps p.tables e below (T65.setTop (mkF m 6 #[.val (.ref a), .val (.int tg), .val (.int tg), .unset, .unset, .unset, .unset, .unset] [(.int tg)])) t
    refine XS.iloadN X65.here hx rfl (hb hby dhd0_6) rfl ?_
    show Steps p.tables e below (T65.setTop (mkF m 7 #[.val (.ref a), .val (.int tg), .val (.int tg), .unset, .unset, .unset, .unset, .unset] [(.int tg), (.int tg)])) t
    refine XS.icmpYes X65.here hx rfl (pc0 := 7) (pc' := 38) rfl (hb hby dhd0_7) rfl (teq rfl).1 (by decide) (by decide) ?_
    show Steps p.tables e below (T65.setTop (mkF m 38 #[.val (.ref a), .val (.int tg), .val (.int tg), .unset, .unset, .unset, .unset, .unset] [])) t
    refine XS.aloadN X65.here hx rfl (hb hby dhd0_38) rfl rfl ?_
    exact ht
  obtain ⟨T75, X75, e75, st75⟩ := getF X65 hx hZ hown (host := "") (Or.inl (hw _ (List.mem_of_getElem? (i := 24) rfl))) Via.refl rfl f70 (g := (mkF m 39 #[.val (.ref a), .val (.int tg), .val (.int tg), .unset, .unset, .unset, .unset, .unset] [(.ref a)])) rfl rfl (hb hby dhd0_39)
  have k75 : Kt p e below m (s₁.setTop (entryFrame m #[(.ref a), (.int tg)] 8)) T75 42 #[.val (.ref a), .val (.int tg), .val (.int tg), .unset, .unset, .unset, .unset, .unset] [(.int (0 : Int32))] := fun t ht => k74 t (st75 t ht)
  have k76 : Kt p e below m (s₁.setTop (entryFrame m #[(.ref a), (.int tg)] 8)) T75 44 #[.val (.ref a), .val (.int tg), .val (.int tg), .unset, .unset, .unset, .unset, .unset] [(.int ((0 : Int32) + (1 : Int32)))] := by
    intro t ht
    refine k75 t ?_
    show Steps p.tables e below (T75.setTop (mkF m 42 #[.val (.ref a), .val (.int tg), .val (.int tg), .unset, .unset, .unset, .unset, .unset] [(.int (0 : Int32))])) t
    refine XS.iconst X75.here hx rfl (hb hby dhd0_42) ?_
    show Steps p.tables e below (T75.setTop (mkF m 43 #[.val (.ref a), .val (.int tg), .val (.int tg), .unset, .unset, .unset, .unset, .unset] [(.int (1 : Int32)), (.int (0 : Int32))])) t
    refine XS.iadd X75.here hx rfl (hb hby dhd0_43) rfl ?_
    exact ht
  have q77 : ((0 : Int32) + (1 : Int32)) = (1 : Int32) := by decide
  rw [q77] at k76
  have k78 : Kt p e below m (s₁.setTop (entryFrame m #[(.ref a), (.int tg)] 8)) T75 47 #[.val (.ref a), .val (.int tg), .val (.int tg), .val (.int (1 : Int32)), .unset, .unset, .unset, .unset] [(.ref a), (.int (1 : Int32))] := by
    intro t ht
    refine k76 t ?_
    show Steps p.tables e below (T75.setTop (mkF m 44 #[.val (.ref a), .val (.int tg), .val (.int tg), .unset, .unset, .unset, .unset, .unset] [(.int (1 : Int32))])) t
    refine XS.istoreN X75.here hx rfl (hb hby dhd0_44) rfl (l' := #[.val (.ref a), .val (.int tg), .val (.int tg), .val (.int (1 : Int32)), .unset, .unset, .unset, .unset]) rfl ?_
    show Steps p.tables e below (T75.setTop (mkF m 45 #[.val (.ref a), .val (.int tg), .val (.int tg), .val (.int (1 : Int32)), .unset, .unset, .unset, .unset] [])) t
    refine XS.iloadN X75.here hx rfl (hb hby dhd0_45) rfl ?_
    show Steps p.tables e below (T75.setTop (mkF m 46 #[.val (.ref a), .val (.int tg), .val (.int tg), .val (.int (1 : Int32)), .unset, .unset, .unset, .unset] [(.int (1 : Int32))])) t
    refine XS.aloadN X75.here hx rfl (hb hby dhd0_46) rfl rfl ?_
    exact ht
  obtain ⟨T79, X79, e79, st79⟩ := getF X75 hx hZ hown (host := "") (Or.inl (hw _ (List.mem_of_getElem? (i := 26) rfl))) Via.refl e75 f71 (g := (mkF m 47 #[.val (.ref a), .val (.int tg), .val (.int tg), .val (.int (1 : Int32)), .unset, .unset, .unset, .unset] [(.ref a), (.int (1 : Int32))])) rfl rfl (hb hby dhd0_47)
  have k79 : Kt p e below m (s₁.setTop (entryFrame m #[(.ref a), (.int tg)] 8)) T79 50 #[.val (.ref a), .val (.int tg), .val (.int tg), .val (.int (1 : Int32)), .unset, .unset, .unset, .unset] [(.int en), (.int (1 : Int32))] := fun t ht => k78 t (st79 t ht)
  have k80 : Kt p e below m (s₁.setTop (entryFrame m #[(.ref a), (.int tg)] 8)) T79 61 #[.val (.ref a), .val (.int tg), .val (.int tg), .val (.int (1 : Int32)), .unset, .unset, .unset, .unset] [(.ref a)] := by
    intro t ht
    refine k79 t ?_
    show Steps p.tables e below (T79.setTop (mkF m 50 #[.val (.ref a), .val (.int tg), .val (.int tg), .val (.int (1 : Int32)), .unset, .unset, .unset, .unset] [(.int en), (.int (1 : Int32))])) t
    refine XS.icmpYes X79.here hx rfl (pc0 := 50) (pc' := 60) rfl (hb hby dhd0_50) rfl (tlt hpe1).1 (by decide) (by decide) ?_
    show Steps p.tables e below (T79.setTop (mkF m 60 #[.val (.ref a), .val (.int tg), .val (.int tg), .val (.int (1 : Int32)), .unset, .unset, .unset, .unset] [])) t
    refine XS.aloadN X79.here hx rfl (hb hby dhd0_60) rfl rfl ?_
    exact ht
  obtain ⟨T81, X81, e81, st81⟩ := getF X79 hx hZ hown (host := "") (Or.inl (hw _ (List.mem_of_getElem? (i := 22) rfl))) Via.refl e79 f69 (g := (mkF m 61 #[.val (.ref a), .val (.int tg), .val (.int tg), .val (.int (1 : Int32)), .unset, .unset, .unset, .unset] [(.ref a)])) rfl rfl (hb hby dhd0_61)
  have k81 : Kt p e below m (s₁.setTop (entryFrame m #[(.ref a), (.int tg)] 8)) T81 64 #[.val (.ref a), .val (.int tg), .val (.int tg), .val (.int (1 : Int32)), .unset, .unset, .unset, .unset] [(.ref tb)] := fun t ht => k80 t (st81 t ht)
  have k82 : Kt p e below m (s₁.setTop (entryFrame m #[(.ref a), (.int tg)] 8)) T81 68 #[.val (.ref a), .val (.int tg), .val (.int tg), .val (.int ((1 : Int32) + (1 : Int32))), .unset, .unset, .unset, .unset] [(.int (1 : Int32)), (.ref tb)] := by
    intro t ht
    refine k81 t ?_
    show Steps p.tables e below (T81.setTop (mkF m 64 #[.val (.ref a), .val (.int tg), .val (.int tg), .val (.int (1 : Int32)), .unset, .unset, .unset, .unset] [(.ref tb)])) t
    refine XS.iloadN X81.here hx rfl (hb hby dhd0_64) rfl ?_
    show Steps p.tables e below (T81.setTop (mkF m 65 #[.val (.ref a), .val (.int tg), .val (.int tg), .val (.int (1 : Int32)), .unset, .unset, .unset, .unset] [(.int (1 : Int32)), (.ref tb)])) t
    refine XS.iinc X81.here hx rfl (hb hby dhd0_65) rfl (l' := #[.val (.ref a), .val (.int tg), .val (.int tg), .val (.int ((1 : Int32) + (1 : Int32))), .unset, .unset, .unset, .unset]) rfl ?_
    exact ht
  have q83 : ((1 : Int32) + (1 : Int32)) = (2 : Int32) := by decide
  rw [q83] at k82
  obtain ⟨cl84, Ar84, qc84, Sz84, Nn84, Hh84, Gg84⟩ := id f72
  have hin84 : ¬ ((1 : Int32) < 0 ∨ cl84.slots.size ≤ ((1 : Int32)).toNatClampNeg) := inb_of Sz84 ⟨by decide, hpN1⟩
  have hat84 : cl84.slots[((1 : Int32)).toNatClampNeg]? = some (.int v1) := Hh84.at hin84 rfl
  have k85 : Kt p e below m (s₁.setTop (entryFrame m #[(.ref a), (.int tg)] 8)) T81 73 #[.val (.ref a), .val (.int tg), .val (.int tg), .val (.int (2 : Int32)), .unset, .unset, .unset, .unset] [(.int (v1 &&& (255 : Int32)))] := by
    intro t ht
    refine k82 t ?_
    show Steps p.tables e below (T81.setTop (mkF m 68 #[.val (.ref a), .val (.int tg), .val (.int tg), .val (.int (2 : Int32)), .unset, .unset, .unset, .unset] [(.int (1 : Int32)), (.ref tb)])) t
    refine X81.baloadBytes hx (j := (1 : Int32)) (v := (.int v1)) (by rw [e81]; exact Ar84.1) (State.isArrayOf_alike hZ.alike Ar84.2.1) Ar84.2.2 hin84 hat84 (g := (mkF m 68 #[.val (.ref a), .val (.int tg), .val (.int tg), .val (.int (2 : Int32)), .unset, .unset, .unset, .unset] [(.int (1 : Int32)), (.ref tb)])) rfl rfl (hb hby dhd0_68) _ ?_
    show Steps p.tables e below (T81.setTop (mkF m 69 #[.val (.ref a), .val (.int tg), .val (.int tg), .val (.int (2 : Int32)), .unset, .unset, .unset, .unset] [(.int v1)])) t
    refine XS.sipush X81.here hx rfl (hb hby dhd0_69) ?_
    show Steps p.tables e below (T81.setTop (mkF m 72 #[.val (.ref a), .val (.int tg), .val (.int tg), .val (.int (2 : Int32)), .unset, .unset, .unset, .unset] [(.int (255 : Int32)), (.int v1)])) t
    refine XS.iand X81.here hx rfl (hb hby dhd0_72) rfl ?_
    exact ht
  rw [hlen] at k85
  have k86 : Kt p e below m (s₁.setTop (entryFrame m #[(.ref a), (.int tg)] 8)) T81 166 #[.val (.ref a), .val (.int tg), .val (.int tg), .val (.int (2 : Int32)), .val (.long (len.toInt64)), .second, .unset, .unset] [(.ref a), (.long (len.toInt64))] := by
    intro t ht
    refine k85 t ?_
    show Steps p.tables e below (T81.setTop (mkF m 73 #[.val (.ref a), .val (.int tg), .val (.int tg), .val (.int (2 : Int32)), .unset, .unset, .unset, .unset] [(.int len)])) t
    refine XS.i2l X81.here hx rfl (hb hby dhd0_73) rfl ?_
    show Steps p.tables e below (T81.setTop (mkF m 74 #[.val (.ref a), .val (.int tg), .val (.int tg), .val (.int (2 : Int32)), .unset, .unset, .unset, .unset] [(.long (len.toInt64))])) t
    refine XS.lstore X81.here hx rfl (hb hby dhd0_74) rfl (l' := #[.val (.ref a), .val (.int tg), .val (.int tg), .val (.int (2 : Int32)), .val (.long (len.toInt64)), .second, .unset, .unset]) rfl ?_
    show Steps p.tables e below (T81.setTop (mkF m 76 #[.val (.ref a), .val (.int tg), .val (.int tg), .val (.int (2 : Int32)), .val (.long (len.toInt64)), .second, .unset, .unset] [])) t
    refine XS.lload X81.here hx rfl (hb hby dhd0_76) rfl ?_
    show Steps p.tables e below (T81.setTop (mkF m 78 #[.val (.ref a), .val (.int tg), .val (.int tg), .val (.int (2 : Int32)), .val (.long (len.toInt64)), .second, .unset, .unset] [(.long (len.toInt64))])) t
    refine X81.ldc2Long hx hown (mvT hZ (hw _ (List.mem_of_getElem? (i := 48) rfl))) (g := (mkF m 78 #[.val (.ref a), .val (.int tg), .val (.int tg), .val (.int (2 : Int32)), .val (.long (len.toInt64)), .second, .unset, .unset] [(.long (len.toInt64))])) rfl (hb hby dhd0_78) _ ?_
    show Steps p.tables e below (T81.setTop (mkF m 81 #[.val (.ref a), .val (.int tg), .val (.int tg), .val (.int (2 : Int32)), .val (.long (len.toInt64)), .second, .unset, .unset] [(.long (127 : Int64)), (.long (len.toInt64))])) t
    refine XS.lcmp X81.here hx rfl (hb hby dhd0_81) rfl ?_
    show Steps p.tables e below (T81.setTop (mkF m 82 #[.val (.ref a), .val (.int tg), .val (.int tg), .val (.int (2 : Int32)), .val (.long (len.toInt64)), .second, .unset, .unset] [(.int (lcmpW (len.toInt64) (127 : Int64)))])) t
    refine XS.ifYes X81.here hx rfl (pc0 := 82) (pc' := 163) rfl (hb hby dhd0_82) rfl ((if0 _ _).trans (flt (mt (lw_gt _ _).mp h127)).2.2.2) (by decide) (by decide) ?_
    show Steps p.tables e below (T81.setTop (mkF m 163 #[.val (.ref a), .val (.int tg), .val (.int tg), .val (.int (2 : Int32)), .val (.long (len.toInt64)), .second, .unset, .unset] [])) t
    refine XS.lload X81.here hx rfl (hb hby dhd0_163) rfl ?_
    show Steps p.tables e below (T81.setTop (mkF m 165 #[.val (.ref a), .val (.int tg), .val (.int tg), .val (.int (2 : Int32)), .val (.long (len.toInt64)), .second, .unset, .unset] [(.long (len.toInt64))])) t
    refine XS.aloadN X81.here hx rfl (hb hby dhd0_165) rfl rfl ?_
    exact ht
  obtain ⟨T87, X87, e87, st87⟩ := getF X81 hx hZ hown (host := "") (Or.inl (hw _ (List.mem_of_getElem? (i := 26) rfl))) Via.refl e81 f71 (g := (mkF m 166 #[.val (.ref a), .val (.int tg), .val (.int tg), .val (.int (2 : Int32)), .val (.long (len.toInt64)), .second, .unset, .unset] [(.ref a), (.long (len.toInt64))])) rfl rfl (hb hby dhd0_166)
  have k87 : Kt p e below m (s₁.setTop (entryFrame m #[(.ref a), (.int tg)] 8)) T87 169 #[.val (.ref a), .val (.int tg), .val (.int tg), .val (.int (2 : Int32)), .val (.long (len.toInt64)), .second, .unset, .unset] [(.int en), (.long (len.toInt64))] := fun t ht => k86 t (st87 t ht)
  have k88 : Kt p e below m (s₁.setTop (entryFrame m #[(.ref a), (.int tg)] 8)) T87 185 #[.val (.ref a), .val (.int tg), .val (.int tg), .val (.int (2 : Int32)), .val (.long (len.toInt64)), .second, .unset, .unset] [(.int (2 : Int32)), (.ref a)] := by
    intro t ht
    refine k87 t ?_
    show Steps p.tables e below (T87.setTop (mkF m 169 #[.val (.ref a), .val (.int tg), .val (.int tg), .val (.int (2 : Int32)), .val (.long (len.toInt64)), .second, .unset, .unset] [(.int en), (.long (len.toInt64))])) t
    refine XS.iloadN X87.here hx rfl (hb hby dhd0_169) rfl ?_
    show Steps p.tables e below (T87.setTop (mkF m 170 #[.val (.ref a), .val (.int tg), .val (.int tg), .val (.int (2 : Int32)), .val (.long (len.toInt64)), .second, .unset, .unset] [(.int (2 : Int32)), (.int en), (.long (len.toInt64))])) t
    refine XS.isub X87.here hx rfl (hb hby dhd0_170) rfl ?_
    show Steps p.tables e below (T87.setTop (mkF m 171 #[.val (.ref a), .val (.int tg), .val (.int tg), .val (.int (2 : Int32)), .val (.long (len.toInt64)), .second, .unset, .unset] [(.int (en - (2 : Int32))), (.long (len.toInt64))])) t
    refine XS.i2l X87.here hx rfl (hb hby dhd0_171) rfl ?_
    show Steps p.tables e below (T87.setTop (mkF m 172 #[.val (.ref a), .val (.int tg), .val (.int tg), .val (.int (2 : Int32)), .val (.long (len.toInt64)), .second, .unset, .unset] [(.long ((en - (2 : Int32)).toInt64)), (.long (len.toInt64))])) t
    refine XS.lcmp X87.here hx rfl (hb hby dhd0_172) rfl ?_
    show Steps p.tables e below (T87.setTop (mkF m 173 #[.val (.ref a), .val (.int tg), .val (.int tg), .val (.int (2 : Int32)), .val (.long (len.toInt64)), .second, .unset, .unset] [(.int (lcmpW (len.toInt64) ((en - (2 : Int32)).toInt64)))])) t
    refine XS.ifYes X87.here hx rfl (pc0 := 173) (pc' := 183) rfl (hb hby dhd0_173) rfl ((if0 _ _).trans (flt (mt (lw_gt _ _).mp hle)).2.2.2) (by decide) (by decide) ?_
    show Steps p.tables e below (T87.setTop (mkF m 183 #[.val (.ref a), .val (.int tg), .val (.int tg), .val (.int (2 : Int32)), .val (.long (len.toInt64)), .second, .unset, .unset] [])) t
    refine XS.aloadN X87.here hx rfl (hb hby dhd0_183) rfl rfl ?_
    show Steps p.tables e below (T87.setTop (mkF m 184 #[.val (.ref a), .val (.int tg), .val (.int tg), .val (.int (2 : Int32)), .val (.long (len.toInt64)), .second, .unset, .unset] [(.ref a)])) t
    refine XS.iloadN X87.here hx rfl (hb hby dhd0_184) rfl ?_
    exact ht
  obtain ⟨T89, h89, X89, e89, W89, st89⟩ := putF X87 hx hZ hown (host := "") (Or.inl (hw _ (List.mem_of_getElem? (i := 24) rfl))) Via.refl e87 f70 f67 (Or.inl (hw _ (List.mem_of_getElem? (i := 25) rfl))) (hw _ (List.mem_of_getElem? (i := 2) rfl)) (ty := .int) (by decide) rfl rfl (g := (mkF m 185 #[.val (.ref a), .val (.int tg), .val (.int tg), .val (.int (2 : Int32)), .val (.long (len.toInt64)), .second, .unset, .unset] [(.int (2 : Int32)), (.ref a)])) rfl rfl (hb hby dhd0_185)
  have N89 := Fr.snoc X89 N65 g_a
  have f90 : n0 ≤ h89.size := Nat.le_trans f66 (Keep.of_wr W89).1
  have f91 : Exa Z h89 a "com/example/subscriptor/subscriptor/Der" := f67.wr W89
  have f92 : Fld Z h89 a "com/example/subscriptor/subscriptor/Der" "what" "Ljava/lang/String;" (.ref st) := f68.other W89 (Or.inr (slot_ne (Or.inr (hw _ (List.mem_of_getElem? (i := 21) rfl))) (Or.inl (hw _ (List.mem_of_getElem? (i := 25) rfl))) (by decide) (t := (.object "java/lang/String")) (t' := .int) (by decide) (by decide)))
  have f93 : Fld Z h89 a "com/example/subscriptor/subscriptor/Der" "bytes" "[B" (.ref tb) := f69.other W89 (Or.inr (slot_ne (Or.inr (hw _ (List.mem_of_getElem? (i := 23) rfl))) (Or.inl (hw _ (List.mem_of_getElem? (i := 25) rfl))) (by decide) (t := (.array .byte)) (t' := .int) (by decide) (by decide)))
  have f94 : Fld Z h89 a "com/example/subscriptor/subscriptor/Der" "position" "I" (.int (2 : Int32)) := f70.same W89
  have f95 : Fld Z h89 a "com/example/subscriptor/subscriptor/Der" "end" "I" (.int en) := f71.other W89 (Or.inr (slot_ne (Or.inr (hw _ (List.mem_of_getElem? (i := 27) rfl))) (Or.inl (hw _ (List.mem_of_getElem? (i := 25) rfl))) (by decide) (t := .int) (t' := .int) (by decide) (by decide)))
  have f96 : Arv Z h89 tb kb .byte N [(.int v0), (.int v1), (.int v2), (.int v3)] (.int (0 : Int32)) := f72.other W89 ne_a_tb.symm
  have f97 : Keep h0 h89 [a] := f73.wr W89 (Or.inl (List.mem_of_getElem? (i := 0) rfl))
  have k89 : Kt p e below m (s₁.setTop (entryFrame m #[(.ref a), (.int tg)] 8)) T89 188 #[.val (.ref a), .val (.int tg), .val (.int tg), .val (.int (2 : Int32)), .val (.long (len.toInt64)), .second, .unset, .unset] [] := fun t ht => k88 t (st89 t ht)
  have k98 : Kt p e below m (s₁.setTop (entryFrame m #[(.ref a), (.int tg)] 8)) T89 191 #[.val (.ref a), .val (.int tg), .val (.int tg), .val (.int (2 : Int32)), .val (.long (len.toInt64)), .second, .unset, .unset] [(.int ((len.toInt64).toInt32))] := by
    intro t ht
    refine k89 t ?_
    show Steps p.tables e below (T89.setTop (mkF m 188 #[.val (.ref a), .val (.int tg), .val (.int tg), .val (.int (2 : Int32)), .val (.long (len.toInt64)), .second, .unset, .unset] [])) t
    refine XS.lload X89.here hx rfl (hb hby dhd0_188) rfl ?_
    show Steps p.tables e below (T89.setTop (mkF m 190 #[.val (.ref a), .val (.int tg), .val (.int tg), .val (.int (2 : Int32)), .val (.long (len.toInt64)), .second, .unset, .unset] [(.long (len.toInt64))])) t
    refine XS.l2i X89.here hx rfl (hb hby dhd0_190) rfl ?_
    exact ht
  rw [own_l2i] at k98
  obtain ⟨fs, hr, hrun, hended, hW, hsame⟩ := X89.leave (v := some (.int len)) (fun h => by rw [Bd.returns] at h; cases h)
  refine ⟨_, _, k98 _ ?_, hrun, hended, _, _, rfl, ?_, ⟨_, rfl⟩, hW, hsame.mono (by decide) (by decide)⟩
  · exact retI X89 hx Bd.returns (hb hby dhd0_191) hr
  · show Qhd0 Z a st tb kb N en v0 v1 v2 v3 tg len h0 n0 _ T89.heap _
    rw [e89]
    exact ⟨rfl, N89, f97, f92, f93, f94, f95⟩
theorem drd0_0 : decode prog_16_method_5_code 0 = .ok (.aload_n 0, 1) := by decide +kernel
theorem drd0_1 : decode prog_16_method_5_code 1 = .ok (.iload_n 1, 1) := by decide +kernel
theorem drd0_2 : decode prog_16_method_5_code 2 = .ok (.invokevirtual 37, 3) := by decide +kernel
theorem drd0_5 : decode prog_16_method_5_code 5 = .ok (.istore_n 2, 1) := by decide +kernel
theorem drd0_6 : decode prog_16_method_5_code 6 = .ok (.aload_n 0, 1) := by decide +kernel
theorem drd0_7 : decode prog_16_method_5_code 7 = .ok (.dup, 1) := by decide +kernel
theorem drd0_8 : decode prog_16_method_5_code 8 = .ok (.getfield 20, 3) := by decide +kernel
theorem drd0_11 : decode prog_16_method_5_code 11 = .ok (.iload_n 2, 1) := by decide +kernel
theorem drd0_12 : decode prog_16_method_5_code 12 = .ok (.iadd, 1) := by decide +kernel
theorem drd0_13 : decode prog_16_method_5_code 13 = .ok (.putfield 20, 3) := by decide +kernel
theorem drd0_16 : decode prog_16_method_5_code 16 = .ok (.new 2, 3) := by decide +kernel
theorem drd0_19 : decode prog_16_method_5_code 19 = .ok (.dup, 1) := by decide +kernel
theorem drd0_20 : decode prog_16_method_5_code 20 = .ok (.aload_n 0, 1) := by decide +kernel
theorem drd0_21 : decode prog_16_method_5_code 21 = .ok (.getfield 12, 3) := by decide +kernel
theorem drd0_24 : decode prog_16_method_5_code 24 = .ok (.aload_n 0, 1) := by decide +kernel
theorem drd0_25 : decode prog_16_method_5_code 25 = .ok (.getfield 16, 3) := by decide +kernel
theorem drd0_28 : decode prog_16_method_5_code 28 = .ok (.aload_n 0, 1) := by decide +kernel
theorem drd0_29 : decode prog_16_method_5_code 29 = .ok (.getfield 20, 3) := by decide +kernel
theorem drd0_32 : decode prog_16_method_5_code 32 = .ok (.iload_n 2, 1) := by decide +kernel
theorem drd0_33 : decode prog_16_method_5_code 33 = .ok (.isub, 1) := by decide +kernel
theorem drd0_34 : decode prog_16_method_5_code 34 = .ok (.aload_n 0, 1) := by decide +kernel
theorem drd0_35 : decode prog_16_method_5_code 35 = .ok (.getfield 20, 3) := by decide +kernel
theorem drd0_38 : decode prog_16_method_5_code 38 = .ok (.invokespecial 1, 3) := by decide +kernel
theorem drd0_41 : decode prog_16_method_5_code 41 = .ok (.areturn, 1) := by decide +kernel
theorem pnrd0 : plainName "com/example/subscriptor/subscriptor/Der" = true := by first | (simp [plainName, overriddenIn]; done) | decide +kernel
theorem efrd0 (m : MethodId) (a : Addr) (tg : Int32) : entryFrame m #[(.ref a), (.int tg)] 3 = mkF m 0 #[.val (.ref a), .val (.int tg), .unset] [] := by first | (simp [entryFrame, mkF, argsToLocals, Value.category]; done) | rfl
def Qrd0 (Z : State) (a : Addr) (st : Addr) (tb : Addr) (kb : ClassId) (N : Int32) (en : Int32) (v0 : Int32) (v1 : Int32) (v2 : Int32) (v3 : Int32) (tg : Int32) (len : Int32) (h0 : Heap) (n0 : Nat) (v : Option Value) (h : Heap) (L : List Loc) : Prop := ∃ r, v = some (.ref r) ∧ Fr n0 L ∧ Keep h0 h [a] ∧ h0.size ≤ r ∧ Exa Z h r "com/example/subscriptor/subscriptor/Der" ∧ Fld Z h a "com/example/subscriptor/subscriptor/Der" "what" "Ljava/lang/String;" (.ref st) ∧ Fld Z h a "com/example/subscriptor/subscriptor/Der" "bytes" "[B" (.ref tb) ∧ Fld Z h a "com/example/subscriptor/subscriptor/Der" "position" "I" (.int ((2 : Int32) + len)) ∧ Fld Z h a "com/example/subscriptor/subscriptor/Der" "end" "I" (.int en) ∧ Fld Z h r "com/example/subscriptor/subscriptor/Der" "what" "Ljava/lang/String;" (.ref st) ∧ Fld Z h r "com/example/subscriptor/subscriptor/Der" "bytes" "[B" (.ref tb) ∧ Fld Z h r "com/example/subscriptor/subscriptor/Der" "position" "I" (.int (2 : Int32)) ∧ Fld Z h r "com/example/subscriptor/subscriptor/Der" "end" "I" (.int ((2 : Int32) + len))
set_option maxRecDepth 65536 in
set_option maxHeartbeats 40000000 in
theorem rmrd0 (l : Launch) (Z : State) (a0 : Array Value) (hw : ∀ d ∈ tables_1, d.before a0 Z = true) (ws : List Jvm.Cond) (a : Addr) (st : Addr) (tb : Addr) (kb : ClassId) (N : Int32) (en : Int32) (v0 : Int32) (v1 : Int32) (v2 : Int32) (v3 : Int32) (tg : Int32) (len : Int32) (h0 : Heap) (n0 : Nat) (Z0 : n0 ≤ h0.size) (E_a : Exa Z h0 a "com/example/subscriptor/subscriptor/Der") (F_what : Fld Z h0 a "com/example/subscriptor/subscriptor/Der" "what" "Ljava/lang/String;" (.ref st)) (F_bytes : Fld Z h0 a "com/example/subscriptor/subscriptor/Der" "bytes" "[B" (.ref tb)) (F_position : Fld Z h0 a "com/example/subscriptor/subscriptor/Der" "position" "I" (.int (0 : Int32))) (F_end : Fld Z h0 a "com/example/subscriptor/subscriptor/Der" "end" "I" (.int en)) (V_t : Arv Z h0 tb kb .byte N [(.int v0), (.int v1), (.int v2), (.int v3)] (.int (0 : Int32))) (ne_a_tb : a ≠ tb) (g_a : n0 ≤ a) (hpe : (0 : Int32) < en) (hpe1 : (1 : Int32) < en) (hpN : (0 : Int32) < N) (hpN1 : (1 : Int32) < N) (htag : (v0 &&& (255 : Int32)) = tg) (hlen : (v1 &&& (255 : Int32)) = len) (h127 : ¬ (127 : Int64) < (len.toInt64)) (hle : ¬ ((en - (2 : Int32)).toInt64) < (len.toInt64)) :
    MetFree l (⟨"com/example/subscriptor/subscriptor/Der", "read", "(I)Lcom/example/subscriptor/subscriptor/Der;"⟩ : MethodName) (head1 (Jvm.Cond.code (⟨"com/example/subscriptor/subscriptor/Der", "read", "(I)Lcom/example/subscriptor/subscriptor/Der;"⟩ : MethodName) prog_16_method_5_code 3 (some (.object "com/example/subscriptor/subscriptor/Der")) :: ws) ({ frames := 3, cells := 1, slots := 4, locals := 43 } : Room)) (fun gs' U => gs' = #[(.ref a), (.int tg)] ∧ Z.Warmed39 U.vm ∧ U.heap = h0) (fun _ _ _ _ _ => True) (fun _ U o U' => ∃ v L, o = .returned v ∧ Qrd0 Z a st tb kb N en v0 v1 v2 v3 tg len h0 n0 v U'.heap L ∧ FrameEnd U o U' L ({ frames := 3, cells := 1, slots := 4, locals := 43 } : Room).cells ({ frames := 3, cells := 1, slots := 4, locals := 43 } : Room).slots) := by
  refine MetFree.of_bodySF (plainFor_of_name pnrd0) hisR ?_
  intro p e s m args below meth c s₁ Bd hml0 hP hK
  obtain ⟨rfl, hZ, hh⟩ := hP
  have hx := Bd.exec
  have hby := Bd.bytes
  have hml : c.maxLocals = 3 := hml0
  have hown : s.vm.findClass "com/example/subscriptor/subscriptor/Der" = some m.cls := findClass_of_methodNamed Bd.named
  have hnm := (name_of_methodNamed Bd.named Bd.method).1
  have X0 : Stand p l e ({ frames := 3, cells := 1, slots := 4, locals := 43 } : Room) s m #[(.ref a), (.int tg)] below meth c s₁ [] 0 0 := Stand.of_body Bd
  have e0 : s₁.heap = h0 := by rw [← hh, Bd.state]; rfl
  have N0 := Fr.nil n0
  have k0 : Kt p e below m (s₁.setTop (entryFrame m #[(.ref a), (.int tg)] 3)) s₁ 0 #[.val (.ref a), .val (.int tg), .unset] [] := fun t ht => castTop (efrd0 m a tg) ht
  have K0 : Keep h0 h0 [a] := Keep.refl _ _
  have k99 : Kt p e below m (s₁.setTop (entryFrame m #[(.ref a), (.int tg)] 3)) s₁ 2 #[.val (.ref a), .val (.int tg), .unset] [(.int tg), (.ref a)] := by
    intro t ht
    refine k0 t ?_
    show Steps p.tables e below (s₁.setTop (mkF m 0 #[.val (.ref a), .val (.int tg), .unset] [])) t
    refine XS.aloadN X0.here hx rfl (hb hby drd0_0) rfl rfl ?_
    show Steps p.tables e below (s₁.setTop (mkF m 1 #[.val (.ref a), .val (.int tg), .unset] [(.ref a)])) t
    refine XS.iloadN X0.here hx rfl (hb hby drd0_1) rfl ?_
    exact ht
  obtain ⟨cq100, q100, q100'⟩ := E_a.cell
  obtain ⟨ci100, ki100, wi100, wj100, -, wk100, -⟩ := Cond.instantiable_spec (mvT hZ (hw _ (List.mem_of_getElem? (i := 2) rfl)) (args := #[]))
  have hsl100 := selects_self_of_private (y := (⟨"com/example/subscriptor/subscriptor/Der", "header", "(I)I"⟩ : MethodName)) wi100 wj100 (own_noface wk100) (Cond.privateMethod_at (mvP hZ (hw _ (List.mem_of_getElem? (i := 40) rfl)) (args := #[]))) (mvT hZ (hw _ (List.mem_of_getElem? (i := 39) rfl)) (args := #[(.ref a), (.int tg)])) (by decide)
  obtain ⟨_, _, ⟨T100, L100, c100, n100⟩, -, X100, ⟨Lc100, hQ100, l100, y100, z100⟩, st100⟩ := X0.privateBack hx (y := (⟨"com/example/subscriptor/subscriptor/Der", "header", "(I)I"⟩ : MethodName)) hown (mvT hZ (hw _ (List.mem_of_getElem? (i := 38) rfl))) (mvT hZ (hw _ (List.mem_of_getElem? (i := 39) rfl))) hsl100 (Cond.privateMethod_at (mvP hZ (hw _ (List.mem_of_getElem? (i := 40) rfl)) (args := #[]))) (mvT hZ (hw _ (List.mem_of_getElem? (i := 41) rfl))) (by decide) (backOf (W := 0) (rmhd0 l Z a0 hw [] a st tb kb N en v0 v1 v2 v3 tg len h0 n0 Z0 E_a F_what F_bytes F_position F_end V_t ne_a_tb g_a hpe hpe1 hpN hpN1 htag hlen h127 hle) hZ (hw _ (List.mem_of_getElem? (i := 41) rfl)) (hw _ (List.mem_of_getElem? (i := 3) rfl)) (by decide) (by decide)) (g := (mkF m 2 #[.val (.ref a), .val (.int tg), .unset] [(.int tg), (.ref a)])) rfl (by rw [hml]; rfl) (Steps.refl _) (a := a) (by rw [e0]; exact q100) q100' (argsL := [(.int tg)]) (rest := []) (lenOf pd_3 rfl) rfl (by show 2 * 0 + _ ≤ _; exact Nat.le_of_eq rfl) (hb hby drd0_2) (fun _ _ => ⟨rfl, e0, (by decide : 0 + 0 ≤ _), (by decide : 0 + 0 ≤ _)⟩)
  dsimp only [Pt.U, Pt.locs, Pt.cells, Pt.slots] at X100 l100 y100 z100 st100 hQ100
  subst l100 y100 z100
  obtain ⟨rfl, Nq100, Kp, Fa, Fb, Fc, Fd⟩ := hQ100
  have N100 := Fr.app N0 Nq100
  have k100 : Kt p e below m (s₁.setTop (entryFrame m #[(.ref a), (.int tg)] 3)) T100 5 #[.val (.ref a), .val (.int tg), .unset] [(.int len)] := fun t ht => k99 t (st100.trans ht)
  have f101 : n0 ≤ T100.heap.size := Nat.le_trans Z0 Kp.1
  have f102 : Exa Z T100.heap a "com/example/subscriptor/subscriptor/Der" := E_a.keep Kp
  have f107 : Arv Z T100.heap tb kb .byte N [(.int v0), (.int v1), (.int v2), (.int v3)] (.int (0 : Int32)) := V_t.keep Kp (ninS ne_a_tb.symm nin0)
  have f108 : Keep h0 T100.heap [a] := K0.trans Kp (allS (Or.inl (List.mem_of_getElem? (i := 0) rfl)) all0)
  have k109 : Kt p e below m (s₁.setTop (entryFrame m #[(.ref a), (.int tg)] 3)) T100 8 #[.val (.ref a), .val (.int tg), .val (.int len)] [(.ref a), (.ref a)] := by
    intro t ht
    refine k100 t ?_
    show Steps p.tables e below (T100.setTop (mkF m 5 #[.val (.ref a), .val (.int tg), .unset] [(.int len)])) t
    refine XS.istoreN X100.here hx rfl (hb hby drd0_5) rfl (l' := #[.val (.ref a), .val (.int tg), .val (.int len)]) rfl ?_
    show Steps p.tables e below (T100.setTop (mkF m 6 #[.val (.ref a), .val (.int tg), .val (.int len)] [])) t
    refine XS.aloadN X100.here hx rfl (hb hby drd0_6) rfl rfl ?_
    show Steps p.tables e below (T100.setTop (mkF m 7 #[.val (.ref a), .val (.int tg), .val (.int len)] [(.ref a)])) t
    refine XS.dup X100.here hx rfl (hb hby drd0_7) rfl rfl ?_
    exact ht
  obtain ⟨T110, X110, e110, st110⟩ := getF X100 hx hZ hown (host := "") (Or.inl (hw _ (List.mem_of_getElem? (i := 24) rfl))) Via.refl rfl Fc (g := (mkF m 8 #[.val (.ref a), .val (.int tg), .val (.int len)] [(.ref a), (.ref a)])) rfl rfl (hb hby drd0_8)
  have k110 : Kt p e below m (s₁.setTop (entryFrame m #[(.ref a), (.int tg)] 3)) T110 11 #[.val (.ref a), .val (.int tg), .val (.int len)] [(.int (2 : Int32)), (.ref a)] := fun t ht => k109 t (st110 t ht)
  have k111 : Kt p e below m (s₁.setTop (entryFrame m #[(.ref a), (.int tg)] 3)) T110 13 #[.val (.ref a), .val (.int tg), .val (.int len)] [(.int ((2 : Int32) + len)), (.ref a)] := by
    intro t ht
    refine k110 t ?_
    show Steps p.tables e below (T110.setTop (mkF m 11 #[.val (.ref a), .val (.int tg), .val (.int len)] [(.int (2 : Int32)), (.ref a)])) t
    refine XS.iloadN X110.here hx rfl (hb hby drd0_11) rfl ?_
    show Steps p.tables e below (T110.setTop (mkF m 12 #[.val (.ref a), .val (.int tg), .val (.int len)] [(.int len), (.int (2 : Int32)), (.ref a)])) t
    refine XS.iadd X110.here hx rfl (hb hby drd0_12) rfl ?_
    exact ht
  obtain ⟨T112, h112, X112, e112, W112, st112⟩ := putF X110 hx hZ hown (host := "") (Or.inl (hw _ (List.mem_of_getElem? (i := 24) rfl))) Via.refl e110 Fc f102 (Or.inl (hw _ (List.mem_of_getElem? (i := 25) rfl))) (hw _ (List.mem_of_getElem? (i := 2) rfl)) (ty := .int) (by decide) rfl rfl (g := (mkF m 13 #[.val (.ref a), .val (.int tg), .val (.int len)] [(.int ((2 : Int32) + len)), (.ref a)])) rfl rfl (hb hby drd0_13)
  have N112 := Fr.snoc X112 N100 g_a
  have f113 : n0 ≤ h112.size := Nat.le_trans f101 (Keep.of_wr W112).1
  have f114 : Exa Z h112 a "com/example/subscriptor/subscriptor/Der" := f102.wr W112
  have f115 : Arv Z h112 tb kb .byte N [(.int v0), (.int v1), (.int v2), (.int v3)] (.int (0 : Int32)) := f107.other W112 ne_a_tb.symm
  have f116 : Keep h0 h112 [a] := f108.wr W112 (Or.inl (List.mem_of_getElem? (i := 0) rfl))
  have f117 : Fld Z h112 a "com/example/subscriptor/subscriptor/Der" "what" "Ljava/lang/String;" (.ref st) := Fa.other W112 (Or.inr (slot_ne (Or.inr (hw _ (List.mem_of_getElem? (i := 21) rfl))) (Or.inl (hw _ (List.mem_of_getElem? (i := 25) rfl))) (by decide) (t := (.object "java/lang/String")) (t' := .int) (by decide) (by decide)))
  have f118 : Fld Z h112 a "com/example/subscriptor/subscriptor/Der" "bytes" "[B" (.ref tb) := Fb.other W112 (Or.inr (slot_ne (Or.inr (hw _ (List.mem_of_getElem? (i := 23) rfl))) (Or.inl (hw _ (List.mem_of_getElem? (i := 25) rfl))) (by decide) (t := (.array .byte)) (t' := .int) (by decide) (by decide)))
  have f119 : Fld Z h112 a "com/example/subscriptor/subscriptor/Der" "position" "I" (.int ((2 : Int32) + len)) := Fc.same W112
  have f120 : Fld Z h112 a "com/example/subscriptor/subscriptor/Der" "end" "I" (.int en) := Fd.other W112 (Or.inr (slot_ne (Or.inr (hw _ (List.mem_of_getElem? (i := 27) rfl))) (Or.inl (hw _ (List.mem_of_getElem? (i := 25) rfl))) (by decide) (t := .int) (t' := .int) (by decide) (by decide)))
  have k112 : Kt p e below m (s₁.setTop (entryFrame m #[(.ref a), (.int tg)] 3)) T112 16 #[.val (.ref a), .val (.int tg), .val (.int len)] [] := fun t ht => k111 t (st112 t ht)
  obtain ⟨T121, h121, X121, e121, E121, A121, D121, -, st121⟩ := newO X112 hx hZ hown (hw _ (List.mem_of_getElem? (i := 49) rfl)) (hw _ (List.mem_of_getElem? (i := 2) rfl)) (hw _ (List.mem_of_getElem? (i := 3) rfl)) e112 (g := (mkF m 16 #[.val (.ref a), .val (.int tg), .val (.int len)] [])) rfl (hb hby drd0_16) (by decide) (by decide)
  obtain ⟨r, q121⟩ : ∃ z, z = h112.size := ⟨_, rfl⟩
  have ne_a_r : a ≠ r := by rw [q121]; exact Nat.ne_of_lt f114.lt
  have ne_tb_r : tb ≠ r := by rw [q121]; exact Nat.ne_of_lt f115.lt
  have g_r : n0 ≤ r := by rw [q121]; exact f113
  have sz_r : h0.size ≤ r := by rw [q121]; exact f116.1
  rw [← q121] at A121 D121 st121
  have f122 : n0 ≤ h121.size := Nat.le_trans f113 E121.1
  have f123 : Exa Z h121 a "com/example/subscriptor/subscriptor/Der" := f114.ext E121
  have f124 : Arv Z h121 tb kb .byte N [(.int v0), (.int v1), (.int v2), (.int v3)] (.int (0 : Int32)) := f115.ext E121
  have f125 : Keep h0 h121 [a] := f116.ext E121
  have f126 : Fld Z h121 a "com/example/subscriptor/subscriptor/Der" "what" "Ljava/lang/String;" (.ref st) := f117.ext E121
  have f127 : Fld Z h121 a "com/example/subscriptor/subscriptor/Der" "bytes" "[B" (.ref tb) := f118.ext E121
  have f128 : Fld Z h121 a "com/example/subscriptor/subscriptor/Der" "position" "I" (.int ((2 : Int32) + len)) := f119.ext E121
  have f129 : Fld Z h121 a "com/example/subscriptor/subscriptor/Der" "end" "I" (.int en) := f120.ext E121
  have f121 : Exa Z h121 r "com/example/subscriptor/subscriptor/Der" := A121
  have f130 : Fld Z h121 r "com/example/subscriptor/subscriptor/Der" "what" "Ljava/lang/String;" .null := D121 (Or.inr (hw _ (List.mem_of_getElem? (i := 21) rfl))) (ty := (.object "java/lang/String")) (by decide)
  have f131 : Fld Z h121 r "com/example/subscriptor/subscriptor/Der" "bytes" "[B" .null := D121 (Or.inr (hw _ (List.mem_of_getElem? (i := 23) rfl))) (ty := (.array .byte)) (by decide)
  have f132 : Fld Z h121 r "com/example/subscriptor/subscriptor/Der" "position" "I" (.int (0 : Int32)) := D121 (Or.inl (hw _ (List.mem_of_getElem? (i := 25) rfl))) (ty := .int) (by decide)
  have f133 : Fld Z h121 r "com/example/subscriptor/subscriptor/Der" "end" "I" (.int (0 : Int32)) := D121 (Or.inr (hw _ (List.mem_of_getElem? (i := 27) rfl))) (ty := .int) (by decide)
  have k121 : Kt p e below m (s₁.setTop (entryFrame m #[(.ref a), (.int tg)] 3)) T121 19 #[.val (.ref a), .val (.int tg), .val (.int len)] [(.ref r)] := fun t ht => k112 t (st121 t ht)
  have k134 : Kt p e below m (s₁.setTop (entryFrame m #[(.ref a), (.int tg)] 3)) T121 21 #[.val (.ref a), .val (.int tg), .val (.int len)] [(.ref a), (.ref r), (.ref r)] := by
    intro t ht
    refine k121 t ?_
    show Steps p.tables e below (T121.setTop (mkF m 19 #[.val (.ref a), .val (.int tg), .val (.int len)] [(.ref r)])) t
    refine XS.dup X121.here hx rfl (hb hby drd0_19) rfl rfl ?_
    show Steps p.tables e below (T121.setTop (mkF m 20 #[.val (.ref a), .val (.int tg), .val (.int len)] [(.ref r), (.ref r)])) t
    refine XS.aloadN X121.here hx rfl (hb hby drd0_20) rfl rfl ?_
    exact ht
  obtain ⟨T135, X135, e135, st135⟩ := getF X121 hx hZ hown (host := "") (Or.inl (hw _ (List.mem_of_getElem? (i := 20) rfl))) Via.refl e121 f126 (g := (mkF m 21 #[.val (.ref a), .val (.int tg), .val (.int len)] [(.ref a), (.ref r), (.ref r)])) rfl rfl (hb hby drd0_21)
  have k135 : Kt p e below m (s₁.setTop (entryFrame m #[(.ref a), (.int tg)] 3)) T135 24 #[.val (.ref a), .val (.int tg), .val (.int len)] [(.ref st), (.ref r), (.ref r)] := fun t ht => k134 t (st135 t ht)
  have k136 : Kt p e below m (s₁.setTop (entryFrame m #[(.ref a), (.int tg)] 3)) T135 25 #[.val (.ref a), .val (.int tg), .val (.int len)] [(.ref a), (.ref st), (.ref r), (.ref r)] := by
    intro t ht
    refine k135 t ?_
    show Steps p.tables e below (T135.setTop (mkF m 24 #[.val (.ref a), .val (.int tg), .val (.int len)] [(.ref st), (.ref r), (.ref r)])) t
    refine XS.aloadN X135.here hx rfl (hb hby drd0_24) rfl rfl ?_
    exact ht
  obtain ⟨T137, X137, e137, st137⟩ := getF X135 hx hZ hown (host := "") (Or.inl (hw _ (List.mem_of_getElem? (i := 22) rfl))) Via.refl e135 f127 (g := (mkF m 25 #[.val (.ref a), .val (.int tg), .val (.int len)] [(.ref a), (.ref st), (.ref r), (.ref r)])) rfl rfl (hb hby drd0_25)
  have k137 : Kt p e below m (s₁.setTop (entryFrame m #[(.ref a), (.int tg)] 3)) T137 28 #[.val (.ref a), .val (.int tg), .val (.int len)] [(.ref tb), (.ref st), (.ref r), (.ref r)] := fun t ht => k136 t (st137 t ht)
  have k138 : Kt p e below m (s₁.setTop (entryFrame m #[(.ref a), (.int tg)] 3)) T137 29 #[.val (.ref a), .val (.int tg), .val (.int len)] [(.ref a), (.ref tb), (.ref st), (.ref r), (.ref r)] := by
    intro t ht
    refine k137 t ?_
    show Steps p.tables e below (T137.setTop (mkF m 28 #[.val (.ref a), .val (.int tg), .val (.int len)] [(.ref tb), (.ref st), (.ref r), (.ref r)])) t
    refine XS.aloadN X137.here hx rfl (hb hby drd0_28) rfl rfl ?_
    exact ht
  obtain ⟨T139, X139, e139, st139⟩ := getF X137 hx hZ hown (host := "") (Or.inl (hw _ (List.mem_of_getElem? (i := 24) rfl))) Via.refl e137 f128 (g := (mkF m 29 #[.val (.ref a), .val (.int tg), .val (.int len)] [(.ref a), (.ref tb), (.ref st), (.ref r), (.ref r)])) rfl rfl (hb hby drd0_29)
  have k139 : Kt p e below m (s₁.setTop (entryFrame m #[(.ref a), (.int tg)] 3)) T139 32 #[.val (.ref a), .val (.int tg), .val (.int len)] [(.int ((2 : Int32) + len)), (.ref tb), (.ref st), (.ref r), (.ref r)] := fun t ht => k138 t (st139 t ht)
  have k140 : Kt p e below m (s₁.setTop (entryFrame m #[(.ref a), (.int tg)] 3)) T139 34 #[.val (.ref a), .val (.int tg), .val (.int len)] [(.int (((2 : Int32) + len) - len)), (.ref tb), (.ref st), (.ref r), (.ref r)] := by
    intro t ht
    refine k139 t ?_
    show Steps p.tables e below (T139.setTop (mkF m 32 #[.val (.ref a), .val (.int tg), .val (.int len)] [(.int ((2 : Int32) + len)), (.ref tb), (.ref st), (.ref r), (.ref r)])) t
    refine XS.iloadN X139.here hx rfl (hb hby drd0_32) rfl ?_
    show Steps p.tables e below (T139.setTop (mkF m 33 #[.val (.ref a), .val (.int tg), .val (.int len)] [(.int len), (.int ((2 : Int32) + len)), (.ref tb), (.ref st), (.ref r), (.ref r)])) t
    refine XS.isub X139.here hx rfl (hb hby drd0_33) rfl ?_
    exact ht
  rw [own_as] at k140
  have k141 : Kt p e below m (s₁.setTop (entryFrame m #[(.ref a), (.int tg)] 3)) T139 35 #[.val (.ref a), .val (.int tg), .val (.int len)] [(.ref a), (.int (2 : Int32)), (.ref tb), (.ref st), (.ref r), (.ref r)] := by
    intro t ht
    refine k140 t ?_
    show Steps p.tables e below (T139.setTop (mkF m 34 #[.val (.ref a), .val (.int tg), .val (.int len)] [(.int (2 : Int32)), (.ref tb), (.ref st), (.ref r), (.ref r)])) t
    refine XS.aloadN X139.here hx rfl (hb hby drd0_34) rfl rfl ?_
    exact ht
  obtain ⟨T142, X142, e142, st142⟩ := getF X139 hx hZ hown (host := "") (Or.inl (hw _ (List.mem_of_getElem? (i := 24) rfl))) Via.refl e139 f128 (g := (mkF m 35 #[.val (.ref a), .val (.int tg), .val (.int len)] [(.ref a), (.int (2 : Int32)), (.ref tb), (.ref st), (.ref r), (.ref r)])) rfl rfl (hb hby drd0_35)
  have k142 : Kt p e below m (s₁.setTop (entryFrame m #[(.ref a), (.int tg)] 3)) T142 38 #[.val (.ref a), .val (.int tg), .val (.int len)] [(.int ((2 : Int32) + len)), (.int (2 : Int32)), (.ref tb), (.ref st), (.ref r), (.ref r)] := fun t ht => k141 t (st142 t ht)
  obtain ⟨_, _, ⟨T143, L143, c143, n143⟩, -, X143, ⟨Lc143, hQ143, l143, y143, z143⟩, st143⟩ := X142.specialBack hx (y := (⟨"com/example/subscriptor/subscriptor/Der", "<init>", "(Ljava/lang/String;[BII)V"⟩ : MethodName)) rfl hown (mvT hZ (hw _ (List.mem_of_getElem? (i := 14) rfl))) (mvT hZ (hw _ (List.mem_of_getElem? (i := 15) rfl))) (mvT hZ (hw _ (List.mem_of_getElem? (i := 16) rfl))) (by decide) (backOf (W := 1) (rm2 l Z a0 hw [] r st tb (2 : Int32) ((2 : Int32) + len) h121 n0 f122 f121 f130 f131 f132 f133 g_r) hZ (hw _ (List.mem_of_getElem? (i := 16) rfl)) (hw _ (List.mem_of_getElem? (i := 3) rfl)) (by decide) (by decide)) (g := (mkF m 38 #[.val (.ref a), .val (.int tg), .val (.int len)] [(.int ((2 : Int32) + len)), (.int (2 : Int32)), (.ref tb), (.ref st), (.ref r), (.ref r)])) rfl (by rw [hml]; rfl) (Steps.refl _) (a := r) (argsL := [(.ref st), (.ref tb), (.int (2 : Int32)), (.int ((2 : Int32) + len))]) (rest := [(.ref r)]) (lenOf pd_6 rfl) rfl (by show 2 * 0 + _ ≤ _; exact Nat.le_of_eq rfl) (hb hby drd0_38) (fun _ _ => ⟨rfl, e142, (by decide : 1 + 0 ≤ _), (by decide : 4 + 0 ≤ _)⟩)
  dsimp only [Pt.U, Pt.locs, Pt.cells, Pt.slots] at X143 l143 y143 z143 st143 hQ143
  subst l143 y143 z143
  obtain ⟨rfl, Nq143, Kr, Ra, Rb, Rc, Rd⟩ := hQ143
  have N143 := Fr.app N112 Nq143
  have k143 : Kt p e below m (s₁.setTop (entryFrame m #[(.ref a), (.int tg)] 3)) T143 41 #[.val (.ref a), .val (.int tg), .val (.int len)] [(.ref r)] := fun t ht => k142 t (st143.trans ht)
  have f144 : n0 ≤ T143.heap.size := Nat.le_trans f122 Kr.1
  have f145 : Exa Z T143.heap a "com/example/subscriptor/subscriptor/Der" := f123.keep Kr
  have f146 : Arv Z T143.heap tb kb .byte N [(.int v0), (.int v1), (.int v2), (.int v3)] (.int (0 : Int32)) := f124.keep Kr (ninS ne_tb_r nin0)
  have f147 : Keep h0 T143.heap [a] := f125.trans Kr (allS (Or.inr sz_r) all0)
  have f148 : Fld Z T143.heap a "com/example/subscriptor/subscriptor/Der" "what" "Ljava/lang/String;" (.ref st) := f126.keep Kr (ninS ne_a_r nin0)
  have f149 : Fld Z T143.heap a "com/example/subscriptor/subscriptor/Der" "bytes" "[B" (.ref tb) := f127.keep Kr (ninS ne_a_r nin0)
  have f150 : Fld Z T143.heap a "com/example/subscriptor/subscriptor/Der" "position" "I" (.int ((2 : Int32) + len)) := f128.keep Kr (ninS ne_a_r nin0)
  have f151 : Fld Z T143.heap a "com/example/subscriptor/subscriptor/Der" "end" "I" (.int en) := f129.keep Kr (ninS ne_a_r nin0)
  have f152 : Exa Z T143.heap r "com/example/subscriptor/subscriptor/Der" := f121.keep Kr
  obtain ⟨fs, hr, hrun, hended, hW, hsame⟩ := X143.leave (v := some (.ref r)) (fun h => by rw [Bd.returns] at h; cases h)
  refine ⟨_, _, k143 _ ?_, hrun, hended, _, _, rfl, ?_, ⟨_, rfl⟩, hW, hsame.mono (by decide) (by decide)⟩
  · show Steps p.tables e below (T143.setTop (mkF m 41 #[.val (.ref a), .val (.int tg), .val (.int len)] [(.ref r)])) _
    jvm_step X143.here [X143.here.top, hx, (hb hby drd0_41), X143.method', Bd.returns, Value.isRef, FieldType.isReference]
    first | (intro acts; rw [hr _ acts rfl rfl rfl]) | rw [hr _ _ rfl rfl rfl]
    exact Steps.refl _
  · show Qrd0 Z a st tb kb N en v0 v1 v2 v3 tg len h0 n0 _ T143.heap _
    exact ⟨r, rfl, N143, f147, sz_r, f152, f148, f149, f150, f151, Ra, Rb, Rc, Rd⟩
theorem dnt2_0 : decode prog_16_method_4_code 0 = .ok (.aload_n 0, 1) := by decide +kernel
theorem dnt2_1 : decode prog_16_method_4_code 1 = .ok (.invokevirtual 27, 3) := by decide +kernel
theorem dnt2_4 : decode prog_16_method_4_code 4 = .ok (.ifCond .ne 10, 3) := by decide +kernel
theorem dnt2_7 : decode prog_16_method_4_code 7 = .ok (.aload_n 0, 1) := by decide +kernel
theorem dnt2_8 : decode prog_16_method_4_code 8 = .ok (.ldc 31, 2) := by decide +kernel
theorem dnt2_10 : decode prog_16_method_4_code 10 = .ok (.invokevirtual 33, 3) := by decide +kernel
theorem dnt2_13 : decode prog_16_method_4_code 13 = .ok (.athrow, 1) := by decide +kernel
theorem dnt2_14 : decode prog_16_method_4_code 14 = .ok (.aload_n 0, 1) := by decide +kernel
theorem dnt2_15 : decode prog_16_method_4_code 15 = .ok (.getfield 16, 3) := by decide +kernel
theorem dnt2_18 : decode prog_16_method_4_code 18 = .ok (.aload_n 0, 1) := by decide +kernel
theorem dnt2_19 : decode prog_16_method_4_code 19 = .ok (.getfield 20, 3) := by decide +kernel
theorem dnt2_22 : decode prog_16_method_4_code 22 = .ok (.baload, 1) := by decide +kernel
theorem dnt2_23 : decode prog_16_method_4_code 23 = .ok (.sipush 255, 3) := by decide +kernel
theorem dnt2_26 : decode prog_16_method_4_code 26 = .ok (.iand, 1) := by decide +kernel
theorem dnt2_27 : decode prog_16_method_4_code 27 = .ok (.ireturn, 1) := by decide +kernel
theorem pnnt2 : plainName "com/example/subscriptor/subscriptor/Der" = true := by first | (simp [plainName, overriddenIn]; done) | decide +kernel
theorem efnt2 (m : MethodId) (a : Addr) : entryFrame m #[(.ref a)] 1 = mkF m 0 #[.val (.ref a)] [] := by first | (simp [entryFrame, mkF, argsToLocals, Value.category]; done) | rfl
def Qnt2 (Z : State) (a : Addr) (st : Addr) (tb : Addr) (kb : ClassId) (N : Int32) (en : Int32) (v0 : Int32) (v1 : Int32) (v2 : Int32) (v3 : Int32) (h0 : Heap) (n0 : Nat) (v : Option Value) (h : Heap) (L : List Loc) : Prop := v = some (.int (v2 &&& (255 : Int32))) ∧ Fr n0 L ∧ h = h0
set_option maxRecDepth 65536 in
set_option maxHeartbeats 40000000 in
theorem rmnt2 (l : Launch) (Z : State) (a0 : Array Value) (hw : ∀ d ∈ tables_1, d.before a0 Z = true) (ws : List Jvm.Cond) (a : Addr) (st : Addr) (tb : Addr) (kb : ClassId) (N : Int32) (en : Int32) (v0 : Int32) (v1 : Int32) (v2 : Int32) (v3 : Int32) (h0 : Heap) (n0 : Nat) (Z0 : n0 ≤ h0.size) (E_a : Exa Z h0 a "com/example/subscriptor/subscriptor/Der") (F_what : Fld Z h0 a "com/example/subscriptor/subscriptor/Der" "what" "Ljava/lang/String;" (.ref st)) (F_bytes : Fld Z h0 a "com/example/subscriptor/subscriptor/Der" "bytes" "[B" (.ref tb)) (F_position : Fld Z h0 a "com/example/subscriptor/subscriptor/Der" "position" "I" (.int (2 : Int32))) (F_end : Fld Z h0 a "com/example/subscriptor/subscriptor/Der" "end" "I" (.int en)) (V_t : Arv Z h0 tb kb .byte N [(.int v0), (.int v1), (.int v2), (.int v3)] (.int (0 : Int32))) (hpe : (2 : Int32) < en) (hpN : (2 : Int32) < N) :
    MetFree l (⟨"com/example/subscriptor/subscriptor/Der", "nextTag", "()I"⟩ : MethodName) (head1 (Jvm.Cond.code (⟨"com/example/subscriptor/subscriptor/Der", "nextTag", "()I"⟩ : MethodName) prog_16_method_4_code 1 (some .int) :: ws) ({ frames := 1, cells := 0, slots := 0, locals := 12 } : Room)) (fun gs' U => gs' = #[(.ref a)] ∧ Z.Warmed39 U.vm ∧ U.heap = h0) (fun _ _ _ _ _ => True) (fun _ U o U' => ∃ v L, o = .returned v ∧ Qnt2 Z a st tb kb N en v0 v1 v2 v3 h0 n0 v U'.heap L ∧ FrameEnd U o U' L ({ frames := 1, cells := 0, slots := 0, locals := 12 } : Room).cells ({ frames := 1, cells := 0, slots := 0, locals := 12 } : Room).slots) := by
  refine MetFree.of_bodySF (plainFor_of_name pnnt2) hisR ?_
  intro p e s m args below meth c s₁ Bd hml0 hP hK
  obtain ⟨rfl, hZ, hh⟩ := hP
  have hx := Bd.exec
  have hby := Bd.bytes
  have hml : c.maxLocals = 1 := hml0
  have hown : s.vm.findClass "com/example/subscriptor/subscriptor/Der" = some m.cls := findClass_of_methodNamed Bd.named
  have hnm := (name_of_methodNamed Bd.named Bd.method).1
  have X0 : Stand p l e ({ frames := 1, cells := 0, slots := 0, locals := 12 } : Room) s m #[(.ref a)] below meth c s₁ [] 0 0 := Stand.of_body Bd
  have e0 : s₁.heap = h0 := by rw [← hh, Bd.state]; rfl
  have N0 := Fr.nil n0
  have k0 : Kt p e below m (s₁.setTop (entryFrame m #[(.ref a)] 1)) s₁ 0 #[.val (.ref a)] [] := fun t ht => castTop (efnt2 m a) ht
  have k157 : Kt p e below m (s₁.setTop (entryFrame m #[(.ref a)] 1)) s₁ 1 #[.val (.ref a)] [(.ref a)] := by
    intro t ht
    refine k0 t ?_
    show Steps p.tables e below (s₁.setTop (mkF m 0 #[.val (.ref a)] [])) t
    refine XS.aloadN X0.here hx rfl (hb hby dnt2_0) rfl rfl ?_
    exact ht
  obtain ⟨cq158, kq158, q158a, q158b, q158c⟩ := isOf hZ e0 E_a
  obtain ⟨_, _, ⟨T158, L158, c158, n158⟩, -, X158, ⟨Lc158, hQ158, l158, y158, z158⟩, st158⟩ := X0.virtualBack hx (y := (⟨"com/example/subscriptor/subscriptor/Der", "hasNext", "()Z"⟩ : MethodName)) (z := (⟨"com/example/subscriptor/subscriptor/Der", "hasNext", "()Z"⟩ : MethodName)) hown (mvT hZ (hw _ (List.mem_of_getElem? (i := 47) rfl))) (mvT hZ (hw _ (List.mem_of_getElem? (i := 29) rfl))) (notFace_of_selects (args := #[]) (mvT hZ (hw _ (List.mem_of_getElem? (i := 31) rfl)))) (mvT hZ (hw _ (List.mem_of_getElem? (i := 31) rfl))) (mvT hZ (hw _ (List.mem_of_getElem? (i := 30) rfl))) (by decide) (backOf (W := 0) (rm4 l Z a0 hw [] a (2 : Int32) en h0 n0 Z0 F_position F_end) hZ (hw _ (List.mem_of_getElem? (i := 32) rfl)) (hw _ (List.mem_of_getElem? (i := 3) rfl)) (by decide) (by decide)) q158a q158c (g := (mkF m 1 #[.val (.ref a)] [(.ref a)])) rfl (by rw [hml]; rfl) (Steps.refl _) (argsL := []) (rest := []) (lenOf pd_2 rfl) rfl (by show 2 * 0 + _ ≤ _; exact Nat.le_of_eq rfl) (hb hby dnt2_1) (fun _ _ => ⟨rfl, e0, (by decide : 0 + 0 ≤ _), (by decide : 0 + 0 ≤ _)⟩)
  dsimp only [Pt.U, Pt.locs, Pt.cells, Pt.slots] at X158 l158 y158 z158 st158 hQ158
  subst l158 y158 z158
  obtain ⟨rfl, Nq158, eq1⟩ := hQ158
  have N158 := Fr.app N0 Nq158
  have k158 : Kt p e below m (s₁.setTop (entryFrame m #[(.ref a)] 1)) T158 4 #[.val (.ref a)] [(.int (own_b ((2 : Int32) < en)))] := fun t ht => k157 t (st158.trans ht)
  have f159 : n0 ≤ T158.heap.size := by rw [eq1]; exact Z0
  have f160 : Exa Z T158.heap a "com/example/subscriptor/subscriptor/Der" := by rw [eq1]; exact E_a
  have f161 : Fld Z T158.heap a "com/example/subscriptor/subscriptor/Der" "what" "Ljava/lang/String;" (.ref st) := by rw [eq1]; exact F_what
  have f162 : Fld Z T158.heap a "com/example/subscriptor/subscriptor/Der" "bytes" "[B" (.ref tb) := by rw [eq1]; exact F_bytes
  have f163 : Fld Z T158.heap a "com/example/subscriptor/subscriptor/Der" "position" "I" (.int (2 : Int32)) := by rw [eq1]; exact F_position
  have f164 : Fld Z T158.heap a "com/example/subscriptor/subscriptor/Der" "end" "I" (.int en) := by rw [eq1]; exact F_end
  have f165 : Arv Z T158.heap tb kb .byte N [(.int v0), (.int v1), (.int v2), (.int v3)] (.int (0 : Int32)) := by rw [eq1]; exact V_t
  have k166 : Kt p e below m (s₁.setTop (entryFrame m #[(.ref a)] 1)) T158 15 #[.val (.ref a)] [(.ref a)] := by
    intro t ht
    refine k158 t ?_
    show Steps p.tables e below (T158.setTop (mkF m 4 #[.val (.ref a)] [(.int (own_b ((2 : Int32) < en)))])) t
    refine XS.ifYes X158.here hx rfl (pc0 := 4) (pc' := 14) rfl (hb hby dnt2_4) rfl ((if0 _ _).trans (feq (own_bnz hpe)).2) (by decide) (by decide) ?_
    show Steps p.tables e below (T158.setTop (mkF m 14 #[.val (.ref a)] [])) t
    refine XS.aloadN X158.here hx rfl (hb hby dnt2_14) rfl rfl ?_
    exact ht
  obtain ⟨T167, X167, e167, st167⟩ := getF X158 hx hZ hown (host := "") (Or.inl (hw _ (List.mem_of_getElem? (i := 22) rfl))) Via.refl rfl f162 (g := (mkF m 15 #[.val (.ref a)] [(.ref a)])) rfl rfl (hb hby dnt2_15)
  have k167 : Kt p e below m (s₁.setTop (entryFrame m #[(.ref a)] 1)) T167 18 #[.val (.ref a)] [(.ref tb)] := fun t ht => k166 t (st167 t ht)
  have k168 : Kt p e below m (s₁.setTop (entryFrame m #[(.ref a)] 1)) T167 19 #[.val (.ref a)] [(.ref a), (.ref tb)] := by
    intro t ht
    refine k167 t ?_
    show Steps p.tables e below (T167.setTop (mkF m 18 #[.val (.ref a)] [(.ref tb)])) t
    refine XS.aloadN X167.here hx rfl (hb hby dnt2_18) rfl rfl ?_
    exact ht
  obtain ⟨T169, X169, e169, st169⟩ := getF X167 hx hZ hown (host := "") (Or.inl (hw _ (List.mem_of_getElem? (i := 24) rfl))) Via.refl e167 f163 (g := (mkF m 19 #[.val (.ref a)] [(.ref a), (.ref tb)])) rfl rfl (hb hby dnt2_19)
  have k169 : Kt p e below m (s₁.setTop (entryFrame m #[(.ref a)] 1)) T169 22 #[.val (.ref a)] [(.int (2 : Int32)), (.ref tb)] := fun t ht => k168 t (st169 t ht)
  obtain ⟨cl170, Ar170, qc170, Sz170, Nn170, Hh170, Gg170⟩ := id f165
  have hin170 : ¬ ((2 : Int32) < 0 ∨ cl170.slots.size ≤ ((2 : Int32)).toNatClampNeg) := inb_of Sz170 ⟨by decide, hpN⟩
  have hat170 : cl170.slots[((2 : Int32)).toNatClampNeg]? = some (.int v2) := Hh170.at hin170 rfl
  have k171 : Kt p e below m (s₁.setTop (entryFrame m #[(.ref a)] 1)) T169 27 #[.val (.ref a)] [(.int (v2 &&& (255 : Int32)))] := by
    intro t ht
    refine k169 t ?_
    show Steps p.tables e below (T169.setTop (mkF m 22 #[.val (.ref a)] [(.int (2 : Int32)), (.ref tb)])) t
    refine X169.baloadBytes hx (j := (2 : Int32)) (v := (.int v2)) (by rw [e169]; exact Ar170.1) (State.isArrayOf_alike hZ.alike Ar170.2.1) Ar170.2.2 hin170 hat170 (g := (mkF m 22 #[.val (.ref a)] [(.int (2 : Int32)), (.ref tb)])) rfl rfl (hb hby dnt2_22) _ ?_
    show Steps p.tables e below (T169.setTop (mkF m 23 #[.val (.ref a)] [(.int v2)])) t
    refine XS.sipush X169.here hx rfl (hb hby dnt2_23) ?_
    show Steps p.tables e below (T169.setTop (mkF m 26 #[.val (.ref a)] [(.int (255 : Int32)), (.int v2)])) t
    refine XS.iand X169.here hx rfl (hb hby dnt2_26) rfl ?_
    exact ht
  obtain ⟨fs, hr, hrun, hended, hW, hsame⟩ := X169.leave (v := some (.int (v2 &&& (255 : Int32)))) (fun h => by rw [Bd.returns] at h; cases h)
  refine ⟨_, _, k171 _ ?_, hrun, hended, _, _, rfl, ?_, ⟨_, rfl⟩, hW, hsame.mono (by decide) (by decide)⟩
  · exact retI X169 hx Bd.returns (hb hby dnt2_27) hr
  · show Qnt2 Z a st tb kb N en v0 v1 v2 v3 h0 n0 _ T169.heap _
    rw [e169]
    exact ⟨rfl, N158, eq1⟩
theorem dhd2_0 : decode prog_16_method_13_code 0 = .ok (.aload_n 0, 1) := by decide +kernel
theorem dhd2_1 : decode prog_16_method_13_code 1 = .ok (.invokevirtual 136, 3) := by decide +kernel
theorem dhd2_4 : decode prog_16_method_13_code 4 = .ok (.istore_n 2, 1) := by decide +kernel
theorem dhd2_5 : decode prog_16_method_13_code 5 = .ok (.iload_n 2, 1) := by decide +kernel
theorem dhd2_6 : decode prog_16_method_13_code 6 = .ok (.iload_n 1, 1) := by decide +kernel
theorem dhd2_7 : decode prog_16_method_13_code 7 = .ok (.if_icmp .eq 31, 3) := by decide +kernel
theorem dhd2_10 : decode prog_16_method_13_code 10 = .ok (.aload_n 0, 1) := by decide +kernel
theorem dhd2_11 : decode prog_16_method_13_code 11 = .ok (.ldc 139, 2) := by decide +kernel
theorem dhd2_13 : decode prog_16_method_13_code 13 = .ok (.iconst 2, 1) := by decide +kernel
theorem dhd2_14 : decode prog_16_method_13_code 14 = .ok (.anewarray 8, 3) := by decide +kernel
theorem dhd2_17 : decode prog_16_method_13_code 17 = .ok (.dup, 1) := by decide +kernel
theorem dhd2_18 : decode prog_16_method_13_code 18 = .ok (.iconst 0, 1) := by decide +kernel
theorem dhd2_19 : decode prog_16_method_13_code 19 = .ok (.iload_n 2, 1) := by decide +kernel
theorem dhd2_20 : decode prog_16_method_13_code 20 = .ok (.invokestatic 141, 3) := by decide +kernel
theorem dhd2_23 : decode prog_16_method_13_code 23 = .ok (.aastore, 1) := by decide +kernel
theorem dhd2_24 : decode prog_16_method_13_code 24 = .ok (.dup, 1) := by decide +kernel
theorem dhd2_25 : decode prog_16_method_13_code 25 = .ok (.iconst 1, 1) := by decide +kernel
theorem dhd2_26 : decode prog_16_method_13_code 26 = .ok (.iload_n 1, 1) := by decide +kernel
theorem dhd2_27 : decode prog_16_method_13_code 27 = .ok (.invokestatic 141, 3) := by decide +kernel
theorem dhd2_30 : decode prog_16_method_13_code 30 = .ok (.aastore, 1) := by decide +kernel
theorem dhd2_31 : decode prog_16_method_13_code 31 = .ok (.invokestatic 144, 3) := by decide +kernel
theorem dhd2_34 : decode prog_16_method_13_code 34 = .ok (.invokevirtual 33, 3) := by decide +kernel
theorem dhd2_37 : decode prog_16_method_13_code 37 = .ok (.athrow, 1) := by decide +kernel
theorem dhd2_38 : decode prog_16_method_13_code 38 = .ok (.aload_n 0, 1) := by decide +kernel
theorem dhd2_39 : decode prog_16_method_13_code 39 = .ok (.getfield 20, 3) := by decide +kernel
theorem dhd2_42 : decode prog_16_method_13_code 42 = .ok (.iconst 1, 1) := by decide +kernel
theorem dhd2_43 : decode prog_16_method_13_code 43 = .ok (.iadd, 1) := by decide +kernel
theorem dhd2_44 : decode prog_16_method_13_code 44 = .ok (.istore_n 3, 1) := by decide +kernel
theorem dhd2_45 : decode prog_16_method_13_code 45 = .ok (.iload_n 3, 1) := by decide +kernel
theorem dhd2_46 : decode prog_16_method_13_code 46 = .ok (.aload_n 0, 1) := by decide +kernel
theorem dhd2_47 : decode prog_16_method_13_code 47 = .ok (.getfield 24, 3) := by decide +kernel
theorem dhd2_50 : decode prog_16_method_13_code 50 = .ok (.if_icmp .lt 10, 3) := by decide +kernel
theorem dhd2_53 : decode prog_16_method_13_code 53 = .ok (.aload_n 0, 1) := by decide +kernel
theorem dhd2_54 : decode prog_16_method_13_code 54 = .ok (.ldc 150, 2) := by decide +kernel
theorem dhd2_56 : decode prog_16_method_13_code 56 = .ok (.invokevirtual 33, 3) := by decide +kernel
theorem dhd2_59 : decode prog_16_method_13_code 59 = .ok (.athrow, 1) := by decide +kernel
theorem dhd2_60 : decode prog_16_method_13_code 60 = .ok (.aload_n 0, 1) := by decide +kernel
theorem dhd2_61 : decode prog_16_method_13_code 61 = .ok (.getfield 16, 3) := by decide +kernel
theorem dhd2_64 : decode prog_16_method_13_code 64 = .ok (.iload_n 3, 1) := by decide +kernel
theorem dhd2_65 : decode prog_16_method_13_code 65 = .ok (.iinc 3 1, 3) := by decide +kernel
theorem dhd2_68 : decode prog_16_method_13_code 68 = .ok (.baload, 1) := by decide +kernel
theorem dhd2_69 : decode prog_16_method_13_code 69 = .ok (.sipush 255, 3) := by decide +kernel
theorem dhd2_72 : decode prog_16_method_13_code 72 = .ok (.iand, 1) := by decide +kernel
theorem dhd2_73 : decode prog_16_method_13_code 73 = .ok (.i2l, 1) := by decide +kernel
theorem dhd2_74 : decode prog_16_method_13_code 74 = .ok (.lstore 4, 2) := by decide +kernel
theorem dhd2_76 : decode prog_16_method_13_code 76 = .ok (.lload 4, 2) := by decide +kernel
theorem dhd2_78 : decode prog_16_method_13_code 78 = .ok (.ldc2_w 152, 3) := by decide +kernel
theorem dhd2_81 : decode prog_16_method_13_code 81 = .ok (.lcmp, 1) := by decide +kernel
theorem dhd2_82 : decode prog_16_method_13_code 82 = .ok (.ifCond .le 81, 3) := by decide +kernel
theorem dhd2_85 : decode prog_16_method_13_code 85 = .ok (.lload 4, 2) := by decide +kernel
theorem dhd2_87 : decode prog_16_method_13_code 87 = .ok (.l2i, 1) := by decide +kernel
theorem dhd2_88 : decode prog_16_method_13_code 88 = .ok (.bipush 127, 2) := by decide +kernel
theorem dhd2_90 : decode prog_16_method_13_code 90 = .ok (.iand, 1) := by decide +kernel
theorem dhd2_91 : decode prog_16_method_13_code 91 = .ok (.istore 6, 2) := by decide +kernel
theorem dhd2_93 : decode prog_16_method_13_code 93 = .ok (.iload 6, 2) := by decide +kernel
theorem dhd2_95 : decode prog_16_method_13_code 95 = .ok (.ifCond .eq 20, 3) := by decide +kernel
theorem dhd2_98 : decode prog_16_method_13_code 98 = .ok (.iload 6, 2) := by decide +kernel
theorem dhd2_100 : decode prog_16_method_13_code 100 = .ok (.iconst 4, 1) := by decide +kernel
theorem dhd2_101 : decode prog_16_method_13_code 101 = .ok (.if_icmp .gt 14, 3) := by decide +kernel
theorem dhd2_104 : decode prog_16_method_13_code 104 = .ok (.aload_n 0, 1) := by decide +kernel
theorem dhd2_105 : decode prog_16_method_13_code 105 = .ok (.getfield 24, 3) := by decide +kernel
theorem dhd2_108 : decode prog_16_method_13_code 108 = .ok (.iload_n 3, 1) := by decide +kernel
theorem dhd2_109 : decode prog_16_method_13_code 109 = .ok (.isub, 1) := by decide +kernel
theorem dhd2_110 : decode prog_16_method_13_code 110 = .ok (.iload 6, 2) := by decide +kernel
theorem dhd2_112 : decode prog_16_method_13_code 112 = .ok (.if_icmp .ge 10, 3) := by decide +kernel
theorem dhd2_115 : decode prog_16_method_13_code 115 = .ok (.aload_n 0, 1) := by decide +kernel
theorem dhd2_116 : decode prog_16_method_13_code 116 = .ok (.ldc 154, 2) := by decide +kernel
theorem dhd2_118 : decode prog_16_method_13_code 118 = .ok (.invokevirtual 33, 3) := by decide +kernel
theorem dhd2_121 : decode prog_16_method_13_code 121 = .ok (.athrow, 1) := by decide +kernel
theorem dhd2_122 : decode prog_16_method_13_code 122 = .ok (.lconst 0, 1) := by decide +kernel
theorem dhd2_123 : decode prog_16_method_13_code 123 = .ok (.lstore 4, 2) := by decide +kernel
theorem dhd2_125 : decode prog_16_method_13_code 125 = .ok (.iconst 0, 1) := by decide +kernel
theorem dhd2_126 : decode prog_16_method_13_code 126 = .ok (.istore 7, 2) := by decide +kernel
theorem dhd2_128 : decode prog_16_method_13_code 128 = .ok (.iload 7, 2) := by decide +kernel
theorem dhd2_130 : decode prog_16_method_13_code 130 = .ok (.iload 6, 2) := by decide +kernel
theorem dhd2_132 : decode prog_16_method_13_code 132 = .ok (.if_icmp .ge 31, 3) := by decide +kernel
theorem dhd2_135 : decode prog_16_method_13_code 135 = .ok (.lload 4, 2) := by decide +kernel
theorem dhd2_137 : decode prog_16_method_13_code 137 = .ok (.bipush 8, 2) := by decide +kernel
theorem dhd2_139 : decode prog_16_method_13_code 139 = .ok (.lshl, 1) := by decide +kernel
theorem dhd2_140 : decode prog_16_method_13_code 140 = .ok (.aload_n 0, 1) := by decide +kernel
theorem dhd2_141 : decode prog_16_method_13_code 141 = .ok (.getfield 16, 3) := by decide +kernel
theorem dhd2_144 : decode prog_16_method_13_code 144 = .ok (.iload_n 3, 1) := by decide +kernel
theorem dhd2_145 : decode prog_16_method_13_code 145 = .ok (.iinc 3 1, 3) := by decide +kernel
theorem dhd2_148 : decode prog_16_method_13_code 148 = .ok (.baload, 1) := by decide +kernel
theorem dhd2_149 : decode prog_16_method_13_code 149 = .ok (.sipush 255, 3) := by decide +kernel
theorem dhd2_152 : decode prog_16_method_13_code 152 = .ok (.iand, 1) := by decide +kernel
theorem dhd2_153 : decode prog_16_method_13_code 153 = .ok (.i2l, 1) := by decide +kernel
theorem dhd2_154 : decode prog_16_method_13_code 154 = .ok (.lor, 1) := by decide +kernel
theorem dhd2_155 : decode prog_16_method_13_code 155 = .ok (.lstore 4, 2) := by decide +kernel
theorem dhd2_157 : decode prog_16_method_13_code 157 = .ok (.iinc 7 1, 3) := by decide +kernel
theorem dhd2_160 : decode prog_16_method_13_code 160 = .ok (.goto (-32), 3) := by decide +kernel
theorem dhd2_163 : decode prog_16_method_13_code 163 = .ok (.lload 4, 2) := by decide +kernel
theorem dhd2_165 : decode prog_16_method_13_code 165 = .ok (.aload_n 0, 1) := by decide +kernel
theorem dhd2_166 : decode prog_16_method_13_code 166 = .ok (.getfield 24, 3) := by decide +kernel
theorem dhd2_169 : decode prog_16_method_13_code 169 = .ok (.iload_n 3, 1) := by decide +kernel
theorem dhd2_170 : decode prog_16_method_13_code 170 = .ok (.isub, 1) := by decide +kernel
theorem dhd2_171 : decode prog_16_method_13_code 171 = .ok (.i2l, 1) := by decide +kernel
theorem dhd2_172 : decode prog_16_method_13_code 172 = .ok (.lcmp, 1) := by decide +kernel
theorem dhd2_173 : decode prog_16_method_13_code 173 = .ok (.ifCond .le 10, 3) := by decide +kernel
theorem dhd2_176 : decode prog_16_method_13_code 176 = .ok (.aload_n 0, 1) := by decide +kernel
theorem dhd2_177 : decode prog_16_method_13_code 177 = .ok (.ldc 156, 2) := by decide +kernel
theorem dhd2_179 : decode prog_16_method_13_code 179 = .ok (.invokevirtual 33, 3) := by decide +kernel
theorem dhd2_182 : decode prog_16_method_13_code 182 = .ok (.athrow, 1) := by decide +kernel
theorem dhd2_183 : decode prog_16_method_13_code 183 = .ok (.aload_n 0, 1) := by decide +kernel
theorem dhd2_184 : decode prog_16_method_13_code 184 = .ok (.iload_n 3, 1) := by decide +kernel
theorem dhd2_185 : decode prog_16_method_13_code 185 = .ok (.putfield 20, 3) := by decide +kernel
theorem dhd2_188 : decode prog_16_method_13_code 188 = .ok (.lload 4, 2) := by decide +kernel
theorem dhd2_190 : decode prog_16_method_13_code 190 = .ok (.l2i, 1) := by decide +kernel
theorem dhd2_191 : decode prog_16_method_13_code 191 = .ok (.ireturn, 1) := by decide +kernel
theorem pnhd2 : plainName "com/example/subscriptor/subscriptor/Der" = true := by first | (simp [plainName, overriddenIn]; done) | decide +kernel
theorem efhd2 (m : MethodId) (a : Addr) (tg : Int32) : entryFrame m #[(.ref a), (.int tg)] 8 = mkF m 0 #[.val (.ref a), .val (.int tg), .unset, .unset, .unset, .unset, .unset, .unset] [] := by first | (simp [entryFrame, mkF, argsToLocals, Value.category]; done) | rfl
def Qhd2 (Z : State) (a : Addr) (st : Addr) (tb : Addr) (kb : ClassId) (N : Int32) (en : Int32) (v0 : Int32) (v1 : Int32) (v2 : Int32) (v3 : Int32) (tg : Int32) (len : Int32) (h0 : Heap) (n0 : Nat) (v : Option Value) (h : Heap) (L : List Loc) : Prop := v = some (.int len) ∧ Fr n0 L ∧ Keep h0 h [a] ∧ Fld Z h a "com/example/subscriptor/subscriptor/Der" "what" "Ljava/lang/String;" (.ref st) ∧ Fld Z h a "com/example/subscriptor/subscriptor/Der" "bytes" "[B" (.ref tb) ∧ Fld Z h a "com/example/subscriptor/subscriptor/Der" "position" "I" (.int (4 : Int32)) ∧ Fld Z h a "com/example/subscriptor/subscriptor/Der" "end" "I" (.int en)
set_option maxRecDepth 65536 in
set_option maxHeartbeats 40000000 in
theorem rmhd2 (l : Launch) (Z : State) (a0 : Array Value) (hw : ∀ d ∈ tables_1, d.before a0 Z = true) (ws : List Jvm.Cond) (a : Addr) (st : Addr) (tb : Addr) (kb : ClassId) (N : Int32) (en : Int32) (v0 : Int32) (v1 : Int32) (v2 : Int32) (v3 : Int32) (tg : Int32) (len : Int32) (h0 : Heap) (n0 : Nat) (Z0 : n0 ≤ h0.size) (E_a : Exa Z h0 a "com/example/subscriptor/subscriptor/Der") (F_what : Fld Z h0 a "com/example/subscriptor/subscriptor/Der" "what" "Ljava/lang/String;" (.ref st)) (F_bytes : Fld Z h0 a "com/example/subscriptor/subscriptor/Der" "bytes" "[B" (.ref tb)) (F_position : Fld Z h0 a "com/example/subscriptor/subscriptor/Der" "position" "I" (.int (2 : Int32))) (F_end : Fld Z h0 a "com/example/subscriptor/subscriptor/Der" "end" "I" (.int en)) (V_t : Arv Z h0 tb kb .byte N [(.int v0), (.int v1), (.int v2), (.int v3)] (.int (0 : Int32))) (ne_a_tb : a ≠ tb) (g_a : n0 ≤ a) (hpe : (2 : Int32) < en) (hpe1 : (3 : Int32) < en) (hpN : (2 : Int32) < N) (hpN1 : (3 : Int32) < N) (htag : (v2 &&& (255 : Int32)) = tg) (hlen : (v3 &&& (255 : Int32)) = len) (h127 : ¬ (127 : Int64) < (len.toInt64)) (hle : ¬ ((en - (4 : Int32)).toInt64) < (len.toInt64)) :
    MetFree l (⟨"com/example/subscriptor/subscriptor/Der", "header", "(I)I"⟩ : MethodName) (head1 (Jvm.Cond.code (⟨"com/example/subscriptor/subscriptor/Der", "header", "(I)I"⟩ : MethodName) prog_16_method_13_code 8 (some .int) :: ws) ({ frames := 2, cells := 0, slots := 0, locals := 24 } : Room)) (fun gs' U => gs' = #[(.ref a), (.int tg)] ∧ Z.Warmed39 U.vm ∧ U.heap = h0) (fun _ _ _ _ _ => True) (fun _ U o U' => ∃ v L, o = .returned v ∧ Qhd2 Z a st tb kb N en v0 v1 v2 v3 tg len h0 n0 v U'.heap L ∧ FrameEnd U o U' L ({ frames := 2, cells := 0, slots := 0, locals := 24 } : Room).cells ({ frames := 2, cells := 0, slots := 0, locals := 24 } : Room).slots) := by
  refine MetFree.of_bodySF (plainFor_of_name pnhd2) hisR ?_
  intro p e s m args below meth c s₁ Bd hml0 hP hK
  obtain ⟨rfl, hZ, hh⟩ := hP
  have hx := Bd.exec
  have hby := Bd.bytes
  have hml : c.maxLocals = 8 := hml0
  have hown : s.vm.findClass "com/example/subscriptor/subscriptor/Der" = some m.cls := findClass_of_methodNamed Bd.named
  have hnm := (name_of_methodNamed Bd.named Bd.method).1
  have X0 : Stand p l e ({ frames := 2, cells := 0, slots := 0, locals := 24 } : Room) s m #[(.ref a), (.int tg)] below meth c s₁ [] 0 0 := Stand.of_body Bd
  have e0 : s₁.heap = h0 := by rw [← hh, Bd.state]; rfl
  have N0 := Fr.nil n0
  have k0 : Kt p e below m (s₁.setTop (entryFrame m #[(.ref a), (.int tg)] 8)) s₁ 0 #[.val (.ref a), .val (.int tg), .unset, .unset, .unset, .unset, .unset, .unset] [] := fun t ht => castTop (efhd2 m a tg) ht
  have K0 : Keep h0 h0 [a] := Keep.refl _ _
  have k172 : Kt p e below m (s₁.setTop (entryFrame m #[(.ref a), (.int tg)] 8)) s₁ 1 #[.val (.ref a), .val (.int tg), .unset, .unset, .unset, .unset, .unset, .unset] [(.ref a)] := by
    intro t ht
    refine k0 t ?_
    show Steps p.tables e below (s₁.setTop (mkF m 0 #[.val (.ref a), .val (.int tg), .unset, .unset, .unset, .unset, .unset, .unset] [])) t
    refine XS.aloadN X0.here hx rfl (hb hby dhd2_0) rfl rfl ?_
    exact ht
  obtain ⟨cq173, kq173, q173a, q173b, q173c⟩ := isOf hZ e0 E_a
  obtain ⟨_, _, ⟨T173, L173, c173, n173⟩, -, X173, ⟨Lc173, hQ173, l173, y173, z173⟩, st173⟩ := X0.virtualBack hx (y := (⟨"com/example/subscriptor/subscriptor/Der", "nextTag", "()I"⟩ : MethodName)) (z := (⟨"com/example/subscriptor/subscriptor/Der", "nextTag", "()I"⟩ : MethodName)) hown (mvT hZ (hw _ (List.mem_of_getElem? (i := 42) rfl))) (mvT hZ (hw _ (List.mem_of_getElem? (i := 43) rfl))) (notFace_of_selects (args := #[]) (mvT hZ (hw _ (List.mem_of_getElem? (i := 45) rfl)))) (mvT hZ (hw _ (List.mem_of_getElem? (i := 45) rfl))) (mvT hZ (hw _ (List.mem_of_getElem? (i := 44) rfl))) (by decide) (backOf (W := 0) (rmnt2 l Z a0 hw [] a st tb kb N en v0 v1 v2 v3 h0 n0 Z0 E_a F_what F_bytes F_position F_end V_t hpe hpN) hZ (hw _ (List.mem_of_getElem? (i := 46) rfl)) (hw _ (List.mem_of_getElem? (i := 3) rfl)) (by decide) (by decide)) q173a q173c (g := (mkF m 1 #[.val (.ref a), .val (.int tg), .unset, .unset, .unset, .unset, .unset, .unset] [(.ref a)])) rfl (by rw [hml]; rfl) (Steps.refl _) (argsL := []) (rest := []) (lenOf pd_0 rfl) rfl (by show 2 * 0 + _ ≤ _; exact Nat.le_of_eq rfl) (hb hby dhd2_1) (fun _ _ => ⟨rfl, e0, (by decide : 0 + 0 ≤ _), (by decide : 0 + 0 ≤ _)⟩)
  dsimp only [Pt.U, Pt.locs, Pt.cells, Pt.slots] at X173 l173 y173 z173 st173 hQ173
  subst l173 y173 z173
  obtain ⟨rfl, Nq173, eq1⟩ := hQ173
  have N173 := Fr.app N0 Nq173
  have k173 : Kt p e below m (s₁.setTop (entryFrame m #[(.ref a), (.int tg)] 8)) T173 4 #[.val (.ref a), .val (.int tg), .unset, .unset, .unset, .unset, .unset, .unset] [(.int (v2 &&& (255 : Int32)))] := fun t ht => k172 t (st173.trans ht)
  have f174 : n0 ≤ T173.heap.size := by rw [eq1]; exact Z0
  have f175 : Exa Z T173.heap a "com/example/subscriptor/subscriptor/Der" := by rw [eq1]; exact E_a
  have f176 : Fld Z T173.heap a "com/example/subscriptor/subscriptor/Der" "what" "Ljava/lang/String;" (.ref st) := by rw [eq1]; exact F_what
  have f177 : Fld Z T173.heap a "com/example/subscriptor/subscriptor/Der" "bytes" "[B" (.ref tb) := by rw [eq1]; exact F_bytes
  have f178 : Fld Z T173.heap a "com/example/subscriptor/subscriptor/Der" "position" "I" (.int (2 : Int32)) := by rw [eq1]; exact F_position
  have f179 : Fld Z T173.heap a "com/example/subscriptor/subscriptor/Der" "end" "I" (.int en) := by rw [eq1]; exact F_end
  have f180 : Arv Z T173.heap tb kb .byte N [(.int v0), (.int v1), (.int v2), (.int v3)] (.int (0 : Int32)) := by rw [eq1]; exact V_t
  have f181 : Keep h0 T173.heap [a] := by rw [eq1]; exact K0
  rw [htag] at k173
  have k182 : Kt p e below m (s₁.setTop (entryFrame m #[(.ref a), (.int tg)] 8)) T173 39 #[.val (.ref a), .val (.int tg), .val (.int tg), .unset, .unset, .unset, .unset, .unset] [(.ref a)] := by
    intro t ht
    refine k173 t ?_
    show Steps p.tables e below (T173.setTop (mkF m 4 #[.val (.ref a), .val (.int tg), .unset, .unset, .unset, .unset, .unset, .unset] [(.int tg)])) t
    refine XS.istoreN X173.here hx rfl (hb hby dhd2_4) rfl (l' := #[.val (.ref a), .val (.int tg), .val (.int tg), .unset, .unset, .unset, .unset, .unset]) rfl ?_
    show Steps p.tables e below (T173.setTop (mkF m 5 #[.val (.ref a), .val (.int tg), .val (.int tg), .unset, .unset, .unset, .unset, .unset] [])) t
    refine XS.iloadN X173.here hx rfl (hb hby dhd2_5) rfl ?_
    show Steps p.tables e below (T173.setTop (mkF m 6 #[.val (.ref a), .val (.int tg), .val (.int tg), .unset, .unset, .unset, .unset, .unset] [(.int tg)])) t
    refine XS.iloadN X173.here hx rfl (hb hby dhd2_6) rfl ?_
    show Steps p.tables e below (T173.setTop (mkF m 7 #[.val (.ref a), .val (.int tg), .val (.int tg), .unset, .unset, .unset, .unset, .unset] [(.int tg), (.int tg)])) t
    refine XS.icmpYes X173.here hx rfl (pc0 := 7) (pc' := 38) rfl (hb hby dhd2_7) rfl (teq rfl).1 (by decide) (by decide) ?_
    show Steps p.tables e below (T173.setTop (mkF m 38 #[.val (.ref a), .val (.int tg), .val (.int tg), .unset, .unset, .unset, .unset, .unset] [])) t
    refine XS.aloadN X173.here hx rfl (hb hby dhd2_38) rfl rfl ?_
    exact ht
  obtain ⟨T183, X183, e183, st183⟩ := getF X173 hx hZ hown (host := "") (Or.inl (hw _ (List.mem_of_getElem? (i := 24) rfl))) Via.refl rfl f178 (g := (mkF m 39 #[.val (.ref a), .val (.int tg), .val (.int tg), .unset, .unset, .unset, .unset, .unset] [(.ref a)])) rfl rfl (hb hby dhd2_39)
  have k183 : Kt p e below m (s₁.setTop (entryFrame m #[(.ref a), (.int tg)] 8)) T183 42 #[.val (.ref a), .val (.int tg), .val (.int tg), .unset, .unset, .unset, .unset, .unset] [(.int (2 : Int32))] := fun t ht => k182 t (st183 t ht)
  have k184 : Kt p e below m (s₁.setTop (entryFrame m #[(.ref a), (.int tg)] 8)) T183 44 #[.val (.ref a), .val (.int tg), .val (.int tg), .unset, .unset, .unset, .unset, .unset] [(.int ((2 : Int32) + (1 : Int32)))] := by
    intro t ht
    refine k183 t ?_
    show Steps p.tables e below (T183.setTop (mkF m 42 #[.val (.ref a), .val (.int tg), .val (.int tg), .unset, .unset, .unset, .unset, .unset] [(.int (2 : Int32))])) t
    refine XS.iconst X183.here hx rfl (hb hby dhd2_42) ?_
    show Steps p.tables e below (T183.setTop (mkF m 43 #[.val (.ref a), .val (.int tg), .val (.int tg), .unset, .unset, .unset, .unset, .unset] [(.int (1 : Int32)), (.int (2 : Int32))])) t
    refine XS.iadd X183.here hx rfl (hb hby dhd2_43) rfl ?_
    exact ht
  have q185 : ((2 : Int32) + (1 : Int32)) = (3 : Int32) := by decide
  rw [q185] at k184
  have k186 : Kt p e below m (s₁.setTop (entryFrame m #[(.ref a), (.int tg)] 8)) T183 47 #[.val (.ref a), .val (.int tg), .val (.int tg), .val (.int (3 : Int32)), .unset, .unset, .unset, .unset] [(.ref a), (.int (3 : Int32))] := by
    intro t ht
    refine k184 t ?_
    show Steps p.tables e below (T183.setTop (mkF m 44 #[.val (.ref a), .val (.int tg), .val (.int tg), .unset, .unset, .unset, .unset, .unset] [(.int (3 : Int32))])) t
    refine XS.istoreN X183.here hx rfl (hb hby dhd2_44) rfl (l' := #[.val (.ref a), .val (.int tg), .val (.int tg), .val (.int (3 : Int32)), .unset, .unset, .unset, .unset]) rfl ?_
    show Steps p.tables e below (T183.setTop (mkF m 45 #[.val (.ref a), .val (.int tg), .val (.int tg), .val (.int (3 : Int32)), .unset, .unset, .unset, .unset] [])) t
    refine XS.iloadN X183.here hx rfl (hb hby dhd2_45) rfl ?_
    show Steps p.tables e below (T183.setTop (mkF m 46 #[.val (.ref a), .val (.int tg), .val (.int tg), .val (.int (3 : Int32)), .unset, .unset, .unset, .unset] [(.int (3 : Int32))])) t
    refine XS.aloadN X183.here hx rfl (hb hby dhd2_46) rfl rfl ?_
    exact ht
  obtain ⟨T187, X187, e187, st187⟩ := getF X183 hx hZ hown (host := "") (Or.inl (hw _ (List.mem_of_getElem? (i := 26) rfl))) Via.refl e183 f179 (g := (mkF m 47 #[.val (.ref a), .val (.int tg), .val (.int tg), .val (.int (3 : Int32)), .unset, .unset, .unset, .unset] [(.ref a), (.int (3 : Int32))])) rfl rfl (hb hby dhd2_47)
  have k187 : Kt p e below m (s₁.setTop (entryFrame m #[(.ref a), (.int tg)] 8)) T187 50 #[.val (.ref a), .val (.int tg), .val (.int tg), .val (.int (3 : Int32)), .unset, .unset, .unset, .unset] [(.int en), (.int (3 : Int32))] := fun t ht => k186 t (st187 t ht)
  have k188 : Kt p e below m (s₁.setTop (entryFrame m #[(.ref a), (.int tg)] 8)) T187 61 #[.val (.ref a), .val (.int tg), .val (.int tg), .val (.int (3 : Int32)), .unset, .unset, .unset, .unset] [(.ref a)] := by
    intro t ht
    refine k187 t ?_
    show Steps p.tables e below (T187.setTop (mkF m 50 #[.val (.ref a), .val (.int tg), .val (.int tg), .val (.int (3 : Int32)), .unset, .unset, .unset, .unset] [(.int en), (.int (3 : Int32))])) t
    refine XS.icmpYes X187.here hx rfl (pc0 := 50) (pc' := 60) rfl (hb hby dhd2_50) rfl (tlt hpe1).1 (by decide) (by decide) ?_
    show Steps p.tables e below (T187.setTop (mkF m 60 #[.val (.ref a), .val (.int tg), .val (.int tg), .val (.int (3 : Int32)), .unset, .unset, .unset, .unset] [])) t
    refine XS.aloadN X187.here hx rfl (hb hby dhd2_60) rfl rfl ?_
    exact ht
  obtain ⟨T189, X189, e189, st189⟩ := getF X187 hx hZ hown (host := "") (Or.inl (hw _ (List.mem_of_getElem? (i := 22) rfl))) Via.refl e187 f177 (g := (mkF m 61 #[.val (.ref a), .val (.int tg), .val (.int tg), .val (.int (3 : Int32)), .unset, .unset, .unset, .unset] [(.ref a)])) rfl rfl (hb hby dhd2_61)
  have k189 : Kt p e below m (s₁.setTop (entryFrame m #[(.ref a), (.int tg)] 8)) T189 64 #[.val (.ref a), .val (.int tg), .val (.int tg), .val (.int (3 : Int32)), .unset, .unset, .unset, .unset] [(.ref tb)] := fun t ht => k188 t (st189 t ht)
  have k190 : Kt p e below m (s₁.setTop (entryFrame m #[(.ref a), (.int tg)] 8)) T189 68 #[.val (.ref a), .val (.int tg), .val (.int tg), .val (.int ((3 : Int32) + (1 : Int32))), .unset, .unset, .unset, .unset] [(.int (3 : Int32)), (.ref tb)] := by
    intro t ht
    refine k189 t ?_
    show Steps p.tables e below (T189.setTop (mkF m 64 #[.val (.ref a), .val (.int tg), .val (.int tg), .val (.int (3 : Int32)), .unset, .unset, .unset, .unset] [(.ref tb)])) t
    refine XS.iloadN X189.here hx rfl (hb hby dhd2_64) rfl ?_
    show Steps p.tables e below (T189.setTop (mkF m 65 #[.val (.ref a), .val (.int tg), .val (.int tg), .val (.int (3 : Int32)), .unset, .unset, .unset, .unset] [(.int (3 : Int32)), (.ref tb)])) t
    refine XS.iinc X189.here hx rfl (hb hby dhd2_65) rfl (l' := #[.val (.ref a), .val (.int tg), .val (.int tg), .val (.int ((3 : Int32) + (1 : Int32))), .unset, .unset, .unset, .unset]) rfl ?_
    exact ht
  have q191 : ((3 : Int32) + (1 : Int32)) = (4 : Int32) := by decide
  rw [q191] at k190
  obtain ⟨cl192, Ar192, qc192, Sz192, Nn192, Hh192, Gg192⟩ := id f180
  have hin192 : ¬ ((3 : Int32) < 0 ∨ cl192.slots.size ≤ ((3 : Int32)).toNatClampNeg) := inb_of Sz192 ⟨by decide, hpN1⟩
  have hat192 : cl192.slots[((3 : Int32)).toNatClampNeg]? = some (.int v3) := Hh192.at hin192 rfl
  have k193 : Kt p e below m (s₁.setTop (entryFrame m #[(.ref a), (.int tg)] 8)) T189 73 #[.val (.ref a), .val (.int tg), .val (.int tg), .val (.int (4 : Int32)), .unset, .unset, .unset, .unset] [(.int (v3 &&& (255 : Int32)))] := by
    intro t ht
    refine k190 t ?_
    show Steps p.tables e below (T189.setTop (mkF m 68 #[.val (.ref a), .val (.int tg), .val (.int tg), .val (.int (4 : Int32)), .unset, .unset, .unset, .unset] [(.int (3 : Int32)), (.ref tb)])) t
    refine X189.baloadBytes hx (j := (3 : Int32)) (v := (.int v3)) (by rw [e189]; exact Ar192.1) (State.isArrayOf_alike hZ.alike Ar192.2.1) Ar192.2.2 hin192 hat192 (g := (mkF m 68 #[.val (.ref a), .val (.int tg), .val (.int tg), .val (.int (4 : Int32)), .unset, .unset, .unset, .unset] [(.int (3 : Int32)), (.ref tb)])) rfl rfl (hb hby dhd2_68) _ ?_
    show Steps p.tables e below (T189.setTop (mkF m 69 #[.val (.ref a), .val (.int tg), .val (.int tg), .val (.int (4 : Int32)), .unset, .unset, .unset, .unset] [(.int v3)])) t
    refine XS.sipush X189.here hx rfl (hb hby dhd2_69) ?_
    show Steps p.tables e below (T189.setTop (mkF m 72 #[.val (.ref a), .val (.int tg), .val (.int tg), .val (.int (4 : Int32)), .unset, .unset, .unset, .unset] [(.int (255 : Int32)), (.int v3)])) t
    refine XS.iand X189.here hx rfl (hb hby dhd2_72) rfl ?_
    exact ht
  rw [hlen] at k193
  have k194 : Kt p e below m (s₁.setTop (entryFrame m #[(.ref a), (.int tg)] 8)) T189 166 #[.val (.ref a), .val (.int tg), .val (.int tg), .val (.int (4 : Int32)), .val (.long (len.toInt64)), .second, .unset, .unset] [(.ref a), (.long (len.toInt64))] := by
    intro t ht
    refine k193 t ?_
    show Steps p.tables e below (T189.setTop (mkF m 73 #[.val (.ref a), .val (.int tg), .val (.int tg), .val (.int (4 : Int32)), .unset, .unset, .unset, .unset] [(.int len)])) t
    refine XS.i2l X189.here hx rfl (hb hby dhd2_73) rfl ?_
    show Steps p.tables e below (T189.setTop (mkF m 74 #[.val (.ref a), .val (.int tg), .val (.int tg), .val (.int (4 : Int32)), .unset, .unset, .unset, .unset] [(.long (len.toInt64))])) t
    refine XS.lstore X189.here hx rfl (hb hby dhd2_74) rfl (l' := #[.val (.ref a), .val (.int tg), .val (.int tg), .val (.int (4 : Int32)), .val (.long (len.toInt64)), .second, .unset, .unset]) rfl ?_
    show Steps p.tables e below (T189.setTop (mkF m 76 #[.val (.ref a), .val (.int tg), .val (.int tg), .val (.int (4 : Int32)), .val (.long (len.toInt64)), .second, .unset, .unset] [])) t
    refine XS.lload X189.here hx rfl (hb hby dhd2_76) rfl ?_
    show Steps p.tables e below (T189.setTop (mkF m 78 #[.val (.ref a), .val (.int tg), .val (.int tg), .val (.int (4 : Int32)), .val (.long (len.toInt64)), .second, .unset, .unset] [(.long (len.toInt64))])) t
    refine X189.ldc2Long hx hown (mvT hZ (hw _ (List.mem_of_getElem? (i := 48) rfl))) (g := (mkF m 78 #[.val (.ref a), .val (.int tg), .val (.int tg), .val (.int (4 : Int32)), .val (.long (len.toInt64)), .second, .unset, .unset] [(.long (len.toInt64))])) rfl (hb hby dhd2_78) _ ?_
    show Steps p.tables e below (T189.setTop (mkF m 81 #[.val (.ref a), .val (.int tg), .val (.int tg), .val (.int (4 : Int32)), .val (.long (len.toInt64)), .second, .unset, .unset] [(.long (127 : Int64)), (.long (len.toInt64))])) t
    refine XS.lcmp X189.here hx rfl (hb hby dhd2_81) rfl ?_
    show Steps p.tables e below (T189.setTop (mkF m 82 #[.val (.ref a), .val (.int tg), .val (.int tg), .val (.int (4 : Int32)), .val (.long (len.toInt64)), .second, .unset, .unset] [(.int (lcmpW (len.toInt64) (127 : Int64)))])) t
    refine XS.ifYes X189.here hx rfl (pc0 := 82) (pc' := 163) rfl (hb hby dhd2_82) rfl ((if0 _ _).trans (flt (mt (lw_gt _ _).mp h127)).2.2.2) (by decide) (by decide) ?_
    show Steps p.tables e below (T189.setTop (mkF m 163 #[.val (.ref a), .val (.int tg), .val (.int tg), .val (.int (4 : Int32)), .val (.long (len.toInt64)), .second, .unset, .unset] [])) t
    refine XS.lload X189.here hx rfl (hb hby dhd2_163) rfl ?_
    show Steps p.tables e below (T189.setTop (mkF m 165 #[.val (.ref a), .val (.int tg), .val (.int tg), .val (.int (4 : Int32)), .val (.long (len.toInt64)), .second, .unset, .unset] [(.long (len.toInt64))])) t
    refine XS.aloadN X189.here hx rfl (hb hby dhd2_165) rfl rfl ?_
    exact ht
  obtain ⟨T195, X195, e195, st195⟩ := getF X189 hx hZ hown (host := "") (Or.inl (hw _ (List.mem_of_getElem? (i := 26) rfl))) Via.refl e189 f179 (g := (mkF m 166 #[.val (.ref a), .val (.int tg), .val (.int tg), .val (.int (4 : Int32)), .val (.long (len.toInt64)), .second, .unset, .unset] [(.ref a), (.long (len.toInt64))])) rfl rfl (hb hby dhd2_166)
  have k195 : Kt p e below m (s₁.setTop (entryFrame m #[(.ref a), (.int tg)] 8)) T195 169 #[.val (.ref a), .val (.int tg), .val (.int tg), .val (.int (4 : Int32)), .val (.long (len.toInt64)), .second, .unset, .unset] [(.int en), (.long (len.toInt64))] := fun t ht => k194 t (st195 t ht)
  have k196 : Kt p e below m (s₁.setTop (entryFrame m #[(.ref a), (.int tg)] 8)) T195 185 #[.val (.ref a), .val (.int tg), .val (.int tg), .val (.int (4 : Int32)), .val (.long (len.toInt64)), .second, .unset, .unset] [(.int (4 : Int32)), (.ref a)] := by
    intro t ht
    refine k195 t ?_
    show Steps p.tables e below (T195.setTop (mkF m 169 #[.val (.ref a), .val (.int tg), .val (.int tg), .val (.int (4 : Int32)), .val (.long (len.toInt64)), .second, .unset, .unset] [(.int en), (.long (len.toInt64))])) t
    refine XS.iloadN X195.here hx rfl (hb hby dhd2_169) rfl ?_
    show Steps p.tables e below (T195.setTop (mkF m 170 #[.val (.ref a), .val (.int tg), .val (.int tg), .val (.int (4 : Int32)), .val (.long (len.toInt64)), .second, .unset, .unset] [(.int (4 : Int32)), (.int en), (.long (len.toInt64))])) t
    refine XS.isub X195.here hx rfl (hb hby dhd2_170) rfl ?_
    show Steps p.tables e below (T195.setTop (mkF m 171 #[.val (.ref a), .val (.int tg), .val (.int tg), .val (.int (4 : Int32)), .val (.long (len.toInt64)), .second, .unset, .unset] [(.int (en - (4 : Int32))), (.long (len.toInt64))])) t
    refine XS.i2l X195.here hx rfl (hb hby dhd2_171) rfl ?_
    show Steps p.tables e below (T195.setTop (mkF m 172 #[.val (.ref a), .val (.int tg), .val (.int tg), .val (.int (4 : Int32)), .val (.long (len.toInt64)), .second, .unset, .unset] [(.long ((en - (4 : Int32)).toInt64)), (.long (len.toInt64))])) t
    refine XS.lcmp X195.here hx rfl (hb hby dhd2_172) rfl ?_
    show Steps p.tables e below (T195.setTop (mkF m 173 #[.val (.ref a), .val (.int tg), .val (.int tg), .val (.int (4 : Int32)), .val (.long (len.toInt64)), .second, .unset, .unset] [(.int (lcmpW (len.toInt64) ((en - (4 : Int32)).toInt64)))])) t
    refine XS.ifYes X195.here hx rfl (pc0 := 173) (pc' := 183) rfl (hb hby dhd2_173) rfl ((if0 _ _).trans (flt (mt (lw_gt _ _).mp hle)).2.2.2) (by decide) (by decide) ?_
    show Steps p.tables e below (T195.setTop (mkF m 183 #[.val (.ref a), .val (.int tg), .val (.int tg), .val (.int (4 : Int32)), .val (.long (len.toInt64)), .second, .unset, .unset] [])) t
    refine XS.aloadN X195.here hx rfl (hb hby dhd2_183) rfl rfl ?_
    show Steps p.tables e below (T195.setTop (mkF m 184 #[.val (.ref a), .val (.int tg), .val (.int tg), .val (.int (4 : Int32)), .val (.long (len.toInt64)), .second, .unset, .unset] [(.ref a)])) t
    refine XS.iloadN X195.here hx rfl (hb hby dhd2_184) rfl ?_
    exact ht
  obtain ⟨T197, h197, X197, e197, W197, st197⟩ := putF X195 hx hZ hown (host := "") (Or.inl (hw _ (List.mem_of_getElem? (i := 24) rfl))) Via.refl e195 f178 f175 (Or.inl (hw _ (List.mem_of_getElem? (i := 25) rfl))) (hw _ (List.mem_of_getElem? (i := 2) rfl)) (ty := .int) (by decide) rfl rfl (g := (mkF m 185 #[.val (.ref a), .val (.int tg), .val (.int tg), .val (.int (4 : Int32)), .val (.long (len.toInt64)), .second, .unset, .unset] [(.int (4 : Int32)), (.ref a)])) rfl rfl (hb hby dhd2_185)
  have N197 := Fr.snoc X197 N173 g_a
  have f198 : n0 ≤ h197.size := Nat.le_trans f174 (Keep.of_wr W197).1
  have f199 : Exa Z h197 a "com/example/subscriptor/subscriptor/Der" := f175.wr W197
  have f200 : Fld Z h197 a "com/example/subscriptor/subscriptor/Der" "what" "Ljava/lang/String;" (.ref st) := f176.other W197 (Or.inr (slot_ne (Or.inr (hw _ (List.mem_of_getElem? (i := 21) rfl))) (Or.inl (hw _ (List.mem_of_getElem? (i := 25) rfl))) (by decide) (t := (.object "java/lang/String")) (t' := .int) (by decide) (by decide)))
  have f201 : Fld Z h197 a "com/example/subscriptor/subscriptor/Der" "bytes" "[B" (.ref tb) := f177.other W197 (Or.inr (slot_ne (Or.inr (hw _ (List.mem_of_getElem? (i := 23) rfl))) (Or.inl (hw _ (List.mem_of_getElem? (i := 25) rfl))) (by decide) (t := (.array .byte)) (t' := .int) (by decide) (by decide)))
  have f202 : Fld Z h197 a "com/example/subscriptor/subscriptor/Der" "position" "I" (.int (4 : Int32)) := f178.same W197
  have f203 : Fld Z h197 a "com/example/subscriptor/subscriptor/Der" "end" "I" (.int en) := f179.other W197 (Or.inr (slot_ne (Or.inr (hw _ (List.mem_of_getElem? (i := 27) rfl))) (Or.inl (hw _ (List.mem_of_getElem? (i := 25) rfl))) (by decide) (t := .int) (t' := .int) (by decide) (by decide)))
  have f204 : Arv Z h197 tb kb .byte N [(.int v0), (.int v1), (.int v2), (.int v3)] (.int (0 : Int32)) := f180.other W197 ne_a_tb.symm
  have f205 : Keep h0 h197 [a] := f181.wr W197 (Or.inl (List.mem_of_getElem? (i := 0) rfl))
  have k197 : Kt p e below m (s₁.setTop (entryFrame m #[(.ref a), (.int tg)] 8)) T197 188 #[.val (.ref a), .val (.int tg), .val (.int tg), .val (.int (4 : Int32)), .val (.long (len.toInt64)), .second, .unset, .unset] [] := fun t ht => k196 t (st197 t ht)
  have k206 : Kt p e below m (s₁.setTop (entryFrame m #[(.ref a), (.int tg)] 8)) T197 191 #[.val (.ref a), .val (.int tg), .val (.int tg), .val (.int (4 : Int32)), .val (.long (len.toInt64)), .second, .unset, .unset] [(.int ((len.toInt64).toInt32))] := by
    intro t ht
    refine k197 t ?_
    show Steps p.tables e below (T197.setTop (mkF m 188 #[.val (.ref a), .val (.int tg), .val (.int tg), .val (.int (4 : Int32)), .val (.long (len.toInt64)), .second, .unset, .unset] [])) t
    refine XS.lload X197.here hx rfl (hb hby dhd2_188) rfl ?_
    show Steps p.tables e below (T197.setTop (mkF m 190 #[.val (.ref a), .val (.int tg), .val (.int tg), .val (.int (4 : Int32)), .val (.long (len.toInt64)), .second, .unset, .unset] [(.long (len.toInt64))])) t
    refine XS.l2i X197.here hx rfl (hb hby dhd2_190) rfl ?_
    exact ht
  rw [own_l2i] at k206
  obtain ⟨fs, hr, hrun, hended, hW, hsame⟩ := X197.leave (v := some (.int len)) (fun h => by rw [Bd.returns] at h; cases h)
  refine ⟨_, _, k206 _ ?_, hrun, hended, _, _, rfl, ?_, ⟨_, rfl⟩, hW, hsame.mono (by decide) (by decide)⟩
  · exact retI X197 hx Bd.returns (hb hby dhd2_191) hr
  · show Qhd2 Z a st tb kb N en v0 v1 v2 v3 tg len h0 n0 _ T197.heap _
    rw [e197]
    exact ⟨rfl, N197, f205, f200, f201, f202, f203⟩
theorem drd2_0 : decode prog_16_method_5_code 0 = .ok (.aload_n 0, 1) := by decide +kernel
theorem drd2_1 : decode prog_16_method_5_code 1 = .ok (.iload_n 1, 1) := by decide +kernel
theorem drd2_2 : decode prog_16_method_5_code 2 = .ok (.invokevirtual 37, 3) := by decide +kernel
theorem drd2_5 : decode prog_16_method_5_code 5 = .ok (.istore_n 2, 1) := by decide +kernel
theorem drd2_6 : decode prog_16_method_5_code 6 = .ok (.aload_n 0, 1) := by decide +kernel
theorem drd2_7 : decode prog_16_method_5_code 7 = .ok (.dup, 1) := by decide +kernel
theorem drd2_8 : decode prog_16_method_5_code 8 = .ok (.getfield 20, 3) := by decide +kernel
theorem drd2_11 : decode prog_16_method_5_code 11 = .ok (.iload_n 2, 1) := by decide +kernel
theorem drd2_12 : decode prog_16_method_5_code 12 = .ok (.iadd, 1) := by decide +kernel
theorem drd2_13 : decode prog_16_method_5_code 13 = .ok (.putfield 20, 3) := by decide +kernel
theorem drd2_16 : decode prog_16_method_5_code 16 = .ok (.new 2, 3) := by decide +kernel
theorem drd2_19 : decode prog_16_method_5_code 19 = .ok (.dup, 1) := by decide +kernel
theorem drd2_20 : decode prog_16_method_5_code 20 = .ok (.aload_n 0, 1) := by decide +kernel
theorem drd2_21 : decode prog_16_method_5_code 21 = .ok (.getfield 12, 3) := by decide +kernel
theorem drd2_24 : decode prog_16_method_5_code 24 = .ok (.aload_n 0, 1) := by decide +kernel
theorem drd2_25 : decode prog_16_method_5_code 25 = .ok (.getfield 16, 3) := by decide +kernel
theorem drd2_28 : decode prog_16_method_5_code 28 = .ok (.aload_n 0, 1) := by decide +kernel
theorem drd2_29 : decode prog_16_method_5_code 29 = .ok (.getfield 20, 3) := by decide +kernel
theorem drd2_32 : decode prog_16_method_5_code 32 = .ok (.iload_n 2, 1) := by decide +kernel
theorem drd2_33 : decode prog_16_method_5_code 33 = .ok (.isub, 1) := by decide +kernel
theorem drd2_34 : decode prog_16_method_5_code 34 = .ok (.aload_n 0, 1) := by decide +kernel
theorem drd2_35 : decode prog_16_method_5_code 35 = .ok (.getfield 20, 3) := by decide +kernel
theorem drd2_38 : decode prog_16_method_5_code 38 = .ok (.invokespecial 1, 3) := by decide +kernel
theorem drd2_41 : decode prog_16_method_5_code 41 = .ok (.areturn, 1) := by decide +kernel
theorem pnrd2 : plainName "com/example/subscriptor/subscriptor/Der" = true := by first | (simp [plainName, overriddenIn]; done) | decide +kernel
theorem efrd2 (m : MethodId) (a : Addr) (tg : Int32) : entryFrame m #[(.ref a), (.int tg)] 3 = mkF m 0 #[.val (.ref a), .val (.int tg), .unset] [] := by first | (simp [entryFrame, mkF, argsToLocals, Value.category]; done) | rfl
def Qrd2 (Z : State) (a : Addr) (st : Addr) (tb : Addr) (kb : ClassId) (N : Int32) (en : Int32) (v0 : Int32) (v1 : Int32) (v2 : Int32) (v3 : Int32) (tg : Int32) (len : Int32) (h0 : Heap) (n0 : Nat) (v : Option Value) (h : Heap) (L : List Loc) : Prop := ∃ r, v = some (.ref r) ∧ Fr n0 L ∧ Keep h0 h [a] ∧ h0.size ≤ r ∧ Exa Z h r "com/example/subscriptor/subscriptor/Der" ∧ Fld Z h a "com/example/subscriptor/subscriptor/Der" "what" "Ljava/lang/String;" (.ref st) ∧ Fld Z h a "com/example/subscriptor/subscriptor/Der" "bytes" "[B" (.ref tb) ∧ Fld Z h a "com/example/subscriptor/subscriptor/Der" "position" "I" (.int ((4 : Int32) + len)) ∧ Fld Z h a "com/example/subscriptor/subscriptor/Der" "end" "I" (.int en) ∧ Fld Z h r "com/example/subscriptor/subscriptor/Der" "what" "Ljava/lang/String;" (.ref st) ∧ Fld Z h r "com/example/subscriptor/subscriptor/Der" "bytes" "[B" (.ref tb) ∧ Fld Z h r "com/example/subscriptor/subscriptor/Der" "position" "I" (.int (4 : Int32)) ∧ Fld Z h r "com/example/subscriptor/subscriptor/Der" "end" "I" (.int ((4 : Int32) + len))
set_option maxRecDepth 65536 in
set_option maxHeartbeats 40000000 in
theorem rmrd2 (l : Launch) (Z : State) (a0 : Array Value) (hw : ∀ d ∈ tables_1, d.before a0 Z = true) (ws : List Jvm.Cond) (a : Addr) (st : Addr) (tb : Addr) (kb : ClassId) (N : Int32) (en : Int32) (v0 : Int32) (v1 : Int32) (v2 : Int32) (v3 : Int32) (tg : Int32) (len : Int32) (h0 : Heap) (n0 : Nat) (Z0 : n0 ≤ h0.size) (E_a : Exa Z h0 a "com/example/subscriptor/subscriptor/Der") (F_what : Fld Z h0 a "com/example/subscriptor/subscriptor/Der" "what" "Ljava/lang/String;" (.ref st)) (F_bytes : Fld Z h0 a "com/example/subscriptor/subscriptor/Der" "bytes" "[B" (.ref tb)) (F_position : Fld Z h0 a "com/example/subscriptor/subscriptor/Der" "position" "I" (.int (2 : Int32))) (F_end : Fld Z h0 a "com/example/subscriptor/subscriptor/Der" "end" "I" (.int en)) (V_t : Arv Z h0 tb kb .byte N [(.int v0), (.int v1), (.int v2), (.int v3)] (.int (0 : Int32))) (ne_a_tb : a ≠ tb) (g_a : n0 ≤ a) (hpe : (2 : Int32) < en) (hpe1 : (3 : Int32) < en) (hpN : (2 : Int32) < N) (hpN1 : (3 : Int32) < N) (htag : (v2 &&& (255 : Int32)) = tg) (hlen : (v3 &&& (255 : Int32)) = len) (h127 : ¬ (127 : Int64) < (len.toInt64)) (hle : ¬ ((en - (4 : Int32)).toInt64) < (len.toInt64)) :
    MetFree l (⟨"com/example/subscriptor/subscriptor/Der", "read", "(I)Lcom/example/subscriptor/subscriptor/Der;"⟩ : MethodName) (head1 (Jvm.Cond.code (⟨"com/example/subscriptor/subscriptor/Der", "read", "(I)Lcom/example/subscriptor/subscriptor/Der;"⟩ : MethodName) prog_16_method_5_code 3 (some (.object "com/example/subscriptor/subscriptor/Der")) :: ws) ({ frames := 3, cells := 1, slots := 4, locals := 43 } : Room)) (fun gs' U => gs' = #[(.ref a), (.int tg)] ∧ Z.Warmed39 U.vm ∧ U.heap = h0) (fun _ _ _ _ _ => True) (fun _ U o U' => ∃ v L, o = .returned v ∧ Qrd2 Z a st tb kb N en v0 v1 v2 v3 tg len h0 n0 v U'.heap L ∧ FrameEnd U o U' L ({ frames := 3, cells := 1, slots := 4, locals := 43 } : Room).cells ({ frames := 3, cells := 1, slots := 4, locals := 43 } : Room).slots) := by
  refine MetFree.of_bodySF (plainFor_of_name pnrd2) hisR ?_
  intro p e s m args below meth c s₁ Bd hml0 hP hK
  obtain ⟨rfl, hZ, hh⟩ := hP
  have hx := Bd.exec
  have hby := Bd.bytes
  have hml : c.maxLocals = 3 := hml0
  have hown : s.vm.findClass "com/example/subscriptor/subscriptor/Der" = some m.cls := findClass_of_methodNamed Bd.named
  have hnm := (name_of_methodNamed Bd.named Bd.method).1
  have X0 : Stand p l e ({ frames := 3, cells := 1, slots := 4, locals := 43 } : Room) s m #[(.ref a), (.int tg)] below meth c s₁ [] 0 0 := Stand.of_body Bd
  have e0 : s₁.heap = h0 := by rw [← hh, Bd.state]; rfl
  have N0 := Fr.nil n0
  have k0 : Kt p e below m (s₁.setTop (entryFrame m #[(.ref a), (.int tg)] 3)) s₁ 0 #[.val (.ref a), .val (.int tg), .unset] [] := fun t ht => castTop (efrd2 m a tg) ht
  have K0 : Keep h0 h0 [a] := Keep.refl _ _
  have k207 : Kt p e below m (s₁.setTop (entryFrame m #[(.ref a), (.int tg)] 3)) s₁ 2 #[.val (.ref a), .val (.int tg), .unset] [(.int tg), (.ref a)] := by
    intro t ht
    refine k0 t ?_
    show Steps p.tables e below (s₁.setTop (mkF m 0 #[.val (.ref a), .val (.int tg), .unset] [])) t
    refine XS.aloadN X0.here hx rfl (hb hby drd2_0) rfl rfl ?_
    show Steps p.tables e below (s₁.setTop (mkF m 1 #[.val (.ref a), .val (.int tg), .unset] [(.ref a)])) t
    refine XS.iloadN X0.here hx rfl (hb hby drd2_1) rfl ?_
    exact ht
  obtain ⟨cq208, q208, q208'⟩ := E_a.cell
  obtain ⟨ci208, ki208, wi208, wj208, -, wk208, -⟩ := Cond.instantiable_spec (mvT hZ (hw _ (List.mem_of_getElem? (i := 2) rfl)) (args := #[]))
  have hsl208 := selects_self_of_private (y := (⟨"com/example/subscriptor/subscriptor/Der", "header", "(I)I"⟩ : MethodName)) wi208 wj208 (own_noface wk208) (Cond.privateMethod_at (mvP hZ (hw _ (List.mem_of_getElem? (i := 40) rfl)) (args := #[]))) (mvT hZ (hw _ (List.mem_of_getElem? (i := 39) rfl)) (args := #[(.ref a), (.int tg)])) (by decide)
  obtain ⟨_, _, ⟨T208, L208, c208, n208⟩, -, X208, ⟨Lc208, hQ208, l208, y208, z208⟩, st208⟩ := X0.privateBack hx (y := (⟨"com/example/subscriptor/subscriptor/Der", "header", "(I)I"⟩ : MethodName)) hown (mvT hZ (hw _ (List.mem_of_getElem? (i := 38) rfl))) (mvT hZ (hw _ (List.mem_of_getElem? (i := 39) rfl))) hsl208 (Cond.privateMethod_at (mvP hZ (hw _ (List.mem_of_getElem? (i := 40) rfl)) (args := #[]))) (mvT hZ (hw _ (List.mem_of_getElem? (i := 41) rfl))) (by decide) (backOf (W := 0) (rmhd2 l Z a0 hw [] a st tb kb N en v0 v1 v2 v3 tg len h0 n0 Z0 E_a F_what F_bytes F_position F_end V_t ne_a_tb g_a hpe hpe1 hpN hpN1 htag hlen h127 hle) hZ (hw _ (List.mem_of_getElem? (i := 41) rfl)) (hw _ (List.mem_of_getElem? (i := 3) rfl)) (by decide) (by decide)) (g := (mkF m 2 #[.val (.ref a), .val (.int tg), .unset] [(.int tg), (.ref a)])) rfl (by rw [hml]; rfl) (Steps.refl _) (a := a) (by rw [e0]; exact q208) q208' (argsL := [(.int tg)]) (rest := []) (lenOf pd_3 rfl) rfl (by show 2 * 0 + _ ≤ _; exact Nat.le_of_eq rfl) (hb hby drd2_2) (fun _ _ => ⟨rfl, e0, (by decide : 0 + 0 ≤ _), (by decide : 0 + 0 ≤ _)⟩)
  dsimp only [Pt.U, Pt.locs, Pt.cells, Pt.slots] at X208 l208 y208 z208 st208 hQ208
  subst l208 y208 z208
  obtain ⟨rfl, Nq208, Kp, Fa, Fb, Fc, Fd⟩ := hQ208
  have N208 := Fr.app N0 Nq208
  have k208 : Kt p e below m (s₁.setTop (entryFrame m #[(.ref a), (.int tg)] 3)) T208 5 #[.val (.ref a), .val (.int tg), .unset] [(.int len)] := fun t ht => k207 t (st208.trans ht)
  have f209 : n0 ≤ T208.heap.size := Nat.le_trans Z0 Kp.1
  have f210 : Exa Z T208.heap a "com/example/subscriptor/subscriptor/Der" := E_a.keep Kp
  have f215 : Arv Z T208.heap tb kb .byte N [(.int v0), (.int v1), (.int v2), (.int v3)] (.int (0 : Int32)) := V_t.keep Kp (ninS ne_a_tb.symm nin0)
  have f216 : Keep h0 T208.heap [a] := K0.trans Kp (allS (Or.inl (List.mem_of_getElem? (i := 0) rfl)) all0)
  have k217 : Kt p e below m (s₁.setTop (entryFrame m #[(.ref a), (.int tg)] 3)) T208 8 #[.val (.ref a), .val (.int tg), .val (.int len)] [(.ref a), (.ref a)] := by
    intro t ht
    refine k208 t ?_
    show Steps p.tables e below (T208.setTop (mkF m 5 #[.val (.ref a), .val (.int tg), .unset] [(.int len)])) t
    refine XS.istoreN X208.here hx rfl (hb hby drd2_5) rfl (l' := #[.val (.ref a), .val (.int tg), .val (.int len)]) rfl ?_
    show Steps p.tables e below (T208.setTop (mkF m 6 #[.val (.ref a), .val (.int tg), .val (.int len)] [])) t
    refine XS.aloadN X208.here hx rfl (hb hby drd2_6) rfl rfl ?_
    show Steps p.tables e below (T208.setTop (mkF m 7 #[.val (.ref a), .val (.int tg), .val (.int len)] [(.ref a)])) t
    refine XS.dup X208.here hx rfl (hb hby drd2_7) rfl rfl ?_
    exact ht
  obtain ⟨T218, X218, e218, st218⟩ := getF X208 hx hZ hown (host := "") (Or.inl (hw _ (List.mem_of_getElem? (i := 24) rfl))) Via.refl rfl Fc (g := (mkF m 8 #[.val (.ref a), .val (.int tg), .val (.int len)] [(.ref a), (.ref a)])) rfl rfl (hb hby drd2_8)
  have k218 : Kt p e below m (s₁.setTop (entryFrame m #[(.ref a), (.int tg)] 3)) T218 11 #[.val (.ref a), .val (.int tg), .val (.int len)] [(.int (4 : Int32)), (.ref a)] := fun t ht => k217 t (st218 t ht)
  have k219 : Kt p e below m (s₁.setTop (entryFrame m #[(.ref a), (.int tg)] 3)) T218 13 #[.val (.ref a), .val (.int tg), .val (.int len)] [(.int ((4 : Int32) + len)), (.ref a)] := by
    intro t ht
    refine k218 t ?_
    show Steps p.tables e below (T218.setTop (mkF m 11 #[.val (.ref a), .val (.int tg), .val (.int len)] [(.int (4 : Int32)), (.ref a)])) t
    refine XS.iloadN X218.here hx rfl (hb hby drd2_11) rfl ?_
    show Steps p.tables e below (T218.setTop (mkF m 12 #[.val (.ref a), .val (.int tg), .val (.int len)] [(.int len), (.int (4 : Int32)), (.ref a)])) t
    refine XS.iadd X218.here hx rfl (hb hby drd2_12) rfl ?_
    exact ht
  obtain ⟨T220, h220, X220, e220, W220, st220⟩ := putF X218 hx hZ hown (host := "") (Or.inl (hw _ (List.mem_of_getElem? (i := 24) rfl))) Via.refl e218 Fc f210 (Or.inl (hw _ (List.mem_of_getElem? (i := 25) rfl))) (hw _ (List.mem_of_getElem? (i := 2) rfl)) (ty := .int) (by decide) rfl rfl (g := (mkF m 13 #[.val (.ref a), .val (.int tg), .val (.int len)] [(.int ((4 : Int32) + len)), (.ref a)])) rfl rfl (hb hby drd2_13)
  have N220 := Fr.snoc X220 N208 g_a
  have f221 : n0 ≤ h220.size := Nat.le_trans f209 (Keep.of_wr W220).1
  have f222 : Exa Z h220 a "com/example/subscriptor/subscriptor/Der" := f210.wr W220
  have f223 : Arv Z h220 tb kb .byte N [(.int v0), (.int v1), (.int v2), (.int v3)] (.int (0 : Int32)) := f215.other W220 ne_a_tb.symm
  have f224 : Keep h0 h220 [a] := f216.wr W220 (Or.inl (List.mem_of_getElem? (i := 0) rfl))
  have f225 : Fld Z h220 a "com/example/subscriptor/subscriptor/Der" "what" "Ljava/lang/String;" (.ref st) := Fa.other W220 (Or.inr (slot_ne (Or.inr (hw _ (List.mem_of_getElem? (i := 21) rfl))) (Or.inl (hw _ (List.mem_of_getElem? (i := 25) rfl))) (by decide) (t := (.object "java/lang/String")) (t' := .int) (by decide) (by decide)))
  have f226 : Fld Z h220 a "com/example/subscriptor/subscriptor/Der" "bytes" "[B" (.ref tb) := Fb.other W220 (Or.inr (slot_ne (Or.inr (hw _ (List.mem_of_getElem? (i := 23) rfl))) (Or.inl (hw _ (List.mem_of_getElem? (i := 25) rfl))) (by decide) (t := (.array .byte)) (t' := .int) (by decide) (by decide)))
  have f227 : Fld Z h220 a "com/example/subscriptor/subscriptor/Der" "position" "I" (.int ((4 : Int32) + len)) := Fc.same W220
  have f228 : Fld Z h220 a "com/example/subscriptor/subscriptor/Der" "end" "I" (.int en) := Fd.other W220 (Or.inr (slot_ne (Or.inr (hw _ (List.mem_of_getElem? (i := 27) rfl))) (Or.inl (hw _ (List.mem_of_getElem? (i := 25) rfl))) (by decide) (t := .int) (t' := .int) (by decide) (by decide)))
  have k220 : Kt p e below m (s₁.setTop (entryFrame m #[(.ref a), (.int tg)] 3)) T220 16 #[.val (.ref a), .val (.int tg), .val (.int len)] [] := fun t ht => k219 t (st220 t ht)
  obtain ⟨T229, h229, X229, e229, E229, A229, D229, -, st229⟩ := newO X220 hx hZ hown (hw _ (List.mem_of_getElem? (i := 49) rfl)) (hw _ (List.mem_of_getElem? (i := 2) rfl)) (hw _ (List.mem_of_getElem? (i := 3) rfl)) e220 (g := (mkF m 16 #[.val (.ref a), .val (.int tg), .val (.int len)] [])) rfl (hb hby drd2_16) (by decide) (by decide)
  obtain ⟨r, q229⟩ : ∃ z, z = h220.size := ⟨_, rfl⟩
  have ne_a_r : a ≠ r := by rw [q229]; exact Nat.ne_of_lt f222.lt
  have ne_tb_r : tb ≠ r := by rw [q229]; exact Nat.ne_of_lt f223.lt
  have g_r : n0 ≤ r := by rw [q229]; exact f221
  have sz_r : h0.size ≤ r := by rw [q229]; exact f224.1
  rw [← q229] at A229 D229 st229
  have f230 : n0 ≤ h229.size := Nat.le_trans f221 E229.1
  have f231 : Exa Z h229 a "com/example/subscriptor/subscriptor/Der" := f222.ext E229
  have f232 : Arv Z h229 tb kb .byte N [(.int v0), (.int v1), (.int v2), (.int v3)] (.int (0 : Int32)) := f223.ext E229
  have f233 : Keep h0 h229 [a] := f224.ext E229
  have f234 : Fld Z h229 a "com/example/subscriptor/subscriptor/Der" "what" "Ljava/lang/String;" (.ref st) := f225.ext E229
  have f235 : Fld Z h229 a "com/example/subscriptor/subscriptor/Der" "bytes" "[B" (.ref tb) := f226.ext E229
  have f236 : Fld Z h229 a "com/example/subscriptor/subscriptor/Der" "position" "I" (.int ((4 : Int32) + len)) := f227.ext E229
  have f237 : Fld Z h229 a "com/example/subscriptor/subscriptor/Der" "end" "I" (.int en) := f228.ext E229
  have f229 : Exa Z h229 r "com/example/subscriptor/subscriptor/Der" := A229
  have f238 : Fld Z h229 r "com/example/subscriptor/subscriptor/Der" "what" "Ljava/lang/String;" .null := D229 (Or.inr (hw _ (List.mem_of_getElem? (i := 21) rfl))) (ty := (.object "java/lang/String")) (by decide)
  have f239 : Fld Z h229 r "com/example/subscriptor/subscriptor/Der" "bytes" "[B" .null := D229 (Or.inr (hw _ (List.mem_of_getElem? (i := 23) rfl))) (ty := (.array .byte)) (by decide)
  have f240 : Fld Z h229 r "com/example/subscriptor/subscriptor/Der" "position" "I" (.int (0 : Int32)) := D229 (Or.inl (hw _ (List.mem_of_getElem? (i := 25) rfl))) (ty := .int) (by decide)
  have f241 : Fld Z h229 r "com/example/subscriptor/subscriptor/Der" "end" "I" (.int (0 : Int32)) := D229 (Or.inr (hw _ (List.mem_of_getElem? (i := 27) rfl))) (ty := .int) (by decide)
  have k229 : Kt p e below m (s₁.setTop (entryFrame m #[(.ref a), (.int tg)] 3)) T229 19 #[.val (.ref a), .val (.int tg), .val (.int len)] [(.ref r)] := fun t ht => k220 t (st229 t ht)
  have k242 : Kt p e below m (s₁.setTop (entryFrame m #[(.ref a), (.int tg)] 3)) T229 21 #[.val (.ref a), .val (.int tg), .val (.int len)] [(.ref a), (.ref r), (.ref r)] := by
    intro t ht
    refine k229 t ?_
    show Steps p.tables e below (T229.setTop (mkF m 19 #[.val (.ref a), .val (.int tg), .val (.int len)] [(.ref r)])) t
    refine XS.dup X229.here hx rfl (hb hby drd2_19) rfl rfl ?_
    show Steps p.tables e below (T229.setTop (mkF m 20 #[.val (.ref a), .val (.int tg), .val (.int len)] [(.ref r), (.ref r)])) t
    refine XS.aloadN X229.here hx rfl (hb hby drd2_20) rfl rfl ?_
    exact ht
  obtain ⟨T243, X243, e243, st243⟩ := getF X229 hx hZ hown (host := "") (Or.inl (hw _ (List.mem_of_getElem? (i := 20) rfl))) Via.refl e229 f234 (g := (mkF m 21 #[.val (.ref a), .val (.int tg), .val (.int len)] [(.ref a), (.ref r), (.ref r)])) rfl rfl (hb hby drd2_21)
  have k243 : Kt p e below m (s₁.setTop (entryFrame m #[(.ref a), (.int tg)] 3)) T243 24 #[.val (.ref a), .val (.int tg), .val (.int len)] [(.ref st), (.ref r), (.ref r)] := fun t ht => k242 t (st243 t ht)
  have k244 : Kt p e below m (s₁.setTop (entryFrame m #[(.ref a), (.int tg)] 3)) T243 25 #[.val (.ref a), .val (.int tg), .val (.int len)] [(.ref a), (.ref st), (.ref r), (.ref r)] := by
    intro t ht
    refine k243 t ?_
    show Steps p.tables e below (T243.setTop (mkF m 24 #[.val (.ref a), .val (.int tg), .val (.int len)] [(.ref st), (.ref r), (.ref r)])) t
    refine XS.aloadN X243.here hx rfl (hb hby drd2_24) rfl rfl ?_
    exact ht
  obtain ⟨T245, X245, e245, st245⟩ := getF X243 hx hZ hown (host := "") (Or.inl (hw _ (List.mem_of_getElem? (i := 22) rfl))) Via.refl e243 f235 (g := (mkF m 25 #[.val (.ref a), .val (.int tg), .val (.int len)] [(.ref a), (.ref st), (.ref r), (.ref r)])) rfl rfl (hb hby drd2_25)
  have k245 : Kt p e below m (s₁.setTop (entryFrame m #[(.ref a), (.int tg)] 3)) T245 28 #[.val (.ref a), .val (.int tg), .val (.int len)] [(.ref tb), (.ref st), (.ref r), (.ref r)] := fun t ht => k244 t (st245 t ht)
  have k246 : Kt p e below m (s₁.setTop (entryFrame m #[(.ref a), (.int tg)] 3)) T245 29 #[.val (.ref a), .val (.int tg), .val (.int len)] [(.ref a), (.ref tb), (.ref st), (.ref r), (.ref r)] := by
    intro t ht
    refine k245 t ?_
    show Steps p.tables e below (T245.setTop (mkF m 28 #[.val (.ref a), .val (.int tg), .val (.int len)] [(.ref tb), (.ref st), (.ref r), (.ref r)])) t
    refine XS.aloadN X245.here hx rfl (hb hby drd2_28) rfl rfl ?_
    exact ht
  obtain ⟨T247, X247, e247, st247⟩ := getF X245 hx hZ hown (host := "") (Or.inl (hw _ (List.mem_of_getElem? (i := 24) rfl))) Via.refl e245 f236 (g := (mkF m 29 #[.val (.ref a), .val (.int tg), .val (.int len)] [(.ref a), (.ref tb), (.ref st), (.ref r), (.ref r)])) rfl rfl (hb hby drd2_29)
  have k247 : Kt p e below m (s₁.setTop (entryFrame m #[(.ref a), (.int tg)] 3)) T247 32 #[.val (.ref a), .val (.int tg), .val (.int len)] [(.int ((4 : Int32) + len)), (.ref tb), (.ref st), (.ref r), (.ref r)] := fun t ht => k246 t (st247 t ht)
  have k248 : Kt p e below m (s₁.setTop (entryFrame m #[(.ref a), (.int tg)] 3)) T247 34 #[.val (.ref a), .val (.int tg), .val (.int len)] [(.int (((4 : Int32) + len) - len)), (.ref tb), (.ref st), (.ref r), (.ref r)] := by
    intro t ht
    refine k247 t ?_
    show Steps p.tables e below (T247.setTop (mkF m 32 #[.val (.ref a), .val (.int tg), .val (.int len)] [(.int ((4 : Int32) + len)), (.ref tb), (.ref st), (.ref r), (.ref r)])) t
    refine XS.iloadN X247.here hx rfl (hb hby drd2_32) rfl ?_
    show Steps p.tables e below (T247.setTop (mkF m 33 #[.val (.ref a), .val (.int tg), .val (.int len)] [(.int len), (.int ((4 : Int32) + len)), (.ref tb), (.ref st), (.ref r), (.ref r)])) t
    refine XS.isub X247.here hx rfl (hb hby drd2_33) rfl ?_
    exact ht
  rw [own_as] at k248
  have k249 : Kt p e below m (s₁.setTop (entryFrame m #[(.ref a), (.int tg)] 3)) T247 35 #[.val (.ref a), .val (.int tg), .val (.int len)] [(.ref a), (.int (4 : Int32)), (.ref tb), (.ref st), (.ref r), (.ref r)] := by
    intro t ht
    refine k248 t ?_
    show Steps p.tables e below (T247.setTop (mkF m 34 #[.val (.ref a), .val (.int tg), .val (.int len)] [(.int (4 : Int32)), (.ref tb), (.ref st), (.ref r), (.ref r)])) t
    refine XS.aloadN X247.here hx rfl (hb hby drd2_34) rfl rfl ?_
    exact ht
  obtain ⟨T250, X250, e250, st250⟩ := getF X247 hx hZ hown (host := "") (Or.inl (hw _ (List.mem_of_getElem? (i := 24) rfl))) Via.refl e247 f236 (g := (mkF m 35 #[.val (.ref a), .val (.int tg), .val (.int len)] [(.ref a), (.int (4 : Int32)), (.ref tb), (.ref st), (.ref r), (.ref r)])) rfl rfl (hb hby drd2_35)
  have k250 : Kt p e below m (s₁.setTop (entryFrame m #[(.ref a), (.int tg)] 3)) T250 38 #[.val (.ref a), .val (.int tg), .val (.int len)] [(.int ((4 : Int32) + len)), (.int (4 : Int32)), (.ref tb), (.ref st), (.ref r), (.ref r)] := fun t ht => k249 t (st250 t ht)
  obtain ⟨_, _, ⟨T251, L251, c251, n251⟩, -, X251, ⟨Lc251, hQ251, l251, y251, z251⟩, st251⟩ := X250.specialBack hx (y := (⟨"com/example/subscriptor/subscriptor/Der", "<init>", "(Ljava/lang/String;[BII)V"⟩ : MethodName)) rfl hown (mvT hZ (hw _ (List.mem_of_getElem? (i := 14) rfl))) (mvT hZ (hw _ (List.mem_of_getElem? (i := 15) rfl))) (mvT hZ (hw _ (List.mem_of_getElem? (i := 16) rfl))) (by decide) (backOf (W := 1) (rm2 l Z a0 hw [] r st tb (4 : Int32) ((4 : Int32) + len) h229 n0 f230 f229 f238 f239 f240 f241 g_r) hZ (hw _ (List.mem_of_getElem? (i := 16) rfl)) (hw _ (List.mem_of_getElem? (i := 3) rfl)) (by decide) (by decide)) (g := (mkF m 38 #[.val (.ref a), .val (.int tg), .val (.int len)] [(.int ((4 : Int32) + len)), (.int (4 : Int32)), (.ref tb), (.ref st), (.ref r), (.ref r)])) rfl (by rw [hml]; rfl) (Steps.refl _) (a := r) (argsL := [(.ref st), (.ref tb), (.int (4 : Int32)), (.int ((4 : Int32) + len))]) (rest := [(.ref r)]) (lenOf pd_6 rfl) rfl (by show 2 * 0 + _ ≤ _; exact Nat.le_of_eq rfl) (hb hby drd2_38) (fun _ _ => ⟨rfl, e250, (by decide : 1 + 0 ≤ _), (by decide : 4 + 0 ≤ _)⟩)
  dsimp only [Pt.U, Pt.locs, Pt.cells, Pt.slots] at X251 l251 y251 z251 st251 hQ251
  subst l251 y251 z251
  obtain ⟨rfl, Nq251, Kr, Ra, Rb, Rc, Rd⟩ := hQ251
  have N251 := Fr.app N220 Nq251
  have k251 : Kt p e below m (s₁.setTop (entryFrame m #[(.ref a), (.int tg)] 3)) T251 41 #[.val (.ref a), .val (.int tg), .val (.int len)] [(.ref r)] := fun t ht => k250 t (st251.trans ht)
  have f252 : n0 ≤ T251.heap.size := Nat.le_trans f230 Kr.1
  have f253 : Exa Z T251.heap a "com/example/subscriptor/subscriptor/Der" := f231.keep Kr
  have f254 : Arv Z T251.heap tb kb .byte N [(.int v0), (.int v1), (.int v2), (.int v3)] (.int (0 : Int32)) := f232.keep Kr (ninS ne_tb_r nin0)
  have f255 : Keep h0 T251.heap [a] := f233.trans Kr (allS (Or.inr sz_r) all0)
  have f256 : Fld Z T251.heap a "com/example/subscriptor/subscriptor/Der" "what" "Ljava/lang/String;" (.ref st) := f234.keep Kr (ninS ne_a_r nin0)
  have f257 : Fld Z T251.heap a "com/example/subscriptor/subscriptor/Der" "bytes" "[B" (.ref tb) := f235.keep Kr (ninS ne_a_r nin0)
  have f258 : Fld Z T251.heap a "com/example/subscriptor/subscriptor/Der" "position" "I" (.int ((4 : Int32) + len)) := f236.keep Kr (ninS ne_a_r nin0)
  have f259 : Fld Z T251.heap a "com/example/subscriptor/subscriptor/Der" "end" "I" (.int en) := f237.keep Kr (ninS ne_a_r nin0)
  have f260 : Exa Z T251.heap r "com/example/subscriptor/subscriptor/Der" := f229.keep Kr
  obtain ⟨fs, hr, hrun, hended, hW, hsame⟩ := X251.leave (v := some (.ref r)) (fun h => by rw [Bd.returns] at h; cases h)
  refine ⟨_, _, k251 _ ?_, hrun, hended, _, _, rfl, ?_, ⟨_, rfl⟩, hW, hsame.mono (by decide) (by decide)⟩
  · show Steps p.tables e below (T251.setTop (mkF m 41 #[.val (.ref a), .val (.int tg), .val (.int len)] [(.ref r)])) _
    jvm_step X251.here [X251.here.top, hx, (hb hby drd2_41), X251.method', Bd.returns, Value.isRef, FieldType.isReference]
    first | (intro acts; rw [hr _ acts rfl rfl rfl]) | rw [hr _ _ rfl rfl rfl]
    exact Steps.refl _
  · show Qrd2 Z a st tb kb N en v0 v1 v2 v3 tg len h0 n0 _ T251.heap _
    exact ⟨r, rfl, N251, f255, sz_r, f260, f256, f257, f258, f259, Ra, Rb, Rc, Rd⟩
theorem pn0 : plainName "com/example/subscriptor/subscriptor/DerHasNextPinLaw" = true := by first | (simp [plainName, overriddenIn]; done) | decide +kernel
theorem ef0 (m : MethodId) (p1 : Int32) (p2 : Int32) (p3 : Int32) (p4 : Int32) (p5 : Int32) : entryFrame m #[(.int p1), (.int p2), (.int p3), (.int p4), (.int p5)] maxLocals = mkF m 0 #[.val (.int p1), .val (.int p2), .val (.int p3), .val (.int p4), .val (.int p5), .unset, .unset, .unset, .unset, .unset, .unset, .unset, .unset, .unset, .unset, .unset] [] := by first | (simp [entryFrame, mkF, argsToLocals, Value.category, maxLocals]; done) | rfl
def Q0 (Z : State) (p1 : Int32) (p2 : Int32) (p3 : Int32) (p4 : Int32) (p5 : Int32) (h0 : Heap) (n0 : Nat) (v : Option Value) (h : Heap) (L : List Loc) : Prop := v = some (.int 1) ∧ Fr n0 L
set_option maxRecDepth 65536 in
set_option maxHeartbeats 40000000 in
theorem rm0 (l : Launch) (Z : State) (a0 : Array Value) (hw : ∀ d ∈ tables_1, d.before a0 Z = true) (ws : List Jvm.Cond) (p1 : Int32) (p2 : Int32) (p3 : Int32) (p4 : Int32) (p5 : Int32) (h0 : Heap) (n0 : Nat) (Z0 : n0 ≤ h0.size)  :
    MetFree l x (head1 (Jvm.Cond.code x code maxLocals ret :: ws) room_1) (fun gs' U => gs' = #[(.int p1), (.int p2), (.int p3), (.int p4), (.int p5)] ∧ Z.Warmed39 U.vm ∧ U.heap = h0) (fun _ _ _ _ _ => True) (fun _ U o U' => ∃ v L, o = .returned v ∧ Q0 Z p1 p2 p3 p4 p5 h0 n0 v U'.heap L ∧ ReturnedEndW U o U' L room_1.cells room_1.slots) := by
  refine MetFree.of_bodySF (plainFor_of_name pn0) hisR ?_
  intro p e s m args below meth c s₁ Bd hml0 hP hK
  obtain ⟨rfl, hZ, hh⟩ := hP
  have hx := Bd.exec
  have hby := Bd.bytes
  have hml : c.maxLocals = 16 := hml0
  have hown : s.vm.findClass "com/example/subscriptor/subscriptor/DerHasNextPinLaw" = some m.cls := findClass_of_methodNamed Bd.named
  have hnm := (name_of_methodNamed Bd.named Bd.method).1
  have X0 : Stand p l e room_1 (s.setVm s.vm) m #[(.int p1), (.int p2), (.int p3), (.int p4), (.int p5)] below meth c s₁ [] 0 0 := Stand.of_body Bd
  have e0 : s₁.heap = h0 := by rw [← hh, Bd.state]; rfl
  have N0 := Fr.nil n0
  have k0 : Kt p e below m (s₁.setTop (entryFrame m #[(.int p1), (.int p2), (.int p3), (.int p4), (.int p5)] maxLocals)) s₁ 0 #[.val (.int p1), .val (.int p2), .val (.int p3), .val (.int p4), .val (.int p5), .unset, .unset, .unset, .unset, .unset, .unset, .unset, .unset, .unset, .unset, .unset] [] := fun t ht => castTop (ef0 m p1 p2 p3 p4 p5) ht
  have wS : ∀ a ∈ Bundle.stringAtoms, a.before a0 Z = true := by
    intro a ha
    simp only [Bundle.stringAtoms, List.mem_cons, List.not_mem_nil, or_false] at ha
    rcases ha with rfl | rfl | rfl | rfl | rfl | rfl | rfl
    · exact (hw _ (List.mem_of_getElem? (i := 5) rfl))
    · exact (hw _ (List.mem_of_getElem? (i := 6) rfl))
    · exact (hw _ (List.mem_of_getElem? (i := 0) rfl))
    · exact (hw _ (List.mem_of_getElem? (i := 7) rfl))
    · exact (hw _ (List.mem_of_getElem? (i := 8) rfl))
    · exact (hw _ (List.mem_of_getElem? (i := 9) rfl))
    · exact (hw _ (List.mem_of_getElem? (i := 10) rfl))
  have rkk := own_m3 p3
  have k265 : Kt p e below m (s₁.setTop (entryFrame m #[(.int p1), (.int p2), (.int p3), (.int p4), (.int p5)] maxLocals)) s₁ 3 #[.val (.int p1), .val (.int p2), .val (.int p3), .val (.int p4), .val (.int p5), .unset, .unset, .unset, .unset, .unset, .unset, .unset, .unset, .unset, .unset, .unset] [(.int (p3 &&& (3 : Int32)))] := by
    intro t ht
    refine k0 t ?_
    show Steps p.tables e below (s₁.setTop (mkF m 0 #[.val (.int p1), .val (.int p2), .val (.int p3), .val (.int p4), .val (.int p5), .unset, .unset, .unset, .unset, .unset, .unset, .unset, .unset, .unset, .unset, .unset] [])) t
    refine XS.iloadN X0.here hx rfl (hb hby at_0) rfl ?_
    show Steps p.tables e below (s₁.setTop (mkF m 1 #[.val (.int p1), .val (.int p2), .val (.int p3), .val (.int p4), .val (.int p5), .unset, .unset, .unset, .unset, .unset, .unset, .unset, .unset, .unset, .unset, .unset] [(.int p3)])) t
    refine XS.iconst X0.here hx rfl (hb hby at_1) ?_
    show Steps p.tables e below (s₁.setTop (mkF m 2 #[.val (.int p1), .val (.int p2), .val (.int p3), .val (.int p4), .val (.int p5), .unset, .unset, .unset, .unset, .unset, .unset, .unset, .unset, .unset, .unset, .unset] [(.int (3 : Int32)), (.int p3)])) t
    refine XS.iand X0.here hx rfl (hb hby at_2) rfl ?_
    exact ht
  obtain ⟨kk, hkk, k266⟩ : ∃ kk : Int32, kk = (p3 &&& (3 : Int32)) ∧ Kt p e below m (s₁.setTop (entryFrame m #[(.int p1), (.int p2), (.int p3), (.int p4), (.int p5)] maxLocals)) s₁ 3 #[.val (.int p1), .val (.int p2), .val (.int p3), .val (.int p4), .val (.int p5), .unset, .unset, .unset, .unset, .unset, .unset, .unset, .unset, .unset, .unset, .unset] [(.int kk)] := ⟨_, rfl, k265⟩
  rw [← hkk] at rkk
  have rmm := own_m3 p4
  have k267 : Kt p e below m (s₁.setTop (entryFrame m #[(.int p1), (.int p2), (.int p3), (.int p4), (.int p5)] maxLocals)) s₁ 8 #[.val (.int p1), .val (.int p2), .val (.int p3), .val (.int p4), .val (.int p5), .val (.int kk), .unset, .unset, .unset, .unset, .unset, .unset, .unset, .unset, .unset, .unset] [(.int (p4 &&& (3 : Int32)))] := by
    intro t ht
    refine k266 t ?_
    show Steps p.tables e below (s₁.setTop (mkF m 3 #[.val (.int p1), .val (.int p2), .val (.int p3), .val (.int p4), .val (.int p5), .unset, .unset, .unset, .unset, .unset, .unset, .unset, .unset, .unset, .unset, .unset] [(.int kk)])) t
    refine XS.istore X0.here hx rfl (hb hby at_3) rfl (l' := #[.val (.int p1), .val (.int p2), .val (.int p3), .val (.int p4), .val (.int p5), .val (.int kk), .unset, .unset, .unset, .unset, .unset, .unset, .unset, .unset, .unset, .unset]) rfl ?_
    show Steps p.tables e below (s₁.setTop (mkF m 5 #[.val (.int p1), .val (.int p2), .val (.int p3), .val (.int p4), .val (.int p5), .val (.int kk), .unset, .unset, .unset, .unset, .unset, .unset, .unset, .unset, .unset, .unset] [])) t
    refine XS.iloadN X0.here hx rfl (hb hby at_5) rfl ?_
    show Steps p.tables e below (s₁.setTop (mkF m 6 #[.val (.int p1), .val (.int p2), .val (.int p3), .val (.int p4), .val (.int p5), .val (.int kk), .unset, .unset, .unset, .unset, .unset, .unset, .unset, .unset, .unset, .unset] [(.int p4)])) t
    refine XS.iconst X0.here hx rfl (hb hby at_6) ?_
    show Steps p.tables e below (s₁.setTop (mkF m 7 #[.val (.int p1), .val (.int p2), .val (.int p3), .val (.int p4), .val (.int p5), .val (.int kk), .unset, .unset, .unset, .unset, .unset, .unset, .unset, .unset, .unset, .unset] [(.int (3 : Int32)), (.int p4)])) t
    refine XS.iand X0.here hx rfl (hb hby at_7) rfl ?_
    exact ht
  obtain ⟨mm, hmm, k268⟩ : ∃ mm : Int32, mm = (p4 &&& (3 : Int32)) ∧ Kt p e below m (s₁.setTop (entryFrame m #[(.int p1), (.int p2), (.int p3), (.int p4), (.int p5)] maxLocals)) s₁ 8 #[.val (.int p1), .val (.int p2), .val (.int p3), .val (.int p4), .val (.int p5), .val (.int kk), .unset, .unset, .unset, .unset, .unset, .unset, .unset, .unset, .unset, .unset] [(.int mm)] := ⟨_, rfl, k267⟩
  rw [← hmm] at rmm
  have rll := own_m3 p5
  have k269 : Kt p e below m (s₁.setTop (entryFrame m #[(.int p1), (.int p2), (.int p3), (.int p4), (.int p5)] maxLocals)) s₁ 14 #[.val (.int p1), .val (.int p2), .val (.int p3), .val (.int p4), .val (.int p5), .val (.int kk), .val (.int mm), .unset, .unset, .unset, .unset, .unset, .unset, .unset, .unset, .unset] [(.int (p5 &&& (3 : Int32)))] := by
    intro t ht
    refine k268 t ?_
    show Steps p.tables e below (s₁.setTop (mkF m 8 #[.val (.int p1), .val (.int p2), .val (.int p3), .val (.int p4), .val (.int p5), .val (.int kk), .unset, .unset, .unset, .unset, .unset, .unset, .unset, .unset, .unset, .unset] [(.int mm)])) t
    refine XS.istore X0.here hx rfl (hb hby at_8) rfl (l' := #[.val (.int p1), .val (.int p2), .val (.int p3), .val (.int p4), .val (.int p5), .val (.int kk), .val (.int mm), .unset, .unset, .unset, .unset, .unset, .unset, .unset, .unset, .unset]) rfl ?_
    show Steps p.tables e below (s₁.setTop (mkF m 10 #[.val (.int p1), .val (.int p2), .val (.int p3), .val (.int p4), .val (.int p5), .val (.int kk), .val (.int mm), .unset, .unset, .unset, .unset, .unset, .unset, .unset, .unset, .unset] [])) t
    refine XS.iload X0.here hx rfl (hb hby at_10) rfl ?_
    show Steps p.tables e below (s₁.setTop (mkF m 12 #[.val (.int p1), .val (.int p2), .val (.int p3), .val (.int p4), .val (.int p5), .val (.int kk), .val (.int mm), .unset, .unset, .unset, .unset, .unset, .unset, .unset, .unset, .unset] [(.int p5)])) t
    refine XS.iconst X0.here hx rfl (hb hby at_12) ?_
    show Steps p.tables e below (s₁.setTop (mkF m 13 #[.val (.int p1), .val (.int p2), .val (.int p3), .val (.int p4), .val (.int p5), .val (.int kk), .val (.int mm), .unset, .unset, .unset, .unset, .unset, .unset, .unset, .unset, .unset] [(.int (3 : Int32)), (.int p5)])) t
    refine XS.iand X0.here hx rfl (hb hby at_13) rfl ?_
    exact ht
  obtain ⟨ll, hll, k270⟩ : ∃ ll : Int32, ll = (p5 &&& (3 : Int32)) ∧ Kt p e below m (s₁.setTop (entryFrame m #[(.int p1), (.int p2), (.int p3), (.int p4), (.int p5)] maxLocals)) s₁ 14 #[.val (.int p1), .val (.int p2), .val (.int p3), .val (.int p4), .val (.int p5), .val (.int kk), .val (.int mm), .unset, .unset, .unset, .unset, .unset, .unset, .unset, .unset, .unset] [(.int ll)] := ⟨_, rfl, k269⟩
  rw [← hll] at rll
  have rtg := own_m255 p1
  have k271 : Kt p e below m (s₁.setTop (entryFrame m #[(.int p1), (.int p2), (.int p3), (.int p4), (.int p5)] maxLocals)) s₁ 21 #[.val (.int p1), .val (.int p2), .val (.int p3), .val (.int p4), .val (.int p5), .val (.int kk), .val (.int mm), .val (.int ll), .unset, .unset, .unset, .unset, .unset, .unset, .unset, .unset] [(.int (p1 &&& (255 : Int32)))] := by
    intro t ht
    refine k270 t ?_
    show Steps p.tables e below (s₁.setTop (mkF m 14 #[.val (.int p1), .val (.int p2), .val (.int p3), .val (.int p4), .val (.int p5), .val (.int kk), .val (.int mm), .unset, .unset, .unset, .unset, .unset, .unset, .unset, .unset, .unset] [(.int ll)])) t
    refine XS.istore X0.here hx rfl (hb hby at_14) rfl (l' := #[.val (.int p1), .val (.int p2), .val (.int p3), .val (.int p4), .val (.int p5), .val (.int kk), .val (.int mm), .val (.int ll), .unset, .unset, .unset, .unset, .unset, .unset, .unset, .unset]) rfl ?_
    show Steps p.tables e below (s₁.setTop (mkF m 16 #[.val (.int p1), .val (.int p2), .val (.int p3), .val (.int p4), .val (.int p5), .val (.int kk), .val (.int mm), .val (.int ll), .unset, .unset, .unset, .unset, .unset, .unset, .unset, .unset] [])) t
    refine XS.iloadN X0.here hx rfl (hb hby at_16) rfl ?_
    show Steps p.tables e below (s₁.setTop (mkF m 17 #[.val (.int p1), .val (.int p2), .val (.int p3), .val (.int p4), .val (.int p5), .val (.int kk), .val (.int mm), .val (.int ll), .unset, .unset, .unset, .unset, .unset, .unset, .unset, .unset] [(.int p1)])) t
    refine XS.sipush X0.here hx rfl (hb hby at_17) ?_
    show Steps p.tables e below (s₁.setTop (mkF m 20 #[.val (.int p1), .val (.int p2), .val (.int p3), .val (.int p4), .val (.int p5), .val (.int kk), .val (.int mm), .val (.int ll), .unset, .unset, .unset, .unset, .unset, .unset, .unset, .unset] [(.int (255 : Int32)), (.int p1)])) t
    refine XS.iand X0.here hx rfl (hb hby at_20) rfl ?_
    exact ht
  obtain ⟨tg, htg, k272⟩ : ∃ tg : Int32, tg = (p1 &&& (255 : Int32)) ∧ Kt p e below m (s₁.setTop (entryFrame m #[(.int p1), (.int p2), (.int p3), (.int p4), (.int p5)] maxLocals)) s₁ 21 #[.val (.int p1), .val (.int p2), .val (.int p3), .val (.int p4), .val (.int p5), .val (.int kk), .val (.int mm), .val (.int ll), .unset, .unset, .unset, .unset, .unset, .unset, .unset, .unset] [(.int tg)] := ⟨_, rfl, k271⟩
  rw [← htg] at rtg
  have rtk := own_m255 p2
  have k273 : Kt p e below m (s₁.setTop (entryFrame m #[(.int p1), (.int p2), (.int p3), (.int p4), (.int p5)] maxLocals)) s₁ 28 #[.val (.int p1), .val (.int p2), .val (.int p3), .val (.int p4), .val (.int p5), .val (.int kk), .val (.int mm), .val (.int ll), .val (.int tg), .unset, .unset, .unset, .unset, .unset, .unset, .unset] [(.int (p2 &&& (255 : Int32)))] := by
    intro t ht
    refine k272 t ?_
    show Steps p.tables e below (s₁.setTop (mkF m 21 #[.val (.int p1), .val (.int p2), .val (.int p3), .val (.int p4), .val (.int p5), .val (.int kk), .val (.int mm), .val (.int ll), .unset, .unset, .unset, .unset, .unset, .unset, .unset, .unset] [(.int tg)])) t
    refine XS.istore X0.here hx rfl (hb hby at_21) rfl (l' := #[.val (.int p1), .val (.int p2), .val (.int p3), .val (.int p4), .val (.int p5), .val (.int kk), .val (.int mm), .val (.int ll), .val (.int tg), .unset, .unset, .unset, .unset, .unset, .unset, .unset]) rfl ?_
    show Steps p.tables e below (s₁.setTop (mkF m 23 #[.val (.int p1), .val (.int p2), .val (.int p3), .val (.int p4), .val (.int p5), .val (.int kk), .val (.int mm), .val (.int ll), .val (.int tg), .unset, .unset, .unset, .unset, .unset, .unset, .unset] [])) t
    refine XS.iloadN X0.here hx rfl (hb hby at_23) rfl ?_
    show Steps p.tables e below (s₁.setTop (mkF m 24 #[.val (.int p1), .val (.int p2), .val (.int p3), .val (.int p4), .val (.int p5), .val (.int kk), .val (.int mm), .val (.int ll), .val (.int tg), .unset, .unset, .unset, .unset, .unset, .unset, .unset] [(.int p2)])) t
    refine XS.sipush X0.here hx rfl (hb hby at_24) ?_
    show Steps p.tables e below (s₁.setTop (mkF m 27 #[.val (.int p1), .val (.int p2), .val (.int p3), .val (.int p4), .val (.int p5), .val (.int kk), .val (.int mm), .val (.int ll), .val (.int tg), .unset, .unset, .unset, .unset, .unset, .unset, .unset] [(.int (255 : Int32)), (.int p2)])) t
    refine XS.iand X0.here hx rfl (hb hby at_27) rfl ?_
    exact ht
  obtain ⟨tk, htk, k274⟩ : ∃ tk : Int32, tk = (p2 &&& (255 : Int32)) ∧ Kt p e below m (s₁.setTop (entryFrame m #[(.int p1), (.int p2), (.int p3), (.int p4), (.int p5)] maxLocals)) s₁ 28 #[.val (.int p1), .val (.int p2), .val (.int p3), .val (.int p4), .val (.int p5), .val (.int kk), .val (.int mm), .val (.int ll), .val (.int tg), .unset, .unset, .unset, .unset, .unset, .unset, .unset] [(.int tk)] := ⟨_, rfl, k273⟩
  rw [← htk] at rtk
  have q1 : ((2 : Int32) + kk).toInt = 2 + kk.toInt := by rw [own_add (by decide) (by decide) rkk.1 (by omega), own_2]
  have q2 : (((2 : Int32) + kk) + mm).toInt = 2 + kk.toInt + mm.toInt := by rw [own_add (by omega) (by omega) rmm.1 (by omega), q1]
  have k275 : Kt p e below m (s₁.setTop (entryFrame m #[(.int p1), (.int p2), (.int p3), (.int p4), (.int p5)] maxLocals)) s₁ 37 #[.val (.int p1), .val (.int p2), .val (.int p3), .val (.int p4), .val (.int p5), .val (.int kk), .val (.int mm), .val (.int ll), .val (.int tg), .val (.int tk), .unset, .unset, .unset, .unset, .unset, .unset] [(.int (((2 : Int32) + kk) + mm))] := by
    intro t ht
    refine k274 t ?_
    show Steps p.tables e below (s₁.setTop (mkF m 28 #[.val (.int p1), .val (.int p2), .val (.int p3), .val (.int p4), .val (.int p5), .val (.int kk), .val (.int mm), .val (.int ll), .val (.int tg), .unset, .unset, .unset, .unset, .unset, .unset, .unset] [(.int tk)])) t
    refine XS.istore X0.here hx rfl (hb hby at_28) rfl (l' := #[.val (.int p1), .val (.int p2), .val (.int p3), .val (.int p4), .val (.int p5), .val (.int kk), .val (.int mm), .val (.int ll), .val (.int tg), .val (.int tk), .unset, .unset, .unset, .unset, .unset, .unset]) rfl ?_
    show Steps p.tables e below (s₁.setTop (mkF m 30 #[.val (.int p1), .val (.int p2), .val (.int p3), .val (.int p4), .val (.int p5), .val (.int kk), .val (.int mm), .val (.int ll), .val (.int tg), .val (.int tk), .unset, .unset, .unset, .unset, .unset, .unset] [])) t
    refine XS.iconst X0.here hx rfl (hb hby at_30) ?_
    show Steps p.tables e below (s₁.setTop (mkF m 31 #[.val (.int p1), .val (.int p2), .val (.int p3), .val (.int p4), .val (.int p5), .val (.int kk), .val (.int mm), .val (.int ll), .val (.int tg), .val (.int tk), .unset, .unset, .unset, .unset, .unset, .unset] [(.int (2 : Int32))])) t
    refine XS.iload X0.here hx rfl (hb hby at_31) rfl ?_
    show Steps p.tables e below (s₁.setTop (mkF m 33 #[.val (.int p1), .val (.int p2), .val (.int p3), .val (.int p4), .val (.int p5), .val (.int kk), .val (.int mm), .val (.int ll), .val (.int tg), .val (.int tk), .unset, .unset, .unset, .unset, .unset, .unset] [(.int kk), (.int (2 : Int32))])) t
    refine XS.iadd X0.here hx rfl (hb hby at_33) rfl ?_
    show Steps p.tables e below (s₁.setTop (mkF m 34 #[.val (.int p1), .val (.int p2), .val (.int p3), .val (.int p4), .val (.int p5), .val (.int kk), .val (.int mm), .val (.int ll), .val (.int tg), .val (.int tk), .unset, .unset, .unset, .unset, .unset, .unset] [(.int ((2 : Int32) + kk))])) t
    refine XS.iload X0.here hx rfl (hb hby at_34) rfl ?_
    show Steps p.tables e below (s₁.setTop (mkF m 36 #[.val (.int p1), .val (.int p2), .val (.int p3), .val (.int p4), .val (.int p5), .val (.int kk), .val (.int mm), .val (.int ll), .val (.int tg), .val (.int tk), .unset, .unset, .unset, .unset, .unset, .unset] [(.int mm), (.int ((2 : Int32) + kk))])) t
    refine XS.iadd X0.here hx rfl (hb hby at_36) rfl ?_
    exact ht
  obtain ⟨N, hN, k276⟩ : ∃ N : Int32, N = (((2 : Int32) + kk) + mm) ∧ Kt p e below m (s₁.setTop (entryFrame m #[(.int p1), (.int p2), (.int p3), (.int p4), (.int p5)] maxLocals)) s₁ 37 #[.val (.int p1), .val (.int p2), .val (.int p3), .val (.int p4), .val (.int p5), .val (.int kk), .val (.int mm), .val (.int ll), .val (.int tg), .val (.int tk), .unset, .unset, .unset, .unset, .unset, .unset] [(.int N)] := ⟨_, rfl, k275⟩
  rw [← hN] at q2
  obtain ⟨T277, h277, ak277, X277, e277, E277, A277, st277⟩ := newP X0 hx hZ (hw _ (List.mem_of_getElem? (i := 0) rfl)) e0 (g := (mkF m 37 #[.val (.int p1), .val (.int p2), .val (.int p3), .val (.int p4), .val (.int p5), .val (.int kk), .val (.int mm), .val (.int ll), .val (.int tg), .val (.int tk), .unset, .unset, .unset, .unset, .unset, .unset] [(.int N)])) rfl (hb hby at_37) rfl (by rw [own_lt, own_0]; omega) (cap := 8) (own_nat (by omega)) (by decide) (by decide) (by decide)
  obtain ⟨tb, q277⟩ : ∃ z, z = h0.size := ⟨_, rfl⟩
  have g_tb : n0 ≤ tb := by rw [q277]; exact Z0
  rw [← q277] at A277 st277
  have f278 : n0 ≤ h277.size := Nat.le_trans Z0 E277.1
  have f277 : Arv Z h277 tb ak277 .byte N [] (.int (0 : Int32)) := Arv.new A277 (by rw [own_lt, own_0]; omega)
  have k277 : Kt p e below m (s₁.setTop (entryFrame m #[(.int p1), (.int p2), (.int p3), (.int p4), (.int p5)] maxLocals)) T277 39 #[.val (.int p1), .val (.int p2), .val (.int p3), .val (.int p4), .val (.int p5), .val (.int kk), .val (.int mm), .val (.int ll), .val (.int tg), .val (.int tk), .unset, .unset, .unset, .unset, .unset, .unset] [(.ref tb)] := fun t ht => k276 t (st277 t ht)
  have V4 : Arv Z h277 tb ak277 .byte N [(.int (0 : Int32)), (.int (0 : Int32)), (.int (0 : Int32)), (.int (0 : Int32))] (.int (0 : Int32)) := f277.pad (pad_rep [] (.int (0 : Int32)) 4)
  have k279 : Kt p e below m (s₁.setTop (entryFrame m #[(.int p1), (.int p2), (.int p3), (.int p4), (.int p5)] maxLocals)) T277 47 #[.val (.int p1), .val (.int p2), .val (.int p3), .val (.int p4), .val (.int p5), .val (.int kk), .val (.int mm), .val (.int ll), .val (.int tg), .val (.int tk), .val (.ref tb), .unset, .unset, .unset, .unset, .unset] [(.int (tg.toInt8.toInt32)), (.int (0 : Int32)), (.ref tb)] := by
    intro t ht
    refine k277 t ?_
    show Steps p.tables e below (T277.setTop (mkF m 39 #[.val (.int p1), .val (.int p2), .val (.int p3), .val (.int p4), .val (.int p5), .val (.int kk), .val (.int mm), .val (.int ll), .val (.int tg), .val (.int tk), .unset, .unset, .unset, .unset, .unset, .unset] [(.ref tb)])) t
    refine XS.astore X277.here hx rfl (hb hby at_39) rfl rfl (l' := #[.val (.int p1), .val (.int p2), .val (.int p3), .val (.int p4), .val (.int p5), .val (.int kk), .val (.int mm), .val (.int ll), .val (.int tg), .val (.int tk), .val (.ref tb), .unset, .unset, .unset, .unset, .unset]) rfl ?_
    show Steps p.tables e below (T277.setTop (mkF m 41 #[.val (.int p1), .val (.int p2), .val (.int p3), .val (.int p4), .val (.int p5), .val (.int kk), .val (.int mm), .val (.int ll), .val (.int tg), .val (.int tk), .val (.ref tb), .unset, .unset, .unset, .unset, .unset] [])) t
    refine XS.aload X277.here hx rfl (hb hby at_41) rfl rfl ?_
    show Steps p.tables e below (T277.setTop (mkF m 43 #[.val (.int p1), .val (.int p2), .val (.int p3), .val (.int p4), .val (.int p5), .val (.int kk), .val (.int mm), .val (.int ll), .val (.int tg), .val (.int tk), .val (.ref tb), .unset, .unset, .unset, .unset, .unset] [(.ref tb)])) t
    refine XS.iconst X277.here hx rfl (hb hby at_43) ?_
    show Steps p.tables e below (T277.setTop (mkF m 44 #[.val (.int p1), .val (.int p2), .val (.int p3), .val (.int p4), .val (.int p5), .val (.int kk), .val (.int mm), .val (.int ll), .val (.int tg), .val (.int tk), .val (.ref tb), .unset, .unset, .unset, .unset, .unset] [(.int (0 : Int32)), (.ref tb)])) t
    refine XS.iload X277.here hx rfl (hb hby at_44) rfl ?_
    show Steps p.tables e below (T277.setTop (mkF m 46 #[.val (.int p1), .val (.int p2), .val (.int p3), .val (.int p4), .val (.int p5), .val (.int kk), .val (.int mm), .val (.int ll), .val (.int tg), .val (.int tk), .val (.ref tb), .unset, .unset, .unset, .unset, .unset] [(.int tg), (.int (0 : Int32)), (.ref tb)])) t
    refine XS.i2b X277.here hx rfl (hb hby at_46) rfl ?_
    exact ht
  obtain ⟨cl280, Ar280, qc280, Sz280, Nn280, Hh280, Gg280⟩ := id V4
  have hin280 : ¬ ((0 : Int32) < 0 ∨ cl280.slots.size ≤ ((0 : Int32)).toNatClampNeg) := inb_of Sz280 ⟨by decide, by rw [own_lt, own_0]; omega⟩
  obtain ⟨T280, h280, X280, e280, W280, st280⟩ := stB X277 hx hZ e277 Ar280 (j := (0 : Int32)) hin280 (g := (mkF m 47 #[.val (.int p1), .val (.int p2), .val (.int p3), .val (.int p4), .val (.int p5), .val (.int kk), .val (.int mm), .val (.int ll), .val (.int tg), .val (.int tk), .val (.ref tb), .unset, .unset, .unset, .unset, .unset] [(.int (tg.toInt8.toInt32)), (.int (0 : Int32)), (.ref tb)])) rfl rfl (hb hby at_47)
  have N280 := Fr.snoc X280 N0 g_tb
  have f281 : n0 ≤ h280.size := Nat.le_trans f278 (Keep.of_wr W280).1
  have f282 : Arv Z h280 tb ak277 .byte N [(.int ((tg.toInt8.toInt32).toInt8.toInt32)), (.int (0 : Int32)), (.int (0 : Int32)), (.int (0 : Int32))] (.int (0 : Int32)) := Arv.set Ar280 qc280 Sz280 Nn280 Hh280 Gg280 (fits_nar_byte _) W280 0 rfl (Nat.le_of_ble_eq_true rfl)
  have k280 : Kt p e below m (s₁.setTop (entryFrame m #[(.int p1), (.int p2), (.int p3), (.int p4), (.int p5)] maxLocals)) T280 48 #[.val (.int p1), .val (.int p2), .val (.int p3), .val (.int p4), .val (.int p5), .val (.int kk), .val (.int mm), .val (.int ll), .val (.int tg), .val (.int tk), .val (.ref tb), .unset, .unset, .unset, .unset, .unset] [] := fun t ht => k279 t (st280 t ht)
  have k283 : Kt p e below m (s₁.setTop (entryFrame m #[(.int p1), (.int p2), (.int p3), (.int p4), (.int p5)] maxLocals)) T280 54 #[.val (.int p1), .val (.int p2), .val (.int p3), .val (.int p4), .val (.int p5), .val (.int kk), .val (.int mm), .val (.int ll), .val (.int tg), .val (.int tk), .val (.ref tb), .unset, .unset, .unset, .unset, .unset] [(.int (kk.toInt8.toInt32)), (.int (1 : Int32)), (.ref tb)] := by
    intro t ht
    refine k280 t ?_
    show Steps p.tables e below (T280.setTop (mkF m 48 #[.val (.int p1), .val (.int p2), .val (.int p3), .val (.int p4), .val (.int p5), .val (.int kk), .val (.int mm), .val (.int ll), .val (.int tg), .val (.int tk), .val (.ref tb), .unset, .unset, .unset, .unset, .unset] [])) t
    refine XS.aload X280.here hx rfl (hb hby at_48) rfl rfl ?_
    show Steps p.tables e below (T280.setTop (mkF m 50 #[.val (.int p1), .val (.int p2), .val (.int p3), .val (.int p4), .val (.int p5), .val (.int kk), .val (.int mm), .val (.int ll), .val (.int tg), .val (.int tk), .val (.ref tb), .unset, .unset, .unset, .unset, .unset] [(.ref tb)])) t
    refine XS.iconst X280.here hx rfl (hb hby at_50) ?_
    show Steps p.tables e below (T280.setTop (mkF m 51 #[.val (.int p1), .val (.int p2), .val (.int p3), .val (.int p4), .val (.int p5), .val (.int kk), .val (.int mm), .val (.int ll), .val (.int tg), .val (.int tk), .val (.ref tb), .unset, .unset, .unset, .unset, .unset] [(.int (1 : Int32)), (.ref tb)])) t
    refine XS.iload X280.here hx rfl (hb hby at_51) rfl ?_
    show Steps p.tables e below (T280.setTop (mkF m 53 #[.val (.int p1), .val (.int p2), .val (.int p3), .val (.int p4), .val (.int p5), .val (.int kk), .val (.int mm), .val (.int ll), .val (.int tg), .val (.int tk), .val (.ref tb), .unset, .unset, .unset, .unset, .unset] [(.int kk), (.int (1 : Int32)), (.ref tb)])) t
    refine XS.i2b X280.here hx rfl (hb hby at_53) rfl ?_
    exact ht
  obtain ⟨cl284, Ar284, qc284, Sz284, Nn284, Hh284, Gg284⟩ := id f282
  have hin284 : ¬ ((1 : Int32) < 0 ∨ cl284.slots.size ≤ ((1 : Int32)).toNatClampNeg) := inb_of Sz284 ⟨by decide, by rw [own_lt, own_1]; omega⟩
  obtain ⟨T284, h284, X284, e284, W284, st284⟩ := stB X280 hx hZ e280 Ar284 (j := (1 : Int32)) hin284 (g := (mkF m 54 #[.val (.int p1), .val (.int p2), .val (.int p3), .val (.int p4), .val (.int p5), .val (.int kk), .val (.int mm), .val (.int ll), .val (.int tg), .val (.int tk), .val (.ref tb), .unset, .unset, .unset, .unset, .unset] [(.int (kk.toInt8.toInt32)), (.int (1 : Int32)), (.ref tb)])) rfl rfl (hb hby at_54)
  have N284 := Fr.snoc X284 N280 g_tb
  have f285 : n0 ≤ h284.size := Nat.le_trans f281 (Keep.of_wr W284).1
  have f286 : Arv Z h284 tb ak277 .byte N [(.int ((tg.toInt8.toInt32).toInt8.toInt32)), (.int ((kk.toInt8.toInt32).toInt8.toInt32)), (.int (0 : Int32)), (.int (0 : Int32))] (.int (0 : Int32)) := Arv.set Ar284 qc284 Sz284 Nn284 Hh284 Gg284 (fits_nar_byte _) W284 1 rfl (Nat.le_of_ble_eq_true rfl)
  have k284 : Kt p e below m (s₁.setTop (entryFrame m #[(.int p1), (.int p2), (.int p3), (.int p4), (.int p5)] maxLocals)) T284 55 #[.val (.int p1), .val (.int p2), .val (.int p3), .val (.int p4), .val (.int p5), .val (.int kk), .val (.int mm), .val (.int ll), .val (.int tg), .val (.int tk), .val (.ref tb), .unset, .unset, .unset, .unset, .unset] [] := fun t ht => k283 t (st284 t ht)
  obtain ⟨u0, hu0⟩ : ∃ z : Int32, z = ((tg.toInt8.toInt32).toInt8.toInt32) := ⟨_, rfl⟩
  rw [← hu0] at f286
  obtain ⟨u1, hu1⟩ : ∃ z : Int32, z = ((kk.toInt8.toInt32).toInt8.toInt32) := ⟨_, rfl⟩
  rw [← hu1] at f286
  have b0 : (u0 &&& (255 : Int32)) = tg := by rw [hu0]; exact own_byte rtg.1 rtg.2
  have b1 : (u1 &&& (255 : Int32)) = kk := by rw [hu1]; exact own_byte rkk.1 (by omega)
  have k287 : Kt p e below m (s₁.setTop (entryFrame m #[(.int p1), (.int p2), (.int p3), (.int p4), (.int p5)] maxLocals)) T284 58 #[.val (.int p1), .val (.int p2), .val (.int p3), .val (.int p4), .val (.int p5), .val (.int kk), .val (.int mm), .val (.int ll), .val (.int tg), .val (.int tk), .val (.ref tb), .unset, .unset, .unset, .unset, .unset] [(.int (2 : Int32)), (.int kk)] := by
    intro t ht
    refine k284 t ?_
    show Steps p.tables e below (T284.setTop (mkF m 55 #[.val (.int p1), .val (.int p2), .val (.int p3), .val (.int p4), .val (.int p5), .val (.int kk), .val (.int mm), .val (.int ll), .val (.int tg), .val (.int tk), .val (.ref tb), .unset, .unset, .unset, .unset, .unset] [])) t
    refine XS.iload X284.here hx rfl (hb hby at_55) rfl ?_
    show Steps p.tables e below (T284.setTop (mkF m 57 #[.val (.int p1), .val (.int p2), .val (.int p3), .val (.int p4), .val (.int p5), .val (.int kk), .val (.int mm), .val (.int ll), .val (.int tg), .val (.int tk), .val (.ref tb), .unset, .unset, .unset, .unset, .unset] [(.int kk)])) t
    refine XS.iconst X284.here hx rfl (hb hby at_57) ?_
    exact ht
  by_cases h2 : kk < (2 : Int32)
  · have k288 : Kt p e below m (s₁.setTop (entryFrame m #[(.int p1), (.int p2), (.int p3), (.int p4), (.int p5)] maxLocals)) T284 77 #[.val (.int p1), .val (.int p2), .val (.int p3), .val (.int p4), .val (.int p5), .val (.int kk), .val (.int mm), .val (.int ll), .val (.int tg), .val (.int tk), .val (.ref tb), .unset, .unset, .unset, .unset, .unset] [] := by
      intro t ht
      refine k287 t ?_
      show Steps p.tables e below (T284.setTop (mkF m 58 #[.val (.int p1), .val (.int p2), .val (.int p3), .val (.int p4), .val (.int p5), .val (.int kk), .val (.int mm), .val (.int ll), .val (.int tg), .val (.int tk), .val (.ref tb), .unset, .unset, .unset, .unset, .unset] [(.int (2 : Int32)), (.int kk)])) t
      refine XS.icmpYes X284.here hx rfl (pc0 := 58) (pc' := 77) rfl (hb hby at_58) rfl (tlt h2).1 (by decide) (by decide) ?_
      exact ht
    obtain ⟨T289, h289, X289, e289, E289, A289, D289, -, st289⟩ := newO X284 hx hZ hown (hw _ (List.mem_of_getElem? (i := 1) rfl)) (hw _ (List.mem_of_getElem? (i := 2) rfl)) (hw _ (List.mem_of_getElem? (i := 3) rfl)) e284 (g := (mkF m 77 #[.val (.int p1), .val (.int p2), .val (.int p3), .val (.int p4), .val (.int p5), .val (.int kk), .val (.int mm), .val (.int ll), .val (.int tg), .val (.int tk), .val (.ref tb), .unset, .unset, .unset, .unset, .unset] [])) rfl (hb hby at_77) (by decide) (by decide)
    obtain ⟨pl, q289⟩ : ∃ z, z = h284.size := ⟨_, rfl⟩
    have ne_tb_pl : tb ≠ pl := by rw [q289]; exact Nat.ne_of_lt f286.lt
    have g_pl : n0 ≤ pl := by rw [q289]; exact f285
    rw [← q289] at A289 D289 st289
    have f290 : n0 ≤ h289.size := Nat.le_trans f285 E289.1
    have f291 : Arv Z h289 tb ak277 .byte N [(.int u0), (.int u1), (.int (0 : Int32)), (.int (0 : Int32))] (.int (0 : Int32)) := f286.ext E289
    have f289 : Exa Z h289 pl "com/example/subscriptor/subscriptor/Der" := A289
    have f292 : Fld Z h289 pl "com/example/subscriptor/subscriptor/Der" "what" "Ljava/lang/String;" .null := D289 (Or.inr (hw _ (List.mem_of_getElem? (i := 21) rfl))) (ty := (.object "java/lang/String")) (by decide)
    have f293 : Fld Z h289 pl "com/example/subscriptor/subscriptor/Der" "bytes" "[B" .null := D289 (Or.inr (hw _ (List.mem_of_getElem? (i := 23) rfl))) (ty := (.array .byte)) (by decide)
    have f294 : Fld Z h289 pl "com/example/subscriptor/subscriptor/Der" "position" "I" (.int (0 : Int32)) := D289 (Or.inl (hw _ (List.mem_of_getElem? (i := 25) rfl))) (ty := .int) (by decide)
    have f295 : Fld Z h289 pl "com/example/subscriptor/subscriptor/Der" "end" "I" (.int (0 : Int32)) := D289 (Or.inr (hw _ (List.mem_of_getElem? (i := 27) rfl))) (ty := .int) (by decide)
    have k289 : Kt p e below m (s₁.setTop (entryFrame m #[(.int p1), (.int p2), (.int p3), (.int p4), (.int p5)] maxLocals)) T289 80 #[.val (.int p1), .val (.int p2), .val (.int p3), .val (.int p4), .val (.int p5), .val (.int kk), .val (.int mm), .val (.int ll), .val (.int tg), .val (.int tk), .val (.ref tb), .unset, .unset, .unset, .unset, .unset] [(.ref pl)] := fun t ht => k288 t (st289 t ht)
    have k296 : Kt p e below m (s₁.setTop (entryFrame m #[(.int p1), (.int p2), (.int p3), (.int p4), (.int p5)] maxLocals)) T289 81 #[.val (.int p1), .val (.int p2), .val (.int p3), .val (.int p4), .val (.int p5), .val (.int kk), .val (.int mm), .val (.int ll), .val (.int tg), .val (.int tk), .val (.ref tb), .unset, .unset, .unset, .unset, .unset] [(.ref pl), (.ref pl)] := by
      intro t ht
      refine k289 t ?_
      show Steps p.tables e below (T289.setTop (mkF m 80 #[.val (.int p1), .val (.int p2), .val (.int p3), .val (.int p4), .val (.int p5), .val (.int kk), .val (.int mm), .val (.int ll), .val (.int tg), .val (.int tk), .val (.ref tb), .unset, .unset, .unset, .unset, .unset] [(.ref pl)])) t
      refine XS.dup X289.here hx rfl (hb hby at_80) rfl rfl ?_
      exact ht
    obtain ⟨s1, T297, h297, kb297, X297, e297, E297, hS297, hk297, hZ297, hown297, st297⟩ := ldcS (s := s) (vm0 := s.vm) X289 hx hZ hown (hw _ (List.mem_of_getElem? (i := 4) rfl)) wS e289 ((State.WarmedH.refl s).since 0) (Nat.zero_le _) (g := (mkF m 81 #[.val (.int p1), .val (.int p2), .val (.int p3), .val (.int p4), .val (.int p5), .val (.int kk), .val (.int mm), .val (.int ll), .val (.int tg), .val (.int tk), .val (.ref tb), .unset, .unset, .unset, .unset, .unset] [(.ref pl), (.ref pl)])) rfl (hb hby at_81) (n := 4) (by decide) (by decide) (by decide) (by decide)
    have f298 : n0 ≤ h297.size := Nat.le_trans f290 E297.1
    have f299 : Arv Z h297 tb ak277 .byte N [(.int u0), (.int u1), (.int (0 : Int32)), (.int (0 : Int32))] (.int (0 : Int32)) := f291.ext E297
    have f300 : Exa Z h297 pl "com/example/subscriptor/subscriptor/Der" := f289.ext E297
    have f301 : Fld Z h297 pl "com/example/subscriptor/subscriptor/Der" "what" "Ljava/lang/String;" .null := f292.ext E297
    have f302 : Fld Z h297 pl "com/example/subscriptor/subscriptor/Der" "bytes" "[B" .null := f293.ext E297
    have f303 : Fld Z h297 pl "com/example/subscriptor/subscriptor/Der" "position" "I" (.int (0 : Int32)) := f294.ext E297
    have f304 : Fld Z h297 pl "com/example/subscriptor/subscriptor/Der" "end" "I" (.int (0 : Int32)) := f295.ext E297
    have k297 : Kt p e below m (s₁.setTop (entryFrame m #[(.int p1), (.int p2), (.int p3), (.int p4), (.int p5)] maxLocals)) T297 83 #[.val (.int p1), .val (.int p2), .val (.int p3), .val (.int p4), .val (.int p5), .val (.int kk), .val (.int mm), .val (.int ll), .val (.int tg), .val (.int tk), .val (.ref tb), .unset, .unset, .unset, .unset, .unset] [(.ref s1), (.ref pl), (.ref pl)] := fun t ht => k296 t (st297 t ht)
    have k305 : Kt p e below m (s₁.setTop (entryFrame m #[(.int p1), (.int p2), (.int p3), (.int p4), (.int p5)] maxLocals)) T297 85 #[.val (.int p1), .val (.int p2), .val (.int p3), .val (.int p4), .val (.int p5), .val (.int kk), .val (.int mm), .val (.int ll), .val (.int tg), .val (.int tk), .val (.ref tb), .unset, .unset, .unset, .unset, .unset] [(.int ll), (.ref s1), (.ref pl), (.ref pl)] := by
      intro t ht
      refine k297 t ?_
      show Steps p.tables e below (T297.setTop (mkF m 83 #[.val (.int p1), .val (.int p2), .val (.int p3), .val (.int p4), .val (.int p5), .val (.int kk), .val (.int mm), .val (.int ll), .val (.int tg), .val (.int tk), .val (.ref tb), .unset, .unset, .unset, .unset, .unset] [(.ref s1), (.ref pl), (.ref pl)])) t
      refine XS.iload X297.here hx rfl (hb hby at_83) rfl ?_
      exact ht
    obtain ⟨T306, h306, ak306, X306, e306, E306, A306, st306⟩ := newP X297 hx hZ297 (hw _ (List.mem_of_getElem? (i := 0) rfl)) e297 (g := (mkF m 85 #[.val (.int p1), .val (.int p2), .val (.int p3), .val (.int p4), .val (.int p5), .val (.int kk), .val (.int mm), .val (.int ll), .val (.int tg), .val (.int tk), .val (.ref tb), .unset, .unset, .unset, .unset, .unset] [(.int ll), (.ref s1), (.ref pl), (.ref pl)])) rfl (hb hby at_85) rfl (by rw [own_lt, own_0]; omega) (cap := 3) (own_nat3 (by omega)) (by decide) (by decide) (by decide)
    obtain ⟨pb, q306⟩ : ∃ z, z = h297.size := ⟨_, rfl⟩
    have ne_tb_pb : tb ≠ pb := by rw [q306]; exact Nat.ne_of_lt f299.lt
    have ne_pl_pb : pl ≠ pb := by rw [q306]; exact Nat.ne_of_lt f300.lt
    have g_pb : n0 ≤ pb := by rw [q306]; exact f298
    rw [← q306] at A306 st306
    have f307 : n0 ≤ h306.size := Nat.le_trans f298 E306.1
    have f308 : Arv Z h306 tb ak277 .byte N [(.int u0), (.int u1), (.int (0 : Int32)), (.int (0 : Int32))] (.int (0 : Int32)) := f299.ext E306
    have f309 : Exa Z h306 pl "com/example/subscriptor/subscriptor/Der" := f300.ext E306
    have f310 : Fld Z h306 pl "com/example/subscriptor/subscriptor/Der" "what" "Ljava/lang/String;" .null := f301.ext E306
    have f311 : Fld Z h306 pl "com/example/subscriptor/subscriptor/Der" "bytes" "[B" .null := f302.ext E306
    have f312 : Fld Z h306 pl "com/example/subscriptor/subscriptor/Der" "position" "I" (.int (0 : Int32)) := f303.ext E306
    have f313 : Fld Z h306 pl "com/example/subscriptor/subscriptor/Der" "end" "I" (.int (0 : Int32)) := f304.ext E306
    have f314 : kb297 ≤ h306.size := Nat.le_trans hk297 E306.1
    have f306 : Arv Z h306 pb ak306 .byte ll [] (.int (0 : Int32)) := Arv.new A306 (by rw [own_lt, own_0]; omega)
    have k306 : Kt p e below m (s₁.setTop (entryFrame m #[(.int p1), (.int p2), (.int p3), (.int p4), (.int p5)] maxLocals)) T306 87 #[.val (.int p1), .val (.int p2), .val (.int p3), .val (.int p4), .val (.int p5), .val (.int kk), .val (.int mm), .val (.int ll), .val (.int tg), .val (.int tk), .val (.ref tb), .unset, .unset, .unset, .unset, .unset] [(.ref pb), (.ref s1), (.ref pl), (.ref pl)] := fun t ht => k305 t (st306 t ht)
    obtain ⟨_, _, ⟨T315, L315, c315, n315⟩, -, X315, ⟨Lc315, hQ315, l315, y315, z315⟩, st315⟩ := X306.specialBack hx (y := (⟨"com/example/subscriptor/subscriptor/Der", "<init>", "(Ljava/lang/String;[B)V"⟩ : MethodName)) rfl hown297 (mvT hZ297 (hw _ (List.mem_of_getElem? (i := 11) rfl))) (mvT hZ297 (hw _ (List.mem_of_getElem? (i := 12) rfl))) (mvT hZ297 (hw _ (List.mem_of_getElem? (i := 13) rfl))) (by decide) (backOf (W := 1) (rm1 l Z a0 hw [] pl s1 pb ak306 ll [] h306 n0 f307 f309 f310 f311 f312 f313 f306 g_pl) hZ297 (hw _ (List.mem_of_getElem? (i := 13) rfl)) (hw _ (List.mem_of_getElem? (i := 3) rfl)) (by decide) (by decide)) (g := (mkF m 87 #[.val (.int p1), .val (.int p2), .val (.int p3), .val (.int p4), .val (.int p5), .val (.int kk), .val (.int mm), .val (.int ll), .val (.int tg), .val (.int tk), .val (.ref tb), .unset, .unset, .unset, .unset, .unset] [(.ref pb), (.ref s1), (.ref pl), (.ref pl)])) rfl (by rw [hml]; rfl) (Steps.refl _) (a := pl) (argsL := [(.ref s1), (.ref pb)]) (rest := [(.ref pl)]) (lenOf pd_5 rfl) rfl (by show 2 * 0 + _ ≤ _; exact Nat.le_of_eq rfl) (hb hby at_87) (fun _ _ => ⟨rfl, e306, (by decide : 5 + 0 ≤ _), (by decide : 23 + 0 ≤ _)⟩)
    dsimp only [Pt.U, Pt.locs, Pt.cells, Pt.slots] at X315 l315 y315 z315 st315 hQ315
    subst l315 y315 z315
    obtain ⟨rfl, Nq315, Kp315, Fa315, Fb315, Fc315, Fd315⟩ := hQ315
    have N315 := Fr.app N284 Nq315
    have k315 : Kt p e below m (s₁.setTop (entryFrame m #[(.int p1), (.int p2), (.int p3), (.int p4), (.int p5)] maxLocals)) T315 90 #[.val (.int p1), .val (.int p2), .val (.int p3), .val (.int p4), .val (.int p5), .val (.int kk), .val (.int mm), .val (.int ll), .val (.int tg), .val (.int tk), .val (.ref tb), .unset, .unset, .unset, .unset, .unset] [(.ref pl)] := fun t ht => k306 t (st315.trans ht)
    have f316 : n0 ≤ T315.heap.size := Nat.le_trans f307 Kp315.1
    have f317 : Arv Z T315.heap tb ak277 .byte N [(.int u0), (.int u1), (.int (0 : Int32)), (.int (0 : Int32))] (.int (0 : Int32)) := f308.keep Kp315 (ninS ne_tb_pl nin0)
    have f318 : Exa Z T315.heap pl "com/example/subscriptor/subscriptor/Der" := f309.keep Kp315
    have f323 : kb297 ≤ T315.heap.size := Nat.le_trans f314 Kp315.1
    have f324 : Arv Z T315.heap pb ak306 .byte ll [] (.int (0 : Int32)) := f306.keep Kp315 (ninS ne_pl_pb.symm nin0)
    have k325 : Kt p e below m (s₁.setTop (entryFrame m #[(.int p1), (.int p2), (.int p3), (.int p4), (.int p5)] maxLocals)) T315 94 #[.val (.int p1), .val (.int p2), .val (.int p3), .val (.int p4), .val (.int p5), .val (.int kk), .val (.int mm), .val (.int ll), .val (.int tg), .val (.int tk), .val (.ref tb), .val (.ref pl), .unset, .unset, .unset, .unset] [(.ref pl)] := by
      intro t ht
      refine k315 t ?_
      show Steps p.tables e below (T315.setTop (mkF m 90 #[.val (.int p1), .val (.int p2), .val (.int p3), .val (.int p4), .val (.int p5), .val (.int kk), .val (.int mm), .val (.int ll), .val (.int tg), .val (.int tk), .val (.ref tb), .unset, .unset, .unset, .unset, .unset] [(.ref pl)])) t
      refine XS.astore X315.here hx rfl (hb hby at_90) rfl rfl (l' := #[.val (.int p1), .val (.int p2), .val (.int p3), .val (.int p4), .val (.int p5), .val (.int kk), .val (.int mm), .val (.int ll), .val (.int tg), .val (.int tk), .val (.ref tb), .val (.ref pl), .unset, .unset, .unset, .unset]) rfl ?_
      show Steps p.tables e below (T315.setTop (mkF m 92 #[.val (.int p1), .val (.int p2), .val (.int p3), .val (.int p4), .val (.int p5), .val (.int kk), .val (.int mm), .val (.int ll), .val (.int tg), .val (.int tk), .val (.ref tb), .val (.ref pl), .unset, .unset, .unset, .unset] [])) t
      refine XS.aload X315.here hx rfl (hb hby at_92) rfl rfl ?_
      exact ht
    obtain ⟨cq326, kq326, q326a, q326b, q326c⟩ := isOf hZ297 rfl f318
    obtain ⟨_, _, ⟨T326, L326, c326, n326⟩, -, X326, ⟨Lc326, hQ326, l326, y326, z326⟩, st326⟩ := X315.virtualBack hx (y := (⟨"com/example/subscriptor/subscriptor/Der", "hasNext", "()Z"⟩ : MethodName)) (z := (⟨"com/example/subscriptor/subscriptor/Der", "hasNext", "()Z"⟩ : MethodName)) hown297 (mvT hZ297 (hw _ (List.mem_of_getElem? (i := 28) rfl))) (mvT hZ297 (hw _ (List.mem_of_getElem? (i := 29) rfl))) (notFace_of_selects (args := #[]) (mvT hZ297 (hw _ (List.mem_of_getElem? (i := 31) rfl)))) (mvT hZ297 (hw _ (List.mem_of_getElem? (i := 31) rfl))) (mvT hZ297 (hw _ (List.mem_of_getElem? (i := 30) rfl))) (by decide) (backOf (W := 0) (rm4 l Z a0 hw [] pl (0 : Int32) ll T315.heap n0 f316 Fc315 Fd315) hZ297 (hw _ (List.mem_of_getElem? (i := 32) rfl)) (hw _ (List.mem_of_getElem? (i := 3) rfl)) (by decide) (by decide)) q326a q326c (g := (mkF m 94 #[.val (.int p1), .val (.int p2), .val (.int p3), .val (.int p4), .val (.int p5), .val (.int kk), .val (.int mm), .val (.int ll), .val (.int tg), .val (.int tk), .val (.ref tb), .val (.ref pl), .unset, .unset, .unset, .unset] [(.ref pl)])) rfl (by rw [hml]; rfl) (Steps.refl _) (argsL := []) (rest := []) (lenOf pd_2 rfl) rfl (by show 2 * 0 + _ ≤ _; exact Nat.le_of_eq rfl) (hb hby at_94) (fun _ _ => ⟨rfl, rfl, (by decide : 5 + 0 ≤ _), (by decide : 23 + 0 ≤ _)⟩)
    dsimp only [Pt.U, Pt.locs, Pt.cells, Pt.slots] at X326 l326 y326 z326 st326 hQ326
    subst l326 y326 z326
    obtain ⟨rfl, Nq326, eq326⟩ := hQ326
    have N326 := Fr.app N315 Nq326
    have k326 : Kt p e below m (s₁.setTop (entryFrame m #[(.int p1), (.int p2), (.int p3), (.int p4), (.int p5)] maxLocals)) T326 97 #[.val (.int p1), .val (.int p2), .val (.int p3), .val (.int p4), .val (.int p5), .val (.int kk), .val (.int mm), .val (.int ll), .val (.int tg), .val (.int tk), .val (.ref tb), .val (.ref pl), .unset, .unset, .unset, .unset] [(.int (own_b ((0 : Int32) < ll)))] := fun t ht => k325 t (st326.trans ht)
    have f327 : n0 ≤ T326.heap.size := by rw [eq326]; exact f316
    have f328 : Arv Z T326.heap tb ak277 .byte N [(.int u0), (.int u1), (.int (0 : Int32)), (.int (0 : Int32))] (.int (0 : Int32)) := by rw [eq326]; exact f317
    have f329 : Exa Z T326.heap pl "com/example/subscriptor/subscriptor/Der" := by rw [eq326]; exact f318
    have f330 : kb297 ≤ T326.heap.size := by rw [eq326]; exact f323
    have f331 : Arv Z T326.heap pb ak306 .byte ll [] (.int (0 : Int32)) := by rw [eq326]; exact f324
    have f332 : Fld Z T326.heap pl "com/example/subscriptor/subscriptor/Der" "what" "Ljava/lang/String;" (.ref s1) := by rw [eq326]; exact Fa315
    have f333 : Fld Z T326.heap pl "com/example/subscriptor/subscriptor/Der" "bytes" "[B" (.ref pb) := by rw [eq326]; exact Fb315
    have f334 : Fld Z T326.heap pl "com/example/subscriptor/subscriptor/Der" "position" "I" (.int (0 : Int32)) := by rw [eq326]; exact Fc315
    have f335 : Fld Z T326.heap pl "com/example/subscriptor/subscriptor/Der" "end" "I" (.int ll) := by rw [eq326]; exact Fd315
    have k336 : Kt p e below m (s₁.setTop (entryFrame m #[(.int p1), (.int p2), (.int p3), (.int p4), (.int p5)] maxLocals)) T326 99 #[.val (.int p1), .val (.int p2), .val (.int p3), .val (.int p4), .val (.int p5), .val (.int kk), .val (.int mm), .val (.int ll), .val (.int tg), .val (.int tk), .val (.ref tb), .val (.ref pl), .unset, .unset, .unset, .unset] [(.int ll), (.int (own_b ((0 : Int32) < ll)))] := by
      intro t ht
      refine k326 t ?_
      show Steps p.tables e below (T326.setTop (mkF m 97 #[.val (.int p1), .val (.int p2), .val (.int p3), .val (.int p4), .val (.int p5), .val (.int kk), .val (.int mm), .val (.int ll), .val (.int tg), .val (.int tk), .val (.ref tb), .val (.ref pl), .unset, .unset, .unset, .unset] [(.int (own_b ((0 : Int32) < ll)))])) t
      refine XS.iload X326.here hx rfl (hb hby at_97) rfl ?_
      exact ht
    obtain ⟨z1, hp337, k337⟩ : ∃ z1 : Int32, (z1 = own_b ((0 : Int32) < ll)) ∧ Kt p e below m (s₁.setTop (entryFrame m #[(.int p1), (.int p2), (.int p3), (.int p4), (.int p5)] maxLocals)) T326 107 #[.val (.int p1), .val (.int p2), .val (.int p3), .val (.int p4), .val (.int p5), .val (.int kk), .val (.int mm), .val (.int ll), .val (.int tg), .val (.int tk), .val (.ref tb), .val (.ref pl), .unset, .unset, .unset, .unset] [(.int z1), (.int (own_b ((0 : Int32) < ll)))] := by
      by_cases hj338 : (0 : Int32) < ll
      · have k339 : Kt p e below m (s₁.setTop (entryFrame m #[(.int p1), (.int p2), (.int p3), (.int p4), (.int p5)] maxLocals)) T326 107 #[.val (.int p1), .val (.int p2), .val (.int p3), .val (.int p4), .val (.int p5), .val (.int kk), .val (.int mm), .val (.int ll), .val (.int tg), .val (.int tk), .val (.ref tb), .val (.ref pl), .unset, .unset, .unset, .unset] [(.int (1 : Int32)), (.int (own_b ((0 : Int32) < ll)))] := by
          intro t ht
          refine k336 t ?_
          show Steps p.tables e below (T326.setTop (mkF m 99 #[.val (.int p1), .val (.int p2), .val (.int p3), .val (.int p4), .val (.int p5), .val (.int kk), .val (.int mm), .val (.int ll), .val (.int tg), .val (.int tk), .val (.ref tb), .val (.ref pl), .unset, .unset, .unset, .unset] [(.int ll), (.int (own_b ((0 : Int32) < ll)))])) t
          refine XS.ifNo X326.here hx rfl (hb hby at_99) rfl ((if0 _ _).trans (tlt hj338).2.2.2) ?_
          show Steps p.tables e below (T326.setTop (mkF m 102 #[.val (.int p1), .val (.int p2), .val (.int p3), .val (.int p4), .val (.int p5), .val (.int kk), .val (.int mm), .val (.int ll), .val (.int tg), .val (.int tk), .val (.ref tb), .val (.ref pl), .unset, .unset, .unset, .unset] [(.int (own_b ((0 : Int32) < ll)))])) t
          refine XS.iconst X326.here hx rfl (hb hby at_102) ?_
          show Steps p.tables e below (T326.setTop (mkF m 103 #[.val (.int p1), .val (.int p2), .val (.int p3), .val (.int p4), .val (.int p5), .val (.int kk), .val (.int mm), .val (.int ll), .val (.int tg), .val (.int tk), .val (.ref tb), .val (.ref pl), .unset, .unset, .unset, .unset] [(.int (1 : Int32)), (.int (own_b ((0 : Int32) < ll)))])) t
          refine XS.goto X326.here hx rfl (pc0 := 103) (pc' := 107) rfl (hb hby at_103) (by decide) (by decide) ?_
          exact ht
        exact ⟨(1 : Int32), (by unfold own_b; simp [hj338]), k339⟩
      · have k340 : Kt p e below m (s₁.setTop (entryFrame m #[(.int p1), (.int p2), (.int p3), (.int p4), (.int p5)] maxLocals)) T326 107 #[.val (.int p1), .val (.int p2), .val (.int p3), .val (.int p4), .val (.int p5), .val (.int kk), .val (.int mm), .val (.int ll), .val (.int tg), .val (.int tk), .val (.ref tb), .val (.ref pl), .unset, .unset, .unset, .unset] [(.int (0 : Int32)), (.int (own_b ((0 : Int32) < ll)))] := by
          intro t ht
          refine k336 t ?_
          show Steps p.tables e below (T326.setTop (mkF m 99 #[.val (.int p1), .val (.int p2), .val (.int p3), .val (.int p4), .val (.int p5), .val (.int kk), .val (.int mm), .val (.int ll), .val (.int tg), .val (.int tk), .val (.ref tb), .val (.ref pl), .unset, .unset, .unset, .unset] [(.int ll), (.int (own_b ((0 : Int32) < ll)))])) t
          refine XS.ifYes X326.here hx rfl (pc0 := 99) (pc' := 106) rfl (hb hby at_99) rfl ((if0 _ _).trans (flt hj338).2.2.2) (by decide) (by decide) ?_
          show Steps p.tables e below (T326.setTop (mkF m 106 #[.val (.int p1), .val (.int p2), .val (.int p3), .val (.int p4), .val (.int p5), .val (.int kk), .val (.int mm), .val (.int ll), .val (.int tg), .val (.int tk), .val (.ref tb), .val (.ref pl), .unset, .unset, .unset, .unset] [(.int (own_b ((0 : Int32) < ll)))])) t
          refine XS.iconst X326.here hx rfl (hb hby at_106) ?_
          exact ht
        exact ⟨(0 : Int32), (by unfold own_b; simp [hj338]), k340⟩
    have k341 : Kt p e below m (s₁.setTop (entryFrame m #[(.int p1), (.int p2), (.int p3), (.int p4), (.int p5)] maxLocals)) T326 117 #[.val (.int p1), .val (.int p2), .val (.int p3), .val (.int p4), .val (.int p5), .val (.int kk), .val (.int mm), .val (.int ll), .val (.int tg), .val (.int tk), .val (.ref tb), .val (.ref pl), .val (.int (1 : Int32)), .unset, .unset, .unset] [] := by
      intro t ht
      refine k337 t ?_
      show Steps p.tables e below (T326.setTop (mkF m 107 #[.val (.int p1), .val (.int p2), .val (.int p3), .val (.int p4), .val (.int p5), .val (.int kk), .val (.int mm), .val (.int ll), .val (.int tg), .val (.int tk), .val (.ref tb), .val (.ref pl), .unset, .unset, .unset, .unset] [(.int z1), (.int (own_b ((0 : Int32) < ll)))])) t
      refine XS.icmpNo X326.here hx rfl (hb hby at_107) rfl (teq hp337.symm).2 ?_
      show Steps p.tables e below (T326.setTop (mkF m 110 #[.val (.int p1), .val (.int p2), .val (.int p3), .val (.int p4), .val (.int p5), .val (.int kk), .val (.int mm), .val (.int ll), .val (.int tg), .val (.int tk), .val (.ref tb), .val (.ref pl), .unset, .unset, .unset, .unset] [])) t
      refine XS.iconst X326.here hx rfl (hb hby at_110) ?_
      show Steps p.tables e below (T326.setTop (mkF m 111 #[.val (.int p1), .val (.int p2), .val (.int p3), .val (.int p4), .val (.int p5), .val (.int kk), .val (.int mm), .val (.int ll), .val (.int tg), .val (.int tk), .val (.ref tb), .val (.ref pl), .unset, .unset, .unset, .unset] [(.int (1 : Int32))])) t
      refine XS.goto X326.here hx rfl (pc0 := 111) (pc' := 115) rfl (hb hby at_111) (by decide) (by decide) ?_
      show Steps p.tables e below (T326.setTop (mkF m 115 #[.val (.int p1), .val (.int p2), .val (.int p3), .val (.int p4), .val (.int p5), .val (.int kk), .val (.int mm), .val (.int ll), .val (.int tg), .val (.int tk), .val (.ref tb), .val (.ref pl), .unset, .unset, .unset, .unset] [(.int (1 : Int32))])) t
      refine XS.istore X326.here hx rfl (hb hby at_115) rfl (l' := #[.val (.int p1), .val (.int p2), .val (.int p3), .val (.int p4), .val (.int p5), .val (.int kk), .val (.int mm), .val (.int ll), .val (.int tg), .val (.int tk), .val (.ref tb), .val (.ref pl), .val (.int (1 : Int32)), .unset, .unset, .unset]) rfl ?_
      exact ht
    obtain ⟨T342, h342, X342, e342, E342, A342, D342, -, st342⟩ := newO X326 hx hZ297 hown297 (hw _ (List.mem_of_getElem? (i := 1) rfl)) (hw _ (List.mem_of_getElem? (i := 2) rfl)) (hw _ (List.mem_of_getElem? (i := 3) rfl)) rfl (g := (mkF m 117 #[.val (.int p1), .val (.int p2), .val (.int p3), .val (.int p4), .val (.int p5), .val (.int kk), .val (.int mm), .val (.int ll), .val (.int tg), .val (.int tk), .val (.ref tb), .val (.ref pl), .val (.int (1 : Int32)), .unset, .unset, .unset] [])) rfl (hb hby at_117) (by decide) (by decide)
    obtain ⟨ou, q342⟩ : ∃ z, z = T326.heap.size := ⟨_, rfl⟩
    have ne_tb_ou : tb ≠ ou := by rw [q342]; exact Nat.ne_of_lt f328.lt
    have ne_pl_ou : pl ≠ ou := by rw [q342]; exact Nat.ne_of_lt f329.lt
    have ne_pb_ou : pb ≠ ou := by rw [q342]; exact Nat.ne_of_lt f331.lt
    have g_ou : n0 ≤ ou := by rw [q342]; exact f327
    rw [← q342] at A342 D342 st342
    have f343 : n0 ≤ h342.size := Nat.le_trans f327 E342.1
    have f344 : Arv Z h342 tb ak277 .byte N [(.int u0), (.int u1), (.int (0 : Int32)), (.int (0 : Int32))] (.int (0 : Int32)) := f328.ext E342
    have f345 : Exa Z h342 pl "com/example/subscriptor/subscriptor/Der" := f329.ext E342
    have f346 : kb297 ≤ h342.size := Nat.le_trans f330 E342.1
    have f347 : Arv Z h342 pb ak306 .byte ll [] (.int (0 : Int32)) := f331.ext E342
    have f348 : Fld Z h342 pl "com/example/subscriptor/subscriptor/Der" "what" "Ljava/lang/String;" (.ref s1) := f332.ext E342
    have f349 : Fld Z h342 pl "com/example/subscriptor/subscriptor/Der" "bytes" "[B" (.ref pb) := f333.ext E342
    have f350 : Fld Z h342 pl "com/example/subscriptor/subscriptor/Der" "position" "I" (.int (0 : Int32)) := f334.ext E342
    have f351 : Fld Z h342 pl "com/example/subscriptor/subscriptor/Der" "end" "I" (.int ll) := f335.ext E342
    have f342 : Exa Z h342 ou "com/example/subscriptor/subscriptor/Der" := A342
    have f352 : Fld Z h342 ou "com/example/subscriptor/subscriptor/Der" "what" "Ljava/lang/String;" .null := D342 (Or.inr (hw _ (List.mem_of_getElem? (i := 21) rfl))) (ty := (.object "java/lang/String")) (by decide)
    have f353 : Fld Z h342 ou "com/example/subscriptor/subscriptor/Der" "bytes" "[B" .null := D342 (Or.inr (hw _ (List.mem_of_getElem? (i := 23) rfl))) (ty := (.array .byte)) (by decide)
    have f354 : Fld Z h342 ou "com/example/subscriptor/subscriptor/Der" "position" "I" (.int (0 : Int32)) := D342 (Or.inl (hw _ (List.mem_of_getElem? (i := 25) rfl))) (ty := .int) (by decide)
    have f355 : Fld Z h342 ou "com/example/subscriptor/subscriptor/Der" "end" "I" (.int (0 : Int32)) := D342 (Or.inr (hw _ (List.mem_of_getElem? (i := 27) rfl))) (ty := .int) (by decide)
    have k342 : Kt p e below m (s₁.setTop (entryFrame m #[(.int p1), (.int p2), (.int p3), (.int p4), (.int p5)] maxLocals)) T342 120 #[.val (.int p1), .val (.int p2), .val (.int p3), .val (.int p4), .val (.int p5), .val (.int kk), .val (.int mm), .val (.int ll), .val (.int tg), .val (.int tk), .val (.ref tb), .val (.ref pl), .val (.int (1 : Int32)), .unset, .unset, .unset] [(.ref ou)] := fun t ht => k341 t (st342 t ht)
    have k356 : Kt p e below m (s₁.setTop (entryFrame m #[(.int p1), (.int p2), (.int p3), (.int p4), (.int p5)] maxLocals)) T342 121 #[.val (.int p1), .val (.int p2), .val (.int p3), .val (.int p4), .val (.int p5), .val (.int kk), .val (.int mm), .val (.int ll), .val (.int tg), .val (.int tk), .val (.ref tb), .val (.ref pl), .val (.int (1 : Int32)), .unset, .unset, .unset] [(.ref ou), (.ref ou)] := by
      intro t ht
      refine k342 t ?_
      show Steps p.tables e below (T342.setTop (mkF m 120 #[.val (.int p1), .val (.int p2), .val (.int p3), .val (.int p4), .val (.int p5), .val (.int kk), .val (.int mm), .val (.int ll), .val (.int tg), .val (.int tk), .val (.ref tb), .val (.ref pl), .val (.int (1 : Int32)), .unset, .unset, .unset] [(.ref ou)])) t
      refine XS.dup X342.here hx rfl (hb hby at_120) rfl rfl ?_
      exact ht
    obtain ⟨s2, T357, h357, kb357, X357, e357, E357, hS357, hk357, hZ357, hown357, st357⟩ := ldcS (s := s) (vm0 := T297.vm) X342 hx hZ297 hown297 (hw _ (List.mem_of_getElem? (i := 4) rfl)) wS e342 hS297 f346 (g := (mkF m 121 #[.val (.int p1), .val (.int p2), .val (.int p3), .val (.int p4), .val (.int p5), .val (.int kk), .val (.int mm), .val (.int ll), .val (.int tg), .val (.int tk), .val (.ref tb), .val (.ref pl), .val (.int (1 : Int32)), .unset, .unset, .unset] [(.ref ou), (.ref ou)])) rfl (hb hby at_121) (n := 4) (by decide) (by decide) (by decide) (by decide)
    have f358 : n0 ≤ h357.size := Nat.le_trans f343 E357.1
    have f359 : Arv Z h357 tb ak277 .byte N [(.int u0), (.int u1), (.int (0 : Int32)), (.int (0 : Int32))] (.int (0 : Int32)) := f344.ext E357
    have f360 : Exa Z h357 pl "com/example/subscriptor/subscriptor/Der" := f345.ext E357
    have f361 : kb297 ≤ h357.size := Nat.le_trans f346 E357.1
    have f362 : Arv Z h357 pb ak306 .byte ll [] (.int (0 : Int32)) := f347.ext E357
    have f363 : Fld Z h357 pl "com/example/subscriptor/subscriptor/Der" "what" "Ljava/lang/String;" (.ref s1) := f348.ext E357
    have f364 : Fld Z h357 pl "com/example/subscriptor/subscriptor/Der" "bytes" "[B" (.ref pb) := f349.ext E357
    have f365 : Fld Z h357 pl "com/example/subscriptor/subscriptor/Der" "position" "I" (.int (0 : Int32)) := f350.ext E357
    have f366 : Fld Z h357 pl "com/example/subscriptor/subscriptor/Der" "end" "I" (.int ll) := f351.ext E357
    have f367 : Exa Z h357 ou "com/example/subscriptor/subscriptor/Der" := f342.ext E357
    have f368 : Fld Z h357 ou "com/example/subscriptor/subscriptor/Der" "what" "Ljava/lang/String;" .null := f352.ext E357
    have f369 : Fld Z h357 ou "com/example/subscriptor/subscriptor/Der" "bytes" "[B" .null := f353.ext E357
    have f370 : Fld Z h357 ou "com/example/subscriptor/subscriptor/Der" "position" "I" (.int (0 : Int32)) := f354.ext E357
    have f371 : Fld Z h357 ou "com/example/subscriptor/subscriptor/Der" "end" "I" (.int (0 : Int32)) := f355.ext E357
    have k357 : Kt p e below m (s₁.setTop (entryFrame m #[(.int p1), (.int p2), (.int p3), (.int p4), (.int p5)] maxLocals)) T357 123 #[.val (.int p1), .val (.int p2), .val (.int p3), .val (.int p4), .val (.int p5), .val (.int kk), .val (.int mm), .val (.int ll), .val (.int tg), .val (.int tk), .val (.ref tb), .val (.ref pl), .val (.int (1 : Int32)), .unset, .unset, .unset] [(.ref s2), (.ref ou), (.ref ou)] := fun t ht => k356 t (st357 t ht)
    have k372 : Kt p e below m (s₁.setTop (entryFrame m #[(.int p1), (.int p2), (.int p3), (.int p4), (.int p5)] maxLocals)) T357 125 #[.val (.int p1), .val (.int p2), .val (.int p3), .val (.int p4), .val (.int p5), .val (.int kk), .val (.int mm), .val (.int ll), .val (.int tg), .val (.int tk), .val (.ref tb), .val (.ref pl), .val (.int (1 : Int32)), .unset, .unset, .unset] [(.ref tb), (.ref s2), (.ref ou), (.ref ou)] := by
      intro t ht
      refine k357 t ?_
      show Steps p.tables e below (T357.setTop (mkF m 123 #[.val (.int p1), .val (.int p2), .val (.int p3), .val (.int p4), .val (.int p5), .val (.int kk), .val (.int mm), .val (.int ll), .val (.int tg), .val (.int tk), .val (.ref tb), .val (.ref pl), .val (.int (1 : Int32)), .unset, .unset, .unset] [(.ref s2), (.ref ou), (.ref ou)])) t
      refine XS.aload X357.here hx rfl (hb hby at_123) rfl rfl ?_
      exact ht
    obtain ⟨_, _, ⟨T373, L373, c373, n373⟩, -, X373, ⟨Lc373, hQ373, l373, y373, z373⟩, st373⟩ := X357.specialBack hx (y := (⟨"com/example/subscriptor/subscriptor/Der", "<init>", "(Ljava/lang/String;[B)V"⟩ : MethodName)) rfl hown357 (mvT hZ357 (hw _ (List.mem_of_getElem? (i := 11) rfl))) (mvT hZ357 (hw _ (List.mem_of_getElem? (i := 12) rfl))) (mvT hZ357 (hw _ (List.mem_of_getElem? (i := 13) rfl))) (by decide) (backOf (W := 1) (rm1 l Z a0 hw [] ou s2 tb ak277 N [(.int u0), (.int u1), (.int (0 : Int32)), (.int (0 : Int32))] h357 n0 f358 f367 f368 f369 f370 f371 f359 g_ou) hZ357 (hw _ (List.mem_of_getElem? (i := 13) rfl)) (hw _ (List.mem_of_getElem? (i := 3) rfl)) (by decide) (by decide)) (g := (mkF m 125 #[.val (.int p1), .val (.int p2), .val (.int p3), .val (.int p4), .val (.int p5), .val (.int kk), .val (.int mm), .val (.int ll), .val (.int tg), .val (.int tk), .val (.ref tb), .val (.ref pl), .val (.int (1 : Int32)), .unset, .unset, .unset] [(.ref tb), (.ref s2), (.ref ou), (.ref ou)])) rfl (by rw [hml]; rfl) (Steps.refl _) (a := ou) (argsL := [(.ref s2), (.ref tb)]) (rest := [(.ref ou)]) (lenOf pd_5 rfl) rfl (by show 2 * 0 + _ ≤ _; exact Nat.le_of_eq rfl) (hb hby at_125) (fun _ _ => ⟨rfl, e357, (by decide : 8 + 0 ≤ _), (by decide : 35 + 0 ≤ _)⟩)
    dsimp only [Pt.U, Pt.locs, Pt.cells, Pt.slots] at X373 l373 y373 z373 st373 hQ373
    subst l373 y373 z373
    obtain ⟨rfl, Nq373, Kp373, Fa373, Fb373, Fc373, Fd373⟩ := hQ373
    have N373 := Fr.app N326 Nq373
    have k373 : Kt p e below m (s₁.setTop (entryFrame m #[(.int p1), (.int p2), (.int p3), (.int p4), (.int p5)] maxLocals)) T373 128 #[.val (.int p1), .val (.int p2), .val (.int p3), .val (.int p4), .val (.int p5), .val (.int kk), .val (.int mm), .val (.int ll), .val (.int tg), .val (.int tk), .val (.ref tb), .val (.ref pl), .val (.int (1 : Int32)), .unset, .unset, .unset] [(.ref ou)] := fun t ht => k372 t (st373.trans ht)
    have f374 : n0 ≤ T373.heap.size := Nat.le_trans f358 Kp373.1
    have f375 : Arv Z T373.heap tb ak277 .byte N [(.int u0), (.int u1), (.int (0 : Int32)), (.int (0 : Int32))] (.int (0 : Int32)) := f359.keep Kp373 (ninS ne_tb_ou nin0)
    have f376 : Exa Z T373.heap pl "com/example/subscriptor/subscriptor/Der" := f360.keep Kp373
    have f377 : kb357 ≤ T373.heap.size := Nat.le_trans hk357 Kp373.1
    have f378 : Arv Z T373.heap pb ak306 .byte ll [] (.int (0 : Int32)) := f362.keep Kp373 (ninS ne_pb_ou nin0)
    have f379 : Fld Z T373.heap pl "com/example/subscriptor/subscriptor/Der" "what" "Ljava/lang/String;" (.ref s1) := f363.keep Kp373 (ninS ne_pl_ou nin0)
    have f380 : Fld Z T373.heap pl "com/example/subscriptor/subscriptor/Der" "bytes" "[B" (.ref pb) := f364.keep Kp373 (ninS ne_pl_ou nin0)
    have f381 : Fld Z T373.heap pl "com/example/subscriptor/subscriptor/Der" "position" "I" (.int (0 : Int32)) := f365.keep Kp373 (ninS ne_pl_ou nin0)
    have f382 : Fld Z T373.heap pl "com/example/subscriptor/subscriptor/Der" "end" "I" (.int ll) := f366.keep Kp373 (ninS ne_pl_ou nin0)
    have f383 : Exa Z T373.heap ou "com/example/subscriptor/subscriptor/Der" := f367.keep Kp373
    have k388 : Kt p e below m (s₁.setTop (entryFrame m #[(.int p1), (.int p2), (.int p3), (.int p4), (.int p5)] maxLocals)) T373 137 #[.val (.int p1), .val (.int p2), .val (.int p3), .val (.int p4), .val (.int p5), .val (.int kk), .val (.int mm), .val (.int ll), .val (.int tg), .val (.int tk), .val (.ref tb), .val (.ref pl), .val (.int (1 : Int32)), .val (.ref ou), .unset, .unset] [(.ref ou)] := by
      intro t ht
      refine k373 t ?_
      show Steps p.tables e below (T373.setTop (mkF m 128 #[.val (.int p1), .val (.int p2), .val (.int p3), .val (.int p4), .val (.int p5), .val (.int kk), .val (.int mm), .val (.int ll), .val (.int tg), .val (.int tk), .val (.ref tb), .val (.ref pl), .val (.int (1 : Int32)), .unset, .unset, .unset] [(.ref ou)])) t
      refine XS.astore X373.here hx rfl (hb hby at_128) rfl rfl (l' := #[.val (.int p1), .val (.int p2), .val (.int p3), .val (.int p4), .val (.int p5), .val (.int kk), .val (.int mm), .val (.int ll), .val (.int tg), .val (.int tk), .val (.ref tb), .val (.ref pl), .val (.int (1 : Int32)), .val (.ref ou), .unset, .unset]) rfl ?_
      show Steps p.tables e below (T373.setTop (mkF m 130 #[.val (.int p1), .val (.int p2), .val (.int p3), .val (.int p4), .val (.int p5), .val (.int kk), .val (.int mm), .val (.int ll), .val (.int tg), .val (.int tk), .val (.ref tb), .val (.ref pl), .val (.int (1 : Int32)), .val (.ref ou), .unset, .unset] [])) t
      refine XS.iload X373.here hx rfl (hb hby at_130) rfl ?_
      show Steps p.tables e below (T373.setTop (mkF m 132 #[.val (.int p1), .val (.int p2), .val (.int p3), .val (.int p4), .val (.int p5), .val (.int kk), .val (.int mm), .val (.int ll), .val (.int tg), .val (.int tk), .val (.ref tb), .val (.ref pl), .val (.int (1 : Int32)), .val (.ref ou), .unset, .unset] [(.int (1 : Int32))])) t
      refine XS.ifNo X373.here hx rfl (hb hby at_132) rfl ((if0 _ _).trans (feq (by decide)).1) ?_
      show Steps p.tables e below (T373.setTop (mkF m 135 #[.val (.int p1), .val (.int p2), .val (.int p3), .val (.int p4), .val (.int p5), .val (.int kk), .val (.int mm), .val (.int ll), .val (.int tg), .val (.int tk), .val (.ref tb), .val (.ref pl), .val (.int (1 : Int32)), .val (.ref ou), .unset, .unset] [])) t
      refine XS.aload X373.here hx rfl (hb hby at_135) rfl rfl ?_
      exact ht
    obtain ⟨cq389, kq389, q389a, q389b, q389c⟩ := isOf hZ357 rfl f383
    obtain ⟨_, _, ⟨T389, L389, c389, n389⟩, -, X389, ⟨Lc389, hQ389, l389, y389, z389⟩, st389⟩ := X373.virtualBack hx (y := (⟨"com/example/subscriptor/subscriptor/Der", "hasNext", "()Z"⟩ : MethodName)) (z := (⟨"com/example/subscriptor/subscriptor/Der", "hasNext", "()Z"⟩ : MethodName)) hown357 (mvT hZ357 (hw _ (List.mem_of_getElem? (i := 28) rfl))) (mvT hZ357 (hw _ (List.mem_of_getElem? (i := 29) rfl))) (notFace_of_selects (args := #[]) (mvT hZ357 (hw _ (List.mem_of_getElem? (i := 31) rfl)))) (mvT hZ357 (hw _ (List.mem_of_getElem? (i := 31) rfl))) (mvT hZ357 (hw _ (List.mem_of_getElem? (i := 30) rfl))) (by decide) (backOf (W := 0) (rm4 l Z a0 hw [] ou (0 : Int32) N T373.heap n0 f374 Fc373 Fd373) hZ357 (hw _ (List.mem_of_getElem? (i := 32) rfl)) (hw _ (List.mem_of_getElem? (i := 3) rfl)) (by decide) (by decide)) q389a q389c (g := (mkF m 137 #[.val (.int p1), .val (.int p2), .val (.int p3), .val (.int p4), .val (.int p5), .val (.int kk), .val (.int mm), .val (.int ll), .val (.int tg), .val (.int tk), .val (.ref tb), .val (.ref pl), .val (.int (1 : Int32)), .val (.ref ou), .unset, .unset] [(.ref ou)])) rfl (by rw [hml]; rfl) (Steps.refl _) (argsL := []) (rest := []) (lenOf pd_2 rfl) rfl (by show 2 * 0 + _ ≤ _; exact Nat.le_of_eq rfl) (hb hby at_137) (fun _ _ => ⟨rfl, rfl, (by decide : 8 + 0 ≤ _), (by decide : 35 + 0 ≤ _)⟩)
    dsimp only [Pt.U, Pt.locs, Pt.cells, Pt.slots] at X389 l389 y389 z389 st389 hQ389
    subst l389 y389 z389
    obtain ⟨rfl, Nq389, eq389⟩ := hQ389
    have N389 := Fr.app N373 Nq389
    have k389 : Kt p e below m (s₁.setTop (entryFrame m #[(.int p1), (.int p2), (.int p3), (.int p4), (.int p5)] maxLocals)) T389 140 #[.val (.int p1), .val (.int p2), .val (.int p3), .val (.int p4), .val (.int p5), .val (.int kk), .val (.int mm), .val (.int ll), .val (.int tg), .val (.int tk), .val (.ref tb), .val (.ref pl), .val (.int (1 : Int32)), .val (.ref ou), .unset, .unset] [(.int (own_b ((0 : Int32) < N)))] := fun t ht => k388 t (st389.trans ht)
    have f390 : n0 ≤ T389.heap.size := by rw [eq389]; exact f374
    have f391 : Arv Z T389.heap tb ak277 .byte N [(.int u0), (.int u1), (.int (0 : Int32)), (.int (0 : Int32))] (.int (0 : Int32)) := by rw [eq389]; exact f375
    have f392 : Exa Z T389.heap pl "com/example/subscriptor/subscriptor/Der" := by rw [eq389]; exact f376
    have f393 : kb357 ≤ T389.heap.size := by rw [eq389]; exact f377
    have f394 : Arv Z T389.heap pb ak306 .byte ll [] (.int (0 : Int32)) := by rw [eq389]; exact f378
    have f395 : Fld Z T389.heap pl "com/example/subscriptor/subscriptor/Der" "what" "Ljava/lang/String;" (.ref s1) := by rw [eq389]; exact f379
    have f396 : Fld Z T389.heap pl "com/example/subscriptor/subscriptor/Der" "bytes" "[B" (.ref pb) := by rw [eq389]; exact f380
    have f397 : Fld Z T389.heap pl "com/example/subscriptor/subscriptor/Der" "position" "I" (.int (0 : Int32)) := by rw [eq389]; exact f381
    have f398 : Fld Z T389.heap pl "com/example/subscriptor/subscriptor/Der" "end" "I" (.int ll) := by rw [eq389]; exact f382
    have f399 : Exa Z T389.heap ou "com/example/subscriptor/subscriptor/Der" := by rw [eq389]; exact f383
    have f400 : Fld Z T389.heap ou "com/example/subscriptor/subscriptor/Der" "what" "Ljava/lang/String;" (.ref s2) := by rw [eq389]; exact Fa373
    have f401 : Fld Z T389.heap ou "com/example/subscriptor/subscriptor/Der" "bytes" "[B" (.ref tb) := by rw [eq389]; exact Fb373
    have f402 : Fld Z T389.heap ou "com/example/subscriptor/subscriptor/Der" "position" "I" (.int (0 : Int32)) := by rw [eq389]; exact Fc373
    have f403 : Fld Z T389.heap ou "com/example/subscriptor/subscriptor/Der" "end" "I" (.int N) := by rw [eq389]; exact Fd373
    have q6 : (N - (2 : Int32)).toInt = N.toInt - 2 := by rw [own_sub (by omega) (by omega) (by decide) (by decide), own_2]
    have k404 : Kt p e below m (s₁.setTop (entryFrame m #[(.int p1), (.int p2), (.int p3), (.int p4), (.int p5)] maxLocals)) T389 154 #[.val (.int p1), .val (.int p2), .val (.int p3), .val (.int p4), .val (.int p5), .val (.int kk), .val (.int mm), .val (.int ll), .val (.int tg), .val (.int tk), .val (.ref tb), .val (.ref pl), .val (.int (1 : Int32)), .val (.ref ou), .unset, .unset] [(.int tg), (.ref ou)] := by
      intro t ht
      refine k389 t ?_
      show Steps p.tables e below (T389.setTop (mkF m 140 #[.val (.int p1), .val (.int p2), .val (.int p3), .val (.int p4), .val (.int p5), .val (.int kk), .val (.int mm), .val (.int ll), .val (.int tg), .val (.int tk), .val (.ref tb), .val (.ref pl), .val (.int (1 : Int32)), .val (.ref ou), .unset, .unset] [(.int (own_b ((0 : Int32) < N)))])) t
      refine XS.ifNo X389.here hx rfl (hb hby at_140) rfl ((if0 _ _).trans (feq (own_bnz (by rw [own_lt, own_0]; omega))).1) ?_
      show Steps p.tables e below (T389.setTop (mkF m 143 #[.val (.int p1), .val (.int p2), .val (.int p3), .val (.int p4), .val (.int p5), .val (.int kk), .val (.int mm), .val (.int ll), .val (.int tg), .val (.int tk), .val (.ref tb), .val (.ref pl), .val (.int (1 : Int32)), .val (.ref ou), .unset, .unset] [])) t
      refine XS.iconst X389.here hx rfl (hb hby at_143) ?_
      show Steps p.tables e below (T389.setTop (mkF m 144 #[.val (.int p1), .val (.int p2), .val (.int p3), .val (.int p4), .val (.int p5), .val (.int kk), .val (.int mm), .val (.int ll), .val (.int tg), .val (.int tk), .val (.ref tb), .val (.ref pl), .val (.int (1 : Int32)), .val (.ref ou), .unset, .unset] [(.int (1 : Int32))])) t
      refine XS.goto X389.here hx rfl (pc0 := 144) (pc' := 148) rfl (hb hby at_144) (by decide) (by decide) ?_
      show Steps p.tables e below (T389.setTop (mkF m 148 #[.val (.int p1), .val (.int p2), .val (.int p3), .val (.int p4), .val (.int p5), .val (.int kk), .val (.int mm), .val (.int ll), .val (.int tg), .val (.int tk), .val (.ref tb), .val (.ref pl), .val (.int (1 : Int32)), .val (.ref ou), .unset, .unset] [(.int (1 : Int32))])) t
      refine XS.istore X389.here hx rfl (hb hby at_148) rfl (l' := #[.val (.int p1), .val (.int p2), .val (.int p3), .val (.int p4), .val (.int p5), .val (.int kk), .val (.int mm), .val (.int ll), .val (.int tg), .val (.int tk), .val (.ref tb), .val (.ref pl), .val (.int (1 : Int32)), .val (.ref ou), .unset, .unset]) rfl ?_
      show Steps p.tables e below (T389.setTop (mkF m 150 #[.val (.int p1), .val (.int p2), .val (.int p3), .val (.int p4), .val (.int p5), .val (.int kk), .val (.int mm), .val (.int ll), .val (.int tg), .val (.int tk), .val (.ref tb), .val (.ref pl), .val (.int (1 : Int32)), .val (.ref ou), .unset, .unset] [])) t
      refine XS.aload X389.here hx rfl (hb hby at_150) rfl rfl ?_
      show Steps p.tables e below (T389.setTop (mkF m 152 #[.val (.int p1), .val (.int p2), .val (.int p3), .val (.int p4), .val (.int p5), .val (.int kk), .val (.int mm), .val (.int ll), .val (.int tg), .val (.int tk), .val (.ref tb), .val (.ref pl), .val (.int (1 : Int32)), .val (.ref ou), .unset, .unset] [(.ref ou)])) t
      refine XS.iload X389.here hx rfl (hb hby at_152) rfl ?_
      exact ht
    obtain ⟨cq405, kq405, q405a, q405b, q405c⟩ := isOf hZ357 rfl f399
    obtain ⟨_, _, ⟨T405, L405, c405, n405⟩, -, X405, ⟨Lc405, hQ405, l405, y405, z405⟩, st405⟩ := X389.virtualBack hx (y := (⟨"com/example/subscriptor/subscriptor/Der", "read", "(I)Lcom/example/subscriptor/subscriptor/Der;"⟩ : MethodName)) (z := (⟨"com/example/subscriptor/subscriptor/Der", "read", "(I)Lcom/example/subscriptor/subscriptor/Der;"⟩ : MethodName)) hown357 (mvT hZ357 (hw _ (List.mem_of_getElem? (i := 33) rfl))) (mvT hZ357 (hw _ (List.mem_of_getElem? (i := 34) rfl))) (notFace_of_selects (args := #[]) (mvT hZ357 (hw _ (List.mem_of_getElem? (i := 36) rfl)))) (mvT hZ357 (hw _ (List.mem_of_getElem? (i := 36) rfl))) (mvT hZ357 (hw _ (List.mem_of_getElem? (i := 35) rfl))) (by decide) (backOf (W := 0) (rmrd0 l Z a0 hw [] ou s2 tb ak277 N N u0 u1 (0 : Int32) (0 : Int32) tg kk T389.heap n0 f390 f399 f400 f401 f402 f403 f391 ne_tb_ou.symm g_ou (by rw [own_lt, own_0]; omega) (by rw [own_lt, own_1]; omega) (by rw [own_lt, own_0]; omega) (by rw [own_lt, own_1]; omega) b0 b1 (own_l127 (by omega)) (own_ll (by omega))) hZ357 (hw _ (List.mem_of_getElem? (i := 37) rfl)) (hw _ (List.mem_of_getElem? (i := 3) rfl)) (by decide) (by decide)) q405a q405c (g := (mkF m 154 #[.val (.int p1), .val (.int p2), .val (.int p3), .val (.int p4), .val (.int p5), .val (.int kk), .val (.int mm), .val (.int ll), .val (.int tg), .val (.int tk), .val (.ref tb), .val (.ref pl), .val (.int (1 : Int32)), .val (.ref ou), .unset, .unset] [(.int tg), (.ref ou)])) rfl (by rw [hml]; rfl) (Steps.refl _) (argsL := [(.int tg)]) (rest := []) (lenOf pd_4 rfl) rfl (by show 2 * 0 + _ ≤ _; exact Nat.le_of_eq rfl) (hb hby at_154) (fun _ _ => ⟨rfl, rfl, (by decide : 8 + 1 ≤ _), (by decide : 35 + 4 ≤ _)⟩)
    dsimp only [Pt.U, Pt.locs, Pt.cells, Pt.slots] at X405 l405 y405 z405 st405 hQ405
    subst l405 y405 z405
    obtain ⟨inn, rfl, Nq405, Kp405, sz405, Er405, Fa405, Fb405, Fc405, Fd405, Ga405, Gb405, Gc405, Gd405⟩ := hQ405
    have N405 := Fr.app N389 Nq405
    have k405 : Kt p e below m (s₁.setTop (entryFrame m #[(.int p1), (.int p2), (.int p3), (.int p4), (.int p5)] maxLocals)) T405 157 #[.val (.int p1), .val (.int p2), .val (.int p3), .val (.int p4), .val (.int p5), .val (.int kk), .val (.int mm), .val (.int ll), .val (.int tg), .val (.int tk), .val (.ref tb), .val (.ref pl), .val (.int (1 : Int32)), .val (.ref ou), .unset, .unset] [(.ref inn)] := fun t ht => k404 t (st405.trans ht)
    have ne_tb_inn : tb ≠ inn := Nat.ne_of_lt (Nat.lt_of_lt_of_le f391.lt sz405)
    have ne_pl_inn : pl ≠ inn := Nat.ne_of_lt (Nat.lt_of_lt_of_le f392.lt sz405)
    have ne_pb_inn : pb ≠ inn := Nat.ne_of_lt (Nat.lt_of_lt_of_le f394.lt sz405)
    have ne_ou_inn : ou ≠ inn := Nat.ne_of_lt (Nat.lt_of_lt_of_le f399.lt sz405)
    have g_inn : n0 ≤ inn := Nat.le_trans f390 sz405
    have f406 : n0 ≤ T405.heap.size := Nat.le_trans f390 Kp405.1
    have f407 : Arv Z T405.heap tb ak277 .byte N [(.int u0), (.int u1), (.int (0 : Int32)), (.int (0 : Int32))] (.int (0 : Int32)) := f391.keep Kp405 (ninS ne_tb_ou nin0)
    have f408 : Exa Z T405.heap pl "com/example/subscriptor/subscriptor/Der" := f392.keep Kp405
    have f409 : kb357 ≤ T405.heap.size := Nat.le_trans f393 Kp405.1
    have f410 : Arv Z T405.heap pb ak306 .byte ll [] (.int (0 : Int32)) := f394.keep Kp405 (ninS ne_pb_ou nin0)
    have f411 : Fld Z T405.heap pl "com/example/subscriptor/subscriptor/Der" "what" "Ljava/lang/String;" (.ref s1) := f395.keep Kp405 (ninS ne_pl_ou nin0)
    have f412 : Fld Z T405.heap pl "com/example/subscriptor/subscriptor/Der" "bytes" "[B" (.ref pb) := f396.keep Kp405 (ninS ne_pl_ou nin0)
    have f413 : Fld Z T405.heap pl "com/example/subscriptor/subscriptor/Der" "position" "I" (.int (0 : Int32)) := f397.keep Kp405 (ninS ne_pl_ou nin0)
    have f414 : Fld Z T405.heap pl "com/example/subscriptor/subscriptor/Der" "end" "I" (.int ll) := f398.keep Kp405 (ninS ne_pl_ou nin0)
    have f415 : Exa Z T405.heap ou "com/example/subscriptor/subscriptor/Der" := f399.keep Kp405
    have k420 : Kt p e below m (s₁.setTop (entryFrame m #[(.int p1), (.int p2), (.int p3), (.int p4), (.int p5)] maxLocals)) T405 166 #[.val (.int p1), .val (.int p2), .val (.int p3), .val (.int p4), .val (.int p5), .val (.int kk), .val (.int mm), .val (.int ll), .val (.int tg), .val (.int tk), .val (.ref tb), .val (.ref pl), .val (.int (1 : Int32)), .val (.ref ou), .val (.ref inn), .unset] [(.ref ou)] := by
      intro t ht
      refine k405 t ?_
      show Steps p.tables e below (T405.setTop (mkF m 157 #[.val (.int p1), .val (.int p2), .val (.int p3), .val (.int p4), .val (.int p5), .val (.int kk), .val (.int mm), .val (.int ll), .val (.int tg), .val (.int tk), .val (.ref tb), .val (.ref pl), .val (.int (1 : Int32)), .val (.ref ou), .unset, .unset] [(.ref inn)])) t
      refine XS.astore X405.here hx rfl (hb hby at_157) rfl rfl (l' := #[.val (.int p1), .val (.int p2), .val (.int p3), .val (.int p4), .val (.int p5), .val (.int kk), .val (.int mm), .val (.int ll), .val (.int tg), .val (.int tk), .val (.ref tb), .val (.ref pl), .val (.int (1 : Int32)), .val (.ref ou), .val (.ref inn), .unset]) rfl ?_
      show Steps p.tables e below (T405.setTop (mkF m 159 #[.val (.int p1), .val (.int p2), .val (.int p3), .val (.int p4), .val (.int p5), .val (.int kk), .val (.int mm), .val (.int ll), .val (.int tg), .val (.int tk), .val (.ref tb), .val (.ref pl), .val (.int (1 : Int32)), .val (.ref ou), .val (.ref inn), .unset] [])) t
      refine XS.iload X405.here hx rfl (hb hby at_159) rfl ?_
      show Steps p.tables e below (T405.setTop (mkF m 161 #[.val (.int p1), .val (.int p2), .val (.int p3), .val (.int p4), .val (.int p5), .val (.int kk), .val (.int mm), .val (.int ll), .val (.int tg), .val (.int tk), .val (.ref tb), .val (.ref pl), .val (.int (1 : Int32)), .val (.ref ou), .val (.ref inn), .unset] [(.int (1 : Int32))])) t
      refine XS.ifNo X405.here hx rfl (hb hby at_161) rfl ((if0 _ _).trans (feq (by decide)).1) ?_
      show Steps p.tables e below (T405.setTop (mkF m 164 #[.val (.int p1), .val (.int p2), .val (.int p3), .val (.int p4), .val (.int p5), .val (.int kk), .val (.int mm), .val (.int ll), .val (.int tg), .val (.int tk), .val (.ref tb), .val (.ref pl), .val (.int (1 : Int32)), .val (.ref ou), .val (.ref inn), .unset] [])) t
      refine XS.aload X405.here hx rfl (hb hby at_164) rfl rfl ?_
      exact ht
    obtain ⟨cq421, kq421, q421a, q421b, q421c⟩ := isOf hZ357 rfl f415
    obtain ⟨_, _, ⟨T421, L421, c421, n421⟩, -, X421, ⟨Lc421, hQ421, l421, y421, z421⟩, st421⟩ := X405.virtualBack hx (y := (⟨"com/example/subscriptor/subscriptor/Der", "hasNext", "()Z"⟩ : MethodName)) (z := (⟨"com/example/subscriptor/subscriptor/Der", "hasNext", "()Z"⟩ : MethodName)) hown357 (mvT hZ357 (hw _ (List.mem_of_getElem? (i := 28) rfl))) (mvT hZ357 (hw _ (List.mem_of_getElem? (i := 29) rfl))) (notFace_of_selects (args := #[]) (mvT hZ357 (hw _ (List.mem_of_getElem? (i := 31) rfl)))) (mvT hZ357 (hw _ (List.mem_of_getElem? (i := 31) rfl))) (mvT hZ357 (hw _ (List.mem_of_getElem? (i := 30) rfl))) (by decide) (backOf (W := 0) (rm4 l Z a0 hw [] ou ((2 : Int32) + kk) N T405.heap n0 f406 Fc405 Fd405) hZ357 (hw _ (List.mem_of_getElem? (i := 32) rfl)) (hw _ (List.mem_of_getElem? (i := 3) rfl)) (by decide) (by decide)) q421a q421c (g := (mkF m 166 #[.val (.int p1), .val (.int p2), .val (.int p3), .val (.int p4), .val (.int p5), .val (.int kk), .val (.int mm), .val (.int ll), .val (.int tg), .val (.int tk), .val (.ref tb), .val (.ref pl), .val (.int (1 : Int32)), .val (.ref ou), .val (.ref inn), .unset] [(.ref ou)])) rfl (by rw [hml]; rfl) (Steps.refl _) (argsL := []) (rest := []) (lenOf pd_2 rfl) rfl (by show 2 * 0 + _ ≤ _; exact Nat.le_of_eq rfl) (hb hby at_166) (fun _ _ => ⟨rfl, rfl, (by decide : 9 + 0 ≤ _), (by decide : 39 + 0 ≤ _)⟩)
    dsimp only [Pt.U, Pt.locs, Pt.cells, Pt.slots] at X421 l421 y421 z421 st421 hQ421
    subst l421 y421 z421
    obtain ⟨rfl, Nq421, eq421⟩ := hQ421
    have N421 := Fr.app N405 Nq421
    have k421 : Kt p e below m (s₁.setTop (entryFrame m #[(.int p1), (.int p2), (.int p3), (.int p4), (.int p5)] maxLocals)) T421 169 #[.val (.int p1), .val (.int p2), .val (.int p3), .val (.int p4), .val (.int p5), .val (.int kk), .val (.int mm), .val (.int ll), .val (.int tg), .val (.int tk), .val (.ref tb), .val (.ref pl), .val (.int (1 : Int32)), .val (.ref ou), .val (.ref inn), .unset] [(.int (own_b (((2 : Int32) + kk) < N)))] := fun t ht => k420 t (st421.trans ht)
    have f422 : n0 ≤ T421.heap.size := by rw [eq421]; exact f406
    have f423 : Arv Z T421.heap tb ak277 .byte N [(.int u0), (.int u1), (.int (0 : Int32)), (.int (0 : Int32))] (.int (0 : Int32)) := by rw [eq421]; exact f407
    have f424 : Exa Z T421.heap pl "com/example/subscriptor/subscriptor/Der" := by rw [eq421]; exact f408
    have f425 : kb357 ≤ T421.heap.size := by rw [eq421]; exact f409
    have f426 : Arv Z T421.heap pb ak306 .byte ll [] (.int (0 : Int32)) := by rw [eq421]; exact f410
    have f427 : Fld Z T421.heap pl "com/example/subscriptor/subscriptor/Der" "what" "Ljava/lang/String;" (.ref s1) := by rw [eq421]; exact f411
    have f428 : Fld Z T421.heap pl "com/example/subscriptor/subscriptor/Der" "bytes" "[B" (.ref pb) := by rw [eq421]; exact f412
    have f429 : Fld Z T421.heap pl "com/example/subscriptor/subscriptor/Der" "position" "I" (.int (0 : Int32)) := by rw [eq421]; exact f413
    have f430 : Fld Z T421.heap pl "com/example/subscriptor/subscriptor/Der" "end" "I" (.int ll) := by rw [eq421]; exact f414
    have f431 : Exa Z T421.heap ou "com/example/subscriptor/subscriptor/Der" := by rw [eq421]; exact f415
    have f432 : Fld Z T421.heap ou "com/example/subscriptor/subscriptor/Der" "what" "Ljava/lang/String;" (.ref s2) := by rw [eq421]; exact Fa405
    have f433 : Fld Z T421.heap ou "com/example/subscriptor/subscriptor/Der" "bytes" "[B" (.ref tb) := by rw [eq421]; exact Fb405
    have f434 : Fld Z T421.heap ou "com/example/subscriptor/subscriptor/Der" "position" "I" (.int ((2 : Int32) + kk)) := by rw [eq421]; exact Fc405
    have f435 : Fld Z T421.heap ou "com/example/subscriptor/subscriptor/Der" "end" "I" (.int N) := by rw [eq421]; exact Fd405
    have f436 : Fld Z T421.heap inn "com/example/subscriptor/subscriptor/Der" "what" "Ljava/lang/String;" (.ref s2) := by rw [eq421]; exact Ga405
    have f437 : Fld Z T421.heap inn "com/example/subscriptor/subscriptor/Der" "bytes" "[B" (.ref tb) := by rw [eq421]; exact Gb405
    have f438 : Fld Z T421.heap inn "com/example/subscriptor/subscriptor/Der" "position" "I" (.int (2 : Int32)) := by rw [eq421]; exact Gc405
    have f439 : Fld Z T421.heap inn "com/example/subscriptor/subscriptor/Der" "end" "I" (.int ((2 : Int32) + kk)) := by rw [eq421]; exact Gd405
    have f440 : Exa Z T421.heap inn "com/example/subscriptor/subscriptor/Der" := by rw [eq421]; exact Er405
    have k441 : Kt p e below m (s₁.setTop (entryFrame m #[(.int p1), (.int p2), (.int p3), (.int p4), (.int p5)] maxLocals)) T421 171 #[.val (.int p1), .val (.int p2), .val (.int p3), .val (.int p4), .val (.int p5), .val (.int kk), .val (.int mm), .val (.int ll), .val (.int tg), .val (.int tk), .val (.ref tb), .val (.ref pl), .val (.int (1 : Int32)), .val (.ref ou), .val (.ref inn), .unset] [(.int mm), (.int (own_b (((2 : Int32) + kk) < N)))] := by
      intro t ht
      refine k421 t ?_
      show Steps p.tables e below (T421.setTop (mkF m 169 #[.val (.int p1), .val (.int p2), .val (.int p3), .val (.int p4), .val (.int p5), .val (.int kk), .val (.int mm), .val (.int ll), .val (.int tg), .val (.int tk), .val (.ref tb), .val (.ref pl), .val (.int (1 : Int32)), .val (.ref ou), .val (.ref inn), .unset] [(.int (own_b (((2 : Int32) + kk) < N)))])) t
      refine XS.iload X421.here hx rfl (hb hby at_169) rfl ?_
      exact ht
    obtain ⟨z2, hp442, k442⟩ : ∃ z2 : Int32, (z2 = own_b ((0 : Int32) < mm)) ∧ Kt p e below m (s₁.setTop (entryFrame m #[(.int p1), (.int p2), (.int p3), (.int p4), (.int p5)] maxLocals)) T421 179 #[.val (.int p1), .val (.int p2), .val (.int p3), .val (.int p4), .val (.int p5), .val (.int kk), .val (.int mm), .val (.int ll), .val (.int tg), .val (.int tk), .val (.ref tb), .val (.ref pl), .val (.int (1 : Int32)), .val (.ref ou), .val (.ref inn), .unset] [(.int z2), (.int (own_b (((2 : Int32) + kk) < N)))] := by
      by_cases hj443 : (0 : Int32) < mm
      · have k444 : Kt p e below m (s₁.setTop (entryFrame m #[(.int p1), (.int p2), (.int p3), (.int p4), (.int p5)] maxLocals)) T421 179 #[.val (.int p1), .val (.int p2), .val (.int p3), .val (.int p4), .val (.int p5), .val (.int kk), .val (.int mm), .val (.int ll), .val (.int tg), .val (.int tk), .val (.ref tb), .val (.ref pl), .val (.int (1 : Int32)), .val (.ref ou), .val (.ref inn), .unset] [(.int (1 : Int32)), (.int (own_b (((2 : Int32) + kk) < N)))] := by
          intro t ht
          refine k441 t ?_
          show Steps p.tables e below (T421.setTop (mkF m 171 #[.val (.int p1), .val (.int p2), .val (.int p3), .val (.int p4), .val (.int p5), .val (.int kk), .val (.int mm), .val (.int ll), .val (.int tg), .val (.int tk), .val (.ref tb), .val (.ref pl), .val (.int (1 : Int32)), .val (.ref ou), .val (.ref inn), .unset] [(.int mm), (.int (own_b (((2 : Int32) + kk) < N)))])) t
          refine XS.ifNo X421.here hx rfl (hb hby at_171) rfl ((if0 _ _).trans (tlt hj443).2.2.2) ?_
          show Steps p.tables e below (T421.setTop (mkF m 174 #[.val (.int p1), .val (.int p2), .val (.int p3), .val (.int p4), .val (.int p5), .val (.int kk), .val (.int mm), .val (.int ll), .val (.int tg), .val (.int tk), .val (.ref tb), .val (.ref pl), .val (.int (1 : Int32)), .val (.ref ou), .val (.ref inn), .unset] [(.int (own_b (((2 : Int32) + kk) < N)))])) t
          refine XS.iconst X421.here hx rfl (hb hby at_174) ?_
          show Steps p.tables e below (T421.setTop (mkF m 175 #[.val (.int p1), .val (.int p2), .val (.int p3), .val (.int p4), .val (.int p5), .val (.int kk), .val (.int mm), .val (.int ll), .val (.int tg), .val (.int tk), .val (.ref tb), .val (.ref pl), .val (.int (1 : Int32)), .val (.ref ou), .val (.ref inn), .unset] [(.int (1 : Int32)), (.int (own_b (((2 : Int32) + kk) < N)))])) t
          refine XS.goto X421.here hx rfl (pc0 := 175) (pc' := 179) rfl (hb hby at_175) (by decide) (by decide) ?_
          exact ht
        exact ⟨(1 : Int32), (by unfold own_b; simp [hj443]), k444⟩
      · have k445 : Kt p e below m (s₁.setTop (entryFrame m #[(.int p1), (.int p2), (.int p3), (.int p4), (.int p5)] maxLocals)) T421 179 #[.val (.int p1), .val (.int p2), .val (.int p3), .val (.int p4), .val (.int p5), .val (.int kk), .val (.int mm), .val (.int ll), .val (.int tg), .val (.int tk), .val (.ref tb), .val (.ref pl), .val (.int (1 : Int32)), .val (.ref ou), .val (.ref inn), .unset] [(.int (0 : Int32)), (.int (own_b (((2 : Int32) + kk) < N)))] := by
          intro t ht
          refine k441 t ?_
          show Steps p.tables e below (T421.setTop (mkF m 171 #[.val (.int p1), .val (.int p2), .val (.int p3), .val (.int p4), .val (.int p5), .val (.int kk), .val (.int mm), .val (.int ll), .val (.int tg), .val (.int tk), .val (.ref tb), .val (.ref pl), .val (.int (1 : Int32)), .val (.ref ou), .val (.ref inn), .unset] [(.int mm), (.int (own_b (((2 : Int32) + kk) < N)))])) t
          refine XS.ifYes X421.here hx rfl (pc0 := 171) (pc' := 178) rfl (hb hby at_171) rfl ((if0 _ _).trans (flt hj443).2.2.2) (by decide) (by decide) ?_
          show Steps p.tables e below (T421.setTop (mkF m 178 #[.val (.int p1), .val (.int p2), .val (.int p3), .val (.int p4), .val (.int p5), .val (.int kk), .val (.int mm), .val (.int ll), .val (.int tg), .val (.int tk), .val (.ref tb), .val (.ref pl), .val (.int (1 : Int32)), .val (.ref ou), .val (.ref inn), .unset] [(.int (own_b (((2 : Int32) + kk) < N)))])) t
          refine XS.iconst X421.here hx rfl (hb hby at_178) ?_
          exact ht
        exact ⟨(0 : Int32), (by unfold own_b; simp [hj443]), k445⟩
    have k446 : Kt p e below m (s₁.setTop (entryFrame m #[(.int p1), (.int p2), (.int p3), (.int p4), (.int p5)] maxLocals)) T421 196 #[.val (.int p1), .val (.int p2), .val (.int p3), .val (.int p4), .val (.int p5), .val (.int kk), .val (.int mm), .val (.int ll), .val (.int tg), .val (.int tk), .val (.ref tb), .val (.ref pl), .val (.int (1 : Int32)), .val (.ref ou), .val (.ref inn), .unset] [(.ref inn)] := by
      intro t ht
      refine k442 t ?_
      show Steps p.tables e below (T421.setTop (mkF m 179 #[.val (.int p1), .val (.int p2), .val (.int p3), .val (.int p4), .val (.int p5), .val (.int kk), .val (.int mm), .val (.int ll), .val (.int tg), .val (.int tk), .val (.ref tb), .val (.ref pl), .val (.int (1 : Int32)), .val (.ref ou), .val (.ref inn), .unset] [(.int z2), (.int (own_b (((2 : Int32) + kk) < N)))])) t
      refine XS.icmpNo X421.here hx rfl (hb hby at_179) rfl (teq ((own_bn (by rw [own_lt, own_lt, own_0]; omega)).trans hp442.symm)).2 ?_
      show Steps p.tables e below (T421.setTop (mkF m 182 #[.val (.int p1), .val (.int p2), .val (.int p3), .val (.int p4), .val (.int p5), .val (.int kk), .val (.int mm), .val (.int ll), .val (.int tg), .val (.int tk), .val (.ref tb), .val (.ref pl), .val (.int (1 : Int32)), .val (.ref ou), .val (.ref inn), .unset] [])) t
      refine XS.iconst X421.here hx rfl (hb hby at_182) ?_
      show Steps p.tables e below (T421.setTop (mkF m 183 #[.val (.int p1), .val (.int p2), .val (.int p3), .val (.int p4), .val (.int p5), .val (.int kk), .val (.int mm), .val (.int ll), .val (.int tg), .val (.int tk), .val (.ref tb), .val (.ref pl), .val (.int (1 : Int32)), .val (.ref ou), .val (.ref inn), .unset] [(.int (1 : Int32))])) t
      refine XS.goto X421.here hx rfl (pc0 := 183) (pc' := 187) rfl (hb hby at_183) (by decide) (by decide) ?_
      show Steps p.tables e below (T421.setTop (mkF m 187 #[.val (.int p1), .val (.int p2), .val (.int p3), .val (.int p4), .val (.int p5), .val (.int kk), .val (.int mm), .val (.int ll), .val (.int tg), .val (.int tk), .val (.ref tb), .val (.ref pl), .val (.int (1 : Int32)), .val (.ref ou), .val (.ref inn), .unset] [(.int (1 : Int32))])) t
      refine XS.istore X421.here hx rfl (hb hby at_187) rfl (l' := #[.val (.int p1), .val (.int p2), .val (.int p3), .val (.int p4), .val (.int p5), .val (.int kk), .val (.int mm), .val (.int ll), .val (.int tg), .val (.int tk), .val (.ref tb), .val (.ref pl), .val (.int (1 : Int32)), .val (.ref ou), .val (.ref inn), .unset]) rfl ?_
      show Steps p.tables e below (T421.setTop (mkF m 189 #[.val (.int p1), .val (.int p2), .val (.int p3), .val (.int p4), .val (.int p5), .val (.int kk), .val (.int mm), .val (.int ll), .val (.int tg), .val (.int tk), .val (.ref tb), .val (.ref pl), .val (.int (1 : Int32)), .val (.ref ou), .val (.ref inn), .unset] [])) t
      refine XS.iload X421.here hx rfl (hb hby at_189) rfl ?_
      show Steps p.tables e below (T421.setTop (mkF m 191 #[.val (.int p1), .val (.int p2), .val (.int p3), .val (.int p4), .val (.int p5), .val (.int kk), .val (.int mm), .val (.int ll), .val (.int tg), .val (.int tk), .val (.ref tb), .val (.ref pl), .val (.int (1 : Int32)), .val (.ref ou), .val (.ref inn), .unset] [(.int (1 : Int32))])) t
      refine XS.ifNo X421.here hx rfl (hb hby at_191) rfl ((if0 _ _).trans (feq (by decide)).1) ?_
      show Steps p.tables e below (T421.setTop (mkF m 194 #[.val (.int p1), .val (.int p2), .val (.int p3), .val (.int p4), .val (.int p5), .val (.int kk), .val (.int mm), .val (.int ll), .val (.int tg), .val (.int tk), .val (.ref tb), .val (.ref pl), .val (.int (1 : Int32)), .val (.ref ou), .val (.ref inn), .unset] [])) t
      refine XS.aload X421.here hx rfl (hb hby at_194) rfl rfl ?_
      exact ht
    obtain ⟨cq447, kq447, q447a, q447b, q447c⟩ := isOf hZ357 rfl f440
    obtain ⟨_, _, ⟨T447, L447, c447, n447⟩, -, X447, ⟨Lc447, hQ447, l447, y447, z447⟩, st447⟩ := X421.virtualBack hx (y := (⟨"com/example/subscriptor/subscriptor/Der", "hasNext", "()Z"⟩ : MethodName)) (z := (⟨"com/example/subscriptor/subscriptor/Der", "hasNext", "()Z"⟩ : MethodName)) hown357 (mvT hZ357 (hw _ (List.mem_of_getElem? (i := 28) rfl))) (mvT hZ357 (hw _ (List.mem_of_getElem? (i := 29) rfl))) (notFace_of_selects (args := #[]) (mvT hZ357 (hw _ (List.mem_of_getElem? (i := 31) rfl)))) (mvT hZ357 (hw _ (List.mem_of_getElem? (i := 31) rfl))) (mvT hZ357 (hw _ (List.mem_of_getElem? (i := 30) rfl))) (by decide) (backOf (W := 0) (rm4 l Z a0 hw [] inn (2 : Int32) ((2 : Int32) + kk) T421.heap n0 f422 f438 f439) hZ357 (hw _ (List.mem_of_getElem? (i := 32) rfl)) (hw _ (List.mem_of_getElem? (i := 3) rfl)) (by decide) (by decide)) q447a q447c (g := (mkF m 196 #[.val (.int p1), .val (.int p2), .val (.int p3), .val (.int p4), .val (.int p5), .val (.int kk), .val (.int mm), .val (.int ll), .val (.int tg), .val (.int tk), .val (.ref tb), .val (.ref pl), .val (.int (1 : Int32)), .val (.ref ou), .val (.ref inn), .unset] [(.ref inn)])) rfl (by rw [hml]; rfl) (Steps.refl _) (argsL := []) (rest := []) (lenOf pd_2 rfl) rfl (by show 2 * 0 + _ ≤ _; exact Nat.le_of_eq rfl) (hb hby at_196) (fun _ _ => ⟨rfl, rfl, (by decide : 9 + 0 ≤ _), (by decide : 39 + 0 ≤ _)⟩)
    dsimp only [Pt.U, Pt.locs, Pt.cells, Pt.slots] at X447 l447 y447 z447 st447 hQ447
    subst l447 y447 z447
    obtain ⟨rfl, Nq447, eq447⟩ := hQ447
    have N447 := Fr.app N421 Nq447
    have k447 : Kt p e below m (s₁.setTop (entryFrame m #[(.int p1), (.int p2), (.int p3), (.int p4), (.int p5)] maxLocals)) T447 199 #[.val (.int p1), .val (.int p2), .val (.int p3), .val (.int p4), .val (.int p5), .val (.int kk), .val (.int mm), .val (.int ll), .val (.int tg), .val (.int tk), .val (.ref tb), .val (.ref pl), .val (.int (1 : Int32)), .val (.ref ou), .val (.ref inn), .unset] [(.int (own_b ((2 : Int32) < ((2 : Int32) + kk))))] := fun t ht => k446 t (st447.trans ht)
    have f448 : n0 ≤ T447.heap.size := by rw [eq447]; exact f422
    have f449 : Arv Z T447.heap tb ak277 .byte N [(.int u0), (.int u1), (.int (0 : Int32)), (.int (0 : Int32))] (.int (0 : Int32)) := by rw [eq447]; exact f423
    have f450 : Exa Z T447.heap pl "com/example/subscriptor/subscriptor/Der" := by rw [eq447]; exact f424
    have f451 : kb357 ≤ T447.heap.size := by rw [eq447]; exact f425
    have f452 : Arv Z T447.heap pb ak306 .byte ll [] (.int (0 : Int32)) := by rw [eq447]; exact f426
    have f453 : Fld Z T447.heap pl "com/example/subscriptor/subscriptor/Der" "what" "Ljava/lang/String;" (.ref s1) := by rw [eq447]; exact f427
    have f454 : Fld Z T447.heap pl "com/example/subscriptor/subscriptor/Der" "bytes" "[B" (.ref pb) := by rw [eq447]; exact f428
    have f455 : Fld Z T447.heap pl "com/example/subscriptor/subscriptor/Der" "position" "I" (.int (0 : Int32)) := by rw [eq447]; exact f429
    have f456 : Fld Z T447.heap pl "com/example/subscriptor/subscriptor/Der" "end" "I" (.int ll) := by rw [eq447]; exact f430
    have f457 : Exa Z T447.heap ou "com/example/subscriptor/subscriptor/Der" := by rw [eq447]; exact f431
    have f458 : Fld Z T447.heap ou "com/example/subscriptor/subscriptor/Der" "what" "Ljava/lang/String;" (.ref s2) := by rw [eq447]; exact f432
    have f459 : Fld Z T447.heap ou "com/example/subscriptor/subscriptor/Der" "bytes" "[B" (.ref tb) := by rw [eq447]; exact f433
    have f460 : Fld Z T447.heap ou "com/example/subscriptor/subscriptor/Der" "position" "I" (.int ((2 : Int32) + kk)) := by rw [eq447]; exact f434
    have f461 : Fld Z T447.heap ou "com/example/subscriptor/subscriptor/Der" "end" "I" (.int N) := by rw [eq447]; exact f435
    have f462 : Fld Z T447.heap inn "com/example/subscriptor/subscriptor/Der" "what" "Ljava/lang/String;" (.ref s2) := by rw [eq447]; exact f436
    have f463 : Fld Z T447.heap inn "com/example/subscriptor/subscriptor/Der" "bytes" "[B" (.ref tb) := by rw [eq447]; exact f437
    have f464 : Fld Z T447.heap inn "com/example/subscriptor/subscriptor/Der" "position" "I" (.int (2 : Int32)) := by rw [eq447]; exact f438
    have f465 : Fld Z T447.heap inn "com/example/subscriptor/subscriptor/Der" "end" "I" (.int ((2 : Int32) + kk)) := by rw [eq447]; exact f439
    have f466 : Exa Z T447.heap inn "com/example/subscriptor/subscriptor/Der" := by rw [eq447]; exact f440
    have k467 : Kt p e below m (s₁.setTop (entryFrame m #[(.int p1), (.int p2), (.int p3), (.int p4), (.int p5)] maxLocals)) T447 201 #[.val (.int p1), .val (.int p2), .val (.int p3), .val (.int p4), .val (.int p5), .val (.int kk), .val (.int mm), .val (.int ll), .val (.int tg), .val (.int tk), .val (.ref tb), .val (.ref pl), .val (.int (1 : Int32)), .val (.ref ou), .val (.ref inn), .unset] [(.int kk), (.int (own_b ((2 : Int32) < ((2 : Int32) + kk))))] := by
      intro t ht
      refine k447 t ?_
      show Steps p.tables e below (T447.setTop (mkF m 199 #[.val (.int p1), .val (.int p2), .val (.int p3), .val (.int p4), .val (.int p5), .val (.int kk), .val (.int mm), .val (.int ll), .val (.int tg), .val (.int tk), .val (.ref tb), .val (.ref pl), .val (.int (1 : Int32)), .val (.ref ou), .val (.ref inn), .unset] [(.int (own_b ((2 : Int32) < ((2 : Int32) + kk))))])) t
      refine XS.iload X447.here hx rfl (hb hby at_199) rfl ?_
      exact ht
    obtain ⟨z3, hp468, k468⟩ : ∃ z3 : Int32, (z3 = own_b ((0 : Int32) < kk)) ∧ Kt p e below m (s₁.setTop (entryFrame m #[(.int p1), (.int p2), (.int p3), (.int p4), (.int p5)] maxLocals)) T447 209 #[.val (.int p1), .val (.int p2), .val (.int p3), .val (.int p4), .val (.int p5), .val (.int kk), .val (.int mm), .val (.int ll), .val (.int tg), .val (.int tk), .val (.ref tb), .val (.ref pl), .val (.int (1 : Int32)), .val (.ref ou), .val (.ref inn), .unset] [(.int z3), (.int (own_b ((2 : Int32) < ((2 : Int32) + kk))))] := by
      by_cases hj469 : (0 : Int32) < kk
      · have k470 : Kt p e below m (s₁.setTop (entryFrame m #[(.int p1), (.int p2), (.int p3), (.int p4), (.int p5)] maxLocals)) T447 209 #[.val (.int p1), .val (.int p2), .val (.int p3), .val (.int p4), .val (.int p5), .val (.int kk), .val (.int mm), .val (.int ll), .val (.int tg), .val (.int tk), .val (.ref tb), .val (.ref pl), .val (.int (1 : Int32)), .val (.ref ou), .val (.ref inn), .unset] [(.int (1 : Int32)), (.int (own_b ((2 : Int32) < ((2 : Int32) + kk))))] := by
          intro t ht
          refine k467 t ?_
          show Steps p.tables e below (T447.setTop (mkF m 201 #[.val (.int p1), .val (.int p2), .val (.int p3), .val (.int p4), .val (.int p5), .val (.int kk), .val (.int mm), .val (.int ll), .val (.int tg), .val (.int tk), .val (.ref tb), .val (.ref pl), .val (.int (1 : Int32)), .val (.ref ou), .val (.ref inn), .unset] [(.int kk), (.int (own_b ((2 : Int32) < ((2 : Int32) + kk))))])) t
          refine XS.ifNo X447.here hx rfl (hb hby at_201) rfl ((if0 _ _).trans (tlt hj469).2.2.2) ?_
          show Steps p.tables e below (T447.setTop (mkF m 204 #[.val (.int p1), .val (.int p2), .val (.int p3), .val (.int p4), .val (.int p5), .val (.int kk), .val (.int mm), .val (.int ll), .val (.int tg), .val (.int tk), .val (.ref tb), .val (.ref pl), .val (.int (1 : Int32)), .val (.ref ou), .val (.ref inn), .unset] [(.int (own_b ((2 : Int32) < ((2 : Int32) + kk))))])) t
          refine XS.iconst X447.here hx rfl (hb hby at_204) ?_
          show Steps p.tables e below (T447.setTop (mkF m 205 #[.val (.int p1), .val (.int p2), .val (.int p3), .val (.int p4), .val (.int p5), .val (.int kk), .val (.int mm), .val (.int ll), .val (.int tg), .val (.int tk), .val (.ref tb), .val (.ref pl), .val (.int (1 : Int32)), .val (.ref ou), .val (.ref inn), .unset] [(.int (1 : Int32)), (.int (own_b ((2 : Int32) < ((2 : Int32) + kk))))])) t
          refine XS.goto X447.here hx rfl (pc0 := 205) (pc' := 209) rfl (hb hby at_205) (by decide) (by decide) ?_
          exact ht
        exact ⟨(1 : Int32), (by unfold own_b; simp [hj469]), k470⟩
      · have k471 : Kt p e below m (s₁.setTop (entryFrame m #[(.int p1), (.int p2), (.int p3), (.int p4), (.int p5)] maxLocals)) T447 209 #[.val (.int p1), .val (.int p2), .val (.int p3), .val (.int p4), .val (.int p5), .val (.int kk), .val (.int mm), .val (.int ll), .val (.int tg), .val (.int tk), .val (.ref tb), .val (.ref pl), .val (.int (1 : Int32)), .val (.ref ou), .val (.ref inn), .unset] [(.int (0 : Int32)), (.int (own_b ((2 : Int32) < ((2 : Int32) + kk))))] := by
          intro t ht
          refine k467 t ?_
          show Steps p.tables e below (T447.setTop (mkF m 201 #[.val (.int p1), .val (.int p2), .val (.int p3), .val (.int p4), .val (.int p5), .val (.int kk), .val (.int mm), .val (.int ll), .val (.int tg), .val (.int tk), .val (.ref tb), .val (.ref pl), .val (.int (1 : Int32)), .val (.ref ou), .val (.ref inn), .unset] [(.int kk), (.int (own_b ((2 : Int32) < ((2 : Int32) + kk))))])) t
          refine XS.ifYes X447.here hx rfl (pc0 := 201) (pc' := 208) rfl (hb hby at_201) rfl ((if0 _ _).trans (flt hj469).2.2.2) (by decide) (by decide) ?_
          show Steps p.tables e below (T447.setTop (mkF m 208 #[.val (.int p1), .val (.int p2), .val (.int p3), .val (.int p4), .val (.int p5), .val (.int kk), .val (.int mm), .val (.int ll), .val (.int tg), .val (.int tk), .val (.ref tb), .val (.ref pl), .val (.int (1 : Int32)), .val (.ref ou), .val (.ref inn), .unset] [(.int (own_b ((2 : Int32) < ((2 : Int32) + kk))))])) t
          refine XS.iconst X447.here hx rfl (hb hby at_208) ?_
          exact ht
        exact ⟨(0 : Int32), (by unfold own_b; simp [hj469]), k471⟩
    have k472 : Kt p e below m (s₁.setTop (entryFrame m #[(.int p1), (.int p2), (.int p3), (.int p4), (.int p5)] maxLocals)) T447 287 #[.val (.int p1), .val (.int p2), .val (.int p3), .val (.int p4), .val (.int p5), .val (.int kk), .val (.int mm), .val (.int ll), .val (.int tg), .val (.int tk), .val (.ref tb), .val (.ref pl), .val (.int (1 : Int32)), .val (.ref ou), .val (.ref inn), .unset] [(.int (1 : Int32))] := by
      intro t ht
      refine k468 t ?_
      show Steps p.tables e below (T447.setTop (mkF m 209 #[.val (.int p1), .val (.int p2), .val (.int p3), .val (.int p4), .val (.int p5), .val (.int kk), .val (.int mm), .val (.int ll), .val (.int tg), .val (.int tk), .val (.ref tb), .val (.ref pl), .val (.int (1 : Int32)), .val (.ref ou), .val (.ref inn), .unset] [(.int z3), (.int (own_b ((2 : Int32) < ((2 : Int32) + kk))))])) t
      refine XS.icmpNo X447.here hx rfl (hb hby at_209) rfl (teq ((own_bn (by rw [own_lt, own_lt, own_0, own_2]; omega)).trans hp468.symm)).2 ?_
      show Steps p.tables e below (T447.setTop (mkF m 212 #[.val (.int p1), .val (.int p2), .val (.int p3), .val (.int p4), .val (.int p5), .val (.int kk), .val (.int mm), .val (.int ll), .val (.int tg), .val (.int tk), .val (.ref tb), .val (.ref pl), .val (.int (1 : Int32)), .val (.ref ou), .val (.ref inn), .unset] [])) t
      refine XS.iconst X447.here hx rfl (hb hby at_212) ?_
      show Steps p.tables e below (T447.setTop (mkF m 213 #[.val (.int p1), .val (.int p2), .val (.int p3), .val (.int p4), .val (.int p5), .val (.int kk), .val (.int mm), .val (.int ll), .val (.int tg), .val (.int tk), .val (.ref tb), .val (.ref pl), .val (.int (1 : Int32)), .val (.ref ou), .val (.ref inn), .unset] [(.int (1 : Int32))])) t
      refine XS.goto X447.here hx rfl (pc0 := 213) (pc' := 217) rfl (hb hby at_213) (by decide) (by decide) ?_
      show Steps p.tables e below (T447.setTop (mkF m 217 #[.val (.int p1), .val (.int p2), .val (.int p3), .val (.int p4), .val (.int p5), .val (.int kk), .val (.int mm), .val (.int ll), .val (.int tg), .val (.int tk), .val (.ref tb), .val (.ref pl), .val (.int (1 : Int32)), .val (.ref ou), .val (.ref inn), .unset] [(.int (1 : Int32))])) t
      refine XS.istore X447.here hx rfl (hb hby at_217) rfl (l' := #[.val (.int p1), .val (.int p2), .val (.int p3), .val (.int p4), .val (.int p5), .val (.int kk), .val (.int mm), .val (.int ll), .val (.int tg), .val (.int tk), .val (.ref tb), .val (.ref pl), .val (.int (1 : Int32)), .val (.ref ou), .val (.ref inn), .unset]) rfl ?_
      show Steps p.tables e below (T447.setTop (mkF m 219 #[.val (.int p1), .val (.int p2), .val (.int p3), .val (.int p4), .val (.int p5), .val (.int kk), .val (.int mm), .val (.int ll), .val (.int tg), .val (.int tk), .val (.ref tb), .val (.ref pl), .val (.int (1 : Int32)), .val (.ref ou), .val (.ref inn), .unset] [])) t
      refine XS.iload X447.here hx rfl (hb hby at_219) rfl ?_
      show Steps p.tables e below (T447.setTop (mkF m 221 #[.val (.int p1), .val (.int p2), .val (.int p3), .val (.int p4), .val (.int p5), .val (.int kk), .val (.int mm), .val (.int ll), .val (.int tg), .val (.int tk), .val (.ref tb), .val (.ref pl), .val (.int (1 : Int32)), .val (.ref ou), .val (.ref inn), .unset] [(.int kk)])) t
      refine XS.iconst X447.here hx rfl (hb hby at_221) ?_
      show Steps p.tables e below (T447.setTop (mkF m 222 #[.val (.int p1), .val (.int p2), .val (.int p3), .val (.int p4), .val (.int p5), .val (.int kk), .val (.int mm), .val (.int ll), .val (.int tg), .val (.int tk), .val (.ref tb), .val (.ref pl), .val (.int (1 : Int32)), .val (.ref ou), .val (.ref inn), .unset] [(.int (2 : Int32)), (.int kk)])) t
      refine XS.icmpYes X447.here hx rfl (pc0 := 222) (pc' := 285) rfl (hb hby at_222) rfl (tlt h2).1 (by decide) (by decide) ?_
      show Steps p.tables e below (T447.setTop (mkF m 285 #[.val (.int p1), .val (.int p2), .val (.int p3), .val (.int p4), .val (.int p5), .val (.int kk), .val (.int mm), .val (.int ll), .val (.int tg), .val (.int tk), .val (.ref tb), .val (.ref pl), .val (.int (1 : Int32)), .val (.ref ou), .val (.ref inn), .unset] [])) t
      refine XS.iload X447.here hx rfl (hb hby at_285) rfl ?_
      exact ht
    obtain ⟨fs, hr, hrun, hended, -, hW, hbk, hsame⟩ := Stand.leaveW (s := s) (vm₁ := T357.vm) X447 (hS357) (by exact f451) (v := some (.int (1 : Int32))) (fun h => by rw [Bd.returns] at h; cases h)
    refine ⟨_, _, k472 _ ?_, hrun, hended, _, _, rfl, ?_, ⟨_, rfl⟩, hW, hbk, hsame.mono (by decide) (by decide)⟩
    · exact retN X447 hx (t := .boolean) Bd.returns (by simp) (hb hby at_287) hr
    · show Q0 Z p1 p2 p3 p4 p5 h0 n0 _ T447.heap _
      exact ⟨rfl, N447⟩
  · have hk2 : 2 ≤ kk.toInt := by rw [own_lt, own_2] at h2; omega
    have k473 : Kt p e below m (s₁.setTop (entryFrame m #[(.int p1), (.int p2), (.int p3), (.int p4), (.int p5)] maxLocals)) T284 67 #[.val (.int p1), .val (.int p2), .val (.int p3), .val (.int p4), .val (.int p5), .val (.int kk), .val (.int mm), .val (.int ll), .val (.int tg), .val (.int tk), .val (.ref tb), .unset, .unset, .unset, .unset, .unset] [(.int (tk.toInt8.toInt32)), (.int (2 : Int32)), (.ref tb)] := by
      intro t ht
      refine k287 t ?_
      show Steps p.tables e below (T284.setTop (mkF m 58 #[.val (.int p1), .val (.int p2), .val (.int p3), .val (.int p4), .val (.int p5), .val (.int kk), .val (.int mm), .val (.int ll), .val (.int tg), .val (.int tk), .val (.ref tb), .unset, .unset, .unset, .unset, .unset] [(.int (2 : Int32)), (.int kk)])) t
      refine XS.icmpNo X284.here hx rfl (hb hby at_58) rfl (flt h2).1 ?_
      show Steps p.tables e below (T284.setTop (mkF m 61 #[.val (.int p1), .val (.int p2), .val (.int p3), .val (.int p4), .val (.int p5), .val (.int kk), .val (.int mm), .val (.int ll), .val (.int tg), .val (.int tk), .val (.ref tb), .unset, .unset, .unset, .unset, .unset] [])) t
      refine XS.aload X284.here hx rfl (hb hby at_61) rfl rfl ?_
      show Steps p.tables e below (T284.setTop (mkF m 63 #[.val (.int p1), .val (.int p2), .val (.int p3), .val (.int p4), .val (.int p5), .val (.int kk), .val (.int mm), .val (.int ll), .val (.int tg), .val (.int tk), .val (.ref tb), .unset, .unset, .unset, .unset, .unset] [(.ref tb)])) t
      refine XS.iconst X284.here hx rfl (hb hby at_63) ?_
      show Steps p.tables e below (T284.setTop (mkF m 64 #[.val (.int p1), .val (.int p2), .val (.int p3), .val (.int p4), .val (.int p5), .val (.int kk), .val (.int mm), .val (.int ll), .val (.int tg), .val (.int tk), .val (.ref tb), .unset, .unset, .unset, .unset, .unset] [(.int (2 : Int32)), (.ref tb)])) t
      refine XS.iload X284.here hx rfl (hb hby at_64) rfl ?_
      show Steps p.tables e below (T284.setTop (mkF m 66 #[.val (.int p1), .val (.int p2), .val (.int p3), .val (.int p4), .val (.int p5), .val (.int kk), .val (.int mm), .val (.int ll), .val (.int tg), .val (.int tk), .val (.ref tb), .unset, .unset, .unset, .unset, .unset] [(.int tk), (.int (2 : Int32)), (.ref tb)])) t
      refine XS.i2b X284.here hx rfl (hb hby at_66) rfl ?_
      exact ht
    obtain ⟨cl474, Ar474, qc474, Sz474, Nn474, Hh474, Gg474⟩ := id f286
    have hin474 : ¬ ((2 : Int32) < 0 ∨ cl474.slots.size ≤ ((2 : Int32)).toNatClampNeg) := inb_of Sz474 ⟨by decide, by rw [own_lt, own_2]; omega⟩
    obtain ⟨T474, h474, X474, e474, W474, st474⟩ := stB X284 hx hZ e284 Ar474 (j := (2 : Int32)) hin474 (g := (mkF m 67 #[.val (.int p1), .val (.int p2), .val (.int p3), .val (.int p4), .val (.int p5), .val (.int kk), .val (.int mm), .val (.int ll), .val (.int tg), .val (.int tk), .val (.ref tb), .unset, .unset, .unset, .unset, .unset] [(.int (tk.toInt8.toInt32)), (.int (2 : Int32)), (.ref tb)])) rfl rfl (hb hby at_67)
    have N474 := Fr.snoc X474 N284 g_tb
    have f475 : n0 ≤ h474.size := Nat.le_trans f285 (Keep.of_wr W474).1
    have f476 : Arv Z h474 tb ak277 .byte N [(.int u0), (.int u1), (.int ((tk.toInt8.toInt32).toInt8.toInt32)), (.int (0 : Int32))] (.int (0 : Int32)) := Arv.set Ar474 qc474 Sz474 Nn474 Hh474 Gg474 (fits_nar_byte _) W474 2 rfl (Nat.le_of_ble_eq_true rfl)
    have k474 : Kt p e below m (s₁.setTop (entryFrame m #[(.int p1), (.int p2), (.int p3), (.int p4), (.int p5)] maxLocals)) T474 68 #[.val (.int p1), .val (.int p2), .val (.int p3), .val (.int p4), .val (.int p5), .val (.int kk), .val (.int mm), .val (.int ll), .val (.int tg), .val (.int tk), .val (.ref tb), .unset, .unset, .unset, .unset, .unset] [] := fun t ht => k473 t (st474 t ht)
    have k477 : Kt p e below m (s₁.setTop (entryFrame m #[(.int p1), (.int p2), (.int p3), (.int p4), (.int p5)] maxLocals)) T474 76 #[.val (.int p1), .val (.int p2), .val (.int p3), .val (.int p4), .val (.int p5), .val (.int kk), .val (.int mm), .val (.int ll), .val (.int tg), .val (.int tk), .val (.ref tb), .unset, .unset, .unset, .unset, .unset] [(.int ((kk - (2 : Int32)).toInt8.toInt32)), (.int (3 : Int32)), (.ref tb)] := by
      intro t ht
      refine k474 t ?_
      show Steps p.tables e below (T474.setTop (mkF m 68 #[.val (.int p1), .val (.int p2), .val (.int p3), .val (.int p4), .val (.int p5), .val (.int kk), .val (.int mm), .val (.int ll), .val (.int tg), .val (.int tk), .val (.ref tb), .unset, .unset, .unset, .unset, .unset] [])) t
      refine XS.aload X474.here hx rfl (hb hby at_68) rfl rfl ?_
      show Steps p.tables e below (T474.setTop (mkF m 70 #[.val (.int p1), .val (.int p2), .val (.int p3), .val (.int p4), .val (.int p5), .val (.int kk), .val (.int mm), .val (.int ll), .val (.int tg), .val (.int tk), .val (.ref tb), .unset, .unset, .unset, .unset, .unset] [(.ref tb)])) t
      refine XS.iconst X474.here hx rfl (hb hby at_70) ?_
      show Steps p.tables e below (T474.setTop (mkF m 71 #[.val (.int p1), .val (.int p2), .val (.int p3), .val (.int p4), .val (.int p5), .val (.int kk), .val (.int mm), .val (.int ll), .val (.int tg), .val (.int tk), .val (.ref tb), .unset, .unset, .unset, .unset, .unset] [(.int (3 : Int32)), (.ref tb)])) t
      refine XS.iload X474.here hx rfl (hb hby at_71) rfl ?_
      show Steps p.tables e below (T474.setTop (mkF m 73 #[.val (.int p1), .val (.int p2), .val (.int p3), .val (.int p4), .val (.int p5), .val (.int kk), .val (.int mm), .val (.int ll), .val (.int tg), .val (.int tk), .val (.ref tb), .unset, .unset, .unset, .unset, .unset] [(.int kk), (.int (3 : Int32)), (.ref tb)])) t
      refine XS.iconst X474.here hx rfl (hb hby at_73) ?_
      show Steps p.tables e below (T474.setTop (mkF m 74 #[.val (.int p1), .val (.int p2), .val (.int p3), .val (.int p4), .val (.int p5), .val (.int kk), .val (.int mm), .val (.int ll), .val (.int tg), .val (.int tk), .val (.ref tb), .unset, .unset, .unset, .unset, .unset] [(.int (2 : Int32)), (.int kk), (.int (3 : Int32)), (.ref tb)])) t
      refine XS.isub X474.here hx rfl (hb hby at_74) rfl ?_
      show Steps p.tables e below (T474.setTop (mkF m 75 #[.val (.int p1), .val (.int p2), .val (.int p3), .val (.int p4), .val (.int p5), .val (.int kk), .val (.int mm), .val (.int ll), .val (.int tg), .val (.int tk), .val (.ref tb), .unset, .unset, .unset, .unset, .unset] [(.int (kk - (2 : Int32))), (.int (3 : Int32)), (.ref tb)])) t
      refine XS.i2b X474.here hx rfl (hb hby at_75) rfl ?_
      exact ht
    obtain ⟨cl478, Ar478, qc478, Sz478, Nn478, Hh478, Gg478⟩ := id f476
    have hin478 : ¬ ((3 : Int32) < 0 ∨ cl478.slots.size ≤ ((3 : Int32)).toNatClampNeg) := inb_of Sz478 ⟨by decide, by rw [own_lt, own_3]; omega⟩
    obtain ⟨T478, h478, X478, e478, W478, st478⟩ := stB X474 hx hZ e474 Ar478 (j := (3 : Int32)) hin478 (g := (mkF m 76 #[.val (.int p1), .val (.int p2), .val (.int p3), .val (.int p4), .val (.int p5), .val (.int kk), .val (.int mm), .val (.int ll), .val (.int tg), .val (.int tk), .val (.ref tb), .unset, .unset, .unset, .unset, .unset] [(.int ((kk - (2 : Int32)).toInt8.toInt32)), (.int (3 : Int32)), (.ref tb)])) rfl rfl (hb hby at_76)
    have N478 := Fr.snoc X478 N474 g_tb
    have f479 : n0 ≤ h478.size := Nat.le_trans f475 (Keep.of_wr W478).1
    have f480 : Arv Z h478 tb ak277 .byte N [(.int u0), (.int u1), (.int ((tk.toInt8.toInt32).toInt8.toInt32)), (.int (((kk - (2 : Int32)).toInt8.toInt32).toInt8.toInt32))] (.int (0 : Int32)) := Arv.set Ar478 qc478 Sz478 Nn478 Hh478 Gg478 (fits_nar_byte _) W478 3 rfl (Nat.le_of_ble_eq_true rfl)
    have k478 : Kt p e below m (s₁.setTop (entryFrame m #[(.int p1), (.int p2), (.int p3), (.int p4), (.int p5)] maxLocals)) T478 77 #[.val (.int p1), .val (.int p2), .val (.int p3), .val (.int p4), .val (.int p5), .val (.int kk), .val (.int mm), .val (.int ll), .val (.int tg), .val (.int tk), .val (.ref tb), .unset, .unset, .unset, .unset, .unset] [] := fun t ht => k477 t (st478 t ht)
    obtain ⟨u2, hu2⟩ : ∃ z : Int32, z = ((tk.toInt8.toInt32).toInt8.toInt32) := ⟨_, rfl⟩
    rw [← hu2] at f480
    obtain ⟨u3, hu3⟩ : ∃ z : Int32, z = (((kk - (2 : Int32)).toInt8.toInt32).toInt8.toInt32) := ⟨_, rfl⟩
    rw [← hu3] at f480
    have q5 : (kk - (2 : Int32)).toInt = kk.toInt - 2 := by rw [own_sub rkk.1 (by omega) (by decide) (by decide), own_2]
    have b2 : (u2 &&& (255 : Int32)) = tk := by rw [hu2]; exact own_byte rtk.1 rtk.2
    have b3 : (u3 &&& (255 : Int32)) = kk - (2 : Int32) := by rw [hu3]; exact own_byte (by omega) (by omega)
    obtain ⟨T481, h481, X481, e481, E481, A481, D481, -, st481⟩ := newO X478 hx hZ hown (hw _ (List.mem_of_getElem? (i := 1) rfl)) (hw _ (List.mem_of_getElem? (i := 2) rfl)) (hw _ (List.mem_of_getElem? (i := 3) rfl)) e478 (g := (mkF m 77 #[.val (.int p1), .val (.int p2), .val (.int p3), .val (.int p4), .val (.int p5), .val (.int kk), .val (.int mm), .val (.int ll), .val (.int tg), .val (.int tk), .val (.ref tb), .unset, .unset, .unset, .unset, .unset] [])) rfl (hb hby at_77) (by decide) (by decide)
    obtain ⟨pl, q481⟩ : ∃ z, z = h478.size := ⟨_, rfl⟩
    have ne_tb_pl : tb ≠ pl := by rw [q481]; exact Nat.ne_of_lt f480.lt
    have g_pl : n0 ≤ pl := by rw [q481]; exact f479
    rw [← q481] at A481 D481 st481
    have f482 : n0 ≤ h481.size := Nat.le_trans f479 E481.1
    have f483 : Arv Z h481 tb ak277 .byte N [(.int u0), (.int u1), (.int u2), (.int u3)] (.int (0 : Int32)) := f480.ext E481
    have f481 : Exa Z h481 pl "com/example/subscriptor/subscriptor/Der" := A481
    have f484 : Fld Z h481 pl "com/example/subscriptor/subscriptor/Der" "what" "Ljava/lang/String;" .null := D481 (Or.inr (hw _ (List.mem_of_getElem? (i := 21) rfl))) (ty := (.object "java/lang/String")) (by decide)
    have f485 : Fld Z h481 pl "com/example/subscriptor/subscriptor/Der" "bytes" "[B" .null := D481 (Or.inr (hw _ (List.mem_of_getElem? (i := 23) rfl))) (ty := (.array .byte)) (by decide)
    have f486 : Fld Z h481 pl "com/example/subscriptor/subscriptor/Der" "position" "I" (.int (0 : Int32)) := D481 (Or.inl (hw _ (List.mem_of_getElem? (i := 25) rfl))) (ty := .int) (by decide)
    have f487 : Fld Z h481 pl "com/example/subscriptor/subscriptor/Der" "end" "I" (.int (0 : Int32)) := D481 (Or.inr (hw _ (List.mem_of_getElem? (i := 27) rfl))) (ty := .int) (by decide)
    have k481 : Kt p e below m (s₁.setTop (entryFrame m #[(.int p1), (.int p2), (.int p3), (.int p4), (.int p5)] maxLocals)) T481 80 #[.val (.int p1), .val (.int p2), .val (.int p3), .val (.int p4), .val (.int p5), .val (.int kk), .val (.int mm), .val (.int ll), .val (.int tg), .val (.int tk), .val (.ref tb), .unset, .unset, .unset, .unset, .unset] [(.ref pl)] := fun t ht => k478 t (st481 t ht)
    have k488 : Kt p e below m (s₁.setTop (entryFrame m #[(.int p1), (.int p2), (.int p3), (.int p4), (.int p5)] maxLocals)) T481 81 #[.val (.int p1), .val (.int p2), .val (.int p3), .val (.int p4), .val (.int p5), .val (.int kk), .val (.int mm), .val (.int ll), .val (.int tg), .val (.int tk), .val (.ref tb), .unset, .unset, .unset, .unset, .unset] [(.ref pl), (.ref pl)] := by
      intro t ht
      refine k481 t ?_
      show Steps p.tables e below (T481.setTop (mkF m 80 #[.val (.int p1), .val (.int p2), .val (.int p3), .val (.int p4), .val (.int p5), .val (.int kk), .val (.int mm), .val (.int ll), .val (.int tg), .val (.int tk), .val (.ref tb), .unset, .unset, .unset, .unset, .unset] [(.ref pl)])) t
      refine XS.dup X481.here hx rfl (hb hby at_80) rfl rfl ?_
      exact ht
    obtain ⟨s1, T489, h489, kb489, X489, e489, E489, hS489, hk489, hZ489, hown489, st489⟩ := ldcS (s := s) (vm0 := s.vm) X481 hx hZ hown (hw _ (List.mem_of_getElem? (i := 4) rfl)) wS e481 ((State.WarmedH.refl s).since 0) (Nat.zero_le _) (g := (mkF m 81 #[.val (.int p1), .val (.int p2), .val (.int p3), .val (.int p4), .val (.int p5), .val (.int kk), .val (.int mm), .val (.int ll), .val (.int tg), .val (.int tk), .val (.ref tb), .unset, .unset, .unset, .unset, .unset] [(.ref pl), (.ref pl)])) rfl (hb hby at_81) (n := 4) (by decide) (by decide) (by decide) (by decide)
    have f490 : n0 ≤ h489.size := Nat.le_trans f482 E489.1
    have f491 : Arv Z h489 tb ak277 .byte N [(.int u0), (.int u1), (.int u2), (.int u3)] (.int (0 : Int32)) := f483.ext E489
    have f492 : Exa Z h489 pl "com/example/subscriptor/subscriptor/Der" := f481.ext E489
    have f493 : Fld Z h489 pl "com/example/subscriptor/subscriptor/Der" "what" "Ljava/lang/String;" .null := f484.ext E489
    have f494 : Fld Z h489 pl "com/example/subscriptor/subscriptor/Der" "bytes" "[B" .null := f485.ext E489
    have f495 : Fld Z h489 pl "com/example/subscriptor/subscriptor/Der" "position" "I" (.int (0 : Int32)) := f486.ext E489
    have f496 : Fld Z h489 pl "com/example/subscriptor/subscriptor/Der" "end" "I" (.int (0 : Int32)) := f487.ext E489
    have k489 : Kt p e below m (s₁.setTop (entryFrame m #[(.int p1), (.int p2), (.int p3), (.int p4), (.int p5)] maxLocals)) T489 83 #[.val (.int p1), .val (.int p2), .val (.int p3), .val (.int p4), .val (.int p5), .val (.int kk), .val (.int mm), .val (.int ll), .val (.int tg), .val (.int tk), .val (.ref tb), .unset, .unset, .unset, .unset, .unset] [(.ref s1), (.ref pl), (.ref pl)] := fun t ht => k488 t (st489 t ht)
    have k497 : Kt p e below m (s₁.setTop (entryFrame m #[(.int p1), (.int p2), (.int p3), (.int p4), (.int p5)] maxLocals)) T489 85 #[.val (.int p1), .val (.int p2), .val (.int p3), .val (.int p4), .val (.int p5), .val (.int kk), .val (.int mm), .val (.int ll), .val (.int tg), .val (.int tk), .val (.ref tb), .unset, .unset, .unset, .unset, .unset] [(.int ll), (.ref s1), (.ref pl), (.ref pl)] := by
      intro t ht
      refine k489 t ?_
      show Steps p.tables e below (T489.setTop (mkF m 83 #[.val (.int p1), .val (.int p2), .val (.int p3), .val (.int p4), .val (.int p5), .val (.int kk), .val (.int mm), .val (.int ll), .val (.int tg), .val (.int tk), .val (.ref tb), .unset, .unset, .unset, .unset, .unset] [(.ref s1), (.ref pl), (.ref pl)])) t
      refine XS.iload X489.here hx rfl (hb hby at_83) rfl ?_
      exact ht
    obtain ⟨T498, h498, ak498, X498, e498, E498, A498, st498⟩ := newP X489 hx hZ489 (hw _ (List.mem_of_getElem? (i := 0) rfl)) e489 (g := (mkF m 85 #[.val (.int p1), .val (.int p2), .val (.int p3), .val (.int p4), .val (.int p5), .val (.int kk), .val (.int mm), .val (.int ll), .val (.int tg), .val (.int tk), .val (.ref tb), .unset, .unset, .unset, .unset, .unset] [(.int ll), (.ref s1), (.ref pl), (.ref pl)])) rfl (hb hby at_85) rfl (by rw [own_lt, own_0]; omega) (cap := 3) (own_nat3 (by omega)) (by decide) (by decide) (by decide)
    obtain ⟨pb, q498⟩ : ∃ z, z = h489.size := ⟨_, rfl⟩
    have ne_tb_pb : tb ≠ pb := by rw [q498]; exact Nat.ne_of_lt f491.lt
    have ne_pl_pb : pl ≠ pb := by rw [q498]; exact Nat.ne_of_lt f492.lt
    have g_pb : n0 ≤ pb := by rw [q498]; exact f490
    rw [← q498] at A498 st498
    have f499 : n0 ≤ h498.size := Nat.le_trans f490 E498.1
    have f500 : Arv Z h498 tb ak277 .byte N [(.int u0), (.int u1), (.int u2), (.int u3)] (.int (0 : Int32)) := f491.ext E498
    have f501 : Exa Z h498 pl "com/example/subscriptor/subscriptor/Der" := f492.ext E498
    have f502 : Fld Z h498 pl "com/example/subscriptor/subscriptor/Der" "what" "Ljava/lang/String;" .null := f493.ext E498
    have f503 : Fld Z h498 pl "com/example/subscriptor/subscriptor/Der" "bytes" "[B" .null := f494.ext E498
    have f504 : Fld Z h498 pl "com/example/subscriptor/subscriptor/Der" "position" "I" (.int (0 : Int32)) := f495.ext E498
    have f505 : Fld Z h498 pl "com/example/subscriptor/subscriptor/Der" "end" "I" (.int (0 : Int32)) := f496.ext E498
    have f506 : kb489 ≤ h498.size := Nat.le_trans hk489 E498.1
    have f498 : Arv Z h498 pb ak498 .byte ll [] (.int (0 : Int32)) := Arv.new A498 (by rw [own_lt, own_0]; omega)
    have k498 : Kt p e below m (s₁.setTop (entryFrame m #[(.int p1), (.int p2), (.int p3), (.int p4), (.int p5)] maxLocals)) T498 87 #[.val (.int p1), .val (.int p2), .val (.int p3), .val (.int p4), .val (.int p5), .val (.int kk), .val (.int mm), .val (.int ll), .val (.int tg), .val (.int tk), .val (.ref tb), .unset, .unset, .unset, .unset, .unset] [(.ref pb), (.ref s1), (.ref pl), (.ref pl)] := fun t ht => k497 t (st498 t ht)
    obtain ⟨_, _, ⟨T507, L507, c507, n507⟩, -, X507, ⟨Lc507, hQ507, l507, y507, z507⟩, st507⟩ := X498.specialBack hx (y := (⟨"com/example/subscriptor/subscriptor/Der", "<init>", "(Ljava/lang/String;[B)V"⟩ : MethodName)) rfl hown489 (mvT hZ489 (hw _ (List.mem_of_getElem? (i := 11) rfl))) (mvT hZ489 (hw _ (List.mem_of_getElem? (i := 12) rfl))) (mvT hZ489 (hw _ (List.mem_of_getElem? (i := 13) rfl))) (by decide) (backOf (W := 1) (rm1 l Z a0 hw [] pl s1 pb ak498 ll [] h498 n0 f499 f501 f502 f503 f504 f505 f498 g_pl) hZ489 (hw _ (List.mem_of_getElem? (i := 13) rfl)) (hw _ (List.mem_of_getElem? (i := 3) rfl)) (by decide) (by decide)) (g := (mkF m 87 #[.val (.int p1), .val (.int p2), .val (.int p3), .val (.int p4), .val (.int p5), .val (.int kk), .val (.int mm), .val (.int ll), .val (.int tg), .val (.int tk), .val (.ref tb), .unset, .unset, .unset, .unset, .unset] [(.ref pb), (.ref s1), (.ref pl), (.ref pl)])) rfl (by rw [hml]; rfl) (Steps.refl _) (a := pl) (argsL := [(.ref s1), (.ref pb)]) (rest := [(.ref pl)]) (lenOf pd_5 rfl) rfl (by show 2 * 0 + _ ≤ _; exact Nat.le_of_eq rfl) (hb hby at_87) (fun _ _ => ⟨rfl, e498, (by decide : 5 + 0 ≤ _), (by decide : 23 + 0 ≤ _)⟩)
    dsimp only [Pt.U, Pt.locs, Pt.cells, Pt.slots] at X507 l507 y507 z507 st507 hQ507
    subst l507 y507 z507
    obtain ⟨rfl, Nq507, Kp507, Fa507, Fb507, Fc507, Fd507⟩ := hQ507
    have N507 := Fr.app N478 Nq507
    have k507 : Kt p e below m (s₁.setTop (entryFrame m #[(.int p1), (.int p2), (.int p3), (.int p4), (.int p5)] maxLocals)) T507 90 #[.val (.int p1), .val (.int p2), .val (.int p3), .val (.int p4), .val (.int p5), .val (.int kk), .val (.int mm), .val (.int ll), .val (.int tg), .val (.int tk), .val (.ref tb), .unset, .unset, .unset, .unset, .unset] [(.ref pl)] := fun t ht => k498 t (st507.trans ht)
    have f508 : n0 ≤ T507.heap.size := Nat.le_trans f499 Kp507.1
    have f509 : Arv Z T507.heap tb ak277 .byte N [(.int u0), (.int u1), (.int u2), (.int u3)] (.int (0 : Int32)) := f500.keep Kp507 (ninS ne_tb_pl nin0)
    have f510 : Exa Z T507.heap pl "com/example/subscriptor/subscriptor/Der" := f501.keep Kp507
    have f515 : kb489 ≤ T507.heap.size := Nat.le_trans f506 Kp507.1
    have f516 : Arv Z T507.heap pb ak498 .byte ll [] (.int (0 : Int32)) := f498.keep Kp507 (ninS ne_pl_pb.symm nin0)
    have k517 : Kt p e below m (s₁.setTop (entryFrame m #[(.int p1), (.int p2), (.int p3), (.int p4), (.int p5)] maxLocals)) T507 94 #[.val (.int p1), .val (.int p2), .val (.int p3), .val (.int p4), .val (.int p5), .val (.int kk), .val (.int mm), .val (.int ll), .val (.int tg), .val (.int tk), .val (.ref tb), .val (.ref pl), .unset, .unset, .unset, .unset] [(.ref pl)] := by
      intro t ht
      refine k507 t ?_
      show Steps p.tables e below (T507.setTop (mkF m 90 #[.val (.int p1), .val (.int p2), .val (.int p3), .val (.int p4), .val (.int p5), .val (.int kk), .val (.int mm), .val (.int ll), .val (.int tg), .val (.int tk), .val (.ref tb), .unset, .unset, .unset, .unset, .unset] [(.ref pl)])) t
      refine XS.astore X507.here hx rfl (hb hby at_90) rfl rfl (l' := #[.val (.int p1), .val (.int p2), .val (.int p3), .val (.int p4), .val (.int p5), .val (.int kk), .val (.int mm), .val (.int ll), .val (.int tg), .val (.int tk), .val (.ref tb), .val (.ref pl), .unset, .unset, .unset, .unset]) rfl ?_
      show Steps p.tables e below (T507.setTop (mkF m 92 #[.val (.int p1), .val (.int p2), .val (.int p3), .val (.int p4), .val (.int p5), .val (.int kk), .val (.int mm), .val (.int ll), .val (.int tg), .val (.int tk), .val (.ref tb), .val (.ref pl), .unset, .unset, .unset, .unset] [])) t
      refine XS.aload X507.here hx rfl (hb hby at_92) rfl rfl ?_
      exact ht
    obtain ⟨cq518, kq518, q518a, q518b, q518c⟩ := isOf hZ489 rfl f510
    obtain ⟨_, _, ⟨T518, L518, c518, n518⟩, -, X518, ⟨Lc518, hQ518, l518, y518, z518⟩, st518⟩ := X507.virtualBack hx (y := (⟨"com/example/subscriptor/subscriptor/Der", "hasNext", "()Z"⟩ : MethodName)) (z := (⟨"com/example/subscriptor/subscriptor/Der", "hasNext", "()Z"⟩ : MethodName)) hown489 (mvT hZ489 (hw _ (List.mem_of_getElem? (i := 28) rfl))) (mvT hZ489 (hw _ (List.mem_of_getElem? (i := 29) rfl))) (notFace_of_selects (args := #[]) (mvT hZ489 (hw _ (List.mem_of_getElem? (i := 31) rfl)))) (mvT hZ489 (hw _ (List.mem_of_getElem? (i := 31) rfl))) (mvT hZ489 (hw _ (List.mem_of_getElem? (i := 30) rfl))) (by decide) (backOf (W := 0) (rm4 l Z a0 hw [] pl (0 : Int32) ll T507.heap n0 f508 Fc507 Fd507) hZ489 (hw _ (List.mem_of_getElem? (i := 32) rfl)) (hw _ (List.mem_of_getElem? (i := 3) rfl)) (by decide) (by decide)) q518a q518c (g := (mkF m 94 #[.val (.int p1), .val (.int p2), .val (.int p3), .val (.int p4), .val (.int p5), .val (.int kk), .val (.int mm), .val (.int ll), .val (.int tg), .val (.int tk), .val (.ref tb), .val (.ref pl), .unset, .unset, .unset, .unset] [(.ref pl)])) rfl (by rw [hml]; rfl) (Steps.refl _) (argsL := []) (rest := []) (lenOf pd_2 rfl) rfl (by show 2 * 0 + _ ≤ _; exact Nat.le_of_eq rfl) (hb hby at_94) (fun _ _ => ⟨rfl, rfl, (by decide : 5 + 0 ≤ _), (by decide : 23 + 0 ≤ _)⟩)
    dsimp only [Pt.U, Pt.locs, Pt.cells, Pt.slots] at X518 l518 y518 z518 st518 hQ518
    subst l518 y518 z518
    obtain ⟨rfl, Nq518, eq518⟩ := hQ518
    have N518 := Fr.app N507 Nq518
    have k518 : Kt p e below m (s₁.setTop (entryFrame m #[(.int p1), (.int p2), (.int p3), (.int p4), (.int p5)] maxLocals)) T518 97 #[.val (.int p1), .val (.int p2), .val (.int p3), .val (.int p4), .val (.int p5), .val (.int kk), .val (.int mm), .val (.int ll), .val (.int tg), .val (.int tk), .val (.ref tb), .val (.ref pl), .unset, .unset, .unset, .unset] [(.int (own_b ((0 : Int32) < ll)))] := fun t ht => k517 t (st518.trans ht)
    have f519 : n0 ≤ T518.heap.size := by rw [eq518]; exact f508
    have f520 : Arv Z T518.heap tb ak277 .byte N [(.int u0), (.int u1), (.int u2), (.int u3)] (.int (0 : Int32)) := by rw [eq518]; exact f509
    have f521 : Exa Z T518.heap pl "com/example/subscriptor/subscriptor/Der" := by rw [eq518]; exact f510
    have f522 : kb489 ≤ T518.heap.size := by rw [eq518]; exact f515
    have f523 : Arv Z T518.heap pb ak498 .byte ll [] (.int (0 : Int32)) := by rw [eq518]; exact f516
    have f524 : Fld Z T518.heap pl "com/example/subscriptor/subscriptor/Der" "what" "Ljava/lang/String;" (.ref s1) := by rw [eq518]; exact Fa507
    have f525 : Fld Z T518.heap pl "com/example/subscriptor/subscriptor/Der" "bytes" "[B" (.ref pb) := by rw [eq518]; exact Fb507
    have f526 : Fld Z T518.heap pl "com/example/subscriptor/subscriptor/Der" "position" "I" (.int (0 : Int32)) := by rw [eq518]; exact Fc507
    have f527 : Fld Z T518.heap pl "com/example/subscriptor/subscriptor/Der" "end" "I" (.int ll) := by rw [eq518]; exact Fd507
    have k528 : Kt p e below m (s₁.setTop (entryFrame m #[(.int p1), (.int p2), (.int p3), (.int p4), (.int p5)] maxLocals)) T518 99 #[.val (.int p1), .val (.int p2), .val (.int p3), .val (.int p4), .val (.int p5), .val (.int kk), .val (.int mm), .val (.int ll), .val (.int tg), .val (.int tk), .val (.ref tb), .val (.ref pl), .unset, .unset, .unset, .unset] [(.int ll), (.int (own_b ((0 : Int32) < ll)))] := by
      intro t ht
      refine k518 t ?_
      show Steps p.tables e below (T518.setTop (mkF m 97 #[.val (.int p1), .val (.int p2), .val (.int p3), .val (.int p4), .val (.int p5), .val (.int kk), .val (.int mm), .val (.int ll), .val (.int tg), .val (.int tk), .val (.ref tb), .val (.ref pl), .unset, .unset, .unset, .unset] [(.int (own_b ((0 : Int32) < ll)))])) t
      refine XS.iload X518.here hx rfl (hb hby at_97) rfl ?_
      exact ht
    obtain ⟨z1, hp529, k529⟩ : ∃ z1 : Int32, (z1 = own_b ((0 : Int32) < ll)) ∧ Kt p e below m (s₁.setTop (entryFrame m #[(.int p1), (.int p2), (.int p3), (.int p4), (.int p5)] maxLocals)) T518 107 #[.val (.int p1), .val (.int p2), .val (.int p3), .val (.int p4), .val (.int p5), .val (.int kk), .val (.int mm), .val (.int ll), .val (.int tg), .val (.int tk), .val (.ref tb), .val (.ref pl), .unset, .unset, .unset, .unset] [(.int z1), (.int (own_b ((0 : Int32) < ll)))] := by
      by_cases hj530 : (0 : Int32) < ll
      · have k531 : Kt p e below m (s₁.setTop (entryFrame m #[(.int p1), (.int p2), (.int p3), (.int p4), (.int p5)] maxLocals)) T518 107 #[.val (.int p1), .val (.int p2), .val (.int p3), .val (.int p4), .val (.int p5), .val (.int kk), .val (.int mm), .val (.int ll), .val (.int tg), .val (.int tk), .val (.ref tb), .val (.ref pl), .unset, .unset, .unset, .unset] [(.int (1 : Int32)), (.int (own_b ((0 : Int32) < ll)))] := by
          intro t ht
          refine k528 t ?_
          show Steps p.tables e below (T518.setTop (mkF m 99 #[.val (.int p1), .val (.int p2), .val (.int p3), .val (.int p4), .val (.int p5), .val (.int kk), .val (.int mm), .val (.int ll), .val (.int tg), .val (.int tk), .val (.ref tb), .val (.ref pl), .unset, .unset, .unset, .unset] [(.int ll), (.int (own_b ((0 : Int32) < ll)))])) t
          refine XS.ifNo X518.here hx rfl (hb hby at_99) rfl ((if0 _ _).trans (tlt hj530).2.2.2) ?_
          show Steps p.tables e below (T518.setTop (mkF m 102 #[.val (.int p1), .val (.int p2), .val (.int p3), .val (.int p4), .val (.int p5), .val (.int kk), .val (.int mm), .val (.int ll), .val (.int tg), .val (.int tk), .val (.ref tb), .val (.ref pl), .unset, .unset, .unset, .unset] [(.int (own_b ((0 : Int32) < ll)))])) t
          refine XS.iconst X518.here hx rfl (hb hby at_102) ?_
          show Steps p.tables e below (T518.setTop (mkF m 103 #[.val (.int p1), .val (.int p2), .val (.int p3), .val (.int p4), .val (.int p5), .val (.int kk), .val (.int mm), .val (.int ll), .val (.int tg), .val (.int tk), .val (.ref tb), .val (.ref pl), .unset, .unset, .unset, .unset] [(.int (1 : Int32)), (.int (own_b ((0 : Int32) < ll)))])) t
          refine XS.goto X518.here hx rfl (pc0 := 103) (pc' := 107) rfl (hb hby at_103) (by decide) (by decide) ?_
          exact ht
        exact ⟨(1 : Int32), (by unfold own_b; simp [hj530]), k531⟩
      · have k532 : Kt p e below m (s₁.setTop (entryFrame m #[(.int p1), (.int p2), (.int p3), (.int p4), (.int p5)] maxLocals)) T518 107 #[.val (.int p1), .val (.int p2), .val (.int p3), .val (.int p4), .val (.int p5), .val (.int kk), .val (.int mm), .val (.int ll), .val (.int tg), .val (.int tk), .val (.ref tb), .val (.ref pl), .unset, .unset, .unset, .unset] [(.int (0 : Int32)), (.int (own_b ((0 : Int32) < ll)))] := by
          intro t ht
          refine k528 t ?_
          show Steps p.tables e below (T518.setTop (mkF m 99 #[.val (.int p1), .val (.int p2), .val (.int p3), .val (.int p4), .val (.int p5), .val (.int kk), .val (.int mm), .val (.int ll), .val (.int tg), .val (.int tk), .val (.ref tb), .val (.ref pl), .unset, .unset, .unset, .unset] [(.int ll), (.int (own_b ((0 : Int32) < ll)))])) t
          refine XS.ifYes X518.here hx rfl (pc0 := 99) (pc' := 106) rfl (hb hby at_99) rfl ((if0 _ _).trans (flt hj530).2.2.2) (by decide) (by decide) ?_
          show Steps p.tables e below (T518.setTop (mkF m 106 #[.val (.int p1), .val (.int p2), .val (.int p3), .val (.int p4), .val (.int p5), .val (.int kk), .val (.int mm), .val (.int ll), .val (.int tg), .val (.int tk), .val (.ref tb), .val (.ref pl), .unset, .unset, .unset, .unset] [(.int (own_b ((0 : Int32) < ll)))])) t
          refine XS.iconst X518.here hx rfl (hb hby at_106) ?_
          exact ht
        exact ⟨(0 : Int32), (by unfold own_b; simp [hj530]), k532⟩
    have k533 : Kt p e below m (s₁.setTop (entryFrame m #[(.int p1), (.int p2), (.int p3), (.int p4), (.int p5)] maxLocals)) T518 117 #[.val (.int p1), .val (.int p2), .val (.int p3), .val (.int p4), .val (.int p5), .val (.int kk), .val (.int mm), .val (.int ll), .val (.int tg), .val (.int tk), .val (.ref tb), .val (.ref pl), .val (.int (1 : Int32)), .unset, .unset, .unset] [] := by
      intro t ht
      refine k529 t ?_
      show Steps p.tables e below (T518.setTop (mkF m 107 #[.val (.int p1), .val (.int p2), .val (.int p3), .val (.int p4), .val (.int p5), .val (.int kk), .val (.int mm), .val (.int ll), .val (.int tg), .val (.int tk), .val (.ref tb), .val (.ref pl), .unset, .unset, .unset, .unset] [(.int z1), (.int (own_b ((0 : Int32) < ll)))])) t
      refine XS.icmpNo X518.here hx rfl (hb hby at_107) rfl (teq hp529.symm).2 ?_
      show Steps p.tables e below (T518.setTop (mkF m 110 #[.val (.int p1), .val (.int p2), .val (.int p3), .val (.int p4), .val (.int p5), .val (.int kk), .val (.int mm), .val (.int ll), .val (.int tg), .val (.int tk), .val (.ref tb), .val (.ref pl), .unset, .unset, .unset, .unset] [])) t
      refine XS.iconst X518.here hx rfl (hb hby at_110) ?_
      show Steps p.tables e below (T518.setTop (mkF m 111 #[.val (.int p1), .val (.int p2), .val (.int p3), .val (.int p4), .val (.int p5), .val (.int kk), .val (.int mm), .val (.int ll), .val (.int tg), .val (.int tk), .val (.ref tb), .val (.ref pl), .unset, .unset, .unset, .unset] [(.int (1 : Int32))])) t
      refine XS.goto X518.here hx rfl (pc0 := 111) (pc' := 115) rfl (hb hby at_111) (by decide) (by decide) ?_
      show Steps p.tables e below (T518.setTop (mkF m 115 #[.val (.int p1), .val (.int p2), .val (.int p3), .val (.int p4), .val (.int p5), .val (.int kk), .val (.int mm), .val (.int ll), .val (.int tg), .val (.int tk), .val (.ref tb), .val (.ref pl), .unset, .unset, .unset, .unset] [(.int (1 : Int32))])) t
      refine XS.istore X518.here hx rfl (hb hby at_115) rfl (l' := #[.val (.int p1), .val (.int p2), .val (.int p3), .val (.int p4), .val (.int p5), .val (.int kk), .val (.int mm), .val (.int ll), .val (.int tg), .val (.int tk), .val (.ref tb), .val (.ref pl), .val (.int (1 : Int32)), .unset, .unset, .unset]) rfl ?_
      exact ht
    obtain ⟨T534, h534, X534, e534, E534, A534, D534, -, st534⟩ := newO X518 hx hZ489 hown489 (hw _ (List.mem_of_getElem? (i := 1) rfl)) (hw _ (List.mem_of_getElem? (i := 2) rfl)) (hw _ (List.mem_of_getElem? (i := 3) rfl)) rfl (g := (mkF m 117 #[.val (.int p1), .val (.int p2), .val (.int p3), .val (.int p4), .val (.int p5), .val (.int kk), .val (.int mm), .val (.int ll), .val (.int tg), .val (.int tk), .val (.ref tb), .val (.ref pl), .val (.int (1 : Int32)), .unset, .unset, .unset] [])) rfl (hb hby at_117) (by decide) (by decide)
    obtain ⟨ou, q534⟩ : ∃ z, z = T518.heap.size := ⟨_, rfl⟩
    have ne_tb_ou : tb ≠ ou := by rw [q534]; exact Nat.ne_of_lt f520.lt
    have ne_pl_ou : pl ≠ ou := by rw [q534]; exact Nat.ne_of_lt f521.lt
    have ne_pb_ou : pb ≠ ou := by rw [q534]; exact Nat.ne_of_lt f523.lt
    have g_ou : n0 ≤ ou := by rw [q534]; exact f519
    rw [← q534] at A534 D534 st534
    have f535 : n0 ≤ h534.size := Nat.le_trans f519 E534.1
    have f536 : Arv Z h534 tb ak277 .byte N [(.int u0), (.int u1), (.int u2), (.int u3)] (.int (0 : Int32)) := f520.ext E534
    have f537 : Exa Z h534 pl "com/example/subscriptor/subscriptor/Der" := f521.ext E534
    have f538 : kb489 ≤ h534.size := Nat.le_trans f522 E534.1
    have f539 : Arv Z h534 pb ak498 .byte ll [] (.int (0 : Int32)) := f523.ext E534
    have f540 : Fld Z h534 pl "com/example/subscriptor/subscriptor/Der" "what" "Ljava/lang/String;" (.ref s1) := f524.ext E534
    have f541 : Fld Z h534 pl "com/example/subscriptor/subscriptor/Der" "bytes" "[B" (.ref pb) := f525.ext E534
    have f542 : Fld Z h534 pl "com/example/subscriptor/subscriptor/Der" "position" "I" (.int (0 : Int32)) := f526.ext E534
    have f543 : Fld Z h534 pl "com/example/subscriptor/subscriptor/Der" "end" "I" (.int ll) := f527.ext E534
    have f534 : Exa Z h534 ou "com/example/subscriptor/subscriptor/Der" := A534
    have f544 : Fld Z h534 ou "com/example/subscriptor/subscriptor/Der" "what" "Ljava/lang/String;" .null := D534 (Or.inr (hw _ (List.mem_of_getElem? (i := 21) rfl))) (ty := (.object "java/lang/String")) (by decide)
    have f545 : Fld Z h534 ou "com/example/subscriptor/subscriptor/Der" "bytes" "[B" .null := D534 (Or.inr (hw _ (List.mem_of_getElem? (i := 23) rfl))) (ty := (.array .byte)) (by decide)
    have f546 : Fld Z h534 ou "com/example/subscriptor/subscriptor/Der" "position" "I" (.int (0 : Int32)) := D534 (Or.inl (hw _ (List.mem_of_getElem? (i := 25) rfl))) (ty := .int) (by decide)
    have f547 : Fld Z h534 ou "com/example/subscriptor/subscriptor/Der" "end" "I" (.int (0 : Int32)) := D534 (Or.inr (hw _ (List.mem_of_getElem? (i := 27) rfl))) (ty := .int) (by decide)
    have k534 : Kt p e below m (s₁.setTop (entryFrame m #[(.int p1), (.int p2), (.int p3), (.int p4), (.int p5)] maxLocals)) T534 120 #[.val (.int p1), .val (.int p2), .val (.int p3), .val (.int p4), .val (.int p5), .val (.int kk), .val (.int mm), .val (.int ll), .val (.int tg), .val (.int tk), .val (.ref tb), .val (.ref pl), .val (.int (1 : Int32)), .unset, .unset, .unset] [(.ref ou)] := fun t ht => k533 t (st534 t ht)
    have k548 : Kt p e below m (s₁.setTop (entryFrame m #[(.int p1), (.int p2), (.int p3), (.int p4), (.int p5)] maxLocals)) T534 121 #[.val (.int p1), .val (.int p2), .val (.int p3), .val (.int p4), .val (.int p5), .val (.int kk), .val (.int mm), .val (.int ll), .val (.int tg), .val (.int tk), .val (.ref tb), .val (.ref pl), .val (.int (1 : Int32)), .unset, .unset, .unset] [(.ref ou), (.ref ou)] := by
      intro t ht
      refine k534 t ?_
      show Steps p.tables e below (T534.setTop (mkF m 120 #[.val (.int p1), .val (.int p2), .val (.int p3), .val (.int p4), .val (.int p5), .val (.int kk), .val (.int mm), .val (.int ll), .val (.int tg), .val (.int tk), .val (.ref tb), .val (.ref pl), .val (.int (1 : Int32)), .unset, .unset, .unset] [(.ref ou)])) t
      refine XS.dup X534.here hx rfl (hb hby at_120) rfl rfl ?_
      exact ht
    obtain ⟨s2, T549, h549, kb549, X549, e549, E549, hS549, hk549, hZ549, hown549, st549⟩ := ldcS (s := s) (vm0 := T489.vm) X534 hx hZ489 hown489 (hw _ (List.mem_of_getElem? (i := 4) rfl)) wS e534 hS489 f538 (g := (mkF m 121 #[.val (.int p1), .val (.int p2), .val (.int p3), .val (.int p4), .val (.int p5), .val (.int kk), .val (.int mm), .val (.int ll), .val (.int tg), .val (.int tk), .val (.ref tb), .val (.ref pl), .val (.int (1 : Int32)), .unset, .unset, .unset] [(.ref ou), (.ref ou)])) rfl (hb hby at_121) (n := 4) (by decide) (by decide) (by decide) (by decide)
    have f550 : n0 ≤ h549.size := Nat.le_trans f535 E549.1
    have f551 : Arv Z h549 tb ak277 .byte N [(.int u0), (.int u1), (.int u2), (.int u3)] (.int (0 : Int32)) := f536.ext E549
    have f552 : Exa Z h549 pl "com/example/subscriptor/subscriptor/Der" := f537.ext E549
    have f553 : kb489 ≤ h549.size := Nat.le_trans f538 E549.1
    have f554 : Arv Z h549 pb ak498 .byte ll [] (.int (0 : Int32)) := f539.ext E549
    have f555 : Fld Z h549 pl "com/example/subscriptor/subscriptor/Der" "what" "Ljava/lang/String;" (.ref s1) := f540.ext E549
    have f556 : Fld Z h549 pl "com/example/subscriptor/subscriptor/Der" "bytes" "[B" (.ref pb) := f541.ext E549
    have f557 : Fld Z h549 pl "com/example/subscriptor/subscriptor/Der" "position" "I" (.int (0 : Int32)) := f542.ext E549
    have f558 : Fld Z h549 pl "com/example/subscriptor/subscriptor/Der" "end" "I" (.int ll) := f543.ext E549
    have f559 : Exa Z h549 ou "com/example/subscriptor/subscriptor/Der" := f534.ext E549
    have f560 : Fld Z h549 ou "com/example/subscriptor/subscriptor/Der" "what" "Ljava/lang/String;" .null := f544.ext E549
    have f561 : Fld Z h549 ou "com/example/subscriptor/subscriptor/Der" "bytes" "[B" .null := f545.ext E549
    have f562 : Fld Z h549 ou "com/example/subscriptor/subscriptor/Der" "position" "I" (.int (0 : Int32)) := f546.ext E549
    have f563 : Fld Z h549 ou "com/example/subscriptor/subscriptor/Der" "end" "I" (.int (0 : Int32)) := f547.ext E549
    have k549 : Kt p e below m (s₁.setTop (entryFrame m #[(.int p1), (.int p2), (.int p3), (.int p4), (.int p5)] maxLocals)) T549 123 #[.val (.int p1), .val (.int p2), .val (.int p3), .val (.int p4), .val (.int p5), .val (.int kk), .val (.int mm), .val (.int ll), .val (.int tg), .val (.int tk), .val (.ref tb), .val (.ref pl), .val (.int (1 : Int32)), .unset, .unset, .unset] [(.ref s2), (.ref ou), (.ref ou)] := fun t ht => k548 t (st549 t ht)
    have k564 : Kt p e below m (s₁.setTop (entryFrame m #[(.int p1), (.int p2), (.int p3), (.int p4), (.int p5)] maxLocals)) T549 125 #[.val (.int p1), .val (.int p2), .val (.int p3), .val (.int p4), .val (.int p5), .val (.int kk), .val (.int mm), .val (.int ll), .val (.int tg), .val (.int tk), .val (.ref tb), .val (.ref pl), .val (.int (1 : Int32)), .unset, .unset, .unset] [(.ref tb), (.ref s2), (.ref ou), (.ref ou)] := by
      intro t ht
      refine k549 t ?_
      show Steps p.tables e below (T549.setTop (mkF m 123 #[.val (.int p1), .val (.int p2), .val (.int p3), .val (.int p4), .val (.int p5), .val (.int kk), .val (.int mm), .val (.int ll), .val (.int tg), .val (.int tk), .val (.ref tb), .val (.ref pl), .val (.int (1 : Int32)), .unset, .unset, .unset] [(.ref s2), (.ref ou), (.ref ou)])) t
      refine XS.aload X549.here hx rfl (hb hby at_123) rfl rfl ?_
      exact ht
    obtain ⟨_, _, ⟨T565, L565, c565, n565⟩, -, X565, ⟨Lc565, hQ565, l565, y565, z565⟩, st565⟩ := X549.specialBack hx (y := (⟨"com/example/subscriptor/subscriptor/Der", "<init>", "(Ljava/lang/String;[B)V"⟩ : MethodName)) rfl hown549 (mvT hZ549 (hw _ (List.mem_of_getElem? (i := 11) rfl))) (mvT hZ549 (hw _ (List.mem_of_getElem? (i := 12) rfl))) (mvT hZ549 (hw _ (List.mem_of_getElem? (i := 13) rfl))) (by decide) (backOf (W := 1) (rm1 l Z a0 hw [] ou s2 tb ak277 N [(.int u0), (.int u1), (.int u2), (.int u3)] h549 n0 f550 f559 f560 f561 f562 f563 f551 g_ou) hZ549 (hw _ (List.mem_of_getElem? (i := 13) rfl)) (hw _ (List.mem_of_getElem? (i := 3) rfl)) (by decide) (by decide)) (g := (mkF m 125 #[.val (.int p1), .val (.int p2), .val (.int p3), .val (.int p4), .val (.int p5), .val (.int kk), .val (.int mm), .val (.int ll), .val (.int tg), .val (.int tk), .val (.ref tb), .val (.ref pl), .val (.int (1 : Int32)), .unset, .unset, .unset] [(.ref tb), (.ref s2), (.ref ou), (.ref ou)])) rfl (by rw [hml]; rfl) (Steps.refl _) (a := ou) (argsL := [(.ref s2), (.ref tb)]) (rest := [(.ref ou)]) (lenOf pd_5 rfl) rfl (by show 2 * 0 + _ ≤ _; exact Nat.le_of_eq rfl) (hb hby at_125) (fun _ _ => ⟨rfl, e549, (by decide : 8 + 0 ≤ _), (by decide : 35 + 0 ≤ _)⟩)
    dsimp only [Pt.U, Pt.locs, Pt.cells, Pt.slots] at X565 l565 y565 z565 st565 hQ565
    subst l565 y565 z565
    obtain ⟨rfl, Nq565, Kp565, Fa565, Fb565, Fc565, Fd565⟩ := hQ565
    have N565 := Fr.app N518 Nq565
    have k565 : Kt p e below m (s₁.setTop (entryFrame m #[(.int p1), (.int p2), (.int p3), (.int p4), (.int p5)] maxLocals)) T565 128 #[.val (.int p1), .val (.int p2), .val (.int p3), .val (.int p4), .val (.int p5), .val (.int kk), .val (.int mm), .val (.int ll), .val (.int tg), .val (.int tk), .val (.ref tb), .val (.ref pl), .val (.int (1 : Int32)), .unset, .unset, .unset] [(.ref ou)] := fun t ht => k564 t (st565.trans ht)
    have f566 : n0 ≤ T565.heap.size := Nat.le_trans f550 Kp565.1
    have f567 : Arv Z T565.heap tb ak277 .byte N [(.int u0), (.int u1), (.int u2), (.int u3)] (.int (0 : Int32)) := f551.keep Kp565 (ninS ne_tb_ou nin0)
    have f568 : Exa Z T565.heap pl "com/example/subscriptor/subscriptor/Der" := f552.keep Kp565
    have f569 : kb549 ≤ T565.heap.size := Nat.le_trans hk549 Kp565.1
    have f570 : Arv Z T565.heap pb ak498 .byte ll [] (.int (0 : Int32)) := f554.keep Kp565 (ninS ne_pb_ou nin0)
    have f571 : Fld Z T565.heap pl "com/example/subscriptor/subscriptor/Der" "what" "Ljava/lang/String;" (.ref s1) := f555.keep Kp565 (ninS ne_pl_ou nin0)
    have f572 : Fld Z T565.heap pl "com/example/subscriptor/subscriptor/Der" "bytes" "[B" (.ref pb) := f556.keep Kp565 (ninS ne_pl_ou nin0)
    have f573 : Fld Z T565.heap pl "com/example/subscriptor/subscriptor/Der" "position" "I" (.int (0 : Int32)) := f557.keep Kp565 (ninS ne_pl_ou nin0)
    have f574 : Fld Z T565.heap pl "com/example/subscriptor/subscriptor/Der" "end" "I" (.int ll) := f558.keep Kp565 (ninS ne_pl_ou nin0)
    have f575 : Exa Z T565.heap ou "com/example/subscriptor/subscriptor/Der" := f559.keep Kp565
    have k580 : Kt p e below m (s₁.setTop (entryFrame m #[(.int p1), (.int p2), (.int p3), (.int p4), (.int p5)] maxLocals)) T565 137 #[.val (.int p1), .val (.int p2), .val (.int p3), .val (.int p4), .val (.int p5), .val (.int kk), .val (.int mm), .val (.int ll), .val (.int tg), .val (.int tk), .val (.ref tb), .val (.ref pl), .val (.int (1 : Int32)), .val (.ref ou), .unset, .unset] [(.ref ou)] := by
      intro t ht
      refine k565 t ?_
      show Steps p.tables e below (T565.setTop (mkF m 128 #[.val (.int p1), .val (.int p2), .val (.int p3), .val (.int p4), .val (.int p5), .val (.int kk), .val (.int mm), .val (.int ll), .val (.int tg), .val (.int tk), .val (.ref tb), .val (.ref pl), .val (.int (1 : Int32)), .unset, .unset, .unset] [(.ref ou)])) t
      refine XS.astore X565.here hx rfl (hb hby at_128) rfl rfl (l' := #[.val (.int p1), .val (.int p2), .val (.int p3), .val (.int p4), .val (.int p5), .val (.int kk), .val (.int mm), .val (.int ll), .val (.int tg), .val (.int tk), .val (.ref tb), .val (.ref pl), .val (.int (1 : Int32)), .val (.ref ou), .unset, .unset]) rfl ?_
      show Steps p.tables e below (T565.setTop (mkF m 130 #[.val (.int p1), .val (.int p2), .val (.int p3), .val (.int p4), .val (.int p5), .val (.int kk), .val (.int mm), .val (.int ll), .val (.int tg), .val (.int tk), .val (.ref tb), .val (.ref pl), .val (.int (1 : Int32)), .val (.ref ou), .unset, .unset] [])) t
      refine XS.iload X565.here hx rfl (hb hby at_130) rfl ?_
      show Steps p.tables e below (T565.setTop (mkF m 132 #[.val (.int p1), .val (.int p2), .val (.int p3), .val (.int p4), .val (.int p5), .val (.int kk), .val (.int mm), .val (.int ll), .val (.int tg), .val (.int tk), .val (.ref tb), .val (.ref pl), .val (.int (1 : Int32)), .val (.ref ou), .unset, .unset] [(.int (1 : Int32))])) t
      refine XS.ifNo X565.here hx rfl (hb hby at_132) rfl ((if0 _ _).trans (feq (by decide)).1) ?_
      show Steps p.tables e below (T565.setTop (mkF m 135 #[.val (.int p1), .val (.int p2), .val (.int p3), .val (.int p4), .val (.int p5), .val (.int kk), .val (.int mm), .val (.int ll), .val (.int tg), .val (.int tk), .val (.ref tb), .val (.ref pl), .val (.int (1 : Int32)), .val (.ref ou), .unset, .unset] [])) t
      refine XS.aload X565.here hx rfl (hb hby at_135) rfl rfl ?_
      exact ht
    obtain ⟨cq581, kq581, q581a, q581b, q581c⟩ := isOf hZ549 rfl f575
    obtain ⟨_, _, ⟨T581, L581, c581, n581⟩, -, X581, ⟨Lc581, hQ581, l581, y581, z581⟩, st581⟩ := X565.virtualBack hx (y := (⟨"com/example/subscriptor/subscriptor/Der", "hasNext", "()Z"⟩ : MethodName)) (z := (⟨"com/example/subscriptor/subscriptor/Der", "hasNext", "()Z"⟩ : MethodName)) hown549 (mvT hZ549 (hw _ (List.mem_of_getElem? (i := 28) rfl))) (mvT hZ549 (hw _ (List.mem_of_getElem? (i := 29) rfl))) (notFace_of_selects (args := #[]) (mvT hZ549 (hw _ (List.mem_of_getElem? (i := 31) rfl)))) (mvT hZ549 (hw _ (List.mem_of_getElem? (i := 31) rfl))) (mvT hZ549 (hw _ (List.mem_of_getElem? (i := 30) rfl))) (by decide) (backOf (W := 0) (rm4 l Z a0 hw [] ou (0 : Int32) N T565.heap n0 f566 Fc565 Fd565) hZ549 (hw _ (List.mem_of_getElem? (i := 32) rfl)) (hw _ (List.mem_of_getElem? (i := 3) rfl)) (by decide) (by decide)) q581a q581c (g := (mkF m 137 #[.val (.int p1), .val (.int p2), .val (.int p3), .val (.int p4), .val (.int p5), .val (.int kk), .val (.int mm), .val (.int ll), .val (.int tg), .val (.int tk), .val (.ref tb), .val (.ref pl), .val (.int (1 : Int32)), .val (.ref ou), .unset, .unset] [(.ref ou)])) rfl (by rw [hml]; rfl) (Steps.refl _) (argsL := []) (rest := []) (lenOf pd_2 rfl) rfl (by show 2 * 0 + _ ≤ _; exact Nat.le_of_eq rfl) (hb hby at_137) (fun _ _ => ⟨rfl, rfl, (by decide : 8 + 0 ≤ _), (by decide : 35 + 0 ≤ _)⟩)
    dsimp only [Pt.U, Pt.locs, Pt.cells, Pt.slots] at X581 l581 y581 z581 st581 hQ581
    subst l581 y581 z581
    obtain ⟨rfl, Nq581, eq581⟩ := hQ581
    have N581 := Fr.app N565 Nq581
    have k581 : Kt p e below m (s₁.setTop (entryFrame m #[(.int p1), (.int p2), (.int p3), (.int p4), (.int p5)] maxLocals)) T581 140 #[.val (.int p1), .val (.int p2), .val (.int p3), .val (.int p4), .val (.int p5), .val (.int kk), .val (.int mm), .val (.int ll), .val (.int tg), .val (.int tk), .val (.ref tb), .val (.ref pl), .val (.int (1 : Int32)), .val (.ref ou), .unset, .unset] [(.int (own_b ((0 : Int32) < N)))] := fun t ht => k580 t (st581.trans ht)
    have f582 : n0 ≤ T581.heap.size := by rw [eq581]; exact f566
    have f583 : Arv Z T581.heap tb ak277 .byte N [(.int u0), (.int u1), (.int u2), (.int u3)] (.int (0 : Int32)) := by rw [eq581]; exact f567
    have f584 : Exa Z T581.heap pl "com/example/subscriptor/subscriptor/Der" := by rw [eq581]; exact f568
    have f585 : kb549 ≤ T581.heap.size := by rw [eq581]; exact f569
    have f586 : Arv Z T581.heap pb ak498 .byte ll [] (.int (0 : Int32)) := by rw [eq581]; exact f570
    have f587 : Fld Z T581.heap pl "com/example/subscriptor/subscriptor/Der" "what" "Ljava/lang/String;" (.ref s1) := by rw [eq581]; exact f571
    have f588 : Fld Z T581.heap pl "com/example/subscriptor/subscriptor/Der" "bytes" "[B" (.ref pb) := by rw [eq581]; exact f572
    have f589 : Fld Z T581.heap pl "com/example/subscriptor/subscriptor/Der" "position" "I" (.int (0 : Int32)) := by rw [eq581]; exact f573
    have f590 : Fld Z T581.heap pl "com/example/subscriptor/subscriptor/Der" "end" "I" (.int ll) := by rw [eq581]; exact f574
    have f591 : Exa Z T581.heap ou "com/example/subscriptor/subscriptor/Der" := by rw [eq581]; exact f575
    have f592 : Fld Z T581.heap ou "com/example/subscriptor/subscriptor/Der" "what" "Ljava/lang/String;" (.ref s2) := by rw [eq581]; exact Fa565
    have f593 : Fld Z T581.heap ou "com/example/subscriptor/subscriptor/Der" "bytes" "[B" (.ref tb) := by rw [eq581]; exact Fb565
    have f594 : Fld Z T581.heap ou "com/example/subscriptor/subscriptor/Der" "position" "I" (.int (0 : Int32)) := by rw [eq581]; exact Fc565
    have f595 : Fld Z T581.heap ou "com/example/subscriptor/subscriptor/Der" "end" "I" (.int N) := by rw [eq581]; exact Fd565
    have q6 : (N - (2 : Int32)).toInt = N.toInt - 2 := by rw [own_sub (by omega) (by omega) (by decide) (by decide), own_2]
    have k596 : Kt p e below m (s₁.setTop (entryFrame m #[(.int p1), (.int p2), (.int p3), (.int p4), (.int p5)] maxLocals)) T581 154 #[.val (.int p1), .val (.int p2), .val (.int p3), .val (.int p4), .val (.int p5), .val (.int kk), .val (.int mm), .val (.int ll), .val (.int tg), .val (.int tk), .val (.ref tb), .val (.ref pl), .val (.int (1 : Int32)), .val (.ref ou), .unset, .unset] [(.int tg), (.ref ou)] := by
      intro t ht
      refine k581 t ?_
      show Steps p.tables e below (T581.setTop (mkF m 140 #[.val (.int p1), .val (.int p2), .val (.int p3), .val (.int p4), .val (.int p5), .val (.int kk), .val (.int mm), .val (.int ll), .val (.int tg), .val (.int tk), .val (.ref tb), .val (.ref pl), .val (.int (1 : Int32)), .val (.ref ou), .unset, .unset] [(.int (own_b ((0 : Int32) < N)))])) t
      refine XS.ifNo X581.here hx rfl (hb hby at_140) rfl ((if0 _ _).trans (feq (own_bnz (by rw [own_lt, own_0]; omega))).1) ?_
      show Steps p.tables e below (T581.setTop (mkF m 143 #[.val (.int p1), .val (.int p2), .val (.int p3), .val (.int p4), .val (.int p5), .val (.int kk), .val (.int mm), .val (.int ll), .val (.int tg), .val (.int tk), .val (.ref tb), .val (.ref pl), .val (.int (1 : Int32)), .val (.ref ou), .unset, .unset] [])) t
      refine XS.iconst X581.here hx rfl (hb hby at_143) ?_
      show Steps p.tables e below (T581.setTop (mkF m 144 #[.val (.int p1), .val (.int p2), .val (.int p3), .val (.int p4), .val (.int p5), .val (.int kk), .val (.int mm), .val (.int ll), .val (.int tg), .val (.int tk), .val (.ref tb), .val (.ref pl), .val (.int (1 : Int32)), .val (.ref ou), .unset, .unset] [(.int (1 : Int32))])) t
      refine XS.goto X581.here hx rfl (pc0 := 144) (pc' := 148) rfl (hb hby at_144) (by decide) (by decide) ?_
      show Steps p.tables e below (T581.setTop (mkF m 148 #[.val (.int p1), .val (.int p2), .val (.int p3), .val (.int p4), .val (.int p5), .val (.int kk), .val (.int mm), .val (.int ll), .val (.int tg), .val (.int tk), .val (.ref tb), .val (.ref pl), .val (.int (1 : Int32)), .val (.ref ou), .unset, .unset] [(.int (1 : Int32))])) t
      refine XS.istore X581.here hx rfl (hb hby at_148) rfl (l' := #[.val (.int p1), .val (.int p2), .val (.int p3), .val (.int p4), .val (.int p5), .val (.int kk), .val (.int mm), .val (.int ll), .val (.int tg), .val (.int tk), .val (.ref tb), .val (.ref pl), .val (.int (1 : Int32)), .val (.ref ou), .unset, .unset]) rfl ?_
      show Steps p.tables e below (T581.setTop (mkF m 150 #[.val (.int p1), .val (.int p2), .val (.int p3), .val (.int p4), .val (.int p5), .val (.int kk), .val (.int mm), .val (.int ll), .val (.int tg), .val (.int tk), .val (.ref tb), .val (.ref pl), .val (.int (1 : Int32)), .val (.ref ou), .unset, .unset] [])) t
      refine XS.aload X581.here hx rfl (hb hby at_150) rfl rfl ?_
      show Steps p.tables e below (T581.setTop (mkF m 152 #[.val (.int p1), .val (.int p2), .val (.int p3), .val (.int p4), .val (.int p5), .val (.int kk), .val (.int mm), .val (.int ll), .val (.int tg), .val (.int tk), .val (.ref tb), .val (.ref pl), .val (.int (1 : Int32)), .val (.ref ou), .unset, .unset] [(.ref ou)])) t
      refine XS.iload X581.here hx rfl (hb hby at_152) rfl ?_
      exact ht
    obtain ⟨cq597, kq597, q597a, q597b, q597c⟩ := isOf hZ549 rfl f591
    obtain ⟨_, _, ⟨T597, L597, c597, n597⟩, -, X597, ⟨Lc597, hQ597, l597, y597, z597⟩, st597⟩ := X581.virtualBack hx (y := (⟨"com/example/subscriptor/subscriptor/Der", "read", "(I)Lcom/example/subscriptor/subscriptor/Der;"⟩ : MethodName)) (z := (⟨"com/example/subscriptor/subscriptor/Der", "read", "(I)Lcom/example/subscriptor/subscriptor/Der;"⟩ : MethodName)) hown549 (mvT hZ549 (hw _ (List.mem_of_getElem? (i := 33) rfl))) (mvT hZ549 (hw _ (List.mem_of_getElem? (i := 34) rfl))) (notFace_of_selects (args := #[]) (mvT hZ549 (hw _ (List.mem_of_getElem? (i := 36) rfl)))) (mvT hZ549 (hw _ (List.mem_of_getElem? (i := 36) rfl))) (mvT hZ549 (hw _ (List.mem_of_getElem? (i := 35) rfl))) (by decide) (backOf (W := 0) (rmrd0 l Z a0 hw [] ou s2 tb ak277 N N u0 u1 u2 u3 tg kk T581.heap n0 f582 f591 f592 f593 f594 f595 f583 ne_tb_ou.symm g_ou (by rw [own_lt, own_0]; omega) (by rw [own_lt, own_1]; omega) (by rw [own_lt, own_0]; omega) (by rw [own_lt, own_1]; omega) b0 b1 (own_l127 (by omega)) (own_ll (by omega))) hZ549 (hw _ (List.mem_of_getElem? (i := 37) rfl)) (hw _ (List.mem_of_getElem? (i := 3) rfl)) (by decide) (by decide)) q597a q597c (g := (mkF m 154 #[.val (.int p1), .val (.int p2), .val (.int p3), .val (.int p4), .val (.int p5), .val (.int kk), .val (.int mm), .val (.int ll), .val (.int tg), .val (.int tk), .val (.ref tb), .val (.ref pl), .val (.int (1 : Int32)), .val (.ref ou), .unset, .unset] [(.int tg), (.ref ou)])) rfl (by rw [hml]; rfl) (Steps.refl _) (argsL := [(.int tg)]) (rest := []) (lenOf pd_4 rfl) rfl (by show 2 * 0 + _ ≤ _; exact Nat.le_of_eq rfl) (hb hby at_154) (fun _ _ => ⟨rfl, rfl, (by decide : 8 + 1 ≤ _), (by decide : 35 + 4 ≤ _)⟩)
    dsimp only [Pt.U, Pt.locs, Pt.cells, Pt.slots] at X597 l597 y597 z597 st597 hQ597
    subst l597 y597 z597
    obtain ⟨inn, rfl, Nq597, Kp597, sz597, Er597, Fa597, Fb597, Fc597, Fd597, Ga597, Gb597, Gc597, Gd597⟩ := hQ597
    have N597 := Fr.app N581 Nq597
    have k597 : Kt p e below m (s₁.setTop (entryFrame m #[(.int p1), (.int p2), (.int p3), (.int p4), (.int p5)] maxLocals)) T597 157 #[.val (.int p1), .val (.int p2), .val (.int p3), .val (.int p4), .val (.int p5), .val (.int kk), .val (.int mm), .val (.int ll), .val (.int tg), .val (.int tk), .val (.ref tb), .val (.ref pl), .val (.int (1 : Int32)), .val (.ref ou), .unset, .unset] [(.ref inn)] := fun t ht => k596 t (st597.trans ht)
    have ne_tb_inn : tb ≠ inn := Nat.ne_of_lt (Nat.lt_of_lt_of_le f583.lt sz597)
    have ne_pl_inn : pl ≠ inn := Nat.ne_of_lt (Nat.lt_of_lt_of_le f584.lt sz597)
    have ne_pb_inn : pb ≠ inn := Nat.ne_of_lt (Nat.lt_of_lt_of_le f586.lt sz597)
    have ne_ou_inn : ou ≠ inn := Nat.ne_of_lt (Nat.lt_of_lt_of_le f591.lt sz597)
    have g_inn : n0 ≤ inn := Nat.le_trans f582 sz597
    have f598 : n0 ≤ T597.heap.size := Nat.le_trans f582 Kp597.1
    have f599 : Arv Z T597.heap tb ak277 .byte N [(.int u0), (.int u1), (.int u2), (.int u3)] (.int (0 : Int32)) := f583.keep Kp597 (ninS ne_tb_ou nin0)
    have f600 : Exa Z T597.heap pl "com/example/subscriptor/subscriptor/Der" := f584.keep Kp597
    have f601 : kb549 ≤ T597.heap.size := Nat.le_trans f585 Kp597.1
    have f602 : Arv Z T597.heap pb ak498 .byte ll [] (.int (0 : Int32)) := f586.keep Kp597 (ninS ne_pb_ou nin0)
    have f603 : Fld Z T597.heap pl "com/example/subscriptor/subscriptor/Der" "what" "Ljava/lang/String;" (.ref s1) := f587.keep Kp597 (ninS ne_pl_ou nin0)
    have f604 : Fld Z T597.heap pl "com/example/subscriptor/subscriptor/Der" "bytes" "[B" (.ref pb) := f588.keep Kp597 (ninS ne_pl_ou nin0)
    have f605 : Fld Z T597.heap pl "com/example/subscriptor/subscriptor/Der" "position" "I" (.int (0 : Int32)) := f589.keep Kp597 (ninS ne_pl_ou nin0)
    have f606 : Fld Z T597.heap pl "com/example/subscriptor/subscriptor/Der" "end" "I" (.int ll) := f590.keep Kp597 (ninS ne_pl_ou nin0)
    have f607 : Exa Z T597.heap ou "com/example/subscriptor/subscriptor/Der" := f591.keep Kp597
    have k612 : Kt p e below m (s₁.setTop (entryFrame m #[(.int p1), (.int p2), (.int p3), (.int p4), (.int p5)] maxLocals)) T597 166 #[.val (.int p1), .val (.int p2), .val (.int p3), .val (.int p4), .val (.int p5), .val (.int kk), .val (.int mm), .val (.int ll), .val (.int tg), .val (.int tk), .val (.ref tb), .val (.ref pl), .val (.int (1 : Int32)), .val (.ref ou), .val (.ref inn), .unset] [(.ref ou)] := by
      intro t ht
      refine k597 t ?_
      show Steps p.tables e below (T597.setTop (mkF m 157 #[.val (.int p1), .val (.int p2), .val (.int p3), .val (.int p4), .val (.int p5), .val (.int kk), .val (.int mm), .val (.int ll), .val (.int tg), .val (.int tk), .val (.ref tb), .val (.ref pl), .val (.int (1 : Int32)), .val (.ref ou), .unset, .unset] [(.ref inn)])) t
      refine XS.astore X597.here hx rfl (hb hby at_157) rfl rfl (l' := #[.val (.int p1), .val (.int p2), .val (.int p3), .val (.int p4), .val (.int p5), .val (.int kk), .val (.int mm), .val (.int ll), .val (.int tg), .val (.int tk), .val (.ref tb), .val (.ref pl), .val (.int (1 : Int32)), .val (.ref ou), .val (.ref inn), .unset]) rfl ?_
      show Steps p.tables e below (T597.setTop (mkF m 159 #[.val (.int p1), .val (.int p2), .val (.int p3), .val (.int p4), .val (.int p5), .val (.int kk), .val (.int mm), .val (.int ll), .val (.int tg), .val (.int tk), .val (.ref tb), .val (.ref pl), .val (.int (1 : Int32)), .val (.ref ou), .val (.ref inn), .unset] [])) t
      refine XS.iload X597.here hx rfl (hb hby at_159) rfl ?_
      show Steps p.tables e below (T597.setTop (mkF m 161 #[.val (.int p1), .val (.int p2), .val (.int p3), .val (.int p4), .val (.int p5), .val (.int kk), .val (.int mm), .val (.int ll), .val (.int tg), .val (.int tk), .val (.ref tb), .val (.ref pl), .val (.int (1 : Int32)), .val (.ref ou), .val (.ref inn), .unset] [(.int (1 : Int32))])) t
      refine XS.ifNo X597.here hx rfl (hb hby at_161) rfl ((if0 _ _).trans (feq (by decide)).1) ?_
      show Steps p.tables e below (T597.setTop (mkF m 164 #[.val (.int p1), .val (.int p2), .val (.int p3), .val (.int p4), .val (.int p5), .val (.int kk), .val (.int mm), .val (.int ll), .val (.int tg), .val (.int tk), .val (.ref tb), .val (.ref pl), .val (.int (1 : Int32)), .val (.ref ou), .val (.ref inn), .unset] [])) t
      refine XS.aload X597.here hx rfl (hb hby at_164) rfl rfl ?_
      exact ht
    obtain ⟨cq613, kq613, q613a, q613b, q613c⟩ := isOf hZ549 rfl f607
    obtain ⟨_, _, ⟨T613, L613, c613, n613⟩, -, X613, ⟨Lc613, hQ613, l613, y613, z613⟩, st613⟩ := X597.virtualBack hx (y := (⟨"com/example/subscriptor/subscriptor/Der", "hasNext", "()Z"⟩ : MethodName)) (z := (⟨"com/example/subscriptor/subscriptor/Der", "hasNext", "()Z"⟩ : MethodName)) hown549 (mvT hZ549 (hw _ (List.mem_of_getElem? (i := 28) rfl))) (mvT hZ549 (hw _ (List.mem_of_getElem? (i := 29) rfl))) (notFace_of_selects (args := #[]) (mvT hZ549 (hw _ (List.mem_of_getElem? (i := 31) rfl)))) (mvT hZ549 (hw _ (List.mem_of_getElem? (i := 31) rfl))) (mvT hZ549 (hw _ (List.mem_of_getElem? (i := 30) rfl))) (by decide) (backOf (W := 0) (rm4 l Z a0 hw [] ou ((2 : Int32) + kk) N T597.heap n0 f598 Fc597 Fd597) hZ549 (hw _ (List.mem_of_getElem? (i := 32) rfl)) (hw _ (List.mem_of_getElem? (i := 3) rfl)) (by decide) (by decide)) q613a q613c (g := (mkF m 166 #[.val (.int p1), .val (.int p2), .val (.int p3), .val (.int p4), .val (.int p5), .val (.int kk), .val (.int mm), .val (.int ll), .val (.int tg), .val (.int tk), .val (.ref tb), .val (.ref pl), .val (.int (1 : Int32)), .val (.ref ou), .val (.ref inn), .unset] [(.ref ou)])) rfl (by rw [hml]; rfl) (Steps.refl _) (argsL := []) (rest := []) (lenOf pd_2 rfl) rfl (by show 2 * 0 + _ ≤ _; exact Nat.le_of_eq rfl) (hb hby at_166) (fun _ _ => ⟨rfl, rfl, (by decide : 9 + 0 ≤ _), (by decide : 39 + 0 ≤ _)⟩)
    dsimp only [Pt.U, Pt.locs, Pt.cells, Pt.slots] at X613 l613 y613 z613 st613 hQ613
    subst l613 y613 z613
    obtain ⟨rfl, Nq613, eq613⟩ := hQ613
    have N613 := Fr.app N597 Nq613
    have k613 : Kt p e below m (s₁.setTop (entryFrame m #[(.int p1), (.int p2), (.int p3), (.int p4), (.int p5)] maxLocals)) T613 169 #[.val (.int p1), .val (.int p2), .val (.int p3), .val (.int p4), .val (.int p5), .val (.int kk), .val (.int mm), .val (.int ll), .val (.int tg), .val (.int tk), .val (.ref tb), .val (.ref pl), .val (.int (1 : Int32)), .val (.ref ou), .val (.ref inn), .unset] [(.int (own_b (((2 : Int32) + kk) < N)))] := fun t ht => k612 t (st613.trans ht)
    have f614 : n0 ≤ T613.heap.size := by rw [eq613]; exact f598
    have f615 : Arv Z T613.heap tb ak277 .byte N [(.int u0), (.int u1), (.int u2), (.int u3)] (.int (0 : Int32)) := by rw [eq613]; exact f599
    have f616 : Exa Z T613.heap pl "com/example/subscriptor/subscriptor/Der" := by rw [eq613]; exact f600
    have f617 : kb549 ≤ T613.heap.size := by rw [eq613]; exact f601
    have f618 : Arv Z T613.heap pb ak498 .byte ll [] (.int (0 : Int32)) := by rw [eq613]; exact f602
    have f619 : Fld Z T613.heap pl "com/example/subscriptor/subscriptor/Der" "what" "Ljava/lang/String;" (.ref s1) := by rw [eq613]; exact f603
    have f620 : Fld Z T613.heap pl "com/example/subscriptor/subscriptor/Der" "bytes" "[B" (.ref pb) := by rw [eq613]; exact f604
    have f621 : Fld Z T613.heap pl "com/example/subscriptor/subscriptor/Der" "position" "I" (.int (0 : Int32)) := by rw [eq613]; exact f605
    have f622 : Fld Z T613.heap pl "com/example/subscriptor/subscriptor/Der" "end" "I" (.int ll) := by rw [eq613]; exact f606
    have f623 : Exa Z T613.heap ou "com/example/subscriptor/subscriptor/Der" := by rw [eq613]; exact f607
    have f624 : Fld Z T613.heap ou "com/example/subscriptor/subscriptor/Der" "what" "Ljava/lang/String;" (.ref s2) := by rw [eq613]; exact Fa597
    have f625 : Fld Z T613.heap ou "com/example/subscriptor/subscriptor/Der" "bytes" "[B" (.ref tb) := by rw [eq613]; exact Fb597
    have f626 : Fld Z T613.heap ou "com/example/subscriptor/subscriptor/Der" "position" "I" (.int ((2 : Int32) + kk)) := by rw [eq613]; exact Fc597
    have f627 : Fld Z T613.heap ou "com/example/subscriptor/subscriptor/Der" "end" "I" (.int N) := by rw [eq613]; exact Fd597
    have f628 : Fld Z T613.heap inn "com/example/subscriptor/subscriptor/Der" "what" "Ljava/lang/String;" (.ref s2) := by rw [eq613]; exact Ga597
    have f629 : Fld Z T613.heap inn "com/example/subscriptor/subscriptor/Der" "bytes" "[B" (.ref tb) := by rw [eq613]; exact Gb597
    have f630 : Fld Z T613.heap inn "com/example/subscriptor/subscriptor/Der" "position" "I" (.int (2 : Int32)) := by rw [eq613]; exact Gc597
    have f631 : Fld Z T613.heap inn "com/example/subscriptor/subscriptor/Der" "end" "I" (.int ((2 : Int32) + kk)) := by rw [eq613]; exact Gd597
    have f632 : Exa Z T613.heap inn "com/example/subscriptor/subscriptor/Der" := by rw [eq613]; exact Er597
    have k633 : Kt p e below m (s₁.setTop (entryFrame m #[(.int p1), (.int p2), (.int p3), (.int p4), (.int p5)] maxLocals)) T613 171 #[.val (.int p1), .val (.int p2), .val (.int p3), .val (.int p4), .val (.int p5), .val (.int kk), .val (.int mm), .val (.int ll), .val (.int tg), .val (.int tk), .val (.ref tb), .val (.ref pl), .val (.int (1 : Int32)), .val (.ref ou), .val (.ref inn), .unset] [(.int mm), (.int (own_b (((2 : Int32) + kk) < N)))] := by
      intro t ht
      refine k613 t ?_
      show Steps p.tables e below (T613.setTop (mkF m 169 #[.val (.int p1), .val (.int p2), .val (.int p3), .val (.int p4), .val (.int p5), .val (.int kk), .val (.int mm), .val (.int ll), .val (.int tg), .val (.int tk), .val (.ref tb), .val (.ref pl), .val (.int (1 : Int32)), .val (.ref ou), .val (.ref inn), .unset] [(.int (own_b (((2 : Int32) + kk) < N)))])) t
      refine XS.iload X613.here hx rfl (hb hby at_169) rfl ?_
      exact ht
    obtain ⟨z2, hp634, k634⟩ : ∃ z2 : Int32, (z2 = own_b ((0 : Int32) < mm)) ∧ Kt p e below m (s₁.setTop (entryFrame m #[(.int p1), (.int p2), (.int p3), (.int p4), (.int p5)] maxLocals)) T613 179 #[.val (.int p1), .val (.int p2), .val (.int p3), .val (.int p4), .val (.int p5), .val (.int kk), .val (.int mm), .val (.int ll), .val (.int tg), .val (.int tk), .val (.ref tb), .val (.ref pl), .val (.int (1 : Int32)), .val (.ref ou), .val (.ref inn), .unset] [(.int z2), (.int (own_b (((2 : Int32) + kk) < N)))] := by
      by_cases hj635 : (0 : Int32) < mm
      · have k636 : Kt p e below m (s₁.setTop (entryFrame m #[(.int p1), (.int p2), (.int p3), (.int p4), (.int p5)] maxLocals)) T613 179 #[.val (.int p1), .val (.int p2), .val (.int p3), .val (.int p4), .val (.int p5), .val (.int kk), .val (.int mm), .val (.int ll), .val (.int tg), .val (.int tk), .val (.ref tb), .val (.ref pl), .val (.int (1 : Int32)), .val (.ref ou), .val (.ref inn), .unset] [(.int (1 : Int32)), (.int (own_b (((2 : Int32) + kk) < N)))] := by
          intro t ht
          refine k633 t ?_
          show Steps p.tables e below (T613.setTop (mkF m 171 #[.val (.int p1), .val (.int p2), .val (.int p3), .val (.int p4), .val (.int p5), .val (.int kk), .val (.int mm), .val (.int ll), .val (.int tg), .val (.int tk), .val (.ref tb), .val (.ref pl), .val (.int (1 : Int32)), .val (.ref ou), .val (.ref inn), .unset] [(.int mm), (.int (own_b (((2 : Int32) + kk) < N)))])) t
          refine XS.ifNo X613.here hx rfl (hb hby at_171) rfl ((if0 _ _).trans (tlt hj635).2.2.2) ?_
          show Steps p.tables e below (T613.setTop (mkF m 174 #[.val (.int p1), .val (.int p2), .val (.int p3), .val (.int p4), .val (.int p5), .val (.int kk), .val (.int mm), .val (.int ll), .val (.int tg), .val (.int tk), .val (.ref tb), .val (.ref pl), .val (.int (1 : Int32)), .val (.ref ou), .val (.ref inn), .unset] [(.int (own_b (((2 : Int32) + kk) < N)))])) t
          refine XS.iconst X613.here hx rfl (hb hby at_174) ?_
          show Steps p.tables e below (T613.setTop (mkF m 175 #[.val (.int p1), .val (.int p2), .val (.int p3), .val (.int p4), .val (.int p5), .val (.int kk), .val (.int mm), .val (.int ll), .val (.int tg), .val (.int tk), .val (.ref tb), .val (.ref pl), .val (.int (1 : Int32)), .val (.ref ou), .val (.ref inn), .unset] [(.int (1 : Int32)), (.int (own_b (((2 : Int32) + kk) < N)))])) t
          refine XS.goto X613.here hx rfl (pc0 := 175) (pc' := 179) rfl (hb hby at_175) (by decide) (by decide) ?_
          exact ht
        exact ⟨(1 : Int32), (by unfold own_b; simp [hj635]), k636⟩
      · have k637 : Kt p e below m (s₁.setTop (entryFrame m #[(.int p1), (.int p2), (.int p3), (.int p4), (.int p5)] maxLocals)) T613 179 #[.val (.int p1), .val (.int p2), .val (.int p3), .val (.int p4), .val (.int p5), .val (.int kk), .val (.int mm), .val (.int ll), .val (.int tg), .val (.int tk), .val (.ref tb), .val (.ref pl), .val (.int (1 : Int32)), .val (.ref ou), .val (.ref inn), .unset] [(.int (0 : Int32)), (.int (own_b (((2 : Int32) + kk) < N)))] := by
          intro t ht
          refine k633 t ?_
          show Steps p.tables e below (T613.setTop (mkF m 171 #[.val (.int p1), .val (.int p2), .val (.int p3), .val (.int p4), .val (.int p5), .val (.int kk), .val (.int mm), .val (.int ll), .val (.int tg), .val (.int tk), .val (.ref tb), .val (.ref pl), .val (.int (1 : Int32)), .val (.ref ou), .val (.ref inn), .unset] [(.int mm), (.int (own_b (((2 : Int32) + kk) < N)))])) t
          refine XS.ifYes X613.here hx rfl (pc0 := 171) (pc' := 178) rfl (hb hby at_171) rfl ((if0 _ _).trans (flt hj635).2.2.2) (by decide) (by decide) ?_
          show Steps p.tables e below (T613.setTop (mkF m 178 #[.val (.int p1), .val (.int p2), .val (.int p3), .val (.int p4), .val (.int p5), .val (.int kk), .val (.int mm), .val (.int ll), .val (.int tg), .val (.int tk), .val (.ref tb), .val (.ref pl), .val (.int (1 : Int32)), .val (.ref ou), .val (.ref inn), .unset] [(.int (own_b (((2 : Int32) + kk) < N)))])) t
          refine XS.iconst X613.here hx rfl (hb hby at_178) ?_
          exact ht
        exact ⟨(0 : Int32), (by unfold own_b; simp [hj635]), k637⟩
    have k638 : Kt p e below m (s₁.setTop (entryFrame m #[(.int p1), (.int p2), (.int p3), (.int p4), (.int p5)] maxLocals)) T613 196 #[.val (.int p1), .val (.int p2), .val (.int p3), .val (.int p4), .val (.int p5), .val (.int kk), .val (.int mm), .val (.int ll), .val (.int tg), .val (.int tk), .val (.ref tb), .val (.ref pl), .val (.int (1 : Int32)), .val (.ref ou), .val (.ref inn), .unset] [(.ref inn)] := by
      intro t ht
      refine k634 t ?_
      show Steps p.tables e below (T613.setTop (mkF m 179 #[.val (.int p1), .val (.int p2), .val (.int p3), .val (.int p4), .val (.int p5), .val (.int kk), .val (.int mm), .val (.int ll), .val (.int tg), .val (.int tk), .val (.ref tb), .val (.ref pl), .val (.int (1 : Int32)), .val (.ref ou), .val (.ref inn), .unset] [(.int z2), (.int (own_b (((2 : Int32) + kk) < N)))])) t
      refine XS.icmpNo X613.here hx rfl (hb hby at_179) rfl (teq ((own_bn (by rw [own_lt, own_lt, own_0]; omega)).trans hp634.symm)).2 ?_
      show Steps p.tables e below (T613.setTop (mkF m 182 #[.val (.int p1), .val (.int p2), .val (.int p3), .val (.int p4), .val (.int p5), .val (.int kk), .val (.int mm), .val (.int ll), .val (.int tg), .val (.int tk), .val (.ref tb), .val (.ref pl), .val (.int (1 : Int32)), .val (.ref ou), .val (.ref inn), .unset] [])) t
      refine XS.iconst X613.here hx rfl (hb hby at_182) ?_
      show Steps p.tables e below (T613.setTop (mkF m 183 #[.val (.int p1), .val (.int p2), .val (.int p3), .val (.int p4), .val (.int p5), .val (.int kk), .val (.int mm), .val (.int ll), .val (.int tg), .val (.int tk), .val (.ref tb), .val (.ref pl), .val (.int (1 : Int32)), .val (.ref ou), .val (.ref inn), .unset] [(.int (1 : Int32))])) t
      refine XS.goto X613.here hx rfl (pc0 := 183) (pc' := 187) rfl (hb hby at_183) (by decide) (by decide) ?_
      show Steps p.tables e below (T613.setTop (mkF m 187 #[.val (.int p1), .val (.int p2), .val (.int p3), .val (.int p4), .val (.int p5), .val (.int kk), .val (.int mm), .val (.int ll), .val (.int tg), .val (.int tk), .val (.ref tb), .val (.ref pl), .val (.int (1 : Int32)), .val (.ref ou), .val (.ref inn), .unset] [(.int (1 : Int32))])) t
      refine XS.istore X613.here hx rfl (hb hby at_187) rfl (l' := #[.val (.int p1), .val (.int p2), .val (.int p3), .val (.int p4), .val (.int p5), .val (.int kk), .val (.int mm), .val (.int ll), .val (.int tg), .val (.int tk), .val (.ref tb), .val (.ref pl), .val (.int (1 : Int32)), .val (.ref ou), .val (.ref inn), .unset]) rfl ?_
      show Steps p.tables e below (T613.setTop (mkF m 189 #[.val (.int p1), .val (.int p2), .val (.int p3), .val (.int p4), .val (.int p5), .val (.int kk), .val (.int mm), .val (.int ll), .val (.int tg), .val (.int tk), .val (.ref tb), .val (.ref pl), .val (.int (1 : Int32)), .val (.ref ou), .val (.ref inn), .unset] [])) t
      refine XS.iload X613.here hx rfl (hb hby at_189) rfl ?_
      show Steps p.tables e below (T613.setTop (mkF m 191 #[.val (.int p1), .val (.int p2), .val (.int p3), .val (.int p4), .val (.int p5), .val (.int kk), .val (.int mm), .val (.int ll), .val (.int tg), .val (.int tk), .val (.ref tb), .val (.ref pl), .val (.int (1 : Int32)), .val (.ref ou), .val (.ref inn), .unset] [(.int (1 : Int32))])) t
      refine XS.ifNo X613.here hx rfl (hb hby at_191) rfl ((if0 _ _).trans (feq (by decide)).1) ?_
      show Steps p.tables e below (T613.setTop (mkF m 194 #[.val (.int p1), .val (.int p2), .val (.int p3), .val (.int p4), .val (.int p5), .val (.int kk), .val (.int mm), .val (.int ll), .val (.int tg), .val (.int tk), .val (.ref tb), .val (.ref pl), .val (.int (1 : Int32)), .val (.ref ou), .val (.ref inn), .unset] [])) t
      refine XS.aload X613.here hx rfl (hb hby at_194) rfl rfl ?_
      exact ht
    obtain ⟨cq639, kq639, q639a, q639b, q639c⟩ := isOf hZ549 rfl f632
    obtain ⟨_, _, ⟨T639, L639, c639, n639⟩, -, X639, ⟨Lc639, hQ639, l639, y639, z639⟩, st639⟩ := X613.virtualBack hx (y := (⟨"com/example/subscriptor/subscriptor/Der", "hasNext", "()Z"⟩ : MethodName)) (z := (⟨"com/example/subscriptor/subscriptor/Der", "hasNext", "()Z"⟩ : MethodName)) hown549 (mvT hZ549 (hw _ (List.mem_of_getElem? (i := 28) rfl))) (mvT hZ549 (hw _ (List.mem_of_getElem? (i := 29) rfl))) (notFace_of_selects (args := #[]) (mvT hZ549 (hw _ (List.mem_of_getElem? (i := 31) rfl)))) (mvT hZ549 (hw _ (List.mem_of_getElem? (i := 31) rfl))) (mvT hZ549 (hw _ (List.mem_of_getElem? (i := 30) rfl))) (by decide) (backOf (W := 0) (rm4 l Z a0 hw [] inn (2 : Int32) ((2 : Int32) + kk) T613.heap n0 f614 f630 f631) hZ549 (hw _ (List.mem_of_getElem? (i := 32) rfl)) (hw _ (List.mem_of_getElem? (i := 3) rfl)) (by decide) (by decide)) q639a q639c (g := (mkF m 196 #[.val (.int p1), .val (.int p2), .val (.int p3), .val (.int p4), .val (.int p5), .val (.int kk), .val (.int mm), .val (.int ll), .val (.int tg), .val (.int tk), .val (.ref tb), .val (.ref pl), .val (.int (1 : Int32)), .val (.ref ou), .val (.ref inn), .unset] [(.ref inn)])) rfl (by rw [hml]; rfl) (Steps.refl _) (argsL := []) (rest := []) (lenOf pd_2 rfl) rfl (by show 2 * 0 + _ ≤ _; exact Nat.le_of_eq rfl) (hb hby at_196) (fun _ _ => ⟨rfl, rfl, (by decide : 9 + 0 ≤ _), (by decide : 39 + 0 ≤ _)⟩)
    dsimp only [Pt.U, Pt.locs, Pt.cells, Pt.slots] at X639 l639 y639 z639 st639 hQ639
    subst l639 y639 z639
    obtain ⟨rfl, Nq639, eq639⟩ := hQ639
    have N639 := Fr.app N613 Nq639
    have k639 : Kt p e below m (s₁.setTop (entryFrame m #[(.int p1), (.int p2), (.int p3), (.int p4), (.int p5)] maxLocals)) T639 199 #[.val (.int p1), .val (.int p2), .val (.int p3), .val (.int p4), .val (.int p5), .val (.int kk), .val (.int mm), .val (.int ll), .val (.int tg), .val (.int tk), .val (.ref tb), .val (.ref pl), .val (.int (1 : Int32)), .val (.ref ou), .val (.ref inn), .unset] [(.int (own_b ((2 : Int32) < ((2 : Int32) + kk))))] := fun t ht => k638 t (st639.trans ht)
    have f640 : n0 ≤ T639.heap.size := by rw [eq639]; exact f614
    have f641 : Arv Z T639.heap tb ak277 .byte N [(.int u0), (.int u1), (.int u2), (.int u3)] (.int (0 : Int32)) := by rw [eq639]; exact f615
    have f642 : Exa Z T639.heap pl "com/example/subscriptor/subscriptor/Der" := by rw [eq639]; exact f616
    have f643 : kb549 ≤ T639.heap.size := by rw [eq639]; exact f617
    have f644 : Arv Z T639.heap pb ak498 .byte ll [] (.int (0 : Int32)) := by rw [eq639]; exact f618
    have f645 : Fld Z T639.heap pl "com/example/subscriptor/subscriptor/Der" "what" "Ljava/lang/String;" (.ref s1) := by rw [eq639]; exact f619
    have f646 : Fld Z T639.heap pl "com/example/subscriptor/subscriptor/Der" "bytes" "[B" (.ref pb) := by rw [eq639]; exact f620
    have f647 : Fld Z T639.heap pl "com/example/subscriptor/subscriptor/Der" "position" "I" (.int (0 : Int32)) := by rw [eq639]; exact f621
    have f648 : Fld Z T639.heap pl "com/example/subscriptor/subscriptor/Der" "end" "I" (.int ll) := by rw [eq639]; exact f622
    have f649 : Exa Z T639.heap ou "com/example/subscriptor/subscriptor/Der" := by rw [eq639]; exact f623
    have f650 : Fld Z T639.heap ou "com/example/subscriptor/subscriptor/Der" "what" "Ljava/lang/String;" (.ref s2) := by rw [eq639]; exact f624
    have f651 : Fld Z T639.heap ou "com/example/subscriptor/subscriptor/Der" "bytes" "[B" (.ref tb) := by rw [eq639]; exact f625
    have f652 : Fld Z T639.heap ou "com/example/subscriptor/subscriptor/Der" "position" "I" (.int ((2 : Int32) + kk)) := by rw [eq639]; exact f626
    have f653 : Fld Z T639.heap ou "com/example/subscriptor/subscriptor/Der" "end" "I" (.int N) := by rw [eq639]; exact f627
    have f654 : Fld Z T639.heap inn "com/example/subscriptor/subscriptor/Der" "what" "Ljava/lang/String;" (.ref s2) := by rw [eq639]; exact f628
    have f655 : Fld Z T639.heap inn "com/example/subscriptor/subscriptor/Der" "bytes" "[B" (.ref tb) := by rw [eq639]; exact f629
    have f656 : Fld Z T639.heap inn "com/example/subscriptor/subscriptor/Der" "position" "I" (.int (2 : Int32)) := by rw [eq639]; exact f630
    have f657 : Fld Z T639.heap inn "com/example/subscriptor/subscriptor/Der" "end" "I" (.int ((2 : Int32) + kk)) := by rw [eq639]; exact f631
    have f658 : Exa Z T639.heap inn "com/example/subscriptor/subscriptor/Der" := by rw [eq639]; exact f632
    have k659 : Kt p e below m (s₁.setTop (entryFrame m #[(.int p1), (.int p2), (.int p3), (.int p4), (.int p5)] maxLocals)) T639 201 #[.val (.int p1), .val (.int p2), .val (.int p3), .val (.int p4), .val (.int p5), .val (.int kk), .val (.int mm), .val (.int ll), .val (.int tg), .val (.int tk), .val (.ref tb), .val (.ref pl), .val (.int (1 : Int32)), .val (.ref ou), .val (.ref inn), .unset] [(.int kk), (.int (own_b ((2 : Int32) < ((2 : Int32) + kk))))] := by
      intro t ht
      refine k639 t ?_
      show Steps p.tables e below (T639.setTop (mkF m 199 #[.val (.int p1), .val (.int p2), .val (.int p3), .val (.int p4), .val (.int p5), .val (.int kk), .val (.int mm), .val (.int ll), .val (.int tg), .val (.int tk), .val (.ref tb), .val (.ref pl), .val (.int (1 : Int32)), .val (.ref ou), .val (.ref inn), .unset] [(.int (own_b ((2 : Int32) < ((2 : Int32) + kk))))])) t
      refine XS.iload X639.here hx rfl (hb hby at_199) rfl ?_
      exact ht
    obtain ⟨z3, hp660, k660⟩ : ∃ z3 : Int32, (z3 = own_b ((0 : Int32) < kk)) ∧ Kt p e below m (s₁.setTop (entryFrame m #[(.int p1), (.int p2), (.int p3), (.int p4), (.int p5)] maxLocals)) T639 209 #[.val (.int p1), .val (.int p2), .val (.int p3), .val (.int p4), .val (.int p5), .val (.int kk), .val (.int mm), .val (.int ll), .val (.int tg), .val (.int tk), .val (.ref tb), .val (.ref pl), .val (.int (1 : Int32)), .val (.ref ou), .val (.ref inn), .unset] [(.int z3), (.int (own_b ((2 : Int32) < ((2 : Int32) + kk))))] := by
      by_cases hj661 : (0 : Int32) < kk
      · have k662 : Kt p e below m (s₁.setTop (entryFrame m #[(.int p1), (.int p2), (.int p3), (.int p4), (.int p5)] maxLocals)) T639 209 #[.val (.int p1), .val (.int p2), .val (.int p3), .val (.int p4), .val (.int p5), .val (.int kk), .val (.int mm), .val (.int ll), .val (.int tg), .val (.int tk), .val (.ref tb), .val (.ref pl), .val (.int (1 : Int32)), .val (.ref ou), .val (.ref inn), .unset] [(.int (1 : Int32)), (.int (own_b ((2 : Int32) < ((2 : Int32) + kk))))] := by
          intro t ht
          refine k659 t ?_
          show Steps p.tables e below (T639.setTop (mkF m 201 #[.val (.int p1), .val (.int p2), .val (.int p3), .val (.int p4), .val (.int p5), .val (.int kk), .val (.int mm), .val (.int ll), .val (.int tg), .val (.int tk), .val (.ref tb), .val (.ref pl), .val (.int (1 : Int32)), .val (.ref ou), .val (.ref inn), .unset] [(.int kk), (.int (own_b ((2 : Int32) < ((2 : Int32) + kk))))])) t
          refine XS.ifNo X639.here hx rfl (hb hby at_201) rfl ((if0 _ _).trans (tlt hj661).2.2.2) ?_
          show Steps p.tables e below (T639.setTop (mkF m 204 #[.val (.int p1), .val (.int p2), .val (.int p3), .val (.int p4), .val (.int p5), .val (.int kk), .val (.int mm), .val (.int ll), .val (.int tg), .val (.int tk), .val (.ref tb), .val (.ref pl), .val (.int (1 : Int32)), .val (.ref ou), .val (.ref inn), .unset] [(.int (own_b ((2 : Int32) < ((2 : Int32) + kk))))])) t
          refine XS.iconst X639.here hx rfl (hb hby at_204) ?_
          show Steps p.tables e below (T639.setTop (mkF m 205 #[.val (.int p1), .val (.int p2), .val (.int p3), .val (.int p4), .val (.int p5), .val (.int kk), .val (.int mm), .val (.int ll), .val (.int tg), .val (.int tk), .val (.ref tb), .val (.ref pl), .val (.int (1 : Int32)), .val (.ref ou), .val (.ref inn), .unset] [(.int (1 : Int32)), (.int (own_b ((2 : Int32) < ((2 : Int32) + kk))))])) t
          refine XS.goto X639.here hx rfl (pc0 := 205) (pc' := 209) rfl (hb hby at_205) (by decide) (by decide) ?_
          exact ht
        exact ⟨(1 : Int32), (by unfold own_b; simp [hj661]), k662⟩
      · have k663 : Kt p e below m (s₁.setTop (entryFrame m #[(.int p1), (.int p2), (.int p3), (.int p4), (.int p5)] maxLocals)) T639 209 #[.val (.int p1), .val (.int p2), .val (.int p3), .val (.int p4), .val (.int p5), .val (.int kk), .val (.int mm), .val (.int ll), .val (.int tg), .val (.int tk), .val (.ref tb), .val (.ref pl), .val (.int (1 : Int32)), .val (.ref ou), .val (.ref inn), .unset] [(.int (0 : Int32)), (.int (own_b ((2 : Int32) < ((2 : Int32) + kk))))] := by
          intro t ht
          refine k659 t ?_
          show Steps p.tables e below (T639.setTop (mkF m 201 #[.val (.int p1), .val (.int p2), .val (.int p3), .val (.int p4), .val (.int p5), .val (.int kk), .val (.int mm), .val (.int ll), .val (.int tg), .val (.int tk), .val (.ref tb), .val (.ref pl), .val (.int (1 : Int32)), .val (.ref ou), .val (.ref inn), .unset] [(.int kk), (.int (own_b ((2 : Int32) < ((2 : Int32) + kk))))])) t
          refine XS.ifYes X639.here hx rfl (pc0 := 201) (pc' := 208) rfl (hb hby at_201) rfl ((if0 _ _).trans (flt hj661).2.2.2) (by decide) (by decide) ?_
          show Steps p.tables e below (T639.setTop (mkF m 208 #[.val (.int p1), .val (.int p2), .val (.int p3), .val (.int p4), .val (.int p5), .val (.int kk), .val (.int mm), .val (.int ll), .val (.int tg), .val (.int tk), .val (.ref tb), .val (.ref pl), .val (.int (1 : Int32)), .val (.ref ou), .val (.ref inn), .unset] [(.int (own_b ((2 : Int32) < ((2 : Int32) + kk))))])) t
          refine XS.iconst X639.here hx rfl (hb hby at_208) ?_
          exact ht
        exact ⟨(0 : Int32), (by unfold own_b; simp [hj661]), k663⟩
    have q7 : (((2 : Int32) + kk) - (4 : Int32)).toInt = kk.toInt - 2 := by rw [own_sub (by omega) (by omega) (by decide) (by decide), own_4]; omega
    have q8 : ((4 : Int32) + (kk - (2 : Int32))).toInt = 2 + kk.toInt := by rw [own_add (by decide) (by decide) (by omega) (by omega), own_4]; omega
    have k664 : Kt p e below m (s₁.setTop (entryFrame m #[(.int p1), (.int p2), (.int p3), (.int p4), (.int p5)] maxLocals)) T639 229 #[.val (.int p1), .val (.int p2), .val (.int p3), .val (.int p4), .val (.int p5), .val (.int kk), .val (.int mm), .val (.int ll), .val (.int tg), .val (.int tk), .val (.ref tb), .val (.ref pl), .val (.int (1 : Int32)), .val (.ref ou), .val (.ref inn), .unset] [(.int tk), (.ref inn)] := by
      intro t ht
      refine k660 t ?_
      show Steps p.tables e below (T639.setTop (mkF m 209 #[.val (.int p1), .val (.int p2), .val (.int p3), .val (.int p4), .val (.int p5), .val (.int kk), .val (.int mm), .val (.int ll), .val (.int tg), .val (.int tk), .val (.ref tb), .val (.ref pl), .val (.int (1 : Int32)), .val (.ref ou), .val (.ref inn), .unset] [(.int z3), (.int (own_b ((2 : Int32) < ((2 : Int32) + kk))))])) t
      refine XS.icmpNo X639.here hx rfl (hb hby at_209) rfl (teq ((own_bn (by rw [own_lt, own_lt, own_0, own_2]; omega)).trans hp660.symm)).2 ?_
      show Steps p.tables e below (T639.setTop (mkF m 212 #[.val (.int p1), .val (.int p2), .val (.int p3), .val (.int p4), .val (.int p5), .val (.int kk), .val (.int mm), .val (.int ll), .val (.int tg), .val (.int tk), .val (.ref tb), .val (.ref pl), .val (.int (1 : Int32)), .val (.ref ou), .val (.ref inn), .unset] [])) t
      refine XS.iconst X639.here hx rfl (hb hby at_212) ?_
      show Steps p.tables e below (T639.setTop (mkF m 213 #[.val (.int p1), .val (.int p2), .val (.int p3), .val (.int p4), .val (.int p5), .val (.int kk), .val (.int mm), .val (.int ll), .val (.int tg), .val (.int tk), .val (.ref tb), .val (.ref pl), .val (.int (1 : Int32)), .val (.ref ou), .val (.ref inn), .unset] [(.int (1 : Int32))])) t
      refine XS.goto X639.here hx rfl (pc0 := 213) (pc' := 217) rfl (hb hby at_213) (by decide) (by decide) ?_
      show Steps p.tables e below (T639.setTop (mkF m 217 #[.val (.int p1), .val (.int p2), .val (.int p3), .val (.int p4), .val (.int p5), .val (.int kk), .val (.int mm), .val (.int ll), .val (.int tg), .val (.int tk), .val (.ref tb), .val (.ref pl), .val (.int (1 : Int32)), .val (.ref ou), .val (.ref inn), .unset] [(.int (1 : Int32))])) t
      refine XS.istore X639.here hx rfl (hb hby at_217) rfl (l' := #[.val (.int p1), .val (.int p2), .val (.int p3), .val (.int p4), .val (.int p5), .val (.int kk), .val (.int mm), .val (.int ll), .val (.int tg), .val (.int tk), .val (.ref tb), .val (.ref pl), .val (.int (1 : Int32)), .val (.ref ou), .val (.ref inn), .unset]) rfl ?_
      show Steps p.tables e below (T639.setTop (mkF m 219 #[.val (.int p1), .val (.int p2), .val (.int p3), .val (.int p4), .val (.int p5), .val (.int kk), .val (.int mm), .val (.int ll), .val (.int tg), .val (.int tk), .val (.ref tb), .val (.ref pl), .val (.int (1 : Int32)), .val (.ref ou), .val (.ref inn), .unset] [])) t
      refine XS.iload X639.here hx rfl (hb hby at_219) rfl ?_
      show Steps p.tables e below (T639.setTop (mkF m 221 #[.val (.int p1), .val (.int p2), .val (.int p3), .val (.int p4), .val (.int p5), .val (.int kk), .val (.int mm), .val (.int ll), .val (.int tg), .val (.int tk), .val (.ref tb), .val (.ref pl), .val (.int (1 : Int32)), .val (.ref ou), .val (.ref inn), .unset] [(.int kk)])) t
      refine XS.iconst X639.here hx rfl (hb hby at_221) ?_
      show Steps p.tables e below (T639.setTop (mkF m 222 #[.val (.int p1), .val (.int p2), .val (.int p3), .val (.int p4), .val (.int p5), .val (.int kk), .val (.int mm), .val (.int ll), .val (.int tg), .val (.int tk), .val (.ref tb), .val (.ref pl), .val (.int (1 : Int32)), .val (.ref ou), .val (.ref inn), .unset] [(.int (2 : Int32)), (.int kk)])) t
      refine XS.icmpNo X639.here hx rfl (hb hby at_222) rfl (flt h2).1 ?_
      show Steps p.tables e below (T639.setTop (mkF m 225 #[.val (.int p1), .val (.int p2), .val (.int p3), .val (.int p4), .val (.int p5), .val (.int kk), .val (.int mm), .val (.int ll), .val (.int tg), .val (.int tk), .val (.ref tb), .val (.ref pl), .val (.int (1 : Int32)), .val (.ref ou), .val (.ref inn), .unset] [])) t
      refine XS.aload X639.here hx rfl (hb hby at_225) rfl rfl ?_
      show Steps p.tables e below (T639.setTop (mkF m 227 #[.val (.int p1), .val (.int p2), .val (.int p3), .val (.int p4), .val (.int p5), .val (.int kk), .val (.int mm), .val (.int ll), .val (.int tg), .val (.int tk), .val (.ref tb), .val (.ref pl), .val (.int (1 : Int32)), .val (.ref ou), .val (.ref inn), .unset] [(.ref inn)])) t
      refine XS.iload X639.here hx rfl (hb hby at_227) rfl ?_
      exact ht
    obtain ⟨cq665, kq665, q665a, q665b, q665c⟩ := isOf hZ549 rfl f658
    obtain ⟨_, _, ⟨T665, L665, c665, n665⟩, -, X665, ⟨Lc665, hQ665, l665, y665, z665⟩, st665⟩ := X639.virtualBack hx (y := (⟨"com/example/subscriptor/subscriptor/Der", "read", "(I)Lcom/example/subscriptor/subscriptor/Der;"⟩ : MethodName)) (z := (⟨"com/example/subscriptor/subscriptor/Der", "read", "(I)Lcom/example/subscriptor/subscriptor/Der;"⟩ : MethodName)) hown549 (mvT hZ549 (hw _ (List.mem_of_getElem? (i := 33) rfl))) (mvT hZ549 (hw _ (List.mem_of_getElem? (i := 34) rfl))) (notFace_of_selects (args := #[]) (mvT hZ549 (hw _ (List.mem_of_getElem? (i := 36) rfl)))) (mvT hZ549 (hw _ (List.mem_of_getElem? (i := 36) rfl))) (mvT hZ549 (hw _ (List.mem_of_getElem? (i := 35) rfl))) (by decide) (backOf (W := 0) (rmrd2 l Z a0 hw [] inn s2 tb ak277 N ((2 : Int32) + kk) u0 u1 u2 u3 tk (kk - (2 : Int32)) T639.heap n0 f640 f658 f654 f655 f656 f657 f641 ne_tb_inn.symm g_inn (by rw [own_lt, own_2]; omega) (by rw [own_lt, own_3]; omega) (by rw [own_lt, own_2]; omega) (by rw [own_lt, own_3]; omega) b2 b3 (own_l127 (by omega)) (own_ll (by omega))) hZ549 (hw _ (List.mem_of_getElem? (i := 37) rfl)) (hw _ (List.mem_of_getElem? (i := 3) rfl)) (by decide) (by decide)) q665a q665c (g := (mkF m 229 #[.val (.int p1), .val (.int p2), .val (.int p3), .val (.int p4), .val (.int p5), .val (.int kk), .val (.int mm), .val (.int ll), .val (.int tg), .val (.int tk), .val (.ref tb), .val (.ref pl), .val (.int (1 : Int32)), .val (.ref ou), .val (.ref inn), .unset] [(.int tk), (.ref inn)])) rfl (by rw [hml]; rfl) (Steps.refl _) (argsL := [(.int tk)]) (rest := []) (lenOf pd_4 rfl) rfl (by show 2 * 0 + _ ≤ _; exact Nat.le_of_eq rfl) (hb hby at_229) (fun _ _ => ⟨rfl, rfl, (by decide : 9 + 1 ≤ _), (by decide : 39 + 4 ≤ _)⟩)
    dsimp only [Pt.U, Pt.locs, Pt.cells, Pt.slots] at X665 l665 y665 z665 st665 hQ665
    subst l665 y665 z665
    obtain ⟨ins, rfl, Nq665, Kp665, sz665, Er665, Fa665, Fb665, Fc665, Fd665, Ga665, Gb665, Gc665, Gd665⟩ := hQ665
    have N665 := Fr.app N639 Nq665
    have k665 : Kt p e below m (s₁.setTop (entryFrame m #[(.int p1), (.int p2), (.int p3), (.int p4), (.int p5)] maxLocals)) T665 232 #[.val (.int p1), .val (.int p2), .val (.int p3), .val (.int p4), .val (.int p5), .val (.int kk), .val (.int mm), .val (.int ll), .val (.int tg), .val (.int tk), .val (.ref tb), .val (.ref pl), .val (.int (1 : Int32)), .val (.ref ou), .val (.ref inn), .unset] [(.ref ins)] := fun t ht => k664 t (st665.trans ht)
    have ne_tb_ins : tb ≠ ins := Nat.ne_of_lt (Nat.lt_of_lt_of_le f641.lt sz665)
    have ne_pl_ins : pl ≠ ins := Nat.ne_of_lt (Nat.lt_of_lt_of_le f642.lt sz665)
    have ne_pb_ins : pb ≠ ins := Nat.ne_of_lt (Nat.lt_of_lt_of_le f644.lt sz665)
    have ne_ou_ins : ou ≠ ins := Nat.ne_of_lt (Nat.lt_of_lt_of_le f649.lt sz665)
    have ne_inn_ins : inn ≠ ins := Nat.ne_of_lt (Nat.lt_of_lt_of_le f654.lt sz665)
    have g_ins : n0 ≤ ins := Nat.le_trans f640 sz665
    have f666 : n0 ≤ T665.heap.size := Nat.le_trans f640 Kp665.1
    have f667 : Arv Z T665.heap tb ak277 .byte N [(.int u0), (.int u1), (.int u2), (.int u3)] (.int (0 : Int32)) := f641.keep Kp665 (ninS ne_tb_inn nin0)
    have f668 : Exa Z T665.heap pl "com/example/subscriptor/subscriptor/Der" := f642.keep Kp665
    have f669 : kb549 ≤ T665.heap.size := Nat.le_trans f643 Kp665.1
    have f670 : Arv Z T665.heap pb ak498 .byte ll [] (.int (0 : Int32)) := f644.keep Kp665 (ninS ne_pb_inn nin0)
    have f671 : Fld Z T665.heap pl "com/example/subscriptor/subscriptor/Der" "what" "Ljava/lang/String;" (.ref s1) := f645.keep Kp665 (ninS ne_pl_inn nin0)
    have f672 : Fld Z T665.heap pl "com/example/subscriptor/subscriptor/Der" "bytes" "[B" (.ref pb) := f646.keep Kp665 (ninS ne_pl_inn nin0)
    have f673 : Fld Z T665.heap pl "com/example/subscriptor/subscriptor/Der" "position" "I" (.int (0 : Int32)) := f647.keep Kp665 (ninS ne_pl_inn nin0)
    have f674 : Fld Z T665.heap pl "com/example/subscriptor/subscriptor/Der" "end" "I" (.int ll) := f648.keep Kp665 (ninS ne_pl_inn nin0)
    have f675 : Exa Z T665.heap ou "com/example/subscriptor/subscriptor/Der" := f649.keep Kp665
    have f676 : Fld Z T665.heap ou "com/example/subscriptor/subscriptor/Der" "what" "Ljava/lang/String;" (.ref s2) := f650.keep Kp665 (ninS ne_ou_inn nin0)
    have f677 : Fld Z T665.heap ou "com/example/subscriptor/subscriptor/Der" "bytes" "[B" (.ref tb) := f651.keep Kp665 (ninS ne_ou_inn nin0)
    have f678 : Fld Z T665.heap ou "com/example/subscriptor/subscriptor/Der" "position" "I" (.int ((2 : Int32) + kk)) := f652.keep Kp665 (ninS ne_ou_inn nin0)
    have f679 : Fld Z T665.heap ou "com/example/subscriptor/subscriptor/Der" "end" "I" (.int N) := f653.keep Kp665 (ninS ne_ou_inn nin0)
    have f684 : Exa Z T665.heap inn "com/example/subscriptor/subscriptor/Der" := f658.keep Kp665
    have k685 : Kt p e below m (s₁.setTop (entryFrame m #[(.int p1), (.int p2), (.int p3), (.int p4), (.int p5)] maxLocals)) T665 241 #[.val (.int p1), .val (.int p2), .val (.int p3), .val (.int p4), .val (.int p5), .val (.int kk), .val (.int mm), .val (.int ll), .val (.int tg), .val (.int tk), .val (.ref tb), .val (.ref pl), .val (.int (1 : Int32)), .val (.ref ou), .val (.ref inn), .val (.ref ins)] [(.ref inn)] := by
      intro t ht
      refine k665 t ?_
      show Steps p.tables e below (T665.setTop (mkF m 232 #[.val (.int p1), .val (.int p2), .val (.int p3), .val (.int p4), .val (.int p5), .val (.int kk), .val (.int mm), .val (.int ll), .val (.int tg), .val (.int tk), .val (.ref tb), .val (.ref pl), .val (.int (1 : Int32)), .val (.ref ou), .val (.ref inn), .unset] [(.ref ins)])) t
      refine XS.astore X665.here hx rfl (hb hby at_232) rfl rfl (l' := #[.val (.int p1), .val (.int p2), .val (.int p3), .val (.int p4), .val (.int p5), .val (.int kk), .val (.int mm), .val (.int ll), .val (.int tg), .val (.int tk), .val (.ref tb), .val (.ref pl), .val (.int (1 : Int32)), .val (.ref ou), .val (.ref inn), .val (.ref ins)]) rfl ?_
      show Steps p.tables e below (T665.setTop (mkF m 234 #[.val (.int p1), .val (.int p2), .val (.int p3), .val (.int p4), .val (.int p5), .val (.int kk), .val (.int mm), .val (.int ll), .val (.int tg), .val (.int tk), .val (.ref tb), .val (.ref pl), .val (.int (1 : Int32)), .val (.ref ou), .val (.ref inn), .val (.ref ins)] [])) t
      refine XS.iload X665.here hx rfl (hb hby at_234) rfl ?_
      show Steps p.tables e below (T665.setTop (mkF m 236 #[.val (.int p1), .val (.int p2), .val (.int p3), .val (.int p4), .val (.int p5), .val (.int kk), .val (.int mm), .val (.int ll), .val (.int tg), .val (.int tk), .val (.ref tb), .val (.ref pl), .val (.int (1 : Int32)), .val (.ref ou), .val (.ref inn), .val (.ref ins)] [(.int (1 : Int32))])) t
      refine XS.ifNo X665.here hx rfl (hb hby at_236) rfl ((if0 _ _).trans (feq (by decide)).1) ?_
      show Steps p.tables e below (T665.setTop (mkF m 239 #[.val (.int p1), .val (.int p2), .val (.int p3), .val (.int p4), .val (.int p5), .val (.int kk), .val (.int mm), .val (.int ll), .val (.int tg), .val (.int tk), .val (.ref tb), .val (.ref pl), .val (.int (1 : Int32)), .val (.ref ou), .val (.ref inn), .val (.ref ins)] [])) t
      refine XS.aload X665.here hx rfl (hb hby at_239) rfl rfl ?_
      exact ht
    obtain ⟨cq686, kq686, q686a, q686b, q686c⟩ := isOf hZ549 rfl f684
    obtain ⟨_, _, ⟨T686, L686, c686, n686⟩, -, X686, ⟨Lc686, hQ686, l686, y686, z686⟩, st686⟩ := X665.virtualBack hx (y := (⟨"com/example/subscriptor/subscriptor/Der", "hasNext", "()Z"⟩ : MethodName)) (z := (⟨"com/example/subscriptor/subscriptor/Der", "hasNext", "()Z"⟩ : MethodName)) hown549 (mvT hZ549 (hw _ (List.mem_of_getElem? (i := 28) rfl))) (mvT hZ549 (hw _ (List.mem_of_getElem? (i := 29) rfl))) (notFace_of_selects (args := #[]) (mvT hZ549 (hw _ (List.mem_of_getElem? (i := 31) rfl)))) (mvT hZ549 (hw _ (List.mem_of_getElem? (i := 31) rfl))) (mvT hZ549 (hw _ (List.mem_of_getElem? (i := 30) rfl))) (by decide) (backOf (W := 0) (rm4 l Z a0 hw [] inn ((4 : Int32) + (kk - (2 : Int32))) ((2 : Int32) + kk) T665.heap n0 f666 Fc665 Fd665) hZ549 (hw _ (List.mem_of_getElem? (i := 32) rfl)) (hw _ (List.mem_of_getElem? (i := 3) rfl)) (by decide) (by decide)) q686a q686c (g := (mkF m 241 #[.val (.int p1), .val (.int p2), .val (.int p3), .val (.int p4), .val (.int p5), .val (.int kk), .val (.int mm), .val (.int ll), .val (.int tg), .val (.int tk), .val (.ref tb), .val (.ref pl), .val (.int (1 : Int32)), .val (.ref ou), .val (.ref inn), .val (.ref ins)] [(.ref inn)])) rfl (by rw [hml]; rfl) (Steps.refl _) (argsL := []) (rest := []) (lenOf pd_2 rfl) rfl (by show 2 * 0 + _ ≤ _; exact Nat.le_of_eq rfl) (hb hby at_241) (fun _ _ => ⟨rfl, rfl, (by decide : 10 + 0 ≤ _), (by decide : 43 + 0 ≤ _)⟩)
    dsimp only [Pt.U, Pt.locs, Pt.cells, Pt.slots] at X686 l686 y686 z686 st686 hQ686
    subst l686 y686 z686
    obtain ⟨rfl, Nq686, eq686⟩ := hQ686
    have N686 := Fr.app N665 Nq686
    have k686 : Kt p e below m (s₁.setTop (entryFrame m #[(.int p1), (.int p2), (.int p3), (.int p4), (.int p5)] maxLocals)) T686 244 #[.val (.int p1), .val (.int p2), .val (.int p3), .val (.int p4), .val (.int p5), .val (.int kk), .val (.int mm), .val (.int ll), .val (.int tg), .val (.int tk), .val (.ref tb), .val (.ref pl), .val (.int (1 : Int32)), .val (.ref ou), .val (.ref inn), .val (.ref ins)] [(.int (own_b (((4 : Int32) + (kk - (2 : Int32))) < ((2 : Int32) + kk))))] := fun t ht => k685 t (st686.trans ht)
    have f687 : n0 ≤ T686.heap.size := by rw [eq686]; exact f666
    have f688 : Arv Z T686.heap tb ak277 .byte N [(.int u0), (.int u1), (.int u2), (.int u3)] (.int (0 : Int32)) := by rw [eq686]; exact f667
    have f689 : Exa Z T686.heap pl "com/example/subscriptor/subscriptor/Der" := by rw [eq686]; exact f668
    have f690 : kb549 ≤ T686.heap.size := by rw [eq686]; exact f669
    have f691 : Arv Z T686.heap pb ak498 .byte ll [] (.int (0 : Int32)) := by rw [eq686]; exact f670
    have f692 : Fld Z T686.heap pl "com/example/subscriptor/subscriptor/Der" "what" "Ljava/lang/String;" (.ref s1) := by rw [eq686]; exact f671
    have f693 : Fld Z T686.heap pl "com/example/subscriptor/subscriptor/Der" "bytes" "[B" (.ref pb) := by rw [eq686]; exact f672
    have f694 : Fld Z T686.heap pl "com/example/subscriptor/subscriptor/Der" "position" "I" (.int (0 : Int32)) := by rw [eq686]; exact f673
    have f695 : Fld Z T686.heap pl "com/example/subscriptor/subscriptor/Der" "end" "I" (.int ll) := by rw [eq686]; exact f674
    have f696 : Exa Z T686.heap ou "com/example/subscriptor/subscriptor/Der" := by rw [eq686]; exact f675
    have f697 : Fld Z T686.heap ou "com/example/subscriptor/subscriptor/Der" "what" "Ljava/lang/String;" (.ref s2) := by rw [eq686]; exact f676
    have f698 : Fld Z T686.heap ou "com/example/subscriptor/subscriptor/Der" "bytes" "[B" (.ref tb) := by rw [eq686]; exact f677
    have f699 : Fld Z T686.heap ou "com/example/subscriptor/subscriptor/Der" "position" "I" (.int ((2 : Int32) + kk)) := by rw [eq686]; exact f678
    have f700 : Fld Z T686.heap ou "com/example/subscriptor/subscriptor/Der" "end" "I" (.int N) := by rw [eq686]; exact f679
    have f701 : Exa Z T686.heap inn "com/example/subscriptor/subscriptor/Der" := by rw [eq686]; exact f684
    have f702 : Fld Z T686.heap inn "com/example/subscriptor/subscriptor/Der" "what" "Ljava/lang/String;" (.ref s2) := by rw [eq686]; exact Fa665
    have f703 : Fld Z T686.heap inn "com/example/subscriptor/subscriptor/Der" "bytes" "[B" (.ref tb) := by rw [eq686]; exact Fb665
    have f704 : Fld Z T686.heap inn "com/example/subscriptor/subscriptor/Der" "position" "I" (.int ((4 : Int32) + (kk - (2 : Int32)))) := by rw [eq686]; exact Fc665
    have f705 : Fld Z T686.heap inn "com/example/subscriptor/subscriptor/Der" "end" "I" (.int ((2 : Int32) + kk)) := by rw [eq686]; exact Fd665
    have f706 : Fld Z T686.heap ins "com/example/subscriptor/subscriptor/Der" "what" "Ljava/lang/String;" (.ref s2) := by rw [eq686]; exact Ga665
    have f707 : Fld Z T686.heap ins "com/example/subscriptor/subscriptor/Der" "bytes" "[B" (.ref tb) := by rw [eq686]; exact Gb665
    have f708 : Fld Z T686.heap ins "com/example/subscriptor/subscriptor/Der" "position" "I" (.int (4 : Int32)) := by rw [eq686]; exact Gc665
    have f709 : Fld Z T686.heap ins "com/example/subscriptor/subscriptor/Der" "end" "I" (.int ((4 : Int32) + (kk - (2 : Int32)))) := by rw [eq686]; exact Gd665
    have f710 : Exa Z T686.heap ins "com/example/subscriptor/subscriptor/Der" := by rw [eq686]; exact Er665
    have k711 : Kt p e below m (s₁.setTop (entryFrame m #[(.int p1), (.int p2), (.int p3), (.int p4), (.int p5)] maxLocals)) T686 261 #[.val (.int p1), .val (.int p2), .val (.int p3), .val (.int p4), .val (.int p5), .val (.int kk), .val (.int mm), .val (.int ll), .val (.int tg), .val (.int tk), .val (.ref tb), .val (.ref pl), .val (.int (1 : Int32)), .val (.ref ou), .val (.ref inn), .val (.ref ins)] [(.ref ins)] := by
      intro t ht
      refine k686 t ?_
      show Steps p.tables e below (T686.setTop (mkF m 244 #[.val (.int p1), .val (.int p2), .val (.int p3), .val (.int p4), .val (.int p5), .val (.int kk), .val (.int mm), .val (.int ll), .val (.int tg), .val (.int tk), .val (.ref tb), .val (.ref pl), .val (.int (1 : Int32)), .val (.ref ou), .val (.ref inn), .val (.ref ins)] [(.int (own_b (((4 : Int32) + (kk - (2 : Int32))) < ((2 : Int32) + kk))))])) t
      refine XS.ifNo X686.here hx rfl (hb hby at_244) rfl ((if0 _ _).trans (teq (own_bz (by rw [own_lt]; omega))).2) ?_
      show Steps p.tables e below (T686.setTop (mkF m 247 #[.val (.int p1), .val (.int p2), .val (.int p3), .val (.int p4), .val (.int p5), .val (.int kk), .val (.int mm), .val (.int ll), .val (.int tg), .val (.int tk), .val (.ref tb), .val (.ref pl), .val (.int (1 : Int32)), .val (.ref ou), .val (.ref inn), .val (.ref ins)] [])) t
      refine XS.iconst X686.here hx rfl (hb hby at_247) ?_
      show Steps p.tables e below (T686.setTop (mkF m 248 #[.val (.int p1), .val (.int p2), .val (.int p3), .val (.int p4), .val (.int p5), .val (.int kk), .val (.int mm), .val (.int ll), .val (.int tg), .val (.int tk), .val (.ref tb), .val (.ref pl), .val (.int (1 : Int32)), .val (.ref ou), .val (.ref inn), .val (.ref ins)] [(.int (1 : Int32))])) t
      refine XS.goto X686.here hx rfl (pc0 := 248) (pc' := 252) rfl (hb hby at_248) (by decide) (by decide) ?_
      show Steps p.tables e below (T686.setTop (mkF m 252 #[.val (.int p1), .val (.int p2), .val (.int p3), .val (.int p4), .val (.int p5), .val (.int kk), .val (.int mm), .val (.int ll), .val (.int tg), .val (.int tk), .val (.ref tb), .val (.ref pl), .val (.int (1 : Int32)), .val (.ref ou), .val (.ref inn), .val (.ref ins)] [(.int (1 : Int32))])) t
      refine XS.istore X686.here hx rfl (hb hby at_252) rfl (l' := #[.val (.int p1), .val (.int p2), .val (.int p3), .val (.int p4), .val (.int p5), .val (.int kk), .val (.int mm), .val (.int ll), .val (.int tg), .val (.int tk), .val (.ref tb), .val (.ref pl), .val (.int (1 : Int32)), .val (.ref ou), .val (.ref inn), .val (.ref ins)]) rfl ?_
      show Steps p.tables e below (T686.setTop (mkF m 254 #[.val (.int p1), .val (.int p2), .val (.int p3), .val (.int p4), .val (.int p5), .val (.int kk), .val (.int mm), .val (.int ll), .val (.int tg), .val (.int tk), .val (.ref tb), .val (.ref pl), .val (.int (1 : Int32)), .val (.ref ou), .val (.ref inn), .val (.ref ins)] [])) t
      refine XS.iload X686.here hx rfl (hb hby at_254) rfl ?_
      show Steps p.tables e below (T686.setTop (mkF m 256 #[.val (.int p1), .val (.int p2), .val (.int p3), .val (.int p4), .val (.int p5), .val (.int kk), .val (.int mm), .val (.int ll), .val (.int tg), .val (.int tk), .val (.ref tb), .val (.ref pl), .val (.int (1 : Int32)), .val (.ref ou), .val (.ref inn), .val (.ref ins)] [(.int (1 : Int32))])) t
      refine XS.ifNo X686.here hx rfl (hb hby at_256) rfl ((if0 _ _).trans (feq (by decide)).1) ?_
      show Steps p.tables e below (T686.setTop (mkF m 259 #[.val (.int p1), .val (.int p2), .val (.int p3), .val (.int p4), .val (.int p5), .val (.int kk), .val (.int mm), .val (.int ll), .val (.int tg), .val (.int tk), .val (.ref tb), .val (.ref pl), .val (.int (1 : Int32)), .val (.ref ou), .val (.ref inn), .val (.ref ins)] [])) t
      refine XS.aload X686.here hx rfl (hb hby at_259) rfl rfl ?_
      exact ht
    obtain ⟨cq712, kq712, q712a, q712b, q712c⟩ := isOf hZ549 rfl f710
    obtain ⟨_, _, ⟨T712, L712, c712, n712⟩, -, X712, ⟨Lc712, hQ712, l712, y712, z712⟩, st712⟩ := X686.virtualBack hx (y := (⟨"com/example/subscriptor/subscriptor/Der", "hasNext", "()Z"⟩ : MethodName)) (z := (⟨"com/example/subscriptor/subscriptor/Der", "hasNext", "()Z"⟩ : MethodName)) hown549 (mvT hZ549 (hw _ (List.mem_of_getElem? (i := 28) rfl))) (mvT hZ549 (hw _ (List.mem_of_getElem? (i := 29) rfl))) (notFace_of_selects (args := #[]) (mvT hZ549 (hw _ (List.mem_of_getElem? (i := 31) rfl)))) (mvT hZ549 (hw _ (List.mem_of_getElem? (i := 31) rfl))) (mvT hZ549 (hw _ (List.mem_of_getElem? (i := 30) rfl))) (by decide) (backOf (W := 0) (rm4 l Z a0 hw [] ins (4 : Int32) ((4 : Int32) + (kk - (2 : Int32))) T686.heap n0 f687 f708 f709) hZ549 (hw _ (List.mem_of_getElem? (i := 32) rfl)) (hw _ (List.mem_of_getElem? (i := 3) rfl)) (by decide) (by decide)) q712a q712c (g := (mkF m 261 #[.val (.int p1), .val (.int p2), .val (.int p3), .val (.int p4), .val (.int p5), .val (.int kk), .val (.int mm), .val (.int ll), .val (.int tg), .val (.int tk), .val (.ref tb), .val (.ref pl), .val (.int (1 : Int32)), .val (.ref ou), .val (.ref inn), .val (.ref ins)] [(.ref ins)])) rfl (by rw [hml]; rfl) (Steps.refl _) (argsL := []) (rest := []) (lenOf pd_2 rfl) rfl (by show 2 * 0 + _ ≤ _; exact Nat.le_of_eq rfl) (hb hby at_261) (fun _ _ => ⟨rfl, rfl, (by decide : 10 + 0 ≤ _), (by decide : 43 + 0 ≤ _)⟩)
    dsimp only [Pt.U, Pt.locs, Pt.cells, Pt.slots] at X712 l712 y712 z712 st712 hQ712
    subst l712 y712 z712
    obtain ⟨rfl, Nq712, eq712⟩ := hQ712
    have N712 := Fr.app N686 Nq712
    have k712 : Kt p e below m (s₁.setTop (entryFrame m #[(.int p1), (.int p2), (.int p3), (.int p4), (.int p5)] maxLocals)) T712 264 #[.val (.int p1), .val (.int p2), .val (.int p3), .val (.int p4), .val (.int p5), .val (.int kk), .val (.int mm), .val (.int ll), .val (.int tg), .val (.int tk), .val (.ref tb), .val (.ref pl), .val (.int (1 : Int32)), .val (.ref ou), .val (.ref inn), .val (.ref ins)] [(.int (own_b ((4 : Int32) < ((4 : Int32) + (kk - (2 : Int32))))))] := fun t ht => k711 t (st712.trans ht)
    have f713 : n0 ≤ T712.heap.size := by rw [eq712]; exact f687
    have f714 : Arv Z T712.heap tb ak277 .byte N [(.int u0), (.int u1), (.int u2), (.int u3)] (.int (0 : Int32)) := by rw [eq712]; exact f688
    have f715 : Exa Z T712.heap pl "com/example/subscriptor/subscriptor/Der" := by rw [eq712]; exact f689
    have f716 : kb549 ≤ T712.heap.size := by rw [eq712]; exact f690
    have f717 : Arv Z T712.heap pb ak498 .byte ll [] (.int (0 : Int32)) := by rw [eq712]; exact f691
    have f718 : Fld Z T712.heap pl "com/example/subscriptor/subscriptor/Der" "what" "Ljava/lang/String;" (.ref s1) := by rw [eq712]; exact f692
    have f719 : Fld Z T712.heap pl "com/example/subscriptor/subscriptor/Der" "bytes" "[B" (.ref pb) := by rw [eq712]; exact f693
    have f720 : Fld Z T712.heap pl "com/example/subscriptor/subscriptor/Der" "position" "I" (.int (0 : Int32)) := by rw [eq712]; exact f694
    have f721 : Fld Z T712.heap pl "com/example/subscriptor/subscriptor/Der" "end" "I" (.int ll) := by rw [eq712]; exact f695
    have f722 : Exa Z T712.heap ou "com/example/subscriptor/subscriptor/Der" := by rw [eq712]; exact f696
    have f723 : Fld Z T712.heap ou "com/example/subscriptor/subscriptor/Der" "what" "Ljava/lang/String;" (.ref s2) := by rw [eq712]; exact f697
    have f724 : Fld Z T712.heap ou "com/example/subscriptor/subscriptor/Der" "bytes" "[B" (.ref tb) := by rw [eq712]; exact f698
    have f725 : Fld Z T712.heap ou "com/example/subscriptor/subscriptor/Der" "position" "I" (.int ((2 : Int32) + kk)) := by rw [eq712]; exact f699
    have f726 : Fld Z T712.heap ou "com/example/subscriptor/subscriptor/Der" "end" "I" (.int N) := by rw [eq712]; exact f700
    have f727 : Exa Z T712.heap inn "com/example/subscriptor/subscriptor/Der" := by rw [eq712]; exact f701
    have f728 : Fld Z T712.heap inn "com/example/subscriptor/subscriptor/Der" "what" "Ljava/lang/String;" (.ref s2) := by rw [eq712]; exact f702
    have f729 : Fld Z T712.heap inn "com/example/subscriptor/subscriptor/Der" "bytes" "[B" (.ref tb) := by rw [eq712]; exact f703
    have f730 : Fld Z T712.heap inn "com/example/subscriptor/subscriptor/Der" "position" "I" (.int ((4 : Int32) + (kk - (2 : Int32)))) := by rw [eq712]; exact f704
    have f731 : Fld Z T712.heap inn "com/example/subscriptor/subscriptor/Der" "end" "I" (.int ((2 : Int32) + kk)) := by rw [eq712]; exact f705
    have f732 : Fld Z T712.heap ins "com/example/subscriptor/subscriptor/Der" "what" "Ljava/lang/String;" (.ref s2) := by rw [eq712]; exact f706
    have f733 : Fld Z T712.heap ins "com/example/subscriptor/subscriptor/Der" "bytes" "[B" (.ref tb) := by rw [eq712]; exact f707
    have f734 : Fld Z T712.heap ins "com/example/subscriptor/subscriptor/Der" "position" "I" (.int (4 : Int32)) := by rw [eq712]; exact f708
    have f735 : Fld Z T712.heap ins "com/example/subscriptor/subscriptor/Der" "end" "I" (.int ((4 : Int32) + (kk - (2 : Int32)))) := by rw [eq712]; exact f709
    have f736 : Exa Z T712.heap ins "com/example/subscriptor/subscriptor/Der" := by rw [eq712]; exact f710
    have k737 : Kt p e below m (s₁.setTop (entryFrame m #[(.int p1), (.int p2), (.int p3), (.int p4), (.int p5)] maxLocals)) T712 267 #[.val (.int p1), .val (.int p2), .val (.int p3), .val (.int p4), .val (.int p5), .val (.int kk), .val (.int mm), .val (.int ll), .val (.int tg), .val (.int tk), .val (.ref tb), .val (.ref pl), .val (.int (1 : Int32)), .val (.ref ou), .val (.ref inn), .val (.ref ins)] [(.int (3 : Int32)), (.int kk), (.int (own_b ((4 : Int32) < ((4 : Int32) + (kk - (2 : Int32))))))] := by
      intro t ht
      refine k712 t ?_
      show Steps p.tables e below (T712.setTop (mkF m 264 #[.val (.int p1), .val (.int p2), .val (.int p3), .val (.int p4), .val (.int p5), .val (.int kk), .val (.int mm), .val (.int ll), .val (.int tg), .val (.int tk), .val (.ref tb), .val (.ref pl), .val (.int (1 : Int32)), .val (.ref ou), .val (.ref inn), .val (.ref ins)] [(.int (own_b ((4 : Int32) < ((4 : Int32) + (kk - (2 : Int32))))))])) t
      refine XS.iload X712.here hx rfl (hb hby at_264) rfl ?_
      show Steps p.tables e below (T712.setTop (mkF m 266 #[.val (.int p1), .val (.int p2), .val (.int p3), .val (.int p4), .val (.int p5), .val (.int kk), .val (.int mm), .val (.int ll), .val (.int tg), .val (.int tk), .val (.ref tb), .val (.ref pl), .val (.int (1 : Int32)), .val (.ref ou), .val (.ref inn), .val (.ref ins)] [(.int kk), (.int (own_b ((4 : Int32) < ((4 : Int32) + (kk - (2 : Int32))))))])) t
      refine XS.iconst X712.here hx rfl (hb hby at_266) ?_
      exact ht
    obtain ⟨z4, hp738, k738⟩ : ∃ z4 : Int32, (z4 = own_b (kk = (3 : Int32))) ∧ Kt p e below m (s₁.setTop (entryFrame m #[(.int p1), (.int p2), (.int p3), (.int p4), (.int p5)] maxLocals)) T712 275 #[.val (.int p1), .val (.int p2), .val (.int p3), .val (.int p4), .val (.int p5), .val (.int kk), .val (.int mm), .val (.int ll), .val (.int tg), .val (.int tk), .val (.ref tb), .val (.ref pl), .val (.int (1 : Int32)), .val (.ref ou), .val (.ref inn), .val (.ref ins)] [(.int z4), (.int (own_b ((4 : Int32) < ((4 : Int32) + (kk - (2 : Int32))))))] := by
      by_cases hj739 : kk = (3 : Int32)
      · have k740 : Kt p e below m (s₁.setTop (entryFrame m #[(.int p1), (.int p2), (.int p3), (.int p4), (.int p5)] maxLocals)) T712 275 #[.val (.int p1), .val (.int p2), .val (.int p3), .val (.int p4), .val (.int p5), .val (.int kk), .val (.int mm), .val (.int ll), .val (.int tg), .val (.int tk), .val (.ref tb), .val (.ref pl), .val (.int (1 : Int32)), .val (.ref ou), .val (.ref inn), .val (.ref ins)] [(.int (1 : Int32)), (.int (own_b ((4 : Int32) < ((4 : Int32) + (kk - (2 : Int32))))))] := by
          intro t ht
          refine k737 t ?_
          show Steps p.tables e below (T712.setTop (mkF m 267 #[.val (.int p1), .val (.int p2), .val (.int p3), .val (.int p4), .val (.int p5), .val (.int kk), .val (.int mm), .val (.int ll), .val (.int tg), .val (.int tk), .val (.ref tb), .val (.ref pl), .val (.int (1 : Int32)), .val (.ref ou), .val (.ref inn), .val (.ref ins)] [(.int (3 : Int32)), (.int kk), (.int (own_b ((4 : Int32) < ((4 : Int32) + (kk - (2 : Int32))))))])) t
          refine XS.icmpNo X712.here hx rfl (hb hby at_267) rfl (teq hj739).2 ?_
          show Steps p.tables e below (T712.setTop (mkF m 270 #[.val (.int p1), .val (.int p2), .val (.int p3), .val (.int p4), .val (.int p5), .val (.int kk), .val (.int mm), .val (.int ll), .val (.int tg), .val (.int tk), .val (.ref tb), .val (.ref pl), .val (.int (1 : Int32)), .val (.ref ou), .val (.ref inn), .val (.ref ins)] [(.int (own_b ((4 : Int32) < ((4 : Int32) + (kk - (2 : Int32))))))])) t
          refine XS.iconst X712.here hx rfl (hb hby at_270) ?_
          show Steps p.tables e below (T712.setTop (mkF m 271 #[.val (.int p1), .val (.int p2), .val (.int p3), .val (.int p4), .val (.int p5), .val (.int kk), .val (.int mm), .val (.int ll), .val (.int tg), .val (.int tk), .val (.ref tb), .val (.ref pl), .val (.int (1 : Int32)), .val (.ref ou), .val (.ref inn), .val (.ref ins)] [(.int (1 : Int32)), (.int (own_b ((4 : Int32) < ((4 : Int32) + (kk - (2 : Int32))))))])) t
          refine XS.goto X712.here hx rfl (pc0 := 271) (pc' := 275) rfl (hb hby at_271) (by decide) (by decide) ?_
          exact ht
        exact ⟨(1 : Int32), (by unfold own_b; simp [hj739]), k740⟩
      · have k741 : Kt p e below m (s₁.setTop (entryFrame m #[(.int p1), (.int p2), (.int p3), (.int p4), (.int p5)] maxLocals)) T712 275 #[.val (.int p1), .val (.int p2), .val (.int p3), .val (.int p4), .val (.int p5), .val (.int kk), .val (.int mm), .val (.int ll), .val (.int tg), .val (.int tk), .val (.ref tb), .val (.ref pl), .val (.int (1 : Int32)), .val (.ref ou), .val (.ref inn), .val (.ref ins)] [(.int (0 : Int32)), (.int (own_b ((4 : Int32) < ((4 : Int32) + (kk - (2 : Int32))))))] := by
          intro t ht
          refine k737 t ?_
          show Steps p.tables e below (T712.setTop (mkF m 267 #[.val (.int p1), .val (.int p2), .val (.int p3), .val (.int p4), .val (.int p5), .val (.int kk), .val (.int mm), .val (.int ll), .val (.int tg), .val (.int tk), .val (.ref tb), .val (.ref pl), .val (.int (1 : Int32)), .val (.ref ou), .val (.ref inn), .val (.ref ins)] [(.int (3 : Int32)), (.int kk), (.int (own_b ((4 : Int32) < ((4 : Int32) + (kk - (2 : Int32))))))])) t
          refine XS.icmpYes X712.here hx rfl (pc0 := 267) (pc' := 274) rfl (hb hby at_267) rfl (feq hj739).2 (by decide) (by decide) ?_
          show Steps p.tables e below (T712.setTop (mkF m 274 #[.val (.int p1), .val (.int p2), .val (.int p3), .val (.int p4), .val (.int p5), .val (.int kk), .val (.int mm), .val (.int ll), .val (.int tg), .val (.int tk), .val (.ref tb), .val (.ref pl), .val (.int (1 : Int32)), .val (.ref ou), .val (.ref inn), .val (.ref ins)] [(.int (own_b ((4 : Int32) < ((4 : Int32) + (kk - (2 : Int32))))))])) t
          refine XS.iconst X712.here hx rfl (hb hby at_274) ?_
          exact ht
        exact ⟨(0 : Int32), (by unfold own_b; simp [hj739]), k741⟩
    have k742 : Kt p e below m (s₁.setTop (entryFrame m #[(.int p1), (.int p2), (.int p3), (.int p4), (.int p5)] maxLocals)) T712 287 #[.val (.int p1), .val (.int p2), .val (.int p3), .val (.int p4), .val (.int p5), .val (.int kk), .val (.int mm), .val (.int ll), .val (.int tg), .val (.int tk), .val (.ref tb), .val (.ref pl), .val (.int (1 : Int32)), .val (.ref ou), .val (.ref inn), .val (.ref ins)] [(.int (1 : Int32))] := by
      intro t ht
      refine k738 t ?_
      show Steps p.tables e below (T712.setTop (mkF m 275 #[.val (.int p1), .val (.int p2), .val (.int p3), .val (.int p4), .val (.int p5), .val (.int kk), .val (.int mm), .val (.int ll), .val (.int tg), .val (.int tk), .val (.ref tb), .val (.ref pl), .val (.int (1 : Int32)), .val (.ref ou), .val (.ref inn), .val (.ref ins)] [(.int z4), (.int (own_b ((4 : Int32) < ((4 : Int32) + (kk - (2 : Int32))))))])) t
      refine XS.icmpNo X712.here hx rfl (hb hby at_275) rfl (teq ((own_bn (by rw [own_lt, ← Int32.toInt_inj, own_3, own_4]; omega)).trans hp738.symm)).2 ?_
      show Steps p.tables e below (T712.setTop (mkF m 278 #[.val (.int p1), .val (.int p2), .val (.int p3), .val (.int p4), .val (.int p5), .val (.int kk), .val (.int mm), .val (.int ll), .val (.int tg), .val (.int tk), .val (.ref tb), .val (.ref pl), .val (.int (1 : Int32)), .val (.ref ou), .val (.ref inn), .val (.ref ins)] [])) t
      refine XS.iconst X712.here hx rfl (hb hby at_278) ?_
      show Steps p.tables e below (T712.setTop (mkF m 279 #[.val (.int p1), .val (.int p2), .val (.int p3), .val (.int p4), .val (.int p5), .val (.int kk), .val (.int mm), .val (.int ll), .val (.int tg), .val (.int tk), .val (.ref tb), .val (.ref pl), .val (.int (1 : Int32)), .val (.ref ou), .val (.ref inn), .val (.ref ins)] [(.int (1 : Int32))])) t
      refine XS.goto X712.here hx rfl (pc0 := 279) (pc' := 283) rfl (hb hby at_279) (by decide) (by decide) ?_
      show Steps p.tables e below (T712.setTop (mkF m 283 #[.val (.int p1), .val (.int p2), .val (.int p3), .val (.int p4), .val (.int p5), .val (.int kk), .val (.int mm), .val (.int ll), .val (.int tg), .val (.int tk), .val (.ref tb), .val (.ref pl), .val (.int (1 : Int32)), .val (.ref ou), .val (.ref inn), .val (.ref ins)] [(.int (1 : Int32))])) t
      refine XS.istore X712.here hx rfl (hb hby at_283) rfl (l' := #[.val (.int p1), .val (.int p2), .val (.int p3), .val (.int p4), .val (.int p5), .val (.int kk), .val (.int mm), .val (.int ll), .val (.int tg), .val (.int tk), .val (.ref tb), .val (.ref pl), .val (.int (1 : Int32)), .val (.ref ou), .val (.ref inn), .val (.ref ins)]) rfl ?_
      show Steps p.tables e below (T712.setTop (mkF m 285 #[.val (.int p1), .val (.int p2), .val (.int p3), .val (.int p4), .val (.int p5), .val (.int kk), .val (.int mm), .val (.int ll), .val (.int tg), .val (.int tk), .val (.ref tb), .val (.ref pl), .val (.int (1 : Int32)), .val (.ref ou), .val (.ref inn), .val (.ref ins)] [])) t
      refine XS.iload X712.here hx rfl (hb hby at_285) rfl ?_
      exact ht
    obtain ⟨fs, hr, hrun, hended, -, hW, hbk, hsame⟩ := Stand.leaveW (s := s) (vm₁ := T549.vm) X712 (hS549) (by exact f716) (v := some (.int (1 : Int32))) (fun h => by rw [Bd.returns] at h; cases h)
    refine ⟨_, _, k742 _ ?_, hrun, hended, _, _, rfl, ?_, ⟨_, rfl⟩, hW, hbk, hsame.mono (by decide) (by decide)⟩
    · exact retN X712 hx (t := .boolean) Bd.returns (by simp) (hb hby at_287) hr
    · show Q0 Z p1 p2 p3 p4 p5 h0 n0 _ T712.heap _
      exact ⟨rfl, N712⟩
set_option maxRecDepth 65536 in
set_option maxHeartbeats 40000000 in
theorem comes_1 {Post : Tables → Env → Array Value → State → Outcome → State → Prop} (hpost : ∀ tb e args s v u, (limb_1_1.after args s (.returned v) u = true ∧ limb_1_2.after args s (.returned v) u = true ∧ True) → ReturnedEndW s (.returned v) u (Jvm.fieldLocs frame_1_writes args s ++ Jvm.arrayLocs frame_1_arrays args s ++ Jvm.staticLocs frame_1_statics s) 24 1152 → Post tb e args s (.returned v) u) :
    ArmFor flags0 classFile x code maxLocals ret World_1 tables_1 room_1 Calls_1 rest_1 Pre_1 Post := by
  intro l hfl _ _ p e ha hc hk s m args below hf hA hF happ hP
  obtain ⟨hcalls, hrest, hpre⟩ := hP
  obtain ⟨-, -, -, hnamed, -, -, -, hat⟩ := (Spec.applies_iff hf).mp happ
  obtain ⟨hg, hn⟩ := and_e (Cond.before_iff.mp (show (Jvm.Cond.and given_1 narrow_1).before args s = true from hpre))
  obtain ⟨hcount, g0⟩ := and_e hg
  obtain ⟨ga0, g1⟩ := and_e g0
  obtain ⟨ga1, g2⟩ := and_e g1
  obtain ⟨ga2, g3⟩ := and_e g2
  obtain ⟨ga3, g4⟩ := and_e g3
  obtain ⟨w0, w1, w2, w3, w4, rfl⟩ : ∃ w0 w1 w2 w3 w4 : Value, args = #[w0, w1, w2, w3, w4] := by
    have hs : args.size = 5 := by simpa [Cond.value, given_1] using hcount
    obtain ⟨L⟩ := args
    match L, hs with
    | [w0, w1, w2, w3, w4], _ => exact ⟨w0, w1, w2, w3, w4, rfl⟩
  have hw := fun d (hd : d ∈ tables_1) => atoms_spec (ws := Jvm.Cond.code x code maxLocals ret :: tables_1) hat d (List.mem_cons_of_mem _ hd)
  have hfit : Fit s := fun {y c} hc i hi => by
    obtain ⟨ha, rfl⟩ := Array.getElem?_eq_some_iff.mp hc
    have q := List.all_eq_true.mp ((Array.all_eq_true_iff_forall_mem.mp hF) _ (Array.getElem_mem ha)) i (List.mem_range.mpr hi)
    simpa [Array.getElem?_eq_getElem hi] using q
  obtain ⟨i0, ei0⟩ := is_v ga0
  obtain rfl : w0 = (.int i0) := Option.some.inj ei0
  obtain ⟨i1, ei1⟩ := is_v ga1
  obtain rfl : w1 = (.int i1) := Option.some.inj ei1
  obtain ⟨i2, ei2⟩ := is_v ga2
  obtain rfl : w2 = (.int i2) := Option.some.inj ei2
  obtain ⟨i3, ei3⟩ := is_v ga3
  obtain rfl : w3 = (.int i3) := Option.some.inj ei3
  obtain ⟨i4, ei4⟩ := is_v g4
  obtain rfl : w4 = (.int i4) := Option.some.inj ei4
  obtain ⟨n, o, h1, h2, h3, _, L, rfl, ⟨rfl, N⟩, hq⟩ := rm0 l s _ hw tables_1 i0 i1 i2 i3 i4 s.heap s.heap.size (Nat.le_refl _) p e ha hc hk s m _ below hf ((Spec.applies_iff_loose hf).mp happ).1 ⟨rfl, State.Warmed39.refl s, rfl⟩ trivial
  refine ⟨n, _, h1, h2, h3, hpost _ _ _ _ _ _ ⟨Cond.after_iff.mpr rfl, Cond.after_iff.mpr (eq_i res_at (Term.int_eval (1)) rfl), trivial⟩ ⟨hq.1, hq.2.1, hq.2.2.1, (hq.2.2.2.sift fun y hy => Or.inr (N y hy)).mono (by decide) (by decide)⟩⟩
theorem main_1_1 : Claimed_1_1 := comes_1 fun _ _ _ _ _ _ h hF => ⟨h.1, hF⟩
theorem main_1_2 : Claimed_1_2 := comes_1 fun _ _ _ _ _ _ h hF => ⟨h.2.1, hF⟩
end Jvm.Pilot.@@N@@
namespace Jvm.Pilot.@@N@@
open Jvm Jvm.ClassFile Sem Op Lib Jvm.Free Jvm.Stand Jvm.Pilot.@@N@@.Jvm.D
/-! MADE BY PROGRAM (witnessworld.py) out of the Statement's table words and the real class files: 14 classes; the members and pool entries that the words name. The judged class is class 1, her method 1. -/
namespace start1
open Jvm.ClassFile
def u (s : String) : CpInfo := .utf8 (stringToUtf16 s)
/-- a pool by its gaps: so many unusable entries, then the entry; so many at the end -/
def gap : Nat → List CpInfo → List CpInfo
  | 0, r => r
  | n + 1, r => .unusable :: gap n r
def poolList (es : List (Nat × CpInfo)) (last : Nat) : List CpInfo := es.foldr (fun e r => gap e.1 (e.2 :: r)) (gap last [])
def pool (es : List (Nat × CpInfo)) (last : Nat) : Array CpInfo := ⟨poolList es last⟩
def fileOf (pool : Array CpInfo) (this : Nat) (attrs : Array Attribute := #[]) (ms : Array MethodInfo := #[]) (fl : Nat := 33) (sup : Nat := 0) (ifs : Array Nat := #[]) (fds : Array FieldInfo := #[]) : ClassFile where
  minorVersion := 0
  majorVersion := 65
  constantPool := pool
  accessFlags := fl
  thisClass := this
  superClass := sup
  interfaces := ifs
  fields := fds
  methods := ms
  attributes := attrs
def plain (name : String) (sup : Option ClassId) : Class where
  name := name
  kind := .ordinary
  loader := none
  accessFlags := 33
  super := sup
  interfaces := #[]
  cf := none
  fields := #[]
  methods := #[]
  instanceTypes := #[]
  staticTypes := #[]
  resolved := #[]
  callSites := []
  init := .initialized
  statics := none
  mirror := none

def pool0 : Array CpInfo := pool [(5, u "<init>"), (0, u "()V"), (1, .class_ 10), (1, u "java/lang/Object")] 113

def k0c0 : Code := { maxStack := 0, maxLocals := 1, code := object_method_1_code, exceptionTable := #[], attributes := #[] }
def k0m0 : Method := { name := "<init>", desc := "()V", sig := { parameters := [], returnType := none }, accessFlags := 1, code := some k0c0 }
/-- java/lang/Object -/
def k0 : Class := { plain "java/lang/Object" none with
  accessFlags := 33
  interfaces := #[]
  cf := some (fileOf pool0 8 #[] #[{ accessFlags := 1, nameIndex := 5, descriptorIndex := 6, attributes := #[] }] 33 0 #[] #[])
  fields := #[]
  methods := #[k0m0]
  instanceTypes := #[]
  staticTypes := #[]
  resolved := Array.replicate 124 none
  statics := none }

def pool1 : Array CpInfo := pool [(2, .class_ 4), (1, u "java/lang/Object"), (0, u "<init>"), (0, u "()V"), (0, .class_ 8), (0, u "com/example/subscriptor/subscriptor/Der"), (0, .string 10), (0, u "x"), (0, .methodref 7 12), (0, .nameAndType 5 13), (0, u "(Ljava/lang/String;[B)V"), (0, .methodref 7 15), (0, .nameAndType 16 17), (0, u "hasNext"), (0, u "()Z"), (0, .methodref 7 19), (0, .nameAndType 20 21), (0, u "read"), (0, u "(I)Lcom/example/subscriptor/subscriptor/Der;"), (0, .class_ 23), (0, u "com/example/subscriptor/subscriptor/DerHasNextPinLaw"), (2, u "law"), (0, u "(IIIII)Z")] 8

def k1m0 : Method := { name := "<init>", desc := "()V", sig := { parameters := [], returnType := none }, accessFlags := 1, code := none }
def k1c1 : Code := { maxStack := 4, maxLocals := 16, code := code, exceptionTable := #[], attributes := #[] }
def k1m1 : Method := { name := "law", desc := "(IIIII)Z", sig := { parameters := [.int, .int, .int, .int, .int], returnType := some .boolean }, accessFlags := 9, code := some k1c1 }
/-- com/example/subscriptor/subscriptor/DerHasNextPinLaw -/
def k1 : Class := { plain "com/example/subscriptor/subscriptor/DerHasNextPinLaw" (some 0) with
  accessFlags := 49
  interfaces := #[]
  cf := some (fileOf pool1 22 #[] #[{ accessFlags := 1, nameIndex := 5, descriptorIndex := 6, attributes := #[] }, { accessFlags := 9, nameIndex := 26, descriptorIndex := 27, attributes := #[] }] 49 2 #[] #[])
  fields := #[]
  methods := #[k1m0, k1m1]
  instanceTypes := #[]
  staticTypes := #[]
  resolved := Array.replicate 36 none
  statics := none }

def pool2 : Array CpInfo := pool [(1, .methodref 2 3), (0, .class_ 4), (0, .nameAndType 5 6), (0, u "com/example/subscriptor/subscriptor/Der"), (0, u "<init>"), (0, u "(Ljava/lang/String;[BII)V"), (0, .methodref 8 9), (0, .class_ 10), (0, .nameAndType 5 11), (0, u "java/lang/Object"), (0, u "()V"), (0, .fieldref 2 13), (0, .nameAndType 14 15), (0, u "what"), (0, u "Ljava/lang/String;"), (0, .fieldref 2 17), (0, .nameAndType 18 19), (0, u "bytes"), (0, u "[B"), (0, .fieldref 2 21), (0, .nameAndType 22 23), (0, u "position"), (0, u "I"), (0, .fieldref 2 25), (0, .nameAndType 26 23), (0, u "end"), (0, .methodref 2 28), (0, .nameAndType 29 30), (0, u "hasNext"), (0, u "()Z"), (6, .methodref 2 38), (0, .nameAndType 39 40), (0, u "header"), (0, u "(I)I"), (41, u "()I"), (44, .class_ 128), (0, u "com/example/subscriptor/subscriptor/Der$MalformedException"), (7, .methodref 2 137), (0, .nameAndType 138 82), (0, u "nextTag"), (13, .long 127), (5, u "INTEGER"), (2, u "OCTET_STRING"), (1, u "OBJECT_IDENTIFIER"), (1, u "SEQUENCE"), (1, u "SET"), (1, u "LENGTH_OCTETS"), (0, u "(Ljava/lang/String;[B)V"), (4, u "read"), (0, u "(I)Lcom/example/subscriptor/subscriptor/Der;")] 25

def k2c0 : Code := { maxStack := 5, maxLocals := 3, code := prog_16_method_1_code, exceptionTable := #[], attributes := #[] }
def k2m0 : Method := { name := "<init>", desc := "(Ljava/lang/String;[B)V", sig := { parameters := [(.object "java/lang/String"), (.array .byte)], returnType := none }, accessFlags := 0, code := some k2c0 }
def k2c1 : Code := { maxStack := 2, maxLocals := 5, code := prog_16_method_2_code, exceptionTable := #[], attributes := #[] }
def k2m1 : Method := { name := "<init>", desc := "(Ljava/lang/String;[BII)V", sig := { parameters := [(.object "java/lang/String"), (.array .byte), .int, .int], returnType := none }, accessFlags := 2, code := some k2c1 }
def k2c2 : Code := { maxStack := 2, maxLocals := 1, code := prog_16_method_3_code, exceptionTable := #[], attributes := #[] }
def k2m2 : Method := { name := "hasNext", desc := "()Z", sig := { parameters := [], returnType := some .boolean }, accessFlags := 0, code := some k2c2 }
def k2c3 : Code := { maxStack := 2, maxLocals := 1, code := prog_16_method_4_code, exceptionTable := #[], attributes := #[] }
def k2m3 : Method := { name := "nextTag", desc := "()I", sig := { parameters := [], returnType := some .int }, accessFlags := 0, code := some k2c3 }
def k2c4 : Code := { maxStack := 6, maxLocals := 3, code := prog_16_method_5_code, exceptionTable := #[], attributes := #[] }
def k2m4 : Method := { name := "read", desc := "(I)Lcom/example/subscriptor/subscriptor/Der;", sig := { parameters := [.int], returnType := some (.object "com/example/subscriptor/subscriptor/Der") }, accessFlags := 0, code := some k2c4 }
def k2c5 : Code := { maxStack := 6, maxLocals := 8, code := prog_16_method_13_code, exceptionTable := #[], attributes := #[] }
def k2m5 : Method := { name := "header", desc := "(I)I", sig := { parameters := [.int], returnType := some .int }, accessFlags := 2, code := some k2c5 }
/-- com/example/subscriptor/subscriptor/Der -/
def k2 : Class := { plain "com/example/subscriptor/subscriptor/Der" (some 0) with
  accessFlags := 48
  interfaces := #[]
  cf := some (fileOf pool2 2 #[.nestMembers #[127]] #[{ accessFlags := 0, nameIndex := 5, descriptorIndex := 170, attributes := #[] }, { accessFlags := 2, nameIndex := 5, descriptorIndex := 6, attributes := #[] }, { accessFlags := 0, nameIndex := 29, descriptorIndex := 30, attributes := #[] }, { accessFlags := 0, nameIndex := 138, descriptorIndex := 82, attributes := #[] }, { accessFlags := 0, nameIndex := 175, descriptorIndex := 176, attributes := #[] }, { accessFlags := 2, nameIndex := 39, descriptorIndex := 40, attributes := #[] }] 48 8 #[] #[{ accessFlags := 24, nameIndex := 158, descriptorIndex := 23, attributes := #[] }, { accessFlags := 24, nameIndex := 161, descriptorIndex := 23, attributes := #[] }, { accessFlags := 24, nameIndex := 163, descriptorIndex := 23, attributes := #[] }, { accessFlags := 24, nameIndex := 165, descriptorIndex := 23, attributes := #[] }, { accessFlags := 24, nameIndex := 167, descriptorIndex := 23, attributes := #[] }, { accessFlags := 26, nameIndex := 169, descriptorIndex := 23, attributes := #[] }, { accessFlags := 18, nameIndex := 14, descriptorIndex := 15, attributes := #[] }, { accessFlags := 18, nameIndex := 18, descriptorIndex := 19, attributes := #[] }, { accessFlags := 18, nameIndex := 26, descriptorIndex := 23, attributes := #[] }, { accessFlags := 2, nameIndex := 22, descriptorIndex := 23, attributes := #[] }])
  fields := #[{ name := "INTEGER", type := .int, accessFlags := 24, slot := 0, constantValue := 0 }, { name := "OCTET_STRING", type := .int, accessFlags := 24, slot := 1, constantValue := 0 }, { name := "OBJECT_IDENTIFIER", type := .int, accessFlags := 24, slot := 2, constantValue := 0 }, { name := "SEQUENCE", type := .int, accessFlags := 24, slot := 3, constantValue := 0 }, { name := "SET", type := .int, accessFlags := 24, slot := 4, constantValue := 0 }, { name := "LENGTH_OCTETS", type := .int, accessFlags := 26, slot := 5, constantValue := 0 }, { name := "what", type := (.object "java/lang/String"), accessFlags := 18, slot := 0, constantValue := 0 }, { name := "bytes", type := (.array .byte), accessFlags := 18, slot := 1, constantValue := 0 }, { name := "end", type := .int, accessFlags := 18, slot := 2, constantValue := 0 }, { name := "position", type := .int, accessFlags := 2, slot := 3, constantValue := 0 }]
  methods := #[k2m0, k2m1, k2m2, k2m3, k2m4, k2m5]
  instanceTypes := #[(.object "java/lang/String"), (.array .byte), .int, .int]
  staticTypes := #[.int, .int, .int, .int, .int, .int]
  resolved := Array.replicate 202 none
  statics := none }

def pool3 : Array CpInfo := pool [(1, .class_ 2), (0, u "java/io/Serializable"), (0, .class_ 4), (0, u "java/lang/Object")] 2

/-- java/io/Serializable -/
def k3 : Class := { plain "java/io/Serializable" (some 0) with
  accessFlags := 1537
  interfaces := #[]
  cf := some (fileOf pool3 1 #[] #[] 1537 3 #[] #[])
  fields := #[]
  methods := #[]
  instanceTypes := #[]
  staticTypes := #[]
  resolved := Array.replicate 7 none
  statics := none }

def pool4 : Array CpInfo := pool [(1, .class_ 2), (0, u "java/lang/Comparable"), (0, .class_ 4), (0, u "java/lang/Object")] 7

/-- java/lang/Comparable -/
def k4 : Class := { plain "java/lang/Comparable" (some 0) with
  accessFlags := 1537
  interfaces := #[]
  cf := some (fileOf pool4 1 #[] #[] 1537 3 #[] #[])
  fields := #[]
  methods := #[]
  instanceTypes := #[]
  staticTypes := #[]
  resolved := Array.replicate 12 none
  statics := none }

def pool5 : Array CpInfo := pool [(2, .class_ 4), (1, u "java/lang/CharSequence"), (42, .class_ 48), (0, u "java/lang/CharSequence$1CodePointIterator"), (10, .class_ 60), (0, u "java/lang/CharSequence$1CharIterator"), (5, .class_ 67), (0, u "java/lang/Object")] 63

/-- java/lang/CharSequence -/
def k5 : Class := { plain "java/lang/CharSequence" (some 0) with
  accessFlags := 1537
  interfaces := #[]
  cf := some (fileOf pool5 2 #[.nestMembers #[47, 59]] #[] 1537 66 #[] #[])
  fields := #[]
  methods := #[]
  instanceTypes := #[]
  staticTypes := #[]
  resolved := Array.replicate 131 none
  statics := none }

def pool6 : Array CpInfo := pool [(1, .class_ 2), (0, u "java/lang/constant/Constable"), (0, .class_ 4), (0, u "java/lang/Object")] 6

/-- java/lang/constant/Constable -/
def k6 : Class := { plain "java/lang/constant/Constable" (some 0) with
  accessFlags := 1537
  interfaces := #[]
  cf := some (fileOf pool6 1 #[] #[] 1537 3 #[] #[])
  fields := #[]
  methods := #[]
  instanceTypes := #[]
  staticTypes := #[]
  resolved := Array.replicate 11 none
  statics := none }

def pool7 : Array CpInfo := pool [(1, .class_ 2), (0, u "java/lang/constant/ConstantDesc"), (0, .class_ 4), (0, u "java/lang/Object")] 32

/-- java/lang/constant/ConstantDesc -/
def k7 : Class := { plain "java/lang/constant/ConstantDesc" (some 0) with
  accessFlags := 1537
  interfaces := #[]
  cf := some (fileOf pool7 1 #[] #[] 1537 3 #[] #[])
  fields := #[]
  methods := #[]
  instanceTypes := #[]
  staticTypes := #[]
  resolved := Array.replicate 37 none
  statics := none }

def pool8 : Array CpInfo := pool [(2, .class_ 4), (1, u "java/lang/Object"), (0, u "<init>"), (0, u "()V"), (3, .class_ 12), (1, u "java/lang/String"), (0, u "value"), (0, u "[B"), (2, u "coder"), (0, u "B"), (2, u "hash"), (0, u "I"), (2, u "hashIsZero"), (0, u "Z"), (13, u "COMPACT_STRINGS"), (534, .class_ 576), (0, u "java/lang/CharSequence"), (22, u "CASE_INSENSITIVE_ORDER"), (0, u "Ljava/util/Comparator;"), (500, u "serialPersistentFields"), (0, u "[Ljava/io/ObjectStreamField;"), (0, .class_ 1104), (0, u "java/lang/String$CaseInsensitiveComparator"), (1, .class_ 1107), (0, u "java/io/Serializable"), (0, .class_ 1109), (0, u "java/lang/Comparable"), (0, .class_ 1111), (0, u "java/lang/constant/Constable"), (0, .class_ 1113), (0, u "java/lang/constant/ConstantDesc"), (2, u "serialVersionUID"), (0, u "J"), (3, u "REPL"), (0, u "C"), (2, u "LATIN1"), (1, u "UTF16")] 323

def k8m0 : Method := { name := "<init>", desc := "()V", sig := { parameters := [], returnType := none }, accessFlags := 1, code := none }
/-- java/lang/String -/
def k8 : Class := { plain "java/lang/String" (some 0) with
  accessFlags := 49
  interfaces := #[3, 4, 5, 6, 7]
  cf := some (fileOf pool8 10 #[.nestMembers #[1103]] #[{ accessFlags := 1, nameIndex := 5, descriptorIndex := 6, attributes := #[] }] 49 2 #[1106, 1108, 575, 1110, 1112] #[{ accessFlags := 18, nameIndex := 13, descriptorIndex := 14, attributes := #[] }, { accessFlags := 18, nameIndex := 17, descriptorIndex := 18, attributes := #[] }, { accessFlags := 2, nameIndex := 21, descriptorIndex := 22, attributes := #[] }, { accessFlags := 2, nameIndex := 25, descriptorIndex := 26, attributes := #[] }, { accessFlags := 26, nameIndex := 1116, descriptorIndex := 1117, attributes := #[] }, { accessFlags := 24, nameIndex := 40, descriptorIndex := 26, attributes := #[] }, { accessFlags := 26, nameIndex := 1101, descriptorIndex := 1102, attributes := #[] }, { accessFlags := 26, nameIndex := 1121, descriptorIndex := 1122, attributes := #[] }, { accessFlags := 25, nameIndex := 599, descriptorIndex := 600, attributes := #[] }, { accessFlags := 24, nameIndex := 1125, descriptorIndex := 18, attributes := #[] }, { accessFlags := 24, nameIndex := 1127, descriptorIndex := 18, attributes := #[] }])
  fields := #[{ name := "value", type := (.array .byte), accessFlags := 18, slot := 0, constantValue := 0 }, { name := "coder", type := .byte, accessFlags := 18, slot := 1, constantValue := 0 }, { name := "hash", type := .int, accessFlags := 2, slot := 2, constantValue := 0 }, { name := "hashIsZero", type := .boolean, accessFlags := 2, slot := 3, constantValue := 0 }, { name := "serialVersionUID", type := .long, accessFlags := 26, slot := 0, constantValue := 0 }, { name := "COMPACT_STRINGS", type := .boolean, accessFlags := 24, slot := 1, constantValue := 0 }, { name := "serialPersistentFields", type := (.array (.object "java/io/ObjectStreamField")), accessFlags := 26, slot := 2, constantValue := 0 }, { name := "REPL", type := .char, accessFlags := 26, slot := 3, constantValue := 0 }, { name := "CASE_INSENSITIVE_ORDER", type := (.object "java/util/Comparator"), accessFlags := 25, slot := 4, constantValue := 0 }, { name := "LATIN1", type := .byte, accessFlags := 24, slot := 5, constantValue := 0 }, { name := "UTF16", type := .byte, accessFlags := 24, slot := 6, constantValue := 0 }]
  methods := #[k8m0]
  instanceTypes := #[(.array .byte), .byte, .int, .boolean]
  staticTypes := #[.long, .boolean, (.array (.object "java/io/ObjectStreamField")), .char, (.object "java/util/Comparator"), .byte, .byte]
  resolved := Array.replicate 1451 none
  statics := none }

def pool9 : Array CpInfo := pool [(1, u "java/lang/Cloneable"), (0, .class_ 1), (0, u "java/lang/Object"), (0, .class_ 3)] 3

/-- java/lang/Cloneable -/
def k9 : Class := { plain "java/lang/Cloneable" (some 0) with
  accessFlags := 1537
  interfaces := #[]
  cf := some (fileOf pool9 2 #[] #[] 1537 4 #[] #[])
  fields := #[]
  methods := #[]
  instanceTypes := #[]
  staticTypes := #[]
  resolved := Array.replicate 8 none
  statics := none }

/-- the primitive byte -/
def k10 : Class := { plain "byte" none with kind := .primitive 'B', accessFlags := 0x411 }
/-- [B -/
def k11 : Class := { plain "[B" (some 0) with kind := .array 10 .byte, interfaces := #[9, 3], accessFlags := 1041 }

/-- the primitive int -/
def k12 : Class := { plain "int" none with kind := .primitive 'I', accessFlags := 0x411 }
/-- [I -/
def k13 : Class := { plain "[I" (some 0) with kind := .array 12 .int, interfaces := #[9, 3], accessFlags := 1041 }

def heap : Heap := #[]
def classes : Array Class := #[k0, k1, k2, k3, k4, k5, k6, k7, k8, k9, k10, k11, k12, k13]
def interned : List (Array UInt16 × Addr) := []
def slotsUsed : Nat := 0
def theMethod : MethodId := ⟨1, 1⟩
def args0 : Array Value := #[.int 5, .int 7, .int 1, .int 2, .int 3]
def aboutOver (below : List Frame) : State where
  vm := { classes := classes, interned := interned.toArray }
  heap := heap
  slotsUsed := slotsUsed
  threads := #[{ frames := .invoking theMethod args0 :: below }]
def below0 : List Frame := [.native { method := ⟨0, 0⟩, args := #[] }]
def about1 : State := aboutOver below0
def p0 : Program := .bare "" "" ""
def e0 : Env := launch0.env 0 0 0
theorem w_frames : about1.frames = Frame.invoking theMethod args0 :: below0 := rfl
set_option maxRecDepth 65536 in
theorem w_args : argsFit about1.vm theMethod args0 = true := by decide +kernel
set_option maxRecDepth 65536 in
theorem w_heap : heapFits about1 = true := by decide +kernel
set_option maxRecDepth 65536 in
theorem w_runnable : about1.curStatus? = some .runnable := by decide +kernel
set_option maxRecDepth 65536 in
theorem w_alone : about1.alone = true := by decide +kernel
set_option maxRecDepth 65536 in
theorem w_named : about1.methodNamed? x = some theMethod := by decide +kernel
set_option maxRecDepth 65536 in
theorem w_hears : about1.hears theMethod below0 = true := by decide +kernel
set_option maxRecDepth 65536 in
theorem w_ripe : about1.ripe theMethod args0 below0 = true := by decide +kernel
theorem w_running : about1.status = .running := rfl
set_option maxRecDepth 65536 in
theorem w_room : about1.hasRoom e0.platform room_1 = true :=
  launch0.hasRoom_least _ room_1 (by decide +kernel) (by decide +kernel) (by decide +kernel) (by decide +kernel) (by decide +kernel) (by decide +kernel)
theorem allAtoms_all (ts : List Jvm.Cond) (a : Array Jvm.Value) (st : Jvm.State) : (allAtoms ts).before a st = ts.all (fun c => c.before a st) := by
  induction ts with
  | nil => rfl
  | cons c t ih =>
    show (Jvm.Cond.and c (allAtoms t)).before a st = _
    rw [Jvm.Cond.before_and, ih, List.all_cons]
def words1 : List Jvm.Cond := Jvm.Cond.code x code maxLocals ret :: tables_1
/-- a 'code' word, met by the world's own term for the bytes: nothing is compared byte by byte -/
theorem code_word {y : MethodName} {bytes : ByteArray} {mx : Nat} {rt : Option FieldType} {a : Array Value} {s : State} {m : MethodId} {meth : Method} {c : Code} (h1 : s.methodNamed? y = some m) (h2 : s.vm.method? m = some meth) (h3 : meth.code = some c) (h4 : c.code = bytes)
    (h5 : (c.maxLocals == mx && c.exceptionTable.isEmpty && decide (c.maxStack ≤ mostOperands) && decide (meth.sig.returnType = rt) && !meth.locks && decide (parseMethodDescriptor y.desc = some meth.sig)) = true) : (Jvm.Cond.code y bytes mx rt).before a s = true := by
  simp only [Bool.and_eq_true, beq_iff_eq, Bool.not_eq_true', decide_eq_true_eq] at h5
  obtain ⟨⟨⟨⟨⟨g1, g2⟩, g3⟩, g4⟩, g5⟩, g6⟩ := h5
  simp [Cond.before, Cond.holds, Cond.value, h1, h2, h3, h4, g1, g2, g3, g4, g5, g6]
def isCode : Jvm.Cond → Bool
  | .code _ _ _ _ => true
  | _ => false
theorem all_split {L : List Jvm.Cond} {P : Jvm.Cond → Bool} (h1 : L.all (fun c => isCode c || P c) = true) (h2 : ∀ c ∈ L.filter isCode, P c = true) : L.all P = true := by
  refine List.all_eq_true.mpr fun c hc => ?_
  have h := List.all_eq_true.mp h1 c hc
  rcases Bool.eq_false_or_eq_true (isCode c) with hi | hi
  · exact h2 c (List.mem_filter.mpr ⟨hc, hi⟩)
  · simpa [hi] using h
set_option maxRecDepth 65536 in
theorem w_c0 : (Jvm.Cond.code x code maxLocals ret).before args0 about1 = true := code_word (m := ⟨1, 1⟩) (meth := k1m1) (c := k1c1) (by decide +kernel) rfl rfl rfl (by decide +kernel)
set_option maxRecDepth 65536 in
theorem w_c1 : (Jvm.Cond.code ({ cls := "com/example/subscriptor/subscriptor/Der", name := "<init>", desc := "(Ljava/lang/String;[B)V" } : Jvm.MethodName) prog_16_method_1_code (3 : Nat) (Option.none : Option Jvm.ClassFile.FieldType)).before args0 about1 = true := code_word (m := ⟨2, 0⟩) (meth := k2m0) (c := k2c0) (by decide +kernel) rfl rfl rfl (by decide +kernel)
set_option maxRecDepth 65536 in
theorem w_c2 : (Jvm.Cond.code ({ cls := "com/example/subscriptor/subscriptor/Der", name := "<init>", desc := "(Ljava/lang/String;[BII)V" } : Jvm.MethodName) prog_16_method_2_code (5 : Nat) (Option.none : Option Jvm.ClassFile.FieldType)).before args0 about1 = true := code_word (m := ⟨2, 1⟩) (meth := k2m1) (c := k2c1) (by decide +kernel) rfl rfl rfl (by decide +kernel)
set_option maxRecDepth 65536 in
theorem w_c3 : (Jvm.Cond.code ({ cls := "java/lang/Object", name := "<init>", desc := "()V" } : Jvm.MethodName) object_method_1_code (1 : Nat) (Option.none : Option Jvm.ClassFile.FieldType)).before args0 about1 = true := code_word (m := ⟨0, 0⟩) (meth := k0m0) (c := k0c0) (by decide +kernel) rfl rfl rfl (by decide +kernel)
set_option maxRecDepth 65536 in
theorem w_c4 : (Jvm.Cond.code ({ cls := "com/example/subscriptor/subscriptor/Der", name := "hasNext", desc := "()Z" } : Jvm.MethodName) prog_16_method_3_code (1 : Nat) (Option.some Jvm.ClassFile.FieldType.boolean)).before args0 about1 = true := code_word (m := ⟨2, 2⟩) (meth := k2m2) (c := k2c2) (by decide +kernel) rfl rfl rfl (by decide +kernel)
set_option maxRecDepth 65536 in
theorem w_c5 : (Jvm.Cond.code ({ cls := "com/example/subscriptor/subscriptor/Der", name := "read", desc := "(I)Lcom/example/subscriptor/subscriptor/Der;" } : Jvm.MethodName) prog_16_method_5_code (3 : Nat) (Option.some (Jvm.ClassFile.FieldType.object "com/example/subscriptor/subscriptor/Der"))).before args0 about1 = true := code_word (m := ⟨2, 4⟩) (meth := k2m4) (c := k2c4) (by decide +kernel) rfl rfl rfl (by decide +kernel)
set_option maxRecDepth 65536 in
theorem w_c6 : (Jvm.Cond.code ({ cls := "com/example/subscriptor/subscriptor/Der", name := "header", desc := "(I)I" } : Jvm.MethodName) prog_16_method_13_code (8 : Nat) (Option.some Jvm.ClassFile.FieldType.int)).before args0 about1 = true := code_word (m := ⟨2, 5⟩) (meth := k2m5) (c := k2c5) (by decide +kernel) rfl rfl rfl (by decide +kernel)
set_option maxRecDepth 65536 in
theorem w_c7 : (Jvm.Cond.code ({ cls := "com/example/subscriptor/subscriptor/Der", name := "nextTag", desc := "()I" } : Jvm.MethodName) prog_16_method_4_code (1 : Nat) (Option.some Jvm.ClassFile.FieldType.int)).before args0 about1 = true := code_word (m := ⟨2, 3⟩) (meth := k2m3) (c := k2c3) (by decide +kernel) rfl rfl rfl (by decide +kernel)
def codes1 : List Jvm.Cond := [Jvm.Cond.code x code maxLocals ret, Jvm.Cond.code ({ cls := "com/example/subscriptor/subscriptor/Der", name := "<init>", desc := "(Ljava/lang/String;[B)V" } : Jvm.MethodName) prog_16_method_1_code (3 : Nat) (Option.none : Option Jvm.ClassFile.FieldType), Jvm.Cond.code ({ cls := "com/example/subscriptor/subscriptor/Der", name := "<init>", desc := "(Ljava/lang/String;[BII)V" } : Jvm.MethodName) prog_16_method_2_code (5 : Nat) (Option.none : Option Jvm.ClassFile.FieldType), Jvm.Cond.code ({ cls := "java/lang/Object", name := "<init>", desc := "()V" } : Jvm.MethodName) object_method_1_code (1 : Nat) (Option.none : Option Jvm.ClassFile.FieldType), Jvm.Cond.code ({ cls := "com/example/subscriptor/subscriptor/Der", name := "hasNext", desc := "()Z" } : Jvm.MethodName) prog_16_method_3_code (1 : Nat) (Option.some Jvm.ClassFile.FieldType.boolean), Jvm.Cond.code ({ cls := "com/example/subscriptor/subscriptor/Der", name := "read", desc := "(I)Lcom/example/subscriptor/subscriptor/Der;" } : Jvm.MethodName) prog_16_method_5_code (3 : Nat) (Option.some (Jvm.ClassFile.FieldType.object "com/example/subscriptor/subscriptor/Der")), Jvm.Cond.code ({ cls := "com/example/subscriptor/subscriptor/Der", name := "header", desc := "(I)I" } : Jvm.MethodName) prog_16_method_13_code (8 : Nat) (Option.some Jvm.ClassFile.FieldType.int), Jvm.Cond.code ({ cls := "com/example/subscriptor/subscriptor/Der", name := "nextTag", desc := "()I" } : Jvm.MethodName) prog_16_method_4_code (1 : Nat) (Option.some Jvm.ClassFile.FieldType.int)]
set_option maxRecDepth 65536 in
theorem codes_eq : words1.filter isCode = codes1 := rfl
theorem w_codes : ∀ c ∈ words1.filter isCode, c.before args0 about1 = true := by
  rw [codes_eq]
  intro c hc
  simp only [codes1, List.mem_cons, List.not_mem_nil, or_false] at hc
  rcases hc with rfl | rfl | rfl | rfl | rfl | rfl | rfl | rfl
  · exact w_c0
  · exact w_c1
  · exact w_c2
  · exact w_c3
  · exact w_c4
  · exact w_c5
  · exact w_c6
  · exact w_c7
set_option maxRecDepth 65536 in
theorem w_t1 : (words1.take 24).all (fun c => isCode c || c.before args0 about1) = true := by decide +kernel
set_option maxRecDepth 65536 in
theorem w_t2 : ((words1.drop 24).take 24).all (fun c => isCode c || c.before args0 about1) = true := by decide +kernel
set_option maxRecDepth 65536 in
theorem w_t3 : ((words1.drop 24).drop 24).all (fun c => isCode c || c.before args0 about1) = true := by decide +kernel
theorem w_tables : (allAtoms (Jvm.Cond.code x code maxLocals ret :: tables_1)).before args0 about1 = true := by
  rw [allAtoms_all]
  show words1.all (fun c => c.before args0 about1) = true
  refine all_split ?_ w_codes
  rw [← List.take_append_drop 24 words1, List.all_append, w_t1, ← List.take_append_drop 24 (words1.drop 24), List.all_append, w_t2, w_t3]
  rfl
set_option maxRecDepth 65536 in
theorem w_case : (Jvm.Cond.and given_1 narrow_1).before args0 about1 = true := by decide +kernel
theorem w_applies : (headSpec (Jvm.Cond.code x code maxLocals ret :: tables_1) room_1).applies x e0.platform about1 = true :=
  (Spec.applies_iff w_frames).mpr ⟨w_running, w_runnable, w_alone, w_named, w_hears, w_ripe, w_room, w_tables⟩
theorem atStart : AtStart classFile x code maxLocals ret World_1 tables_1 room_1 Calls_1 rest_1 Pre_1 launch0 p0 e0 about1 theMethod args0 below0 :=
  ⟨lists_1, trivial, launch0.admits_env _ _ _, launch0.least_env, fairChoices_fair.cas, fairChoices_fair.clock, w_frames, w_args, w_heap, w_applies, trivial, trivial, w_case⟩
end start1
theorem witness_1 : WitnessClaimed_1 := ⟨start1.p0, start1.e0, start1.about1, start1.theMethod, start1.args0, start1.below0, start1.atStart⟩
end Jvm.Pilot.@@N@@
