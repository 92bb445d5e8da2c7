import JvmDerived
import JvmDerived.Pilot.@@N@@Statement
import JvmDerived.Pilot.@@N@@Code
set_option linter.unusedVariables false
set_option linter.unusedSimpArgs false
namespace Jvm.RoadKit
open Sem ClassFile Op Lib Jvm.Stand Jvm.Free Jvm.LawKit
section New
variable {p : Program} {l : Launch} {e : Env} {R : Room} {s : State} {m : MethodId} {args : Array Value} {below : List Frame} {meth : Method} {c : Code} {T : State} {locs : List Loc} {cells slots : Nat}
theorem retI (X : Stand p l e R s m args below meth c T locs cells slots) (hx : p.tables.exec = Jvm.exec) {pc : Nat} {Ls : Array Slot} {z : Int32} {rest : List Value} (hret : meth.sig.returnType = some .int) (hd : decode c.code pc = .ok (.ireturn, 1)) {fs : List Frame}
    (hl : ∀ (f : JFrame) (acts : List Action), f.method = m → f.locked = none → f.entered = [] → (doReturn e (T.setTop f) acts (some (.int z))).1 = T.setFrames fs) : Steps p.tables e below (T.setTop (mkF m pc Ls (.int z :: rest))) (T.setFrames fs) := by
  have hm' : T.vm.method? m = some meth := X.method'
  have hn : narrow .int (.int z) = .int z := rfl
  show Steps p.tables e below (T.setTop { method := m, pc := pc, locals := Ls, stack := _ :: rest, locked := none }) _
  jvm_step X.here [X.here.top, hx, hd, hm', hret, hn]
  first | (intro acts; rw [hl _ acts rfl rfl rfl]) | rw [hl _ _ rfl rfl rfl]
  exact Steps.refl _
end New
end Jvm.RoadKit
/- laws to paste: Road.backV (cut by pick.py; bodies as the Statement names them) -/
namespace Jvm.Pilot.@@N@@
namespace StrChars
open Jvm Sem ClassFile Op Lib Jvm.Stand Jvm.Free.XT Jvm.Free.ALB Jvm.Free.JM Jvm.Free
open Jvm.Lib.Cold (StaticIs)
/-- a char array whose places are chars -/
def Ch (a : Addr) (A : Cell) (U : State) : Prop := Arr .char a A U ∧ Typed .char A
theorem Ch.mv {a : Addr} {A : Cell} {U U' : State} (h : Ch a A U) (hal : U.vm.Alike U'.vm) (hh : U'.heap = U.heap) : Ch a A U' := ⟨h.1.mv hal hh, h.2⟩
theorem Ch.keep {a : Addr} {A : Cell} {U U' : State} (h : Ch a A U) (hal : U.vm.Alike U'.vm) (hk : U'.heap[a]? = some A) : Ch a A U' := ⟨h.1.keep hal hk, h.2⟩
/-- what place i of a char[]'s cell holds -/
def cv (A : Cell) (i : Nat) : Int32 := match A.slots[i]? with | some (.int x) => x | _ => 0
theorem Ch.get {a : Addr} {A : Cell} {U : State} (h : Ch a A U) {i : Nat} (hi : i < A.slots.size) : A.slots[i]? = some (.int (cv A i)) := by
  have e := Array.getElem?_eq_getElem hi
  have f := h.2 i _ e
  unfold cv; rw [e]
  generalize A.slots[i] = v at f
  cases v <;> simp [fits] at f ⊢
/-- the byte that i2b leaves of a char -/
def lo8 (x : Int32) : Int32 := x.toInt8.toInt32
theorem fits_lo8 (y : Int32) : fits .byte (.int (lo8 y)) = true := by
  have h1 := y.toInt8.le_toInt
  have h2 := y.toInt8.toInt_lt
  simp only [lo8, fits, Bool.and_eq_true, decide_eq_true_eq, Int32.le_iff_toInt_le, Int8.toInt_toInt32, show (-128 : Int32).toInt = -128 from by decide, show (127 : Int32).toInt = 127 from by decide]
  omega
/-- A' is A but that each place j of lo .. hi - 1 holds f j -/
def Laid (A A' : Cell) (lo hi : Nat) (f : Nat → Value) : Prop := A'.cls = A.cls ∧ A'.vm = A.vm ∧ A'.slots.size = A.slots.size ∧ ∀ i, A'.slots[i]? = if lo ≤ i ∧ i < hi then some (f i) else A.slots[i]?
theorem Laid.zero (A : Cell) (lo : Nat) (f : Nat → Value) : Laid A A lo (lo + 0) f := ⟨rfl, rfl, rfl, fun i => by rw [if_neg (by omega)]⟩
theorem Laid.step {A Ak : Cell} {lo k : Nat} {f : Nat → Value} {v : Value} (h : Laid A Ak lo k f) (hlo : lo ≤ k) (hk : k < Ak.slots.size) (hv : v = f k) : Laid A (Ak.setSlot k v) lo (k + 1) f := by
  refine ⟨h.1, h.2.1, by simpa [Cell.setSlot] using h.2.2.1, fun i => ?_⟩
  by_cases e : k = i
  · subst e; rw [Cell.slots_setSlot_self v hk, if_pos (by omega), hv]
  · rw [Cell.slots_setSlot_ne v e, h.2.2.2 i]
    by_cases q : lo ≤ i ∧ i < k
    · rw [if_pos q, if_pos (by omega)]
    · rw [if_neg q, if_neg (by omega)]
def U16 : String := "java/lang/StringUTF16"
namespace Cmp5
def yN : MethodName := ⟨"java/lang/StringUTF16", "compress", "([CI[BII)I"⟩
abbrev yB : ByteArray := jdk_52_method_21_code
theorem d0 : decode yB 0 = .ok (.iconst 0, 1) := by decide +kernel
theorem d1 : decode yB 1 = .ok (.istore 5, 2) := by decide +kernel
theorem d3 : decode yB 3 = .ok (.iload 5, 2) := by decide +kernel
theorem d5 : decode yB 5 = .ok (.iload 4, 2) := by decide +kernel
theorem d7 : decode yB 7 = .ok (.if_icmp (.ge) 37, 3) := by decide +kernel
theorem d10 : decode yB 10 = .ok (.aload_n 0, 1) := by decide +kernel
theorem d11 : decode yB 11 = .ok (.iload_n 1, 1) := by decide +kernel
theorem d12 : decode yB 12 = .ok (.caload, 1) := by decide +kernel
theorem d13 : decode yB 13 = .ok (.istore 6, 2) := by decide +kernel
theorem d15 : decode yB 15 = .ok (.iload 6, 2) := by decide +kernel
theorem d17 : decode yB 17 = .ok (.sipush 255, 3) := by decide +kernel
theorem d20 : decode yB 20 = .ok (.if_icmp (.le) 6, 3) := by decide +kernel
theorem d26 : decode yB 26 = .ok (.aload_n 2, 1) := by decide +kernel
theorem d27 : decode yB 27 = .ok (.iload_n 3, 1) := by decide +kernel
theorem d28 : decode yB 28 = .ok (.iload 6, 2) := by decide +kernel
theorem d30 : decode yB 30 = .ok (.i2b, 1) := by decide +kernel
theorem d31 : decode yB 31 = .ok (.bastore, 1) := by decide +kernel
theorem d32 : decode yB 32 = .ok (.iinc 1 1, 3) := by decide +kernel
theorem d35 : decode yB 35 = .ok (.iinc 3 1, 3) := by decide +kernel
theorem d38 : decode yB 38 = .ok (.iinc 5 1, 3) := by decide +kernel
theorem d41 : decode yB 41 = .ok (.goto (-38), 3) := by decide +kernel
theorem d44 : decode yB 44 = .ok (.iload 4, 2) := by decide +kernel
theorem d46 : decode yB 46 = .ok (.ireturn, 1) := by decide +kernel
def site : List Cond := []
def tab : Cond := tabOf yN yB 7 (some .int) site
def P (b : Addr) (A : Cell) (d : Addr) (B : Cell) (o q len : Nat) (args : Array Value) (s : State) : Prop := args = #[.ref b, .int (Int32.ofNat o), .ref d, .int (Int32.ofNat q), .int (Int32.ofNat len)] ∧ Ch b A s ∧ Arr .byte d B s ∧ b ≠ d ∧ o + len ≤ A.slots.size ∧ q + len ≤ B.slots.size ∧ ∀ i, i < len → ¬ 255 < cv A (o + i)
def E (b : Addr) (A : Cell) (d : Addr) (B : Cell) (o q len : Nat) (r : Option Value) (s u : State) : Prop := r = some (.int (Int32.ofNat len)) ∧ ∃ B', Put d B' s u ∧ Laid B B' q (q + len) (fun j => Value.int (lo8 (cv A (o + (j - q)))))
/-- no char of the range above 255: len; the places written hold each char's low byte -/
theorem law (l : Launch) (b : Addr) (A : Cell) (d : Addr) (B : Cell) (o q len : Nat) : Law l yN 5 5 0 0 yB 7 (some .int) site (P b A d B o q len) (E b A d B o q len) (copyLocs d q len) 0 0 := by
  refine Law.of_walk (plainFor_of_name (by decide +kernel)) (by decide +kernel) (by decide +kernel) (by decide) (fun _ _ h => by rw [h.1]; rfl) (fun _ U U' hal hh h => ⟨h.1, h.2.1.mv hal hh, h.2.2.1.mv hal hh, h.2.2.2⟩) (fun r U U' V V' h1 hal h2 h => ⟨h.1, h.2.elim fun B' q => ⟨B', q.1.mv h1 h2, q.2⟩⟩) ?_
  intro p e s m args below meth c s₁ X0 hexec hbytes hml hret hlk hnm hown hh0 W hP
  obtain ⟨rfl, hA, hB, hne, l1, l2, hp⟩ := hP
  have c1 : Steps p.tables e below (s₁.setTop (entryFrame m #[.ref b, .int (Int32.ofNat o), .ref d, .int (Int32.ofNat q), .int (Int32.ofNat len)] 7)) (s₁.setTop (mkF m 0 #[.val (.ref b), .val (.int (Int32.ofNat o)), .val (.ref d), .val (.int (Int32.ofNat q)), .val (.int (Int32.ofNat len)), .unset, .unset] [])) := entry rfl
  have hA0 := hA.1.mv X0.warmed.alike hh0
  have hB0 := hB.mv X0.warmed.alike hh0
  have a31 := hA.1.2.2.2
  have c2 : Steps p.tables e below (s₁.setTop (entryFrame m #[.ref b, .int (Int32.ofNat o), .ref d, .int (Int32.ofNat q), .int (Int32.ofNat len)] 7)) (s₁.setTop (mkF m 3 #[.val (.ref b), .val (.int (Int32.ofNat o)), .val (.ref d), .val (.int (Int32.ofNat q)), .val (.int (Int32.ofNat len)), .val (.int 0), .unset] [])) := c1.trans (by
    refine iconstV X0.here hexec rfl 0 (hb hbytes d0) (by decide) ?_
    refine XS.istore X0.here hexec rfl (hb hbytes d1) rfl rfl ?_
    exact Steps.refl _)
  have loop : ∀ (r i : Nat), i + r = len → ∀ (z : Slot), (z = .unset ∨ ∃ w, z = .val w ∧ w.category = 1) → ∀ (Tl : State) (Bk : Cell), Stand p l e { frames := 0, locals := 0, cells := 0, slots := 0 } s m #[.ref b, .int (Int32.ofNat o), .ref d, .int (Int32.ofNat q), .int (Int32.ofNat len)] below meth c Tl ([] ++ copyLocs d q i) 0 0 → Put d Bk s₁ Tl → Laid B Bk q (q + i) (fun j => Value.int (lo8 (cv A (o + (j - q))))) →
      Steps p.tables e below (s₁.setTop (entryFrame m #[.ref b, .int (Int32.ofNat o), .ref d, .int (Int32.ofNat q), .int (Int32.ofNat len)] 7)) (Tl.setTop (mkF m 3 #[.val (.ref b), .val (.int (Int32.ofNat (o + i))), .val (.ref d), .val (.int (Int32.ofNat (q + i))), .val (.int (Int32.ofNat len)), .val (.int (Int32.ofNat i)), z] [])) → ∃ (T' : State) (B' : Cell) (z' : Slot), Stand p l e { frames := 0, locals := 0, cells := 0, slots := 0 } s m #[.ref b, .int (Int32.ofNat o), .ref d, .int (Int32.ofNat q), .int (Int32.ofNat len)] below meth c T' ([] ++ copyLocs d q len) 0 0 ∧ Put d B' s₁ T' ∧ Laid B B' q (q + len) (fun j => Value.int (lo8 (cv A (o + (j - q))))) ∧
      Steps p.tables e below (s₁.setTop (entryFrame m #[.ref b, .int (Int32.ofNat o), .ref d, .int (Int32.ofNat q), .int (Int32.ofNat len)] 7)) (T'.setTop (mkF m 3 #[.val (.ref b), .val (.int (Int32.ofNat (o + len))), .val (.ref d), .val (.int (Int32.ofNat (q + len))), .val (.int (Int32.ofNat len)), .val (.int (Int32.ofNat len)), z'] [])) := by
    intro r
    induction r with
    | zero =>
      intro i hi z hz Tl Bk Xl pl fl cl
      have hil : i = len := by omega
      rw [hil] at Xl fl cl
      exact ⟨Tl, Bk, z, Xl, pl, fl, cl⟩
    | succ r ih =>
      intro i hi z hz Tl Bk Xl pl fl cl
      have all := X0.warmed.alike.symm.trans Xl.warmed.alike
      have hAl := hA0.keep all (pl.other hne hA0.1)
      have hBk := hB0.like all pl.1 fl.1 fl.2.1 fl.2.2.1
      have hlt : q + i < Bk.slots.size := by rw [fl.2.2.1]; omega
      have c3 : Steps p.tables e below (s₁.setTop (entryFrame m #[.ref b, .int (Int32.ofNat o), .ref d, .int (Int32.ofNat q), .int (Int32.ofNat len)] 7)) (Tl.setTop (mkF m 12 #[.val (.ref b), .val (.int (Int32.ofNat (o + i))), .val (.ref d), .val (.int (Int32.ofNat (q + i))), .val (.int (Int32.ofNat len)), .val (.int (Int32.ofNat i)), z] [.int (Int32.ofNat (o + i)), .ref b])) := cl.trans (by
        refine XS.iload Xl.here hexec rfl (hb hbytes d3) rfl ?_
        refine XS.iload Xl.here hexec rfl (hb hbytes d5) rfl ?_
        refine XS.icmpNo Xl.here hexec rfl (hb hbytes d7) rfl (ii_ge_f (lt32 (by omega) (by omega))) ?_
        refine XS.aloadN Xl.here hexec rfl (hb hbytes d10) rfl rfl ?_
        refine XS.iloadN Xl.here hexec rfl (hb hbytes d11) rfl ?_
        exact Steps.refl _)
      have c4 : Steps p.tables e below (s₁.setTop (entryFrame m #[.ref b, .int (Int32.ofNat o), .ref d, .int (Int32.ofNat q), .int (Int32.ofNat len)] 7)) (Tl.setTop (mkF m 13 #[.val (.ref b), .val (.int (Int32.ofNat (o + i))), .val (.ref d), .val (.int (Int32.ofNat (q + i))), .val (.int (Int32.ofNat len)), .val (.int (Int32.ofNat i)), z] [.int (cv A (o + i))])) := c3.trans (by
        refine Xl.aget hexec hAl rfl (hA.get (i := o + i) (by omega)) rfl rfl (hb hbytes d12) ?_
        exact Steps.refl _)
      have c5 : Steps p.tables e below (s₁.setTop (entryFrame m #[.ref b, .int (Int32.ofNat o), .ref d, .int (Int32.ofNat q), .int (Int32.ofNat len)] 7)) (Tl.setTop (mkF m 15 #[.val (.ref b), .val (.int (Int32.ofNat (o + i))), .val (.ref d), .val (.int (Int32.ofNat (q + i))), .val (.int (Int32.ofNat len)), .val (.int (Int32.ofNat i)), .val (.int (cv A (o + i)))] [])) := c4.trans (by
        refine XS.istoreS Xl.here hexec rfl (hb hbytes d13) rfl rfl hz ?_
        exact Steps.refl _)
      have c6 : Steps p.tables e below (s₁.setTop (entryFrame m #[.ref b, .int (Int32.ofNat o), .ref d, .int (Int32.ofNat q), .int (Int32.ofNat len)] 7)) (Tl.setTop (mkF m 31 #[.val (.ref b), .val (.int (Int32.ofNat (o + i))), .val (.ref d), .val (.int (Int32.ofNat (q + i))), .val (.int (Int32.ofNat len)), .val (.int (Int32.ofNat i)), .val (.int (cv A (o + i)))] [.int (lo8 (cv A (o + i))), .int (Int32.ofNat (q + i)), .ref d])) := c5.trans (by
        refine XS.iload Xl.here hexec rfl (hb hbytes d15) rfl ?_
        refine sipushV Xl.here hexec rfl 255 (hb hbytes d17) (by decide) ?_
        refine XS.icmpYes Xl.here hexec rfl (pc0 := 20) rfl (hb hbytes d20) rfl (ii_le_t (hp i (by omega))) (by decide) rfl ?_
        refine XS.aloadN Xl.here hexec rfl (hb hbytes d26) rfl rfl ?_
        refine XS.iloadN Xl.here hexec rfl (hb hbytes d27) rfl ?_
        refine XS.iload Xl.here hexec rfl (hb hbytes d28) rfl ?_
        refine i2b Xl.here hexec rfl (hb hbytes d30) rfl ?_
        exact Steps.refl _)
      obtain ⟨T7, X7, p7, st7⟩ := Xl.aput hexec hBk rfl hlt rfl (fits_lo8 (cv A (o + i))) (g := (mkF m 31 #[.val (.ref b), .val (.int (Int32.ofNat (o + i))), .val (.ref d), .val (.int (Int32.ofNat (q + i))), .val (.int (Int32.ofNat len)), .val (.int (Int32.ofNat i)), .val (.int (cv A (o + i)))] [.int (lo8 (cv A (o + i))), .int (Int32.ofNat (q + i)), .ref d])) rfl (rest := []) rfl (hb hbytes d31)
      have c8 : Steps p.tables e below (s₁.setTop (entryFrame m #[.ref b, .int (Int32.ofNat o), .ref d, .int (Int32.ofNat q), .int (Int32.ofNat len)] 7)) (T7.setTop (mkF m 32 #[.val (.ref b), .val (.int (Int32.ofNat (o + i))), .val (.ref d), .val (.int (Int32.ofNat (q + i))), .val (.int (Int32.ofNat len)), .val (.int (Int32.ofNat i)), .val (.int (cv A (o + i)))] [])) := c6.trans (st7 _ (Steps.refl _))
      have c9 : Steps p.tables e below (s₁.setTop (entryFrame m #[.ref b, .int (Int32.ofNat o), .ref d, .int (Int32.ofNat q), .int (Int32.ofNat len)] 7)) (T7.setTop (mkF m 3 #[.val (.ref b), .val (.int (Int32.ofNat (o + i) + 1)), .val (.ref d), .val (.int (Int32.ofNat (q + i) + 1)), .val (.int (Int32.ofNat len)), .val (.int (Int32.ofNat i + 1)), .val (.int (cv A (o + i)))] [])) := c8.trans (by
        refine iincV X7.here hexec rfl 1 (hb hbytes d32) (by decide) rfl rfl ?_
        refine iincV X7.here hexec rfl 1 (hb hbytes d35) (by decide) rfl rfl ?_
        refine iincV X7.here hexec rfl 1 (hb hbytes d38) (by decide) rfl rfl ?_
        refine XS.goto X7.here hexec rfl (pc0 := 41) rfl (hb hbytes d41) (by decide) rfl ?_
        exact Steps.refl _)
      have c10 : Steps p.tables e below (s₁.setTop (entryFrame m #[.ref b, .int (Int32.ofNat o), .ref d, .int (Int32.ofNat q), .int (Int32.ofNat len)] 7)) (T7.setTop (mkF m 3 #[.val (.ref b), .val (.int (Int32.ofNat (o + (i + 1)))), .val (.ref d), .val (.int (Int32.ofNat (q + (i + 1)))), .val (.int (Int32.ofNat len)), .val (.int (Int32.ofNat (i + 1))), .val (.int (cv A (o + i)))] [])) := by
        have := c9
        rw [succ32, succ32, succ32] at this
        exact this
      exact ih (i + 1) (by omega) _ (Or.inr ⟨_, rfl, rfl⟩) T7 _ (by rw [copyLocs_step, ← List.append_assoc]; exact X7) (pl.trans p7) (fl.step (by omega) hlt (by simp)) c10
  obtain ⟨T9, B9, z9, X9, p9, f9, g9⟩ := loop len 0 (by omega) .unset (Or.inl rfl) s₁ B (by simpa [copyLocs] using X0) ⟨hB0.1, fun _ _ => rfl, rfl⟩ (Laid.zero _ _ _) c2
  have c11 : Steps p.tables e below (s₁.setTop (entryFrame m #[.ref b, .int (Int32.ofNat o), .ref d, .int (Int32.ofNat q), .int (Int32.ofNat len)] 7)) (T9.setTop (mkF m 46 #[.val (.ref b), .val (.int (Int32.ofNat (o + len))), .val (.ref d), .val (.int (Int32.ofNat (q + len))), .val (.int (Int32.ofNat len)), .val (.int (Int32.ofNat len)), z9] [.int (Int32.ofNat len)])) := g9.trans (by
    refine XS.iload X9.here hexec rfl (hb hbytes d3) rfl ?_
    refine XS.iload X9.here hexec rfl (hb hbytes d5) rfl ?_
    refine XS.icmpYes X9.here hexec rfl (pc0 := 7) rfl (hb hbytes d7) rfl (ii_ge_t (nlt32 (by omega) (Nat.le_refl _))) (by decide) rfl ?_
    refine XS.iload X9.here hexec rfl (hb hbytes d44) rfl ?_
    exact Steps.refl _)
  exact ⟨T9, some (.int (Int32.ofNat len)), _, _, _, X9, by simp, rfl, rfl, (fun h => by cases h), ⟨rfl, B9, p9.from hh0, f9⟩, fun fs hl => c11.trans (X9.ireturnOut hexec hret rfl (Or.inl rfl) (hb hbytes d46) hl)⟩
end Cmp5
namespace Cmp3
def yN : MethodName := ⟨"java/lang/StringUTF16", "compress", "([CII)[B"⟩
abbrev yB : ByteArray := jdk_52_method_16_code
theorem d0 : decode yB 0 = .ok (.iload_n 2, 1) := by decide +kernel
theorem d1 : decode yB 1 = .ok (.newarray .byte, 2) := by decide +kernel
theorem d3 : decode yB 3 = .ok (.astore_n 3, 1) := by decide +kernel
theorem d4 : decode yB 4 = .ok (.aload_n 0, 1) := by decide +kernel
theorem d5 : decode yB 5 = .ok (.iload_n 1, 1) := by decide +kernel
theorem d6 : decode yB 6 = .ok (.aload_n 3, 1) := by decide +kernel
theorem d7 : decode yB 7 = .ok (.iconst 0, 1) := by decide +kernel
theorem d8 : decode yB 8 = .ok (.iload_n 2, 1) := by decide +kernel
theorem d9 : decode yB 9 = .ok (.invokestatic 115, 3) := by decide +kernel
theorem d12 : decode yB 12 = .ok (.istore 4, 2) := by decide +kernel
theorem d14 : decode yB 14 = .ok (.iload 4, 2) := by decide +kernel
theorem d16 : decode yB 16 = .ok (.iload_n 2, 1) := by decide +kernel
theorem d17 : decode yB 17 = .ok (.if_icmp (.eq) 40, 3) := by decide +kernel
theorem d57 : decode yB 57 = .ok (.aload_n 3, 1) := by decide +kernel
theorem d58 : decode yB 58 = .ok (.areturn, 1) := by decide +kernel
def site : List Cond := [.arrayClass .byte, Cmp5.tab] ++ staticW U16 115 Cmp5.yN
def tab : Cond := tabOf yN yB 6 (some (.array .byte)) site
def P (b : Addr) (A : Cell) (o len : Nat) (args : Array Value) (s : State) : Prop := args = #[.ref b, .int (Int32.ofNat o), .int (Int32.ofNat len)] ∧ Ch b A s ∧ o + len ≤ A.slots.size ∧ len ≤ 536870912 ∧ ∀ i, i < len → ¬ 255 < cv A (o + i)
def E (b : Addr) (A : Cell) (o len : Nat) (r : Option Value) (s u : State) : Prop := NewArr .byte "[B" len (fun j => .int (lo8 (cv A (o + j)))) r s u ∧ u.heap.size = s.heap.size + 1
/-- no char of the range above 255: a new byte[] of their low bytes -/
theorem law (l : Launch) (b : Addr) (A : Cell) (o len : Nat) : Law l yN 3 3 1 18 yB 6 (some (.array .byte)) site (P b A o len) (E b A o len) [] 1 len := by
  refine Law.of_walk (plainFor_of_name (by decide +kernel)) (by decide +kernel) (by decide +kernel) (by decide) (fun _ _ h => by rw [h.1]; rfl) (fun _ U U' hal hh h => ⟨h.1, h.2.1.mv hal hh, h.2.2⟩) (fun r U U' V V' h1 hal h2 h => ⟨NewArr.mv r U U' V V' h1 hal h2 h.1, by rw [h1, h2]; exact h.2⟩) ?_
  intro p e s m args below meth c s₁ X0 hexec hbytes hml hret hlk hnm hown hh0 W hP
  obtain ⟨rfl, hA, l1, l2, hp⟩ := hP
  have a31 := hA.1.2.2.2
  have c1 : Steps p.tables e below (s₁.setTop (entryFrame m #[.ref b, .int (Int32.ofNat o), .int (Int32.ofNat len)] 6)) (s₁.setTop (mkF m 0 #[.val (.ref b), .val (.int (Int32.ofNat o)), .val (.int (Int32.ofNat len)), .unset, .unset, .unset] [])) := entry rfl
  have c2 : Steps p.tables e below (s₁.setTop (entryFrame m #[.ref b, .int (Int32.ofNat o), .int (Int32.ofNat len)] 6)) (s₁.setTop (mkF m 1 #[.val (.ref b), .val (.int (Int32.ofNat o)), .val (.int (Int32.ofNat len)), .unset, .unset, .unset] [.int (Int32.ofNat len)])) := c1.trans (by
    refine XS.iloadN X0.here hexec rfl (hb hbytes d0) rfl ?_
    exact Steps.refl _)
  obtain ⟨T3, B3, X3, ba3, bs3, bv3, bh3, bf3, st3⟩ := X0.anew hexec (atype := .byte) (wk W (.arrayClass .byte)) rfl (by show len * 1 ≤ _; omega) (by omega) (g := (mkF m 1 #[.val (.ref b), .val (.int (Int32.ofNat o)), .val (.int (Int32.ofNat len)), .unset, .unset, .unset] [.int (Int32.ofNat len)])) rfl (hb hbytes d1) (rest := []) rfl (Nat.le_refl _) (by show 0 + len ≤ len; omega)
  rw [hh0] at ba3 st3
  have kp3 : XT.Kept s T3 := (XT.Kept.of_eq hh0).push bh3
  have hA3 := hA.keep X3.warmed.alike (kp3 _ _ hA.1.1)
  have hne : b ≠ s.heap.size := hA.1.ne
  have c4 : Steps p.tables e below (s₁.setTop (entryFrame m #[.ref b, .int (Int32.ofNat o), .int (Int32.ofNat len)] 6)) (T3.setTop (mkF m 3 #[.val (.ref b), .val (.int (Int32.ofNat o)), .val (.int (Int32.ofNat len)), .unset, .unset, .unset] [.ref s.heap.size])) := c2.trans (st3 _ (Steps.refl _))
  have c5 : Steps p.tables e below (s₁.setTop (entryFrame m #[.ref b, .int (Int32.ofNat o), .int (Int32.ofNat len)] 6)) (T3.setTop (mkF m 9 #[.val (.ref b), .val (.int (Int32.ofNat o)), .val (.int (Int32.ofNat len)), .val (.ref s.heap.size), .unset, .unset] [.int (Int32.ofNat len), .int 0, .ref s.heap.size, .int (Int32.ofNat o), .ref b])) := c4.trans (by
    refine XS.astoreN X3.here hexec rfl (hb hbytes d3) rfl rfl rfl ?_
    refine XS.aloadN X3.here hexec rfl (hb hbytes d4) rfl rfl ?_
    refine XS.iloadN X3.here hexec rfl (hb hbytes d5) rfl ?_
    refine XS.aloadN X3.here hexec rfl (hb hbytes d6) rfl rfl ?_
    refine iconstV X3.here hexec rfl 0 (hb hbytes d7) (by decide) ?_
    refine XS.iloadN X3.here hexec rfl (hb hbytes d8) rfl ?_
    exact Steps.refl _)
  obtain ⟨v6, T6, X6, E6, g6⟩ := X3.callS hexec (Cmp5.law l b A s.heap.size B3 o 0 len) hown (wks W (staticW U16 115 Cmp5.yN)) (wk W Cmp5.tab) (W := 0) (Nat.le_of_ble_eq_true rfl) (Nat.le_of_ble_eq_true rfl) (Nat.le_refl _) (by show 0 + len + 0 ≤ len; omega) (g := (mkF m 9 #[.val (.ref b), .val (.int (Int32.ofNat o)), .val (.int (Int32.ofNat len)), .val (.ref s.heap.size), .unset, .unset] [.int (Int32.ofNat len), .int (Int32.ofNat 0), .ref s.heap.size, .int (Int32.ofNat o), .ref b])) rfl (by rw [hml]; rfl) c5 (argsL := [.ref b, .int (Int32.ofNat o), .ref s.heap.size, .int (Int32.ofNat 0), .int (Int32.ofNat len)]) (rest := []) rfl rfl (by show 2 * 0 + 0 ≤ _; decide) (hb hbytes d9) (⟨rfl, hA3, ba3, hne, l1, by rw [bs3]; simp, hp⟩)
  obtain ⟨rfl, B6, p6, f6⟩ := E6
  have c7 : Steps p.tables e below (s₁.setTop (entryFrame m #[.ref b, .int (Int32.ofNat o), .int (Int32.ofNat len)] 6)) (T6.setTop (mkF m 12 #[.val (.ref b), .val (.int (Int32.ofNat o)), .val (.int (Int32.ofNat len)), .val (.ref s.heap.size), .unset, .unset] [.int (Int32.ofNat len)])) := g6
  have c8 : Steps p.tables e below (s₁.setTop (entryFrame m #[.ref b, .int (Int32.ofNat o), .int (Int32.ofNat len)] 6)) (T6.setTop (mkF m 58 #[.val (.ref b), .val (.int (Int32.ofNat o)), .val (.int (Int32.ofNat len)), .val (.ref s.heap.size), .val (.int (Int32.ofNat len)), .unset] [.ref s.heap.size])) := c7.trans (by
    refine XS.istore X6.here hexec rfl (hb hbytes d12) rfl rfl ?_
    refine XS.iload X6.here hexec rfl (hb hbytes d14) rfl ?_
    refine XS.iloadN X6.here hexec rfl (hb hbytes d16) rfl ?_
    refine XS.icmpYes X6.here hexec rfl (pc0 := 17) rfl (hb hbytes d17) rfl (ii_eq_t rfl) (by decide) rfl ?_
    refine XS.aloadN X6.here hexec rfl (hb hbytes d57) rfl rfl ?_
    exact Steps.refl _)
  have X8 := X6.wide (L' := []) (cells' := 1) (slots' := len) (fun x hx hlt => by
    simp only [List.nil_append, copyLocs, List.mem_map, List.mem_range] at hx
    obtain ⟨i, -, rfl⟩ := hx
    exact absurd hlt (Nat.lt_irrefl _)) (Nat.le_refl _) (by omega)
  exact ⟨T6, some (.ref s.heap.size), _, _, _, X8, rfl, rfl, rfl, (fun h => by cases h), ⟨⟨rfl, B6, ba3.like (X3.warmed.alike.symm.trans X6.warmed.alike) p6.1 f6.1 f6.2.1 f6.2.2.1, f6.2.1.trans bv3, by rw [X6.warmed.alike.findClass, f6.1]; exact bf3, by rw [f6.2.2.1, bs3]; simp, fun j hj => by rw [f6.2.2.2 j, if_pos (by omega)]; rfl, kp3.put p6 (Nat.le_refl _)⟩, by rw [p6.2.2, bh3, hh0]; simp⟩, fun fs hl => c8.trans (X8.areturnOut hexec rfl hret rfl (hb hbytes d58) hl)⟩
end Cmp3
namespace CodL
def yN : MethodName := ⟨"java/lang/StringUTF16", "coderFromArrayLen", "([BI)B"⟩
abbrev yB : ByteArray := jdk_52_method_15_code
theorem d0 : decode yB 0 = .ok (.iload_n 1, 1) := by decide +kernel
theorem d1 : decode yB 1 = .ok (.aload_n 0, 1) := by decide +kernel
theorem d2 : decode yB 2 = .ok (.arraylength, 1) := by decide +kernel
theorem d3 : decode yB 3 = .ok (.isub, 1) := by decide +kernel
theorem d4 : decode yB 4 = .ok (.bipush 31, 2) := by decide +kernel
theorem d6 : decode yB 6 = .ok (.iushr, 1) := by decide +kernel
theorem d7 : decode yB 7 = .ok (.i2b, 1) := by decide +kernel
theorem d8 : decode yB 8 = .ok (.ireturn, 1) := by decide +kernel
def site : List Cond := []
def tab : Cond := tabOf yN yB 2 (some .byte) site
def P (d : Addr) (B : Cell) (args : Array Value) (s : State) : Prop := args = #[.ref d, .int (Int32.ofNat B.slots.size)] ∧ Arr .byte d B s
def E (r : Option Value) (s u : State) : Prop := XT.PureE (some (.int 0)) r s u
/-- an array as long as the number of chars: LATIN1 -/
theorem law (l : Launch) (d : Addr) (B : Cell) : Law l yN 2 2 0 0 yB 2 (some .byte) site (P d B) E [] 0 0 := by
  refine Law.of_walk (plainFor_of_name (by decide +kernel)) (by decide +kernel) (by decide +kernel) (by decide) (fun _ _ h => by rw [h.1]; rfl) (fun _ U U' hal hh h => ⟨h.1, h.2.mv hal hh⟩) (fun r U U' V V' h1 hal h2 h => XT.PureE.mv r U U' V V' h1 hal h2 h) ?_
  intro p e s m args below meth c s₁ X0 hexec hbytes hml hret hlk hnm hown hh0 W hP
  obtain ⟨rfl, hB⟩ := hP
  have hB0 := hB.mv X0.warmed.alike hh0
  have c1 : Steps p.tables e below (s₁.setTop (entryFrame m #[.ref d, .int (Int32.ofNat B.slots.size)] 2)) (s₁.setTop (mkF m 0 #[.val (.ref d), .val (.int (Int32.ofNat B.slots.size))] [])) := entry rfl
  have c2 : Steps p.tables e below (s₁.setTop (entryFrame m #[.ref d, .int (Int32.ofNat B.slots.size)] 2)) (s₁.setTop (mkF m 2 #[.val (.ref d), .val (.int (Int32.ofNat B.slots.size))] [.ref d, .int (Int32.ofNat B.slots.size)])) := c1.trans (by
    refine XS.iloadN X0.here hexec rfl (hb hbytes d0) rfl ?_
    refine XS.aloadN X0.here hexec rfl (hb hbytes d1) rfl rfl ?_
    exact Steps.refl _)
  have c3 : Steps p.tables e below (s₁.setTop (entryFrame m #[.ref d, .int (Int32.ofNat B.slots.size)] 2)) (s₁.setTop (mkF m 8 #[.val (.ref d), .val (.int (Int32.ofNat B.slots.size))] [.int (lo8 (ushr (Int32.ofNat B.slots.size - Int32.ofNat B.slots.size) 31))])) := c2.trans (by
    refine X0.alen hexec hB0 rfl rfl (hb hbytes d2) ?_
    refine XS.isub X0.here hexec rfl (hb hbytes d3) rfl ?_
    refine bipushV X0.here hexec rfl 31 (hb hbytes d4) (by decide) ?_
    refine iushr X0.here hexec rfl (hb hbytes d6) rfl ?_
    refine i2b X0.here hexec rfl (hb hbytes d7) rfl ?_
    exact Steps.refl _)
  have e0 : lo8 (ushr (Int32.ofNat B.slots.size - Int32.ofNat B.slots.size) 31) = 0 := by rw [Int32.sub_self]; decide
  rw [e0] at c3
  exact ⟨s₁, some (.int 0), _, _, _, X0, rfl, rfl, rfl, (fun h => by cases h), ⟨rfl, hh0⟩, fun fs hl => c3.trans (X0.ireturnOut hexec hret rfl (Or.inr (Or.inr (Or.inl rfl))) (hb hbytes d8) hl)⟩
end CodL
/-- the String at a is Latin-1 over a new byte[] (the heap's one new cell): the low bytes of the len chars of A from o on; every cell but a is kept -/
def Got (a : Addr) (D : Cell) (fV fC : Field) (A : Cell) (o len : Nat) (r : Option Value) (s u : State) : Prop := r = none ∧ ∃ D' V : Cell, Blank "java/lang/String" a D' u ∧ Same D D' [fV.slot, fC.slot] ∧ D'.slots[fV.slot]? = some (.ref s.heap.size) ∧ D'.slots[fC.slot]? = some (.int 0) ∧ Arr .byte s.heap.size V u ∧ V.vm = .none ∧ u.vm.findClass "[B" = some V.cls ∧ V.slots.size = len ∧ (∀ j, j < len → V.slots[j]? = some (.int (lo8 (cv A (o + j))))) ∧ (∀ (y : Addr) (c : Cell), y ≠ a → s.heap[y]? = some c → u.heap[y]? = some c) ∧ u.heap.size = s.heap.size + 1
theorem Got.mv {a : Addr} {D A : Cell} {fV fC : Field} {o len : Nat} : ∀ r (U U' V V' : State), U'.heap = U.heap → V.vm.Alike V'.vm → V'.heap = V.heap → Got a D fV fC A o len r U V → Got a D fV fC A o len r U' V' :=
  fun r U U' V V' h1 hal h2 ⟨e0, D', X, a1, a2, a3, a4, a5, a6, a7, a8, a9, a10, a11⟩ => ⟨e0, D', X, a1.mv hal h2, a2, by rw [h1]; exact a3, a4, by rw [h1]; exact a5.mv hal h2, a6, by rw [hal.findClass]; exact a7, a8, a9, by rw [h1, h2]; exact a10, by rw [h1, h2]; exact a11⟩
namespace New4
def yN : MethodName := ⟨"java/lang/String", "<init>", "([CIILjava/lang/Void;)V"⟩
abbrev yB : ByteArray := jdk_42_method_149_code
theorem d0 : decode yB 0 = .ok (.aload_n 0, 1) := by decide +kernel
theorem d1 : decode yB 1 = .ok (.invokespecial 1, 3) := by decide +kernel
theorem d4 : decode yB 4 = .ok (.iload_n 3, 1) := by decide +kernel
theorem d5 : decode yB 5 = .ok (.ifCond (.ne) 22, 3) := by decide +kernel
theorem d27 : decode yB 27 = .ok (.getstatic 38, 3) := by decide +kernel
theorem d30 : decode yB 30 = .ok (.ifCond (.eq) 28, 3) := by decide +kernel
theorem d33 : decode yB 33 = .ok (.aload_n 1, 1) := by decide +kernel
theorem d34 : decode yB 34 = .ok (.iload_n 2, 1) := by decide +kernel
theorem d35 : decode yB 35 = .ok (.iload_n 3, 1) := by decide +kernel
theorem d36 : decode yB 36 = .ok (.invokestatic 177, 3) := by decide +kernel
theorem d39 : decode yB 39 = .ok (.astore 5, 2) := by decide +kernel
theorem d41 : decode yB 41 = .ok (.aload_n 0, 1) := by decide +kernel
theorem d42 : decode yB 42 = .ok (.aload 5, 2) := by decide +kernel
theorem d44 : decode yB 44 = .ok (.iload_n 3, 1) := by decide +kernel
theorem d45 : decode yB 45 = .ok (.invokestatic 47, 3) := by decide +kernel
theorem d48 : decode yB 48 = .ok (.putfield 15, 3) := by decide +kernel
theorem d51 : decode yB 51 = .ok (.aload_n 0, 1) := by decide +kernel
theorem d52 : decode yB 52 = .ok (.aload 5, 2) := by decide +kernel
theorem d54 : decode yB 54 = .ok (.putfield 9, 3) := by decide +kernel
theorem d57 : decode yB 57 = .ok (.return_, 1) := by decide +kernel
def site : List Cond := [.fieldLink "java/lang/String" 38 "java/lang/String" "COMPACT_STRINGS" "Z", Cmp3.tab, CodL.tab, .laysFinal "java/lang/String" "java/lang/String" "value" "[B", .fieldLink "java/lang/String" 9 "java/lang/String" "value" "[B", .laysFinal "java/lang/String" "java/lang/String" "coder" "B", .fieldLink "java/lang/String" 15 "java/lang/String" "coder" "B"] ++ objW "java/lang/String" 1 ++ staticW "java/lang/String" 177 Cmp3.yN ++ staticW "java/lang/String" 47 CodL.yN
def tab : Cond := tabOf yN yB 6 none site
def P (a : Addr) (D : Cell) (fV fC : Field) (b : Addr) (A : Cell) (z : Int32) (o len : Nat) (args : Array Value) (s : State) : Prop := args = #[.ref a, .ref b, .int (Int32.ofNat o), .int (Int32.ofNat len), .null] ∧ Blank "java/lang/String" a D s ∧ Found "java/lang/String" "value" "[B" fV s ∧ Found "java/lang/String" "coder" "B" fC s ∧ Ch b A s ∧ StaticIs s "java/lang/String" "COMPACT_STRINGS" "Z" (.int z) ∧ ¬ z = 0 ∧ 0 < len ∧ o + len ≤ A.slots.size ∧ len ≤ 536870912 ∧ ∀ i, i < len → ¬ 255 < cv A (o + i)
def E (a : Addr) (D : Cell) (fV fC : Field) (A : Cell) (o len : Nat) (r : Option Value) (s u : State) : Prop := Got a D fV fC A o len r s u
/-- len > 0, no char of the range above 255: a Latin-1 String of their low bytes -/
theorem law (l : Launch) (a : Addr) (D : Cell) (fV fC : Field) (b : Addr) (A : Cell) (z : Int32) (o len : Nat) : Law l yN 5 4 2 35 yB 6 none site (P a D fV fC b A z o len) (E a D fV fC A o len) [⟨a, fC.slot⟩, ⟨a, fV.slot⟩] 1 len := by
  refine Law.of_walk (plainFor_of_name (by decide +kernel)) (by decide +kernel) (by decide +kernel) (by decide) (fun _ _ h => by rw [h.1]; rfl) (fun _ U U' hal hh h => ⟨h.1, h.2.1.mv hal hh, h.2.2.1.al hal, h.2.2.2.1.al hal, h.2.2.2.2.1.mv hal hh, h.2.2.2.2.2.1.there hal hh, h.2.2.2.2.2.2⟩) (fun r U U' V V' h1 hal h2 h => Got.mv r U U' V V' h1 hal h2 h) ?_
  intro p e s m args below meth c s₁ X0 hexec hbytes hml hret hlk hnm hown hh0 W hP
  obtain ⟨rfl, hB, f1, f2, hA, s1, hz, l0, l1, l2, hp⟩ := hP
  have a31 := hA.1.2.2.2
  have c1 : Steps p.tables e below (s₁.setTop (entryFrame m #[.ref a, .ref b, .int (Int32.ofNat o), .int (Int32.ofNat len), .null] 6)) (s₁.setTop (mkF m 0 #[.val (.ref a), .val (.ref b), .val (.int (Int32.ofNat o)), .val (.int (Int32.ofNat len)), .val .null, .unset] [])) := entry rfl
  have c2 : Steps p.tables e below (s₁.setTop (entryFrame m #[.ref a, .ref b, .int (Int32.ofNat o), .int (Int32.ofNat len), .null] 6)) (s₁.setTop (mkF m 1 #[.val (.ref a), .val (.ref b), .val (.int (Int32.ofNat o)), .val (.int (Int32.ofNat len)), .val .null, .unset] [.ref a])) := c1.trans (by
    refine XS.aloadN X0.here hexec rfl (hb hbytes d0) rfl rfl ?_
    exact Steps.refl _)
  obtain ⟨T3, X3, q3, st3⟩ := X0.oinit hexec hown (wks W (objW "java/lang/String" 1)) (g := (mkF m 1 #[.val (.ref a), .val (.ref b), .val (.int (Int32.ofNat o)), .val (.int (Int32.ofNat len)), .val .null, .unset] [.ref a])) rfl (by rw [hml]; rfl) (rest := []) rfl (hb hbytes d1) (W := 0) (by show 2 * 0 + 0 ≤ _; decide) (Nat.le_of_ble_eq_true rfl) (Nat.le_of_ble_eq_true rfl)
  have hh3 := q3.trans hh0
  have c4 : Steps p.tables e below (s₁.setTop (entryFrame m #[.ref a, .ref b, .int (Int32.ofNat o), .int (Int32.ofNat len), .null] 6)) (T3.setTop (mkF m 27 #[.val (.ref a), .val (.ref b), .val (.int (Int32.ofNat o)), .val (.int (Int32.ofNat len)), .val .null, .unset] [])) := (c2.trans (st3 _ (Steps.refl _))).trans (by
    refine XS.iloadN X3.here hexec rfl (hb hbytes d4) rfl ?_
    refine XS.ifYes X3.here hexec rfl (pc0 := 5) rfl (hb hbytes d5) rfl (i0_ne_t (nz32 (by omega) l0)) (by decide) rfl ?_
    exact Steps.refl _)
  obtain ⟨T5, X5, q5, st5⟩ := X3.sget hexec hown (wk W (.fieldLink "java/lang/String" 38 "java/lang/String" "COMPACT_STRINGS" "Z")) s1 (fun _ _ h => by rw [hh3]; exact h) (g := (mkF m 27 #[.val (.ref a), .val (.ref b), .val (.int (Int32.ofNat o)), .val (.int (Int32.ofNat len)), .val .null, .unset] [])) rfl (hb hbytes d27)
  have hh5 := q5.trans hh3
  have c6 : Steps p.tables e below (s₁.setTop (entryFrame m #[.ref a, .ref b, .int (Int32.ofNat o), .int (Int32.ofNat len), .null] 6)) (T5.setTop (mkF m 30 #[.val (.ref a), .val (.ref b), .val (.int (Int32.ofNat o)), .val (.int (Int32.ofNat len)), .val .null, .unset] [.int z])) := c4.trans (st5 _ (Steps.refl _))
  have c7 : Steps p.tables e below (s₁.setTop (entryFrame m #[.ref a, .ref b, .int (Int32.ofNat o), .int (Int32.ofNat len), .null] 6)) (T5.setTop (mkF m 36 #[.val (.ref a), .val (.ref b), .val (.int (Int32.ofNat o)), .val (.int (Int32.ofNat len)), .val .null, .unset] [.int (Int32.ofNat len), .int (Int32.ofNat o), .ref b])) := c6.trans (by
    refine XS.ifNo X5.here hexec rfl (hb hbytes d30) rfl (i0_eq_f hz) ?_
    refine XS.aloadN X5.here hexec rfl (hb hbytes d33) rfl rfl ?_
    refine XS.iloadN X5.here hexec rfl (hb hbytes d34) rfl ?_
    refine XS.iloadN X5.here hexec rfl (hb hbytes d35) rfl ?_
    exact Steps.refl _)
  obtain ⟨v8, T8, X8, E8, g8⟩ := X5.callS hexec (Cmp3.law l b A o len) hown (wks W (staticW "java/lang/String" 177 Cmp3.yN)) (wk W Cmp3.tab) (W := 0) (Nat.le_of_ble_eq_true rfl) (Nat.le_of_ble_eq_true rfl) (Nat.le_refl _) (by show 0 + len ≤ len; omega) (g := (mkF m 36 #[.val (.ref a), .val (.ref b), .val (.int (Int32.ofNat o)), .val (.int (Int32.ofNat len)), .val .null, .unset] [.int (Int32.ofNat len), .int (Int32.ofNat o), .ref b])) rfl (by rw [hml]; rfl) c7 (argsL := [.ref b, .int (Int32.ofNat o), .int (Int32.ofNat len)]) (rest := []) rfl rfl (by show 2 * 0 + 0 ≤ _; decide) (hb hbytes d36) (⟨rfl, hA.mv X5.warmed.alike hh5, l1, l2, hp⟩)
  obtain ⟨e8, z8⟩ := E8
  obtain ⟨rfl, N, n1, n2, n3, n4, n5, n6⟩ := NewArr.mv _ T5 s _ _ hh5.symm (Vm.Alike.refl _) rfl e8
  rw [hh5] at z8
  have hB1 := hB.keep X8.warmed.alike (n6 _ _ hB.1)
  have hne : s.heap.size ≠ a := (Nat.ne_of_lt (Array.getElem?_eq_some_iff.mp hB.1).1).symm
  have c9 : Steps p.tables e below (s₁.setTop (entryFrame m #[.ref a, .ref b, .int (Int32.ofNat o), .int (Int32.ofNat len), .null] 6)) (T8.setTop (mkF m 39 #[.val (.ref a), .val (.ref b), .val (.int (Int32.ofNat o)), .val (.int (Int32.ofNat len)), .val .null, .unset] [.ref s.heap.size])) := g8
  have c10 : Steps p.tables e below (s₁.setTop (entryFrame m #[.ref a, .ref b, .int (Int32.ofNat o), .int (Int32.ofNat len), .null] 6)) (T8.setTop (mkF m 45 #[.val (.ref a), .val (.ref b), .val (.int (Int32.ofNat o)), .val (.int (Int32.ofNat len)), .val .null, .val (.ref s.heap.size)] [.int (Int32.ofNat N.slots.size), .ref s.heap.size, .ref a])) := by
    have hc : Steps p.tables e below (s₁.setTop (entryFrame m #[.ref a, .ref b, .int (Int32.ofNat o), .int (Int32.ofNat len), .null] 6)) (T8.setTop (mkF m 45 #[.val (.ref a), .val (.ref b), .val (.int (Int32.ofNat o)), .val (.int (Int32.ofNat len)), .val .null, .val (.ref s.heap.size)] [.int (Int32.ofNat len), .ref s.heap.size, .ref a])) := c9.trans (by
      refine XS.astore X8.here hexec rfl (hb hbytes d39) rfl rfl rfl ?_
      refine XS.aloadN X8.here hexec rfl (hb hbytes d41) rfl rfl ?_
      refine XS.aload X8.here hexec rfl (hb hbytes d42) rfl rfl ?_
      refine XS.iloadN X8.here hexec rfl (hb hbytes d44) rfl ?_
      exact Steps.refl _)
    rw [n4]; exact hc
  obtain ⟨v11, T11, X11, E11, g11⟩ := X8.callS hexec (CodL.law l s.heap.size N) hown (wks W (staticW "java/lang/String" 47 CodL.yN)) (wk W CodL.tab) (W := 1) (Nat.le_of_ble_eq_true rfl) (Nat.le_of_ble_eq_true rfl) (Nat.le_refl _) (by show 0 + len + 0 ≤ len; omega) (g := (mkF m 45 #[.val (.ref a), .val (.ref b), .val (.int (Int32.ofNat o)), .val (.int (Int32.ofNat len)), .val .null, .val (.ref s.heap.size)] [.int (Int32.ofNat N.slots.size), .ref s.heap.size, .ref a])) rfl (by rw [hml]; rfl) c10 (argsL := [.ref s.heap.size, .int (Int32.ofNat N.slots.size)]) (rest := [.ref a]) rfl rfl (by show 2 * 0 + (1 + 0) ≤ _; decide) (hb hbytes d45) (⟨rfl, n1⟩)
  obtain ⟨rfl, q11⟩ := E11
  have hB11 := hB1.mv (X8.warmed.alike.symm.trans X11.warmed.alike) q11
  have c12 : Steps p.tables e below (s₁.setTop (entryFrame m #[.ref a, .ref b, .int (Int32.ofNat o), .int (Int32.ofNat len), .null] 6)) (T11.setTop (mkF m 48 #[.val (.ref a), .val (.ref b), .val (.int (Int32.ofNat o)), .val (.int (Int32.ofNat len)), .val .null, .val (.ref s.heap.size)] [.int 0, .ref a])) := g11
  obtain ⟨T13, X13, p13, bl13, sl13, st13⟩ := X11.finit hexec hown (wk W (.fieldLink "java/lang/String" 15 "java/lang/String" "coder" "B")) (Or.inr ⟨_, (wk W (.laysFinal "java/lang/String" "java/lang/String" "coder" "B"))⟩) (Or.inl ⟨rfl, hnm⟩) f2 (Or.inl rfl) hB11 (t := .byte) (by decide +kernel) rfl (g := (mkF m 48 #[.val (.ref a), .val (.ref b), .val (.int (Int32.ofNat o)), .val (.int (Int32.ofNat len)), .val .null, .val (.ref s.heap.size)] [.int 0, .ref a])) rfl (rest := []) rfl (hb hbytes d48)
  have c14 : Steps p.tables e below (s₁.setTop (entryFrame m #[.ref a, .ref b, .int (Int32.ofNat o), .int (Int32.ofNat len), .null] 6)) (T13.setTop (mkF m 54 #[.val (.ref a), .val (.ref b), .val (.int (Int32.ofNat o)), .val (.int (Int32.ofNat len)), .val .null, .val (.ref s.heap.size)] [.ref s.heap.size, .ref a])) := (c12.trans (st13 _ (Steps.refl _))).trans (by
    refine XS.aloadN X13.here hexec rfl (hb hbytes d51) rfl rfl ?_
    refine XS.aload X13.here hexec rfl (hb hbytes d52) rfl rfl ?_
    exact Steps.refl _)
  obtain ⟨T15, X15, p15, bl15, sl15, st15⟩ := X13.finit hexec hown (wk W (.fieldLink "java/lang/String" 9 "java/lang/String" "value" "[B")) (Or.inr ⟨_, (wk W (.laysFinal "java/lang/String" "java/lang/String" "value" "[B"))⟩) (Or.inl ⟨rfl, hnm⟩) f1 (Or.inl rfl) bl13 (t := (.array .byte)) (by decide +kernel) rfl (g := (mkF m 54 #[.val (.ref a), .val (.ref b), .val (.int (Int32.ofNat o)), .val (.int (Int32.ofNat len)), .val .null, .val (.ref s.heap.size)] [.ref s.heap.size, .ref a])) rfl (rest := []) rfl (hb hbytes d54)
  have c16 : Steps p.tables e below (s₁.setTop (entryFrame m #[.ref a, .ref b, .int (Int32.ofNat o), .int (Int32.ofNat len), .null] 6)) (T15.setTop (mkF m 57 #[.val (.ref a), .val (.ref b), .val (.int (Int32.ofNat o)), .val (.int (Int32.ofNat len)), .val .null, .val (.ref s.heap.size)] [])) := c14.trans (st15 _ (Steps.refl _))
  have ap := apart (Or.inr ⟨_, (wk W (.laysFinal "java/lang/String" "java/lang/String" "value" "[B"))⟩) (Or.inr ⟨_, (wk W (.laysFinal "java/lang/String" "java/lang/String" "coder" "B"))⟩) f1 f2 (t₁ := .array .byte) (t₂ := .byte) (by decide +kernel) (by decide +kernel) (by decide)
  have al := X8.warmed.alike.symm.trans X15.warmed.alike
  have n7 : T11.heap[s.heap.size]? = some N := by rw [q11]; exact n1.1
  exact ⟨T15, none, _, _, _, X15, by simp, rfl, by omega, (fun _ => rfl), ⟨rfl, _, N, bl15, ((Same.refl D _).set _ (by simp)).set _ (by simp), sl15, (Cell.slots_setSlot_ne _ ap).trans sl13, n1.keep al (p15.other hne (p13.other hne n7)), n2, by rw [al.findClass]; exact n3, n4, n5, fun y c h1 h2 => p15.other h1 (p13.other h1 (by rw [q11]; exact n6 y c h2)), by rw [p15.2.2, p13.2.2, q11]; exact z8⟩, fun fs hl => c16.trans (X15.returnOut hexec hret (hb hbytes d57) hl)⟩
end New4
namespace New1
def yN : MethodName := ⟨"java/lang/String", "<init>", "([C)V"⟩
abbrev yB : ByteArray := jdk_42_method_3_code
theorem d0 : decode yB 0 = .ok (.aload_n 0, 1) := by decide +kernel
theorem d1 : decode yB 1 = .ok (.aload_n 1, 1) := by decide +kernel
theorem d2 : decode yB 2 = .ok (.iconst 0, 1) := by decide +kernel
theorem d3 : decode yB 3 = .ok (.aload_n 1, 1) := by decide +kernel
theorem d4 : decode yB 4 = .ok (.arraylength, 1) := by decide +kernel
theorem d5 : decode yB 5 = .ok (.aconst_null, 1) := by decide +kernel
theorem d6 : decode yB 6 = .ok (.invokespecial 27, 3) := by decide +kernel
theorem d9 : decode yB 9 = .ok (.return_, 1) := by decide +kernel
def site : List Cond := [New4.tab] ++ initW "java/lang/String" 27 New4.yN
def tab : Cond := tabOf yN yB 2 none site
def P (a : Addr) (D : Cell) (fV fC : Field) (b : Addr) (A : Cell) (z : Int32) (args : Array Value) (s : State) : Prop := args = #[.ref a, .ref b] ∧ Blank "java/lang/String" a D s ∧ Found "java/lang/String" "value" "[B" fV s ∧ Found "java/lang/String" "coder" "B" fC s ∧ Ch b A s ∧ StaticIs s "java/lang/String" "COMPACT_STRINGS" "Z" (.int z) ∧ ¬ z = 0 ∧ 0 < A.slots.size ∧ A.slots.size ≤ 536870912 ∧ ∀ i, i < A.slots.size → ¬ 255 < cv A i
def E (a : Addr) (D : Cell) (fV fC : Field) (A : Cell) (r : Option Value) (s u : State) : Prop := Got a D fV fC A 0 A.slots.size r s u
/-- new String(chars), not empty, no char above 255: a Latin-1 String of their low bytes -/
theorem law (l : Launch) (a : Addr) (D : Cell) (fV fC : Field) (b : Addr) (A : Cell) (z : Int32) : Law l yN 2 1 3 52 yB 2 none site (P a D fV fC b A z) (E a D fV fC A) [⟨a, fC.slot⟩, ⟨a, fV.slot⟩] 1 A.slots.size := by
  refine Law.of_walk (plainFor_of_name (by decide +kernel)) (by decide +kernel) (by decide +kernel) (by decide) (fun _ _ h => by rw [h.1]; rfl) (fun _ U U' hal hh h => ⟨h.1, h.2.1.mv hal hh, h.2.2.1.al hal, h.2.2.2.1.al hal, h.2.2.2.2.1.mv hal hh, h.2.2.2.2.2.1.there hal hh, h.2.2.2.2.2.2⟩) (fun r U U' V V' h1 hal h2 h => Got.mv r U U' V V' h1 hal h2 h) ?_
  intro p e s m args below meth c s₁ X0 hexec hbytes hml hret hlk hnm hown hh0 W hP
  obtain ⟨rfl, hB, f1, f2, hA, s1, hz, l0, l2, hp⟩ := hP
  have c1 : Steps p.tables e below (s₁.setTop (entryFrame m #[.ref a, .ref b] 2)) (s₁.setTop (mkF m 0 #[.val (.ref a), .val (.ref b)] [])) := entry rfl
  have c2 : Steps p.tables e below (s₁.setTop (entryFrame m #[.ref a, .ref b] 2)) (s₁.setTop (mkF m 6 #[.val (.ref a), .val (.ref b)] [.null, .int (Int32.ofNat A.slots.size), .int 0, .ref b, .ref a])) := c1.trans (by
    refine XS.aloadN X0.here hexec rfl (hb hbytes d0) rfl rfl ?_
    refine XS.aloadN X0.here hexec rfl (hb hbytes d1) rfl rfl ?_
    refine iconstV X0.here hexec rfl 0 (hb hbytes d2) (by decide) ?_
    refine XS.aloadN X0.here hexec rfl (hb hbytes d3) rfl rfl ?_
    refine X0.alen hexec (hA.1.mv X0.warmed.alike hh0) rfl rfl (hb hbytes d4) ?_
    refine XS.aconstNull X0.here hexec rfl (hb hbytes d5) ?_
    exact Steps.refl _)
  obtain ⟨v3, T3, X3, E3, g3⟩ := X0.callN hexec (New4.law l a D fV fC b A z 0 A.slots.size) rfl hown (wks W (initW "java/lang/String" 27 New4.yN)) (W New4.tab (by simp only [site, List.mem_cons, List.mem_append, true_or, or_true])) (W := 0) (Nat.le_of_ble_eq_true rfl) (Nat.le_of_ble_eq_true rfl) (Nat.le_refl _) (by show 0 + A.slots.size ≤ A.slots.size; omega) (g := (mkF m 6 #[.val (.ref a), .val (.ref b)] [.null, .int (Int32.ofNat A.slots.size), .int (Int32.ofNat 0), .ref b, .ref a])) rfl (by rw [hml]; rfl) c2 (argsL := [.ref b, .int (Int32.ofNat 0), .int (Int32.ofNat A.slots.size), .null]) (rest := []) rfl rfl (by show 2 * 0 + 0 ≤ _; decide) (hb hbytes d6) (⟨rfl, hB.mv X0.warmed.alike hh0, f1.al X0.warmed.alike, f2.al X0.warmed.alike, hA.mv X0.warmed.alike hh0, s1.there X0.warmed.alike hh0, hz, l0, by omega, l2, fun i hi => by rw [Nat.zero_add]; exact hp i hi⟩)
  have e0 := Got.mv _ s₁ s _ _ hh0.symm (Vm.Alike.refl _) rfl E3
  obtain rfl := e0.1
  have c4 : Steps p.tables e below (s₁.setTop (entryFrame m #[.ref a, .ref b] 2)) (T3.setTop (mkF m 9 #[.val (.ref a), .val (.ref b)] [])) := g3
  exact ⟨T3, none, _, _, _, X3, by simp, rfl, by omega, (fun _ => rfl), e0, fun fs hl => c4.trans (X3.returnOut hexec hret (hb hbytes d9) hl)⟩
theorem pays {l : Launch} {R : Room} {p : Program} {e : Env} {below : List Frame} {s : State} {sargs : Array Value} {len W : Nat} (a : Addr) (D : Cell) (fV fC : Field) (b : Addr) (A : Cell) (z : Int32) (htab : tab.before sargs s = true) (hfr : 4 ≤ R.frames) (hlo : W + 65 ≤ R.locals) :
    Back l R p e below s sargs yN len W (fun A₁ a₁ => A₁.cells + 1 ≤ R.cells ∧ A₁.slots + A.slots.size ≤ R.slots ∧ P a D fV fC b A z a₁ A₁.U) (fun A₁ _ v₁ B₁ => E a D fV fC A v₁ A₁.U B₁.U ∧ B₁.locs = A₁.locs ++ [⟨a, fC.slot⟩, ⟨a, fV.slot⟩] ∧ B₁.cells = A₁.cells + 1 ∧ B₁.slots = A₁.slots + A.slots.size) :=
  (law l a D fV fC b A z).pays htab hfr (by omega)
end New1
end StrChars
namespace StrChars.Road
open Jvm Sem ClassFile Op Lib Jvm.Stand Jvm.Free Jvm.Free.XT
open Jvm.Lib.Cold (StaticIs)
abbrev ST : String := "java/lang/String"
/-- every table word that New1's law asks, flat -/
abbrev words : List Jvm.Cond := [.code New1.yN New1.yB 2 none, .initialized ST, .methodLink ST 27 New4.yN, .instanceMethod New4.yN,
  .code New4.yN New4.yB 6 none, .fieldLink ST 38 ST "COMPACT_STRINGS" "Z", .laysFinal ST ST "value" "[B", .fieldLink ST 9 ST "value" "[B", .laysFinal ST ST "coder" "B", .fieldLink ST 15 ST "coder" "B",
  .methodLink ST 1 Lib.objectInit, .instanceMethod Lib.objectInit, .code Lib.objectInit ⟨#[0xb1]⟩ 1 none, .methodLink ST 177 Cmp3.yN, .static Cmp3.yN, .methodLink ST 47 CodL.yN, .static CodL.yN,
  .code Cmp3.yN Cmp3.yB 6 (some (.array .byte)), .initialized U16, .arrayClass .byte, .methodLink U16 115 Cmp5.yN, .static Cmp5.yN, .code Cmp5.yN Cmp5.yB 7 (some .int), .code CodL.yN CodL.yB 2 (some .byte)]
theorem tab_of {a : Array Value} {s : State} (h : ∀ w ∈ words, w.before a s = true) : New1.tab.before a s = true := by
  have h5 : Cmp5.tab.before a s = true := unparts (wk h (.code Cmp5.yN Cmp5.yB 7 (some .int))) (wks h (.initialized Cmp5.yN.cls :: Cmp5.site))
  have hc : CodL.tab.before a s = true := unparts (wk h (.code CodL.yN CodL.yB 2 (some .byte))) (wks h (.initialized CodL.yN.cls :: CodL.site))
  have q5 : ∀ w ∈ Cmp5.tab :: words, w.before a s = true := fun w hw => (List.mem_cons.mp hw).elim (fun e => e ▸ h5) (h w)
  have h3 : Cmp3.tab.before a s = true := unparts (wk q5 (.code Cmp3.yN Cmp3.yB 6 (some (.array .byte)))) (wks q5 (.initialized Cmp3.yN.cls :: Cmp3.site))
  have q3 : ∀ w ∈ Cmp3.tab :: CodL.tab :: words, w.before a s = true := fun w hw => (List.mem_cons.mp hw).elim (fun e => e ▸ h3) fun hw => (List.mem_cons.mp hw).elim (fun e => e ▸ hc) (h w)
  have h4 : New4.tab.before a s = true := unparts (wk q3 (.code New4.yN New4.yB 6 none)) (wks q3 (.initialized New4.yN.cls :: New4.site))
  have q4 : ∀ w ∈ New4.tab :: words, w.before a s = true := fun w hw => (List.mem_cons.mp hw).elim (fun e => e ▸ h4) (h w)
  exact unparts (wk q4 (.code New1.yN New1.yB 2 none)) (wks q4 (.initialized New1.yN.cls :: New1.site))
/-- the words ride from the start Z to the walk's own state -/
theorem moved {Z s : State} {a0 args : Array Value} (hZ : Z.Warmed39 s.vm) (hw : ∀ d ∈ words, d.before a0 Z = true) : ∀ d ∈ words, d.before args s = true := fun d hd => by
  have q := hw d hd
  have t : ∀ d ∈ words, d = .arrayClass .byte ∨ (d.onTables && d.keepsFace) = true := by decide +kernel
  rcases t d hd with rfl | t
  · exact RoadKit.mvA hZ q
  · exact RoadKit.mv hZ q t
/-- WHAT COMES BACK, over the tables of the start Z: h the heap at the call, h' behind it -/
def Q (Z : State) (x : Addr) (A : Cell) (h : Heap) (v : Option Value) (h' : Heap) (L : List Loc) : Prop := v = none ∧ (∀ y ∈ L, y.base = x) ∧ RoadKit.Keep h h' [x] ∧ h'.size = h.size + 1 ∧ RoadKit.Exa Z h' x ST ∧ RoadKit.Fld Z h' x ST "value" "[B" (.ref h.size) ∧ RoadKit.Fld Z h' x ST "coder" "B" (.int 0) ∧
  (∃ V : Cell, RoadKit.Arr Z h' h.size V .byte ∧ V.vm = .none ∧ Z.vm.findClass "[B" = some V.cls ∧ V.slots.size = A.slots.size ∧ ∀ j, j < A.slots.size → V.slots[j]? = some (.int (lo8 (cv A j)))) ∧
  ∀ (O n d : String) (w : Value), RoadKit.Fld Z h x O n d w → RoadKit.slotOf Z O n d ≠ RoadKit.slotOf Z ST "value" "[B" → RoadKit.slotOf Z O n d ≠ RoadKit.slotOf Z ST "coder" "B" → RoadKit.Fld Z h' x O n d w
/-- **new String(chars) AT A CALL, IN THE ROAD'S FORM**: for specialBack behind newO: x the fresh String, b the char[] with the cell A -/
theorem back {p : Program} {l : Launch} {e : Env} {R : Room} {s : State} {args : Array Value} {below : List Frame} {len W : Nat} {Z : State} {a0 : Array Value} {h : Heap} (hZ : Z.Warmed39 s.vm) (hw : ∀ d ∈ words, d.before a0 Z = true) {kI : Nat} (wi : (Jvm.Cond.instantiable ST kI).before a0 Z = true)
    {x b : Addr} {A : Cell} {z : Int32} {v0 c0 : Value} (E : RoadKit.Exa Z h x ST) (V : RoadKit.Fld Z h x ST "value" "[B" v0) (C : RoadKit.Fld Z h x ST "coder" "B" c0) (K : RoadKit.Arr Z h b A .char) (hty : Typed .char A) (S : RoadKit.Sta Z h ST "COMPACT_STRINGS" "Z" (.int z)) (hz : ¬ z = 0)
    (l0 : 0 < A.slots.size) (l2 : A.slots.size ≤ 536870912) (hp : ∀ i, i < A.slots.size → ¬ 255 < cv A i) (hfr : 4 ≤ R.frames) (hlo : W + 65 ≤ R.locals) :
    Back l R p e below s args New1.yN len W (fun P a => a = #[.ref x, .ref b] ∧ P.U.heap = h ∧ P.cells + 1 ≤ R.cells ∧ P.slots + A.slots.size ≤ R.slots)
      (fun P _ v B => ∃ L, Q Z x A h v B.U.heap L ∧ B.locs = P.locs ++ L ∧ B.cells = P.cells + 1 ∧ B.slots = P.slots + A.slots.size) := by
  intro m meth c P g ig mk a X hg hsize hdg hW hn hp'
  obtain ⟨rfl, rfl, r1, r2⟩ := hp'
  have al : Z.vm.Alike P.U.vm := hZ.alike.trans X.warmed.alike
  obtain ⟨D, cfV, kV, iV, fV, hD, gV, stV, knV, obV, asV, slV⟩ := id V
  obtain ⟨D', cfC, kC, iC, fC, hD', gC, stC, -, -, asC, slC⟩ := id C
  cases hD.symm.trans hD'
  obtain ⟨D2, kD, e1, e2, e3, e4, e5⟩ := id E
  cases hD.symm.trans e1
  obtain ⟨c2, k2, i1, i2, i3, -⟩ := Cond.instantiable_spec wi
  cases e2.symm.trans i1
  cases e3.symm.trans i2
  obtain ⟨kU, u1, u2⟩ := al.2.2 _ _ e3
  have hB : Blank ST x D P.U := ⟨hD, ⟨knV, fun q hq => by rw [hq] at obV; cases obV⟩, by rw [al.findClass]; exact e2, kU, u1, by rw [u2]; exact i3, by rw [u2]; exact e5 i3⟩
  have F1 : Found ST "value" "[B" fV P.U := ⟨SBG.found_only al ⟨cfV, kV, iV, gV⟩, stV⟩
  have F2 : Found ST "coder" "B" fC P.U := ⟨SBG.found_only al ⟨cfC, kC, iC, gC⟩, stC⟩
  have hA : Ch b A P.U := ⟨⟨K.1, State.isArrayOf_alike al K.2.1, K.2.2, by omega⟩, hty⟩
  have hS : StaticIs P.U ST "COMPACT_STRINGS" "Z" (.int z) := by
    obtain ⟨cfS, iS, kS, fS, st, cS, t1, t2, t3, t4, t5, t6, t7⟩ := S
    exact StaticIs.there (s := { Z with heap := P.U.heap }) ⟨cfS, iS, kS, fS, st, cS, t1, t2, t3, t4, t5, (fun q => by rw [q] at t6; cases t6), t7⟩ al rfl
  obtain ⟨v, B, X', ⟨⟨hv, E', V', q1, q2, q3, q4, q5, q6, q7, q8, q9, q10, q11⟩, hl, hc, hs⟩, st⟩ := New1.pays x D fV fC b A z (tab_of (moved hZ hw)) hfr hlo m meth c P g ig mk _ X hg hsize hdg hW hn ⟨r1, r2, rfl, hB, F1, F2, hA, hS, hz, l0, l2, hp⟩
  have al' : Z.vm.Alike B.U.vm := hZ.alike.trans X'.warmed.alike
  have hsz : E'.slots.size = D.slots.size := by
    obtain ⟨-, -, -, kB, w1, w2, w3⟩ := q1
    obtain ⟨kB', y1, y2⟩ := al'.2.2 _ _ e3
    rw [q2.2.1] at w1
    cases w1.symm.trans y1
    rw [w3, e5 i3, y2]
  refine ⟨v, B, X', ⟨_, ⟨hv, ?_, ⟨by omega, fun y cy hy hn' => q10 y cy (by simpa using hn') hy, fun y cy hy => ?_⟩, q11, ⟨E', _, q1.1, by rw [q2.2.1]; exact e2, by rw [q2.2.1]; exact e3, by rw [q2.1]; exact obV, fun _ => by rw [hsz]; exact e5 i3⟩,
    ⟨E', cfV, kV, iV, fV, q1.1, gV, stV, by rw [q2.1]; exact knV, by rw [q2.1]; exact obV, by rw [q2.2.1]; exact asV, q3⟩, ⟨E', cfC, kC, iC, fC, q1.1, gC, stC, by rw [q2.1]; exact knV, by rw [q2.1]; exact obV, by rw [q2.2.1]; exact asC, q4⟩,
    ⟨V', ⟨q5.1, State.isArrayOf_alike al'.symm q5.2.1, q5.2.2.1⟩, q6, by rw [← al'.findClass]; exact q7, q8, fun j hj => by have := q9 j hj; rwa [Nat.zero_add] at this⟩, fun O n d w F n1 n2 => ?_⟩, hl, hc, hs⟩, st⟩
  · intro y hy
    simp only [List.mem_cons, List.not_mem_nil, or_false] at hy
    rcases hy with rfl | rfl <;> rfl
  · by_cases q : y = x
    · subst q
      cases hD.symm.trans hy
      exact ⟨E', q1.1, q2.2.1, q2.1, hsz⟩
    · exact ⟨cy, q10 y cy q hy, rfl, rfl, rfl⟩
  · obtain ⟨D3, cf, k, i, f, g1, g2, g3, g4, g5, g6, g7⟩ := F
    cases hD.symm.trans g1
    simp only [RoadKit.slotOf, g2, gV, gC, Option.map_some, Option.getD_some] at n1 n2
    exact ⟨E', cf, k, i, f, q1.1, g2, g3, by rw [q2.1]; exact g4, by rw [q2.1]; exact g5, by rw [q2.2.1]; exact g6, by rw [q2.2.2 f.slot (by simp [n1, n2])]; exact g7⟩
end StrChars.Road
namespace StrChars.Road
open Jvm Sem ClassFile Op Lib Jvm.Stand Jvm.Free Jvm.Free.XT
/-- WHAT COMES BACK, the byte[] as a list of values -/
def QA (Z : State) (x : Addr) (zn : Int32) (cs : List Int32) (h : Heap) (v : Option Value) (h' : Heap) (L : List Loc) : Prop := v = none ∧ (∀ y ∈ L, y.base = x) ∧ RoadKit.Keep h h' [x] ∧ h'.size = h.size + 1 ∧ RoadKit.Exa Z h' x ST ∧ RoadKit.Fld Z h' x ST "value" "[B" (.ref h.size) ∧ RoadKit.Fld Z h' x ST "coder" "B" (.int 0) ∧
  (∃ kb, Z.vm.findClass "[B" = some kb ∧ RoadKit.Arv Z h' h.size kb .byte zn (cs.map fun c => .int (lo8 c)) (.int 0)) ∧
  ∀ (O n d : String) (w : Value), RoadKit.Fld Z h x O n d w → RoadKit.slotOf Z O n d ≠ RoadKit.slotOf Z ST "value" "[B" → RoadKit.slotOf Z O n d ≠ RoadKit.slotOf Z ST "coder" "B" → RoadKit.Fld Z h' x O n d w
/-- **new String(chars) AT A CALL, THE ARRAYS AS LISTS**: the char[] at b holds cs, not empty, no char above 255 -/
theorem backArv {p : Program} {l : Launch} {e : Env} {R : Room} {s : State} {args : Array Value} {below : List Frame} {len W : Nat} {Z : State} {a0 : Array Value} {h : Heap} (hZ : Z.Warmed39 s.vm) (hw : ∀ d ∈ words, d.before a0 Z = true) {kI : Nat} (wi : (Jvm.Cond.instantiable ST kI).before a0 Z = true)
    {x b : Addr} {k : ClassId} {zn z : Int32} {cs : List Int32} {dv v0 c0 : Value} (E : RoadKit.Exa Z h x ST) (V : RoadKit.Fld Z h x ST "value" "[B" v0) (C : RoadKit.Fld Z h x ST "coder" "B" c0) (K : RoadKit.Arv Z h b k .char zn (cs.map Value.int) dv) (S : RoadKit.Sta Z h ST "COMPACT_STRINGS" "Z" (.int z)) (hz : ¬ z = 0)
    (hlen : zn.toNatClampNeg = cs.length) (h0 : 0 < cs.length) (hbig : cs.length ≤ 536870912) (hall : ∀ c ∈ cs, ¬ 255 < c) (hfr : 4 ≤ R.frames) (hlo : W + 65 ≤ R.locals) :
    Back l R p e below s args New1.yN len W (fun P a => a = #[.ref x, .ref b] ∧ P.U.heap = h ∧ P.cells + 1 ≤ R.cells ∧ P.slots + cs.length ≤ R.slots)
      (fun P _ v B => ∃ L, QA Z x zn cs h v B.U.heap L ∧ B.locs = P.locs ++ L ∧ B.cells = P.cells + 1 ∧ B.slots = P.slots + cs.length) := by
  obtain ⟨A, K1, K2, K3, K4, K5, K6⟩ := K
  have e : A.slots.size = cs.length := K3.trans hlen
  have hat : ∀ (i : Nat) (hi : i < cs.length), A.slots[i]? = some (.int cs[i]) := fun i hi => by rw [K5 i (by omega)]; simp [List.getD_eq_getElem?_getD, hi]
  have hcv : ∀ (i : Nat) (hi : i < cs.length), cv A i = cs[i] := fun i hi => by unfold cv; rw [hat i hi]
  have hty : Typed .char A := fun i v hv => by
    have hi : i < A.slots.size := (Array.getElem?_eq_some_iff.mp hv).1
    have q := K5 i hi
    rw [hv] at q
    rw [Option.some.inj q]
    exact K6 i hi
  refine Back.mono (back hZ hw wi E V C K1 hty S hz (by omega) (by omega) (fun i hi => by rw [hcv i (by omega)]; exact hall _ (List.getElem_mem _)) hfr hlo) (fun P a hp => ⟨hp.1, hp.2.1, hp.2.2.1, by rw [e]; exact hp.2.2.2⟩) (fun P a v B hp hq => ?_)
  obtain ⟨L, ⟨q1, q2, q3, q4, q5, q6, q7, ⟨V', v1, v2, v3, v4, v5⟩, q9⟩, hl, hc, hs⟩ := hq
  refine ⟨L, ⟨q1, q2, q3, q4, q5, q6, q7, ⟨V'.cls, v3, V', v1, rfl, by rw [v4, e, hlen], K4, fun i hi => ?_, fun i hi => ?_⟩, q9⟩, hl, hc, by rw [hs, e]⟩
  · have hi' : i < cs.length := by omega
    rw [v5 i (by omega), hcv i hi']; simp [List.getD_eq_getElem?_getD, hi']
  · have hi' : i < cs.length := by omega
    simp only [List.getD_eq_getElem?_getD, List.getElem?_map, List.getElem?_eq_getElem hi', Option.map_some, Option.getD_some]
    exact fits_lo8 _
end StrChars.Road
namespace StrChars.Road
open Jvm Sem ClassFile Op Lib Jvm.Stand Jvm.Free Jvm.Free.XT
/-- WHAT COMES BACK, in the writer's own shape -/
def QV (Z : State) (x : Addr) (N : Int32) (bs : List Int32) (h : Heap) (n0 : Nat) (v : Option Value) (h' : Heap) (L : List Loc) : Prop := v = none ∧ RoadKit.Fr n0 L ∧ RoadKit.Keep h h' [x] ∧ RoadKit.Exa Z h' x ST ∧ RoadKit.Fld Z h' x ST "coder" "B" (.int 0) ∧
  ∃ (t : Addr) (kb : ClassId), n0 ≤ t ∧ h.size ≤ t ∧ ¬ t = x ∧ RoadKit.Fld Z h' x ST "value" "[B" (.ref t) ∧ RoadKit.Arv Z h' t kb .byte N (bs.map Value.int) (.int 0)
/-- **new String(chars) AT A CALL, FOR THE WRITER**: a char[] of n known ints, each 0 to 255 -/
theorem backV {p : Program} {l : Launch} {e : Env} {R : Room} {s : State} {args : Array Value} {below : List Frame} {len W : Nat} {Z : State} {a0 : Array Value} {h : Heap} (hZ : Z.Warmed39 s.vm) (hw : ∀ d ∈ words, d.before a0 Z = true) {kI : Nat} (wi : (Jvm.Cond.instantiable ST kI).before a0 Z = true)
    {x b : Addr} {kC : ClassId} {cs bs : List Int32} {d v0 c0 : Value} {z N : Int32} {n n0 : Nat} (hx0 : n0 ≤ x) (hh0 : n0 ≤ h.size) (E : RoadKit.Exa Z h x ST) (V : RoadKit.Fld Z h x ST "value" "[B" v0) (C : RoadKit.Fld Z h x ST "coder" "B" c0) (K : RoadKit.Arv Z h b kC .char N (cs.map Value.int) d) (S : RoadKit.Sta Z h ST "COMPACT_STRINGS" "Z" (.int z)) (hz : ¬ z = 0)
    (hn : cs.length = n) (hN : N = Int32.ofNat n) (l0 : 0 < n) (l2 : n ≤ 4000) (hp : ∀ c ∈ cs, ¬ c < 0 ∧ ¬ (255 : Int32) < c) (hb : bs = cs.map (fun c => c.toInt8.toInt32)) (hfr : 4 ≤ R.frames) (hlo : W + 65 ≤ R.locals) :
    Back l R p e below s args (⟨"java/lang/String", "<init>", "([C)V"⟩ : MethodName) len W (fun P a => a = #[.ref x, .ref b] ∧ P.U.heap = h ∧ P.cells + 1 ≤ R.cells ∧ P.slots + n ≤ R.slots)
      (fun P _ v B => ∃ L, QV Z x N bs h n0 v B.U.heap L ∧ B.locs = P.locs ++ L ∧ B.cells = P.cells + 1 ∧ B.slots = P.slots + n) := by
  subst hn hN hb
  refine Back.mono (backArv hZ hw wi E V C K S hz (n32 (by omega)) l0 (by omega) (fun c hc => (hp c hc).2) hfr hlo) (fun P a hp => hp) (fun P a v B hp hq => ?_)
  obtain ⟨L, ⟨q1, q2, q3, q4, q5, q6, q7, ⟨kb, v1, v2⟩, q9⟩, hl, hc, hs⟩ := hq
  exact ⟨L, ⟨q1, fun y hy => by rw [q2 y hy]; exact hx0, q3, q5, q7, h.size, kb, hh0, Nat.le_refl _, Nat.ne_of_gt E.lt, q6, by rw [List.map_map]; exact v2⟩, hl, hc, hs⟩
end StrChars.Road
end Jvm.Pilot.@@N@@
namespace Jvm.Pilot.@@N@@
open Jvm Jvm.ClassFile Sem Op Lib Jvm.Free Jvm.Stand Jvm.LawKit Jvm.RoadKit Bundle Jvm.Pilot.@@N@@.Jvm.D
theorem own_noface {a b : Bool} (h : (a || b) = false) : a = false := by
  cases a
  · rfl
  · cases h
/-- who comes to t from this place of the method comes to t from G -/
abbrev Kt (p : Program) (e : Env) (below : List Frame) (m : MethodId) (G T : State) (pc : Nat) (Ls : Array Slot) (st : List Value) : Prop :=
  ∀ t, Steps p.tables e below (T.setTop (mkF m pc Ls st)) t → Steps p.tables e below G t
/-! plain facts -/
def own_p4 (k : Int32) (a b c d : Addr) : Addr := if k = 0 then a else if k = 1 then b else if k = 2 then c else d
theorem own_p4All {P : Addr → Prop} {a b c d : Addr} (k : Int32) (ha : P a) (hb : P b) (hc : P c) (hd : P d) : P (own_p4 k a b c d) := by
  unfold own_p4
  split
  · exact ha
  split
  · exact hb
  split
  · exact hc
  exact hd
/-- C is a class below the root that isn't K -/
abbrev own_not (Z : State) (C K : String) : Prop := ∃ c t, Z.vm.findClass C = some c ∧ Z.vm.findClass K = some t ∧ Z.vm.assignable c t = false
theorem own_root {Z : State} {a0 : Array Value} {O K : String} {n : Nat} (w3 : (Jvm.Cond.noSuperclass O).before a0 Z = true) (wk : (Jvm.Cond.instantiable K n).before a0 Z = true) (h3 : O ≠ K) : NS Z O K := by
  obtain ⟨t, kt, g1, g2, g3, g4, -⟩ := Cond.instantiable_spec wk
  obtain ⟨c, k, q1, q2, q3, -, -⟩ := Cond.noSuperclass_spec w3
  have ne := ids_ne q1 g1 h3
  refine ⟨c, t, q1, g1, fun fuel => ?_⟩
  cases fuel with
  | zero => rfl
  | succ f => simp [Vm.isSubclassAux, ne, q2, q3]
theorem own_no {Z : State} {a0 : Array Value} {C S K : String} {n : Nat} (w1 : (Jvm.Cond.superclass C S).before a0 Z = true) (wk : (Jvm.Cond.instantiable K n).before a0 Z = true) (r : NS Z S K) (h1 : C ≠ K) : own_not Z C K := by
  obtain ⟨t, kt, g1, g2, g3, g4, -⟩ := Cond.instantiable_spec wk
  obtain ⟨c, t', q1, q2, q3⟩ := NS.step w1 r h1
  cases g1.symm.trans q2
  obtain ⟨p, k, kp, -, s2, -, s4, s5, -, s7⟩ := Cond.superclass_spec q1 w1
  have ne := ids_ne q1 g1 h1
  have gi : kt.isInterface = false := by
    cases hi : kt.isInterface
    · rfl
    · simp [hi] at g4
  refine ⟨c, t, q1, g1, ?_⟩
  show Z.vm.assignableAux (255 + 1) c t = false
  simp [Vm.assignableAux, ne, s2, g2, s5, g3, gi, Vm.isSubclass, q3]
/-- an object that is no CompositeKey and that an Object[] takes -/
def own_ok (Z : State) (a0 : Array Value) (h : Heap) (a : Addr) : Prop := ∃ C, Exa Z h a C ∧ own_not Z C "com/example/tablepuffer/tablepuffer/CompositeKey" ∧ (Jvm.Cond.castable C "java/lang/Object").before a0 Z = true
theorem own_ok.ext {Z : State} {a0 : Array Value} {h h' : Heap} {a : Addr} (F : own_ok Z a0 h a) (E : Ext h h') : own_ok Z a0 h' a := by obtain ⟨C, x, r⟩ := F; exact ⟨C, x.ext E, r⟩
theorem own_ok.wr {Z : State} {a0 : Array Value} {h h' : Heap} {a b : Addr} {sl : Nat} {v : Value} (F : own_ok Z a0 h a) (W : Wr h h' b sl v) : own_ok Z a0 h' a := by obtain ⟨C, x, r⟩ := F; exact ⟨C, x.wr W, r⟩
theorem own_ok.keep {Z : State} {a0 : Array Value} {h h' : Heap} {a : Addr} {ws : List Addr} (F : own_ok Z a0 h a) (K : Keep h h' ws) : own_ok Z a0 h' a := by obtain ⟨C, x, r⟩ := F; exact ⟨C, x.keep K, r⟩
theorem own_ok.lt {Z : State} {a0 : Array Value} {h : Heap} {a : Addr} (F : own_ok Z a0 h a) : a < h.size := by obtain ⟨C, x, r⟩ := F; exact x.lt
theorem own_ok.ins {Z : State} {a0 : Array Value} {h : Heap} {a : Addr} (F : own_ok Z a0 h a) : Ins Z h a "java/lang/Object" true := by obtain ⟨C, x, -, r⟩ := F; exact Ins.of_exa x r
theorem own_lt {a b : Int32} : a < b ↔ a.toInt < b.toInt := Int32.lt_iff_toInt_lt
theorem own_0 : (0 : Int32).toInt = 0 := by decide
theorem own_128 : (128 : Int32).toInt = 128 := by decide
theorem own_256 : (256 : Int32).toInt = 256 := by decide
theorem own_255 : (255 : Int32).toInt = 255 := by decide
theorem own_ix {q : Int64} (h1 : ¬ q < (-128 : Int64)) (h2 : ¬ (127 : Int64) < q) : ¬ (q.toInt32 + (128 : Int32)) < 0 ∧ (q.toInt32 + (128 : Int32)) < (256 : Int32) := by
  have e1 : (-128 : Int64).toInt = -128 := by decide
  have e2 : (127 : Int64).toInt = 127 := by decide
  have a := c_l2i q
  have r := rng32 q.toInt32
  have b := c_iadd q.toInt32 128
  have r2 := rng32 (q.toInt32 + 128)
  rw [Int64.lt_iff_toInt_lt, e1] at h1
  rw [Int64.lt_iff_toInt_lt, e2] at h2
  rw [own_lt, own_lt, own_0, own_256]
  rw [own_128] at b
  omega
theorem own_c (x : Int32) : ¬ (x &&& (255 : Int32)).toUInt32.toUInt16.toUInt32.toInt32 < 0 ∧ ¬ (255 : Int32) < (x &&& (255 : Int32)).toUInt32.toUInt16.toUInt32.toInt32 := by
  rw [i2c_mask]
  have h := c_mask x 255 8 (by decide) (by decide)
  rw [own_lt, own_lt, own_0, own_255]
  omega
theorem own_cn (x : Int32) : nar .char ((x &&& (255 : Int32)).toUInt32.toUInt16.toUInt32.toInt32) = (x &&& (255 : Int32)) := by
  show ((x &&& (255 : Int32)).toUInt32.toUInt16.toUInt32.toInt32).toUInt32.toUInt16.toUInt32.toInt32 = _
  rw [i2c_mask, i2c_mask]
theorem own_m (x : Int32) : ¬ (x &&& (255 : Int32)) < 0 ∧ ¬ (255 : Int32) < (x &&& (255 : Int32)) := by
  have h := c_mask x 255 8 (by decide) (by decide)
  rw [own_lt, own_lt, own_0, own_255]
  omega
theorem own_n3 (x : Int32) : (1 : Int32) + (x &&& (3 : Int32)) % (3 : Int32) = 1 ∨ (1 : Int32) + (x &&& (3 : Int32)) % (3 : Int32) = 2 ∨ (1 : Int32) + (x &&& (3 : Int32)) % (3 : Int32) = 3 := by
  have h := c_mask x 3 2 (by decide) (by decide)
  have q := (c_irem (x &&& (3 : Int32)) 3 3 (by decide)).1 (by omega)
  have a := c_iadd 1 ((x &&& (3 : Int32)) % (3 : Int32))
  have r := rng32 (1 + (x &&& (3 : Int32)) % (3 : Int32))
  have e1 : (1 : Int32).toInt = 1 := by decide
  rw [e1] at a
  generalize (1 : Int32) + (x &&& (3 : Int32)) % (3 : Int32) = w at *
  have q2 : w.toInt = 1 ∨ w.toInt = 2 ∨ w.toInt = 3 := by omega
  rcases q2 with q | q | q
  · exact Or.inl (Int32.toInt_inj.mp q)
  · exact Or.inr (Or.inl (Int32.toInt_inj.mp q))
  · exact Or.inr (Or.inr (Int32.toInt_inj.mp q))
theorem own_len {args : Array Value} {s : State} {t : Term} {a : Addr} {c : Cell} (e : t.eval args s none [] s = some (.ref a)) (ha : s.arrayAt? a = some c) (h : (Jvm.Cond.eq (.length t) (.int 256)).value args s none s [] = some true) : c.slots.size < 2 ^ 31 ∧ c.slots.size.toInt32 = (256 : Int32) := by
  obtain ⟨x, y, e1, e2, -, k2⟩ := cmp_v (Or.inl h)
  cases (Term.int_eval 256).symm.trans e2
  obtain ⟨z, rfl⟩ := k2
  have q : z = 256 := gotT (Cond.eq_ints e1 (Term.int_eval 256)) h
  by_cases hl : c.slots.size < 2 ^ 31
  · rw [len_f e ha hl] at e1
    cases e1
    exact ⟨hl, q⟩
  · simp [Term.eval, e, ha, hl] at e1
theorem own_sub128 {args : Array Value} {Z : State} {j : Int32} (hj : ¬ j < 0) : (Term.op1 .i2l (.sub (.index 0) (.int 128))).eval args Z none [j.toNatClampNeg] Z = some (.long (j - 128).toInt64) := by
  refine i2l_at ?_
  have h1 : (Term.index 0).eval args Z none [j.toNatClampNeg] Z = some (.int j) := idx_at hj
  simp [Term.eval, h1] at h1 ⊢
  simp [h1]
theorem d9_0 : decode jdk_18_method_1_code 0 = .ok (.aload_n 0, 1) := by decide +kernel
theorem d9_1 : decode jdk_18_method_1_code 1 = .ok (.invokespecial 1, 3) := by decide +kernel
theorem d9_4 : decode jdk_18_method_1_code 4 = .ok (.return_, 1) := by decide +kernel
theorem pn9 : plainName "java/lang/Number" = true := by first | (simp [plainName, overriddenIn]; done) | decide +kernel
theorem pd_0 : parseMethodDescriptor "()Ljava/lang/Object;" = some ⟨[], some (.object "java/lang/Object")⟩ := by decide +kernel
theorem pd_1 : parseMethodDescriptor "()V" = some ⟨[], none⟩ := by decide +kernel
theorem pd_2 : parseMethodDescriptor "()[Ljava/lang/Object;" = some ⟨[], some (.array (.object "java/lang/Object"))⟩ := by decide +kernel
theorem pd_3 : parseMethodDescriptor "(C)Ljava/lang/String;" = some ⟨[.char], some (.object "java/lang/String")⟩ := by decide +kernel
theorem pd_4 : parseMethodDescriptor "(C)Z" = some ⟨[.char], some .boolean⟩ := by decide +kernel
theorem pd_5 : parseMethodDescriptor "(C)[B" = some ⟨[.char], some (.array .byte)⟩ := by decide +kernel
theorem pd_6 : parseMethodDescriptor "(ILjava/lang/Object;Ljava/lang/Object;Ljava/lang/Object;Ljava/lang/Object;)Ljava/lang/Object;" = some ⟨[.int, (.object "java/lang/Object"), (.object "java/lang/Object"), (.object "java/lang/Object"), (.object "java/lang/Object")], some (.object "java/lang/Object")⟩ := by decide +kernel
theorem pd_7 : parseMethodDescriptor "(J)Ljava/lang/Long;" = some ⟨[.long], some (.object "java/lang/Long")⟩ := by decide +kernel
theorem pd_8 : parseMethodDescriptor "(J)V" = some ⟨[.long], none⟩ := by decide +kernel
theorem pd_9 : parseMethodDescriptor "(Ljava/lang/Object;)[Ljava/lang/Object;" = some ⟨[(.object "java/lang/Object")], some (.array (.object "java/lang/Object"))⟩ := by decide +kernel
theorem pd_10 : parseMethodDescriptor "([BB)V" = some ⟨[(.array .byte), .byte], none⟩ := by decide +kernel
theorem pd_11 : parseMethodDescriptor "([BI)B" = some ⟨[(.array .byte), .int], some .byte⟩ := by decide +kernel
theorem pd_12 : parseMethodDescriptor "([C)V" = some ⟨[(.array .char)], none⟩ := by decide +kernel
theorem pd_13 : parseMethodDescriptor "([CII)[B" = some ⟨[(.array .char), .int, .int], some (.array .byte)⟩ := by decide +kernel
theorem pd_14 : parseMethodDescriptor "([CIILjava/lang/Void;)V" = some ⟨[(.array .char), .int, .int, (.object "java/lang/Void")], none⟩ := by decide +kernel
theorem pd_15 : parseMethodDescriptor "([CI[BII)I" = some ⟨[(.array .char), .int, (.array .byte), .int, .int], some .int⟩ := by decide +kernel
theorem pd_16 : parseMethodDescriptor "([Ljava/lang/Object;)V" = some ⟨[(.array (.object "java/lang/Object"))], none⟩ := by decide +kernel
theorem ef9 (m : MethodId) (a : Addr) : entryFrame m #[(.ref a)] 1 = mkF m 0 #[.val (.ref a)] [] := by first | (simp [entryFrame, mkF, argsToLocals, Value.category]; done) | rfl
def Q9 (Z : State) (a : Addr) (h0 : Heap) (n0 : Nat) (v : Option Value) (h : Heap) (L : List Loc) : Prop := v = none ∧ Fr n0 L ∧ h = h0
set_option maxRecDepth 65536 in
set_option maxHeartbeats 40000000 in
theorem rm9 (l : Launch) (Z : State) (a0 : Array Value) (hw : ∀ d ∈ tables_1, d.before a0 Z = true) (ws : List Jvm.Cond) (a : Addr) (h0 : Heap) (n0 : Nat) (Z0 : n0 ≤ h0.size)  :
    MetFree l (⟨"java/lang/Number", "<init>", "()V"⟩ : MethodName) (head1 (Jvm.Cond.code (⟨"java/lang/Number", "<init>", "()V"⟩ : MethodName) jdk_18_method_1_code 1 none :: ws) ({ frames := 1, cells := 0, slots := 0, locals := 12 } : Room)) (fun gs' U => gs' = #[(.ref a)] ∧ Z.Warmed39 U.vm ∧ U.heap = h0) (fun _ _ _ _ _ => True) (fun _ U o U' => ∃ v L, o = .returned v ∧ Q9 Z a h0 n0 v U'.heap L ∧ FrameEnd U o U' L ({ frames := 1, cells := 0, slots := 0, locals := 12 } : Room).cells ({ frames := 1, cells := 0, slots := 0, locals := 12 } : Room).slots) := by
  refine MetFree.of_bodySF (plainFor_of_name pn9) hisR ?_
  intro p e s m args below meth c s₁ Bd hml0 hP hK
  obtain ⟨rfl, hZ, hh⟩ := hP
  have hx := Bd.exec
  have hby := Bd.bytes
  have hml : c.maxLocals = 1 := hml0
  have hown : s.vm.findClass "java/lang/Number" = some m.cls := findClass_of_methodNamed Bd.named
  have hnm := (name_of_methodNamed Bd.named Bd.method).1
  have X0 : Stand p l e ({ frames := 1, cells := 0, slots := 0, locals := 12 } : Room) s m #[(.ref a)] below meth c s₁ [] 0 0 := Stand.of_body Bd
  have e0 : s₁.heap = h0 := by rw [← hh, Bd.state]; rfl
  have N0 := Fr.nil n0
  have k0 : Kt p e below m (s₁.setTop (entryFrame m #[(.ref a)] 1)) s₁ 0 #[.val (.ref a)] [] := fun t ht => castTop (ef9 m a) ht
  have k1 : Kt p e below m (s₁.setTop (entryFrame m #[(.ref a)] 1)) s₁ 1 #[.val (.ref a)] [(.ref a)] := by
    intro t ht
    refine k0 t ?_
    show Steps p.tables e below (s₁.setTop (mkF m 0 #[.val (.ref a)] [])) t
    refine XS.aloadN X0.here hx rfl (hb hby d9_0) rfl rfl ?_
    exact ht
  obtain ⟨T2, X2, e2, st2⟩ := initO X0 hx hZ hown (hw _ (List.mem_of_getElem? (i := 50) rfl)) (hw _ (List.mem_of_getElem? (i := 20) rfl)) (hw _ (List.mem_of_getElem? (i := 21) rfl)) e0 (g := (mkF m 1 #[.val (.ref a)] [(.ref a)])) rfl (by rw [hml]; rfl) rfl (hb hby d9_1) (by decide) (W := 0) (by show 2 * 0 + _ ≤ _; exact Nat.le_of_eq rfl) (by decide)
  have k2 : Kt p e below m (s₁.setTop (entryFrame m #[(.ref a)] 1)) T2 4 #[.val (.ref a)] [] := fun t ht => k1 t (st2 t ht)
  obtain ⟨fs, hr, hrun, hended, hW, hsame⟩ := X2.leave (v := none) (fun _ => rfl)
  refine ⟨_, _, k2 _ ?_, hrun, hended, _, _, rfl, ?_, ⟨_, rfl⟩, hW, hsame.mono (by decide) (by decide)⟩
  · exact X2.returnOut hx Bd.returns (hb hby d9_4) hr
  · show Q9 Z a h0 n0 _ T2.heap _
    rw [e2]
    exact ⟨rfl, N0, rfl⟩
theorem d8_0 : decode jdk_35_method_26_code 0 = .ok (.aload_n 0, 1) := by decide +kernel
theorem d8_1 : decode jdk_35_method_26_code 1 = .ok (.invokespecial 270, 3) := by decide +kernel
theorem d8_4 : decode jdk_35_method_26_code 4 = .ok (.aload_n 0, 1) := by decide +kernel
theorem d8_5 : decode jdk_35_method_26_code 5 = .ok (.lload_n 1, 1) := by decide +kernel
theorem d8_6 : decode jdk_35_method_26_code 6 = .ok (.putfield 273, 3) := by decide +kernel
theorem d8_9 : decode jdk_35_method_26_code 9 = .ok (.return_, 1) := by decide +kernel
theorem pn8 : plainName "java/lang/Long" = true := by first | (simp [plainName, overriddenIn]; done) | decide +kernel
theorem ef8 (m : MethodId) (a : Addr) (q : Int64) : entryFrame m #[(.ref a), (.long q)] 3 = mkF m 0 #[.val (.ref a), .val (.long q), .second] [] := by first | (simp [entryFrame, mkF, argsToLocals, Value.category]; done) | rfl
def Q8 (Z : State) (a : Addr) (q : Int64) (h0 : Heap) (n0 : Nat) (v : Option Value) (h : Heap) (L : List Loc) : Prop := v = none ∧ Fr n0 L ∧ Keep h0 h [a]
set_option maxRecDepth 65536 in
set_option maxHeartbeats 40000000 in
theorem rm8 (l : Launch) (Z : State) (a0 : Array Value) (hw : ∀ d ∈ tables_1, d.before a0 Z = true) (ws : List Jvm.Cond) (a : Addr) (q : Int64) (h0 : Heap) (n0 : Nat) (Z0 : n0 ≤ h0.size) (E_a : Exa Z h0 a "java/lang/Long") (F1 : Fld Z h0 a "java/lang/Long" "value" "J" (.long (0 : Int64))) (g_a : n0 ≤ a) :
    MetFree l (⟨"java/lang/Long", "<init>", "(J)V"⟩ : MethodName) (head1 (Jvm.Cond.code (⟨"java/lang/Long", "<init>", "(J)V"⟩ : MethodName) jdk_35_method_26_code 3 none :: ws) ({ frames := 2, cells := 0, slots := 0, locals := 24 } : Room)) (fun gs' U => gs' = #[(.ref a), (.long q)] ∧ Z.Warmed39 U.vm ∧ U.heap = h0) (fun _ _ _ _ _ => True) (fun _ U o U' => ∃ v L, o = .returned v ∧ Q8 Z a q h0 n0 v U'.heap L ∧ FrameEnd U o U' L ({ frames := 2, cells := 0, slots := 0, locals := 24 } : Room).cells ({ frames := 2, cells := 0, slots := 0, locals := 24 } : Room).slots) := by
  refine MetFree.of_bodySF (plainFor_of_name pn8) hisR ?_
  intro p e s m args below meth c s₁ Bd hml0 hP hK
  obtain ⟨rfl, hZ, hh⟩ := hP
  have hx := Bd.exec
  have hby := Bd.bytes
  have hml : c.maxLocals = 3 := hml0
  have hown : s.vm.findClass "java/lang/Long" = some m.cls := findClass_of_methodNamed Bd.named
  have hnm := (name_of_methodNamed Bd.named Bd.method).1
  have X0 : Stand p l e ({ frames := 2, cells := 0, slots := 0, locals := 24 } : Room) s m #[(.ref a), (.long q)] below meth c s₁ [] 0 0 := Stand.of_body Bd
  have e0 : s₁.heap = h0 := by rw [← hh, Bd.state]; rfl
  have N0 := Fr.nil n0
  have k0 : Kt p e below m (s₁.setTop (entryFrame m #[(.ref a), (.long q)] 3)) s₁ 0 #[.val (.ref a), .val (.long q), .second] [] := fun t ht => castTop (ef8 m a q) ht
  have K0 : Keep h0 h0 [a] := Keep.refl _ _
  have k3 : Kt p e below m (s₁.setTop (entryFrame m #[(.ref a), (.long q)] 3)) s₁ 1 #[.val (.ref a), .val (.long q), .second] [(.ref a)] := by
    intro t ht
    refine k0 t ?_
    show Steps p.tables e below (s₁.setTop (mkF m 0 #[.val (.ref a), .val (.long q), .second] [])) t
    refine XS.aloadN X0.here hx rfl (hb hby d8_0) rfl rfl ?_
    exact ht
  obtain ⟨_, _, ⟨T4, L4, c4, n4⟩, -, X4, ⟨Lc4, hQ4, l4, y4, z4⟩, st4⟩ := X0.specialBack hx (y := (⟨"java/lang/Number", "<init>", "()V"⟩ : MethodName)) rfl hown (mvT hZ (hw _ (List.mem_of_getElem? (i := 44) rfl))) (mvT hZ (hw _ (List.mem_of_getElem? (i := 45) rfl))) (mvT hZ (hw _ (List.mem_of_getElem? (i := 49) rfl))) (by decide) (backOf (W := 0) (rm9 l Z a0 hw [] a h0 n0 Z0 ) hZ (hw _ (List.mem_of_getElem? (i := 49) rfl)) (hw _ (List.mem_of_getElem? (i := 48) rfl)) (by decide) (by decide)) (g := (mkF m 1 #[.val (.ref a), .val (.long q), .second] [(.ref a)])) rfl (by rw [hml]; rfl) (Steps.refl _) (a := a) (argsL := []) (rest := []) (lenOf pd_1 rfl) rfl (by show 2 * 0 + _ ≤ _; exact Nat.le_of_eq rfl) (hb hby d8_1) (fun _ _ => ⟨rfl, e0, (by decide : 0 + 0 ≤ _), (by decide : 0 + 0 ≤ _)⟩)
  dsimp only [Pt.U, Pt.locs, Pt.cells, Pt.slots] at X4 l4 y4 z4 st4 hQ4
  subst l4 y4 z4
  obtain ⟨rfl, Nq4, eq1⟩ := hQ4
  have N4 := Fr.app N0 Nq4
  have k4 : Kt p e below m (s₁.setTop (entryFrame m #[(.ref a), (.long q)] 3)) T4 4 #[.val (.ref a), .val (.long q), .second] [] := fun t ht => k3 t (st4.trans ht)
  have f5 : n0 ≤ T4.heap.size := by rw [eq1]; exact Z0
  have f6 : Exa Z T4.heap a "java/lang/Long" := by rw [eq1]; exact E_a
  have f7 : Fld Z T4.heap a "java/lang/Long" "value" "J" (.long (0 : Int64)) := by rw [eq1]; exact F1
  have f8 : Keep h0 T4.heap [a] := by rw [eq1]; exact K0
  have k9 : Kt p e below m (s₁.setTop (entryFrame m #[(.ref a), (.long q)] 3)) T4 6 #[.val (.ref a), .val (.long q), .second] [(.long q), (.ref a)] := by
    intro t ht
    refine k4 t ?_
    show Steps p.tables e below (T4.setTop (mkF m 4 #[.val (.ref a), .val (.long q), .second] [])) t
    refine XS.aloadN X4.here hx rfl (hb hby d8_4) rfl rfl ?_
    show Steps p.tables e below (T4.setTop (mkF m 5 #[.val (.ref a), .val (.long q), .second] [(.ref a)])) t
    refine XS.lloadN X4.here hx rfl (hb hby d8_5) rfl ?_
    exact ht
  obtain ⟨T10, h10, X10, e10, W10, st10⟩ := putF X4 hx hZ hown (host := "") (Or.inl (hw _ (List.mem_of_getElem? (i := 51) rfl))) Via.refl rfl f7 f6 (Or.inr ⟨(hw _ (List.mem_of_getElem? (i := 52) rfl)), rfl, hnm⟩) (hw _ (List.mem_of_getElem? (i := 39) rfl)) (ty := .long) (by decide) rfl rfl (g := (mkF m 6 #[.val (.ref a), .val (.long q), .second] [(.long q), (.ref a)])) rfl rfl (hb hby d8_6)
  have N10 := Fr.snoc X10 N4 g_a
  have f11 : n0 ≤ h10.size := Nat.le_trans f5 (Keep.of_wr W10).1
  have f12 : Exa Z h10 a "java/lang/Long" := f6.wr W10
  have f13 : Fld Z h10 a "java/lang/Long" "value" "J" (.long q) := f7.same W10
  have f14 : Keep h0 h10 [a] := f8.wr W10 (Or.inl (List.mem_of_getElem? (i := 0) rfl))
  have k10 : Kt p e below m (s₁.setTop (entryFrame m #[(.ref a), (.long q)] 3)) T10 9 #[.val (.ref a), .val (.long q), .second] [] := fun t ht => k9 t (st10 t ht)
  obtain ⟨fs, hr, hrun, hended, hW, hsame⟩ := X10.leave (v := none) (fun _ => rfl)
  refine ⟨_, _, k10 _ ?_, hrun, hended, _, _, rfl, ?_, ⟨_, rfl⟩, hW, hsame.mono (by decide) (by decide)⟩
  · exact X10.returnOut hx Bd.returns (hb hby d8_9) hr
  · show Q8 Z a q h0 n0 _ T10.heap _
    rw [e10]
    exact ⟨rfl, N10, f14⟩
theorem d1_0 : decode jdk_35_method_24_code 0 = .ok (.sipush 128, 3) := by decide +kernel
theorem d1_3 : decode jdk_35_method_24_code 3 = .ok (.istore_n 2, 1) := by decide +kernel
theorem d1_4 : decode jdk_35_method_24_code 4 = .ok (.lload_n 0, 1) := by decide +kernel
theorem d1_5 : decode jdk_35_method_24_code 5 = .ok (.ldc2_w 230, 3) := by decide +kernel
theorem d1_8 : decode jdk_35_method_24_code 8 = .ok (.lcmp, 1) := by decide +kernel
theorem d1_9 : decode jdk_35_method_24_code 9 = .ok (.ifCond .lt 22, 3) := by decide +kernel
theorem d1_12 : decode jdk_35_method_24_code 12 = .ok (.lload_n 0, 1) := by decide +kernel
theorem d1_13 : decode jdk_35_method_24_code 13 = .ok (.ldc2_w 232, 3) := by decide +kernel
theorem d1_16 : decode jdk_35_method_24_code 16 = .ok (.lcmp, 1) := by decide +kernel
theorem d1_17 : decode jdk_35_method_24_code 17 = .ok (.ifCond .gt 14, 3) := by decide +kernel
theorem d1_20 : decode jdk_35_method_24_code 20 = .ok (.getstatic 234, 3) := by decide +kernel
theorem d1_23 : decode jdk_35_method_24_code 23 = .ok (.lload_n 0, 1) := by decide +kernel
theorem d1_24 : decode jdk_35_method_24_code 24 = .ok (.l2i, 1) := by decide +kernel
theorem d1_25 : decode jdk_35_method_24_code 25 = .ok (.sipush 128, 3) := by decide +kernel
theorem d1_28 : decode jdk_35_method_24_code 28 = .ok (.iadd, 1) := by decide +kernel
theorem d1_29 : decode jdk_35_method_24_code 29 = .ok (.aaload, 1) := by decide +kernel
theorem d1_30 : decode jdk_35_method_24_code 30 = .ok (.areturn, 1) := by decide +kernel
theorem d1_31 : decode jdk_35_method_24_code 31 = .ok (.new 1, 3) := by decide +kernel
theorem d1_34 : decode jdk_35_method_24_code 34 = .ok (.dup, 1) := by decide +kernel
theorem d1_35 : decode jdk_35_method_24_code 35 = .ok (.lload_n 0, 1) := by decide +kernel
theorem d1_36 : decode jdk_35_method_24_code 36 = .ok (.invokespecial 240, 3) := by decide +kernel
theorem d1_39 : decode jdk_35_method_24_code 39 = .ok (.areturn, 1) := by decide +kernel
theorem pn1 : plainName "java/lang/Long" = true := by first | (simp [plainName, overriddenIn]; done) | decide +kernel
theorem ef1 (m : MethodId) (q : Int64) : entryFrame m #[(.long q)] 3 = mkF m 0 #[.val (.long q), .second, .unset] [] := by first | (simp [entryFrame, mkF, argsToLocals, Value.category]; done) | rfl
def Q1 (Z : State) (q : Int64) (ca : Addr) (cc : Cell) (va : Int32 → Value) (h0 : Heap) (n0 : Nat) (v : Option Value) (h : Heap) (L : List Loc) : Prop := ∃ r, v = some (.ref r) ∧ Fr n0 L ∧ Keep h0 h [] ∧ Exa Z h r "java/lang/Long"
set_option maxRecDepth 65536 in
set_option maxHeartbeats 40000000 in
theorem rm1 (l : Launch) (Z : State) (a0 : Array Value) (hw : ∀ d ∈ tables_1, d.before a0 Z = true) (ws : List Jvm.Cond) (q : Int64) (ca : Addr) (cc : Cell) (va : Int32 → Value) (h0 : Heap) (n0 : Nat) (Z0 : n0 ≤ h0.size) (S : Sta Z Z.heap "java/lang/Long$LongCache" "cache" "[Ljava/lang/Long;" (.ref ca)) (B : Bxs Z ca cc "java/lang/Long" "J" (256 : Int32) va) (O : Old Z n0 h0) :
    MetFree l (⟨"java/lang/Long", "valueOf", "(J)Ljava/lang/Long;"⟩ : MethodName) (head1 (Jvm.Cond.code (⟨"java/lang/Long", "valueOf", "(J)Ljava/lang/Long;"⟩ : MethodName) jdk_35_method_24_code 3 (some (.object "java/lang/Long")) :: ws) ({ frames := 3, cells := 1, slots := 1, locals := 39 } : Room)) (fun gs' U => gs' = #[(.long q)] ∧ Z.Warmed39 U.vm ∧ U.heap = h0) (fun _ _ _ _ _ => True) (fun _ U o U' => ∃ v L, o = .returned v ∧ Q1 Z q ca cc va h0 n0 v U'.heap L ∧ FrameEnd U o U' L ({ frames := 3, cells := 1, slots := 1, locals := 39 } : Room).cells ({ frames := 3, cells := 1, slots := 1, locals := 39 } : Room).slots) := by
  refine MetFree.of_bodySF (plainFor_of_name pn1) hisR ?_
  intro p e s m args below meth c s₁ Bd hml0 hP hK
  obtain ⟨rfl, hZ, hh⟩ := hP
  have hx := Bd.exec
  have hby := Bd.bytes
  have hml : c.maxLocals = 3 := hml0
  have hown : s.vm.findClass "java/lang/Long" = some m.cls := findClass_of_methodNamed Bd.named
  have hnm := (name_of_methodNamed Bd.named Bd.method).1
  have X0 : Stand p l e ({ frames := 3, cells := 1, slots := 1, locals := 39 } : Room) s m #[(.long q)] below meth c s₁ [] 0 0 := Stand.of_body Bd
  have e0 : s₁.heap = h0 := by rw [← hh, Bd.state]; rfl
  have N0 := Fr.nil n0
  have k0 : Kt p e below m (s₁.setTop (entryFrame m #[(.long q)] 3)) s₁ 0 #[.val (.long q), .second, .unset] [] := fun t ht => castTop (ef1 m q) ht
  have K0 : Keep h0 h0 [] := Keep.refl _ _
  have k15 : Kt p e below m (s₁.setTop (entryFrame m #[(.long q)] 3)) s₁ 9 #[.val (.long q), .second, .val (.int (128 : Int32))] [(.int (lcmpW q (-128 : Int64)))] := by
    intro t ht
    refine k0 t ?_
    show Steps p.tables e below (s₁.setTop (mkF m 0 #[.val (.long q), .second, .unset] [])) t
    refine XS.sipush X0.here hx rfl (hb hby d1_0) ?_
    show Steps p.tables e below (s₁.setTop (mkF m 3 #[.val (.long q), .second, .unset] [(.int (128 : Int32))])) t
    refine XS.istoreN X0.here hx rfl (hb hby d1_3) rfl (l' := #[.val (.long q), .second, .val (.int (128 : Int32))]) rfl ?_
    show Steps p.tables e below (s₁.setTop (mkF m 4 #[.val (.long q), .second, .val (.int (128 : Int32))] [])) t
    refine XS.lloadN X0.here hx rfl (hb hby d1_4) rfl ?_
    show Steps p.tables e below (s₁.setTop (mkF m 5 #[.val (.long q), .second, .val (.int (128 : Int32))] [(.long q)])) t
    refine X0.ldc2Long hx hown (mvT hZ (hw _ (List.mem_of_getElem? (i := 4) rfl))) (g := (mkF m 5 #[.val (.long q), .second, .val (.int (128 : Int32))] [(.long q)])) rfl (hb hby d1_5) _ ?_
    show Steps p.tables e below (s₁.setTop (mkF m 8 #[.val (.long q), .second, .val (.int (128 : Int32))] [(.long (-128 : Int64)), (.long q)])) t
    refine XS.lcmp X0.here hx rfl (hb hby d1_8) rfl ?_
    exact ht
  by_cases h1 : q < (-128 : Int64)
  · have k16 : Kt p e below m (s₁.setTop (entryFrame m #[(.long q)] 3)) s₁ 31 #[.val (.long q), .second, .val (.int (128 : Int32))] [] := by
      intro t ht
      refine k15 t ?_
      show Steps p.tables e below (s₁.setTop (mkF m 9 #[.val (.long q), .second, .val (.int (128 : Int32))] [(.int (lcmpW q (-128 : Int64)))])) t
      refine XS.ifYes X0.here hx rfl (pc0 := 9) (pc' := 31) rfl (hb hby d1_9) rfl ((if0 _ _).trans (tlt ((lw_lt _ _).mpr h1)).1) (by decide) (by decide) ?_
      exact ht
    obtain ⟨T17, h17, X17, e17, E17, A17, D17, -, st17⟩ := newO X0 hx hZ hown (hw _ (List.mem_of_getElem? (i := 38) rfl)) (hw _ (List.mem_of_getElem? (i := 39) rfl)) (hw _ (List.mem_of_getElem? (i := 2) rfl)) e0 (g := (mkF m 31 #[.val (.long q), .second, .val (.int (128 : Int32))] [])) rfl (hb hby d1_31) (by decide) (by decide)
    obtain ⟨r, q17⟩ : ∃ z, z = h0.size := ⟨_, rfl⟩
    have g_r : n0 ≤ r := by rw [q17]; exact Z0
    have sz_r : h0.size ≤ r := by rw [q17]; exact K0.1
    rw [← q17] at A17 D17 st17
    have f18 : n0 ≤ h17.size := Nat.le_trans Z0 E17.1
    have f19 : Keep h0 h17 [] := K0.ext E17
    have f17 : Exa Z h17 r "java/lang/Long" := A17
    have f20 : Fld Z h17 r "java/lang/Long" "value" "J" (.long (0 : Int64)) := D17 (Or.inr (hw _ (List.mem_of_getElem? (i := 52) rfl))) (ty := .long) (by decide)
    have k17 : Kt p e below m (s₁.setTop (entryFrame m #[(.long q)] 3)) T17 34 #[.val (.long q), .second, .val (.int (128 : Int32))] [(.ref r)] := fun t ht => k16 t (st17 t ht)
    have k21 : Kt p e below m (s₁.setTop (entryFrame m #[(.long q)] 3)) T17 36 #[.val (.long q), .second, .val (.int (128 : Int32))] [(.long q), (.ref r), (.ref r)] := by
      intro t ht
      refine k17 t ?_
      show Steps p.tables e below (T17.setTop (mkF m 34 #[.val (.long q), .second, .val (.int (128 : Int32))] [(.ref r)])) t
      refine XS.dup X17.here hx rfl (hb hby d1_34) rfl rfl ?_
      show Steps p.tables e below (T17.setTop (mkF m 35 #[.val (.long q), .second, .val (.int (128 : Int32))] [(.ref r), (.ref r)])) t
      refine XS.lloadN X17.here hx rfl (hb hby d1_35) rfl ?_
      exact ht
    obtain ⟨_, _, ⟨T22, L22, c22, n22⟩, -, X22, ⟨Lc22, hQ22, l22, y22, z22⟩, st22⟩ := X17.specialBack hx (y := (⟨"java/lang/Long", "<init>", "(J)V"⟩ : MethodName)) rfl hown (mvT hZ (hw _ (List.mem_of_getElem? (i := 40) rfl))) (mvT hZ (hw _ (List.mem_of_getElem? (i := 41) rfl))) (mvT hZ (hw _ (List.mem_of_getElem? (i := 43) rfl))) (by decide) (backOf (W := 1) (rm8 l Z a0 hw [] r q h17 n0 f18 f17 f20 g_r) hZ (hw _ (List.mem_of_getElem? (i := 43) rfl)) (hw _ (List.mem_of_getElem? (i := 2) rfl)) (by decide) (by decide)) (g := (mkF m 36 #[.val (.long q), .second, .val (.int (128 : Int32))] [(.long q), (.ref r), (.ref r)])) rfl (by rw [hml]; rfl) (Steps.refl _) (a := r) (argsL := [(.long q)]) (rest := [(.ref r)]) (lenOf pd_8 rfl) rfl (by show 2 * 0 + _ ≤ _; exact Nat.le_of_eq rfl) (hb hby d1_36) (fun _ _ => ⟨rfl, e17, (by decide : 1 + 0 ≤ _), (by decide : 1 + 0 ≤ _)⟩)
    dsimp only [Pt.U, Pt.locs, Pt.cells, Pt.slots] at X22 l22 y22 z22 st22 hQ22
    subst l22 y22 z22
    obtain ⟨rfl, Nq22, Kp⟩ := hQ22
    have N22 := Fr.app N0 Nq22
    have k22 : Kt p e below m (s₁.setTop (entryFrame m #[(.long q)] 3)) T22 39 #[.val (.long q), .second, .val (.int (128 : Int32))] [(.ref r)] := fun t ht => k21 t (st22.trans ht)
    have f23 : n0 ≤ T22.heap.size := Nat.le_trans f18 Kp.1
    have f24 : Keep h0 T22.heap [] := f19.trans Kp (allS (Or.inr sz_r) all0)
    have f25 : Exa Z T22.heap r "java/lang/Long" := f17.keep Kp
    obtain ⟨fs, hr, hrun, hended, hW, hsame⟩ := X22.leave (v := some (.ref r)) (fun h => by rw [Bd.returns] at h; cases h)
    refine ⟨_, _, k22 _ ?_, hrun, hended, _, _, rfl, ?_, ⟨_, rfl⟩, hW, hsame.mono (by decide) (by decide)⟩
    · show Steps p.tables e below (T22.setTop (mkF m 39 #[.val (.long q), .second, .val (.int (128 : Int32))] [(.ref r)])) _
      jvm_step X22.here [X22.here.top, hx, (hb hby d1_39), X22.method', Bd.returns, Value.isRef, FieldType.isReference]
      first | (intro acts; rw [hr _ acts rfl rfl rfl]) | rw [hr _ _ rfl rfl rfl]
      exact Steps.refl _
    · show Q1 Z q ca cc va h0 n0 _ T22.heap _
      exact ⟨r, rfl, N22, f24, f25⟩
  · have k27 : Kt p e below m (s₁.setTop (entryFrame m #[(.long q)] 3)) s₁ 17 #[.val (.long q), .second, .val (.int (128 : Int32))] [(.int (lcmpW q (127 : Int64)))] := by
      intro t ht
      refine k15 t ?_
      show Steps p.tables e below (s₁.setTop (mkF m 9 #[.val (.long q), .second, .val (.int (128 : Int32))] [(.int (lcmpW q (-128 : Int64)))])) t
      refine XS.ifNo X0.here hx rfl (hb hby d1_9) rfl ((if0 _ _).trans (flt (mt (lw_lt _ _).mp h1)).1) ?_
      show Steps p.tables e below (s₁.setTop (mkF m 12 #[.val (.long q), .second, .val (.int (128 : Int32))] [])) t
      refine XS.lloadN X0.here hx rfl (hb hby d1_12) rfl ?_
      show Steps p.tables e below (s₁.setTop (mkF m 13 #[.val (.long q), .second, .val (.int (128 : Int32))] [(.long q)])) t
      refine X0.ldc2Long hx hown (mvT hZ (hw _ (List.mem_of_getElem? (i := 5) rfl))) (g := (mkF m 13 #[.val (.long q), .second, .val (.int (128 : Int32))] [(.long q)])) rfl (hb hby d1_13) _ ?_
      show Steps p.tables e below (s₁.setTop (mkF m 16 #[.val (.long q), .second, .val (.int (128 : Int32))] [(.long (127 : Int64)), (.long q)])) t
      refine XS.lcmp X0.here hx rfl (hb hby d1_16) rfl ?_
      exact ht
    by_cases h2 : (127 : Int64) < q
    · have k28 : Kt p e below m (s₁.setTop (entryFrame m #[(.long q)] 3)) s₁ 31 #[.val (.long q), .second, .val (.int (128 : Int32))] [] := by
        intro t ht
        refine k27 t ?_
        show Steps p.tables e below (s₁.setTop (mkF m 17 #[.val (.long q), .second, .val (.int (128 : Int32))] [(.int (lcmpW q (127 : Int64)))])) t
        refine XS.ifYes X0.here hx rfl (pc0 := 17) (pc' := 31) rfl (hb hby d1_17) rfl ((if0 _ _).trans (tlt ((lw_gt _ _).mpr h2)).2.2.1) (by decide) (by decide) ?_
        exact ht
      obtain ⟨T29, h29, X29, e29, E29, A29, D29, -, st29⟩ := newO X0 hx hZ hown (hw _ (List.mem_of_getElem? (i := 38) rfl)) (hw _ (List.mem_of_getElem? (i := 39) rfl)) (hw _ (List.mem_of_getElem? (i := 2) rfl)) e0 (g := (mkF m 31 #[.val (.long q), .second, .val (.int (128 : Int32))] [])) rfl (hb hby d1_31) (by decide) (by decide)
      obtain ⟨r, q29⟩ : ∃ z, z = h0.size := ⟨_, rfl⟩
      have g_r : n0 ≤ r := by rw [q29]; exact Z0
      have sz_r : h0.size ≤ r := by rw [q29]; exact K0.1
      rw [← q29] at A29 D29 st29
      have f30 : n0 ≤ h29.size := Nat.le_trans Z0 E29.1
      have f31 : Keep h0 h29 [] := K0.ext E29
      have f29 : Exa Z h29 r "java/lang/Long" := A29
      have f32 : Fld Z h29 r "java/lang/Long" "value" "J" (.long (0 : Int64)) := D29 (Or.inr (hw _ (List.mem_of_getElem? (i := 52) rfl))) (ty := .long) (by decide)
      have k29 : Kt p e below m (s₁.setTop (entryFrame m #[(.long q)] 3)) T29 34 #[.val (.long q), .second, .val (.int (128 : Int32))] [(.ref r)] := fun t ht => k28 t (st29 t ht)
      have k33 : Kt p e below m (s₁.setTop (entryFrame m #[(.long q)] 3)) T29 36 #[.val (.long q), .second, .val (.int (128 : Int32))] [(.long q), (.ref r), (.ref r)] := by
        intro t ht
        refine k29 t ?_
        show Steps p.tables e below (T29.setTop (mkF m 34 #[.val (.long q), .second, .val (.int (128 : Int32))] [(.ref r)])) t
        refine XS.dup X29.here hx rfl (hb hby d1_34) rfl rfl ?_
        show Steps p.tables e below (T29.setTop (mkF m 35 #[.val (.long q), .second, .val (.int (128 : Int32))] [(.ref r), (.ref r)])) t
        refine XS.lloadN X29.here hx rfl (hb hby d1_35) rfl ?_
        exact ht
      obtain ⟨_, _, ⟨T34, L34, c34, n34⟩, -, X34, ⟨Lc34, hQ34, l34, y34, z34⟩, st34⟩ := X29.specialBack hx (y := (⟨"java/lang/Long", "<init>", "(J)V"⟩ : MethodName)) rfl hown (mvT hZ (hw _ (List.mem_of_getElem? (i := 40) rfl))) (mvT hZ (hw _ (List.mem_of_getElem? (i := 41) rfl))) (mvT hZ (hw _ (List.mem_of_getElem? (i := 43) rfl))) (by decide) (backOf (W := 1) (rm8 l Z a0 hw [] r q h29 n0 f30 f29 f32 g_r) hZ (hw _ (List.mem_of_getElem? (i := 43) rfl)) (hw _ (List.mem_of_getElem? (i := 2) rfl)) (by decide) (by decide)) (g := (mkF m 36 #[.val (.long q), .second, .val (.int (128 : Int32))] [(.long q), (.ref r), (.ref r)])) rfl (by rw [hml]; rfl) (Steps.refl _) (a := r) (argsL := [(.long q)]) (rest := [(.ref r)]) (lenOf pd_8 rfl) rfl (by show 2 * 0 + _ ≤ _; exact Nat.le_of_eq rfl) (hb hby d1_36) (fun _ _ => ⟨rfl, e29, (by decide : 1 + 0 ≤ _), (by decide : 1 + 0 ≤ _)⟩)
      dsimp only [Pt.U, Pt.locs, Pt.cells, Pt.slots] at X34 l34 y34 z34 st34 hQ34
      subst l34 y34 z34
      obtain ⟨rfl, Nq34, Kp⟩ := hQ34
      have N34 := Fr.app N0 Nq34
      have k34 : Kt p e below m (s₁.setTop (entryFrame m #[(.long q)] 3)) T34 39 #[.val (.long q), .second, .val (.int (128 : Int32))] [(.ref r)] := fun t ht => k33 t (st34.trans ht)
      have f35 : n0 ≤ T34.heap.size := Nat.le_trans f30 Kp.1
      have f36 : Keep h0 T34.heap [] := f31.trans Kp (allS (Or.inr sz_r) all0)
      have f37 : Exa Z T34.heap r "java/lang/Long" := f29.keep Kp
      obtain ⟨fs, hr, hrun, hended, hW, hsame⟩ := X34.leave (v := some (.ref r)) (fun h => by rw [Bd.returns] at h; cases h)
      refine ⟨_, _, k34 _ ?_, hrun, hended, _, _, rfl, ?_, ⟨_, rfl⟩, hW, hsame.mono (by decide) (by decide)⟩
      · show Steps p.tables e below (T34.setTop (mkF m 39 #[.val (.long q), .second, .val (.int (128 : Int32))] [(.ref r)])) _
        jvm_step X34.here [X34.here.top, hx, (hb hby d1_39), X34.method', Bd.returns, Value.isRef, FieldType.isReference]
        first | (intro acts; rw [hr _ acts rfl rfl rfl]) | rw [hr _ _ rfl rfl rfl]
        exact Steps.refl _
      · show Q1 Z q ca cc va h0 n0 _ T34.heap _
        exact ⟨r, rfl, N34, f36, f37⟩
    · have k39 : Kt p e below m (s₁.setTop (entryFrame m #[(.long q)] 3)) s₁ 20 #[.val (.long q), .second, .val (.int (128 : Int32))] [] := by
        intro t ht
        refine k27 t ?_
        show Steps p.tables e below (s₁.setTop (mkF m 17 #[.val (.long q), .second, .val (.int (128 : Int32))] [(.int (lcmpW q (127 : Int64)))])) t
        refine XS.ifNo X0.here hx rfl (hb hby d1_17) rfl ((if0 _ _).trans (flt (mt (lw_gt _ _).mp h2)).2.2.1) ?_
        exact ht
      obtain ⟨T40, X40, e40, st40⟩ := getS2 X0 hx hZ hown (host := "") (Or.inl (hw _ (List.mem_of_getElem? (i := 6) rfl))) Via.refl e0 (S.ext O.2) (g := (mkF m 20 #[.val (.long q), .second, .val (.int (128 : Int32))] [])) rfl (hb hby d1_20)
      have k40 : Kt p e below m (s₁.setTop (entryFrame m #[(.long q)] 3)) T40 23 #[.val (.long q), .second, .val (.int (128 : Int32))] [(.ref ca)] := fun t ht => k39 t (st40 t ht)
      have k42 : Kt p e below m (s₁.setTop (entryFrame m #[(.long q)] 3)) T40 29 #[.val (.long q), .second, .val (.int (128 : Int32))] [(.int ((q.toInt32) + (128 : Int32))), (.ref ca)] := by
        intro t ht
        refine k40 t ?_
        show Steps p.tables e below (T40.setTop (mkF m 23 #[.val (.long q), .second, .val (.int (128 : Int32))] [(.ref ca)])) t
        refine XS.lloadN X40.here hx rfl (hb hby d1_23) rfl ?_
        show Steps p.tables e below (T40.setTop (mkF m 24 #[.val (.long q), .second, .val (.int (128 : Int32))] [(.long q), (.ref ca)])) t
        refine XS.l2i X40.here hx rfl (hb hby d1_24) rfl ?_
        show Steps p.tables e below (T40.setTop (mkF m 25 #[.val (.long q), .second, .val (.int (128 : Int32))] [(.int (q.toInt32)), (.ref ca)])) t
        refine XS.sipush X40.here hx rfl (hb hby d1_25) ?_
        show Steps p.tables e below (T40.setTop (mkF m 28 #[.val (.long q), .second, .val (.int (128 : Int32))] [(.int (128 : Int32)), (.int (q.toInt32)), (.ref ca)])) t
        refine XS.iadd X40.here hx rfl (hb hby d1_28) rfl ?_
        exact ht
      have hix := own_ix h1 h2
      obtain ⟨Ac, Sc, Nc⟩ := B.ext O.2
      have hin : ¬ (((q.toInt32) + (128 : Int32)) < 0 ∨ cc.slots.size ≤ (((q.toInt32) + (128 : Int32))).toNatClampNeg) := inb_of Sc hix
      obtain ⟨b, hat, Eb, -⟩ := B.2.2.2 _ hin
      have k43 : Kt p e below m (s₁.setTop (entryFrame m #[(.long q)] 3)) T40 30 #[.val (.long q), .second, .val (.int (128 : Int32))] [(.ref b)] := by
        intro t ht
        refine k42 t ?_
        show Steps p.tables e below (T40.setTop (mkF m 29 #[.val (.long q), .second, .val (.int (128 : Int32))] [(.int ((q.toInt32) + (128 : Int32))), (.ref ca)])) t
        refine X40.aaload hx (j := ((q.toInt32) + (128 : Int32))) (v := (.ref b)) (by rw [e40]; exact Ac.1) (State.isArrayOf_alike hZ.alike Ac.2.1) rfl Ac.2.2 hin hat (g := (mkF m 29 #[.val (.long q), .second, .val (.int (128 : Int32))] [(.int ((q.toInt32) + (128 : Int32))), (.ref ca)])) rfl rfl (hb hby d1_29) _ ?_
        exact ht
      obtain ⟨fs, hr, hrun, hended, hW, hsame⟩ := X40.leave (v := some (.ref b)) (fun h => by rw [Bd.returns] at h; cases h)
      refine ⟨_, _, k43 _ ?_, hrun, hended, _, _, rfl, ?_, ⟨_, rfl⟩, hW, hsame.mono (by decide) (by decide)⟩
      · show Steps p.tables e below (T40.setTop (mkF m 30 #[.val (.long q), .second, .val (.int (128 : Int32))] [(.ref b)])) _
        jvm_step X40.here [X40.here.top, hx, (hb hby d1_30), X40.method', Bd.returns, Value.isRef, FieldType.isReference]
        first | (intro acts; rw [hr _ acts rfl rfl rfl]) | rw [hr _ _ rfl rfl rfl]
        exact Steps.refl _
      · show Q1 Z q ca cc va h0 n0 _ T40.heap _
        rw [e40]
        exact ⟨b, rfl, N0, K0, (Eb.ext O.2)⟩
theorem d11_0 : decode jdk_43_method_3_code 0 = .ok (.iload_n 0, 1) := by decide +kernel
theorem d11_1 : decode jdk_43_method_3_code 1 = .ok (.sipush 255, 3) := by decide +kernel
theorem d11_4 : decode jdk_43_method_3_code 4 = .ok (.if_icmp .gt 7, 3) := by decide +kernel
theorem d11_7 : decode jdk_43_method_3_code 7 = .ok (.iconst 1, 1) := by decide +kernel
theorem d11_8 : decode jdk_43_method_3_code 8 = .ok (.goto 4, 3) := by decide +kernel
theorem d11_11 : decode jdk_43_method_3_code 11 = .ok (.iconst 0, 1) := by decide +kernel
theorem d11_12 : decode jdk_43_method_3_code 12 = .ok (.ireturn, 1) := by decide +kernel
theorem pn11 : plainName "java/lang/StringLatin1" = true := by first | (simp [plainName, overriddenIn]; done) | decide +kernel
theorem ef11 (m : MethodId) (p1 : Int32) : entryFrame m #[(.int p1)] 1 = mkF m 0 #[.val (.int p1)] [] := by first | (simp [entryFrame, mkF, argsToLocals, Value.category]; done) | rfl
def Q11 (Z : State) (p1 : Int32) (h0 : Heap) (n0 : Nat) (v : Option Value) (h : Heap) (L : List Loc) : Prop := v = some (.int 1) ∧ Fr n0 L ∧ h = h0
set_option maxRecDepth 65536 in
set_option maxHeartbeats 40000000 in
theorem rm11 (l : Launch) (Z : State) (a0 : Array Value) (hw : ∀ d ∈ tables_1, d.before a0 Z = true) (ws : List Jvm.Cond) (p1 : Int32) (h0 : Heap) (n0 : Nat) (Z0 : n0 ≤ h0.size) (hp : ¬ (255 : Int32) < p1) :
    MetFree l (⟨"java/lang/StringLatin1", "canEncode", "(C)Z"⟩ : MethodName) (head1 (Jvm.Cond.code (⟨"java/lang/StringLatin1", "canEncode", "(C)Z"⟩ : MethodName) jdk_43_method_3_code 1 (some .boolean) :: ws) ({ frames := 0, cells := 0, slots := 0, locals := 0 } : Room)) (fun gs' U => gs' = #[(.int p1)] ∧ Z.Warmed39 U.vm ∧ U.heap = h0) (fun _ _ _ _ _ => True) (fun _ U o U' => ∃ v L, o = .returned v ∧ Q11 Z p1 h0 n0 v U'.heap L ∧ FrameEnd U o U' L ({ frames := 0, cells := 0, slots := 0, locals := 0 } : Room).cells ({ frames := 0, cells := 0, slots := 0, locals := 0 } : Room).slots) := by
  refine MetFree.of_bodySF (plainFor_of_name pn11) hisR ?_
  intro p e s m args below meth c s₁ Bd hml0 hP hK
  obtain ⟨rfl, hZ, hh⟩ := hP
  have hx := Bd.exec
  have hby := Bd.bytes
  have hml : c.maxLocals = 1 := hml0
  have hown : s.vm.findClass "java/lang/StringLatin1" = some m.cls := findClass_of_methodNamed Bd.named
  have hnm := (name_of_methodNamed Bd.named Bd.method).1
  have X0 : Stand p l e ({ frames := 0, cells := 0, slots := 0, locals := 0 } : Room) s m #[(.int p1)] below meth c s₁ [] 0 0 := Stand.of_body Bd
  have e0 : s₁.heap = h0 := by rw [← hh, Bd.state]; rfl
  have N0 := Fr.nil n0
  have k0 : Kt p e below m (s₁.setTop (entryFrame m #[(.int p1)] 1)) s₁ 0 #[.val (.int p1)] [] := fun t ht => castTop (ef11 m p1) ht
  have k44 : Kt p e below m (s₁.setTop (entryFrame m #[(.int p1)] 1)) s₁ 12 #[.val (.int p1)] [(.int (1 : Int32))] := by
    intro t ht
    refine k0 t ?_
    show Steps p.tables e below (s₁.setTop (mkF m 0 #[.val (.int p1)] [])) t
    refine XS.iloadN X0.here hx rfl (hb hby d11_0) rfl ?_
    show Steps p.tables e below (s₁.setTop (mkF m 1 #[.val (.int p1)] [(.int p1)])) t
    refine XS.sipush X0.here hx rfl (hb hby d11_1) ?_
    show Steps p.tables e below (s₁.setTop (mkF m 4 #[.val (.int p1)] [(.int (255 : Int32)), (.int p1)])) t
    refine XS.icmpNo X0.here hx rfl (hb hby d11_4) rfl (flt hp).2.2.1 ?_
    show Steps p.tables e below (s₁.setTop (mkF m 7 #[.val (.int p1)] [])) t
    refine XS.iconst X0.here hx rfl (hb hby d11_7) ?_
    show Steps p.tables e below (s₁.setTop (mkF m 8 #[.val (.int p1)] [(.int (1 : Int32))])) t
    refine XS.goto X0.here hx rfl (pc0 := 8) (pc' := 12) rfl (hb hby d11_8) (by decide) (by decide) ?_
    exact ht
  obtain ⟨fs, hr, hrun, hended, hW, hsame⟩ := X0.leave (v := some (.int (1 : Int32))) (fun h => by rw [Bd.returns] at h; cases h)
  refine ⟨_, _, k44 _ ?_, hrun, hended, _, _, rfl, ?_, ⟨_, rfl⟩, hW, hsame.mono (by decide) (by decide)⟩
  · exact retN X0 hx (t := .boolean) Bd.returns (by simp) (hb hby d11_12) hr
  · show Q11 Z p1 h0 n0 _ s₁.heap _
    rw [e0]
    exact ⟨rfl, N0, rfl⟩
theorem d12_0 : decode jdk_43_method_46_code 0 = .ok (.iconst 1, 1) := by decide +kernel
theorem d12_1 : decode jdk_43_method_46_code 1 = .ok (.newarray .byte, 2) := by decide +kernel
theorem d12_3 : decode jdk_43_method_46_code 3 = .ok (.dup, 1) := by decide +kernel
theorem d12_4 : decode jdk_43_method_46_code 4 = .ok (.iconst 0, 1) := by decide +kernel
theorem d12_5 : decode jdk_43_method_46_code 5 = .ok (.iload_n 0, 1) := by decide +kernel
theorem d12_6 : decode jdk_43_method_46_code 6 = .ok (.i2b, 1) := by decide +kernel
theorem d12_7 : decode jdk_43_method_46_code 7 = .ok (.bastore, 1) := by decide +kernel
theorem d12_8 : decode jdk_43_method_46_code 8 = .ok (.areturn, 1) := by decide +kernel
theorem pn12 : plainName "java/lang/StringLatin1" = true := by first | (simp [plainName, overriddenIn]; done) | decide +kernel
theorem ef12 (m : MethodId) (p1 : Int32) : entryFrame m #[(.int p1)] 1 = mkF m 0 #[.val (.int p1)] [] := by first | (simp [entryFrame, mkF, argsToLocals, Value.category]; done) | rfl
def Q12 (Z : State) (p1 : Int32) (h0 : Heap) (n0 : Nat) (v : Option Value) (h : Heap) (L : List Loc) : Prop := ∃ r k, v = some (.ref r) ∧ Fr n0 L ∧ Keep h0 h [] ∧ h0.size ≤ r ∧ Arv Z h r k .byte (1 : Int32) [(.int (p1.toInt8.toInt32.toInt8.toInt32))] (.int (0 : Int32))
set_option maxRecDepth 65536 in
set_option maxHeartbeats 40000000 in
theorem rm12 (l : Launch) (Z : State) (a0 : Array Value) (hw : ∀ d ∈ tables_1, d.before a0 Z = true) (ws : List Jvm.Cond) (p1 : Int32) (h0 : Heap) (n0 : Nat) (Z0 : n0 ≤ h0.size)  :
    MetFree l (⟨"java/lang/StringLatin1", "toBytes", "(C)[B"⟩ : MethodName) (head1 (Jvm.Cond.code (⟨"java/lang/StringLatin1", "toBytes", "(C)[B"⟩ : MethodName) jdk_43_method_46_code 1 (some (.array .byte)) :: ws) ({ frames := 0, cells := 1, slots := 1, locals := 0 } : Room)) (fun gs' U => gs' = #[(.int p1)] ∧ Z.Warmed39 U.vm ∧ U.heap = h0) (fun _ _ _ _ _ => True) (fun _ U o U' => ∃ v L, o = .returned v ∧ Q12 Z p1 h0 n0 v U'.heap L ∧ FrameEnd U o U' L ({ frames := 0, cells := 1, slots := 1, locals := 0 } : Room).cells ({ frames := 0, cells := 1, slots := 1, locals := 0 } : Room).slots) := by
  refine MetFree.of_bodySF (plainFor_of_name pn12) hisR ?_
  intro p e s m args below meth c s₁ Bd hml0 hP hK
  obtain ⟨rfl, hZ, hh⟩ := hP
  have hx := Bd.exec
  have hby := Bd.bytes
  have hml : c.maxLocals = 1 := hml0
  have hown : s.vm.findClass "java/lang/StringLatin1" = some m.cls := findClass_of_methodNamed Bd.named
  have hnm := (name_of_methodNamed Bd.named Bd.method).1
  have X0 : Stand p l e ({ frames := 0, cells := 1, slots := 1, locals := 0 } : Room) s m #[(.int p1)] below meth c s₁ [] 0 0 := Stand.of_body Bd
  have e0 : s₁.heap = h0 := by rw [← hh, Bd.state]; rfl
  have N0 := Fr.nil n0
  have k0 : Kt p e below m (s₁.setTop (entryFrame m #[(.int p1)] 1)) s₁ 0 #[.val (.int p1)] [] := fun t ht => castTop (ef12 m p1) ht
  have K0 : Keep h0 h0 [] := Keep.refl _ _
  have k45 : Kt p e below m (s₁.setTop (entryFrame m #[(.int p1)] 1)) s₁ 1 #[.val (.int p1)] [(.int (1 : Int32))] := by
    intro t ht
    refine k0 t ?_
    show Steps p.tables e below (s₁.setTop (mkF m 0 #[.val (.int p1)] [])) t
    refine XS.iconst X0.here hx rfl (hb hby d12_0) ?_
    exact ht
  obtain ⟨T46, h46, ak46, X46, e46, E46, A46, st46⟩ := newP X0 hx hZ (hw _ (List.mem_of_getElem? (i := 27) rfl)) e0 (g := (mkF m 1 #[.val (.int p1)] [(.int (1 : Int32))])) rfl (hb hby d12_1) rfl (by decide) (cap := 1) (by decide) (by decide) (by decide) (by decide)
  obtain ⟨r, q46⟩ : ∃ z, z = h0.size := ⟨_, rfl⟩
  have g_r : n0 ≤ r := by rw [q46]; exact Z0
  have sz_r : h0.size ≤ r := by rw [q46]; exact K0.1
  rw [← q46] at A46 st46
  have f47 : n0 ≤ h46.size := Nat.le_trans Z0 E46.1
  have f48 : Keep h0 h46 [] := K0.ext E46
  have f46 : Arv Z h46 r ak46 .byte (1 : Int32) [(.int (0 : Int32))] (.int (0 : Int32)) := (Arv.new A46 (by decide)).pad (pad_rep [] (.int (0 : Int32)) 1)
  have k46 : Kt p e below m (s₁.setTop (entryFrame m #[(.int p1)] 1)) T46 3 #[.val (.int p1)] [(.ref r)] := fun t ht => k45 t (st46 t ht)
  have k49 : Kt p e below m (s₁.setTop (entryFrame m #[(.int p1)] 1)) T46 7 #[.val (.int p1)] [(.int (p1.toInt8.toInt32)), (.int (0 : Int32)), (.ref r), (.ref r)] := by
    intro t ht
    refine k46 t ?_
    show Steps p.tables e below (T46.setTop (mkF m 3 #[.val (.int p1)] [(.ref r)])) t
    refine XS.dup X46.here hx rfl (hb hby d12_3) rfl rfl ?_
    show Steps p.tables e below (T46.setTop (mkF m 4 #[.val (.int p1)] [(.ref r), (.ref r)])) t
    refine XS.iconst X46.here hx rfl (hb hby d12_4) ?_
    show Steps p.tables e below (T46.setTop (mkF m 5 #[.val (.int p1)] [(.int (0 : Int32)), (.ref r), (.ref r)])) t
    refine XS.iloadN X46.here hx rfl (hb hby d12_5) rfl ?_
    show Steps p.tables e below (T46.setTop (mkF m 6 #[.val (.int p1)] [(.int p1), (.int (0 : Int32)), (.ref r), (.ref r)])) t
    refine XS.i2b X46.here hx rfl (hb hby d12_6) rfl ?_
    exact ht
  obtain ⟨cl50, Ar50, qc50, Sz50, Nn50, Hh50, Gg50⟩ := id f46
  have hin50 : ¬ ((0 : Int32) < 0 ∨ cl50.slots.size ≤ ((0 : Int32)).toNatClampNeg) := inb_of Sz50 ⟨by decide, by decide⟩
  obtain ⟨T50, h50, X50, e50, W50, st50⟩ := stB X46 hx hZ e46 Ar50 (j := (0 : Int32)) hin50 (g := (mkF m 7 #[.val (.int p1)] [(.int (p1.toInt8.toInt32)), (.int (0 : Int32)), (.ref r), (.ref r)])) rfl rfl (hb hby d12_7)
  have N50 := Fr.snoc X50 N0 g_r
  have f51 : n0 ≤ h50.size := Nat.le_trans f47 (Keep.of_wr W50).1
  have f52 : Keep h0 h50 [] := f48.wr W50 (Or.inr sz_r)
  have f53 : Arv Z h50 r ak46 .byte (1 : Int32) [(.int ((p1.toInt8.toInt32).toInt8.toInt32))] (.int (0 : Int32)) := Arv.set Ar50 qc50 Sz50 Nn50 Hh50 Gg50 (fits_nar_byte _) W50 0 rfl (Nat.le_of_ble_eq_true rfl)
  have k50 : Kt p e below m (s₁.setTop (entryFrame m #[(.int p1)] 1)) T50 8 #[.val (.int p1)] [(.ref r)] := fun t ht => k49 t (st50 t ht)
  obtain ⟨fs, hr, hrun, hended, hW, hsame⟩ := X50.leave (v := some (.ref r)) (fun h => by rw [Bd.returns] at h; cases h)
  refine ⟨_, _, k50 _ ?_, hrun, hended, _, _, rfl, ?_, ⟨_, rfl⟩, hW, hsame.mono (by decide) (by decide)⟩
  · show Steps p.tables e below (T50.setTop (mkF m 8 #[.val (.int p1)] [(.ref r)])) _
    jvm_step X50.here [X50.here.top, hx, (hb hby d12_8), X50.method', Bd.returns, Value.isRef, FieldType.isReference]
    first | (intro acts; rw [hr _ acts rfl rfl rfl]) | rw [hr _ _ rfl rfl rfl]
    exact Steps.refl _
  · show Q12 Z p1 h0 n0 _ T50.heap _
    rw [e50]
    exact ⟨r, _, rfl, N50, f52, sz_r, f53⟩
theorem d13_0 : decode jdk_42_method_151_code 0 = .ok (.aload_n 0, 1) := by decide +kernel
theorem d13_1 : decode jdk_42_method_151_code 1 = .ok (.invokespecial 1, 3) := by decide +kernel
theorem d13_4 : decode jdk_42_method_151_code 4 = .ok (.aload_n 0, 1) := by decide +kernel
theorem d13_5 : decode jdk_42_method_151_code 5 = .ok (.aload_n 1, 1) := by decide +kernel
theorem d13_6 : decode jdk_42_method_151_code 6 = .ok (.putfield 9, 3) := by decide +kernel
theorem d13_9 : decode jdk_42_method_151_code 9 = .ok (.aload_n 0, 1) := by decide +kernel
theorem d13_10 : decode jdk_42_method_151_code 10 = .ok (.iload_n 2, 1) := by decide +kernel
theorem d13_11 : decode jdk_42_method_151_code 11 = .ok (.putfield 15, 3) := by decide +kernel
theorem d13_14 : decode jdk_42_method_151_code 14 = .ok (.return_, 1) := by decide +kernel
theorem pn13 : plainName "java/lang/String" = true := by first | (simp [plainName, overriddenIn]; done) | decide +kernel
theorem ef13 (m : MethodId) (a : Addr) (b : Addr) : entryFrame m #[(.ref a), (.ref b), (.int (0 : Int32))] 3 = mkF m 0 #[.val (.ref a), .val (.ref b), .val (.int (0 : Int32))] [] := by first | (simp [entryFrame, mkF, argsToLocals, Value.category]; done) | rfl
def Q13 (Z : State) (a : Addr) (b : Addr) (h0 : Heap) (n0 : Nat) (v : Option Value) (h : Heap) (L : List Loc) : Prop := v = none ∧ Fr n0 L ∧ Keep h0 h [a]
set_option maxRecDepth 65536 in
set_option maxHeartbeats 40000000 in
theorem rm13 (l : Launch) (Z : State) (a0 : Array Value) (hw : ∀ d ∈ tables_1, d.before a0 Z = true) (ws : List Jvm.Cond) (a : Addr) (b : Addr) (h0 : Heap) (n0 : Nat) (Z0 : n0 ≤ h0.size) (E_a : Exa Z h0 a "java/lang/String") (F_value : Fld Z h0 a "java/lang/String" "value" "[B" .null) (F_coder : Fld Z h0 a "java/lang/String" "coder" "B" (.int (0 : Int32))) (g_a : n0 ≤ a) :
    MetFree l (⟨"java/lang/String", "<init>", "([BB)V"⟩ : MethodName) (head1 (Jvm.Cond.code (⟨"java/lang/String", "<init>", "([BB)V"⟩ : MethodName) jdk_42_method_151_code 3 none :: ws) ({ frames := 1, cells := 0, slots := 0, locals := 12 } : Room)) (fun gs' U => gs' = #[(.ref a), (.ref b), (.int (0 : Int32))] ∧ Z.Warmed39 U.vm ∧ U.heap = h0) (fun _ _ _ _ _ => True) (fun _ U o U' => ∃ v L, o = .returned v ∧ Q13 Z a b h0 n0 v U'.heap L ∧ FrameEnd U o U' L ({ frames := 1, cells := 0, slots := 0, locals := 12 } : Room).cells ({ frames := 1, cells := 0, slots := 0, locals := 12 } : Room).slots) := by
  refine MetFree.of_bodySF (plainFor_of_name pn13) hisR ?_
  intro p e s m args below meth c s₁ Bd hml0 hP hK
  obtain ⟨rfl, hZ, hh⟩ := hP
  have hx := Bd.exec
  have hby := Bd.bytes
  have hml : c.maxLocals = 3 := hml0
  have hown : s.vm.findClass "java/lang/String" = some m.cls := findClass_of_methodNamed Bd.named
  have hnm := (name_of_methodNamed Bd.named Bd.method).1
  have X0 : Stand p l e ({ frames := 1, cells := 0, slots := 0, locals := 12 } : Room) s m #[(.ref a), (.ref b), (.int (0 : Int32))] below meth c s₁ [] 0 0 := Stand.of_body Bd
  have e0 : s₁.heap = h0 := by rw [← hh, Bd.state]; rfl
  have N0 := Fr.nil n0
  have k0 : Kt p e below m (s₁.setTop (entryFrame m #[(.ref a), (.ref b), (.int (0 : Int32))] 3)) s₁ 0 #[.val (.ref a), .val (.ref b), .val (.int (0 : Int32))] [] := fun t ht => castTop (ef13 m a b) ht
  have K0 : Keep h0 h0 [a] := Keep.refl _ _
  have k54 : Kt p e below m (s₁.setTop (entryFrame m #[(.ref a), (.ref b), (.int (0 : Int32))] 3)) s₁ 1 #[.val (.ref a), .val (.ref b), .val (.int (0 : Int32))] [(.ref a)] := by
    intro t ht
    refine k0 t ?_
    show Steps p.tables e below (s₁.setTop (mkF m 0 #[.val (.ref a), .val (.ref b), .val (.int (0 : Int32))] [])) t
    refine XS.aloadN X0.here hx rfl (hb hby d13_0) rfl rfl ?_
    exact ht
  obtain ⟨T55, X55, e55, st55⟩ := initO X0 hx hZ hown (hw _ (List.mem_of_getElem? (i := 19) rfl)) (hw _ (List.mem_of_getElem? (i := 20) rfl)) (hw _ (List.mem_of_getElem? (i := 21) rfl)) e0 (g := (mkF m 1 #[.val (.ref a), .val (.ref b), .val (.int (0 : Int32))] [(.ref a)])) rfl (by rw [hml]; rfl) rfl (hb hby d13_1) (by decide) (W := 0) (by show 2 * 0 + _ ≤ _; exact Nat.le_of_eq rfl) (by decide)
  have k55 : Kt p e below m (s₁.setTop (entryFrame m #[(.ref a), (.ref b), (.int (0 : Int32))] 3)) T55 4 #[.val (.ref a), .val (.ref b), .val (.int (0 : Int32))] [] := fun t ht => k54 t (st55 t ht)
  have k56 : Kt p e below m (s₁.setTop (entryFrame m #[(.ref a), (.ref b), (.int (0 : Int32))] 3)) T55 6 #[.val (.ref a), .val (.ref b), .val (.int (0 : Int32))] [(.ref b), (.ref a)] := by
    intro t ht
    refine k55 t ?_
    show Steps p.tables e below (T55.setTop (mkF m 4 #[.val (.ref a), .val (.ref b), .val (.int (0 : Int32))] [])) t
    refine XS.aloadN X55.here hx rfl (hb hby d13_4) rfl rfl ?_
    show Steps p.tables e below (T55.setTop (mkF m 5 #[.val (.ref a), .val (.ref b), .val (.int (0 : Int32))] [(.ref a)])) t
    refine XS.aloadN X55.here hx rfl (hb hby d13_5) rfl rfl ?_
    exact ht
  obtain ⟨T57, h57, X57, e57, W57, st57⟩ := putF X55 hx hZ hown (host := "") (Or.inl (hw _ (List.mem_of_getElem? (i := 36) rfl))) Via.refl e55 F_value E_a (Or.inr ⟨(hw _ (List.mem_of_getElem? (i := 37) rfl)), rfl, hnm⟩) (hw _ (List.mem_of_getElem? (i := 9) rfl)) (ty := (.array .byte)) (by decide) rfl rfl (g := (mkF m 6 #[.val (.ref a), .val (.ref b), .val (.int (0 : Int32))] [(.ref b), (.ref a)])) rfl rfl (hb hby d13_6)
  have N57 := Fr.snoc X57 N0 g_a
  have f58 : n0 ≤ h57.size := Nat.le_trans Z0 (Keep.of_wr W57).1
  have f59 : Exa Z h57 a "java/lang/String" := E_a.wr W57
  have f60 : Fld Z h57 a "java/lang/String" "value" "[B" (.ref b) := F_value.same W57
  have f61 : Fld Z h57 a "java/lang/String" "coder" "B" (.int (0 : Int32)) := F_coder.other W57 (Or.inr (slot_ne (Or.inr (hw _ (List.mem_of_getElem? (i := 35) rfl))) (Or.inr (hw _ (List.mem_of_getElem? (i := 37) rfl))) (by decide) (t := .byte) (t' := (.array .byte)) (by decide) (by decide)))
  have f62 : Keep h0 h57 [a] := K0.wr W57 (Or.inl (List.mem_of_getElem? (i := 0) rfl))
  have k57 : Kt p e below m (s₁.setTop (entryFrame m #[(.ref a), (.ref b), (.int (0 : Int32))] 3)) T57 9 #[.val (.ref a), .val (.ref b), .val (.int (0 : Int32))] [] := fun t ht => k56 t (st57 t ht)
  have k63 : Kt p e below m (s₁.setTop (entryFrame m #[(.ref a), (.ref b), (.int (0 : Int32))] 3)) T57 11 #[.val (.ref a), .val (.ref b), .val (.int (0 : Int32))] [(.int (0 : Int32)), (.ref a)] := by
    intro t ht
    refine k57 t ?_
    show Steps p.tables e below (T57.setTop (mkF m 9 #[.val (.ref a), .val (.ref b), .val (.int (0 : Int32))] [])) t
    refine XS.aloadN X57.here hx rfl (hb hby d13_9) rfl rfl ?_
    show Steps p.tables e below (T57.setTop (mkF m 10 #[.val (.ref a), .val (.ref b), .val (.int (0 : Int32))] [(.ref a)])) t
    refine XS.iloadN X57.here hx rfl (hb hby d13_10) rfl ?_
    exact ht
  obtain ⟨T64, h64, X64, e64, W64, st64⟩ := putFN X57 hx hZ hown (hw _ (List.mem_of_getElem? (i := 34) rfl)) Via.refl e57 f61 f59 (Or.inr ⟨(hw _ (List.mem_of_getElem? (i := 35) rfl)), rfl, hnm⟩) (hw _ (List.mem_of_getElem? (i := 9) rfl)) (ty := .byte) (v' := (.int (0 : Int32))) (by decide) rfl rfl (g := (mkF m 11 #[.val (.ref a), .val (.ref b), .val (.int (0 : Int32))] [(.int (0 : Int32)), (.ref a)])) rfl rfl (hb hby d13_11)
  have N64 := Fr.snoc X64 N57 g_a
  have f65 : n0 ≤ h64.size := Nat.le_trans f58 (Keep.of_wr W64).1
  have f66 : Exa Z h64 a "java/lang/String" := f59.wr W64
  have f67 : Fld Z h64 a "java/lang/String" "value" "[B" (.ref b) := f60.other W64 (Or.inr (slot_ne (Or.inr (hw _ (List.mem_of_getElem? (i := 37) rfl))) (Or.inr (hw _ (List.mem_of_getElem? (i := 35) rfl))) (by decide) (t := (.array .byte)) (t' := .byte) (by decide) (by decide)))
  have f68 : Fld Z h64 a "java/lang/String" "coder" "B" (.int (0 : Int32)) := f61.same W64
  have f69 : Keep h0 h64 [a] := f62.wr W64 (Or.inl (List.mem_of_getElem? (i := 0) rfl))
  have k64 : Kt p e below m (s₁.setTop (entryFrame m #[(.ref a), (.ref b), (.int (0 : Int32))] 3)) T64 14 #[.val (.ref a), .val (.ref b), .val (.int (0 : Int32))] [] := fun t ht => k63 t (st64 t ht)
  obtain ⟨fs, hr, hrun, hended, hW, hsame⟩ := X64.leave (v := none) (fun _ => rfl)
  refine ⟨_, _, k64 _ ?_, hrun, hended, _, _, rfl, ?_, ⟨_, rfl⟩, hW, hsame.mono (by decide) (by decide)⟩
  · exact X64.returnOut hx Bd.returns (hb hby d13_14) hr
  · show Q13 Z a b h0 n0 _ T64.heap _
    rw [e64]
    exact ⟨rfl, N64, f69⟩
theorem d10_0 : decode jdk_42_method_139_code 0 = .ok (.getstatic 38, 3) := by decide +kernel
theorem d10_3 : decode jdk_42_method_139_code 3 = .ok (.ifCond .eq 23, 3) := by decide +kernel
theorem d10_6 : decode jdk_42_method_139_code 6 = .ok (.iload_n 0, 1) := by decide +kernel
theorem d10_7 : decode jdk_42_method_139_code 7 = .ok (.invokestatic 1015, 3) := by decide +kernel
theorem d10_10 : decode jdk_42_method_139_code 10 = .ok (.ifCond .eq 16, 3) := by decide +kernel
theorem d10_13 : decode jdk_42_method_139_code 13 = .ok (.new 10, 3) := by decide +kernel
theorem d10_16 : decode jdk_42_method_139_code 16 = .ok (.dup, 1) := by decide +kernel
theorem d10_17 : decode jdk_42_method_139_code 17 = .ok (.iload_n 0, 1) := by decide +kernel
theorem d10_18 : decode jdk_42_method_139_code 18 = .ok (.invokestatic 1018, 3) := by decide +kernel
theorem d10_21 : decode jdk_42_method_139_code 21 = .ok (.iconst 0, 1) := by decide +kernel
theorem d10_22 : decode jdk_42_method_139_code 22 = .ok (.invokespecial 209, 3) := by decide +kernel
theorem d10_25 : decode jdk_42_method_139_code 25 = .ok (.areturn, 1) := by decide +kernel
theorem d10_26 : decode jdk_42_method_139_code 26 = .ok (.new 10, 3) := by decide +kernel
theorem d10_29 : decode jdk_42_method_139_code 29 = .ok (.dup, 1) := by decide +kernel
theorem d10_30 : decode jdk_42_method_139_code 30 = .ok (.iload_n 0, 1) := by decide +kernel
theorem d10_31 : decode jdk_42_method_139_code 31 = .ok (.invokestatic 1021, 3) := by decide +kernel
theorem d10_34 : decode jdk_42_method_139_code 34 = .ok (.iconst 1, 1) := by decide +kernel
theorem d10_35 : decode jdk_42_method_139_code 35 = .ok (.invokespecial 209, 3) := by decide +kernel
theorem d10_38 : decode jdk_42_method_139_code 38 = .ok (.areturn, 1) := by decide +kernel
theorem pn10 : plainName "java/lang/String" = true := by first | (simp [plainName, overriddenIn]; done) | decide +kernel
theorem ef10 (m : MethodId) (p1 : Int32) : entryFrame m #[(.int p1)] 1 = mkF m 0 #[.val (.int p1)] [] := by first | (simp [entryFrame, mkF, argsToLocals, Value.category]; done) | rfl
def Q10 (Z : State) (p1 : Int32) (G1 : Int32) (h0 : Heap) (n0 : Nat) (v : Option Value) (h : Heap) (L : List Loc) : Prop := ∃ r, v = some (.ref r) ∧ Fr n0 L ∧ Keep h0 h [] ∧ Exa Z h r "java/lang/String"
set_option maxRecDepth 65536 in
set_option maxHeartbeats 40000000 in
theorem rm10 (l : Launch) (Z : State) (a0 : Array Value) (hw : ∀ d ∈ tables_1, d.before a0 Z = true) (ws : List Jvm.Cond) (p1 : Int32) (G1 : Int32) (h0 : Heap) (n0 : Nat) (Z0 : n0 ≤ h0.size) (S1 : Sta Z Z.heap "java/lang/String" "COMPACT_STRINGS" "Z" (.int G1)) (P5 : ¬ (G1 = (0 : Int32))) (O : Old Z n0 h0) (hp : ¬ (255 : Int32) < p1) :
    MetFree l (⟨"java/lang/String", "valueOf", "(C)Ljava/lang/String;"⟩ : MethodName) (head1 (Jvm.Cond.code (⟨"java/lang/String", "valueOf", "(C)Ljava/lang/String;"⟩ : MethodName) jdk_42_method_139_code 1 (some (.object "java/lang/String")) :: ws) ({ frames := 2, cells := 2, slots := 5, locals := 27 } : Room)) (fun gs' U => gs' = #[(.int p1)] ∧ Z.Warmed39 U.vm ∧ U.heap = h0) (fun _ _ _ _ _ => True) (fun _ U o U' => ∃ v L, o = .returned v ∧ Q10 Z p1 G1 h0 n0 v U'.heap L ∧ FrameEnd U o U' L ({ frames := 2, cells := 2, slots := 5, locals := 27 } : Room).cells ({ frames := 2, cells := 2, slots := 5, locals := 27 } : Room).slots) := by
  refine MetFree.of_bodySF (plainFor_of_name pn10) hisR ?_
  intro p e s m args below meth c s₁ Bd hml0 hP hK
  obtain ⟨rfl, hZ, hh⟩ := hP
  have hx := Bd.exec
  have hby := Bd.bytes
  have hml : c.maxLocals = 1 := hml0
  have hown : s.vm.findClass "java/lang/String" = some m.cls := findClass_of_methodNamed Bd.named
  have hnm := (name_of_methodNamed Bd.named Bd.method).1
  have X0 : Stand p l e ({ frames := 2, cells := 2, slots := 5, locals := 27 } : Room) s m #[(.int p1)] below meth c s₁ [] 0 0 := Stand.of_body Bd
  have e0 : s₁.heap = h0 := by rw [← hh, Bd.state]; rfl
  have N0 := Fr.nil n0
  have k0 : Kt p e below m (s₁.setTop (entryFrame m #[(.int p1)] 1)) s₁ 0 #[.val (.int p1)] [] := fun t ht => castTop (ef10 m p1) ht
  have K0 : Keep h0 h0 [] := Keep.refl _ _
  obtain ⟨T70, X70, e70, st70⟩ := getS2 X0 hx hZ hown (host := "") (Or.inl (hw _ (List.mem_of_getElem? (i := 22) rfl))) Via.refl e0 (S1.ext O.2) (g := (mkF m 0 #[.val (.int p1)] [])) rfl (hb hby d10_0)
  have k70 : Kt p e below m (s₁.setTop (entryFrame m #[(.int p1)] 1)) T70 3 #[.val (.int p1)] [(.int G1)] := fun t ht => k0 t (st70 t ht)
  have k71 : Kt p e below m (s₁.setTop (entryFrame m #[(.int p1)] 1)) T70 7 #[.val (.int p1)] [(.int p1)] := by
    intro t ht
    refine k70 t ?_
    show Steps p.tables e below (T70.setTop (mkF m 3 #[.val (.int p1)] [(.int G1)])) t
    refine XS.ifNo X70.here hx rfl (hb hby d10_3) rfl ((if0 _ _).trans (feq P5).1) ?_
    show Steps p.tables e below (T70.setTop (mkF m 6 #[.val (.int p1)] [])) t
    refine XS.iloadN X70.here hx rfl (hb hby d10_6) rfl ?_
    exact ht
  obtain ⟨_, _, ⟨T72, L72, c72, n72⟩, -, X72, ⟨Lc72, hQ72, l72, y72, z72⟩, st72⟩ := Jvm.LawKit.callS X70 hx (y := (⟨"java/lang/StringLatin1", "canEncode", "(C)Z"⟩ : MethodName)) hown (mvT hZ (hw _ (List.mem_of_getElem? (i := 56) rfl))) (mvT hZ (hw _ (List.mem_of_getElem? (i := 57) rfl))) (mvT hZ (hw _ (List.mem_of_getElem? (i := 58) rfl))) (mvT hZ (hw _ (List.mem_of_getElem? (i := 59) rfl))) (by decide) (backOf (W := 0) (rm11 l Z a0 hw [] p1 h0 n0 Z0 hp) hZ (hw _ (List.mem_of_getElem? (i := 59) rfl)) (hw _ (List.mem_of_getElem? (i := 58) rfl)) (by decide) (by decide)) (g := (mkF m 7 #[.val (.int p1)] [(.int p1)])) rfl (by rw [hml]; rfl) (argsL := [(.int p1)]) (rest := []) (lenOf pd_4 rfl) rfl (by show 2 * 0 + _ ≤ _; exact Nat.le_of_eq rfl) (hb hby d10_7) (fun _ _ => ⟨rfl, e70, (by decide : 0 + 0 ≤ _), (by decide : 0 + 0 ≤ _)⟩)
  dsimp only [Pt.U, Pt.locs, Pt.cells, Pt.slots] at X72 l72 y72 z72 st72 hQ72
  subst l72 y72 z72
  obtain ⟨rfl, Nq72, eq1⟩ := hQ72
  have N72 := Fr.app N0 Nq72
  have k72 : Kt p e below m (s₁.setTop (entryFrame m #[(.int p1)] 1)) T72 10 #[.val (.int p1)] [(.int (1 : Int32))] := fun t ht => k71 t (st72 t ht)
  have f73 : n0 ≤ T72.heap.size := by rw [eq1]; exact Z0
  have f74 : Keep h0 T72.heap [] := by rw [eq1]; exact K0
  have k75 : Kt p e below m (s₁.setTop (entryFrame m #[(.int p1)] 1)) T72 13 #[.val (.int p1)] [] := by
    intro t ht
    refine k72 t ?_
    show Steps p.tables e below (T72.setTop (mkF m 10 #[.val (.int p1)] [(.int (1 : Int32))])) t
    refine XS.ifNo X72.here hx rfl (hb hby d10_10) rfl ((if0 _ _).trans (feq (by decide)).1) ?_
    exact ht
  obtain ⟨T76, h76, X76, e76, E76, A76, D76, -, st76⟩ := newO X72 hx hZ hown (hw _ (List.mem_of_getElem? (i := 60) rfl)) (hw _ (List.mem_of_getElem? (i := 9) rfl)) (hw _ (List.mem_of_getElem? (i := 10) rfl)) rfl (g := (mkF m 13 #[.val (.int p1)] [])) rfl (hb hby d10_13) (by decide) (by decide)
  obtain ⟨r, q76⟩ : ∃ z, z = T72.heap.size := ⟨_, rfl⟩
  have g_r : n0 ≤ r := by rw [q76]; exact f73
  have sz_r : h0.size ≤ r := by rw [q76]; exact f74.1
  rw [← q76] at A76 D76 st76
  have f77 : n0 ≤ h76.size := Nat.le_trans f73 E76.1
  have f78 : Keep h0 h76 [] := f74.ext E76
  have f76 : Exa Z h76 r "java/lang/String" := A76
  have f79 : Fld Z h76 r "java/lang/String" "coder" "B" (.int (0 : Int32)) := D76 (Or.inr (hw _ (List.mem_of_getElem? (i := 35) rfl))) (ty := .byte) (by decide)
  have f80 : Fld Z h76 r "java/lang/String" "value" "[B" .null := D76 (Or.inr (hw _ (List.mem_of_getElem? (i := 37) rfl))) (ty := (.array .byte)) (by decide)
  have k76 : Kt p e below m (s₁.setTop (entryFrame m #[(.int p1)] 1)) T76 16 #[.val (.int p1)] [(.ref r)] := fun t ht => k75 t (st76 t ht)
  have k81 : Kt p e below m (s₁.setTop (entryFrame m #[(.int p1)] 1)) T76 18 #[.val (.int p1)] [(.int p1), (.ref r), (.ref r)] := by
    intro t ht
    refine k76 t ?_
    show Steps p.tables e below (T76.setTop (mkF m 16 #[.val (.int p1)] [(.ref r)])) t
    refine XS.dup X76.here hx rfl (hb hby d10_16) rfl rfl ?_
    show Steps p.tables e below (T76.setTop (mkF m 17 #[.val (.int p1)] [(.ref r), (.ref r)])) t
    refine XS.iloadN X76.here hx rfl (hb hby d10_17) rfl ?_
    exact ht
  obtain ⟨_, _, ⟨T82, L82, c82, n82⟩, -, X82, ⟨Lc82, hQ82, l82, y82, z82⟩, st82⟩ := Jvm.LawKit.callS X76 hx (y := (⟨"java/lang/StringLatin1", "toBytes", "(C)[B"⟩ : MethodName)) hown (mvT hZ (hw _ (List.mem_of_getElem? (i := 61) rfl))) (mvT hZ (hw _ (List.mem_of_getElem? (i := 62) rfl))) (mvT hZ (hw _ (List.mem_of_getElem? (i := 58) rfl))) (mvT hZ (hw _ (List.mem_of_getElem? (i := 63) rfl))) (by decide) (backOf (W := 2) (rm12 l Z a0 hw [] p1 h76 n0 f77 ) hZ (hw _ (List.mem_of_getElem? (i := 63) rfl)) (hw _ (List.mem_of_getElem? (i := 58) rfl)) (by decide) (by decide)) (g := (mkF m 18 #[.val (.int p1)] [(.int p1), (.ref r), (.ref r)])) rfl (by rw [hml]; rfl) (argsL := [(.int p1)]) (rest := [(.ref r), (.ref r)]) (lenOf pd_5 rfl) rfl (by show 2 * 0 + _ ≤ _; exact Nat.le_of_eq rfl) (hb hby d10_18) (fun _ _ => ⟨rfl, e76, (by decide : 1 + 1 ≤ _), (by decide : 4 + 1 ≤ _)⟩)
  dsimp only [Pt.U, Pt.locs, Pt.cells, Pt.slots] at X82 l82 y82 z82 st82 hQ82
  subst l82 y82 z82
  obtain ⟨bb, kb, rfl, Nq82, Kb, szb, Vb⟩ := hQ82
  have N82 := Fr.app N72 Nq82
  have k82 : Kt p e below m (s₁.setTop (entryFrame m #[(.int p1)] 1)) T82 21 #[.val (.int p1)] [(.ref bb), (.ref r), (.ref r)] := fun t ht => k81 t (st82 t ht)
  have ne_r_bb : r ≠ bb := Nat.ne_of_lt (Nat.lt_of_lt_of_le f76.lt szb)
  have g_bb : n0 ≤ bb := Nat.le_trans f77 szb
  have sz_bb : h0.size ≤ bb := Nat.le_trans f78.1 szb
  have f83 : n0 ≤ T82.heap.size := Nat.le_trans f77 Kb.1
  have f84 : Keep h0 T82.heap [] := f78.trans Kb all0
  have f85 : Exa Z T82.heap r "java/lang/String" := f76.keep Kb
  have f86 : Fld Z T82.heap r "java/lang/String" "coder" "B" (.int (0 : Int32)) := f79.keep Kb nin0
  have f87 : Fld Z T82.heap r "java/lang/String" "value" "[B" .null := f80.keep Kb nin0
  have k88 : Kt p e below m (s₁.setTop (entryFrame m #[(.int p1)] 1)) T82 22 #[.val (.int p1)] [(.int (0 : Int32)), (.ref bb), (.ref r), (.ref r)] := by
    intro t ht
    refine k82 t ?_
    show Steps p.tables e below (T82.setTop (mkF m 21 #[.val (.int p1)] [(.ref bb), (.ref r), (.ref r)])) t
    refine XS.iconst X82.here hx rfl (hb hby d10_21) ?_
    exact ht
  obtain ⟨_, _, ⟨T89, L89, c89, n89⟩, -, X89, ⟨Lc89, hQ89, l89, y89, z89⟩, st89⟩ := X82.specialBack hx (y := (⟨"java/lang/String", "<init>", "([BB)V"⟩ : MethodName)) rfl hown (mvT hZ (hw _ (List.mem_of_getElem? (i := 64) rfl))) (mvT hZ (hw _ (List.mem_of_getElem? (i := 65) rfl))) (mvT hZ (hw _ (List.mem_of_getElem? (i := 66) rfl))) (by decide) (backOf (W := 1) (rm13 l Z a0 hw [] r bb T82.heap n0 f83 f85 f87 f86 g_r) hZ (hw _ (List.mem_of_getElem? (i := 66) rfl)) (hw _ (List.mem_of_getElem? (i := 10) rfl)) (by decide) (by decide)) (g := (mkF m 22 #[.val (.int p1)] [(.int (0 : Int32)), (.ref bb), (.ref r), (.ref r)])) rfl (by rw [hml]; rfl) (Steps.refl _) (a := r) (argsL := [(.ref bb), (.int (0 : Int32))]) (rest := [(.ref r)]) (lenOf pd_10 rfl) rfl (by show 2 * 0 + _ ≤ _; exact Nat.le_of_eq rfl) (hb hby d10_22) (fun _ _ => ⟨rfl, rfl, (by decide : 2 + 0 ≤ _), (by decide : 5 + 0 ≤ _)⟩)
  dsimp only [Pt.U, Pt.locs, Pt.cells, Pt.slots] at X89 l89 y89 z89 st89 hQ89
  subst l89 y89 z89
  obtain ⟨rfl, Nq89, Kp⟩ := hQ89
  have N89 := Fr.app N82 Nq89
  have k89 : Kt p e below m (s₁.setTop (entryFrame m #[(.int p1)] 1)) T89 25 #[.val (.int p1)] [(.ref r)] := fun t ht => k88 t (st89.trans ht)
  have f90 : n0 ≤ T89.heap.size := Nat.le_trans f83 Kp.1
  have f91 : Keep h0 T89.heap [] := f84.trans Kp (allS (Or.inr sz_r) all0)
  have f92 : Exa Z T89.heap r "java/lang/String" := f85.keep Kp
  obtain ⟨fs, hr, hrun, hended, hW, hsame⟩ := X89.leave (v := some (.ref r)) (fun h => by rw [Bd.returns] at h; cases h)
  refine ⟨_, _, k89 _ ?_, hrun, hended, _, _, rfl, ?_, ⟨_, rfl⟩, hW, hsame.mono (by decide) (by decide)⟩
  · show Steps p.tables e below (T89.setTop (mkF m 25 #[.val (.int p1)] [(.ref r)])) _
    jvm_step X89.here [X89.here.top, hx, (hb hby d10_25), X89.method', Bd.returns, Value.isRef, FieldType.isReference]
    first | (intro acts; rw [hr _ acts rfl rfl rfl]) | rw [hr _ _ rfl rfl rfl]
    exact Steps.refl _
  · show Q10 Z p1 G1 h0 n0 _ T89.heap _
    exact ⟨r, rfl, N89, f91, f92⟩
theorem d14_0 : decode method_3_code 0 = .ok (.iload_n 0, 1) := by decide +kernel
theorem d14_1 : decode method_3_code 1 = .ok (.iconst 3, 1) := by decide +kernel
theorem d14_2 : decode method_3_code 2 = .ok (.iand, 1) := by decide +kernel
theorem d14_3 : decode method_3_code 3 = .ok (.istore 5, 2) := by decide +kernel
theorem d14_5 : decode method_3_code 5 = .ok (.iload 5, 2) := by decide +kernel
theorem d14_7 : decode method_3_code 7 = .ok (.ifCond .ne 5, 3) := by decide +kernel
theorem d14_10 : decode method_3_code 10 = .ok (.aload_n 1, 1) := by decide +kernel
theorem d14_11 : decode method_3_code 11 = .ok (.areturn, 1) := by decide +kernel
theorem d14_12 : decode method_3_code 12 = .ok (.iload 5, 2) := by decide +kernel
theorem d14_14 : decode method_3_code 14 = .ok (.iconst 1, 1) := by decide +kernel
theorem d14_15 : decode method_3_code 15 = .ok (.if_icmp .ne 5, 3) := by decide +kernel
theorem d14_18 : decode method_3_code 18 = .ok (.aload_n 2, 1) := by decide +kernel
theorem d14_19 : decode method_3_code 19 = .ok (.areturn, 1) := by decide +kernel
theorem d14_20 : decode method_3_code 20 = .ok (.iload 5, 2) := by decide +kernel
theorem d14_22 : decode method_3_code 22 = .ok (.iconst 2, 1) := by decide +kernel
theorem d14_23 : decode method_3_code 23 = .ok (.if_icmp .ne 5, 3) := by decide +kernel
theorem d14_26 : decode method_3_code 26 = .ok (.aload_n 3, 1) := by decide +kernel
theorem d14_27 : decode method_3_code 27 = .ok (.areturn, 1) := by decide +kernel
theorem d14_28 : decode method_3_code 28 = .ok (.aload 4, 2) := by decide +kernel
theorem d14_30 : decode method_3_code 30 = .ok (.areturn, 1) := by decide +kernel
theorem pn14 : plainName "com/example/tablepuffer/tablepuffer/TableShapeKeyPartsPinLaw" = true := by first | (simp [plainName, overriddenIn]; done) | decide +kernel
theorem ef14 (m : MethodId) (p1 : Int32) (a : Addr) (b : Addr) (d : Addr) (f : Addr) : entryFrame m #[(.int p1), (.ref a), (.ref b), (.ref d), (.ref f)] 6 = mkF m 0 #[.val (.int p1), .val (.ref a), .val (.ref b), .val (.ref d), .val (.ref f), .unset] [] := by first | (simp [entryFrame, mkF, argsToLocals, Value.category]; done) | rfl
def Q14 (Z : State) (p1 : Int32) (a : Addr) (b : Addr) (d : Addr) (f : Addr) (h0 : Heap) (n0 : Nat) (v : Option Value) (h : Heap) (L : List Loc) : Prop := v = some (.ref (own_p4 (p1 &&& (3 : Int32)) a b d f)) ∧ Fr n0 L ∧ h = h0
set_option maxRecDepth 65536 in
set_option maxHeartbeats 40000000 in
theorem rm14 (l : Launch) (Z : State) (a0 : Array Value) (hw : ∀ d ∈ tables_1, d.before a0 Z = true) (ws : List Jvm.Cond) (p1 : Int32) (a : Addr) (b : Addr) (d : Addr) (f : Addr) (h0 : Heap) (n0 : Nat) (Z0 : n0 ≤ h0.size)  :
    MetFree l (⟨"com/example/tablepuffer/tablepuffer/TableShapeKeyPartsPinLaw", "pick", "(ILjava/lang/Object;Ljava/lang/Object;Ljava/lang/Object;Ljava/lang/Object;)Ljava/lang/Object;"⟩ : MethodName) (head1 (Jvm.Cond.code (⟨"com/example/tablepuffer/tablepuffer/TableShapeKeyPartsPinLaw", "pick", "(ILjava/lang/Object;Ljava/lang/Object;Ljava/lang/Object;Ljava/lang/Object;)Ljava/lang/Object;"⟩ : MethodName) method_3_code 6 (some (.object "java/lang/Object")) :: ws) ({ frames := 0, cells := 0, slots := 0, locals := 0 } : Room)) (fun gs' U => gs' = #[(.int p1), (.ref a), (.ref b), (.ref d), (.ref f)] ∧ Z.Warmed39 U.vm ∧ U.heap = h0) (fun _ _ _ _ _ => True) (fun _ U o U' => ∃ v L, o = .returned v ∧ Q14 Z p1 a b d f h0 n0 v U'.heap L ∧ FrameEnd U o U' L ({ frames := 0, cells := 0, slots := 0, locals := 0 } : Room).cells ({ frames := 0, cells := 0, slots := 0, locals := 0 } : Room).slots) := by
  refine MetFree.of_bodySF (plainFor_of_name pn14) hisR ?_
  intro p e s m args below meth c s₁ Bd hml0 hP hK
  obtain ⟨rfl, hZ, hh⟩ := hP
  have hx := Bd.exec
  have hby := Bd.bytes
  have hml : c.maxLocals = 6 := hml0
  have hown : s.vm.findClass "com/example/tablepuffer/tablepuffer/TableShapeKeyPartsPinLaw" = some m.cls := findClass_of_methodNamed Bd.named
  have hnm := (name_of_methodNamed Bd.named Bd.method).1
  have X0 : Stand p l e ({ frames := 0, cells := 0, slots := 0, locals := 0 } : Room) s m #[(.int p1), (.ref a), (.ref b), (.ref d), (.ref f)] below meth c s₁ [] 0 0 := Stand.of_body Bd
  have e0 : s₁.heap = h0 := by rw [← hh, Bd.state]; rfl
  have N0 := Fr.nil n0
  have k0 : Kt p e below m (s₁.setTop (entryFrame m #[(.int p1), (.ref a), (.ref b), (.ref d), (.ref f)] 6)) s₁ 0 #[.val (.int p1), .val (.ref a), .val (.ref b), .val (.ref d), .val (.ref f), .unset] [] := fun t ht => castTop (ef14 m p1 a b d f) ht
  have k95 : Kt p e below m (s₁.setTop (entryFrame m #[(.int p1), (.ref a), (.ref b), (.ref d), (.ref f)] 6)) s₁ 7 #[.val (.int p1), .val (.ref a), .val (.ref b), .val (.ref d), .val (.ref f), .val (.int (p1 &&& (3 : Int32)))] [(.int (p1 &&& (3 : Int32)))] := by
    intro t ht
    refine k0 t ?_
    show Steps p.tables e below (s₁.setTop (mkF m 0 #[.val (.int p1), .val (.ref a), .val (.ref b), .val (.ref d), .val (.ref f), .unset] [])) t
    refine XS.iloadN X0.here hx rfl (hb hby d14_0) rfl ?_
    show Steps p.tables e below (s₁.setTop (mkF m 1 #[.val (.int p1), .val (.ref a), .val (.ref b), .val (.ref d), .val (.ref f), .unset] [(.int p1)])) t
    refine XS.iconst X0.here hx rfl (hb hby d14_1) ?_
    show Steps p.tables e below (s₁.setTop (mkF m 2 #[.val (.int p1), .val (.ref a), .val (.ref b), .val (.ref d), .val (.ref f), .unset] [(.int (3 : Int32)), (.int p1)])) t
    refine XS.iand X0.here hx rfl (hb hby d14_2) rfl ?_
    show Steps p.tables e below (s₁.setTop (mkF m 3 #[.val (.int p1), .val (.ref a), .val (.ref b), .val (.ref d), .val (.ref f), .unset] [(.int (p1 &&& (3 : Int32)))])) t
    refine XS.istore X0.here hx rfl (hb hby d14_3) rfl (l' := #[.val (.int p1), .val (.ref a), .val (.ref b), .val (.ref d), .val (.ref f), .val (.int (p1 &&& (3 : Int32)))]) rfl ?_
    show Steps p.tables e below (s₁.setTop (mkF m 5 #[.val (.int p1), .val (.ref a), .val (.ref b), .val (.ref d), .val (.ref f), .val (.int (p1 &&& (3 : Int32)))] [])) t
    refine XS.iload X0.here hx rfl (hb hby d14_5) rfl ?_
    exact ht
  by_cases h0' : (p1 &&& (3 : Int32)) = (0 : Int32)
  · have k96 : Kt p e below m (s₁.setTop (entryFrame m #[(.int p1), (.ref a), (.ref b), (.ref d), (.ref f)] 6)) s₁ 11 #[.val (.int p1), .val (.ref a), .val (.ref b), .val (.ref d), .val (.ref f), .val (.int (p1 &&& (3 : Int32)))] [(.ref a)] := by
      intro t ht
      refine k95 t ?_
      show Steps p.tables e below (s₁.setTop (mkF m 7 #[.val (.int p1), .val (.ref a), .val (.ref b), .val (.ref d), .val (.ref f), .val (.int (p1 &&& (3 : Int32)))] [(.int (p1 &&& (3 : Int32)))])) t
      refine XS.ifNo X0.here hx rfl (hb hby d14_7) rfl ((if0 _ _).trans (teq h0').2) ?_
      show Steps p.tables e below (s₁.setTop (mkF m 10 #[.val (.int p1), .val (.ref a), .val (.ref b), .val (.ref d), .val (.ref f), .val (.int (p1 &&& (3 : Int32)))] [])) t
      refine XS.aloadN X0.here hx rfl (hb hby d14_10) rfl rfl ?_
      exact ht
    obtain ⟨fs, hr, hrun, hended, hW, hsame⟩ := X0.leave (v := some (.ref a)) (fun h => by rw [Bd.returns] at h; cases h)
    refine ⟨_, _, k96 _ ?_, hrun, hended, _, _, rfl, ?_, ⟨_, rfl⟩, hW, hsame.mono (by decide) (by decide)⟩
    · show Steps p.tables e below (s₁.setTop (mkF m 11 #[.val (.int p1), .val (.ref a), .val (.ref b), .val (.ref d), .val (.ref f), .val (.int (p1 &&& (3 : Int32)))] [(.ref a)])) _
      jvm_step X0.here [X0.here.top, hx, (hb hby d14_11), X0.method', Bd.returns, Value.isRef, FieldType.isReference]
      first | (intro acts; rw [hr _ acts rfl rfl rfl]) | rw [hr _ _ rfl rfl rfl]
      exact Steps.refl _
    · show Q14 Z p1 a b d f h0 n0 _ s₁.heap _
      rw [e0]
      exact ⟨congrArg (fun z => some (Value.ref z)) (by unfold own_p4; simp [h0']), N0, rfl⟩
  · have k97 : Kt p e below m (s₁.setTop (entryFrame m #[(.int p1), (.ref a), (.ref b), (.ref d), (.ref f)] 6)) s₁ 15 #[.val (.int p1), .val (.ref a), .val (.ref b), .val (.ref d), .val (.ref f), .val (.int (p1 &&& (3 : Int32)))] [(.int (1 : Int32)), (.int (p1 &&& (3 : Int32)))] := by
      intro t ht
      refine k95 t ?_
      show Steps p.tables e below (s₁.setTop (mkF m 7 #[.val (.int p1), .val (.ref a), .val (.ref b), .val (.ref d), .val (.ref f), .val (.int (p1 &&& (3 : Int32)))] [(.int (p1 &&& (3 : Int32)))])) t
      refine XS.ifYes X0.here hx rfl (pc0 := 7) (pc' := 12) rfl (hb hby d14_7) rfl ((if0 _ _).trans (feq h0').2) (by decide) (by decide) ?_
      show Steps p.tables e below (s₁.setTop (mkF m 12 #[.val (.int p1), .val (.ref a), .val (.ref b), .val (.ref d), .val (.ref f), .val (.int (p1 &&& (3 : Int32)))] [])) t
      refine XS.iload X0.here hx rfl (hb hby d14_12) rfl ?_
      show Steps p.tables e below (s₁.setTop (mkF m 14 #[.val (.int p1), .val (.ref a), .val (.ref b), .val (.ref d), .val (.ref f), .val (.int (p1 &&& (3 : Int32)))] [(.int (p1 &&& (3 : Int32)))])) t
      refine XS.iconst X0.here hx rfl (hb hby d14_14) ?_
      exact ht
    by_cases h1 : (p1 &&& (3 : Int32)) = (1 : Int32)
    · have k98 : Kt p e below m (s₁.setTop (entryFrame m #[(.int p1), (.ref a), (.ref b), (.ref d), (.ref f)] 6)) s₁ 19 #[.val (.int p1), .val (.ref a), .val (.ref b), .val (.ref d), .val (.ref f), .val (.int (p1 &&& (3 : Int32)))] [(.ref b)] := by
        intro t ht
        refine k97 t ?_
        show Steps p.tables e below (s₁.setTop (mkF m 15 #[.val (.int p1), .val (.ref a), .val (.ref b), .val (.ref d), .val (.ref f), .val (.int (p1 &&& (3 : Int32)))] [(.int (1 : Int32)), (.int (p1 &&& (3 : Int32)))])) t
        refine XS.icmpNo X0.here hx rfl (hb hby d14_15) rfl (teq h1).2 ?_
        show Steps p.tables e below (s₁.setTop (mkF m 18 #[.val (.int p1), .val (.ref a), .val (.ref b), .val (.ref d), .val (.ref f), .val (.int (p1 &&& (3 : Int32)))] [])) t
        refine XS.aloadN X0.here hx rfl (hb hby d14_18) rfl rfl ?_
        exact ht
      obtain ⟨fs, hr, hrun, hended, hW, hsame⟩ := X0.leave (v := some (.ref b)) (fun h => by rw [Bd.returns] at h; cases h)
      refine ⟨_, _, k98 _ ?_, hrun, hended, _, _, rfl, ?_, ⟨_, rfl⟩, hW, hsame.mono (by decide) (by decide)⟩
      · show Steps p.tables e below (s₁.setTop (mkF m 19 #[.val (.int p1), .val (.ref a), .val (.ref b), .val (.ref d), .val (.ref f), .val (.int (p1 &&& (3 : Int32)))] [(.ref b)])) _
        jvm_step X0.here [X0.here.top, hx, (hb hby d14_19), X0.method', Bd.returns, Value.isRef, FieldType.isReference]
        first | (intro acts; rw [hr _ acts rfl rfl rfl]) | rw [hr _ _ rfl rfl rfl]
        exact Steps.refl _
      · show Q14 Z p1 a b d f h0 n0 _ s₁.heap _
        rw [e0]
        exact ⟨congrArg (fun z => some (Value.ref z)) (by unfold own_p4; simp [h0', h1]), N0, rfl⟩
    · have k99 : Kt p e below m (s₁.setTop (entryFrame m #[(.int p1), (.ref a), (.ref b), (.ref d), (.ref f)] 6)) s₁ 23 #[.val (.int p1), .val (.ref a), .val (.ref b), .val (.ref d), .val (.ref f), .val (.int (p1 &&& (3 : Int32)))] [(.int (2 : Int32)), (.int (p1 &&& (3 : Int32)))] := by
        intro t ht
        refine k97 t ?_
        show Steps p.tables e below (s₁.setTop (mkF m 15 #[.val (.int p1), .val (.ref a), .val (.ref b), .val (.ref d), .val (.ref f), .val (.int (p1 &&& (3 : Int32)))] [(.int (1 : Int32)), (.int (p1 &&& (3 : Int32)))])) t
        refine XS.icmpYes X0.here hx rfl (pc0 := 15) (pc' := 20) rfl (hb hby d14_15) rfl (feq h1).2 (by decide) (by decide) ?_
        show Steps p.tables e below (s₁.setTop (mkF m 20 #[.val (.int p1), .val (.ref a), .val (.ref b), .val (.ref d), .val (.ref f), .val (.int (p1 &&& (3 : Int32)))] [])) t
        refine XS.iload X0.here hx rfl (hb hby d14_20) rfl ?_
        show Steps p.tables e below (s₁.setTop (mkF m 22 #[.val (.int p1), .val (.ref a), .val (.ref b), .val (.ref d), .val (.ref f), .val (.int (p1 &&& (3 : Int32)))] [(.int (p1 &&& (3 : Int32)))])) t
        refine XS.iconst X0.here hx rfl (hb hby d14_22) ?_
        exact ht
      by_cases h2 : (p1 &&& (3 : Int32)) = (2 : Int32)
      · have k100 : Kt p e below m (s₁.setTop (entryFrame m #[(.int p1), (.ref a), (.ref b), (.ref d), (.ref f)] 6)) s₁ 27 #[.val (.int p1), .val (.ref a), .val (.ref b), .val (.ref d), .val (.ref f), .val (.int (p1 &&& (3 : Int32)))] [(.ref d)] := by
          intro t ht
          refine k99 t ?_
          show Steps p.tables e below (s₁.setTop (mkF m 23 #[.val (.int p1), .val (.ref a), .val (.ref b), .val (.ref d), .val (.ref f), .val (.int (p1 &&& (3 : Int32)))] [(.int (2 : Int32)), (.int (p1 &&& (3 : Int32)))])) t
          refine XS.icmpNo X0.here hx rfl (hb hby d14_23) rfl (teq h2).2 ?_
          show Steps p.tables e below (s₁.setTop (mkF m 26 #[.val (.int p1), .val (.ref a), .val (.ref b), .val (.ref d), .val (.ref f), .val (.int (p1 &&& (3 : Int32)))] [])) t
          refine XS.aloadN X0.here hx rfl (hb hby d14_26) rfl rfl ?_
          exact ht
        obtain ⟨fs, hr, hrun, hended, hW, hsame⟩ := X0.leave (v := some (.ref d)) (fun h => by rw [Bd.returns] at h; cases h)
        refine ⟨_, _, k100 _ ?_, hrun, hended, _, _, rfl, ?_, ⟨_, rfl⟩, hW, hsame.mono (by decide) (by decide)⟩
        · show Steps p.tables e below (s₁.setTop (mkF m 27 #[.val (.int p1), .val (.ref a), .val (.ref b), .val (.ref d), .val (.ref f), .val (.int (p1 &&& (3 : Int32)))] [(.ref d)])) _
          jvm_step X0.here [X0.here.top, hx, (hb hby d14_27), X0.method', Bd.returns, Value.isRef, FieldType.isReference]
          first | (intro acts; rw [hr _ acts rfl rfl rfl]) | rw [hr _ _ rfl rfl rfl]
          exact Steps.refl _
        · show Q14 Z p1 a b d f h0 n0 _ s₁.heap _
          rw [e0]
          exact ⟨congrArg (fun z => some (Value.ref z)) (by unfold own_p4; simp [h0', h1, h2]), N0, rfl⟩
      · have k101 : Kt p e below m (s₁.setTop (entryFrame m #[(.int p1), (.ref a), (.ref b), (.ref d), (.ref f)] 6)) s₁ 30 #[.val (.int p1), .val (.ref a), .val (.ref b), .val (.ref d), .val (.ref f), .val (.int (p1 &&& (3 : Int32)))] [(.ref f)] := by
          intro t ht
          refine k99 t ?_
          show Steps p.tables e below (s₁.setTop (mkF m 23 #[.val (.int p1), .val (.ref a), .val (.ref b), .val (.ref d), .val (.ref f), .val (.int (p1 &&& (3 : Int32)))] [(.int (2 : Int32)), (.int (p1 &&& (3 : Int32)))])) t
          refine XS.icmpYes X0.here hx rfl (pc0 := 23) (pc' := 28) rfl (hb hby d14_23) rfl (feq h2).2 (by decide) (by decide) ?_
          show Steps p.tables e below (s₁.setTop (mkF m 28 #[.val (.int p1), .val (.ref a), .val (.ref b), .val (.ref d), .val (.ref f), .val (.int (p1 &&& (3 : Int32)))] [])) t
          refine XS.aload X0.here hx rfl (hb hby d14_28) rfl rfl ?_
          exact ht
        obtain ⟨fs, hr, hrun, hended, hW, hsame⟩ := X0.leave (v := some (.ref f)) (fun h => by rw [Bd.returns] at h; cases h)
        refine ⟨_, _, k101 _ ?_, hrun, hended, _, _, rfl, ?_, ⟨_, rfl⟩, hW, hsame.mono (by decide) (by decide)⟩
        · show Steps p.tables e below (s₁.setTop (mkF m 30 #[.val (.int p1), .val (.ref a), .val (.ref b), .val (.ref d), .val (.ref f), .val (.int (p1 &&& (3 : Int32)))] [(.ref f)])) _
          jvm_step X0.here [X0.here.top, hx, (hb hby d14_30), X0.method', Bd.returns, Value.isRef, FieldType.isReference]
          first | (intro acts; rw [hr _ acts rfl rfl rfl]) | rw [hr _ _ rfl rfl rfl]
          exact Steps.refl _
        · show Q14 Z p1 a b d f h0 n0 _ s₁.heap _
          rw [e0]
          exact ⟨congrArg (fun z => some (Value.ref z)) (by unfold own_p4; simp [h0', h1, h2]), N0, rfl⟩
theorem d16_0 : decode prog_36_method_1_code 0 = .ok (.aload_n 0, 1) := by decide +kernel
theorem d16_1 : decode prog_36_method_1_code 1 = .ok (.invokespecial 1, 3) := by decide +kernel
theorem d16_4 : decode prog_36_method_1_code 4 = .ok (.aload_n 0, 1) := by decide +kernel
theorem d16_5 : decode prog_36_method_1_code 5 = .ok (.aload_n 1, 1) := by decide +kernel
theorem d16_6 : decode prog_36_method_1_code 6 = .ok (.putfield 7, 3) := by decide +kernel
theorem d16_9 : decode prog_36_method_1_code 9 = .ok (.return_, 1) := by decide +kernel
theorem pn16 : plainName "com/example/tablepuffer/tablepuffer/CompositeKey" = true := by first | (simp [plainName, overriddenIn]; done) | decide +kernel
theorem ef16 (m : MethodId) (a : Addr) (b : Addr) : entryFrame m #[(.ref a), (.ref b)] 2 = mkF m 0 #[.val (.ref a), .val (.ref b)] [] := by first | (simp [entryFrame, mkF, argsToLocals, Value.category]; done) | rfl
def Q16 (Z : State) (a : Addr) (b : Addr) (h0 : Heap) (n0 : Nat) (v : Option Value) (h : Heap) (L : List Loc) : Prop := v = none ∧ Fr n0 L ∧ Keep h0 h [a] ∧ Fld Z h a "com/example/tablepuffer/tablepuffer/CompositeKey" "parts" "[Ljava/lang/Object;" (.ref b)
set_option maxRecDepth 65536 in
set_option maxHeartbeats 40000000 in
theorem rm16 (l : Launch) (Z : State) (a0 : Array Value) (hw : ∀ d ∈ tables_1, d.before a0 Z = true) (ws : List Jvm.Cond) (a : Addr) (b : Addr) (h0 : Heap) (n0 : Nat) (Z0 : n0 ≤ h0.size) (E_a : Exa Z h0 a "com/example/tablepuffer/tablepuffer/CompositeKey") (F1 : Fld Z h0 a "com/example/tablepuffer/tablepuffer/CompositeKey" "parts" "[Ljava/lang/Object;" .null) (g_a : n0 ≤ a) :
    MetFree l (⟨"com/example/tablepuffer/tablepuffer/CompositeKey", "<init>", "([Ljava/lang/Object;)V"⟩ : MethodName) (head1 (Jvm.Cond.code (⟨"com/example/tablepuffer/tablepuffer/CompositeKey", "<init>", "([Ljava/lang/Object;)V"⟩ : MethodName) prog_36_method_1_code 2 none :: ws) ({ frames := 1, cells := 0, slots := 0, locals := 12 } : Room)) (fun gs' U => gs' = #[(.ref a), (.ref b)] ∧ Z.Warmed39 U.vm ∧ U.heap = h0) (fun _ _ _ _ _ => True) (fun _ U o U' => ∃ v L, o = .returned v ∧ Q16 Z a b h0 n0 v U'.heap L ∧ FrameEnd U o U' L ({ frames := 1, cells := 0, slots := 0, locals := 12 } : Room).cells ({ frames := 1, cells := 0, slots := 0, locals := 12 } : Room).slots) := by
  refine MetFree.of_bodySF (plainFor_of_name pn16) hisR ?_
  intro p e s m args below meth c s₁ Bd hml0 hP hK
  obtain ⟨rfl, hZ, hh⟩ := hP
  have hx := Bd.exec
  have hby := Bd.bytes
  have hml : c.maxLocals = 2 := hml0
  have hown : s.vm.findClass "com/example/tablepuffer/tablepuffer/CompositeKey" = some m.cls := findClass_of_methodNamed Bd.named
  have hnm := (name_of_methodNamed Bd.named Bd.method).1
  have X0 : Stand p l e ({ frames := 1, cells := 0, slots := 0, locals := 12 } : Room) s m #[(.ref a), (.ref b)] below meth c s₁ [] 0 0 := Stand.of_body Bd
  have e0 : s₁.heap = h0 := by rw [← hh, Bd.state]; rfl
  have N0 := Fr.nil n0
  have k0 : Kt p e below m (s₁.setTop (entryFrame m #[(.ref a), (.ref b)] 2)) s₁ 0 #[.val (.ref a), .val (.ref b)] [] := fun t ht => castTop (ef16 m a b) ht
  have K0 : Keep h0 h0 [a] := Keep.refl _ _
  have k102 : Kt p e below m (s₁.setTop (entryFrame m #[(.ref a), (.ref b)] 2)) s₁ 1 #[.val (.ref a), .val (.ref b)] [(.ref a)] := by
    intro t ht
    refine k0 t ?_
    show Steps p.tables e below (s₁.setTop (mkF m 0 #[.val (.ref a), .val (.ref b)] [])) t
    refine XS.aloadN X0.here hx rfl (hb hby d16_0) rfl rfl ?_
    exact ht
  obtain ⟨T103, X103, e103, st103⟩ := initO X0 hx hZ hown (hw _ (List.mem_of_getElem? (i := 90) rfl)) (hw _ (List.mem_of_getElem? (i := 20) rfl)) (hw _ (List.mem_of_getElem? (i := 21) rfl)) e0 (g := (mkF m 1 #[.val (.ref a), .val (.ref b)] [(.ref a)])) rfl (by rw [hml]; rfl) rfl (hb hby d16_1) (by decide) (W := 0) (by show 2 * 0 + _ ≤ _; exact Nat.le_of_eq rfl) (by decide)
  have k103 : Kt p e below m (s₁.setTop (entryFrame m #[(.ref a), (.ref b)] 2)) T103 4 #[.val (.ref a), .val (.ref b)] [] := fun t ht => k102 t (st103 t ht)
  have k104 : Kt p e below m (s₁.setTop (entryFrame m #[(.ref a), (.ref b)] 2)) T103 6 #[.val (.ref a), .val (.ref b)] [(.ref b), (.ref a)] := by
    intro t ht
    refine k103 t ?_
    show Steps p.tables e below (T103.setTop (mkF m 4 #[.val (.ref a), .val (.ref b)] [])) t
    refine XS.aloadN X103.here hx rfl (hb hby d16_4) rfl rfl ?_
    show Steps p.tables e below (T103.setTop (mkF m 5 #[.val (.ref a), .val (.ref b)] [(.ref a)])) t
    refine XS.aloadN X103.here hx rfl (hb hby d16_5) rfl rfl ?_
    exact ht
  obtain ⟨T105, h105, X105, e105, W105, st105⟩ := putF X103 hx hZ hown (host := "") (Or.inl (hw _ (List.mem_of_getElem? (i := 91) rfl))) Via.refl e103 F1 E_a (Or.inr ⟨(hw _ (List.mem_of_getElem? (i := 92) rfl)), rfl, hnm⟩) (hw _ (List.mem_of_getElem? (i := 85) rfl)) (ty := (.array (.object "java/lang/Object"))) (by decide) rfl rfl (g := (mkF m 6 #[.val (.ref a), .val (.ref b)] [(.ref b), (.ref a)])) rfl rfl (hb hby d16_6)
  have N105 := Fr.snoc X105 N0 g_a
  have f106 : n0 ≤ h105.size := Nat.le_trans Z0 (Keep.of_wr W105).1
  have f107 : Exa Z h105 a "com/example/tablepuffer/tablepuffer/CompositeKey" := E_a.wr W105
  have f108 : Fld Z h105 a "com/example/tablepuffer/tablepuffer/CompositeKey" "parts" "[Ljava/lang/Object;" (.ref b) := F1.same W105
  have f109 : Keep h0 h105 [a] := K0.wr W105 (Or.inl (List.mem_of_getElem? (i := 0) rfl))
  have k105 : Kt p e below m (s₁.setTop (entryFrame m #[(.ref a), (.ref b)] 2)) T105 9 #[.val (.ref a), .val (.ref b)] [] := fun t ht => k104 t (st105 t ht)
  obtain ⟨fs, hr, hrun, hended, hW, hsame⟩ := X105.leave (v := none) (fun _ => rfl)
  refine ⟨_, _, k105 _ ?_, hrun, hended, _, _, rfl, ?_, ⟨_, rfl⟩, hW, hsame.mono (by decide) (by decide)⟩
  · exact X105.returnOut hx Bd.returns (hb hby d16_9) hr
  · show Q16 Z a b h0 n0 _ T105.heap _
    rw [e105]
    exact ⟨rfl, N105, f109, f108⟩
theorem d17_0 : decode prog_36_method_2_code 0 = .ok (.aload_n 0, 1) := by decide +kernel
theorem d17_1 : decode prog_36_method_2_code 1 = .ok (.getfield 7, 3) := by decide +kernel
theorem d17_4 : decode prog_36_method_2_code 4 = .ok (.invokevirtual 13, 3) := by decide +kernel
theorem d17_7 : decode prog_36_method_2_code 7 = .ok (.checkcast 14, 3) := by decide +kernel
theorem d17_10 : decode prog_36_method_2_code 10 = .ok (.areturn, 1) := by decide +kernel
theorem pn17 : plainName "com/example/tablepuffer/tablepuffer/CompositeKey" = true := by first | (simp [plainName, overriddenIn]; done) | decide +kernel
theorem ef17 (m : MethodId) (a : Addr) : entryFrame m #[(.ref a)] 1 = mkF m 0 #[.val (.ref a)] [] := by first | (simp [entryFrame, mkF, argsToLocals, Value.category]; done) | rfl
def Q17 (Z : State) (a : Addr) (pa : Addr) (k : ClassId) (N : Int32) (vs : List Value) (h0 : Heap) (n0 : Nat) (v : Option Value) (h : Heap) (L : List Loc) : Prop := ∃ r, v = some (.ref r) ∧ Fr n0 L ∧ Keep h0 h [] ∧ Arv Z h r k (.object "java/lang/Object") N vs .null
set_option maxRecDepth 65536 in
set_option maxHeartbeats 40000000 in
theorem rm17 (l : Launch) (Z : State) (a0 : Array Value) (hw : ∀ d ∈ tables_1, d.before a0 Z = true) (ws : List Jvm.Cond) (a : Addr) (pa : Addr) (k : ClassId) (N : Int32) (vs : List Value) (h0 : Heap) (n0 : Nat) (Z0 : n0 ≤ h0.size) (E_a : Exa Z h0 a "com/example/tablepuffer/tablepuffer/CompositeKey") (F1 : Fld Z h0 a "com/example/tablepuffer/tablepuffer/CompositeKey" "parts" "[Ljava/lang/Object;" (.ref pa)) (V : Arv Z h0 pa k (.object "java/lang/Object") N vs .null) (Ep : Exa Z h0 pa "[Ljava/lang/Object;") (hN : N.toNatClampNeg ≤ 3) :
    MetFree l (⟨"com/example/tablepuffer/tablepuffer/CompositeKey", "parts", "()[Ljava/lang/Object;"⟩ : MethodName) (head1 (Jvm.Cond.code (⟨"com/example/tablepuffer/tablepuffer/CompositeKey", "parts", "()[Ljava/lang/Object;"⟩ : MethodName) prog_36_method_2_code 1 (some (.array (.object "java/lang/Object"))) :: ws) ({ frames := 1, cells := 1, slots := 3, locals := 14 } : Room)) (fun gs' U => gs' = #[(.ref a)] ∧ Z.Warmed39 U.vm ∧ U.heap = h0) (fun _ _ _ _ _ => True) (fun _ U o U' => ∃ v L, o = .returned v ∧ Q17 Z a pa k N vs h0 n0 v U'.heap L ∧ FrameEnd U o U' L ({ frames := 1, cells := 1, slots := 3, locals := 14 } : Room).cells ({ frames := 1, cells := 1, slots := 3, locals := 14 } : Room).slots) := by
  refine MetFree.of_bodySF (plainFor_of_name pn17) hisR ?_
  intro p e s m args below meth c s₁ Bd hml0 hP hK
  obtain ⟨rfl, hZ, hh⟩ := hP
  have hx := Bd.exec
  have hby := Bd.bytes
  have hml : c.maxLocals = 1 := hml0
  have hown : s.vm.findClass "com/example/tablepuffer/tablepuffer/CompositeKey" = some m.cls := findClass_of_methodNamed Bd.named
  have hnm := (name_of_methodNamed Bd.named Bd.method).1
  have X0 : Stand p l e ({ frames := 1, cells := 1, slots := 3, locals := 14 } : Room) s m #[(.ref a)] below meth c s₁ [] 0 0 := Stand.of_body Bd
  have e0 : s₁.heap = h0 := by rw [← hh, Bd.state]; rfl
  have N0 := Fr.nil n0
  have k0 : Kt p e below m (s₁.setTop (entryFrame m #[(.ref a)] 1)) s₁ 0 #[.val (.ref a)] [] := fun t ht => castTop (ef17 m a) ht
  have K0 : Keep h0 h0 [] := Keep.refl _ _
  have k110 : Kt p e below m (s₁.setTop (entryFrame m #[(.ref a)] 1)) s₁ 1 #[.val (.ref a)] [(.ref a)] := by
    intro t ht
    refine k0 t ?_
    show Steps p.tables e below (s₁.setTop (mkF m 0 #[.val (.ref a)] [])) t
    refine XS.aloadN X0.here hx rfl (hb hby d17_0) rfl rfl ?_
    exact ht
  obtain ⟨T111, X111, e111, st111⟩ := getF X0 hx hZ hown (host := "") (Or.inl (hw _ (List.mem_of_getElem? (i := 91) rfl))) Via.refl e0 F1 (g := (mkF m 1 #[.val (.ref a)] [(.ref a)])) rfl rfl (hb hby d17_1)
  have k111 : Kt p e below m (s₁.setTop (entryFrame m #[(.ref a)] 1)) T111 4 #[.val (.ref a)] [(.ref pa)] := fun t ht => k110 t (st111 t ht)
  obtain ⟨T112, h112, X112, e112, E112, A112, Ax112, st112⟩ := cloneH X111 hx hZ hown (hw _ (List.mem_of_getElem? (i := 99) rfl)) (hw _ (List.mem_of_getElem? (i := 100) rfl)) (hw _ (List.mem_of_getElem? (i := 104) rfl)) (hw _ (List.mem_of_getElem? (i := 102) rfl)) (hw _ (List.mem_of_getElem? (i := 103) rfl)) (hw _ (List.mem_of_getElem? (i := 105) rfl)) e111 V.arh Ep (g := (mkF m 4 #[.val (.ref a)] [(.ref pa)])) rfl (by rw [hml]; rfl) rfl (hb hby d17_4) (by decide) (W := 0) (cap := 3) (by show 2 * 0 + _ ≤ _; exact Nat.le_of_eq rfl) (by decide) hN (by decide) (by decide)
  obtain ⟨r, q112⟩ : ∃ z, z = h0.size := ⟨_, rfl⟩
  have ne_a_r : a ≠ r := by rw [q112]; exact Nat.ne_of_lt F1.lt
  have g_r : n0 ≤ r := by rw [q112]; exact Z0
  have sz_r : h0.size ≤ r := by rw [q112]; exact K0.1
  rw [← q112] at A112 Ax112 st112
  have f113 : n0 ≤ h112.size := Nat.le_trans Z0 E112.1
  have f114 : Fld Z h112 a "com/example/tablepuffer/tablepuffer/CompositeKey" "parts" "[Ljava/lang/Object;" (.ref pa) := F1.ext E112
  have f115 : Keep h0 h112 [] := K0.ext E112
  have k112 : Kt p e below m (s₁.setTop (entryFrame m #[(.ref a)] 1)) T112 7 #[.val (.ref a)] [(.ref r)] := fun t ht => k111 t (st112 t ht)
  obtain ⟨T116, X116, e116, st116⟩ := castY X112 hx hZ hown (hw _ (List.mem_of_getElem? (i := 106) rfl)) e112 (Ins.of_exa Ax112 (hw _ (List.mem_of_getElem? (i := 107) rfl))) (g := (mkF m 7 #[.val (.ref a)] [(.ref r)])) rfl rfl (hb hby d17_7)
  have k116 : Kt p e below m (s₁.setTop (entryFrame m #[(.ref a)] 1)) T116 10 #[.val (.ref a)] [(.ref r)] := fun t ht => k112 t (st116 t ht)
  obtain ⟨fs, hr, hrun, hended, hW, hsame⟩ := X116.leave (v := some (.ref r)) (fun h => by rw [Bd.returns] at h; cases h)
  refine ⟨_, _, k116 _ ?_, hrun, hended, _, _, rfl, ?_, ⟨_, rfl⟩, hW, hsame.mono (by decide) (by decide)⟩
  · show Steps p.tables e below (T116.setTop (mkF m 10 #[.val (.ref a)] [(.ref r)])) _
    jvm_step X116.here [X116.here.top, hx, (hb hby d17_10), X116.method', Bd.returns, Value.isRef, FieldType.isReference]
    first | (intro acts; rw [hr _ acts rfl rfl rfl]) | rw [hr _ _ rfl rfl rfl]
    exact Steps.refl _
  · show Q17 Z a pa k N vs h0 n0 _ T116.heap _
    rw [e116]
    exact ⟨r, rfl, N0, f115, A112⟩
theorem dkpK_0 : decode prog_87_method_12_code 0 = .ok (.aload_n 0, 1) := by decide +kernel
theorem dkpK_1 : decode prog_87_method_12_code 1 = .ok (.instanceof 119, 3) := by decide +kernel
theorem dkpK_4 : decode prog_87_method_12_code 4 = .ok (.ifCond .eq 15, 3) := by decide +kernel
theorem dkpK_7 : decode prog_87_method_12_code 7 = .ok (.aload_n 0, 1) := by decide +kernel
theorem dkpK_8 : decode prog_87_method_12_code 8 = .ok (.checkcast 119, 3) := by decide +kernel
theorem dkpK_11 : decode prog_87_method_12_code 11 = .ok (.astore_n 1, 1) := by decide +kernel
theorem dkpK_12 : decode prog_87_method_12_code 12 = .ok (.aload_n 1, 1) := by decide +kernel
theorem dkpK_13 : decode prog_87_method_12_code 13 = .ok (.invokevirtual 124, 3) := by decide +kernel
theorem dkpK_16 : decode prog_87_method_12_code 16 = .ok (.goto 11, 3) := by decide +kernel
theorem dkpK_19 : decode prog_87_method_12_code 19 = .ok (.iconst 1, 1) := by decide +kernel
theorem dkpK_20 : decode prog_87_method_12_code 20 = .ok (.anewarray 2, 3) := by decide +kernel
theorem dkpK_23 : decode prog_87_method_12_code 23 = .ok (.dup, 1) := by decide +kernel
theorem dkpK_24 : decode prog_87_method_12_code 24 = .ok (.iconst 0, 1) := by decide +kernel
theorem dkpK_25 : decode prog_87_method_12_code 25 = .ok (.aload_n 0, 1) := by decide +kernel
theorem dkpK_26 : decode prog_87_method_12_code 26 = .ok (.aastore, 1) := by decide +kernel
theorem dkpK_27 : decode prog_87_method_12_code 27 = .ok (.areturn, 1) := by decide +kernel
theorem pnkpK : plainName "com/example/tablepuffer/tablepuffer/TableShape" = true := by first | (simp [plainName, overriddenIn]; done) | decide +kernel
theorem efkpK (m : MethodId) (a : Addr) : entryFrame m #[(.ref a)] 2 = mkF m 0 #[.val (.ref a), .unset] [] := by first | (simp [entryFrame, mkF, argsToLocals, Value.category]; done) | rfl
def QkpK (Z : State) (a : Addr) (pa : Addr) (k : ClassId) (N : Int32) (vs : List Value) (h0 : Heap) (n0 : Nat) (v : Option Value) (h : Heap) (L : List Loc) : Prop := ∃ r, v = some (.ref r) ∧ Fr n0 L ∧ Keep h0 h [] ∧ Arv Z h r k (.object "java/lang/Object") N vs .null
set_option maxRecDepth 65536 in
set_option maxHeartbeats 40000000 in
theorem rmkpK (l : Launch) (Z : State) (a0 : Array Value) (hw : ∀ d ∈ tables_1, d.before a0 Z = true) (ws : List Jvm.Cond) (a : Addr) (pa : Addr) (k : ClassId) (N : Int32) (vs : List Value) (h0 : Heap) (n0 : Nat) (Z0 : n0 ≤ h0.size) (E_a : Exa Z h0 a "com/example/tablepuffer/tablepuffer/CompositeKey") (F1 : Fld Z h0 a "com/example/tablepuffer/tablepuffer/CompositeKey" "parts" "[Ljava/lang/Object;" (.ref pa)) (V : Arv Z h0 pa k (.object "java/lang/Object") N vs .null) (Ep : Exa Z h0 pa "[Ljava/lang/Object;") (hN : N.toNatClampNeg ≤ 3) :
    MetFree l (⟨"com/example/tablepuffer/tablepuffer/TableShape", "keyParts", "(Ljava/lang/Object;)[Ljava/lang/Object;"⟩ : MethodName) (head1 (Jvm.Cond.code (⟨"com/example/tablepuffer/tablepuffer/TableShape", "keyParts", "(Ljava/lang/Object;)[Ljava/lang/Object;"⟩ : MethodName) prog_87_method_12_code 2 (some (.array (.object "java/lang/Object"))) :: ws) ({ frames := 2, cells := 1, slots := 3, locals := 26 } : Room)) (fun gs' U => gs' = #[(.ref a)] ∧ Z.Warmed39 U.vm ∧ U.heap = h0) (fun _ _ _ _ _ => True) (fun _ U o U' => ∃ v L, o = .returned v ∧ QkpK Z a pa k N vs h0 n0 v U'.heap L ∧ FrameEnd U o U' L ({ frames := 2, cells := 1, slots := 3, locals := 26 } : Room).cells ({ frames := 2, cells := 1, slots := 3, locals := 26 } : Room).slots) := by
  refine MetFree.of_bodySF (plainFor_of_name pnkpK) hisR ?_
  intro p e s m args below meth c s₁ Bd hml0 hP hK
  obtain ⟨rfl, hZ, hh⟩ := hP
  have hx := Bd.exec
  have hby := Bd.bytes
  have hml : c.maxLocals = 2 := hml0
  have hown : s.vm.findClass "com/example/tablepuffer/tablepuffer/TableShape" = some m.cls := findClass_of_methodNamed Bd.named
  have hnm := (name_of_methodNamed Bd.named Bd.method).1
  have X0 : Stand p l e ({ frames := 2, cells := 1, slots := 3, locals := 26 } : Room) s m #[(.ref a)] below meth c s₁ [] 0 0 := Stand.of_body Bd
  have e0 : s₁.heap = h0 := by rw [← hh, Bd.state]; rfl
  have N0 := Fr.nil n0
  have k0 : Kt p e below m (s₁.setTop (entryFrame m #[(.ref a)] 2)) s₁ 0 #[.val (.ref a), .unset] [] := fun t ht => castTop (efkpK m a) ht
  have k117 : Kt p e below m (s₁.setTop (entryFrame m #[(.ref a)] 2)) s₁ 1 #[.val (.ref a), .unset] [(.ref a)] := by
    intro t ht
    refine k0 t ?_
    show Steps p.tables e below (s₁.setTop (mkF m 0 #[.val (.ref a), .unset] [])) t
    refine XS.aloadN X0.here hx rfl (hb hby dkpK_0) rfl rfl ?_
    exact ht
  obtain ⟨T118, X118, e118, st118⟩ := instY X0 hx hZ hown (hw _ (List.mem_of_getElem? (i := 75) rfl)) e0 (Ins.self E_a) (g := (mkF m 1 #[.val (.ref a), .unset] [(.ref a)])) rfl rfl (hb hby dkpK_1)
  have k118 : Kt p e below m (s₁.setTop (entryFrame m #[(.ref a)] 2)) T118 4 #[.val (.ref a), .unset] [(.int (1 : Int32))] := fun t ht => k117 t (st118 t ht)
  have k119 : Kt p e below m (s₁.setTop (entryFrame m #[(.ref a)] 2)) T118 8 #[.val (.ref a), .unset] [(.ref a)] := by
    intro t ht
    refine k118 t ?_
    show Steps p.tables e below (T118.setTop (mkF m 4 #[.val (.ref a), .unset] [(.int (1 : Int32))])) t
    refine XS.ifNo X118.here hx rfl (hb hby dkpK_4) rfl ((if0 _ _).trans (feq (by decide)).1) ?_
    show Steps p.tables e below (T118.setTop (mkF m 7 #[.val (.ref a), .unset] [])) t
    refine XS.aloadN X118.here hx rfl (hb hby dkpK_7) rfl rfl ?_
    exact ht
  obtain ⟨T120, X120, e120, st120⟩ := castY X118 hx hZ hown (hw _ (List.mem_of_getElem? (i := 75) rfl)) e118 (Ins.self E_a) (g := (mkF m 8 #[.val (.ref a), .unset] [(.ref a)])) rfl rfl (hb hby dkpK_8)
  have k120 : Kt p e below m (s₁.setTop (entryFrame m #[(.ref a)] 2)) T120 11 #[.val (.ref a), .unset] [(.ref a)] := fun t ht => k119 t (st120 t ht)
  have k121 : Kt p e below m (s₁.setTop (entryFrame m #[(.ref a)] 2)) T120 13 #[.val (.ref a), .val (.ref a)] [(.ref a)] := by
    intro t ht
    refine k120 t ?_
    show Steps p.tables e below (T120.setTop (mkF m 11 #[.val (.ref a), .unset] [(.ref a)])) t
    refine XS.astoreN X120.here hx rfl (hb hby dkpK_11) rfl rfl (l' := #[.val (.ref a), .val (.ref a)]) rfl ?_
    show Steps p.tables e below (T120.setTop (mkF m 12 #[.val (.ref a), .val (.ref a)] [])) t
    refine XS.aloadN X120.here hx rfl (hb hby dkpK_12) rfl rfl ?_
    exact ht
  obtain ⟨cq122, kq122, q122a, q122b, q122c⟩ := isOf hZ e120 E_a
  obtain ⟨_, _, ⟨T122, L122, c122, n122⟩, -, X122, ⟨Lc122, hQ122, l122, y122, z122⟩, st122⟩ := X120.virtualBack hx (y := (⟨"com/example/tablepuffer/tablepuffer/CompositeKey", "parts", "()[Ljava/lang/Object;"⟩ : MethodName)) (z := (⟨"com/example/tablepuffer/tablepuffer/CompositeKey", "parts", "()[Ljava/lang/Object;"⟩ : MethodName)) hown (mvT hZ (hw _ (List.mem_of_getElem? (i := 94) rfl))) (mvT hZ (hw _ (List.mem_of_getElem? (i := 95) rfl))) (notFace_of_selects (args := #[]) (mvT hZ (hw _ (List.mem_of_getElem? (i := 97) rfl)))) (mvT hZ (hw _ (List.mem_of_getElem? (i := 97) rfl))) (mvT hZ (hw _ (List.mem_of_getElem? (i := 96) rfl))) (by decide) (backOf (W := 0) (rm17 l Z a0 hw [] a pa k N vs h0 n0 Z0 E_a F1 V Ep hN) hZ (hw _ (List.mem_of_getElem? (i := 98) rfl)) (hw _ (List.mem_of_getElem? (i := 86) rfl)) (by decide) (by decide)) q122a q122c (g := (mkF m 13 #[.val (.ref a), .val (.ref a)] [(.ref a)])) rfl (by rw [hml]; rfl) (Steps.refl _) (argsL := []) (rest := []) (lenOf pd_2 rfl) rfl (by show 2 * 0 + _ ≤ _; exact Nat.le_of_eq rfl) (hb hby dkpK_13) (fun _ _ => ⟨rfl, e120, (by decide : 0 + 1 ≤ _), (by decide : 0 + 3 ≤ _)⟩)
  dsimp only [Pt.U, Pt.locs, Pt.cells, Pt.slots] at X122 l122 y122 z122 st122 hQ122
  subst l122 y122 z122
  obtain ⟨r, rfl, Nq122, Kp, Vr⟩ := hQ122
  have N122 := Fr.app N0 Nq122
  have k122 : Kt p e below m (s₁.setTop (entryFrame m #[(.ref a)] 2)) T122 16 #[.val (.ref a), .val (.ref a)] [(.ref r)] := fun t ht => k121 t (st122.trans ht)
  have k123 : Kt p e below m (s₁.setTop (entryFrame m #[(.ref a)] 2)) T122 27 #[.val (.ref a), .val (.ref a)] [(.ref r)] := by
    intro t ht
    refine k122 t ?_
    show Steps p.tables e below (T122.setTop (mkF m 16 #[.val (.ref a), .val (.ref a)] [(.ref r)])) t
    refine XS.goto X122.here hx rfl (pc0 := 16) (pc' := 27) rfl (hb hby dkpK_16) (by decide) (by decide) ?_
    exact ht
  obtain ⟨fs, hr, hrun, hended, hW, hsame⟩ := X122.leave (v := some (.ref r)) (fun h => by rw [Bd.returns] at h; cases h)
  refine ⟨_, _, k123 _ ?_, hrun, hended, _, _, rfl, ?_, ⟨_, rfl⟩, hW, hsame.mono (by decide) (by decide)⟩
  · show Steps p.tables e below (T122.setTop (mkF m 27 #[.val (.ref a), .val (.ref a)] [(.ref r)])) _
    jvm_step X122.here [X122.here.top, hx, (hb hby dkpK_27), X122.method', Bd.returns, Value.isRef, FieldType.isReference]
    first | (intro acts; rw [hr _ acts rfl rfl rfl]) | rw [hr _ _ rfl rfl rfl]
    exact Steps.refl _
  · show QkpK Z a pa k N vs h0 n0 _ T122.heap _
    exact ⟨r, rfl, N122, Kp, Vr⟩
theorem dkpN_0 : decode prog_87_method_12_code 0 = .ok (.aload_n 0, 1) := by decide +kernel
theorem dkpN_1 : decode prog_87_method_12_code 1 = .ok (.instanceof 119, 3) := by decide +kernel
theorem dkpN_4 : decode prog_87_method_12_code 4 = .ok (.ifCond .eq 15, 3) := by decide +kernel
theorem dkpN_7 : decode prog_87_method_12_code 7 = .ok (.aload_n 0, 1) := by decide +kernel
theorem dkpN_8 : decode prog_87_method_12_code 8 = .ok (.checkcast 119, 3) := by decide +kernel
theorem dkpN_11 : decode prog_87_method_12_code 11 = .ok (.astore_n 1, 1) := by decide +kernel
theorem dkpN_12 : decode prog_87_method_12_code 12 = .ok (.aload_n 1, 1) := by decide +kernel
theorem dkpN_13 : decode prog_87_method_12_code 13 = .ok (.invokevirtual 124, 3) := by decide +kernel
theorem dkpN_16 : decode prog_87_method_12_code 16 = .ok (.goto 11, 3) := by decide +kernel
theorem dkpN_19 : decode prog_87_method_12_code 19 = .ok (.iconst 1, 1) := by decide +kernel
theorem dkpN_20 : decode prog_87_method_12_code 20 = .ok (.anewarray 2, 3) := by decide +kernel
theorem dkpN_23 : decode prog_87_method_12_code 23 = .ok (.dup, 1) := by decide +kernel
theorem dkpN_24 : decode prog_87_method_12_code 24 = .ok (.iconst 0, 1) := by decide +kernel
theorem dkpN_25 : decode prog_87_method_12_code 25 = .ok (.aload_n 0, 1) := by decide +kernel
theorem dkpN_26 : decode prog_87_method_12_code 26 = .ok (.aastore, 1) := by decide +kernel
theorem dkpN_27 : decode prog_87_method_12_code 27 = .ok (.areturn, 1) := by decide +kernel
theorem pnkpN : plainName "com/example/tablepuffer/tablepuffer/TableShape" = true := by first | (simp [plainName, overriddenIn]; done) | decide +kernel
theorem efkpN (m : MethodId) (a : Addr) : entryFrame m #[(.ref a)] 2 = mkF m 0 #[.val (.ref a), .unset] [] := by first | (simp [entryFrame, mkF, argsToLocals, Value.category]; done) | rfl
def QkpN (Z : State) (a : Addr) (K : String) (h0 : Heap) (n0 : Nat) (v : Option Value) (h : Heap) (L : List Loc) : Prop := ∃ r k, v = some (.ref r) ∧ Fr n0 L ∧ Keep h0 h [] ∧ Arv Z h r k (.object "java/lang/Object") (1 : Int32) [(.ref a)] .null
set_option maxRecDepth 65536 in
set_option maxHeartbeats 40000000 in
theorem rmkpN (l : Launch) (Z : State) (a0 : Array Value) (hw : ∀ d ∈ tables_1, d.before a0 Z = true) (ws : List Jvm.Cond) (a : Addr) (K : String) (h0 : Heap) (n0 : Nat) (Z0 : n0 ≤ h0.size) (E_a : Exa Z h0 a K) (hno : own_not Z K "com/example/tablepuffer/tablepuffer/CompositeKey") (I : Ins Z h0 a "java/lang/Object" true) :
    MetFree l (⟨"com/example/tablepuffer/tablepuffer/TableShape", "keyParts", "(Ljava/lang/Object;)[Ljava/lang/Object;"⟩ : MethodName) (head1 (Jvm.Cond.code (⟨"com/example/tablepuffer/tablepuffer/TableShape", "keyParts", "(Ljava/lang/Object;)[Ljava/lang/Object;"⟩ : MethodName) prog_87_method_12_code 2 (some (.array (.object "java/lang/Object"))) :: ws) ({ frames := 0, cells := 1, slots := 1, locals := 0 } : Room)) (fun gs' U => gs' = #[(.ref a)] ∧ Z.Warmed39 U.vm ∧ U.heap = h0) (fun _ _ _ _ _ => True) (fun _ U o U' => ∃ v L, o = .returned v ∧ QkpN Z a K h0 n0 v U'.heap L ∧ FrameEnd U o U' L ({ frames := 0, cells := 1, slots := 1, locals := 0 } : Room).cells ({ frames := 0, cells := 1, slots := 1, locals := 0 } : Room).slots) := by
  refine MetFree.of_bodySF (plainFor_of_name pnkpN) hisR ?_
  intro p e s m args below meth c s₁ Bd hml0 hP hK
  obtain ⟨rfl, hZ, hh⟩ := hP
  have hx := Bd.exec
  have hby := Bd.bytes
  have hml : c.maxLocals = 2 := hml0
  have hown : s.vm.findClass "com/example/tablepuffer/tablepuffer/TableShape" = some m.cls := findClass_of_methodNamed Bd.named
  have hnm := (name_of_methodNamed Bd.named Bd.method).1
  have X0 : Stand p l e ({ frames := 0, cells := 1, slots := 1, locals := 0 } : Room) s m #[(.ref a)] below meth c s₁ [] 0 0 := Stand.of_body Bd
  have e0 : s₁.heap = h0 := by rw [← hh, Bd.state]; rfl
  have N0 := Fr.nil n0
  have k0 : Kt p e below m (s₁.setTop (entryFrame m #[(.ref a)] 2)) s₁ 0 #[.val (.ref a), .unset] [] := fun t ht => castTop (efkpN m a) ht
  have K0 : Keep h0 h0 [] := Keep.refl _ _
  have k124 : Kt p e below m (s₁.setTop (entryFrame m #[(.ref a)] 2)) s₁ 1 #[.val (.ref a), .unset] [(.ref a)] := by
    intro t ht
    refine k0 t ?_
    show Steps p.tables e below (s₁.setTop (mkF m 0 #[.val (.ref a), .unset] [])) t
    refine XS.aloadN X0.here hx rfl (hb hby dkpN_0) rfl rfl ?_
    exact ht
  obtain ⟨T125, X125, e125, st125⟩ := instNo X0 hx hZ hown (hw _ (List.mem_of_getElem? (i := 75) rfl)) e0 E_a hno (g := (mkF m 1 #[.val (.ref a), .unset] [(.ref a)])) rfl rfl (hb hby dkpN_1)
  have k125 : Kt p e below m (s₁.setTop (entryFrame m #[(.ref a)] 2)) T125 4 #[.val (.ref a), .unset] [(.int (0 : Int32))] := fun t ht => k124 t (st125 t ht)
  have k126 : Kt p e below m (s₁.setTop (entryFrame m #[(.ref a)] 2)) T125 20 #[.val (.ref a), .unset] [(.int (1 : Int32))] := by
    intro t ht
    refine k125 t ?_
    show Steps p.tables e below (T125.setTop (mkF m 4 #[.val (.ref a), .unset] [(.int (0 : Int32))])) t
    refine XS.ifYes X125.here hx rfl (pc0 := 4) (pc' := 19) rfl (hb hby dkpN_4) rfl ((if0 _ _).trans (teq rfl).1) (by decide) (by decide) ?_
    show Steps p.tables e below (T125.setTop (mkF m 19 #[.val (.ref a), .unset] [])) t
    refine XS.iconst X125.here hx rfl (hb hby dkpN_19) ?_
    exact ht
  obtain ⟨T127, h127, ak127, X127, e127, E127, A127, Ax127, O127, st127⟩ := newRE X125 hx hZ hown (hw _ (List.mem_of_getElem? (i := 79) rfl)) (hw _ (List.mem_of_getElem? (i := 80) rfl)) e125 (g := (mkF m 20 #[.val (.ref a), .unset] [(.int (1 : Int32))])) rfl (hb hby dkpN_20) rfl (by decide) (cap := 1) (by decide) (by decide) (by decide) (by decide) (ad := "[Ljava/lang/Object;") (by decide)
  obtain ⟨r, q127⟩ : ∃ z, z = h0.size := ⟨_, rfl⟩
  have g_r : n0 ≤ r := by rw [q127]; exact Z0
  have sz_r : h0.size ≤ r := by rw [q127]; exact K0.1
  rw [← q127] at A127 st127 Ax127
  have f128 : n0 ≤ h127.size := Nat.le_trans Z0 E127.1
  have f129 : Keep h0 h127 [] := K0.ext E127
  have f127 : Arv Z h127 r ak127 (.object "java/lang/Object") (1 : Int32) [.null] .null := (Arv.new A127 (by decide)).pad (pad_rep [] .null 1)
  have k127 : Kt p e below m (s₁.setTop (entryFrame m #[(.ref a)] 2)) T127 23 #[.val (.ref a), .unset] [(.ref r)] := fun t ht => k126 t (st127 t ht)
  have k130 : Kt p e below m (s₁.setTop (entryFrame m #[(.ref a)] 2)) T127 26 #[.val (.ref a), .unset] [(.ref a), (.int (0 : Int32)), (.ref r), (.ref r)] := by
    intro t ht
    refine k127 t ?_
    show Steps p.tables e below (T127.setTop (mkF m 23 #[.val (.ref a), .unset] [(.ref r)])) t
    refine XS.dup X127.here hx rfl (hb hby dkpN_23) rfl rfl ?_
    show Steps p.tables e below (T127.setTop (mkF m 24 #[.val (.ref a), .unset] [(.ref r), (.ref r)])) t
    refine XS.iconst X127.here hx rfl (hb hby dkpN_24) ?_
    show Steps p.tables e below (T127.setTop (mkF m 25 #[.val (.ref a), .unset] [(.int (0 : Int32)), (.ref r), (.ref r)])) t
    refine XS.aloadN X127.here hx rfl (hb hby dkpN_25) rfl rfl ?_
    exact ht
  obtain ⟨cl131, Ar131, qc131, Sz131, Nn131, Hh131, Gg131⟩ := id f127
  have hin131 : ¬ ((0 : Int32) < 0 ∨ cl131.slots.size ≤ ((0 : Int32)).toNatClampNeg) := inb_of Sz131 ⟨by decide, by decide⟩
  obtain ⟨T131, h131, X131, e131, W131, st131⟩ := stR X127 hx hZ e127 Ar131 (j := (0 : Int32)) hin131 rfl (Sto.ofV Ar131 qc131 O127 (I.ext E127)) (g := (mkF m 26 #[.val (.ref a), .unset] [(.ref a), (.int (0 : Int32)), (.ref r), (.ref r)])) rfl rfl (hb hby dkpN_26)
  have N131 := Fr.snoc X131 N0 g_r
  have f132 : n0 ≤ h131.size := Nat.le_trans f128 (Keep.of_wr W131).1
  have f133 : Keep h0 h131 [] := f129.wr W131 (Or.inr sz_r)
  have f134 : Exa Z h131 r "[Ljava/lang/Object;" := Ax127.wr W131
  have f135 : Arv Z h131 r ak127 (.object "java/lang/Object") (1 : Int32) [(.ref a)] .null := Arv.set Ar131 qc131 Sz131 Nn131 Hh131 Gg131 rfl W131 0 rfl (Nat.le_of_ble_eq_true rfl)
  have k131 : Kt p e below m (s₁.setTop (entryFrame m #[(.ref a)] 2)) T131 27 #[.val (.ref a), .unset] [(.ref r)] := fun t ht => k130 t (st131 t ht)
  obtain ⟨fs, hr, hrun, hended, hW, hsame⟩ := X131.leave (v := some (.ref r)) (fun h => by rw [Bd.returns] at h; cases h)
  refine ⟨_, _, k131 _ ?_, hrun, hended, _, _, rfl, ?_, ⟨_, rfl⟩, hW, hsame.mono (by decide) (by decide)⟩
  · show Steps p.tables e below (T131.setTop (mkF m 27 #[.val (.ref a), .unset] [(.ref r)])) _
    jvm_step X131.here [X131.here.top, hx, (hb hby dkpN_27), X131.method', Bd.returns, Value.isRef, FieldType.isReference]
    first | (intro acts; rw [hr _ acts rfl rfl rfl]) | rw [hr _ _ rfl rfl rfl]
    exact Steps.refl _
  · show QkpN Z a K h0 n0 _ T131.heap _
    rw [e131]
    exact ⟨r, _, rfl, N131, f133, f135⟩
theorem pn0 : plainName "com/example/tablepuffer/tablepuffer/TableShapeKeyPartsPinLaw" = true := by first | (simp [plainName, overriddenIn]; done) | decide +kernel
theorem ef0 (m : MethodId) (p1 : Int32) (q1 : Int64) (q2 : Int64) (p4 : Int32) (p5 : Int32) : entryFrame m #[(.int p1), (.long q1), (.long q2), (.int p4), (.int p5)] maxLocals = mkF m 0 #[.val (.int p1), .val (.long q1), .second, .val (.long q2), .second, .val (.int p4), .val (.int p5), .unset, .unset, .unset, .unset, .unset, .unset, .unset, .unset, .unset, .unset, .unset, .unset] [] := by first | (simp [entryFrame, mkF, argsToLocals, Value.category, maxLocals]; done) | rfl
def Q0 (Z : State) (p1 : Int32) (q1 : Int64) (q2 : Int64) (p4 : Int32) (p5 : Int32) (G1 : Int32) (ca : Addr) (cc : Cell) (va : Int32 → Value) (h0 : Heap) (n0 : Nat) (v : Option Value) (h : Heap) (L : List Loc) : Prop := v = some (.int 1) ∧ Fr n0 L
set_option maxRecDepth 65536 in
set_option maxHeartbeats 40000000 in
theorem rm0 (l : Launch) (Z : State) (a0 : Array Value) (hw : ∀ d ∈ tables_1, d.before a0 Z = true) (ws : List Jvm.Cond) (p1 : Int32) (q1 : Int64) (q2 : Int64) (p4 : Int32) (p5 : Int32) (G1 : Int32) (ca : Addr) (cc : Cell) (va : Int32 → Value) (h0 : Heap) (n0 : Nat) (Z0 : n0 ≤ h0.size) (S1 : Sta Z Z.heap "java/lang/String" "COMPACT_STRINGS" "Z" (.int G1)) (P5 : ¬ (G1 = (0 : Int32))) (S2 : Sta Z Z.heap "java/lang/Long$LongCache" "cache" "[Ljava/lang/Long;" (.ref ca)) (B : Bxs Z ca cc "java/lang/Long" "J" (256 : Int32) va) (O : Old Z n0 h0) :
    MetFree l x (head1 (Jvm.Cond.code x code maxLocals ret :: ws) room_1) (fun gs' U => gs' = #[(.int p1), (.long q1), (.long q2), (.int p4), (.int p5)] ∧ Z.Warmed39 U.vm ∧ U.heap = h0) (fun _ _ _ _ _ => True) (fun _ U o U' => ∃ v L, o = .returned v ∧ Q0 Z p1 q1 q2 p4 p5 G1 ca cc va h0 n0 v U'.heap L ∧ FrameEnd U o U' L room_1.cells room_1.slots) := by
  refine MetFree.of_bodySF (plainFor_of_name pn0) hisR ?_
  intro p e s m args below meth c s₁ Bd hml0 hP hK
  obtain ⟨rfl, hZ, hh⟩ := hP
  have hx := Bd.exec
  have hby := Bd.bytes
  have hml : c.maxLocals = 19 := hml0
  have hown : s.vm.findClass "com/example/tablepuffer/tablepuffer/TableShapeKeyPartsPinLaw" = some m.cls := findClass_of_methodNamed Bd.named
  have hnm := (name_of_methodNamed Bd.named Bd.method).1
  have X0 : Stand p l e room_1 s m #[(.int p1), (.long q1), (.long q2), (.int p4), (.int p5)] below meth c s₁ [] 0 0 := Stand.of_body Bd
  have e0 : s₁.heap = h0 := by rw [← hh, Bd.state]; rfl
  have N0 := Fr.nil n0
  have k0 : Kt p e below m (s₁.setTop (entryFrame m #[(.int p1), (.long q1), (.long q2), (.int p4), (.int p5)] maxLocals)) s₁ 0 #[.val (.int p1), .val (.long q1), .second, .val (.long q2), .second, .val (.int p4), .val (.int p5), .unset, .unset, .unset, .unset, .unset, .unset, .unset, .unset, .unset, .unset, .unset, .unset] [] := fun t ht => castTop (ef0 m p1 q1 q2 p4 p5) ht
  have hws : ∀ d ∈ StrChars.Road.words, d.before a0 Z = true := fun d hd => hw d ((by decide +kernel : ∀ d ∈ StrChars.Road.words, d ∈ tables_1) d hd)
  have hroot : NS Z "java/lang/Object" "com/example/tablepuffer/tablepuffer/CompositeKey" := own_root (hw _ (List.mem_of_getElem? (i := 78) rfl)) (hw _ (List.mem_of_getElem? (i := 85) rfl)) (by decide)
  have hnoL : own_not Z "java/lang/Long" "com/example/tablepuffer/tablepuffer/CompositeKey" := own_no (hw _ (List.mem_of_getElem? (i := 76) rfl)) (hw _ (List.mem_of_getElem? (i := 85) rfl)) (NS.step (hw _ (List.mem_of_getElem? (i := 77) rfl)) hroot (by decide)) (by decide)
  have hnoS : own_not Z "java/lang/String" "com/example/tablepuffer/tablepuffer/CompositeKey" := own_no (hw _ (List.mem_of_getElem? (i := 108) rfl)) (hw _ (List.mem_of_getElem? (i := 85) rfl)) hroot (by decide)
  have k136 : Kt p e below m (s₁.setTop (entryFrame m #[(.int p1), (.long q1), (.long q2), (.int p4), (.int p5)] maxLocals)) s₁ 1 #[.val (.int p1), .val (.long q1), .second, .val (.long q2), .second, .val (.int p4), .val (.int p5), .unset, .unset, .unset, .unset, .unset, .unset, .unset, .unset, .unset, .unset, .unset, .unset] [(.long q1)] := by
    intro t ht
    refine k0 t ?_
    show Steps p.tables e below (s₁.setTop (mkF m 0 #[.val (.int p1), .val (.long q1), .second, .val (.long q2), .second, .val (.int p4), .val (.int p5), .unset, .unset, .unset, .unset, .unset, .unset, .unset, .unset, .unset, .unset, .unset, .unset] [])) t
    refine XS.lloadN X0.here hx rfl (hb hby at_0) rfl ?_
    exact ht
  obtain ⟨_, _, ⟨T137, L137, c137, n137⟩, -, X137, ⟨Lc137, hQ137, l137, y137, z137⟩, st137⟩ := Jvm.LawKit.callS X0 hx (y := (⟨"java/lang/Long", "valueOf", "(J)Ljava/lang/Long;"⟩ : MethodName)) hown (mvT hZ (hw _ (List.mem_of_getElem? (i := 0) rfl))) (mvT hZ (hw _ (List.mem_of_getElem? (i := 1) rfl))) (mvT hZ (hw _ (List.mem_of_getElem? (i := 2) rfl))) (mvT hZ (hw _ (List.mem_of_getElem? (i := 3) rfl))) (by decide) (backOf (W := 0) (rm1 l Z a0 hw [] q1 ca cc va h0 n0 Z0 S2 B O) hZ (hw _ (List.mem_of_getElem? (i := 3) rfl)) (hw _ (List.mem_of_getElem? (i := 2) rfl)) (by decide) (by decide)) (g := (mkF m 1 #[.val (.int p1), .val (.long q1), .second, .val (.long q2), .second, .val (.int p4), .val (.int p5), .unset, .unset, .unset, .unset, .unset, .unset, .unset, .unset, .unset, .unset, .unset, .unset] [(.long q1)])) rfl (by rw [hml]; rfl) (argsL := [(.long q1)]) (rest := []) (lenOf pd_7 rfl) rfl (by show 2 * 0 + _ ≤ _; exact Nat.le_of_eq rfl) (hb hby at_1) (fun _ _ => ⟨rfl, e0, (by decide : 0 + 1 ≤ _), (by decide : 0 + 1 ≤ _)⟩)
  dsimp only [Pt.U, Pt.locs, Pt.cells, Pt.slots] at X137 l137 y137 z137 st137 hQ137
  subst l137 y137 z137
  obtain ⟨v0, rfl, Nq137, Kp137, Ev137⟩ := hQ137
  have N137 := Fr.app N0 Nq137
  have k137 : Kt p e below m (s₁.setTop (entryFrame m #[(.int p1), (.long q1), (.long q2), (.int p4), (.int p5)] maxLocals)) T137 4 #[.val (.int p1), .val (.long q1), .second, .val (.long q2), .second, .val (.int p4), .val (.int p5), .unset, .unset, .unset, .unset, .unset, .unset, .unset, .unset, .unset, .unset, .unset, .unset] [(.ref v0)] := fun t ht => k136 t (st137 t ht)
  have f138 : n0 ≤ T137.heap.size := Nat.le_trans Z0 Kp137.1
  have f139 : Old Z n0 T137.heap := O.keep Kp137 all0
  have f140 : own_ok Z a0 T137.heap v0 := ⟨_, Ev137, hnoL, (hw _ (List.mem_of_getElem? (i := 81) rfl))⟩
  have k141 : Kt p e below m (s₁.setTop (entryFrame m #[(.int p1), (.long q1), (.long q2), (.int p4), (.int p5)] maxLocals)) T137 6 #[.val (.int p1), .val (.long q1), .second, .val (.long q2), .second, .val (.int p4), .val (.int p5), .val (.ref v0), .unset, .unset, .unset, .unset, .unset, .unset, .unset, .unset, .unset, .unset, .unset] [] := by
    intro t ht
    refine k137 t ?_
    show Steps p.tables e below (T137.setTop (mkF m 4 #[.val (.int p1), .val (.long q1), .second, .val (.long q2), .second, .val (.int p4), .val (.int p5), .unset, .unset, .unset, .unset, .unset, .unset, .unset, .unset, .unset, .unset, .unset, .unset] [(.ref v0)])) t
    refine XS.astore X137.here hx rfl (hb hby at_4) rfl rfl (l' := #[.val (.int p1), .val (.long q1), .second, .val (.long q2), .second, .val (.int p4), .val (.int p5), .val (.ref v0), .unset, .unset, .unset, .unset, .unset, .unset, .unset, .unset, .unset, .unset, .unset]) rfl ?_
    exact ht
  obtain ⟨T142, h142, X142, e142, E142, A142, D142, -, st142⟩ := newO X137 hx hZ hown (hw _ (List.mem_of_getElem? (i := 8) rfl)) (hw _ (List.mem_of_getElem? (i := 9) rfl)) (hw _ (List.mem_of_getElem? (i := 10) rfl)) rfl (g := (mkF m 6 #[.val (.int p1), .val (.long q1), .second, .val (.long q2), .second, .val (.int p4), .val (.int p5), .val (.ref v0), .unset, .unset, .unset, .unset, .unset, .unset, .unset, .unset, .unset, .unset, .unset] [])) rfl (hb hby at_6) (by decide) (by decide)
  obtain ⟨v1, q142⟩ : ∃ z, z = T137.heap.size := ⟨_, rfl⟩
  have ne_v0_v1 : v0 ≠ v1 := by rw [q142]; exact Nat.ne_of_lt f140.lt
  have g_v1 : n0 ≤ v1 := by rw [q142]; exact f138
  rw [← q142] at A142 D142 st142
  have f143 : n0 ≤ h142.size := Nat.le_trans f138 E142.1
  have f144 : Old Z n0 h142 := f139.ext E142
  have f145 : own_ok Z a0 h142 v0 := f140.ext E142
  have f142 : Exa Z h142 v1 "java/lang/String" := A142
  have f146 : Fld Z h142 v1 "java/lang/String" "coder" "B" (.int (0 : Int32)) := D142 (Or.inr (hw _ (List.mem_of_getElem? (i := 35) rfl))) (ty := .byte) (by decide)
  have f147 : Fld Z h142 v1 "java/lang/String" "value" "[B" .null := D142 (Or.inr (hw _ (List.mem_of_getElem? (i := 37) rfl))) (ty := (.array .byte)) (by decide)
  have k142 : Kt p e below m (s₁.setTop (entryFrame m #[(.int p1), (.long q1), (.long q2), (.int p4), (.int p5)] maxLocals)) T142 9 #[.val (.int p1), .val (.long q1), .second, .val (.long q2), .second, .val (.int p4), .val (.int p5), .val (.ref v0), .unset, .unset, .unset, .unset, .unset, .unset, .unset, .unset, .unset, .unset, .unset] [(.ref v1)] := fun t ht => k141 t (st142 t ht)
  have k148 : Kt p e below m (s₁.setTop (entryFrame m #[(.int p1), (.long q1), (.long q2), (.int p4), (.int p5)] maxLocals)) T142 11 #[.val (.int p1), .val (.long q1), .second, .val (.long q2), .second, .val (.int p4), .val (.int p5), .val (.ref v0), .unset, .unset, .unset, .unset, .unset, .unset, .unset, .unset, .unset, .unset, .unset] [(.int (2 : Int32)), (.ref v1), (.ref v1)] := by
    intro t ht
    refine k142 t ?_
    show Steps p.tables e below (T142.setTop (mkF m 9 #[.val (.int p1), .val (.long q1), .second, .val (.long q2), .second, .val (.int p4), .val (.int p5), .val (.ref v0), .unset, .unset, .unset, .unset, .unset, .unset, .unset, .unset, .unset, .unset, .unset] [(.ref v1)])) t
    refine XS.dup X142.here hx rfl (hb hby at_9) rfl rfl ?_
    show Steps p.tables e below (T142.setTop (mkF m 10 #[.val (.int p1), .val (.long q1), .second, .val (.long q2), .second, .val (.int p4), .val (.int p5), .val (.ref v0), .unset, .unset, .unset, .unset, .unset, .unset, .unset, .unset, .unset, .unset, .unset] [(.ref v1), (.ref v1)])) t
    refine XS.iconst X142.here hx rfl (hb hby at_10) ?_
    exact ht
  obtain ⟨T149, h149, ak149, X149, e149, E149, A149, st149⟩ := newP X142 hx hZ (hw _ (List.mem_of_getElem? (i := 11) rfl)) e142 (g := (mkF m 11 #[.val (.int p1), .val (.long q1), .second, .val (.long q2), .second, .val (.int p4), .val (.int p5), .val (.ref v0), .unset, .unset, .unset, .unset, .unset, .unset, .unset, .unset, .unset, .unset, .unset] [(.int (2 : Int32)), (.ref v1), (.ref v1)])) rfl (hb hby at_11) rfl (by decide) (cap := 2) (by decide) (by decide) (by decide) (by decide)
  obtain ⟨ch, q149⟩ : ∃ z, z = h142.size := ⟨_, rfl⟩
  have ne_v0_ch : v0 ≠ ch := by rw [q149]; exact Nat.ne_of_lt f145.lt
  have ne_v1_ch : v1 ≠ ch := by rw [q149]; exact Nat.ne_of_lt f142.lt
  have g_ch : n0 ≤ ch := by rw [q149]; exact f143
  rw [← q149] at A149 st149
  have f150 : n0 ≤ h149.size := Nat.le_trans f143 E149.1
  have f151 : Old Z n0 h149 := f144.ext E149
  have f152 : own_ok Z a0 h149 v0 := f145.ext E149
  have f153 : Exa Z h149 v1 "java/lang/String" := f142.ext E149
  have f154 : Fld Z h149 v1 "java/lang/String" "coder" "B" (.int (0 : Int32)) := f146.ext E149
  have f155 : Fld Z h149 v1 "java/lang/String" "value" "[B" .null := f147.ext E149
  have f149 : Arv Z h149 ch ak149 .char (2 : Int32) [(.int (0 : Int32)), (.int (0 : Int32))] (.int (0 : Int32)) := (Arv.new A149 (by decide)).pad (pad_rep [] (.int (0 : Int32)) 2)
  have k149 : Kt p e below m (s₁.setTop (entryFrame m #[(.int p1), (.long q1), (.long q2), (.int p4), (.int p5)] maxLocals)) T149 13 #[.val (.int p1), .val (.long q1), .second, .val (.long q2), .second, .val (.int p4), .val (.int p5), .val (.ref v0), .unset, .unset, .unset, .unset, .unset, .unset, .unset, .unset, .unset, .unset, .unset] [(.ref ch), (.ref v1), (.ref v1)] := fun t ht => k148 t (st149 t ht)
  have k156 : Kt p e below m (s₁.setTop (entryFrame m #[(.int p1), (.long q1), (.long q2), (.int p4), (.int p5)] maxLocals)) T149 22 #[.val (.int p1), .val (.long q1), .second, .val (.long q2), .second, .val (.int p4), .val (.int p5), .val (.ref v0), .unset, .unset, .unset, .unset, .unset, .unset, .unset, .unset, .unset, .unset, .unset] [(.int ((p4 &&& (255 : Int32)).toUInt32.toUInt16.toUInt32.toInt32)), (.int (0 : Int32)), (.ref ch), (.ref ch), (.ref v1), (.ref v1)] := by
    intro t ht
    refine k149 t ?_
    show Steps p.tables e below (T149.setTop (mkF m 13 #[.val (.int p1), .val (.long q1), .second, .val (.long q2), .second, .val (.int p4), .val (.int p5), .val (.ref v0), .unset, .unset, .unset, .unset, .unset, .unset, .unset, .unset, .unset, .unset, .unset] [(.ref ch), (.ref v1), (.ref v1)])) t
    refine XS.dup X149.here hx rfl (hb hby at_13) rfl rfl ?_
    show Steps p.tables e below (T149.setTop (mkF m 14 #[.val (.int p1), .val (.long q1), .second, .val (.long q2), .second, .val (.int p4), .val (.int p5), .val (.ref v0), .unset, .unset, .unset, .unset, .unset, .unset, .unset, .unset, .unset, .unset, .unset] [(.ref ch), (.ref ch), (.ref v1), (.ref v1)])) t
    refine XS.iconst X149.here hx rfl (hb hby at_14) ?_
    show Steps p.tables e below (T149.setTop (mkF m 15 #[.val (.int p1), .val (.long q1), .second, .val (.long q2), .second, .val (.int p4), .val (.int p5), .val (.ref v0), .unset, .unset, .unset, .unset, .unset, .unset, .unset, .unset, .unset, .unset, .unset] [(.int (0 : Int32)), (.ref ch), (.ref ch), (.ref v1), (.ref v1)])) t
    refine XS.iload X149.here hx rfl (hb hby at_15) rfl ?_
    show Steps p.tables e below (T149.setTop (mkF m 17 #[.val (.int p1), .val (.long q1), .second, .val (.long q2), .second, .val (.int p4), .val (.int p5), .val (.ref v0), .unset, .unset, .unset, .unset, .unset, .unset, .unset, .unset, .unset, .unset, .unset] [(.int p4), (.int (0 : Int32)), (.ref ch), (.ref ch), (.ref v1), (.ref v1)])) t
    refine XS.sipush X149.here hx rfl (hb hby at_17) ?_
    show Steps p.tables e below (T149.setTop (mkF m 20 #[.val (.int p1), .val (.long q1), .second, .val (.long q2), .second, .val (.int p4), .val (.int p5), .val (.ref v0), .unset, .unset, .unset, .unset, .unset, .unset, .unset, .unset, .unset, .unset, .unset] [(.int (255 : Int32)), (.int p4), (.int (0 : Int32)), (.ref ch), (.ref ch), (.ref v1), (.ref v1)])) t
    refine XS.iand X149.here hx rfl (hb hby at_20) rfl ?_
    show Steps p.tables e below (T149.setTop (mkF m 21 #[.val (.int p1), .val (.long q1), .second, .val (.long q2), .second, .val (.int p4), .val (.int p5), .val (.ref v0), .unset, .unset, .unset, .unset, .unset, .unset, .unset, .unset, .unset, .unset, .unset] [(.int (p4 &&& (255 : Int32))), (.int (0 : Int32)), (.ref ch), (.ref ch), (.ref v1), (.ref v1)])) t
    refine XS.i2c X149.here hx rfl (hb hby at_21) rfl ?_
    exact ht
  obtain ⟨cl157, Ar157, qc157, Sz157, Nn157, Hh157, Gg157⟩ := id f149
  have hin157 : ¬ ((0 : Int32) < 0 ∨ cl157.slots.size ≤ ((0 : Int32)).toNatClampNeg) := inb_of Sz157 ⟨by decide, by decide⟩
  obtain ⟨T157, h157, X157, e157, W157, st157⟩ := stC X149 hx hZ e149 Ar157 (j := (0 : Int32)) hin157 (g := (mkF m 22 #[.val (.int p1), .val (.long q1), .second, .val (.long q2), .second, .val (.int p4), .val (.int p5), .val (.ref v0), .unset, .unset, .unset, .unset, .unset, .unset, .unset, .unset, .unset, .unset, .unset] [(.int ((p4 &&& (255 : Int32)).toUInt32.toUInt16.toUInt32.toInt32)), (.int (0 : Int32)), (.ref ch), (.ref ch), (.ref v1), (.ref v1)])) rfl rfl (hb hby at_22)
  have N157 := Fr.snoc X157 N137 g_ch
  have f158 : n0 ≤ h157.size := Nat.le_trans f150 (Keep.of_wr W157).1
  have f159 : Old Z n0 h157 := f151.wr W157 g_ch
  have f160 : own_ok Z a0 h157 v0 := f152.wr W157
  have f161 : Exa Z h157 v1 "java/lang/String" := f153.wr W157
  have f162 : Fld Z h157 v1 "java/lang/String" "coder" "B" (.int (0 : Int32)) := f154.other W157 (Or.inl ne_v1_ch)
  have f163 : Fld Z h157 v1 "java/lang/String" "value" "[B" .null := f155.other W157 (Or.inl ne_v1_ch)
  have f164 : Arv Z h157 ch ak149 .char (2 : Int32) [(.int (nar .char ((p4 &&& (255 : Int32)).toUInt32.toUInt16.toUInt32.toInt32))), (.int (0 : Int32))] (.int (0 : Int32)) := Arv.set Ar157 qc157 Sz157 Nn157 Hh157 Gg157 (fits_nar_char _) W157 0 rfl (Nat.le_of_ble_eq_true rfl)
  have k157 : Kt p e below m (s₁.setTop (entryFrame m #[(.int p1), (.long q1), (.long q2), (.int p4), (.int p5)] maxLocals)) T157 23 #[.val (.int p1), .val (.long q1), .second, .val (.long q2), .second, .val (.int p4), .val (.int p5), .val (.ref v0), .unset, .unset, .unset, .unset, .unset, .unset, .unset, .unset, .unset, .unset, .unset] [(.ref ch), (.ref v1), (.ref v1)] := fun t ht => k156 t (st157 t ht)
  have k165 : Kt p e below m (s₁.setTop (entryFrame m #[(.int p1), (.long q1), (.long q2), (.int p4), (.int p5)] maxLocals)) T157 35 #[.val (.int p1), .val (.long q1), .second, .val (.long q2), .second, .val (.int p4), .val (.int p5), .val (.ref v0), .unset, .unset, .unset, .unset, .unset, .unset, .unset, .unset, .unset, .unset, .unset] [(.int ((((p4.toUInt32 >>> ((8 : Int32) &&& 31).toUInt32).toInt32) &&& (255 : Int32)).toUInt32.toUInt16.toUInt32.toInt32)), (.int (1 : Int32)), (.ref ch), (.ref ch), (.ref v1), (.ref v1)] := by
    intro t ht
    refine k157 t ?_
    show Steps p.tables e below (T157.setTop (mkF m 23 #[.val (.int p1), .val (.long q1), .second, .val (.long q2), .second, .val (.int p4), .val (.int p5), .val (.ref v0), .unset, .unset, .unset, .unset, .unset, .unset, .unset, .unset, .unset, .unset, .unset] [(.ref ch), (.ref v1), (.ref v1)])) t
    refine XS.dup X157.here hx rfl (hb hby at_23) rfl rfl ?_
    show Steps p.tables e below (T157.setTop (mkF m 24 #[.val (.int p1), .val (.long q1), .second, .val (.long q2), .second, .val (.int p4), .val (.int p5), .val (.ref v0), .unset, .unset, .unset, .unset, .unset, .unset, .unset, .unset, .unset, .unset, .unset] [(.ref ch), (.ref ch), (.ref v1), (.ref v1)])) t
    refine XS.iconst X157.here hx rfl (hb hby at_24) ?_
    show Steps p.tables e below (T157.setTop (mkF m 25 #[.val (.int p1), .val (.long q1), .second, .val (.long q2), .second, .val (.int p4), .val (.int p5), .val (.ref v0), .unset, .unset, .unset, .unset, .unset, .unset, .unset, .unset, .unset, .unset, .unset] [(.int (1 : Int32)), (.ref ch), (.ref ch), (.ref v1), (.ref v1)])) t
    refine XS.iload X157.here hx rfl (hb hby at_25) rfl ?_
    show Steps p.tables e below (T157.setTop (mkF m 27 #[.val (.int p1), .val (.long q1), .second, .val (.long q2), .second, .val (.int p4), .val (.int p5), .val (.ref v0), .unset, .unset, .unset, .unset, .unset, .unset, .unset, .unset, .unset, .unset, .unset] [(.int p4), (.int (1 : Int32)), (.ref ch), (.ref ch), (.ref v1), (.ref v1)])) t
    refine XS.bipush X157.here hx rfl (hb hby at_27) ?_
    show Steps p.tables e below (T157.setTop (mkF m 29 #[.val (.int p1), .val (.long q1), .second, .val (.long q2), .second, .val (.int p4), .val (.int p5), .val (.ref v0), .unset, .unset, .unset, .unset, .unset, .unset, .unset, .unset, .unset, .unset, .unset] [(.int (8 : Int32)), (.int p4), (.int (1 : Int32)), (.ref ch), (.ref ch), (.ref v1), (.ref v1)])) t
    refine XS.iushr X157.here hx rfl (hb hby at_29) rfl ?_
    show Steps p.tables e below (T157.setTop (mkF m 30 #[.val (.int p1), .val (.long q1), .second, .val (.long q2), .second, .val (.int p4), .val (.int p5), .val (.ref v0), .unset, .unset, .unset, .unset, .unset, .unset, .unset, .unset, .unset, .unset, .unset] [(.int ((p4.toUInt32 >>> ((8 : Int32) &&& 31).toUInt32).toInt32)), (.int (1 : Int32)), (.ref ch), (.ref ch), (.ref v1), (.ref v1)])) t
    refine XS.sipush X157.here hx rfl (hb hby at_30) ?_
    show Steps p.tables e below (T157.setTop (mkF m 33 #[.val (.int p1), .val (.long q1), .second, .val (.long q2), .second, .val (.int p4), .val (.int p5), .val (.ref v0), .unset, .unset, .unset, .unset, .unset, .unset, .unset, .unset, .unset, .unset, .unset] [(.int (255 : Int32)), (.int ((p4.toUInt32 >>> ((8 : Int32) &&& 31).toUInt32).toInt32)), (.int (1 : Int32)), (.ref ch), (.ref ch), (.ref v1), (.ref v1)])) t
    refine XS.iand X157.here hx rfl (hb hby at_33) rfl ?_
    show Steps p.tables e below (T157.setTop (mkF m 34 #[.val (.int p1), .val (.long q1), .second, .val (.long q2), .second, .val (.int p4), .val (.int p5), .val (.ref v0), .unset, .unset, .unset, .unset, .unset, .unset, .unset, .unset, .unset, .unset, .unset] [(.int (((p4.toUInt32 >>> ((8 : Int32) &&& 31).toUInt32).toInt32) &&& (255 : Int32))), (.int (1 : Int32)), (.ref ch), (.ref ch), (.ref v1), (.ref v1)])) t
    refine XS.i2c X157.here hx rfl (hb hby at_34) rfl ?_
    exact ht
  obtain ⟨cl166, Ar166, qc166, Sz166, Nn166, Hh166, Gg166⟩ := id f164
  have hin166 : ¬ ((1 : Int32) < 0 ∨ cl166.slots.size ≤ ((1 : Int32)).toNatClampNeg) := inb_of Sz166 ⟨by decide, by decide⟩
  obtain ⟨T166, h166, X166, e166, W166, st166⟩ := stC X157 hx hZ e157 Ar166 (j := (1 : Int32)) hin166 (g := (mkF m 35 #[.val (.int p1), .val (.long q1), .second, .val (.long q2), .second, .val (.int p4), .val (.int p5), .val (.ref v0), .unset, .unset, .unset, .unset, .unset, .unset, .unset, .unset, .unset, .unset, .unset] [(.int ((((p4.toUInt32 >>> ((8 : Int32) &&& 31).toUInt32).toInt32) &&& (255 : Int32)).toUInt32.toUInt16.toUInt32.toInt32)), (.int (1 : Int32)), (.ref ch), (.ref ch), (.ref v1), (.ref v1)])) rfl rfl (hb hby at_35)
  have N166 := Fr.snoc X166 N157 g_ch
  have f167 : n0 ≤ h166.size := Nat.le_trans f158 (Keep.of_wr W166).1
  have f168 : Old Z n0 h166 := f159.wr W166 g_ch
  have f169 : own_ok Z a0 h166 v0 := f160.wr W166
  have f170 : Exa Z h166 v1 "java/lang/String" := f161.wr W166
  have f171 : Fld Z h166 v1 "java/lang/String" "coder" "B" (.int (0 : Int32)) := f162.other W166 (Or.inl ne_v1_ch)
  have f172 : Fld Z h166 v1 "java/lang/String" "value" "[B" .null := f163.other W166 (Or.inl ne_v1_ch)
  have f173 : Arv Z h166 ch ak149 .char (2 : Int32) [(.int (nar .char ((p4 &&& (255 : Int32)).toUInt32.toUInt16.toUInt32.toInt32))), (.int (nar .char ((((p4.toUInt32 >>> ((8 : Int32) &&& 31).toUInt32).toInt32) &&& (255 : Int32)).toUInt32.toUInt16.toUInt32.toInt32)))] (.int (0 : Int32)) := Arv.set Ar166 qc166 Sz166 Nn166 Hh166 Gg166 (fits_nar_char _) W166 1 rfl (Nat.le_of_ble_eq_true rfl)
  have k166 : Kt p e below m (s₁.setTop (entryFrame m #[(.int p1), (.long q1), (.long q2), (.int p4), (.int p5)] maxLocals)) T166 36 #[.val (.int p1), .val (.long q1), .second, .val (.long q2), .second, .val (.int p4), .val (.int p5), .val (.ref v0), .unset, .unset, .unset, .unset, .unset, .unset, .unset, .unset, .unset, .unset, .unset] [(.ref ch), (.ref v1), (.ref v1)] := fun t ht => k165 t (st166 t ht)
  have hp : ∀ c ∈ ([(nar .char ((p4 &&& (255 : Int32)).toUInt32.toUInt16.toUInt32.toInt32)), (nar .char ((((p4.toUInt32 >>> ((8 : Int32) &&& 31).toUInt32).toInt32) &&& (255 : Int32)).toUInt32.toUInt16.toUInt32.toInt32))] : List Int32), ¬ c < 0 ∧ ¬ (255 : Int32) < c := by
    intro c hc
    simp only [List.mem_cons, List.not_mem_nil, or_false] at hc
    rcases hc with rfl | rfl
    · rw [own_cn]; exact own_m _
    · rw [own_cn]; exact own_m _
  obtain ⟨_, _, ⟨T174, L174, c174, n174⟩, -, X174, ⟨Lc174, hQ174, l174, y174, z174⟩, st174⟩ := X166.specialBack hx (y := (⟨"java/lang/String", "<init>", "([C)V"⟩ : MethodName)) rfl hown (mvT hZ (hw _ (List.mem_of_getElem? (i := 12) rfl))) (mvT hZ (hw _ (List.mem_of_getElem? (i := 13) rfl))) (mvT hZ (hw _ (List.mem_of_getElem? (i := 14) rfl))) (by decide) (StrChars.Road.backV (W := 1) hZ hws (kI := 4) (hw _ (List.mem_of_getElem? (i := 9) rfl)) (cs := ([(nar .char ((p4 &&& (255 : Int32)).toUInt32.toUInt16.toUInt32.toInt32)), (nar .char ((((p4.toUInt32 >>> ((8 : Int32) &&& 31).toUInt32).toInt32) &&& (255 : Int32)).toUInt32.toUInt16.toUInt32.toInt32))] : List Int32)) (bs := ([(nar .char ((p4 &&& (255 : Int32)).toUInt32.toUInt16.toUInt32.toInt32)), (nar .char ((((p4.toUInt32 >>> ((8 : Int32) &&& 31).toUInt32).toInt32) &&& (255 : Int32)).toUInt32.toUInt16.toUInt32.toInt32))] : List Int32).map (fun c => c.toInt8.toInt32)) (n := 2) g_v1 f167 f170 f172 f171 f173 (S1.ext f168.2) P5 rfl rfl (by decide) (by decide) hp rfl (by decide) (by decide)) (g := (mkF m 36 #[.val (.int p1), .val (.long q1), .second, .val (.long q2), .second, .val (.int p4), .val (.int p5), .val (.ref v0), .unset, .unset, .unset, .unset, .unset, .unset, .unset, .unset, .unset, .unset, .unset] [(.ref ch), (.ref v1), (.ref v1)])) rfl (by rw [hml]; rfl) (Steps.refl _) (a := v1) (argsL := [(.ref ch)]) (rest := [(.ref v1)]) (lenOf pd_12 rfl) rfl (by show 2 * 0 + _ ≤ _; exact Nat.le_of_eq rfl) (hb hby at_36) (fun _ _ => ⟨rfl, e166, (by decide : 3 + 1 ≤ _), (by decide : 7 + 2 ≤ _)⟩)
  dsimp only [Pt.U, Pt.locs, Pt.cells, Pt.slots] at X174 l174 y174 z174 st174 hQ174
  subst l174 y174 z174
  obtain ⟨rfl, Nq174, Kp174, Ev174, -⟩ := hQ174
  have N174 := Fr.app N166 Nq174
  have k174 : Kt p e below m (s₁.setTop (entryFrame m #[(.int p1), (.long q1), (.long q2), (.int p4), (.int p5)] maxLocals)) T174 39 #[.val (.int p1), .val (.long q1), .second, .val (.long q2), .second, .val (.int p4), .val (.int p5), .val (.ref v0), .unset, .unset, .unset, .unset, .unset, .unset, .unset, .unset, .unset, .unset, .unset] [(.ref v1)] := fun t ht => k166 t (st174.trans ht)
  have f175 : n0 ≤ T174.heap.size := Nat.le_trans f167 Kp174.1
  have f176 : Old Z n0 T174.heap := f168.keep Kp174 (allS g_v1 all0)
  have f177 : own_ok Z a0 T174.heap v0 := f169.keep Kp174
  have f178 : Exa Z T174.heap v1 "java/lang/String" := f170.keep Kp174
  have f181 : Arv Z T174.heap ch ak149 .char (2 : Int32) [(.int (nar .char ((p4 &&& (255 : Int32)).toUInt32.toUInt16.toUInt32.toInt32))), (.int (nar .char ((((p4.toUInt32 >>> ((8 : Int32) &&& 31).toUInt32).toInt32) &&& (255 : Int32)).toUInt32.toUInt16.toUInt32.toInt32)))] (.int (0 : Int32)) := f173.keep Kp174 (ninS ne_v1_ch.symm nin0)
  have f182 : own_ok Z a0 T174.heap v1 := ⟨_, Ev174, hnoS, (hw _ (List.mem_of_getElem? (i := 83) rfl))⟩
  have k183 : Kt p e below m (s₁.setTop (entryFrame m #[(.int p1), (.long q1), (.long q2), (.int p4), (.int p5)] maxLocals)) T174 42 #[.val (.int p1), .val (.long q1), .second, .val (.long q2), .second, .val (.int p4), .val (.int p5), .val (.ref v0), .val (.ref v1), .unset, .unset, .unset, .unset, .unset, .unset, .unset, .unset, .unset, .unset] [(.long q2)] := by
    intro t ht
    refine k174 t ?_
    show Steps p.tables e below (T174.setTop (mkF m 39 #[.val (.int p1), .val (.long q1), .second, .val (.long q2), .second, .val (.int p4), .val (.int p5), .val (.ref v0), .unset, .unset, .unset, .unset, .unset, .unset, .unset, .unset, .unset, .unset, .unset] [(.ref v1)])) t
    refine XS.astore X174.here hx rfl (hb hby at_39) rfl rfl (l' := #[.val (.int p1), .val (.long q1), .second, .val (.long q2), .second, .val (.int p4), .val (.int p5), .val (.ref v0), .val (.ref v1), .unset, .unset, .unset, .unset, .unset, .unset, .unset, .unset, .unset, .unset]) rfl ?_
    show Steps p.tables e below (T174.setTop (mkF m 41 #[.val (.int p1), .val (.long q1), .second, .val (.long q2), .second, .val (.int p4), .val (.int p5), .val (.ref v0), .val (.ref v1), .unset, .unset, .unset, .unset, .unset, .unset, .unset, .unset, .unset, .unset] [])) t
    refine XS.lloadN X174.here hx rfl (hb hby at_41) rfl ?_
    exact ht
  obtain ⟨_, _, ⟨T184, L184, c184, n184⟩, -, X184, ⟨Lc184, hQ184, l184, y184, z184⟩, st184⟩ := Jvm.LawKit.callS X174 hx (y := (⟨"java/lang/Long", "valueOf", "(J)Ljava/lang/Long;"⟩ : MethodName)) hown (mvT hZ (hw _ (List.mem_of_getElem? (i := 0) rfl))) (mvT hZ (hw _ (List.mem_of_getElem? (i := 1) rfl))) (mvT hZ (hw _ (List.mem_of_getElem? (i := 2) rfl))) (mvT hZ (hw _ (List.mem_of_getElem? (i := 3) rfl))) (by decide) (backOf (W := 0) (rm1 l Z a0 hw [] q2 ca cc va T174.heap n0 f175 S2 B f176) hZ (hw _ (List.mem_of_getElem? (i := 3) rfl)) (hw _ (List.mem_of_getElem? (i := 2) rfl)) (by decide) (by decide)) (g := (mkF m 42 #[.val (.int p1), .val (.long q1), .second, .val (.long q2), .second, .val (.int p4), .val (.int p5), .val (.ref v0), .val (.ref v1), .unset, .unset, .unset, .unset, .unset, .unset, .unset, .unset, .unset, .unset] [(.long q2)])) rfl (by rw [hml]; rfl) (argsL := [(.long q2)]) (rest := []) (lenOf pd_7 rfl) rfl (by show 2 * 0 + _ ≤ _; exact Nat.le_of_eq rfl) (hb hby at_42) (fun _ _ => ⟨rfl, rfl, (by decide : 4 + 1 ≤ _), (by decide : 9 + 1 ≤ _)⟩)
  dsimp only [Pt.U, Pt.locs, Pt.cells, Pt.slots] at X184 l184 y184 z184 st184 hQ184
  subst l184 y184 z184
  obtain ⟨v2, rfl, Nq184, Kp184, Ev184⟩ := hQ184
  have N184 := Fr.app N174 Nq184
  have k184 : Kt p e below m (s₁.setTop (entryFrame m #[(.int p1), (.long q1), (.long q2), (.int p4), (.int p5)] maxLocals)) T184 45 #[.val (.int p1), .val (.long q1), .second, .val (.long q2), .second, .val (.int p4), .val (.int p5), .val (.ref v0), .val (.ref v1), .unset, .unset, .unset, .unset, .unset, .unset, .unset, .unset, .unset, .unset] [(.ref v2)] := fun t ht => k183 t (st184 t ht)
  have f185 : n0 ≤ T184.heap.size := Nat.le_trans f175 Kp184.1
  have f186 : Old Z n0 T184.heap := f176.keep Kp184 all0
  have f187 : own_ok Z a0 T184.heap v0 := f177.keep Kp184
  have f188 : Exa Z T184.heap v1 "java/lang/String" := f178.keep Kp184
  have f189 : Arv Z T184.heap ch ak149 .char (2 : Int32) [(.int (nar .char ((p4 &&& (255 : Int32)).toUInt32.toUInt16.toUInt32.toInt32))), (.int (nar .char ((((p4.toUInt32 >>> ((8 : Int32) &&& 31).toUInt32).toInt32) &&& (255 : Int32)).toUInt32.toUInt16.toUInt32.toInt32)))] (.int (0 : Int32)) := f181.keep Kp184 nin0
  have f190 : own_ok Z a0 T184.heap v1 := f182.keep Kp184
  have f191 : own_ok Z a0 T184.heap v2 := ⟨_, Ev184, hnoL, (hw _ (List.mem_of_getElem? (i := 81) rfl))⟩
  have k192 : Kt p e below m (s₁.setTop (entryFrame m #[(.int p1), (.long q1), (.long q2), (.int p4), (.int p5)] maxLocals)) T184 54 #[.val (.int p1), .val (.long q1), .second, .val (.long q2), .second, .val (.int p4), .val (.int p5), .val (.ref v0), .val (.ref v1), .val (.ref v2), .unset, .unset, .unset, .unset, .unset, .unset, .unset, .unset, .unset] [(.int ((p5 &&& (255 : Int32)).toUInt32.toUInt16.toUInt32.toInt32))] := by
    intro t ht
    refine k184 t ?_
    show Steps p.tables e below (T184.setTop (mkF m 45 #[.val (.int p1), .val (.long q1), .second, .val (.long q2), .second, .val (.int p4), .val (.int p5), .val (.ref v0), .val (.ref v1), .unset, .unset, .unset, .unset, .unset, .unset, .unset, .unset, .unset, .unset] [(.ref v2)])) t
    refine XS.astore X184.here hx rfl (hb hby at_45) rfl rfl (l' := #[.val (.int p1), .val (.long q1), .second, .val (.long q2), .second, .val (.int p4), .val (.int p5), .val (.ref v0), .val (.ref v1), .val (.ref v2), .unset, .unset, .unset, .unset, .unset, .unset, .unset, .unset, .unset]) rfl ?_
    show Steps p.tables e below (T184.setTop (mkF m 47 #[.val (.int p1), .val (.long q1), .second, .val (.long q2), .second, .val (.int p4), .val (.int p5), .val (.ref v0), .val (.ref v1), .val (.ref v2), .unset, .unset, .unset, .unset, .unset, .unset, .unset, .unset, .unset] [])) t
    refine XS.iload X184.here hx rfl (hb hby at_47) rfl ?_
    show Steps p.tables e below (T184.setTop (mkF m 49 #[.val (.int p1), .val (.long q1), .second, .val (.long q2), .second, .val (.int p4), .val (.int p5), .val (.ref v0), .val (.ref v1), .val (.ref v2), .unset, .unset, .unset, .unset, .unset, .unset, .unset, .unset, .unset] [(.int p5)])) t
    refine XS.sipush X184.here hx rfl (hb hby at_49) ?_
    show Steps p.tables e below (T184.setTop (mkF m 52 #[.val (.int p1), .val (.long q1), .second, .val (.long q2), .second, .val (.int p4), .val (.int p5), .val (.ref v0), .val (.ref v1), .val (.ref v2), .unset, .unset, .unset, .unset, .unset, .unset, .unset, .unset, .unset] [(.int (255 : Int32)), (.int p5)])) t
    refine XS.iand X184.here hx rfl (hb hby at_52) rfl ?_
    show Steps p.tables e below (T184.setTop (mkF m 53 #[.val (.int p1), .val (.long q1), .second, .val (.long q2), .second, .val (.int p4), .val (.int p5), .val (.ref v0), .val (.ref v1), .val (.ref v2), .unset, .unset, .unset, .unset, .unset, .unset, .unset, .unset, .unset] [(.int (p5 &&& (255 : Int32)))])) t
    refine XS.i2c X184.here hx rfl (hb hby at_53) rfl ?_
    exact ht
  obtain ⟨_, _, ⟨T193, L193, c193, n193⟩, -, X193, ⟨Lc193, hQ193, l193, y193, z193⟩, st193⟩ := Jvm.LawKit.callS X184 hx (y := (⟨"java/lang/String", "valueOf", "(C)Ljava/lang/String;"⟩ : MethodName)) hown (mvT hZ (hw _ (List.mem_of_getElem? (i := 53) rfl))) (mvT hZ (hw _ (List.mem_of_getElem? (i := 54) rfl))) (mvT hZ (hw _ (List.mem_of_getElem? (i := 10) rfl))) (mvT hZ (hw _ (List.mem_of_getElem? (i := 55) rfl))) (by decide) (backOf (W := 0) (rm10 l Z a0 hw [] ((p5 &&& (255 : Int32)).toUInt32.toUInt16.toUInt32.toInt32) G1 T184.heap n0 f185 S1 P5 f186 (own_c p5).2) hZ (hw _ (List.mem_of_getElem? (i := 55) rfl)) (hw _ (List.mem_of_getElem? (i := 10) rfl)) (by decide) (by decide)) (g := (mkF m 54 #[.val (.int p1), .val (.long q1), .second, .val (.long q2), .second, .val (.int p4), .val (.int p5), .val (.ref v0), .val (.ref v1), .val (.ref v2), .unset, .unset, .unset, .unset, .unset, .unset, .unset, .unset, .unset] [(.int ((p5 &&& (255 : Int32)).toUInt32.toUInt16.toUInt32.toInt32))])) rfl (by rw [hml]; rfl) (argsL := [(.int ((p5 &&& (255 : Int32)).toUInt32.toUInt16.toUInt32.toInt32))]) (rest := []) (lenOf pd_3 rfl) rfl (by show 2 * 0 + _ ≤ _; exact Nat.le_of_eq rfl) (hb hby at_54) (fun _ _ => ⟨rfl, rfl, (by decide : 5 + 2 ≤ _), (by decide : 10 + 5 ≤ _)⟩)
  dsimp only [Pt.U, Pt.locs, Pt.cells, Pt.slots] at X193 l193 y193 z193 st193 hQ193
  subst l193 y193 z193
  obtain ⟨v3, rfl, Nq193, Kp193, Ev193⟩ := hQ193
  have N193 := Fr.app N184 Nq193
  have k193 : Kt p e below m (s₁.setTop (entryFrame m #[(.int p1), (.long q1), (.long q2), (.int p4), (.int p5)] maxLocals)) T193 57 #[.val (.int p1), .val (.long q1), .second, .val (.long q2), .second, .val (.int p4), .val (.int p5), .val (.ref v0), .val (.ref v1), .val (.ref v2), .unset, .unset, .unset, .unset, .unset, .unset, .unset, .unset, .unset] [(.ref v3)] := fun t ht => k192 t (st193 t ht)
  have f194 : n0 ≤ T193.heap.size := Nat.le_trans f185 Kp193.1
  have f195 : Old Z n0 T193.heap := f186.keep Kp193 all0
  have f196 : own_ok Z a0 T193.heap v0 := f187.keep Kp193
  have f197 : Exa Z T193.heap v1 "java/lang/String" := f188.keep Kp193
  have f198 : Arv Z T193.heap ch ak149 .char (2 : Int32) [(.int (nar .char ((p4 &&& (255 : Int32)).toUInt32.toUInt16.toUInt32.toInt32))), (.int (nar .char ((((p4.toUInt32 >>> ((8 : Int32) &&& 31).toUInt32).toInt32) &&& (255 : Int32)).toUInt32.toUInt16.toUInt32.toInt32)))] (.int (0 : Int32)) := f189.keep Kp193 nin0
  have f199 : own_ok Z a0 T193.heap v1 := f190.keep Kp193
  have f200 : own_ok Z a0 T193.heap v2 := f191.keep Kp193
  have f201 : own_ok Z a0 T193.heap v3 := ⟨_, Ev193, hnoS, (hw _ (List.mem_of_getElem? (i := 83) rfl))⟩
  have k202 : Kt p e below m (s₁.setTop (entryFrame m #[(.int p1), (.long q1), (.long q2), (.int p4), (.int p5)] maxLocals)) T193 70 #[.val (.int p1), .val (.long q1), .second, .val (.long q2), .second, .val (.int p4), .val (.int p5), .val (.ref v0), .val (.ref v1), .val (.ref v2), .val (.ref v3), .unset, .unset, .unset, .unset, .unset, .unset, .unset, .unset] [(.ref v3), (.ref v2), (.ref v1), (.ref v0), (.int ((p1.toUInt32 >>> ((1 : Int32) &&& 31).toUInt32).toInt32))] := by
    intro t ht
    refine k193 t ?_
    show Steps p.tables e below (T193.setTop (mkF m 57 #[.val (.int p1), .val (.long q1), .second, .val (.long q2), .second, .val (.int p4), .val (.int p5), .val (.ref v0), .val (.ref v1), .val (.ref v2), .unset, .unset, .unset, .unset, .unset, .unset, .unset, .unset, .unset] [(.ref v3)])) t
    refine XS.astore X193.here hx rfl (hb hby at_57) rfl rfl (l' := #[.val (.int p1), .val (.long q1), .second, .val (.long q2), .second, .val (.int p4), .val (.int p5), .val (.ref v0), .val (.ref v1), .val (.ref v2), .val (.ref v3), .unset, .unset, .unset, .unset, .unset, .unset, .unset, .unset]) rfl ?_
    show Steps p.tables e below (T193.setTop (mkF m 59 #[.val (.int p1), .val (.long q1), .second, .val (.long q2), .second, .val (.int p4), .val (.int p5), .val (.ref v0), .val (.ref v1), .val (.ref v2), .val (.ref v3), .unset, .unset, .unset, .unset, .unset, .unset, .unset, .unset] [])) t
    refine XS.iloadN X193.here hx rfl (hb hby at_59) rfl ?_
    show Steps p.tables e below (T193.setTop (mkF m 60 #[.val (.int p1), .val (.long q1), .second, .val (.long q2), .second, .val (.int p4), .val (.int p5), .val (.ref v0), .val (.ref v1), .val (.ref v2), .val (.ref v3), .unset, .unset, .unset, .unset, .unset, .unset, .unset, .unset] [(.int p1)])) t
    refine XS.iconst X193.here hx rfl (hb hby at_60) ?_
    show Steps p.tables e below (T193.setTop (mkF m 61 #[.val (.int p1), .val (.long q1), .second, .val (.long q2), .second, .val (.int p4), .val (.int p5), .val (.ref v0), .val (.ref v1), .val (.ref v2), .val (.ref v3), .unset, .unset, .unset, .unset, .unset, .unset, .unset, .unset] [(.int (1 : Int32)), (.int p1)])) t
    refine XS.iushr X193.here hx rfl (hb hby at_61) rfl ?_
    show Steps p.tables e below (T193.setTop (mkF m 62 #[.val (.int p1), .val (.long q1), .second, .val (.long q2), .second, .val (.int p4), .val (.int p5), .val (.ref v0), .val (.ref v1), .val (.ref v2), .val (.ref v3), .unset, .unset, .unset, .unset, .unset, .unset, .unset, .unset] [(.int ((p1.toUInt32 >>> ((1 : Int32) &&& 31).toUInt32).toInt32))])) t
    refine XS.aload X193.here hx rfl (hb hby at_62) rfl rfl ?_
    show Steps p.tables e below (T193.setTop (mkF m 64 #[.val (.int p1), .val (.long q1), .second, .val (.long q2), .second, .val (.int p4), .val (.int p5), .val (.ref v0), .val (.ref v1), .val (.ref v2), .val (.ref v3), .unset, .unset, .unset, .unset, .unset, .unset, .unset, .unset] [(.ref v0), (.int ((p1.toUInt32 >>> ((1 : Int32) &&& 31).toUInt32).toInt32))])) t
    refine XS.aload X193.here hx rfl (hb hby at_64) rfl rfl ?_
    show Steps p.tables e below (T193.setTop (mkF m 66 #[.val (.int p1), .val (.long q1), .second, .val (.long q2), .second, .val (.int p4), .val (.int p5), .val (.ref v0), .val (.ref v1), .val (.ref v2), .val (.ref v3), .unset, .unset, .unset, .unset, .unset, .unset, .unset, .unset] [(.ref v1), (.ref v0), (.int ((p1.toUInt32 >>> ((1 : Int32) &&& 31).toUInt32).toInt32))])) t
    refine XS.aload X193.here hx rfl (hb hby at_66) rfl rfl ?_
    show Steps p.tables e below (T193.setTop (mkF m 68 #[.val (.int p1), .val (.long q1), .second, .val (.long q2), .second, .val (.int p4), .val (.int p5), .val (.ref v0), .val (.ref v1), .val (.ref v2), .val (.ref v3), .unset, .unset, .unset, .unset, .unset, .unset, .unset, .unset] [(.ref v2), (.ref v1), (.ref v0), (.int ((p1.toUInt32 >>> ((1 : Int32) &&& 31).toUInt32).toInt32))])) t
    refine XS.aload X193.here hx rfl (hb hby at_68) rfl rfl ?_
    exact ht
  obtain ⟨_, _, ⟨T203, L203, c203, n203⟩, -, X203, ⟨Lc203, hQ203, l203, y203, z203⟩, st203⟩ := Jvm.LawKit.callS X193 hx (y := (⟨"com/example/tablepuffer/tablepuffer/TableShapeKeyPartsPinLaw", "pick", "(ILjava/lang/Object;Ljava/lang/Object;Ljava/lang/Object;Ljava/lang/Object;)Ljava/lang/Object;"⟩ : MethodName)) hown (mvT hZ (hw _ (List.mem_of_getElem? (i := 67) rfl))) (mvT hZ (hw _ (List.mem_of_getElem? (i := 68) rfl))) (mvT hZ (hw _ (List.mem_of_getElem? (i := 69) rfl))) (mvT hZ (hw _ (List.mem_of_getElem? (i := 70) rfl))) (by decide) (backOf (W := 0) (rm14 l Z a0 hw [] ((p1.toUInt32 >>> ((1 : Int32) &&& 31).toUInt32).toInt32) v0 v1 v2 v3 T193.heap n0 f194 ) hZ (hw _ (List.mem_of_getElem? (i := 70) rfl)) (hw _ (List.mem_of_getElem? (i := 69) rfl)) (by decide) (by decide)) (g := (mkF m 70 #[.val (.int p1), .val (.long q1), .second, .val (.long q2), .second, .val (.int p4), .val (.int p5), .val (.ref v0), .val (.ref v1), .val (.ref v2), .val (.ref v3), .unset, .unset, .unset, .unset, .unset, .unset, .unset, .unset] [(.ref v3), (.ref v2), (.ref v1), (.ref v0), (.int ((p1.toUInt32 >>> ((1 : Int32) &&& 31).toUInt32).toInt32))])) rfl (by rw [hml]; rfl) (argsL := [(.int ((p1.toUInt32 >>> ((1 : Int32) &&& 31).toUInt32).toInt32)), (.ref v0), (.ref v1), (.ref v2), (.ref v3)]) (rest := []) (lenOf pd_6 rfl) rfl (by show 2 * 0 + _ ≤ _; exact Nat.le_of_eq rfl) (hb hby at_70) (fun _ _ => ⟨rfl, rfl, (by decide : 7 + 0 ≤ _), (by decide : 15 + 0 ≤ _)⟩)
  dsimp only [Pt.U, Pt.locs, Pt.cells, Pt.slots] at X203 l203 y203 z203 st203 hQ203
  subst l203 y203 z203
  obtain ⟨rfl, Nq203, eq203⟩ := hQ203
  have N203 := Fr.app N193 Nq203
  have k203 : Kt p e below m (s₁.setTop (entryFrame m #[(.int p1), (.long q1), (.long q2), (.int p4), (.int p5)] maxLocals)) T203 73 #[.val (.int p1), .val (.long q1), .second, .val (.long q2), .second, .val (.int p4), .val (.int p5), .val (.ref v0), .val (.ref v1), .val (.ref v2), .val (.ref v3), .unset, .unset, .unset, .unset, .unset, .unset, .unset, .unset] [(.ref (own_p4 (((p1.toUInt32 >>> ((1 : Int32) &&& 31).toUInt32).toInt32) &&& (3 : Int32)) v0 v1 v2 v3))] := fun t ht => k202 t (st203 t ht)
  have f204 : n0 ≤ T203.heap.size := by rw [eq203]; exact f194
  have f205 : Old Z n0 T203.heap := by rw [eq203]; exact f195
  have f206 : own_ok Z a0 T203.heap v0 := by rw [eq203]; exact f196
  have f207 : Exa Z T203.heap v1 "java/lang/String" := by rw [eq203]; exact f197
  have f208 : Arv Z T203.heap ch ak149 .char (2 : Int32) [(.int (nar .char ((p4 &&& (255 : Int32)).toUInt32.toUInt16.toUInt32.toInt32))), (.int (nar .char ((((p4.toUInt32 >>> ((8 : Int32) &&& 31).toUInt32).toInt32) &&& (255 : Int32)).toUInt32.toUInt16.toUInt32.toInt32)))] (.int (0 : Int32)) := by rw [eq203]; exact f198
  have f209 : own_ok Z a0 T203.heap v1 := by rw [eq203]; exact f199
  have f210 : own_ok Z a0 T203.heap v2 := by rw [eq203]; exact f200
  have f211 : own_ok Z a0 T203.heap v3 := by rw [eq203]; exact f201
  obtain ⟨o0, ho0, k212⟩ : ∃ o0 : Addr, o0 = (own_p4 (((p1.toUInt32 >>> ((1 : Int32) &&& 31).toUInt32).toInt32) &&& (3 : Int32)) v0 v1 v2 v3) ∧ Kt p e below m (s₁.setTop (entryFrame m #[(.int p1), (.long q1), (.long q2), (.int p4), (.int p5)] maxLocals)) T203 73 #[.val (.int p1), .val (.long q1), .second, .val (.long q2), .second, .val (.int p4), .val (.int p5), .val (.ref v0), .val (.ref v1), .val (.ref v2), .val (.ref v3), .unset, .unset, .unset, .unset, .unset, .unset, .unset, .unset] [(.ref o0)] := ⟨_, rfl, k203⟩
  have f213 : own_ok Z a0 T203.heap o0 := by rw [ho0]; exact own_p4All _ f206 f209 f210 f211
  have k214 : Kt p e below m (s₁.setTop (entryFrame m #[(.int p1), (.long q1), (.long q2), (.int p4), (.int p5)] maxLocals)) T203 86 #[.val (.int p1), .val (.long q1), .second, .val (.long q2), .second, .val (.int p4), .val (.int p5), .val (.ref v0), .val (.ref v1), .val (.ref v2), .val (.ref v3), .val (.ref o0), .unset, .unset, .unset, .unset, .unset, .unset, .unset] [(.ref v3), (.ref v2), (.ref v1), (.ref v0), (.int ((p1.toUInt32 >>> ((3 : Int32) &&& 31).toUInt32).toInt32))] := by
    intro t ht
    refine k212 t ?_
    show Steps p.tables e below (T203.setTop (mkF m 73 #[.val (.int p1), .val (.long q1), .second, .val (.long q2), .second, .val (.int p4), .val (.int p5), .val (.ref v0), .val (.ref v1), .val (.ref v2), .val (.ref v3), .unset, .unset, .unset, .unset, .unset, .unset, .unset, .unset] [(.ref o0)])) t
    refine XS.astore X203.here hx rfl (hb hby at_73) rfl rfl (l' := #[.val (.int p1), .val (.long q1), .second, .val (.long q2), .second, .val (.int p4), .val (.int p5), .val (.ref v0), .val (.ref v1), .val (.ref v2), .val (.ref v3), .val (.ref o0), .unset, .unset, .unset, .unset, .unset, .unset, .unset]) rfl ?_
    show Steps p.tables e below (T203.setTop (mkF m 75 #[.val (.int p1), .val (.long q1), .second, .val (.long q2), .second, .val (.int p4), .val (.int p5), .val (.ref v0), .val (.ref v1), .val (.ref v2), .val (.ref v3), .val (.ref o0), .unset, .unset, .unset, .unset, .unset, .unset, .unset] [])) t
    refine XS.iloadN X203.here hx rfl (hb hby at_75) rfl ?_
    show Steps p.tables e below (T203.setTop (mkF m 76 #[.val (.int p1), .val (.long q1), .second, .val (.long q2), .second, .val (.int p4), .val (.int p5), .val (.ref v0), .val (.ref v1), .val (.ref v2), .val (.ref v3), .val (.ref o0), .unset, .unset, .unset, .unset, .unset, .unset, .unset] [(.int p1)])) t
    refine XS.iconst X203.here hx rfl (hb hby at_76) ?_
    show Steps p.tables e below (T203.setTop (mkF m 77 #[.val (.int p1), .val (.long q1), .second, .val (.long q2), .second, .val (.int p4), .val (.int p5), .val (.ref v0), .val (.ref v1), .val (.ref v2), .val (.ref v3), .val (.ref o0), .unset, .unset, .unset, .unset, .unset, .unset, .unset] [(.int (3 : Int32)), (.int p1)])) t
    refine XS.iushr X203.here hx rfl (hb hby at_77) rfl ?_
    show Steps p.tables e below (T203.setTop (mkF m 78 #[.val (.int p1), .val (.long q1), .second, .val (.long q2), .second, .val (.int p4), .val (.int p5), .val (.ref v0), .val (.ref v1), .val (.ref v2), .val (.ref v3), .val (.ref o0), .unset, .unset, .unset, .unset, .unset, .unset, .unset] [(.int ((p1.toUInt32 >>> ((3 : Int32) &&& 31).toUInt32).toInt32))])) t
    refine XS.aload X203.here hx rfl (hb hby at_78) rfl rfl ?_
    show Steps p.tables e below (T203.setTop (mkF m 80 #[.val (.int p1), .val (.long q1), .second, .val (.long q2), .second, .val (.int p4), .val (.int p5), .val (.ref v0), .val (.ref v1), .val (.ref v2), .val (.ref v3), .val (.ref o0), .unset, .unset, .unset, .unset, .unset, .unset, .unset] [(.ref v0), (.int ((p1.toUInt32 >>> ((3 : Int32) &&& 31).toUInt32).toInt32))])) t
    refine XS.aload X203.here hx rfl (hb hby at_80) rfl rfl ?_
    show Steps p.tables e below (T203.setTop (mkF m 82 #[.val (.int p1), .val (.long q1), .second, .val (.long q2), .second, .val (.int p4), .val (.int p5), .val (.ref v0), .val (.ref v1), .val (.ref v2), .val (.ref v3), .val (.ref o0), .unset, .unset, .unset, .unset, .unset, .unset, .unset] [(.ref v1), (.ref v0), (.int ((p1.toUInt32 >>> ((3 : Int32) &&& 31).toUInt32).toInt32))])) t
    refine XS.aload X203.here hx rfl (hb hby at_82) rfl rfl ?_
    show Steps p.tables e below (T203.setTop (mkF m 84 #[.val (.int p1), .val (.long q1), .second, .val (.long q2), .second, .val (.int p4), .val (.int p5), .val (.ref v0), .val (.ref v1), .val (.ref v2), .val (.ref v3), .val (.ref o0), .unset, .unset, .unset, .unset, .unset, .unset, .unset] [(.ref v2), (.ref v1), (.ref v0), (.int ((p1.toUInt32 >>> ((3 : Int32) &&& 31).toUInt32).toInt32))])) t
    refine XS.aload X203.here hx rfl (hb hby at_84) rfl rfl ?_
    exact ht
  obtain ⟨_, _, ⟨T215, L215, c215, n215⟩, -, X215, ⟨Lc215, hQ215, l215, y215, z215⟩, st215⟩ := Jvm.LawKit.callS X203 hx (y := (⟨"com/example/tablepuffer/tablepuffer/TableShapeKeyPartsPinLaw", "pick", "(ILjava/lang/Object;Ljava/lang/Object;Ljava/lang/Object;Ljava/lang/Object;)Ljava/lang/Object;"⟩ : MethodName)) hown (mvT hZ (hw _ (List.mem_of_getElem? (i := 67) rfl))) (mvT hZ (hw _ (List.mem_of_getElem? (i := 68) rfl))) (mvT hZ (hw _ (List.mem_of_getElem? (i := 69) rfl))) (mvT hZ (hw _ (List.mem_of_getElem? (i := 70) rfl))) (by decide) (backOf (W := 0) (rm14 l Z a0 hw [] ((p1.toUInt32 >>> ((3 : Int32) &&& 31).toUInt32).toInt32) v0 v1 v2 v3 T203.heap n0 f204 ) hZ (hw _ (List.mem_of_getElem? (i := 70) rfl)) (hw _ (List.mem_of_getElem? (i := 69) rfl)) (by decide) (by decide)) (g := (mkF m 86 #[.val (.int p1), .val (.long q1), .second, .val (.long q2), .second, .val (.int p4), .val (.int p5), .val (.ref v0), .val (.ref v1), .val (.ref v2), .val (.ref v3), .val (.ref o0), .unset, .unset, .unset, .unset, .unset, .unset, .unset] [(.ref v3), (.ref v2), (.ref v1), (.ref v0), (.int ((p1.toUInt32 >>> ((3 : Int32) &&& 31).toUInt32).toInt32))])) rfl (by rw [hml]; rfl) (argsL := [(.int ((p1.toUInt32 >>> ((3 : Int32) &&& 31).toUInt32).toInt32)), (.ref v0), (.ref v1), (.ref v2), (.ref v3)]) (rest := []) (lenOf pd_6 rfl) rfl (by show 2 * 0 + _ ≤ _; exact Nat.le_of_eq rfl) (hb hby at_86) (fun _ _ => ⟨rfl, rfl, (by decide : 7 + 0 ≤ _), (by decide : 15 + 0 ≤ _)⟩)
  dsimp only [Pt.U, Pt.locs, Pt.cells, Pt.slots] at X215 l215 y215 z215 st215 hQ215
  subst l215 y215 z215
  obtain ⟨rfl, Nq215, eq215⟩ := hQ215
  have N215 := Fr.app N203 Nq215
  have k215 : Kt p e below m (s₁.setTop (entryFrame m #[(.int p1), (.long q1), (.long q2), (.int p4), (.int p5)] maxLocals)) T215 89 #[.val (.int p1), .val (.long q1), .second, .val (.long q2), .second, .val (.int p4), .val (.int p5), .val (.ref v0), .val (.ref v1), .val (.ref v2), .val (.ref v3), .val (.ref o0), .unset, .unset, .unset, .unset, .unset, .unset, .unset] [(.ref (own_p4 (((p1.toUInt32 >>> ((3 : Int32) &&& 31).toUInt32).toInt32) &&& (3 : Int32)) v0 v1 v2 v3))] := fun t ht => k214 t (st215 t ht)
  have f216 : n0 ≤ T215.heap.size := by rw [eq215]; exact f204
  have f217 : Old Z n0 T215.heap := by rw [eq215]; exact f205
  have f218 : own_ok Z a0 T215.heap v0 := by rw [eq215]; exact f206
  have f219 : Exa Z T215.heap v1 "java/lang/String" := by rw [eq215]; exact f207
  have f220 : Arv Z T215.heap ch ak149 .char (2 : Int32) [(.int (nar .char ((p4 &&& (255 : Int32)).toUInt32.toUInt16.toUInt32.toInt32))), (.int (nar .char ((((p4.toUInt32 >>> ((8 : Int32) &&& 31).toUInt32).toInt32) &&& (255 : Int32)).toUInt32.toUInt16.toUInt32.toInt32)))] (.int (0 : Int32)) := by rw [eq215]; exact f208
  have f221 : own_ok Z a0 T215.heap v1 := by rw [eq215]; exact f209
  have f222 : own_ok Z a0 T215.heap v2 := by rw [eq215]; exact f210
  have f223 : own_ok Z a0 T215.heap v3 := by rw [eq215]; exact f211
  have f224 : own_ok Z a0 T215.heap o0 := by rw [eq215]; exact f213
  obtain ⟨o1, ho1, k225⟩ : ∃ o1 : Addr, o1 = (own_p4 (((p1.toUInt32 >>> ((3 : Int32) &&& 31).toUInt32).toInt32) &&& (3 : Int32)) v0 v1 v2 v3) ∧ Kt p e below m (s₁.setTop (entryFrame m #[(.int p1), (.long q1), (.long q2), (.int p4), (.int p5)] maxLocals)) T215 89 #[.val (.int p1), .val (.long q1), .second, .val (.long q2), .second, .val (.int p4), .val (.int p5), .val (.ref v0), .val (.ref v1), .val (.ref v2), .val (.ref v3), .val (.ref o0), .unset, .unset, .unset, .unset, .unset, .unset, .unset] [(.ref o1)] := ⟨_, rfl, k215⟩
  have f226 : own_ok Z a0 T215.heap o1 := by rw [ho1]; exact own_p4All _ f218 f221 f222 f223
  have k227 : Kt p e below m (s₁.setTop (entryFrame m #[(.int p1), (.long q1), (.long q2), (.int p4), (.int p5)] maxLocals)) T215 102 #[.val (.int p1), .val (.long q1), .second, .val (.long q2), .second, .val (.int p4), .val (.int p5), .val (.ref v0), .val (.ref v1), .val (.ref v2), .val (.ref v3), .val (.ref o0), .val (.ref o1), .unset, .unset, .unset, .unset, .unset, .unset] [(.ref v3), (.ref v2), (.ref v1), (.ref v0), (.int ((p1.toUInt32 >>> ((5 : Int32) &&& 31).toUInt32).toInt32))] := by
    intro t ht
    refine k225 t ?_
    show Steps p.tables e below (T215.setTop (mkF m 89 #[.val (.int p1), .val (.long q1), .second, .val (.long q2), .second, .val (.int p4), .val (.int p5), .val (.ref v0), .val (.ref v1), .val (.ref v2), .val (.ref v3), .val (.ref o0), .unset, .unset, .unset, .unset, .unset, .unset, .unset] [(.ref o1)])) t
    refine XS.astore X215.here hx rfl (hb hby at_89) rfl rfl (l' := #[.val (.int p1), .val (.long q1), .second, .val (.long q2), .second, .val (.int p4), .val (.int p5), .val (.ref v0), .val (.ref v1), .val (.ref v2), .val (.ref v3), .val (.ref o0), .val (.ref o1), .unset, .unset, .unset, .unset, .unset, .unset]) rfl ?_
    show Steps p.tables e below (T215.setTop (mkF m 91 #[.val (.int p1), .val (.long q1), .second, .val (.long q2), .second, .val (.int p4), .val (.int p5), .val (.ref v0), .val (.ref v1), .val (.ref v2), .val (.ref v3), .val (.ref o0), .val (.ref o1), .unset, .unset, .unset, .unset, .unset, .unset] [])) t
    refine XS.iloadN X215.here hx rfl (hb hby at_91) rfl ?_
    show Steps p.tables e below (T215.setTop (mkF m 92 #[.val (.int p1), .val (.long q1), .second, .val (.long q2), .second, .val (.int p4), .val (.int p5), .val (.ref v0), .val (.ref v1), .val (.ref v2), .val (.ref v3), .val (.ref o0), .val (.ref o1), .unset, .unset, .unset, .unset, .unset, .unset] [(.int p1)])) t
    refine XS.iconst X215.here hx rfl (hb hby at_92) ?_
    show Steps p.tables e below (T215.setTop (mkF m 93 #[.val (.int p1), .val (.long q1), .second, .val (.long q2), .second, .val (.int p4), .val (.int p5), .val (.ref v0), .val (.ref v1), .val (.ref v2), .val (.ref v3), .val (.ref o0), .val (.ref o1), .unset, .unset, .unset, .unset, .unset, .unset] [(.int (5 : Int32)), (.int p1)])) t
    refine XS.iushr X215.here hx rfl (hb hby at_93) rfl ?_
    show Steps p.tables e below (T215.setTop (mkF m 94 #[.val (.int p1), .val (.long q1), .second, .val (.long q2), .second, .val (.int p4), .val (.int p5), .val (.ref v0), .val (.ref v1), .val (.ref v2), .val (.ref v3), .val (.ref o0), .val (.ref o1), .unset, .unset, .unset, .unset, .unset, .unset] [(.int ((p1.toUInt32 >>> ((5 : Int32) &&& 31).toUInt32).toInt32))])) t
    refine XS.aload X215.here hx rfl (hb hby at_94) rfl rfl ?_
    show Steps p.tables e below (T215.setTop (mkF m 96 #[.val (.int p1), .val (.long q1), .second, .val (.long q2), .second, .val (.int p4), .val (.int p5), .val (.ref v0), .val (.ref v1), .val (.ref v2), .val (.ref v3), .val (.ref o0), .val (.ref o1), .unset, .unset, .unset, .unset, .unset, .unset] [(.ref v0), (.int ((p1.toUInt32 >>> ((5 : Int32) &&& 31).toUInt32).toInt32))])) t
    refine XS.aload X215.here hx rfl (hb hby at_96) rfl rfl ?_
    show Steps p.tables e below (T215.setTop (mkF m 98 #[.val (.int p1), .val (.long q1), .second, .val (.long q2), .second, .val (.int p4), .val (.int p5), .val (.ref v0), .val (.ref v1), .val (.ref v2), .val (.ref v3), .val (.ref o0), .val (.ref o1), .unset, .unset, .unset, .unset, .unset, .unset] [(.ref v1), (.ref v0), (.int ((p1.toUInt32 >>> ((5 : Int32) &&& 31).toUInt32).toInt32))])) t
    refine XS.aload X215.here hx rfl (hb hby at_98) rfl rfl ?_
    show Steps p.tables e below (T215.setTop (mkF m 100 #[.val (.int p1), .val (.long q1), .second, .val (.long q2), .second, .val (.int p4), .val (.int p5), .val (.ref v0), .val (.ref v1), .val (.ref v2), .val (.ref v3), .val (.ref o0), .val (.ref o1), .unset, .unset, .unset, .unset, .unset, .unset] [(.ref v2), (.ref v1), (.ref v0), (.int ((p1.toUInt32 >>> ((5 : Int32) &&& 31).toUInt32).toInt32))])) t
    refine XS.aload X215.here hx rfl (hb hby at_100) rfl rfl ?_
    exact ht
  obtain ⟨_, _, ⟨T228, L228, c228, n228⟩, -, X228, ⟨Lc228, hQ228, l228, y228, z228⟩, st228⟩ := Jvm.LawKit.callS X215 hx (y := (⟨"com/example/tablepuffer/tablepuffer/TableShapeKeyPartsPinLaw", "pick", "(ILjava/lang/Object;Ljava/lang/Object;Ljava/lang/Object;Ljava/lang/Object;)Ljava/lang/Object;"⟩ : MethodName)) hown (mvT hZ (hw _ (List.mem_of_getElem? (i := 67) rfl))) (mvT hZ (hw _ (List.mem_of_getElem? (i := 68) rfl))) (mvT hZ (hw _ (List.mem_of_getElem? (i := 69) rfl))) (mvT hZ (hw _ (List.mem_of_getElem? (i := 70) rfl))) (by decide) (backOf (W := 0) (rm14 l Z a0 hw [] ((p1.toUInt32 >>> ((5 : Int32) &&& 31).toUInt32).toInt32) v0 v1 v2 v3 T215.heap n0 f216 ) hZ (hw _ (List.mem_of_getElem? (i := 70) rfl)) (hw _ (List.mem_of_getElem? (i := 69) rfl)) (by decide) (by decide)) (g := (mkF m 102 #[.val (.int p1), .val (.long q1), .second, .val (.long q2), .second, .val (.int p4), .val (.int p5), .val (.ref v0), .val (.ref v1), .val (.ref v2), .val (.ref v3), .val (.ref o0), .val (.ref o1), .unset, .unset, .unset, .unset, .unset, .unset] [(.ref v3), (.ref v2), (.ref v1), (.ref v0), (.int ((p1.toUInt32 >>> ((5 : Int32) &&& 31).toUInt32).toInt32))])) rfl (by rw [hml]; rfl) (argsL := [(.int ((p1.toUInt32 >>> ((5 : Int32) &&& 31).toUInt32).toInt32)), (.ref v0), (.ref v1), (.ref v2), (.ref v3)]) (rest := []) (lenOf pd_6 rfl) rfl (by show 2 * 0 + _ ≤ _; exact Nat.le_of_eq rfl) (hb hby at_102) (fun _ _ => ⟨rfl, rfl, (by decide : 7 + 0 ≤ _), (by decide : 15 + 0 ≤ _)⟩)
  dsimp only [Pt.U, Pt.locs, Pt.cells, Pt.slots] at X228 l228 y228 z228 st228 hQ228
  subst l228 y228 z228
  obtain ⟨rfl, Nq228, eq228⟩ := hQ228
  have N228 := Fr.app N215 Nq228
  have k228 : Kt p e below m (s₁.setTop (entryFrame m #[(.int p1), (.long q1), (.long q2), (.int p4), (.int p5)] maxLocals)) T228 105 #[.val (.int p1), .val (.long q1), .second, .val (.long q2), .second, .val (.int p4), .val (.int p5), .val (.ref v0), .val (.ref v1), .val (.ref v2), .val (.ref v3), .val (.ref o0), .val (.ref o1), .unset, .unset, .unset, .unset, .unset, .unset] [(.ref (own_p4 (((p1.toUInt32 >>> ((5 : Int32) &&& 31).toUInt32).toInt32) &&& (3 : Int32)) v0 v1 v2 v3))] := fun t ht => k227 t (st228 t ht)
  have f229 : n0 ≤ T228.heap.size := by rw [eq228]; exact f216
  have f230 : Old Z n0 T228.heap := by rw [eq228]; exact f217
  have f231 : own_ok Z a0 T228.heap v0 := by rw [eq228]; exact f218
  have f232 : Exa Z T228.heap v1 "java/lang/String" := by rw [eq228]; exact f219
  have f233 : Arv Z T228.heap ch ak149 .char (2 : Int32) [(.int (nar .char ((p4 &&& (255 : Int32)).toUInt32.toUInt16.toUInt32.toInt32))), (.int (nar .char ((((p4.toUInt32 >>> ((8 : Int32) &&& 31).toUInt32).toInt32) &&& (255 : Int32)).toUInt32.toUInt16.toUInt32.toInt32)))] (.int (0 : Int32)) := by rw [eq228]; exact f220
  have f234 : own_ok Z a0 T228.heap v1 := by rw [eq228]; exact f221
  have f235 : own_ok Z a0 T228.heap v2 := by rw [eq228]; exact f222
  have f236 : own_ok Z a0 T228.heap v3 := by rw [eq228]; exact f223
  have f237 : own_ok Z a0 T228.heap o0 := by rw [eq228]; exact f224
  have f238 : own_ok Z a0 T228.heap o1 := by rw [eq228]; exact f226
  obtain ⟨o2, ho2, k239⟩ : ∃ o2 : Addr, o2 = (own_p4 (((p1.toUInt32 >>> ((5 : Int32) &&& 31).toUInt32).toInt32) &&& (3 : Int32)) v0 v1 v2 v3) ∧ Kt p e below m (s₁.setTop (entryFrame m #[(.int p1), (.long q1), (.long q2), (.int p4), (.int p5)] maxLocals)) T228 105 #[.val (.int p1), .val (.long q1), .second, .val (.long q2), .second, .val (.int p4), .val (.int p5), .val (.ref v0), .val (.ref v1), .val (.ref v2), .val (.ref v3), .val (.ref o0), .val (.ref o1), .unset, .unset, .unset, .unset, .unset, .unset] [(.ref o2)] := ⟨_, rfl, k228⟩
  have f240 : own_ok Z a0 T228.heap o2 := by rw [ho2]; exact own_p4All _ f231 f234 f235 f236
  have k241 : Kt p e below m (s₁.setTop (entryFrame m #[(.int p1), (.long q1), (.long q2), (.int p4), (.int p5)] maxLocals)) T228 110 #[.val (.int p1), .val (.long q1), .second, .val (.long q2), .second, .val (.int p4), .val (.int p5), .val (.ref v0), .val (.ref v1), .val (.ref v2), .val (.ref v3), .val (.ref o0), .val (.ref o1), .val (.ref o2), .unset, .unset, .unset, .unset, .unset] [(.int (p1 &&& (1 : Int32)))] := by
    intro t ht
    refine k239 t ?_
    show Steps p.tables e below (T228.setTop (mkF m 105 #[.val (.int p1), .val (.long q1), .second, .val (.long q2), .second, .val (.int p4), .val (.int p5), .val (.ref v0), .val (.ref v1), .val (.ref v2), .val (.ref v3), .val (.ref o0), .val (.ref o1), .unset, .unset, .unset, .unset, .unset, .unset] [(.ref o2)])) t
    refine XS.astore X228.here hx rfl (hb hby at_105) rfl rfl (l' := #[.val (.int p1), .val (.long q1), .second, .val (.long q2), .second, .val (.int p4), .val (.int p5), .val (.ref v0), .val (.ref v1), .val (.ref v2), .val (.ref v3), .val (.ref o0), .val (.ref o1), .val (.ref o2), .unset, .unset, .unset, .unset, .unset]) rfl ?_
    show Steps p.tables e below (T228.setTop (mkF m 107 #[.val (.int p1), .val (.long q1), .second, .val (.long q2), .second, .val (.int p4), .val (.int p5), .val (.ref v0), .val (.ref v1), .val (.ref v2), .val (.ref v3), .val (.ref o0), .val (.ref o1), .val (.ref o2), .unset, .unset, .unset, .unset, .unset] [])) t
    refine XS.iloadN X228.here hx rfl (hb hby at_107) rfl ?_
    show Steps p.tables e below (T228.setTop (mkF m 108 #[.val (.int p1), .val (.long q1), .second, .val (.long q2), .second, .val (.int p4), .val (.int p5), .val (.ref v0), .val (.ref v1), .val (.ref v2), .val (.ref v3), .val (.ref o0), .val (.ref o1), .val (.ref o2), .unset, .unset, .unset, .unset, .unset] [(.int p1)])) t
    refine XS.iconst X228.here hx rfl (hb hby at_108) ?_
    show Steps p.tables e below (T228.setTop (mkF m 109 #[.val (.int p1), .val (.long q1), .second, .val (.long q2), .second, .val (.int p4), .val (.int p5), .val (.ref v0), .val (.ref v1), .val (.ref v2), .val (.ref v3), .val (.ref o0), .val (.ref o1), .val (.ref o2), .unset, .unset, .unset, .unset, .unset] [(.int (1 : Int32)), (.int p1)])) t
    refine XS.iand X228.here hx rfl (hb hby at_109) rfl ?_
    exact ht
  by_cases hs : (p1 &&& (1 : Int32)) = (0 : Int32)
  · have k242 : Kt p e below m (s₁.setTop (entryFrame m #[(.int p1), (.long q1), (.long q2), (.int p4), (.int p5)] maxLocals)) T228 115 #[.val (.int p1), .val (.long q1), .second, .val (.long q2), .second, .val (.int p4), .val (.int p5), .val (.ref v0), .val (.ref v1), .val (.ref v2), .val (.ref v3), .val (.ref o0), .val (.ref o1), .val (.ref o2), .unset, .unset, .unset, .unset, .unset] [(.ref o0)] := by
      intro t ht
      refine k241 t ?_
      show Steps p.tables e below (T228.setTop (mkF m 110 #[.val (.int p1), .val (.long q1), .second, .val (.long q2), .second, .val (.int p4), .val (.int p5), .val (.ref v0), .val (.ref v1), .val (.ref v2), .val (.ref v3), .val (.ref o0), .val (.ref o1), .val (.ref o2), .unset, .unset, .unset, .unset, .unset] [(.int (p1 &&& (1 : Int32)))])) t
      refine XS.ifNo X228.here hx rfl (hb hby at_110) rfl ((if0 _ _).trans (teq hs).2) ?_
      show Steps p.tables e below (T228.setTop (mkF m 113 #[.val (.int p1), .val (.long q1), .second, .val (.long q2), .second, .val (.int p4), .val (.int p5), .val (.ref v0), .val (.ref v1), .val (.ref v2), .val (.ref v3), .val (.ref o0), .val (.ref o1), .val (.ref o2), .unset, .unset, .unset, .unset, .unset] [])) t
      refine XS.aload X228.here hx rfl (hb hby at_113) rfl rfl ?_
      exact ht
    obtain ⟨K0', Ek, hno, hca⟩ := id f237
    obtain ⟨_, _, ⟨T243, L243, c243, n243⟩, -, X243, ⟨Lc243, hQ243, l243, y243, z243⟩, st243⟩ := Jvm.LawKit.callS X228 hx (y := (⟨"com/example/tablepuffer/tablepuffer/TableShape", "keyParts", "(Ljava/lang/Object;)[Ljava/lang/Object;"⟩ : MethodName)) hown (mvT hZ (hw _ (List.mem_of_getElem? (i := 71) rfl))) (mvT hZ (hw _ (List.mem_of_getElem? (i := 72) rfl))) (mvT hZ (hw _ (List.mem_of_getElem? (i := 73) rfl))) (mvT hZ (hw _ (List.mem_of_getElem? (i := 74) rfl))) (by decide) (backOf (W := 0) (rmkpN l Z a0 hw [] o0 K0' T228.heap n0 f229 Ek hno (Ins.of_exa Ek hca)) hZ (hw _ (List.mem_of_getElem? (i := 74) rfl)) (hw _ (List.mem_of_getElem? (i := 73) rfl)) (by decide) (by decide)) (g := (mkF m 115 #[.val (.int p1), .val (.long q1), .second, .val (.long q2), .second, .val (.int p4), .val (.int p5), .val (.ref v0), .val (.ref v1), .val (.ref v2), .val (.ref v3), .val (.ref o0), .val (.ref o1), .val (.ref o2), .unset, .unset, .unset, .unset, .unset] [(.ref o0)])) rfl (by rw [hml]; rfl) (argsL := [(.ref o0)]) (rest := []) (lenOf pd_9 rfl) rfl (by show 2 * 0 + _ ≤ _; exact Nat.le_of_eq rfl) (hb hby at_115) (fun _ _ => ⟨rfl, rfl, (by decide : 7 + 1 ≤ _), (by decide : 15 + 1 ≤ _)⟩)
    dsimp only [Pt.U, Pt.locs, Pt.cells, Pt.slots] at X243 l243 y243 z243 st243 hQ243
    subst l243 y243 z243
    obtain ⟨rr, kr, rfl, Nq243, Kp243, Vr243⟩ := hQ243
    have N243 := Fr.app N228 Nq243
    have k243 : Kt p e below m (s₁.setTop (entryFrame m #[(.int p1), (.long q1), (.long q2), (.int p4), (.int p5)] maxLocals)) T243 118 #[.val (.int p1), .val (.long q1), .second, .val (.long q2), .second, .val (.int p4), .val (.int p5), .val (.ref v0), .val (.ref v1), .val (.ref v2), .val (.ref v3), .val (.ref o0), .val (.ref o1), .val (.ref o2), .unset, .unset, .unset, .unset, .unset] [(.ref rr)] := fun t ht => k242 t (st243 t ht)
    have f244 : n0 ≤ T243.heap.size := Nat.le_trans f229 Kp243.1
    have f245 : Old Z n0 T243.heap := f230.keep Kp243 all0
    have f246 : own_ok Z a0 T243.heap o0 := f237.keep Kp243
    have f247 : own_ok Z a0 T243.heap o1 := f238.keep Kp243
    have f248 : own_ok Z a0 T243.heap o2 := f240.keep Kp243
    have k249 : Kt p e below m (s₁.setTop (entryFrame m #[(.int p1), (.long q1), (.long q2), (.int p4), (.int p5)] maxLocals)) T243 122 #[.val (.int p1), .val (.long q1), .second, .val (.long q2), .second, .val (.int p4), .val (.int p5), .val (.ref v0), .val (.ref v1), .val (.ref v2), .val (.ref v3), .val (.ref o0), .val (.ref o1), .val (.ref o2), .val (.ref rr), .unset, .unset, .unset, .unset] [(.ref rr)] := by
      intro t ht
      refine k243 t ?_
      show Steps p.tables e below (T243.setTop (mkF m 118 #[.val (.int p1), .val (.long q1), .second, .val (.long q2), .second, .val (.int p4), .val (.int p5), .val (.ref v0), .val (.ref v1), .val (.ref v2), .val (.ref v3), .val (.ref o0), .val (.ref o1), .val (.ref o2), .unset, .unset, .unset, .unset, .unset] [(.ref rr)])) t
      refine XS.astore X243.here hx rfl (hb hby at_118) rfl rfl (l' := #[.val (.int p1), .val (.long q1), .second, .val (.long q2), .second, .val (.int p4), .val (.int p5), .val (.ref v0), .val (.ref v1), .val (.ref v2), .val (.ref v3), .val (.ref o0), .val (.ref o1), .val (.ref o2), .val (.ref rr), .unset, .unset, .unset, .unset]) rfl ?_
      show Steps p.tables e below (T243.setTop (mkF m 120 #[.val (.int p1), .val (.long q1), .second, .val (.long q2), .second, .val (.int p4), .val (.int p5), .val (.ref v0), .val (.ref v1), .val (.ref v2), .val (.ref v3), .val (.ref o0), .val (.ref o1), .val (.ref o2), .val (.ref rr), .unset, .unset, .unset, .unset] [])) t
      refine XS.aload X243.here hx rfl (hb hby at_120) rfl rfl ?_
      exact ht
    obtain ⟨cl250, Ar250, qc250, Sz250, Nn250, Hh250, Gg250⟩ := id Vr243
    have k251 : Kt p e below m (s₁.setTop (entryFrame m #[(.int p1), (.long q1), (.long q2), (.int p4), (.int p5)] maxLocals)) T243 130 #[.val (.int p1), .val (.long q1), .second, .val (.long q2), .second, .val (.int p4), .val (.int p5), .val (.ref v0), .val (.ref v1), .val (.ref v2), .val (.ref v3), .val (.ref o0), .val (.ref o1), .val (.ref o2), .val (.ref rr), .unset, .unset, .unset, .unset] [(.int (0 : Int32)), (.ref rr)] := by
      intro t ht
      refine k249 t ?_
      show Steps p.tables e below (T243.setTop (mkF m 122 #[.val (.int p1), .val (.long q1), .second, .val (.long q2), .second, .val (.int p4), .val (.int p5), .val (.ref v0), .val (.ref v1), .val (.ref v2), .val (.ref v3), .val (.ref o0), .val (.ref o1), .val (.ref o2), .val (.ref rr), .unset, .unset, .unset, .unset] [(.ref rr)])) t
      refine X243.arraylength hx Ar250.1 (State.isArrayOf_alike hZ.alike Ar250.2.1) (g := (mkF m 122 #[.val (.int p1), .val (.long q1), .second, .val (.long q2), .second, .val (.int p4), .val (.int p5), .val (.ref v0), .val (.ref v1), .val (.ref v2), .val (.ref v3), .val (.ref o0), .val (.ref o1), .val (.ref o2), .val (.ref rr), .unset, .unset, .unset, .unset] [(.ref rr)])) rfl rfl (hb hby at_122) _ ?_
      rw [len_of Sz250 Nn250]
      show Steps p.tables e below (T243.setTop (mkF m 123 #[.val (.int p1), .val (.long q1), .second, .val (.long q2), .second, .val (.int p4), .val (.int p5), .val (.ref v0), .val (.ref v1), .val (.ref v2), .val (.ref v3), .val (.ref o0), .val (.ref o1), .val (.ref o2), .val (.ref rr), .unset, .unset, .unset, .unset] [(.int (1 : Int32))])) t
      refine XS.iconst X243.here hx rfl (hb hby at_123) ?_
      show Steps p.tables e below (T243.setTop (mkF m 124 #[.val (.int p1), .val (.long q1), .second, .val (.long q2), .second, .val (.int p4), .val (.int p5), .val (.ref v0), .val (.ref v1), .val (.ref v2), .val (.ref v3), .val (.ref o0), .val (.ref o1), .val (.ref o2), .val (.ref rr), .unset, .unset, .unset, .unset] [(.int (1 : Int32)), (.int (1 : Int32))])) t
      refine XS.icmpNo X243.here hx rfl (hb hby at_124) rfl (teq rfl).2 ?_
      show Steps p.tables e below (T243.setTop (mkF m 127 #[.val (.int p1), .val (.long q1), .second, .val (.long q2), .second, .val (.int p4), .val (.int p5), .val (.ref v0), .val (.ref v1), .val (.ref v2), .val (.ref v3), .val (.ref o0), .val (.ref o1), .val (.ref o2), .val (.ref rr), .unset, .unset, .unset, .unset] [])) t
      refine XS.aload X243.here hx rfl (hb hby at_127) rfl rfl ?_
      show Steps p.tables e below (T243.setTop (mkF m 129 #[.val (.int p1), .val (.long q1), .second, .val (.long q2), .second, .val (.int p4), .val (.int p5), .val (.ref v0), .val (.ref v1), .val (.ref v2), .val (.ref v3), .val (.ref o0), .val (.ref o1), .val (.ref o2), .val (.ref rr), .unset, .unset, .unset, .unset] [(.ref rr)])) t
      refine XS.iconst X243.here hx rfl (hb hby at_129) ?_
      exact ht
    obtain ⟨cl252, Ar252, qc252, Sz252, Nn252, Hh252, Gg252⟩ := id Vr243
    have hin252 : ¬ ((0 : Int32) < 0 ∨ cl252.slots.size ≤ ((0 : Int32)).toNatClampNeg) := inb_of Sz252 ⟨by decide, by decide⟩
    have hat252 : cl252.slots[((0 : Int32)).toNatClampNeg]? = some (.ref o0) := Hh252.at hin252 rfl
    have k253 : Kt p e below m (s₁.setTop (entryFrame m #[(.int p1), (.long q1), (.long q2), (.int p4), (.int p5)] maxLocals)) T243 141 #[.val (.int p1), .val (.long q1), .second, .val (.long q2), .second, .val (.int p4), .val (.int p5), .val (.ref v0), .val (.ref v1), .val (.ref v2), .val (.ref v3), .val (.ref o0), .val (.ref o1), .val (.ref o2), .val (.ref rr), .unset, .unset, .unset, .unset] [(.int (1 : Int32))] := by
      intro t ht
      refine k251 t ?_
      show Steps p.tables e below (T243.setTop (mkF m 130 #[.val (.int p1), .val (.long q1), .second, .val (.long q2), .second, .val (.int p4), .val (.int p5), .val (.ref v0), .val (.ref v1), .val (.ref v2), .val (.ref v3), .val (.ref o0), .val (.ref o1), .val (.ref o2), .val (.ref rr), .unset, .unset, .unset, .unset] [(.int (0 : Int32)), (.ref rr)])) t
      refine X243.aaload hx (j := (0 : Int32)) (v := (.ref o0)) Ar252.1 (State.isArrayOf_alike hZ.alike Ar252.2.1) rfl Ar252.2.2 hin252 hat252 (g := (mkF m 130 #[.val (.int p1), .val (.long q1), .second, .val (.long q2), .second, .val (.int p4), .val (.int p5), .val (.ref v0), .val (.ref v1), .val (.ref v2), .val (.ref v3), .val (.ref o0), .val (.ref o1), .val (.ref o2), .val (.ref rr), .unset, .unset, .unset, .unset] [(.int (0 : Int32)), (.ref rr)])) rfl rfl (hb hby at_130) _ ?_
      show Steps p.tables e below (T243.setTop (mkF m 131 #[.val (.int p1), .val (.long q1), .second, .val (.long q2), .second, .val (.int p4), .val (.int p5), .val (.ref v0), .val (.ref v1), .val (.ref v2), .val (.ref v3), .val (.ref o0), .val (.ref o1), .val (.ref o2), .val (.ref rr), .unset, .unset, .unset, .unset] [(.ref o0)])) t
      refine XS.aload X243.here hx rfl (hb hby at_131) rfl rfl ?_
      show Steps p.tables e below (T243.setTop (mkF m 133 #[.val (.int p1), .val (.long q1), .second, .val (.long q2), .second, .val (.int p4), .val (.int p5), .val (.ref v0), .val (.ref v1), .val (.ref v2), .val (.ref v3), .val (.ref o0), .val (.ref o1), .val (.ref o2), .val (.ref rr), .unset, .unset, .unset, .unset] [(.ref o0), (.ref o0)])) t
      refine Jvm.RoadKit.acmp (g := (mkF m 133 #[.val (.int p1), .val (.long q1), .second, .val (.long q2), .second, .val (.int p4), .val (.int p5), .val (.ref v0), .val (.ref v1), .val (.ref v2), .val (.ref v3), .val (.ref o0), .val (.ref o1), .val (.ref o2), .val (.ref rr), .unset, .unset, .unset, .unset] [(.ref o0), (.ref o0)])) X243 hx rfl rfl rfl (pc0 := 133) (pc' := 136) (same := true) rfl (hb hby at_133) rfl (decide_eq_true rfl) (by decide) (by decide) ?_
      show Steps p.tables e below (T243.setTop (mkF m 136 #[.val (.int p1), .val (.long q1), .second, .val (.long q2), .second, .val (.int p4), .val (.int p5), .val (.ref v0), .val (.ref v1), .val (.ref v2), .val (.ref v3), .val (.ref o0), .val (.ref o1), .val (.ref o2), .val (.ref rr), .unset, .unset, .unset, .unset] [])) t
      refine XS.iconst X243.here hx rfl (hb hby at_136) ?_
      show Steps p.tables e below (T243.setTop (mkF m 137 #[.val (.int p1), .val (.long q1), .second, .val (.long q2), .second, .val (.int p4), .val (.int p5), .val (.ref v0), .val (.ref v1), .val (.ref v2), .val (.ref v3), .val (.ref o0), .val (.ref o1), .val (.ref o2), .val (.ref rr), .unset, .unset, .unset, .unset] [(.int (1 : Int32))])) t
      refine XS.goto X243.here hx rfl (pc0 := 137) (pc' := 141) rfl (hb hby at_137) (by decide) (by decide) ?_
      exact ht
    obtain ⟨fs, hr, hrun, hended, hW, hsame⟩ := X243.leave (v := some (.int (1 : Int32))) (fun h => by rw [Bd.returns] at h; cases h)
    refine ⟨_, _, k253 _ ?_, hrun, hended, _, _, rfl, ?_, ⟨_, rfl⟩, hW, hsame.mono (by decide) (by decide)⟩
    · exact retN X243 hx (t := .boolean) Bd.returns (by simp) (hb hby at_141) hr
    · show Q0 Z p1 q1 q2 p4 p5 G1 ca cc va h0 n0 _ T243.heap _
      exact ⟨rfl, N243⟩
  · have hn3 := own_n3 ((p1.toUInt32 >>> ((7 : Int32) &&& 31).toUInt32).toInt32)
    have k254 : Kt p e below m (s₁.setTop (entryFrame m #[(.int p1), (.long q1), (.long q2), (.int p4), (.int p5)] maxLocals)) T228 152 #[.val (.int p1), .val (.long q1), .second, .val (.long q2), .second, .val (.int p4), .val (.int p5), .val (.ref v0), .val (.ref v1), .val (.ref v2), .val (.ref v3), .val (.ref o0), .val (.ref o1), .val (.ref o2), .unset, .unset, .unset, .unset, .unset] [(.int ((1 : Int32) + ((((p1.toUInt32 >>> ((7 : Int32) &&& 31).toUInt32).toInt32) &&& (3 : Int32)) % (3 : Int32))))] := by
      intro t ht
      refine k241 t ?_
      show Steps p.tables e below (T228.setTop (mkF m 110 #[.val (.int p1), .val (.long q1), .second, .val (.long q2), .second, .val (.int p4), .val (.int p5), .val (.ref v0), .val (.ref v1), .val (.ref v2), .val (.ref v3), .val (.ref o0), .val (.ref o1), .val (.ref o2), .unset, .unset, .unset, .unset, .unset] [(.int (p1 &&& (1 : Int32)))])) t
      refine XS.ifYes X228.here hx rfl (pc0 := 110) (pc' := 142) rfl (hb hby at_110) rfl ((if0 _ _).trans (feq hs).2) (by decide) (by decide) ?_
      show Steps p.tables e below (T228.setTop (mkF m 142 #[.val (.int p1), .val (.long q1), .second, .val (.long q2), .second, .val (.int p4), .val (.int p5), .val (.ref v0), .val (.ref v1), .val (.ref v2), .val (.ref v3), .val (.ref o0), .val (.ref o1), .val (.ref o2), .unset, .unset, .unset, .unset, .unset] [])) t
      refine XS.iconst X228.here hx rfl (hb hby at_142) ?_
      show Steps p.tables e below (T228.setTop (mkF m 143 #[.val (.int p1), .val (.long q1), .second, .val (.long q2), .second, .val (.int p4), .val (.int p5), .val (.ref v0), .val (.ref v1), .val (.ref v2), .val (.ref v3), .val (.ref o0), .val (.ref o1), .val (.ref o2), .unset, .unset, .unset, .unset, .unset] [(.int (1 : Int32))])) t
      refine XS.iloadN X228.here hx rfl (hb hby at_143) rfl ?_
      show Steps p.tables e below (T228.setTop (mkF m 144 #[.val (.int p1), .val (.long q1), .second, .val (.long q2), .second, .val (.int p4), .val (.int p5), .val (.ref v0), .val (.ref v1), .val (.ref v2), .val (.ref v3), .val (.ref o0), .val (.ref o1), .val (.ref o2), .unset, .unset, .unset, .unset, .unset] [(.int p1), (.int (1 : Int32))])) t
      refine XS.bipush X228.here hx rfl (hb hby at_144) ?_
      show Steps p.tables e below (T228.setTop (mkF m 146 #[.val (.int p1), .val (.long q1), .second, .val (.long q2), .second, .val (.int p4), .val (.int p5), .val (.ref v0), .val (.ref v1), .val (.ref v2), .val (.ref v3), .val (.ref o0), .val (.ref o1), .val (.ref o2), .unset, .unset, .unset, .unset, .unset] [(.int (7 : Int32)), (.int p1), (.int (1 : Int32))])) t
      refine XS.iushr X228.here hx rfl (hb hby at_146) rfl ?_
      show Steps p.tables e below (T228.setTop (mkF m 147 #[.val (.int p1), .val (.long q1), .second, .val (.long q2), .second, .val (.int p4), .val (.int p5), .val (.ref v0), .val (.ref v1), .val (.ref v2), .val (.ref v3), .val (.ref o0), .val (.ref o1), .val (.ref o2), .unset, .unset, .unset, .unset, .unset] [(.int ((p1.toUInt32 >>> ((7 : Int32) &&& 31).toUInt32).toInt32)), (.int (1 : Int32))])) t
      refine XS.iconst X228.here hx rfl (hb hby at_147) ?_
      show Steps p.tables e below (T228.setTop (mkF m 148 #[.val (.int p1), .val (.long q1), .second, .val (.long q2), .second, .val (.int p4), .val (.int p5), .val (.ref v0), .val (.ref v1), .val (.ref v2), .val (.ref v3), .val (.ref o0), .val (.ref o1), .val (.ref o2), .unset, .unset, .unset, .unset, .unset] [(.int (3 : Int32)), (.int ((p1.toUInt32 >>> ((7 : Int32) &&& 31).toUInt32).toInt32)), (.int (1 : Int32))])) t
      refine XS.iand X228.here hx rfl (hb hby at_148) rfl ?_
      show Steps p.tables e below (T228.setTop (mkF m 149 #[.val (.int p1), .val (.long q1), .second, .val (.long q2), .second, .val (.int p4), .val (.int p5), .val (.ref v0), .val (.ref v1), .val (.ref v2), .val (.ref v3), .val (.ref o0), .val (.ref o1), .val (.ref o2), .unset, .unset, .unset, .unset, .unset] [(.int (((p1.toUInt32 >>> ((7 : Int32) &&& 31).toUInt32).toInt32) &&& (3 : Int32))), (.int (1 : Int32))])) t
      refine XS.iconst X228.here hx rfl (hb hby at_149) ?_
      show Steps p.tables e below (T228.setTop (mkF m 150 #[.val (.int p1), .val (.long q1), .second, .val (.long q2), .second, .val (.int p4), .val (.int p5), .val (.ref v0), .val (.ref v1), .val (.ref v2), .val (.ref v3), .val (.ref o0), .val (.ref o1), .val (.ref o2), .unset, .unset, .unset, .unset, .unset] [(.int (3 : Int32)), (.int (((p1.toUInt32 >>> ((7 : Int32) &&& 31).toUInt32).toInt32) &&& (3 : Int32))), (.int (1 : Int32))])) t
      refine iremM X228 hx rfl (hb hby at_150) rfl (by decide) ?_
      show Steps p.tables e below (T228.setTop (mkF m 151 #[.val (.int p1), .val (.long q1), .second, .val (.long q2), .second, .val (.int p4), .val (.int p5), .val (.ref v0), .val (.ref v1), .val (.ref v2), .val (.ref v3), .val (.ref o0), .val (.ref o1), .val (.ref o2), .unset, .unset, .unset, .unset, .unset] [(.int ((((p1.toUInt32 >>> ((7 : Int32) &&& 31).toUInt32).toInt32) &&& (3 : Int32)) % (3 : Int32))), (.int (1 : Int32))])) t
      refine XS.iadd X228.here hx rfl (hb hby at_151) rfl ?_
      exact ht
    obtain ⟨nn, hnn, k255⟩ : ∃ nn : Int32, nn = ((1 : Int32) + ((((p1.toUInt32 >>> ((7 : Int32) &&& 31).toUInt32).toInt32) &&& (3 : Int32)) % (3 : Int32))) ∧ Kt p e below m (s₁.setTop (entryFrame m #[(.int p1), (.long q1), (.long q2), (.int p4), (.int p5)] maxLocals)) T228 152 #[.val (.int p1), .val (.long q1), .second, .val (.long q2), .second, .val (.int p4), .val (.int p5), .val (.ref v0), .val (.ref v1), .val (.ref v2), .val (.ref v3), .val (.ref o0), .val (.ref o1), .val (.ref o2), .unset, .unset, .unset, .unset, .unset] [(.int nn)] := ⟨_, rfl, k254⟩
    rw [← hnn] at hn3
    have k256 : Kt p e below m (s₁.setTop (entryFrame m #[(.int p1), (.long q1), (.long q2), (.int p4), (.int p5)] maxLocals)) T228 156 #[.val (.int p1), .val (.long q1), .second, .val (.long q2), .second, .val (.int p4), .val (.int p5), .val (.ref v0), .val (.ref v1), .val (.ref v2), .val (.ref v3), .val (.ref o0), .val (.ref o1), .val (.ref o2), .val (.int nn), .unset, .unset, .unset, .unset] [(.int nn)] := by
      intro t ht
      refine k255 t ?_
      show Steps p.tables e below (T228.setTop (mkF m 152 #[.val (.int p1), .val (.long q1), .second, .val (.long q2), .second, .val (.int p4), .val (.int p5), .val (.ref v0), .val (.ref v1), .val (.ref v2), .val (.ref v3), .val (.ref o0), .val (.ref o1), .val (.ref o2), .unset, .unset, .unset, .unset, .unset] [(.int nn)])) t
      refine XS.istore X228.here hx rfl (hb hby at_152) rfl (l' := #[.val (.int p1), .val (.long q1), .second, .val (.long q2), .second, .val (.int p4), .val (.int p5), .val (.ref v0), .val (.ref v1), .val (.ref v2), .val (.ref v3), .val (.ref o0), .val (.ref o1), .val (.ref o2), .val (.int nn), .unset, .unset, .unset, .unset]) rfl ?_
      show Steps p.tables e below (T228.setTop (mkF m 154 #[.val (.int p1), .val (.long q1), .second, .val (.long q2), .second, .val (.int p4), .val (.int p5), .val (.ref v0), .val (.ref v1), .val (.ref v2), .val (.ref v3), .val (.ref o0), .val (.ref o1), .val (.ref o2), .val (.int nn), .unset, .unset, .unset, .unset] [])) t
      refine XS.iload X228.here hx rfl (hb hby at_154) rfl ?_
      exact ht
    rcases hn3 with hN | hN | hN
    · rw [hN] at k256
      obtain ⟨T257, h257, ak257, X257, e257, E257, A257, Ax257, O257, st257⟩ := newRE X228 hx hZ hown (hw _ (List.mem_of_getElem? (i := 82) rfl)) (hw _ (List.mem_of_getElem? (i := 80) rfl)) rfl (g := (mkF m 156 #[.val (.int p1), .val (.long q1), .second, .val (.long q2), .second, .val (.int p4), .val (.int p5), .val (.ref v0), .val (.ref v1), .val (.ref v2), .val (.ref v3), .val (.ref o0), .val (.ref o1), .val (.ref o2), .val (.int (1 : Int32)), .unset, .unset, .unset, .unset] [(.int (1 : Int32))])) rfl (hb hby at_156) rfl (by decide) (cap := 1) (by decide) (by decide) (by decide) (by decide) (ad := "[Ljava/lang/Object;") (by decide)
      obtain ⟨pa, q257⟩ : ∃ z, z = T228.heap.size := ⟨_, rfl⟩
      have ne_o0_pa : o0 ≠ pa := by rw [q257]; exact Nat.ne_of_lt f237.lt
      have ne_o1_pa : o1 ≠ pa := by rw [q257]; exact Nat.ne_of_lt f238.lt
      have ne_o2_pa : o2 ≠ pa := by rw [q257]; exact Nat.ne_of_lt f240.lt
      have g_pa : n0 ≤ pa := by rw [q257]; exact f229
      rw [← q257] at A257 st257 Ax257
      have f258 : n0 ≤ h257.size := Nat.le_trans f229 E257.1
      have f259 : Old Z n0 h257 := f230.ext E257
      have f260 : own_ok Z a0 h257 o0 := f237.ext E257
      have f261 : own_ok Z a0 h257 o1 := f238.ext E257
      have f262 : own_ok Z a0 h257 o2 := f240.ext E257
      have f257 : Arv Z h257 pa ak257 (.object "java/lang/Object") (1 : Int32) [.null] .null := (Arv.new A257 (by decide)).pad (pad_rep [] .null 1)
      have k257 : Kt p e below m (s₁.setTop (entryFrame m #[(.int p1), (.long q1), (.long q2), (.int p4), (.int p5)] maxLocals)) T257 159 #[.val (.int p1), .val (.long q1), .second, .val (.long q2), .second, .val (.int p4), .val (.int p5), .val (.ref v0), .val (.ref v1), .val (.ref v2), .val (.ref v3), .val (.ref o0), .val (.ref o1), .val (.ref o2), .val (.int (1 : Int32)), .unset, .unset, .unset, .unset] [(.ref pa)] := fun t ht => k256 t (st257 t ht)
      have k263 : Kt p e below m (s₁.setTop (entryFrame m #[(.int p1), (.long q1), (.long q2), (.int p4), (.int p5)] maxLocals)) T257 166 #[.val (.int p1), .val (.long q1), .second, .val (.long q2), .second, .val (.int p4), .val (.int p5), .val (.ref v0), .val (.ref v1), .val (.ref v2), .val (.ref v3), .val (.ref o0), .val (.ref o1), .val (.ref o2), .val (.int (1 : Int32)), .val (.ref pa), .unset, .unset, .unset] [(.ref o0), (.int (0 : Int32)), (.ref pa)] := by
        intro t ht
        refine k257 t ?_
        show Steps p.tables e below (T257.setTop (mkF m 159 #[.val (.int p1), .val (.long q1), .second, .val (.long q2), .second, .val (.int p4), .val (.int p5), .val (.ref v0), .val (.ref v1), .val (.ref v2), .val (.ref v3), .val (.ref o0), .val (.ref o1), .val (.ref o2), .val (.int (1 : Int32)), .unset, .unset, .unset, .unset] [(.ref pa)])) t
        refine XS.astore X257.here hx rfl (hb hby at_159) rfl rfl (l' := #[.val (.int p1), .val (.long q1), .second, .val (.long q2), .second, .val (.int p4), .val (.int p5), .val (.ref v0), .val (.ref v1), .val (.ref v2), .val (.ref v3), .val (.ref o0), .val (.ref o1), .val (.ref o2), .val (.int (1 : Int32)), .val (.ref pa), .unset, .unset, .unset]) rfl ?_
        show Steps p.tables e below (T257.setTop (mkF m 161 #[.val (.int p1), .val (.long q1), .second, .val (.long q2), .second, .val (.int p4), .val (.int p5), .val (.ref v0), .val (.ref v1), .val (.ref v2), .val (.ref v3), .val (.ref o0), .val (.ref o1), .val (.ref o2), .val (.int (1 : Int32)), .val (.ref pa), .unset, .unset, .unset] [])) t
        refine XS.aload X257.here hx rfl (hb hby at_161) rfl rfl ?_
        show Steps p.tables e below (T257.setTop (mkF m 163 #[.val (.int p1), .val (.long q1), .second, .val (.long q2), .second, .val (.int p4), .val (.int p5), .val (.ref v0), .val (.ref v1), .val (.ref v2), .val (.ref v3), .val (.ref o0), .val (.ref o1), .val (.ref o2), .val (.int (1 : Int32)), .val (.ref pa), .unset, .unset, .unset] [(.ref pa)])) t
        refine XS.iconst X257.here hx rfl (hb hby at_163) ?_
        show Steps p.tables e below (T257.setTop (mkF m 164 #[.val (.int p1), .val (.long q1), .second, .val (.long q2), .second, .val (.int p4), .val (.int p5), .val (.ref v0), .val (.ref v1), .val (.ref v2), .val (.ref v3), .val (.ref o0), .val (.ref o1), .val (.ref o2), .val (.int (1 : Int32)), .val (.ref pa), .unset, .unset, .unset] [(.int (0 : Int32)), (.ref pa)])) t
        refine XS.aload X257.here hx rfl (hb hby at_164) rfl rfl ?_
        exact ht
      obtain ⟨cl264, Ar264, qc264, Sz264, Nn264, Hh264, Gg264⟩ := id f257
      have hin264 : ¬ ((0 : Int32) < 0 ∨ cl264.slots.size ≤ ((0 : Int32)).toNatClampNeg) := inb_of Sz264 ⟨by decide, by decide⟩
      obtain ⟨T264, h264, X264, e264, W264, st264⟩ := stR X257 hx hZ e257 Ar264 (j := (0 : Int32)) hin264 rfl (Sto.ofV Ar264 qc264 O257 (f260).ins) (g := (mkF m 166 #[.val (.int p1), .val (.long q1), .second, .val (.long q2), .second, .val (.int p4), .val (.int p5), .val (.ref v0), .val (.ref v1), .val (.ref v2), .val (.ref v3), .val (.ref o0), .val (.ref o1), .val (.ref o2), .val (.int (1 : Int32)), .val (.ref pa), .unset, .unset, .unset] [(.ref o0), (.int (0 : Int32)), (.ref pa)])) rfl rfl (hb hby at_166)
      have N264 := Fr.snoc X264 N228 g_pa
      have f265 : n0 ≤ h264.size := Nat.le_trans f258 (Keep.of_wr W264).1
      have f266 : Old Z n0 h264 := f259.wr W264 g_pa
      have f267 : own_ok Z a0 h264 o0 := f260.wr W264
      have f268 : own_ok Z a0 h264 o1 := f261.wr W264
      have f269 : own_ok Z a0 h264 o2 := f262.wr W264
      have f270 : Exa Z h264 pa "[Ljava/lang/Object;" := Ax257.wr W264
      have f271 : Arv Z h264 pa ak257 (.object "java/lang/Object") (1 : Int32) [(.ref o0)] .null := Arv.set Ar264 qc264 Sz264 Nn264 Hh264 Gg264 rfl W264 0 rfl (Nat.le_of_ble_eq_true rfl)
      have k264 : Kt p e below m (s₁.setTop (entryFrame m #[(.int p1), (.long q1), (.long q2), (.int p4), (.int p5)] maxLocals)) T264 167 #[.val (.int p1), .val (.long q1), .second, .val (.long q2), .second, .val (.int p4), .val (.int p5), .val (.ref v0), .val (.ref v1), .val (.ref v2), .val (.ref v3), .val (.ref o0), .val (.ref o1), .val (.ref o2), .val (.int (1 : Int32)), .val (.ref pa), .unset, .unset, .unset] [] := fun t ht => k263 t (st264 t ht)
      have k272 : Kt p e below m (s₁.setTop (entryFrame m #[(.int p1), (.long q1), (.long q2), (.int p4), (.int p5)] maxLocals)) T264 191 #[.val (.int p1), .val (.long q1), .second, .val (.long q2), .second, .val (.int p4), .val (.int p5), .val (.ref v0), .val (.ref v1), .val (.ref v2), .val (.ref v3), .val (.ref o0), .val (.ref o1), .val (.ref o2), .val (.int (1 : Int32)), .val (.ref pa), .unset, .unset, .unset] [] := by
        intro t ht
        refine k264 t ?_
        show Steps p.tables e below (T264.setTop (mkF m 167 #[.val (.int p1), .val (.long q1), .second, .val (.long q2), .second, .val (.int p4), .val (.int p5), .val (.ref v0), .val (.ref v1), .val (.ref v2), .val (.ref v3), .val (.ref o0), .val (.ref o1), .val (.ref o2), .val (.int (1 : Int32)), .val (.ref pa), .unset, .unset, .unset] [])) t
        refine XS.iload X264.here hx rfl (hb hby at_167) rfl ?_
        show Steps p.tables e below (T264.setTop (mkF m 169 #[.val (.int p1), .val (.long q1), .second, .val (.long q2), .second, .val (.int p4), .val (.int p5), .val (.ref v0), .val (.ref v1), .val (.ref v2), .val (.ref v3), .val (.ref o0), .val (.ref o1), .val (.ref o2), .val (.int (1 : Int32)), .val (.ref pa), .unset, .unset, .unset] [(.int (1 : Int32))])) t
        refine XS.iconst X264.here hx rfl (hb hby at_169) ?_
        show Steps p.tables e below (T264.setTop (mkF m 170 #[.val (.int p1), .val (.long q1), .second, .val (.long q2), .second, .val (.int p4), .val (.int p5), .val (.ref v0), .val (.ref v1), .val (.ref v2), .val (.ref v3), .val (.ref o0), .val (.ref o1), .val (.ref o2), .val (.int (1 : Int32)), .val (.ref pa), .unset, .unset, .unset] [(.int (1 : Int32)), (.int (1 : Int32))])) t
        refine XS.icmpYes X264.here hx rfl (pc0 := 170) (pc' := 179) rfl (hb hby at_170) rfl (flt (by decide)).2.2.2 (by decide) (by decide) ?_
        show Steps p.tables e below (T264.setTop (mkF m 179 #[.val (.int p1), .val (.long q1), .second, .val (.long q2), .second, .val (.int p4), .val (.int p5), .val (.ref v0), .val (.ref v1), .val (.ref v2), .val (.ref v3), .val (.ref o0), .val (.ref o1), .val (.ref o2), .val (.int (1 : Int32)), .val (.ref pa), .unset, .unset, .unset] [])) t
        refine XS.iload X264.here hx rfl (hb hby at_179) rfl ?_
        show Steps p.tables e below (T264.setTop (mkF m 181 #[.val (.int p1), .val (.long q1), .second, .val (.long q2), .second, .val (.int p4), .val (.int p5), .val (.ref v0), .val (.ref v1), .val (.ref v2), .val (.ref v3), .val (.ref o0), .val (.ref o1), .val (.ref o2), .val (.int (1 : Int32)), .val (.ref pa), .unset, .unset, .unset] [(.int (1 : Int32))])) t
        refine XS.iconst X264.here hx rfl (hb hby at_181) ?_
        show Steps p.tables e below (T264.setTop (mkF m 182 #[.val (.int p1), .val (.long q1), .second, .val (.long q2), .second, .val (.int p4), .val (.int p5), .val (.ref v0), .val (.ref v1), .val (.ref v2), .val (.ref v3), .val (.ref o0), .val (.ref o1), .val (.ref o2), .val (.int (1 : Int32)), .val (.ref pa), .unset, .unset, .unset] [(.int (2 : Int32)), (.int (1 : Int32))])) t
        refine XS.icmpYes X264.here hx rfl (pc0 := 182) (pc' := 191) rfl (hb hby at_182) rfl (flt (by decide)).2.2.2 (by decide) (by decide) ?_
        exact ht
      obtain ⟨T273, h273, X273, e273, E273, A273, D273, -, st273⟩ := newO X264 hx hZ hown (hw _ (List.mem_of_getElem? (i := 84) rfl)) (hw _ (List.mem_of_getElem? (i := 85) rfl)) (hw _ (List.mem_of_getElem? (i := 86) rfl)) e264 (g := (mkF m 191 #[.val (.int p1), .val (.long q1), .second, .val (.long q2), .second, .val (.int p4), .val (.int p5), .val (.ref v0), .val (.ref v1), .val (.ref v2), .val (.ref v3), .val (.ref o0), .val (.ref o1), .val (.ref o2), .val (.int (1 : Int32)), .val (.ref pa), .unset, .unset, .unset] [])) rfl (hb hby at_191) (by decide) (by decide)
      obtain ⟨ck, q273⟩ : ∃ z, z = h264.size := ⟨_, rfl⟩
      have ne_o0_ck : o0 ≠ ck := by rw [q273]; exact Nat.ne_of_lt f267.lt
      have ne_o1_ck : o1 ≠ ck := by rw [q273]; exact Nat.ne_of_lt f268.lt
      have ne_o2_ck : o2 ≠ ck := by rw [q273]; exact Nat.ne_of_lt f269.lt
      have ne_pa_ck : pa ≠ ck := by rw [q273]; exact Nat.ne_of_lt f270.lt
      have g_ck : n0 ≤ ck := by rw [q273]; exact f265
      rw [← q273] at A273 D273 st273
      have f274 : n0 ≤ h273.size := Nat.le_trans f265 E273.1
      have f275 : Old Z n0 h273 := f266.ext E273
      have f276 : own_ok Z a0 h273 o0 := f267.ext E273
      have f277 : own_ok Z a0 h273 o1 := f268.ext E273
      have f278 : own_ok Z a0 h273 o2 := f269.ext E273
      have f279 : Exa Z h273 pa "[Ljava/lang/Object;" := f270.ext E273
      have f280 : Arv Z h273 pa ak257 (.object "java/lang/Object") (1 : Int32) [(.ref o0)] .null := f271.ext E273
      have f273 : Exa Z h273 ck "com/example/tablepuffer/tablepuffer/CompositeKey" := A273
      have f281 : Fld Z h273 ck "com/example/tablepuffer/tablepuffer/CompositeKey" "parts" "[Ljava/lang/Object;" .null := D273 (Or.inr (hw _ (List.mem_of_getElem? (i := 92) rfl))) (ty := (.array (.object "java/lang/Object"))) (by decide)
      have k273 : Kt p e below m (s₁.setTop (entryFrame m #[(.int p1), (.long q1), (.long q2), (.int p4), (.int p5)] maxLocals)) T273 194 #[.val (.int p1), .val (.long q1), .second, .val (.long q2), .second, .val (.int p4), .val (.int p5), .val (.ref v0), .val (.ref v1), .val (.ref v2), .val (.ref v3), .val (.ref o0), .val (.ref o1), .val (.ref o2), .val (.int (1 : Int32)), .val (.ref pa), .unset, .unset, .unset] [(.ref ck)] := fun t ht => k272 t (st273 t ht)
      have k282 : Kt p e below m (s₁.setTop (entryFrame m #[(.int p1), (.long q1), (.long q2), (.int p4), (.int p5)] maxLocals)) T273 197 #[.val (.int p1), .val (.long q1), .second, .val (.long q2), .second, .val (.int p4), .val (.int p5), .val (.ref v0), .val (.ref v1), .val (.ref v2), .val (.ref v3), .val (.ref o0), .val (.ref o1), .val (.ref o2), .val (.int (1 : Int32)), .val (.ref pa), .unset, .unset, .unset] [(.ref pa), (.ref ck), (.ref ck)] := by
        intro t ht
        refine k273 t ?_
        show Steps p.tables e below (T273.setTop (mkF m 194 #[.val (.int p1), .val (.long q1), .second, .val (.long q2), .second, .val (.int p4), .val (.int p5), .val (.ref v0), .val (.ref v1), .val (.ref v2), .val (.ref v3), .val (.ref o0), .val (.ref o1), .val (.ref o2), .val (.int (1 : Int32)), .val (.ref pa), .unset, .unset, .unset] [(.ref ck)])) t
        refine XS.dup X273.here hx rfl (hb hby at_194) rfl rfl ?_
        show Steps p.tables e below (T273.setTop (mkF m 195 #[.val (.int p1), .val (.long q1), .second, .val (.long q2), .second, .val (.int p4), .val (.int p5), .val (.ref v0), .val (.ref v1), .val (.ref v2), .val (.ref v3), .val (.ref o0), .val (.ref o1), .val (.ref o2), .val (.int (1 : Int32)), .val (.ref pa), .unset, .unset, .unset] [(.ref ck), (.ref ck)])) t
        refine XS.aload X273.here hx rfl (hb hby at_195) rfl rfl ?_
        exact ht
      obtain ⟨_, _, ⟨T283, L283, c283, n283⟩, -, X283, ⟨Lc283, hQ283, l283, y283, z283⟩, st283⟩ := X273.specialBack hx (y := (⟨"com/example/tablepuffer/tablepuffer/CompositeKey", "<init>", "([Ljava/lang/Object;)V"⟩ : MethodName)) rfl hown (mvT hZ (hw _ (List.mem_of_getElem? (i := 87) rfl))) (mvT hZ (hw _ (List.mem_of_getElem? (i := 88) rfl))) (mvT hZ (hw _ (List.mem_of_getElem? (i := 89) rfl))) (by decide) (backOf (W := 1) (rm16 l Z a0 hw [] ck pa h273 n0 f274 f273 f281 g_ck) hZ (hw _ (List.mem_of_getElem? (i := 89) rfl)) (hw _ (List.mem_of_getElem? (i := 86) rfl)) (by decide) (by decide)) (g := (mkF m 197 #[.val (.int p1), .val (.long q1), .second, .val (.long q2), .second, .val (.int p4), .val (.int p5), .val (.ref v0), .val (.ref v1), .val (.ref v2), .val (.ref v3), .val (.ref o0), .val (.ref o1), .val (.ref o2), .val (.int (1 : Int32)), .val (.ref pa), .unset, .unset, .unset] [(.ref pa), (.ref ck), (.ref ck)])) rfl (by rw [hml]; rfl) (Steps.refl _) (a := ck) (argsL := [(.ref pa)]) (rest := [(.ref ck)]) (lenOf pd_16 rfl) rfl (by show 2 * 0 + _ ≤ _; exact Nat.le_of_eq rfl) (hb hby at_197) (fun _ _ => ⟨rfl, e273, (by decide : 9 + 0 ≤ _), (by decide : 17 + 0 ≤ _)⟩)
      dsimp only [Pt.U, Pt.locs, Pt.cells, Pt.slots] at X283 l283 y283 z283 st283 hQ283
      subst l283 y283 z283
      obtain ⟨rfl, Nq283, Kp283, Fp283⟩ := hQ283
      have N283 := Fr.app N264 Nq283
      have k283 : Kt p e below m (s₁.setTop (entryFrame m #[(.int p1), (.long q1), (.long q2), (.int p4), (.int p5)] maxLocals)) T283 200 #[.val (.int p1), .val (.long q1), .second, .val (.long q2), .second, .val (.int p4), .val (.int p5), .val (.ref v0), .val (.ref v1), .val (.ref v2), .val (.ref v3), .val (.ref o0), .val (.ref o1), .val (.ref o2), .val (.int (1 : Int32)), .val (.ref pa), .unset, .unset, .unset] [(.ref ck)] := fun t ht => k282 t (st283.trans ht)
      have f284 : n0 ≤ T283.heap.size := Nat.le_trans f274 Kp283.1
      have f285 : Old Z n0 T283.heap := f275.keep Kp283 (allS g_ck all0)
      have f286 : own_ok Z a0 T283.heap o0 := f276.keep Kp283
      have f287 : own_ok Z a0 T283.heap o1 := f277.keep Kp283
      have f288 : own_ok Z a0 T283.heap o2 := f278.keep Kp283
      have f289 : Exa Z T283.heap pa "[Ljava/lang/Object;" := f279.keep Kp283
      have f290 : Arv Z T283.heap pa ak257 (.object "java/lang/Object") (1 : Int32) [(.ref o0)] .null := f280.keep Kp283 (ninS ne_pa_ck nin0)
      have f291 : Exa Z T283.heap ck "com/example/tablepuffer/tablepuffer/CompositeKey" := f273.keep Kp283
      have k293 : Kt p e below m (s₁.setTop (entryFrame m #[(.int p1), (.long q1), (.long q2), (.int p4), (.int p5)] maxLocals)) T283 204 #[.val (.int p1), .val (.long q1), .second, .val (.long q2), .second, .val (.int p4), .val (.int p5), .val (.ref v0), .val (.ref v1), .val (.ref v2), .val (.ref v3), .val (.ref o0), .val (.ref o1), .val (.ref o2), .val (.int (1 : Int32)), .val (.ref pa), .val (.ref ck), .unset, .unset] [(.ref ck)] := by
        intro t ht
        refine k283 t ?_
        show Steps p.tables e below (T283.setTop (mkF m 200 #[.val (.int p1), .val (.long q1), .second, .val (.long q2), .second, .val (.int p4), .val (.int p5), .val (.ref v0), .val (.ref v1), .val (.ref v2), .val (.ref v3), .val (.ref o0), .val (.ref o1), .val (.ref o2), .val (.int (1 : Int32)), .val (.ref pa), .unset, .unset, .unset] [(.ref ck)])) t
        refine XS.astore X283.here hx rfl (hb hby at_200) rfl rfl (l' := #[.val (.int p1), .val (.long q1), .second, .val (.long q2), .second, .val (.int p4), .val (.int p5), .val (.ref v0), .val (.ref v1), .val (.ref v2), .val (.ref v3), .val (.ref o0), .val (.ref o1), .val (.ref o2), .val (.int (1 : Int32)), .val (.ref pa), .val (.ref ck), .unset, .unset]) rfl ?_
        show Steps p.tables e below (T283.setTop (mkF m 202 #[.val (.int p1), .val (.long q1), .second, .val (.long q2), .second, .val (.int p4), .val (.int p5), .val (.ref v0), .val (.ref v1), .val (.ref v2), .val (.ref v3), .val (.ref o0), .val (.ref o1), .val (.ref o2), .val (.int (1 : Int32)), .val (.ref pa), .val (.ref ck), .unset, .unset] [])) t
        refine XS.aload X283.here hx rfl (hb hby at_202) rfl rfl ?_
        exact ht
      obtain ⟨_, _, ⟨T294, L294, c294, n294⟩, -, X294, ⟨Lc294, hQ294, l294, y294, z294⟩, st294⟩ := Jvm.LawKit.callS X283 hx (y := (⟨"com/example/tablepuffer/tablepuffer/TableShape", "keyParts", "(Ljava/lang/Object;)[Ljava/lang/Object;"⟩ : MethodName)) hown (mvT hZ (hw _ (List.mem_of_getElem? (i := 71) rfl))) (mvT hZ (hw _ (List.mem_of_getElem? (i := 72) rfl))) (mvT hZ (hw _ (List.mem_of_getElem? (i := 73) rfl))) (mvT hZ (hw _ (List.mem_of_getElem? (i := 74) rfl))) (by decide) (backOf (W := 0) (rmkpK l Z a0 hw [] ck pa ak257 (1 : Int32) [(.ref o0)] T283.heap n0 f284 f291 Fp283 f290 f289 (by decide)) hZ (hw _ (List.mem_of_getElem? (i := 74) rfl)) (hw _ (List.mem_of_getElem? (i := 73) rfl)) (by decide) (by decide)) (g := (mkF m 204 #[.val (.int p1), .val (.long q1), .second, .val (.long q2), .second, .val (.int p4), .val (.int p5), .val (.ref v0), .val (.ref v1), .val (.ref v2), .val (.ref v3), .val (.ref o0), .val (.ref o1), .val (.ref o2), .val (.int (1 : Int32)), .val (.ref pa), .val (.ref ck), .unset, .unset] [(.ref ck)])) rfl (by rw [hml]; rfl) (argsL := [(.ref ck)]) (rest := []) (lenOf pd_9 rfl) rfl (by show 2 * 0 + _ ≤ _; exact Nat.le_of_eq rfl) (hb hby at_204) (fun _ _ => ⟨rfl, rfl, (by decide : 9 + 1 ≤ _), (by decide : 17 + 3 ≤ _)⟩)
      dsimp only [Pt.U, Pt.locs, Pt.cells, Pt.slots] at X294 l294 y294 z294 st294 hQ294
      subst l294 y294 z294
      obtain ⟨rr, rfl, Nq294, Kp294, Vr294⟩ := hQ294
      have N294 := Fr.app N283 Nq294
      have k294 : Kt p e below m (s₁.setTop (entryFrame m #[(.int p1), (.long q1), (.long q2), (.int p4), (.int p5)] maxLocals)) T294 207 #[.val (.int p1), .val (.long q1), .second, .val (.long q2), .second, .val (.int p4), .val (.int p5), .val (.ref v0), .val (.ref v1), .val (.ref v2), .val (.ref v3), .val (.ref o0), .val (.ref o1), .val (.ref o2), .val (.int (1 : Int32)), .val (.ref pa), .val (.ref ck), .unset, .unset] [(.ref rr)] := fun t ht => k293 t (st294 t ht)
      have f295 : n0 ≤ T294.heap.size := Nat.le_trans f284 Kp294.1
      have f296 : Old Z n0 T294.heap := f285.keep Kp294 all0
      have f297 : own_ok Z a0 T294.heap o0 := f286.keep Kp294
      have f298 : own_ok Z a0 T294.heap o1 := f287.keep Kp294
      have f299 : own_ok Z a0 T294.heap o2 := f288.keep Kp294
      have f300 : Exa Z T294.heap pa "[Ljava/lang/Object;" := f289.keep Kp294
      have f301 : Arv Z T294.heap pa ak257 (.object "java/lang/Object") (1 : Int32) [(.ref o0)] .null := f290.keep Kp294 nin0
      have f302 : Exa Z T294.heap ck "com/example/tablepuffer/tablepuffer/CompositeKey" := f291.keep Kp294
      have f303 : Fld Z T294.heap ck "com/example/tablepuffer/tablepuffer/CompositeKey" "parts" "[Ljava/lang/Object;" (.ref pa) := Fp283.keep Kp294 nin0
      have k304 : Kt p e below m (s₁.setTop (entryFrame m #[(.int p1), (.long q1), (.long q2), (.int p4), (.int p5)] maxLocals)) T294 211 #[.val (.int p1), .val (.long q1), .second, .val (.long q2), .second, .val (.int p4), .val (.int p5), .val (.ref v0), .val (.ref v1), .val (.ref v2), .val (.ref v3), .val (.ref o0), .val (.ref o1), .val (.ref o2), .val (.int (1 : Int32)), .val (.ref pa), .val (.ref ck), .val (.ref rr), .unset] [(.ref rr)] := by
        intro t ht
        refine k294 t ?_
        show Steps p.tables e below (T294.setTop (mkF m 207 #[.val (.int p1), .val (.long q1), .second, .val (.long q2), .second, .val (.int p4), .val (.int p5), .val (.ref v0), .val (.ref v1), .val (.ref v2), .val (.ref v3), .val (.ref o0), .val (.ref o1), .val (.ref o2), .val (.int (1 : Int32)), .val (.ref pa), .val (.ref ck), .unset, .unset] [(.ref rr)])) t
        refine XS.astore X294.here hx rfl (hb hby at_207) rfl rfl (l' := #[.val (.int p1), .val (.long q1), .second, .val (.long q2), .second, .val (.int p4), .val (.int p5), .val (.ref v0), .val (.ref v1), .val (.ref v2), .val (.ref v3), .val (.ref o0), .val (.ref o1), .val (.ref o2), .val (.int (1 : Int32)), .val (.ref pa), .val (.ref ck), .val (.ref rr), .unset]) rfl ?_
        show Steps p.tables e below (T294.setTop (mkF m 209 #[.val (.int p1), .val (.long q1), .second, .val (.long q2), .second, .val (.int p4), .val (.int p5), .val (.ref v0), .val (.ref v1), .val (.ref v2), .val (.ref v3), .val (.ref o0), .val (.ref o1), .val (.ref o2), .val (.int (1 : Int32)), .val (.ref pa), .val (.ref ck), .val (.ref rr), .unset] [])) t
        refine XS.aload X294.here hx rfl (hb hby at_209) rfl rfl ?_
        exact ht
      obtain ⟨cl305, Ar305, qc305, Sz305, Nn305, Hh305, Gg305⟩ := id Vr294
      have k306 : Kt p e below m (s₁.setTop (entryFrame m #[(.int p1), (.long q1), (.long q2), (.int p4), (.int p5)] maxLocals)) T294 220 #[.val (.int p1), .val (.long q1), .second, .val (.long q2), .second, .val (.int p4), .val (.int p5), .val (.ref v0), .val (.ref v1), .val (.ref v2), .val (.ref v3), .val (.ref o0), .val (.ref o1), .val (.ref o2), .val (.int (1 : Int32)), .val (.ref pa), .val (.ref ck), .val (.ref rr), .unset] [(.int (0 : Int32)), (.ref rr)] := by
        intro t ht
        refine k304 t ?_
        show Steps p.tables e below (T294.setTop (mkF m 211 #[.val (.int p1), .val (.long q1), .second, .val (.long q2), .second, .val (.int p4), .val (.int p5), .val (.ref v0), .val (.ref v1), .val (.ref v2), .val (.ref v3), .val (.ref o0), .val (.ref o1), .val (.ref o2), .val (.int (1 : Int32)), .val (.ref pa), .val (.ref ck), .val (.ref rr), .unset] [(.ref rr)])) t
        refine X294.arraylength hx Ar305.1 (State.isArrayOf_alike hZ.alike Ar305.2.1) (g := (mkF m 211 #[.val (.int p1), .val (.long q1), .second, .val (.long q2), .second, .val (.int p4), .val (.int p5), .val (.ref v0), .val (.ref v1), .val (.ref v2), .val (.ref v3), .val (.ref o0), .val (.ref o1), .val (.ref o2), .val (.int (1 : Int32)), .val (.ref pa), .val (.ref ck), .val (.ref rr), .unset] [(.ref rr)])) rfl rfl (hb hby at_211) _ ?_
        rw [len_of Sz305 Nn305]
        show Steps p.tables e below (T294.setTop (mkF m 212 #[.val (.int p1), .val (.long q1), .second, .val (.long q2), .second, .val (.int p4), .val (.int p5), .val (.ref v0), .val (.ref v1), .val (.ref v2), .val (.ref v3), .val (.ref o0), .val (.ref o1), .val (.ref o2), .val (.int (1 : Int32)), .val (.ref pa), .val (.ref ck), .val (.ref rr), .unset] [(.int (1 : Int32))])) t
        refine XS.iload X294.here hx rfl (hb hby at_212) rfl ?_
        show Steps p.tables e below (T294.setTop (mkF m 214 #[.val (.int p1), .val (.long q1), .second, .val (.long q2), .second, .val (.int p4), .val (.int p5), .val (.ref v0), .val (.ref v1), .val (.ref v2), .val (.ref v3), .val (.ref o0), .val (.ref o1), .val (.ref o2), .val (.int (1 : Int32)), .val (.ref pa), .val (.ref ck), .val (.ref rr), .unset] [(.int (1 : Int32)), (.int (1 : Int32))])) t
        refine XS.icmpNo X294.here hx rfl (hb hby at_214) rfl (teq rfl).2 ?_
        show Steps p.tables e below (T294.setTop (mkF m 217 #[.val (.int p1), .val (.long q1), .second, .val (.long q2), .second, .val (.int p4), .val (.int p5), .val (.ref v0), .val (.ref v1), .val (.ref v2), .val (.ref v3), .val (.ref o0), .val (.ref o1), .val (.ref o2), .val (.int (1 : Int32)), .val (.ref pa), .val (.ref ck), .val (.ref rr), .unset] [])) t
        refine XS.aload X294.here hx rfl (hb hby at_217) rfl rfl ?_
        show Steps p.tables e below (T294.setTop (mkF m 219 #[.val (.int p1), .val (.long q1), .second, .val (.long q2), .second, .val (.int p4), .val (.int p5), .val (.ref v0), .val (.ref v1), .val (.ref v2), .val (.ref v3), .val (.ref o0), .val (.ref o1), .val (.ref o2), .val (.int (1 : Int32)), .val (.ref pa), .val (.ref ck), .val (.ref rr), .unset] [(.ref rr)])) t
        refine XS.iconst X294.here hx rfl (hb hby at_219) ?_
        exact ht
      obtain ⟨cl307, Ar307, qc307, Sz307, Nn307, Hh307, Gg307⟩ := id Vr294
      have hin307 : ¬ ((0 : Int32) < 0 ∨ cl307.slots.size ≤ ((0 : Int32)).toNatClampNeg) := inb_of Sz307 ⟨by decide, by decide⟩
      have hat307 : cl307.slots[((0 : Int32)).toNatClampNeg]? = some (.ref o0) := Hh307.at hin307 rfl
      have k308 : Kt p e below m (s₁.setTop (entryFrame m #[(.int p1), (.long q1), (.long q2), (.int p4), (.int p5)] maxLocals)) T294 289 #[.val (.int p1), .val (.long q1), .second, .val (.long q2), .second, .val (.int p4), .val (.int p5), .val (.ref v0), .val (.ref v1), .val (.ref v2), .val (.ref v3), .val (.ref o0), .val (.ref o1), .val (.ref o2), .val (.int (1 : Int32)), .val (.ref pa), .val (.ref ck), .val (.ref rr), .val (.int (1 : Int32))] [(.int (1 : Int32))] := by
        intro t ht
        refine k306 t ?_
        show Steps p.tables e below (T294.setTop (mkF m 220 #[.val (.int p1), .val (.long q1), .second, .val (.long q2), .second, .val (.int p4), .val (.int p5), .val (.ref v0), .val (.ref v1), .val (.ref v2), .val (.ref v3), .val (.ref o0), .val (.ref o1), .val (.ref o2), .val (.int (1 : Int32)), .val (.ref pa), .val (.ref ck), .val (.ref rr), .unset] [(.int (0 : Int32)), (.ref rr)])) t
        refine X294.aaload hx (j := (0 : Int32)) (v := (.ref o0)) Ar307.1 (State.isArrayOf_alike hZ.alike Ar307.2.1) rfl Ar307.2.2 hin307 hat307 (g := (mkF m 220 #[.val (.int p1), .val (.long q1), .second, .val (.long q2), .second, .val (.int p4), .val (.int p5), .val (.ref v0), .val (.ref v1), .val (.ref v2), .val (.ref v3), .val (.ref o0), .val (.ref o1), .val (.ref o2), .val (.int (1 : Int32)), .val (.ref pa), .val (.ref ck), .val (.ref rr), .unset] [(.int (0 : Int32)), (.ref rr)])) rfl rfl (hb hby at_220) _ ?_
        show Steps p.tables e below (T294.setTop (mkF m 221 #[.val (.int p1), .val (.long q1), .second, .val (.long q2), .second, .val (.int p4), .val (.int p5), .val (.ref v0), .val (.ref v1), .val (.ref v2), .val (.ref v3), .val (.ref o0), .val (.ref o1), .val (.ref o2), .val (.int (1 : Int32)), .val (.ref pa), .val (.ref ck), .val (.ref rr), .unset] [(.ref o0)])) t
        refine XS.aload X294.here hx rfl (hb hby at_221) rfl rfl ?_
        show Steps p.tables e below (T294.setTop (mkF m 223 #[.val (.int p1), .val (.long q1), .second, .val (.long q2), .second, .val (.int p4), .val (.int p5), .val (.ref v0), .val (.ref v1), .val (.ref v2), .val (.ref v3), .val (.ref o0), .val (.ref o1), .val (.ref o2), .val (.int (1 : Int32)), .val (.ref pa), .val (.ref ck), .val (.ref rr), .unset] [(.ref o0), (.ref o0)])) t
        refine Jvm.RoadKit.acmp (g := (mkF m 223 #[.val (.int p1), .val (.long q1), .second, .val (.long q2), .second, .val (.int p4), .val (.int p5), .val (.ref v0), .val (.ref v1), .val (.ref v2), .val (.ref v3), .val (.ref o0), .val (.ref o1), .val (.ref o2), .val (.int (1 : Int32)), .val (.ref pa), .val (.ref ck), .val (.ref rr), .unset] [(.ref o0), (.ref o0)])) X294 hx rfl rfl rfl (pc0 := 223) (pc' := 226) (same := true) rfl (hb hby at_223) rfl (decide_eq_true rfl) (by decide) (by decide) ?_
        show Steps p.tables e below (T294.setTop (mkF m 226 #[.val (.int p1), .val (.long q1), .second, .val (.long q2), .second, .val (.int p4), .val (.int p5), .val (.ref v0), .val (.ref v1), .val (.ref v2), .val (.ref v3), .val (.ref o0), .val (.ref o1), .val (.ref o2), .val (.int (1 : Int32)), .val (.ref pa), .val (.ref ck), .val (.ref rr), .unset] [])) t
        refine XS.iconst X294.here hx rfl (hb hby at_226) ?_
        show Steps p.tables e below (T294.setTop (mkF m 227 #[.val (.int p1), .val (.long q1), .second, .val (.long q2), .second, .val (.int p4), .val (.int p5), .val (.ref v0), .val (.ref v1), .val (.ref v2), .val (.ref v3), .val (.ref o0), .val (.ref o1), .val (.ref o2), .val (.int (1 : Int32)), .val (.ref pa), .val (.ref ck), .val (.ref rr), .unset] [(.int (1 : Int32))])) t
        refine XS.goto X294.here hx rfl (pc0 := 227) (pc' := 231) rfl (hb hby at_227) (by decide) (by decide) ?_
        show Steps p.tables e below (T294.setTop (mkF m 231 #[.val (.int p1), .val (.long q1), .second, .val (.long q2), .second, .val (.int p4), .val (.int p5), .val (.ref v0), .val (.ref v1), .val (.ref v2), .val (.ref v3), .val (.ref o0), .val (.ref o1), .val (.ref o2), .val (.int (1 : Int32)), .val (.ref pa), .val (.ref ck), .val (.ref rr), .unset] [(.int (1 : Int32))])) t
        refine XS.istore X294.here hx rfl (hb hby at_231) rfl (l' := #[.val (.int p1), .val (.long q1), .second, .val (.long q2), .second, .val (.int p4), .val (.int p5), .val (.ref v0), .val (.ref v1), .val (.ref v2), .val (.ref v3), .val (.ref o0), .val (.ref o1), .val (.ref o2), .val (.int (1 : Int32)), .val (.ref pa), .val (.ref ck), .val (.ref rr), .val (.int (1 : Int32))]) rfl ?_
        show Steps p.tables e below (T294.setTop (mkF m 233 #[.val (.int p1), .val (.long q1), .second, .val (.long q2), .second, .val (.int p4), .val (.int p5), .val (.ref v0), .val (.ref v1), .val (.ref v2), .val (.ref v3), .val (.ref o0), .val (.ref o1), .val (.ref o2), .val (.int (1 : Int32)), .val (.ref pa), .val (.ref ck), .val (.ref rr), .val (.int (1 : Int32))] [])) t
        refine XS.iload X294.here hx rfl (hb hby at_233) rfl ?_
        show Steps p.tables e below (T294.setTop (mkF m 235 #[.val (.int p1), .val (.long q1), .second, .val (.long q2), .second, .val (.int p4), .val (.int p5), .val (.ref v0), .val (.ref v1), .val (.ref v2), .val (.ref v3), .val (.ref o0), .val (.ref o1), .val (.ref o2), .val (.int (1 : Int32)), .val (.ref pa), .val (.ref ck), .val (.ref rr), .val (.int (1 : Int32))] [(.int (1 : Int32))])) t
        refine XS.ifNo X294.here hx rfl (hb hby at_235) rfl ((if0 _ _).trans (feq (by decide)).1) ?_
        show Steps p.tables e below (T294.setTop (mkF m 238 #[.val (.int p1), .val (.long q1), .second, .val (.long q2), .second, .val (.int p4), .val (.int p5), .val (.ref v0), .val (.ref v1), .val (.ref v2), .val (.ref v3), .val (.ref o0), .val (.ref o1), .val (.ref o2), .val (.int (1 : Int32)), .val (.ref pa), .val (.ref ck), .val (.ref rr), .val (.int (1 : Int32))] [])) t
        refine XS.iload X294.here hx rfl (hb hby at_238) rfl ?_
        show Steps p.tables e below (T294.setTop (mkF m 240 #[.val (.int p1), .val (.long q1), .second, .val (.long q2), .second, .val (.int p4), .val (.int p5), .val (.ref v0), .val (.ref v1), .val (.ref v2), .val (.ref v3), .val (.ref o0), .val (.ref o1), .val (.ref o2), .val (.int (1 : Int32)), .val (.ref pa), .val (.ref ck), .val (.ref rr), .val (.int (1 : Int32))] [(.int (1 : Int32))])) t
        refine XS.iconst X294.here hx rfl (hb hby at_240) ?_
        show Steps p.tables e below (T294.setTop (mkF m 241 #[.val (.int p1), .val (.long q1), .second, .val (.long q2), .second, .val (.int p4), .val (.int p5), .val (.ref v0), .val (.ref v1), .val (.ref v2), .val (.ref v3), .val (.ref o0), .val (.ref o1), .val (.ref o2), .val (.int (1 : Int32)), .val (.ref pa), .val (.ref ck), .val (.ref rr), .val (.int (1 : Int32))] [(.int (1 : Int32)), (.int (1 : Int32))])) t
        refine XS.icmpYes X294.here hx rfl (pc0 := 241) (pc' := 260) rfl (hb hby at_241) rfl (flt (by decide)).2.2.2 (by decide) (by decide) ?_
        show Steps p.tables e below (T294.setTop (mkF m 260 #[.val (.int p1), .val (.long q1), .second, .val (.long q2), .second, .val (.int p4), .val (.int p5), .val (.ref v0), .val (.ref v1), .val (.ref v2), .val (.ref v3), .val (.ref o0), .val (.ref o1), .val (.ref o2), .val (.int (1 : Int32)), .val (.ref pa), .val (.ref ck), .val (.ref rr), .val (.int (1 : Int32))] [])) t
        refine XS.iload X294.here hx rfl (hb hby at_260) rfl ?_
        show Steps p.tables e below (T294.setTop (mkF m 262 #[.val (.int p1), .val (.long q1), .second, .val (.long q2), .second, .val (.int p4), .val (.int p5), .val (.ref v0), .val (.ref v1), .val (.ref v2), .val (.ref v3), .val (.ref o0), .val (.ref o1), .val (.ref o2), .val (.int (1 : Int32)), .val (.ref pa), .val (.ref ck), .val (.ref rr), .val (.int (1 : Int32))] [(.int (1 : Int32))])) t
        refine XS.ifNo X294.here hx rfl (hb hby at_262) rfl ((if0 _ _).trans (feq (by decide)).1) ?_
        show Steps p.tables e below (T294.setTop (mkF m 265 #[.val (.int p1), .val (.long q1), .second, .val (.long q2), .second, .val (.int p4), .val (.int p5), .val (.ref v0), .val (.ref v1), .val (.ref v2), .val (.ref v3), .val (.ref o0), .val (.ref o1), .val (.ref o2), .val (.int (1 : Int32)), .val (.ref pa), .val (.ref ck), .val (.ref rr), .val (.int (1 : Int32))] [])) t
        refine XS.iload X294.here hx rfl (hb hby at_265) rfl ?_
        show Steps p.tables e below (T294.setTop (mkF m 267 #[.val (.int p1), .val (.long q1), .second, .val (.long q2), .second, .val (.int p4), .val (.int p5), .val (.ref v0), .val (.ref v1), .val (.ref v2), .val (.ref v3), .val (.ref o0), .val (.ref o1), .val (.ref o2), .val (.int (1 : Int32)), .val (.ref pa), .val (.ref ck), .val (.ref rr), .val (.int (1 : Int32))] [(.int (1 : Int32))])) t
        refine XS.iconst X294.here hx rfl (hb hby at_267) ?_
        show Steps p.tables e below (T294.setTop (mkF m 268 #[.val (.int p1), .val (.long q1), .second, .val (.long q2), .second, .val (.int p4), .val (.int p5), .val (.ref v0), .val (.ref v1), .val (.ref v2), .val (.ref v3), .val (.ref o0), .val (.ref o1), .val (.ref o2), .val (.int (1 : Int32)), .val (.ref pa), .val (.ref ck), .val (.ref rr), .val (.int (1 : Int32))] [(.int (2 : Int32)), (.int (1 : Int32))])) t
        refine XS.icmpYes X294.here hx rfl (pc0 := 268) (pc' := 287) rfl (hb hby at_268) rfl (flt (by decide)).2.2.2 (by decide) (by decide) ?_
        show Steps p.tables e below (T294.setTop (mkF m 287 #[.val (.int p1), .val (.long q1), .second, .val (.long q2), .second, .val (.int p4), .val (.int p5), .val (.ref v0), .val (.ref v1), .val (.ref v2), .val (.ref v3), .val (.ref o0), .val (.ref o1), .val (.ref o2), .val (.int (1 : Int32)), .val (.ref pa), .val (.ref ck), .val (.ref rr), .val (.int (1 : Int32))] [])) t
        refine XS.iload X294.here hx rfl (hb hby at_287) rfl ?_
        exact ht
      obtain ⟨fs, hr, hrun, hended, hW, hsame⟩ := X294.leave (v := some (.int (1 : Int32))) (fun h => by rw [Bd.returns] at h; cases h)
      refine ⟨_, _, k308 _ ?_, hrun, hended, _, _, rfl, ?_, ⟨_, rfl⟩, hW, hsame.mono (by decide) (by decide)⟩
      · exact retN X294 hx (t := .boolean) Bd.returns (by simp) (hb hby at_289) hr
      · show Q0 Z p1 q1 q2 p4 p5 G1 ca cc va h0 n0 _ T294.heap _
        exact ⟨rfl, N294⟩
    · rw [hN] at k256
      obtain ⟨T309, h309, ak309, X309, e309, E309, A309, Ax309, O309, st309⟩ := newRE X228 hx hZ hown (hw _ (List.mem_of_getElem? (i := 82) rfl)) (hw _ (List.mem_of_getElem? (i := 80) rfl)) rfl (g := (mkF m 156 #[.val (.int p1), .val (.long q1), .second, .val (.long q2), .second, .val (.int p4), .val (.int p5), .val (.ref v0), .val (.ref v1), .val (.ref v2), .val (.ref v3), .val (.ref o0), .val (.ref o1), .val (.ref o2), .val (.int (2 : Int32)), .unset, .unset, .unset, .unset] [(.int (2 : Int32))])) rfl (hb hby at_156) rfl (by decide) (cap := 2) (by decide) (by decide) (by decide) (by decide) (ad := "[Ljava/lang/Object;") (by decide)
      obtain ⟨pa, q309⟩ : ∃ z, z = T228.heap.size := ⟨_, rfl⟩
      have ne_o0_pa : o0 ≠ pa := by rw [q309]; exact Nat.ne_of_lt f237.lt
      have ne_o1_pa : o1 ≠ pa := by rw [q309]; exact Nat.ne_of_lt f238.lt
      have ne_o2_pa : o2 ≠ pa := by rw [q309]; exact Nat.ne_of_lt f240.lt
      have g_pa : n0 ≤ pa := by rw [q309]; exact f229
      rw [← q309] at A309 st309 Ax309
      have f310 : n0 ≤ h309.size := Nat.le_trans f229 E309.1
      have f311 : Old Z n0 h309 := f230.ext E309
      have f312 : own_ok Z a0 h309 o0 := f237.ext E309
      have f313 : own_ok Z a0 h309 o1 := f238.ext E309
      have f314 : own_ok Z a0 h309 o2 := f240.ext E309
      have f309 : Arv Z h309 pa ak309 (.object "java/lang/Object") (2 : Int32) [.null, .null] .null := (Arv.new A309 (by decide)).pad (pad_rep [] .null 2)
      have k309 : Kt p e below m (s₁.setTop (entryFrame m #[(.int p1), (.long q1), (.long q2), (.int p4), (.int p5)] maxLocals)) T309 159 #[.val (.int p1), .val (.long q1), .second, .val (.long q2), .second, .val (.int p4), .val (.int p5), .val (.ref v0), .val (.ref v1), .val (.ref v2), .val (.ref v3), .val (.ref o0), .val (.ref o1), .val (.ref o2), .val (.int (2 : Int32)), .unset, .unset, .unset, .unset] [(.ref pa)] := fun t ht => k256 t (st309 t ht)
      have k315 : Kt p e below m (s₁.setTop (entryFrame m #[(.int p1), (.long q1), (.long q2), (.int p4), (.int p5)] maxLocals)) T309 166 #[.val (.int p1), .val (.long q1), .second, .val (.long q2), .second, .val (.int p4), .val (.int p5), .val (.ref v0), .val (.ref v1), .val (.ref v2), .val (.ref v3), .val (.ref o0), .val (.ref o1), .val (.ref o2), .val (.int (2 : Int32)), .val (.ref pa), .unset, .unset, .unset] [(.ref o0), (.int (0 : Int32)), (.ref pa)] := by
        intro t ht
        refine k309 t ?_
        show Steps p.tables e below (T309.setTop (mkF m 159 #[.val (.int p1), .val (.long q1), .second, .val (.long q2), .second, .val (.int p4), .val (.int p5), .val (.ref v0), .val (.ref v1), .val (.ref v2), .val (.ref v3), .val (.ref o0), .val (.ref o1), .val (.ref o2), .val (.int (2 : Int32)), .unset, .unset, .unset, .unset] [(.ref pa)])) t
        refine XS.astore X309.here hx rfl (hb hby at_159) rfl rfl (l' := #[.val (.int p1), .val (.long q1), .second, .val (.long q2), .second, .val (.int p4), .val (.int p5), .val (.ref v0), .val (.ref v1), .val (.ref v2), .val (.ref v3), .val (.ref o0), .val (.ref o1), .val (.ref o2), .val (.int (2 : Int32)), .val (.ref pa), .unset, .unset, .unset]) rfl ?_
        show Steps p.tables e below (T309.setTop (mkF m 161 #[.val (.int p1), .val (.long q1), .second, .val (.long q2), .second, .val (.int p4), .val (.int p5), .val (.ref v0), .val (.ref v1), .val (.ref v2), .val (.ref v3), .val (.ref o0), .val (.ref o1), .val (.ref o2), .val (.int (2 : Int32)), .val (.ref pa), .unset, .unset, .unset] [])) t
        refine XS.aload X309.here hx rfl (hb hby at_161) rfl rfl ?_
        show Steps p.tables e below (T309.setTop (mkF m 163 #[.val (.int p1), .val (.long q1), .second, .val (.long q2), .second, .val (.int p4), .val (.int p5), .val (.ref v0), .val (.ref v1), .val (.ref v2), .val (.ref v3), .val (.ref o0), .val (.ref o1), .val (.ref o2), .val (.int (2 : Int32)), .val (.ref pa), .unset, .unset, .unset] [(.ref pa)])) t
        refine XS.iconst X309.here hx rfl (hb hby at_163) ?_
        show Steps p.tables e below (T309.setTop (mkF m 164 #[.val (.int p1), .val (.long q1), .second, .val (.long q2), .second, .val (.int p4), .val (.int p5), .val (.ref v0), .val (.ref v1), .val (.ref v2), .val (.ref v3), .val (.ref o0), .val (.ref o1), .val (.ref o2), .val (.int (2 : Int32)), .val (.ref pa), .unset, .unset, .unset] [(.int (0 : Int32)), (.ref pa)])) t
        refine XS.aload X309.here hx rfl (hb hby at_164) rfl rfl ?_
        exact ht
      obtain ⟨cl316, Ar316, qc316, Sz316, Nn316, Hh316, Gg316⟩ := id f309
      have hin316 : ¬ ((0 : Int32) < 0 ∨ cl316.slots.size ≤ ((0 : Int32)).toNatClampNeg) := inb_of Sz316 ⟨by decide, by decide⟩
      obtain ⟨T316, h316, X316, e316, W316, st316⟩ := stR X309 hx hZ e309 Ar316 (j := (0 : Int32)) hin316 rfl (Sto.ofV Ar316 qc316 O309 (f312).ins) (g := (mkF m 166 #[.val (.int p1), .val (.long q1), .second, .val (.long q2), .second, .val (.int p4), .val (.int p5), .val (.ref v0), .val (.ref v1), .val (.ref v2), .val (.ref v3), .val (.ref o0), .val (.ref o1), .val (.ref o2), .val (.int (2 : Int32)), .val (.ref pa), .unset, .unset, .unset] [(.ref o0), (.int (0 : Int32)), (.ref pa)])) rfl rfl (hb hby at_166)
      have N316 := Fr.snoc X316 N228 g_pa
      have f317 : n0 ≤ h316.size := Nat.le_trans f310 (Keep.of_wr W316).1
      have f318 : Old Z n0 h316 := f311.wr W316 g_pa
      have f319 : own_ok Z a0 h316 o0 := f312.wr W316
      have f320 : own_ok Z a0 h316 o1 := f313.wr W316
      have f321 : own_ok Z a0 h316 o2 := f314.wr W316
      have f322 : Exa Z h316 pa "[Ljava/lang/Object;" := Ax309.wr W316
      have f323 : Arv Z h316 pa ak309 (.object "java/lang/Object") (2 : Int32) [(.ref o0), .null] .null := Arv.set Ar316 qc316 Sz316 Nn316 Hh316 Gg316 rfl W316 0 rfl (Nat.le_of_ble_eq_true rfl)
      have k316 : Kt p e below m (s₁.setTop (entryFrame m #[(.int p1), (.long q1), (.long q2), (.int p4), (.int p5)] maxLocals)) T316 167 #[.val (.int p1), .val (.long q1), .second, .val (.long q2), .second, .val (.int p4), .val (.int p5), .val (.ref v0), .val (.ref v1), .val (.ref v2), .val (.ref v3), .val (.ref o0), .val (.ref o1), .val (.ref o2), .val (.int (2 : Int32)), .val (.ref pa), .unset, .unset, .unset] [] := fun t ht => k315 t (st316 t ht)
      have k324 : Kt p e below m (s₁.setTop (entryFrame m #[(.int p1), (.long q1), (.long q2), (.int p4), (.int p5)] maxLocals)) T316 178 #[.val (.int p1), .val (.long q1), .second, .val (.long q2), .second, .val (.int p4), .val (.int p5), .val (.ref v0), .val (.ref v1), .val (.ref v2), .val (.ref v3), .val (.ref o0), .val (.ref o1), .val (.ref o2), .val (.int (2 : Int32)), .val (.ref pa), .unset, .unset, .unset] [(.ref o1), (.int (1 : Int32)), (.ref pa)] := by
        intro t ht
        refine k316 t ?_
        show Steps p.tables e below (T316.setTop (mkF m 167 #[.val (.int p1), .val (.long q1), .second, .val (.long q2), .second, .val (.int p4), .val (.int p5), .val (.ref v0), .val (.ref v1), .val (.ref v2), .val (.ref v3), .val (.ref o0), .val (.ref o1), .val (.ref o2), .val (.int (2 : Int32)), .val (.ref pa), .unset, .unset, .unset] [])) t
        refine XS.iload X316.here hx rfl (hb hby at_167) rfl ?_
        show Steps p.tables e below (T316.setTop (mkF m 169 #[.val (.int p1), .val (.long q1), .second, .val (.long q2), .second, .val (.int p4), .val (.int p5), .val (.ref v0), .val (.ref v1), .val (.ref v2), .val (.ref v3), .val (.ref o0), .val (.ref o1), .val (.ref o2), .val (.int (2 : Int32)), .val (.ref pa), .unset, .unset, .unset] [(.int (2 : Int32))])) t
        refine XS.iconst X316.here hx rfl (hb hby at_169) ?_
        show Steps p.tables e below (T316.setTop (mkF m 170 #[.val (.int p1), .val (.long q1), .second, .val (.long q2), .second, .val (.int p4), .val (.int p5), .val (.ref v0), .val (.ref v1), .val (.ref v2), .val (.ref v3), .val (.ref o0), .val (.ref o1), .val (.ref o2), .val (.int (2 : Int32)), .val (.ref pa), .unset, .unset, .unset] [(.int (1 : Int32)), (.int (2 : Int32))])) t
        refine XS.icmpNo X316.here hx rfl (hb hby at_170) rfl (tlt (by decide)).2.2.2 ?_
        show Steps p.tables e below (T316.setTop (mkF m 173 #[.val (.int p1), .val (.long q1), .second, .val (.long q2), .second, .val (.int p4), .val (.int p5), .val (.ref v0), .val (.ref v1), .val (.ref v2), .val (.ref v3), .val (.ref o0), .val (.ref o1), .val (.ref o2), .val (.int (2 : Int32)), .val (.ref pa), .unset, .unset, .unset] [])) t
        refine XS.aload X316.here hx rfl (hb hby at_173) rfl rfl ?_
        show Steps p.tables e below (T316.setTop (mkF m 175 #[.val (.int p1), .val (.long q1), .second, .val (.long q2), .second, .val (.int p4), .val (.int p5), .val (.ref v0), .val (.ref v1), .val (.ref v2), .val (.ref v3), .val (.ref o0), .val (.ref o1), .val (.ref o2), .val (.int (2 : Int32)), .val (.ref pa), .unset, .unset, .unset] [(.ref pa)])) t
        refine XS.iconst X316.here hx rfl (hb hby at_175) ?_
        show Steps p.tables e below (T316.setTop (mkF m 176 #[.val (.int p1), .val (.long q1), .second, .val (.long q2), .second, .val (.int p4), .val (.int p5), .val (.ref v0), .val (.ref v1), .val (.ref v2), .val (.ref v3), .val (.ref o0), .val (.ref o1), .val (.ref o2), .val (.int (2 : Int32)), .val (.ref pa), .unset, .unset, .unset] [(.int (1 : Int32)), (.ref pa)])) t
        refine XS.aload X316.here hx rfl (hb hby at_176) rfl rfl ?_
        exact ht
      obtain ⟨cl325, Ar325, qc325, Sz325, Nn325, Hh325, Gg325⟩ := id f323
      have hin325 : ¬ ((1 : Int32) < 0 ∨ cl325.slots.size ≤ ((1 : Int32)).toNatClampNeg) := inb_of Sz325 ⟨by decide, by decide⟩
      obtain ⟨T325, h325, X325, e325, W325, st325⟩ := stR X316 hx hZ e316 Ar325 (j := (1 : Int32)) hin325 rfl (Sto.ofV Ar325 qc325 O309 (f320).ins) (g := (mkF m 178 #[.val (.int p1), .val (.long q1), .second, .val (.long q2), .second, .val (.int p4), .val (.int p5), .val (.ref v0), .val (.ref v1), .val (.ref v2), .val (.ref v3), .val (.ref o0), .val (.ref o1), .val (.ref o2), .val (.int (2 : Int32)), .val (.ref pa), .unset, .unset, .unset] [(.ref o1), (.int (1 : Int32)), (.ref pa)])) rfl rfl (hb hby at_178)
      have N325 := Fr.snoc X325 N316 g_pa
      have f326 : n0 ≤ h325.size := Nat.le_trans f317 (Keep.of_wr W325).1
      have f327 : Old Z n0 h325 := f318.wr W325 g_pa
      have f328 : own_ok Z a0 h325 o0 := f319.wr W325
      have f329 : own_ok Z a0 h325 o1 := f320.wr W325
      have f330 : own_ok Z a0 h325 o2 := f321.wr W325
      have f331 : Exa Z h325 pa "[Ljava/lang/Object;" := f322.wr W325
      have f332 : Arv Z h325 pa ak309 (.object "java/lang/Object") (2 : Int32) [(.ref o0), (.ref o1)] .null := Arv.set Ar325 qc325 Sz325 Nn325 Hh325 Gg325 rfl W325 1 rfl (Nat.le_of_ble_eq_true rfl)
      have k325 : Kt p e below m (s₁.setTop (entryFrame m #[(.int p1), (.long q1), (.long q2), (.int p4), (.int p5)] maxLocals)) T325 179 #[.val (.int p1), .val (.long q1), .second, .val (.long q2), .second, .val (.int p4), .val (.int p5), .val (.ref v0), .val (.ref v1), .val (.ref v2), .val (.ref v3), .val (.ref o0), .val (.ref o1), .val (.ref o2), .val (.int (2 : Int32)), .val (.ref pa), .unset, .unset, .unset] [] := fun t ht => k324 t (st325 t ht)
      have k333 : Kt p e below m (s₁.setTop (entryFrame m #[(.int p1), (.long q1), (.long q2), (.int p4), (.int p5)] maxLocals)) T325 191 #[.val (.int p1), .val (.long q1), .second, .val (.long q2), .second, .val (.int p4), .val (.int p5), .val (.ref v0), .val (.ref v1), .val (.ref v2), .val (.ref v3), .val (.ref o0), .val (.ref o1), .val (.ref o2), .val (.int (2 : Int32)), .val (.ref pa), .unset, .unset, .unset] [] := by
        intro t ht
        refine k325 t ?_
        show Steps p.tables e below (T325.setTop (mkF m 179 #[.val (.int p1), .val (.long q1), .second, .val (.long q2), .second, .val (.int p4), .val (.int p5), .val (.ref v0), .val (.ref v1), .val (.ref v2), .val (.ref v3), .val (.ref o0), .val (.ref o1), .val (.ref o2), .val (.int (2 : Int32)), .val (.ref pa), .unset, .unset, .unset] [])) t
        refine XS.iload X325.here hx rfl (hb hby at_179) rfl ?_
        show Steps p.tables e below (T325.setTop (mkF m 181 #[.val (.int p1), .val (.long q1), .second, .val (.long q2), .second, .val (.int p4), .val (.int p5), .val (.ref v0), .val (.ref v1), .val (.ref v2), .val (.ref v3), .val (.ref o0), .val (.ref o1), .val (.ref o2), .val (.int (2 : Int32)), .val (.ref pa), .unset, .unset, .unset] [(.int (2 : Int32))])) t
        refine XS.iconst X325.here hx rfl (hb hby at_181) ?_
        show Steps p.tables e below (T325.setTop (mkF m 182 #[.val (.int p1), .val (.long q1), .second, .val (.long q2), .second, .val (.int p4), .val (.int p5), .val (.ref v0), .val (.ref v1), .val (.ref v2), .val (.ref v3), .val (.ref o0), .val (.ref o1), .val (.ref o2), .val (.int (2 : Int32)), .val (.ref pa), .unset, .unset, .unset] [(.int (2 : Int32)), (.int (2 : Int32))])) t
        refine XS.icmpYes X325.here hx rfl (pc0 := 182) (pc' := 191) rfl (hb hby at_182) rfl (flt (by decide)).2.2.2 (by decide) (by decide) ?_
        exact ht
      obtain ⟨T334, h334, X334, e334, E334, A334, D334, -, st334⟩ := newO X325 hx hZ hown (hw _ (List.mem_of_getElem? (i := 84) rfl)) (hw _ (List.mem_of_getElem? (i := 85) rfl)) (hw _ (List.mem_of_getElem? (i := 86) rfl)) e325 (g := (mkF m 191 #[.val (.int p1), .val (.long q1), .second, .val (.long q2), .second, .val (.int p4), .val (.int p5), .val (.ref v0), .val (.ref v1), .val (.ref v2), .val (.ref v3), .val (.ref o0), .val (.ref o1), .val (.ref o2), .val (.int (2 : Int32)), .val (.ref pa), .unset, .unset, .unset] [])) rfl (hb hby at_191) (by decide) (by decide)
      obtain ⟨ck, q334⟩ : ∃ z, z = h325.size := ⟨_, rfl⟩
      have ne_o0_ck : o0 ≠ ck := by rw [q334]; exact Nat.ne_of_lt f328.lt
      have ne_o1_ck : o1 ≠ ck := by rw [q334]; exact Nat.ne_of_lt f329.lt
      have ne_o2_ck : o2 ≠ ck := by rw [q334]; exact Nat.ne_of_lt f330.lt
      have ne_pa_ck : pa ≠ ck := by rw [q334]; exact Nat.ne_of_lt f331.lt
      have g_ck : n0 ≤ ck := by rw [q334]; exact f326
      rw [← q334] at A334 D334 st334
      have f335 : n0 ≤ h334.size := Nat.le_trans f326 E334.1
      have f336 : Old Z n0 h334 := f327.ext E334
      have f337 : own_ok Z a0 h334 o0 := f328.ext E334
      have f338 : own_ok Z a0 h334 o1 := f329.ext E334
      have f339 : own_ok Z a0 h334 o2 := f330.ext E334
      have f340 : Exa Z h334 pa "[Ljava/lang/Object;" := f331.ext E334
      have f341 : Arv Z h334 pa ak309 (.object "java/lang/Object") (2 : Int32) [(.ref o0), (.ref o1)] .null := f332.ext E334
      have f334 : Exa Z h334 ck "com/example/tablepuffer/tablepuffer/CompositeKey" := A334
      have f342 : Fld Z h334 ck "com/example/tablepuffer/tablepuffer/CompositeKey" "parts" "[Ljava/lang/Object;" .null := D334 (Or.inr (hw _ (List.mem_of_getElem? (i := 92) rfl))) (ty := (.array (.object "java/lang/Object"))) (by decide)
      have k334 : Kt p e below m (s₁.setTop (entryFrame m #[(.int p1), (.long q1), (.long q2), (.int p4), (.int p5)] maxLocals)) T334 194 #[.val (.int p1), .val (.long q1), .second, .val (.long q2), .second, .val (.int p4), .val (.int p5), .val (.ref v0), .val (.ref v1), .val (.ref v2), .val (.ref v3), .val (.ref o0), .val (.ref o1), .val (.ref o2), .val (.int (2 : Int32)), .val (.ref pa), .unset, .unset, .unset] [(.ref ck)] := fun t ht => k333 t (st334 t ht)
      have k343 : Kt p e below m (s₁.setTop (entryFrame m #[(.int p1), (.long q1), (.long q2), (.int p4), (.int p5)] maxLocals)) T334 197 #[.val (.int p1), .val (.long q1), .second, .val (.long q2), .second, .val (.int p4), .val (.int p5), .val (.ref v0), .val (.ref v1), .val (.ref v2), .val (.ref v3), .val (.ref o0), .val (.ref o1), .val (.ref o2), .val (.int (2 : Int32)), .val (.ref pa), .unset, .unset, .unset] [(.ref pa), (.ref ck), (.ref ck)] := by
        intro t ht
        refine k334 t ?_
        show Steps p.tables e below (T334.setTop (mkF m 194 #[.val (.int p1), .val (.long q1), .second, .val (.long q2), .second, .val (.int p4), .val (.int p5), .val (.ref v0), .val (.ref v1), .val (.ref v2), .val (.ref v3), .val (.ref o0), .val (.ref o1), .val (.ref o2), .val (.int (2 : Int32)), .val (.ref pa), .unset, .unset, .unset] [(.ref ck)])) t
        refine XS.dup X334.here hx rfl (hb hby at_194) rfl rfl ?_
        show Steps p.tables e below (T334.setTop (mkF m 195 #[.val (.int p1), .val (.long q1), .second, .val (.long q2), .second, .val (.int p4), .val (.int p5), .val (.ref v0), .val (.ref v1), .val (.ref v2), .val (.ref v3), .val (.ref o0), .val (.ref o1), .val (.ref o2), .val (.int (2 : Int32)), .val (.ref pa), .unset, .unset, .unset] [(.ref ck), (.ref ck)])) t
        refine XS.aload X334.here hx rfl (hb hby at_195) rfl rfl ?_
        exact ht
      obtain ⟨_, _, ⟨T344, L344, c344, n344⟩, -, X344, ⟨Lc344, hQ344, l344, y344, z344⟩, st344⟩ := X334.specialBack hx (y := (⟨"com/example/tablepuffer/tablepuffer/CompositeKey", "<init>", "([Ljava/lang/Object;)V"⟩ : MethodName)) rfl hown (mvT hZ (hw _ (List.mem_of_getElem? (i := 87) rfl))) (mvT hZ (hw _ (List.mem_of_getElem? (i := 88) rfl))) (mvT hZ (hw _ (List.mem_of_getElem? (i := 89) rfl))) (by decide) (backOf (W := 1) (rm16 l Z a0 hw [] ck pa h334 n0 f335 f334 f342 g_ck) hZ (hw _ (List.mem_of_getElem? (i := 89) rfl)) (hw _ (List.mem_of_getElem? (i := 86) rfl)) (by decide) (by decide)) (g := (mkF m 197 #[.val (.int p1), .val (.long q1), .second, .val (.long q2), .second, .val (.int p4), .val (.int p5), .val (.ref v0), .val (.ref v1), .val (.ref v2), .val (.ref v3), .val (.ref o0), .val (.ref o1), .val (.ref o2), .val (.int (2 : Int32)), .val (.ref pa), .unset, .unset, .unset] [(.ref pa), (.ref ck), (.ref ck)])) rfl (by rw [hml]; rfl) (Steps.refl _) (a := ck) (argsL := [(.ref pa)]) (rest := [(.ref ck)]) (lenOf pd_16 rfl) rfl (by show 2 * 0 + _ ≤ _; exact Nat.le_of_eq rfl) (hb hby at_197) (fun _ _ => ⟨rfl, e334, (by decide : 9 + 0 ≤ _), (by decide : 18 + 0 ≤ _)⟩)
      dsimp only [Pt.U, Pt.locs, Pt.cells, Pt.slots] at X344 l344 y344 z344 st344 hQ344
      subst l344 y344 z344
      obtain ⟨rfl, Nq344, Kp344, Fp344⟩ := hQ344
      have N344 := Fr.app N325 Nq344
      have k344 : Kt p e below m (s₁.setTop (entryFrame m #[(.int p1), (.long q1), (.long q2), (.int p4), (.int p5)] maxLocals)) T344 200 #[.val (.int p1), .val (.long q1), .second, .val (.long q2), .second, .val (.int p4), .val (.int p5), .val (.ref v0), .val (.ref v1), .val (.ref v2), .val (.ref v3), .val (.ref o0), .val (.ref o1), .val (.ref o2), .val (.int (2 : Int32)), .val (.ref pa), .unset, .unset, .unset] [(.ref ck)] := fun t ht => k343 t (st344.trans ht)
      have f345 : n0 ≤ T344.heap.size := Nat.le_trans f335 Kp344.1
      have f346 : Old Z n0 T344.heap := f336.keep Kp344 (allS g_ck all0)
      have f347 : own_ok Z a0 T344.heap o0 := f337.keep Kp344
      have f348 : own_ok Z a0 T344.heap o1 := f338.keep Kp344
      have f349 : own_ok Z a0 T344.heap o2 := f339.keep Kp344
      have f350 : Exa Z T344.heap pa "[Ljava/lang/Object;" := f340.keep Kp344
      have f351 : Arv Z T344.heap pa ak309 (.object "java/lang/Object") (2 : Int32) [(.ref o0), (.ref o1)] .null := f341.keep Kp344 (ninS ne_pa_ck nin0)
      have f352 : Exa Z T344.heap ck "com/example/tablepuffer/tablepuffer/CompositeKey" := f334.keep Kp344
      have k354 : Kt p e below m (s₁.setTop (entryFrame m #[(.int p1), (.long q1), (.long q2), (.int p4), (.int p5)] maxLocals)) T344 204 #[.val (.int p1), .val (.long q1), .second, .val (.long q2), .second, .val (.int p4), .val (.int p5), .val (.ref v0), .val (.ref v1), .val (.ref v2), .val (.ref v3), .val (.ref o0), .val (.ref o1), .val (.ref o2), .val (.int (2 : Int32)), .val (.ref pa), .val (.ref ck), .unset, .unset] [(.ref ck)] := by
        intro t ht
        refine k344 t ?_
        show Steps p.tables e below (T344.setTop (mkF m 200 #[.val (.int p1), .val (.long q1), .second, .val (.long q2), .second, .val (.int p4), .val (.int p5), .val (.ref v0), .val (.ref v1), .val (.ref v2), .val (.ref v3), .val (.ref o0), .val (.ref o1), .val (.ref o2), .val (.int (2 : Int32)), .val (.ref pa), .unset, .unset, .unset] [(.ref ck)])) t
        refine XS.astore X344.here hx rfl (hb hby at_200) rfl rfl (l' := #[.val (.int p1), .val (.long q1), .second, .val (.long q2), .second, .val (.int p4), .val (.int p5), .val (.ref v0), .val (.ref v1), .val (.ref v2), .val (.ref v3), .val (.ref o0), .val (.ref o1), .val (.ref o2), .val (.int (2 : Int32)), .val (.ref pa), .val (.ref ck), .unset, .unset]) rfl ?_
        show Steps p.tables e below (T344.setTop (mkF m 202 #[.val (.int p1), .val (.long q1), .second, .val (.long q2), .second, .val (.int p4), .val (.int p5), .val (.ref v0), .val (.ref v1), .val (.ref v2), .val (.ref v3), .val (.ref o0), .val (.ref o1), .val (.ref o2), .val (.int (2 : Int32)), .val (.ref pa), .val (.ref ck), .unset, .unset] [])) t
        refine XS.aload X344.here hx rfl (hb hby at_202) rfl rfl ?_
        exact ht
      obtain ⟨_, _, ⟨T355, L355, c355, n355⟩, -, X355, ⟨Lc355, hQ355, l355, y355, z355⟩, st355⟩ := Jvm.LawKit.callS X344 hx (y := (⟨"com/example/tablepuffer/tablepuffer/TableShape", "keyParts", "(Ljava/lang/Object;)[Ljava/lang/Object;"⟩ : MethodName)) hown (mvT hZ (hw _ (List.mem_of_getElem? (i := 71) rfl))) (mvT hZ (hw _ (List.mem_of_getElem? (i := 72) rfl))) (mvT hZ (hw _ (List.mem_of_getElem? (i := 73) rfl))) (mvT hZ (hw _ (List.mem_of_getElem? (i := 74) rfl))) (by decide) (backOf (W := 0) (rmkpK l Z a0 hw [] ck pa ak309 (2 : Int32) [(.ref o0), (.ref o1)] T344.heap n0 f345 f352 Fp344 f351 f350 (by decide)) hZ (hw _ (List.mem_of_getElem? (i := 74) rfl)) (hw _ (List.mem_of_getElem? (i := 73) rfl)) (by decide) (by decide)) (g := (mkF m 204 #[.val (.int p1), .val (.long q1), .second, .val (.long q2), .second, .val (.int p4), .val (.int p5), .val (.ref v0), .val (.ref v1), .val (.ref v2), .val (.ref v3), .val (.ref o0), .val (.ref o1), .val (.ref o2), .val (.int (2 : Int32)), .val (.ref pa), .val (.ref ck), .unset, .unset] [(.ref ck)])) rfl (by rw [hml]; rfl) (argsL := [(.ref ck)]) (rest := []) (lenOf pd_9 rfl) rfl (by show 2 * 0 + _ ≤ _; exact Nat.le_of_eq rfl) (hb hby at_204) (fun _ _ => ⟨rfl, rfl, (by decide : 9 + 1 ≤ _), (by decide : 18 + 3 ≤ _)⟩)
      dsimp only [Pt.U, Pt.locs, Pt.cells, Pt.slots] at X355 l355 y355 z355 st355 hQ355
      subst l355 y355 z355
      obtain ⟨rr, rfl, Nq355, Kp355, Vr355⟩ := hQ355
      have N355 := Fr.app N344 Nq355
      have k355 : Kt p e below m (s₁.setTop (entryFrame m #[(.int p1), (.long q1), (.long q2), (.int p4), (.int p5)] maxLocals)) T355 207 #[.val (.int p1), .val (.long q1), .second, .val (.long q2), .second, .val (.int p4), .val (.int p5), .val (.ref v0), .val (.ref v1), .val (.ref v2), .val (.ref v3), .val (.ref o0), .val (.ref o1), .val (.ref o2), .val (.int (2 : Int32)), .val (.ref pa), .val (.ref ck), .unset, .unset] [(.ref rr)] := fun t ht => k354 t (st355 t ht)
      have f356 : n0 ≤ T355.heap.size := Nat.le_trans f345 Kp355.1
      have f357 : Old Z n0 T355.heap := f346.keep Kp355 all0
      have f358 : own_ok Z a0 T355.heap o0 := f347.keep Kp355
      have f359 : own_ok Z a0 T355.heap o1 := f348.keep Kp355
      have f360 : own_ok Z a0 T355.heap o2 := f349.keep Kp355
      have f361 : Exa Z T355.heap pa "[Ljava/lang/Object;" := f350.keep Kp355
      have f362 : Arv Z T355.heap pa ak309 (.object "java/lang/Object") (2 : Int32) [(.ref o0), (.ref o1)] .null := f351.keep Kp355 nin0
      have f363 : Exa Z T355.heap ck "com/example/tablepuffer/tablepuffer/CompositeKey" := f352.keep Kp355
      have f364 : Fld Z T355.heap ck "com/example/tablepuffer/tablepuffer/CompositeKey" "parts" "[Ljava/lang/Object;" (.ref pa) := Fp344.keep Kp355 nin0
      have k365 : Kt p e below m (s₁.setTop (entryFrame m #[(.int p1), (.long q1), (.long q2), (.int p4), (.int p5)] maxLocals)) T355 211 #[.val (.int p1), .val (.long q1), .second, .val (.long q2), .second, .val (.int p4), .val (.int p5), .val (.ref v0), .val (.ref v1), .val (.ref v2), .val (.ref v3), .val (.ref o0), .val (.ref o1), .val (.ref o2), .val (.int (2 : Int32)), .val (.ref pa), .val (.ref ck), .val (.ref rr), .unset] [(.ref rr)] := by
        intro t ht
        refine k355 t ?_
        show Steps p.tables e below (T355.setTop (mkF m 207 #[.val (.int p1), .val (.long q1), .second, .val (.long q2), .second, .val (.int p4), .val (.int p5), .val (.ref v0), .val (.ref v1), .val (.ref v2), .val (.ref v3), .val (.ref o0), .val (.ref o1), .val (.ref o2), .val (.int (2 : Int32)), .val (.ref pa), .val (.ref ck), .unset, .unset] [(.ref rr)])) t
        refine XS.astore X355.here hx rfl (hb hby at_207) rfl rfl (l' := #[.val (.int p1), .val (.long q1), .second, .val (.long q2), .second, .val (.int p4), .val (.int p5), .val (.ref v0), .val (.ref v1), .val (.ref v2), .val (.ref v3), .val (.ref o0), .val (.ref o1), .val (.ref o2), .val (.int (2 : Int32)), .val (.ref pa), .val (.ref ck), .val (.ref rr), .unset]) rfl ?_
        show Steps p.tables e below (T355.setTop (mkF m 209 #[.val (.int p1), .val (.long q1), .second, .val (.long q2), .second, .val (.int p4), .val (.int p5), .val (.ref v0), .val (.ref v1), .val (.ref v2), .val (.ref v3), .val (.ref o0), .val (.ref o1), .val (.ref o2), .val (.int (2 : Int32)), .val (.ref pa), .val (.ref ck), .val (.ref rr), .unset] [])) t
        refine XS.aload X355.here hx rfl (hb hby at_209) rfl rfl ?_
        exact ht
      obtain ⟨cl366, Ar366, qc366, Sz366, Nn366, Hh366, Gg366⟩ := id Vr355
      have k367 : Kt p e below m (s₁.setTop (entryFrame m #[(.int p1), (.long q1), (.long q2), (.int p4), (.int p5)] maxLocals)) T355 220 #[.val (.int p1), .val (.long q1), .second, .val (.long q2), .second, .val (.int p4), .val (.int p5), .val (.ref v0), .val (.ref v1), .val (.ref v2), .val (.ref v3), .val (.ref o0), .val (.ref o1), .val (.ref o2), .val (.int (2 : Int32)), .val (.ref pa), .val (.ref ck), .val (.ref rr), .unset] [(.int (0 : Int32)), (.ref rr)] := by
        intro t ht
        refine k365 t ?_
        show Steps p.tables e below (T355.setTop (mkF m 211 #[.val (.int p1), .val (.long q1), .second, .val (.long q2), .second, .val (.int p4), .val (.int p5), .val (.ref v0), .val (.ref v1), .val (.ref v2), .val (.ref v3), .val (.ref o0), .val (.ref o1), .val (.ref o2), .val (.int (2 : Int32)), .val (.ref pa), .val (.ref ck), .val (.ref rr), .unset] [(.ref rr)])) t
        refine X355.arraylength hx Ar366.1 (State.isArrayOf_alike hZ.alike Ar366.2.1) (g := (mkF m 211 #[.val (.int p1), .val (.long q1), .second, .val (.long q2), .second, .val (.int p4), .val (.int p5), .val (.ref v0), .val (.ref v1), .val (.ref v2), .val (.ref v3), .val (.ref o0), .val (.ref o1), .val (.ref o2), .val (.int (2 : Int32)), .val (.ref pa), .val (.ref ck), .val (.ref rr), .unset] [(.ref rr)])) rfl rfl (hb hby at_211) _ ?_
        rw [len_of Sz366 Nn366]
        show Steps p.tables e below (T355.setTop (mkF m 212 #[.val (.int p1), .val (.long q1), .second, .val (.long q2), .second, .val (.int p4), .val (.int p5), .val (.ref v0), .val (.ref v1), .val (.ref v2), .val (.ref v3), .val (.ref o0), .val (.ref o1), .val (.ref o2), .val (.int (2 : Int32)), .val (.ref pa), .val (.ref ck), .val (.ref rr), .unset] [(.int (2 : Int32))])) t
        refine XS.iload X355.here hx rfl (hb hby at_212) rfl ?_
        show Steps p.tables e below (T355.setTop (mkF m 214 #[.val (.int p1), .val (.long q1), .second, .val (.long q2), .second, .val (.int p4), .val (.int p5), .val (.ref v0), .val (.ref v1), .val (.ref v2), .val (.ref v3), .val (.ref o0), .val (.ref o1), .val (.ref o2), .val (.int (2 : Int32)), .val (.ref pa), .val (.ref ck), .val (.ref rr), .unset] [(.int (2 : Int32)), (.int (2 : Int32))])) t
        refine XS.icmpNo X355.here hx rfl (hb hby at_214) rfl (teq rfl).2 ?_
        show Steps p.tables e below (T355.setTop (mkF m 217 #[.val (.int p1), .val (.long q1), .second, .val (.long q2), .second, .val (.int p4), .val (.int p5), .val (.ref v0), .val (.ref v1), .val (.ref v2), .val (.ref v3), .val (.ref o0), .val (.ref o1), .val (.ref o2), .val (.int (2 : Int32)), .val (.ref pa), .val (.ref ck), .val (.ref rr), .unset] [])) t
        refine XS.aload X355.here hx rfl (hb hby at_217) rfl rfl ?_
        show Steps p.tables e below (T355.setTop (mkF m 219 #[.val (.int p1), .val (.long q1), .second, .val (.long q2), .second, .val (.int p4), .val (.int p5), .val (.ref v0), .val (.ref v1), .val (.ref v2), .val (.ref v3), .val (.ref o0), .val (.ref o1), .val (.ref o2), .val (.int (2 : Int32)), .val (.ref pa), .val (.ref ck), .val (.ref rr), .unset] [(.ref rr)])) t
        refine XS.iconst X355.here hx rfl (hb hby at_219) ?_
        exact ht
      obtain ⟨cl368, Ar368, qc368, Sz368, Nn368, Hh368, Gg368⟩ := id Vr355
      have hin368 : ¬ ((0 : Int32) < 0 ∨ cl368.slots.size ≤ ((0 : Int32)).toNatClampNeg) := inb_of Sz368 ⟨by decide, by decide⟩
      have hat368 : cl368.slots[((0 : Int32)).toNatClampNeg]? = some (.ref o0) := Hh368.at hin368 rfl
      have k369 : Kt p e below m (s₁.setTop (entryFrame m #[(.int p1), (.long q1), (.long q2), (.int p4), (.int p5)] maxLocals)) T355 247 #[.val (.int p1), .val (.long q1), .second, .val (.long q2), .second, .val (.int p4), .val (.int p5), .val (.ref v0), .val (.ref v1), .val (.ref v2), .val (.ref v3), .val (.ref o0), .val (.ref o1), .val (.ref o2), .val (.int (2 : Int32)), .val (.ref pa), .val (.ref ck), .val (.ref rr), .val (.int (1 : Int32))] [(.int (1 : Int32)), (.ref rr)] := by
        intro t ht
        refine k367 t ?_
        show Steps p.tables e below (T355.setTop (mkF m 220 #[.val (.int p1), .val (.long q1), .second, .val (.long q2), .second, .val (.int p4), .val (.int p5), .val (.ref v0), .val (.ref v1), .val (.ref v2), .val (.ref v3), .val (.ref o0), .val (.ref o1), .val (.ref o2), .val (.int (2 : Int32)), .val (.ref pa), .val (.ref ck), .val (.ref rr), .unset] [(.int (0 : Int32)), (.ref rr)])) t
        refine X355.aaload hx (j := (0 : Int32)) (v := (.ref o0)) Ar368.1 (State.isArrayOf_alike hZ.alike Ar368.2.1) rfl Ar368.2.2 hin368 hat368 (g := (mkF m 220 #[.val (.int p1), .val (.long q1), .second, .val (.long q2), .second, .val (.int p4), .val (.int p5), .val (.ref v0), .val (.ref v1), .val (.ref v2), .val (.ref v3), .val (.ref o0), .val (.ref o1), .val (.ref o2), .val (.int (2 : Int32)), .val (.ref pa), .val (.ref ck), .val (.ref rr), .unset] [(.int (0 : Int32)), (.ref rr)])) rfl rfl (hb hby at_220) _ ?_
        show Steps p.tables e below (T355.setTop (mkF m 221 #[.val (.int p1), .val (.long q1), .second, .val (.long q2), .second, .val (.int p4), .val (.int p5), .val (.ref v0), .val (.ref v1), .val (.ref v2), .val (.ref v3), .val (.ref o0), .val (.ref o1), .val (.ref o2), .val (.int (2 : Int32)), .val (.ref pa), .val (.ref ck), .val (.ref rr), .unset] [(.ref o0)])) t
        refine XS.aload X355.here hx rfl (hb hby at_221) rfl rfl ?_
        show Steps p.tables e below (T355.setTop (mkF m 223 #[.val (.int p1), .val (.long q1), .second, .val (.long q2), .second, .val (.int p4), .val (.int p5), .val (.ref v0), .val (.ref v1), .val (.ref v2), .val (.ref v3), .val (.ref o0), .val (.ref o1), .val (.ref o2), .val (.int (2 : Int32)), .val (.ref pa), .val (.ref ck), .val (.ref rr), .unset] [(.ref o0), (.ref o0)])) t
        refine Jvm.RoadKit.acmp (g := (mkF m 223 #[.val (.int p1), .val (.long q1), .second, .val (.long q2), .second, .val (.int p4), .val (.int p5), .val (.ref v0), .val (.ref v1), .val (.ref v2), .val (.ref v3), .val (.ref o0), .val (.ref o1), .val (.ref o2), .val (.int (2 : Int32)), .val (.ref pa), .val (.ref ck), .val (.ref rr), .unset] [(.ref o0), (.ref o0)])) X355 hx rfl rfl rfl (pc0 := 223) (pc' := 226) (same := true) rfl (hb hby at_223) rfl (decide_eq_true rfl) (by decide) (by decide) ?_
        show Steps p.tables e below (T355.setTop (mkF m 226 #[.val (.int p1), .val (.long q1), .second, .val (.long q2), .second, .val (.int p4), .val (.int p5), .val (.ref v0), .val (.ref v1), .val (.ref v2), .val (.ref v3), .val (.ref o0), .val (.ref o1), .val (.ref o2), .val (.int (2 : Int32)), .val (.ref pa), .val (.ref ck), .val (.ref rr), .unset] [])) t
        refine XS.iconst X355.here hx rfl (hb hby at_226) ?_
        show Steps p.tables e below (T355.setTop (mkF m 227 #[.val (.int p1), .val (.long q1), .second, .val (.long q2), .second, .val (.int p4), .val (.int p5), .val (.ref v0), .val (.ref v1), .val (.ref v2), .val (.ref v3), .val (.ref o0), .val (.ref o1), .val (.ref o2), .val (.int (2 : Int32)), .val (.ref pa), .val (.ref ck), .val (.ref rr), .unset] [(.int (1 : Int32))])) t
        refine XS.goto X355.here hx rfl (pc0 := 227) (pc' := 231) rfl (hb hby at_227) (by decide) (by decide) ?_
        show Steps p.tables e below (T355.setTop (mkF m 231 #[.val (.int p1), .val (.long q1), .second, .val (.long q2), .second, .val (.int p4), .val (.int p5), .val (.ref v0), .val (.ref v1), .val (.ref v2), .val (.ref v3), .val (.ref o0), .val (.ref o1), .val (.ref o2), .val (.int (2 : Int32)), .val (.ref pa), .val (.ref ck), .val (.ref rr), .unset] [(.int (1 : Int32))])) t
        refine XS.istore X355.here hx rfl (hb hby at_231) rfl (l' := #[.val (.int p1), .val (.long q1), .second, .val (.long q2), .second, .val (.int p4), .val (.int p5), .val (.ref v0), .val (.ref v1), .val (.ref v2), .val (.ref v3), .val (.ref o0), .val (.ref o1), .val (.ref o2), .val (.int (2 : Int32)), .val (.ref pa), .val (.ref ck), .val (.ref rr), .val (.int (1 : Int32))]) rfl ?_
        show Steps p.tables e below (T355.setTop (mkF m 233 #[.val (.int p1), .val (.long q1), .second, .val (.long q2), .second, .val (.int p4), .val (.int p5), .val (.ref v0), .val (.ref v1), .val (.ref v2), .val (.ref v3), .val (.ref o0), .val (.ref o1), .val (.ref o2), .val (.int (2 : Int32)), .val (.ref pa), .val (.ref ck), .val (.ref rr), .val (.int (1 : Int32))] [])) t
        refine XS.iload X355.here hx rfl (hb hby at_233) rfl ?_
        show Steps p.tables e below (T355.setTop (mkF m 235 #[.val (.int p1), .val (.long q1), .second, .val (.long q2), .second, .val (.int p4), .val (.int p5), .val (.ref v0), .val (.ref v1), .val (.ref v2), .val (.ref v3), .val (.ref o0), .val (.ref o1), .val (.ref o2), .val (.int (2 : Int32)), .val (.ref pa), .val (.ref ck), .val (.ref rr), .val (.int (1 : Int32))] [(.int (1 : Int32))])) t
        refine XS.ifNo X355.here hx rfl (hb hby at_235) rfl ((if0 _ _).trans (feq (by decide)).1) ?_
        show Steps p.tables e below (T355.setTop (mkF m 238 #[.val (.int p1), .val (.long q1), .second, .val (.long q2), .second, .val (.int p4), .val (.int p5), .val (.ref v0), .val (.ref v1), .val (.ref v2), .val (.ref v3), .val (.ref o0), .val (.ref o1), .val (.ref o2), .val (.int (2 : Int32)), .val (.ref pa), .val (.ref ck), .val (.ref rr), .val (.int (1 : Int32))] [])) t
        refine XS.iload X355.here hx rfl (hb hby at_238) rfl ?_
        show Steps p.tables e below (T355.setTop (mkF m 240 #[.val (.int p1), .val (.long q1), .second, .val (.long q2), .second, .val (.int p4), .val (.int p5), .val (.ref v0), .val (.ref v1), .val (.ref v2), .val (.ref v3), .val (.ref o0), .val (.ref o1), .val (.ref o2), .val (.int (2 : Int32)), .val (.ref pa), .val (.ref ck), .val (.ref rr), .val (.int (1 : Int32))] [(.int (2 : Int32))])) t
        refine XS.iconst X355.here hx rfl (hb hby at_240) ?_
        show Steps p.tables e below (T355.setTop (mkF m 241 #[.val (.int p1), .val (.long q1), .second, .val (.long q2), .second, .val (.int p4), .val (.int p5), .val (.ref v0), .val (.ref v1), .val (.ref v2), .val (.ref v3), .val (.ref o0), .val (.ref o1), .val (.ref o2), .val (.int (2 : Int32)), .val (.ref pa), .val (.ref ck), .val (.ref rr), .val (.int (1 : Int32))] [(.int (1 : Int32)), (.int (2 : Int32))])) t
        refine XS.icmpNo X355.here hx rfl (hb hby at_241) rfl (tlt (by decide)).2.2.2 ?_
        show Steps p.tables e below (T355.setTop (mkF m 244 #[.val (.int p1), .val (.long q1), .second, .val (.long q2), .second, .val (.int p4), .val (.int p5), .val (.ref v0), .val (.ref v1), .val (.ref v2), .val (.ref v3), .val (.ref o0), .val (.ref o1), .val (.ref o2), .val (.int (2 : Int32)), .val (.ref pa), .val (.ref ck), .val (.ref rr), .val (.int (1 : Int32))] [])) t
        refine XS.aload X355.here hx rfl (hb hby at_244) rfl rfl ?_
        show Steps p.tables e below (T355.setTop (mkF m 246 #[.val (.int p1), .val (.long q1), .second, .val (.long q2), .second, .val (.int p4), .val (.int p5), .val (.ref v0), .val (.ref v1), .val (.ref v2), .val (.ref v3), .val (.ref o0), .val (.ref o1), .val (.ref o2), .val (.int (2 : Int32)), .val (.ref pa), .val (.ref ck), .val (.ref rr), .val (.int (1 : Int32))] [(.ref rr)])) t
        refine XS.iconst X355.here hx rfl (hb hby at_246) ?_
        exact ht
      obtain ⟨cl370, Ar370, qc370, Sz370, Nn370, Hh370, Gg370⟩ := id Vr355
      have hin370 : ¬ ((1 : Int32) < 0 ∨ cl370.slots.size ≤ ((1 : Int32)).toNatClampNeg) := inb_of Sz370 ⟨by decide, by decide⟩
      have hat370 : cl370.slots[((1 : Int32)).toNatClampNeg]? = some (.ref o1) := Hh370.at hin370 rfl
      have k371 : Kt p e below m (s₁.setTop (entryFrame m #[(.int p1), (.long q1), (.long q2), (.int p4), (.int p5)] maxLocals)) T355 289 #[.val (.int p1), .val (.long q1), .second, .val (.long q2), .second, .val (.int p4), .val (.int p5), .val (.ref v0), .val (.ref v1), .val (.ref v2), .val (.ref v3), .val (.ref o0), .val (.ref o1), .val (.ref o2), .val (.int (2 : Int32)), .val (.ref pa), .val (.ref ck), .val (.ref rr), .val (.int (1 : Int32))] [(.int (1 : Int32))] := by
        intro t ht
        refine k369 t ?_
        show Steps p.tables e below (T355.setTop (mkF m 247 #[.val (.int p1), .val (.long q1), .second, .val (.long q2), .second, .val (.int p4), .val (.int p5), .val (.ref v0), .val (.ref v1), .val (.ref v2), .val (.ref v3), .val (.ref o0), .val (.ref o1), .val (.ref o2), .val (.int (2 : Int32)), .val (.ref pa), .val (.ref ck), .val (.ref rr), .val (.int (1 : Int32))] [(.int (1 : Int32)), (.ref rr)])) t
        refine X355.aaload hx (j := (1 : Int32)) (v := (.ref o1)) Ar370.1 (State.isArrayOf_alike hZ.alike Ar370.2.1) rfl Ar370.2.2 hin370 hat370 (g := (mkF m 247 #[.val (.int p1), .val (.long q1), .second, .val (.long q2), .second, .val (.int p4), .val (.int p5), .val (.ref v0), .val (.ref v1), .val (.ref v2), .val (.ref v3), .val (.ref o0), .val (.ref o1), .val (.ref o2), .val (.int (2 : Int32)), .val (.ref pa), .val (.ref ck), .val (.ref rr), .val (.int (1 : Int32))] [(.int (1 : Int32)), (.ref rr)])) rfl rfl (hb hby at_247) _ ?_
        show Steps p.tables e below (T355.setTop (mkF m 248 #[.val (.int p1), .val (.long q1), .second, .val (.long q2), .second, .val (.int p4), .val (.int p5), .val (.ref v0), .val (.ref v1), .val (.ref v2), .val (.ref v3), .val (.ref o0), .val (.ref o1), .val (.ref o2), .val (.int (2 : Int32)), .val (.ref pa), .val (.ref ck), .val (.ref rr), .val (.int (1 : Int32))] [(.ref o1)])) t
        refine XS.aload X355.here hx rfl (hb hby at_248) rfl rfl ?_
        show Steps p.tables e below (T355.setTop (mkF m 250 #[.val (.int p1), .val (.long q1), .second, .val (.long q2), .second, .val (.int p4), .val (.int p5), .val (.ref v0), .val (.ref v1), .val (.ref v2), .val (.ref v3), .val (.ref o0), .val (.ref o1), .val (.ref o2), .val (.int (2 : Int32)), .val (.ref pa), .val (.ref ck), .val (.ref rr), .val (.int (1 : Int32))] [(.ref o1), (.ref o1)])) t
        refine Jvm.RoadKit.acmp (g := (mkF m 250 #[.val (.int p1), .val (.long q1), .second, .val (.long q2), .second, .val (.int p4), .val (.int p5), .val (.ref v0), .val (.ref v1), .val (.ref v2), .val (.ref v3), .val (.ref o0), .val (.ref o1), .val (.ref o2), .val (.int (2 : Int32)), .val (.ref pa), .val (.ref ck), .val (.ref rr), .val (.int (1 : Int32))] [(.ref o1), (.ref o1)])) X355 hx rfl rfl rfl (pc0 := 250) (pc' := 253) (same := true) rfl (hb hby at_250) rfl (decide_eq_true rfl) (by decide) (by decide) ?_
        show Steps p.tables e below (T355.setTop (mkF m 253 #[.val (.int p1), .val (.long q1), .second, .val (.long q2), .second, .val (.int p4), .val (.int p5), .val (.ref v0), .val (.ref v1), .val (.ref v2), .val (.ref v3), .val (.ref o0), .val (.ref o1), .val (.ref o2), .val (.int (2 : Int32)), .val (.ref pa), .val (.ref ck), .val (.ref rr), .val (.int (1 : Int32))] [])) t
        refine XS.iconst X355.here hx rfl (hb hby at_253) ?_
        show Steps p.tables e below (T355.setTop (mkF m 254 #[.val (.int p1), .val (.long q1), .second, .val (.long q2), .second, .val (.int p4), .val (.int p5), .val (.ref v0), .val (.ref v1), .val (.ref v2), .val (.ref v3), .val (.ref o0), .val (.ref o1), .val (.ref o2), .val (.int (2 : Int32)), .val (.ref pa), .val (.ref ck), .val (.ref rr), .val (.int (1 : Int32))] [(.int (1 : Int32))])) t
        refine XS.goto X355.here hx rfl (pc0 := 254) (pc' := 258) rfl (hb hby at_254) (by decide) (by decide) ?_
        show Steps p.tables e below (T355.setTop (mkF m 258 #[.val (.int p1), .val (.long q1), .second, .val (.long q2), .second, .val (.int p4), .val (.int p5), .val (.ref v0), .val (.ref v1), .val (.ref v2), .val (.ref v3), .val (.ref o0), .val (.ref o1), .val (.ref o2), .val (.int (2 : Int32)), .val (.ref pa), .val (.ref ck), .val (.ref rr), .val (.int (1 : Int32))] [(.int (1 : Int32))])) t
        refine XS.istore X355.here hx rfl (hb hby at_258) rfl (l' := #[.val (.int p1), .val (.long q1), .second, .val (.long q2), .second, .val (.int p4), .val (.int p5), .val (.ref v0), .val (.ref v1), .val (.ref v2), .val (.ref v3), .val (.ref o0), .val (.ref o1), .val (.ref o2), .val (.int (2 : Int32)), .val (.ref pa), .val (.ref ck), .val (.ref rr), .val (.int (1 : Int32))]) rfl ?_
        show Steps p.tables e below (T355.setTop (mkF m 260 #[.val (.int p1), .val (.long q1), .second, .val (.long q2), .second, .val (.int p4), .val (.int p5), .val (.ref v0), .val (.ref v1), .val (.ref v2), .val (.ref v3), .val (.ref o0), .val (.ref o1), .val (.ref o2), .val (.int (2 : Int32)), .val (.ref pa), .val (.ref ck), .val (.ref rr), .val (.int (1 : Int32))] [])) t
        refine XS.iload X355.here hx rfl (hb hby at_260) rfl ?_
        show Steps p.tables e below (T355.setTop (mkF m 262 #[.val (.int p1), .val (.long q1), .second, .val (.long q2), .second, .val (.int p4), .val (.int p5), .val (.ref v0), .val (.ref v1), .val (.ref v2), .val (.ref v3), .val (.ref o0), .val (.ref o1), .val (.ref o2), .val (.int (2 : Int32)), .val (.ref pa), .val (.ref ck), .val (.ref rr), .val (.int (1 : Int32))] [(.int (1 : Int32))])) t
        refine XS.ifNo X355.here hx rfl (hb hby at_262) rfl ((if0 _ _).trans (feq (by decide)).1) ?_
        show Steps p.tables e below (T355.setTop (mkF m 265 #[.val (.int p1), .val (.long q1), .second, .val (.long q2), .second, .val (.int p4), .val (.int p5), .val (.ref v0), .val (.ref v1), .val (.ref v2), .val (.ref v3), .val (.ref o0), .val (.ref o1), .val (.ref o2), .val (.int (2 : Int32)), .val (.ref pa), .val (.ref ck), .val (.ref rr), .val (.int (1 : Int32))] [])) t
        refine XS.iload X355.here hx rfl (hb hby at_265) rfl ?_
        show Steps p.tables e below (T355.setTop (mkF m 267 #[.val (.int p1), .val (.long q1), .second, .val (.long q2), .second, .val (.int p4), .val (.int p5), .val (.ref v0), .val (.ref v1), .val (.ref v2), .val (.ref v3), .val (.ref o0), .val (.ref o1), .val (.ref o2), .val (.int (2 : Int32)), .val (.ref pa), .val (.ref ck), .val (.ref rr), .val (.int (1 : Int32))] [(.int (2 : Int32))])) t
        refine XS.iconst X355.here hx rfl (hb hby at_267) ?_
        show Steps p.tables e below (T355.setTop (mkF m 268 #[.val (.int p1), .val (.long q1), .second, .val (.long q2), .second, .val (.int p4), .val (.int p5), .val (.ref v0), .val (.ref v1), .val (.ref v2), .val (.ref v3), .val (.ref o0), .val (.ref o1), .val (.ref o2), .val (.int (2 : Int32)), .val (.ref pa), .val (.ref ck), .val (.ref rr), .val (.int (1 : Int32))] [(.int (2 : Int32)), (.int (2 : Int32))])) t
        refine XS.icmpYes X355.here hx rfl (pc0 := 268) (pc' := 287) rfl (hb hby at_268) rfl (flt (by decide)).2.2.2 (by decide) (by decide) ?_
        show Steps p.tables e below (T355.setTop (mkF m 287 #[.val (.int p1), .val (.long q1), .second, .val (.long q2), .second, .val (.int p4), .val (.int p5), .val (.ref v0), .val (.ref v1), .val (.ref v2), .val (.ref v3), .val (.ref o0), .val (.ref o1), .val (.ref o2), .val (.int (2 : Int32)), .val (.ref pa), .val (.ref ck), .val (.ref rr), .val (.int (1 : Int32))] [])) t
        refine XS.iload X355.here hx rfl (hb hby at_287) rfl ?_
        exact ht
      obtain ⟨fs, hr, hrun, hended, hW, hsame⟩ := X355.leave (v := some (.int (1 : Int32))) (fun h => by rw [Bd.returns] at h; cases h)
      refine ⟨_, _, k371 _ ?_, hrun, hended, _, _, rfl, ?_, ⟨_, rfl⟩, hW, hsame.mono (by decide) (by decide)⟩
      · exact retN X355 hx (t := .boolean) Bd.returns (by simp) (hb hby at_289) hr
      · show Q0 Z p1 q1 q2 p4 p5 G1 ca cc va h0 n0 _ T355.heap _
        exact ⟨rfl, N355⟩
    · rw [hN] at k256
      obtain ⟨T372, h372, ak372, X372, e372, E372, A372, Ax372, O372, st372⟩ := newRE X228 hx hZ hown (hw _ (List.mem_of_getElem? (i := 82) rfl)) (hw _ (List.mem_of_getElem? (i := 80) rfl)) rfl (g := (mkF m 156 #[.val (.int p1), .val (.long q1), .second, .val (.long q2), .second, .val (.int p4), .val (.int p5), .val (.ref v0), .val (.ref v1), .val (.ref v2), .val (.ref v3), .val (.ref o0), .val (.ref o1), .val (.ref o2), .val (.int (3 : Int32)), .unset, .unset, .unset, .unset] [(.int (3 : Int32))])) rfl (hb hby at_156) rfl (by decide) (cap := 3) (by decide) (by decide) (by decide) (by decide) (ad := "[Ljava/lang/Object;") (by decide)
      obtain ⟨pa, q372⟩ : ∃ z, z = T228.heap.size := ⟨_, rfl⟩
      have ne_o0_pa : o0 ≠ pa := by rw [q372]; exact Nat.ne_of_lt f237.lt
      have ne_o1_pa : o1 ≠ pa := by rw [q372]; exact Nat.ne_of_lt f238.lt
      have ne_o2_pa : o2 ≠ pa := by rw [q372]; exact Nat.ne_of_lt f240.lt
      have g_pa : n0 ≤ pa := by rw [q372]; exact f229
      rw [← q372] at A372 st372 Ax372
      have f373 : n0 ≤ h372.size := Nat.le_trans f229 E372.1
      have f374 : Old Z n0 h372 := f230.ext E372
      have f375 : own_ok Z a0 h372 o0 := f237.ext E372
      have f376 : own_ok Z a0 h372 o1 := f238.ext E372
      have f377 : own_ok Z a0 h372 o2 := f240.ext E372
      have f372 : Arv Z h372 pa ak372 (.object "java/lang/Object") (3 : Int32) [.null, .null, .null] .null := (Arv.new A372 (by decide)).pad (pad_rep [] .null 3)
      have k372 : Kt p e below m (s₁.setTop (entryFrame m #[(.int p1), (.long q1), (.long q2), (.int p4), (.int p5)] maxLocals)) T372 159 #[.val (.int p1), .val (.long q1), .second, .val (.long q2), .second, .val (.int p4), .val (.int p5), .val (.ref v0), .val (.ref v1), .val (.ref v2), .val (.ref v3), .val (.ref o0), .val (.ref o1), .val (.ref o2), .val (.int (3 : Int32)), .unset, .unset, .unset, .unset] [(.ref pa)] := fun t ht => k256 t (st372 t ht)
      have k378 : Kt p e below m (s₁.setTop (entryFrame m #[(.int p1), (.long q1), (.long q2), (.int p4), (.int p5)] maxLocals)) T372 166 #[.val (.int p1), .val (.long q1), .second, .val (.long q2), .second, .val (.int p4), .val (.int p5), .val (.ref v0), .val (.ref v1), .val (.ref v2), .val (.ref v3), .val (.ref o0), .val (.ref o1), .val (.ref o2), .val (.int (3 : Int32)), .val (.ref pa), .unset, .unset, .unset] [(.ref o0), (.int (0 : Int32)), (.ref pa)] := by
        intro t ht
        refine k372 t ?_
        show Steps p.tables e below (T372.setTop (mkF m 159 #[.val (.int p1), .val (.long q1), .second, .val (.long q2), .second, .val (.int p4), .val (.int p5), .val (.ref v0), .val (.ref v1), .val (.ref v2), .val (.ref v3), .val (.ref o0), .val (.ref o1), .val (.ref o2), .val (.int (3 : Int32)), .unset, .unset, .unset, .unset] [(.ref pa)])) t
        refine XS.astore X372.here hx rfl (hb hby at_159) rfl rfl (l' := #[.val (.int p1), .val (.long q1), .second, .val (.long q2), .second, .val (.int p4), .val (.int p5), .val (.ref v0), .val (.ref v1), .val (.ref v2), .val (.ref v3), .val (.ref o0), .val (.ref o1), .val (.ref o2), .val (.int (3 : Int32)), .val (.ref pa), .unset, .unset, .unset]) rfl ?_
        show Steps p.tables e below (T372.setTop (mkF m 161 #[.val (.int p1), .val (.long q1), .second, .val (.long q2), .second, .val (.int p4), .val (.int p5), .val (.ref v0), .val (.ref v1), .val (.ref v2), .val (.ref v3), .val (.ref o0), .val (.ref o1), .val (.ref o2), .val (.int (3 : Int32)), .val (.ref pa), .unset, .unset, .unset] [])) t
        refine XS.aload X372.here hx rfl (hb hby at_161) rfl rfl ?_
        show Steps p.tables e below (T372.setTop (mkF m 163 #[.val (.int p1), .val (.long q1), .second, .val (.long q2), .second, .val (.int p4), .val (.int p5), .val (.ref v0), .val (.ref v1), .val (.ref v2), .val (.ref v3), .val (.ref o0), .val (.ref o1), .val (.ref o2), .val (.int (3 : Int32)), .val (.ref pa), .unset, .unset, .unset] [(.ref pa)])) t
        refine XS.iconst X372.here hx rfl (hb hby at_163) ?_
        show Steps p.tables e below (T372.setTop (mkF m 164 #[.val (.int p1), .val (.long q1), .second, .val (.long q2), .second, .val (.int p4), .val (.int p5), .val (.ref v0), .val (.ref v1), .val (.ref v2), .val (.ref v3), .val (.ref o0), .val (.ref o1), .val (.ref o2), .val (.int (3 : Int32)), .val (.ref pa), .unset, .unset, .unset] [(.int (0 : Int32)), (.ref pa)])) t
        refine XS.aload X372.here hx rfl (hb hby at_164) rfl rfl ?_
        exact ht
      obtain ⟨cl379, Ar379, qc379, Sz379, Nn379, Hh379, Gg379⟩ := id f372
      have hin379 : ¬ ((0 : Int32) < 0 ∨ cl379.slots.size ≤ ((0 : Int32)).toNatClampNeg) := inb_of Sz379 ⟨by decide, by decide⟩
      obtain ⟨T379, h379, X379, e379, W379, st379⟩ := stR X372 hx hZ e372 Ar379 (j := (0 : Int32)) hin379 rfl (Sto.ofV Ar379 qc379 O372 (f375).ins) (g := (mkF m 166 #[.val (.int p1), .val (.long q1), .second, .val (.long q2), .second, .val (.int p4), .val (.int p5), .val (.ref v0), .val (.ref v1), .val (.ref v2), .val (.ref v3), .val (.ref o0), .val (.ref o1), .val (.ref o2), .val (.int (3 : Int32)), .val (.ref pa), .unset, .unset, .unset] [(.ref o0), (.int (0 : Int32)), (.ref pa)])) rfl rfl (hb hby at_166)
      have N379 := Fr.snoc X379 N228 g_pa
      have f380 : n0 ≤ h379.size := Nat.le_trans f373 (Keep.of_wr W379).1
      have f381 : Old Z n0 h379 := f374.wr W379 g_pa
      have f382 : own_ok Z a0 h379 o0 := f375.wr W379
      have f383 : own_ok Z a0 h379 o1 := f376.wr W379
      have f384 : own_ok Z a0 h379 o2 := f377.wr W379
      have f385 : Exa Z h379 pa "[Ljava/lang/Object;" := Ax372.wr W379
      have f386 : Arv Z h379 pa ak372 (.object "java/lang/Object") (3 : Int32) [(.ref o0), .null, .null] .null := Arv.set Ar379 qc379 Sz379 Nn379 Hh379 Gg379 rfl W379 0 rfl (Nat.le_of_ble_eq_true rfl)
      have k379 : Kt p e below m (s₁.setTop (entryFrame m #[(.int p1), (.long q1), (.long q2), (.int p4), (.int p5)] maxLocals)) T379 167 #[.val (.int p1), .val (.long q1), .second, .val (.long q2), .second, .val (.int p4), .val (.int p5), .val (.ref v0), .val (.ref v1), .val (.ref v2), .val (.ref v3), .val (.ref o0), .val (.ref o1), .val (.ref o2), .val (.int (3 : Int32)), .val (.ref pa), .unset, .unset, .unset] [] := fun t ht => k378 t (st379 t ht)
      have k387 : Kt p e below m (s₁.setTop (entryFrame m #[(.int p1), (.long q1), (.long q2), (.int p4), (.int p5)] maxLocals)) T379 178 #[.val (.int p1), .val (.long q1), .second, .val (.long q2), .second, .val (.int p4), .val (.int p5), .val (.ref v0), .val (.ref v1), .val (.ref v2), .val (.ref v3), .val (.ref o0), .val (.ref o1), .val (.ref o2), .val (.int (3 : Int32)), .val (.ref pa), .unset, .unset, .unset] [(.ref o1), (.int (1 : Int32)), (.ref pa)] := by
        intro t ht
        refine k379 t ?_
        show Steps p.tables e below (T379.setTop (mkF m 167 #[.val (.int p1), .val (.long q1), .second, .val (.long q2), .second, .val (.int p4), .val (.int p5), .val (.ref v0), .val (.ref v1), .val (.ref v2), .val (.ref v3), .val (.ref o0), .val (.ref o1), .val (.ref o2), .val (.int (3 : Int32)), .val (.ref pa), .unset, .unset, .unset] [])) t
        refine XS.iload X379.here hx rfl (hb hby at_167) rfl ?_
        show Steps p.tables e below (T379.setTop (mkF m 169 #[.val (.int p1), .val (.long q1), .second, .val (.long q2), .second, .val (.int p4), .val (.int p5), .val (.ref v0), .val (.ref v1), .val (.ref v2), .val (.ref v3), .val (.ref o0), .val (.ref o1), .val (.ref o2), .val (.int (3 : Int32)), .val (.ref pa), .unset, .unset, .unset] [(.int (3 : Int32))])) t
        refine XS.iconst X379.here hx rfl (hb hby at_169) ?_
        show Steps p.tables e below (T379.setTop (mkF m 170 #[.val (.int p1), .val (.long q1), .second, .val (.long q2), .second, .val (.int p4), .val (.int p5), .val (.ref v0), .val (.ref v1), .val (.ref v2), .val (.ref v3), .val (.ref o0), .val (.ref o1), .val (.ref o2), .val (.int (3 : Int32)), .val (.ref pa), .unset, .unset, .unset] [(.int (1 : Int32)), (.int (3 : Int32))])) t
        refine XS.icmpNo X379.here hx rfl (hb hby at_170) rfl (tlt (by decide)).2.2.2 ?_
        show Steps p.tables e below (T379.setTop (mkF m 173 #[.val (.int p1), .val (.long q1), .second, .val (.long q2), .second, .val (.int p4), .val (.int p5), .val (.ref v0), .val (.ref v1), .val (.ref v2), .val (.ref v3), .val (.ref o0), .val (.ref o1), .val (.ref o2), .val (.int (3 : Int32)), .val (.ref pa), .unset, .unset, .unset] [])) t
        refine XS.aload X379.here hx rfl (hb hby at_173) rfl rfl ?_
        show Steps p.tables e below (T379.setTop (mkF m 175 #[.val (.int p1), .val (.long q1), .second, .val (.long q2), .second, .val (.int p4), .val (.int p5), .val (.ref v0), .val (.ref v1), .val (.ref v2), .val (.ref v3), .val (.ref o0), .val (.ref o1), .val (.ref o2), .val (.int (3 : Int32)), .val (.ref pa), .unset, .unset, .unset] [(.ref pa)])) t
        refine XS.iconst X379.here hx rfl (hb hby at_175) ?_
        show Steps p.tables e below (T379.setTop (mkF m 176 #[.val (.int p1), .val (.long q1), .second, .val (.long q2), .second, .val (.int p4), .val (.int p5), .val (.ref v0), .val (.ref v1), .val (.ref v2), .val (.ref v3), .val (.ref o0), .val (.ref o1), .val (.ref o2), .val (.int (3 : Int32)), .val (.ref pa), .unset, .unset, .unset] [(.int (1 : Int32)), (.ref pa)])) t
        refine XS.aload X379.here hx rfl (hb hby at_176) rfl rfl ?_
        exact ht
      obtain ⟨cl388, Ar388, qc388, Sz388, Nn388, Hh388, Gg388⟩ := id f386
      have hin388 : ¬ ((1 : Int32) < 0 ∨ cl388.slots.size ≤ ((1 : Int32)).toNatClampNeg) := inb_of Sz388 ⟨by decide, by decide⟩
      obtain ⟨T388, h388, X388, e388, W388, st388⟩ := stR X379 hx hZ e379 Ar388 (j := (1 : Int32)) hin388 rfl (Sto.ofV Ar388 qc388 O372 (f383).ins) (g := (mkF m 178 #[.val (.int p1), .val (.long q1), .second, .val (.long q2), .second, .val (.int p4), .val (.int p5), .val (.ref v0), .val (.ref v1), .val (.ref v2), .val (.ref v3), .val (.ref o0), .val (.ref o1), .val (.ref o2), .val (.int (3 : Int32)), .val (.ref pa), .unset, .unset, .unset] [(.ref o1), (.int (1 : Int32)), (.ref pa)])) rfl rfl (hb hby at_178)
      have N388 := Fr.snoc X388 N379 g_pa
      have f389 : n0 ≤ h388.size := Nat.le_trans f380 (Keep.of_wr W388).1
      have f390 : Old Z n0 h388 := f381.wr W388 g_pa
      have f391 : own_ok Z a0 h388 o0 := f382.wr W388
      have f392 : own_ok Z a0 h388 o1 := f383.wr W388
      have f393 : own_ok Z a0 h388 o2 := f384.wr W388
      have f394 : Exa Z h388 pa "[Ljava/lang/Object;" := f385.wr W388
      have f395 : Arv Z h388 pa ak372 (.object "java/lang/Object") (3 : Int32) [(.ref o0), (.ref o1), .null] .null := Arv.set Ar388 qc388 Sz388 Nn388 Hh388 Gg388 rfl W388 1 rfl (Nat.le_of_ble_eq_true rfl)
      have k388 : Kt p e below m (s₁.setTop (entryFrame m #[(.int p1), (.long q1), (.long q2), (.int p4), (.int p5)] maxLocals)) T388 179 #[.val (.int p1), .val (.long q1), .second, .val (.long q2), .second, .val (.int p4), .val (.int p5), .val (.ref v0), .val (.ref v1), .val (.ref v2), .val (.ref v3), .val (.ref o0), .val (.ref o1), .val (.ref o2), .val (.int (3 : Int32)), .val (.ref pa), .unset, .unset, .unset] [] := fun t ht => k387 t (st388 t ht)
      have k396 : Kt p e below m (s₁.setTop (entryFrame m #[(.int p1), (.long q1), (.long q2), (.int p4), (.int p5)] maxLocals)) T388 190 #[.val (.int p1), .val (.long q1), .second, .val (.long q2), .second, .val (.int p4), .val (.int p5), .val (.ref v0), .val (.ref v1), .val (.ref v2), .val (.ref v3), .val (.ref o0), .val (.ref o1), .val (.ref o2), .val (.int (3 : Int32)), .val (.ref pa), .unset, .unset, .unset] [(.ref o2), (.int (2 : Int32)), (.ref pa)] := by
        intro t ht
        refine k388 t ?_
        show Steps p.tables e below (T388.setTop (mkF m 179 #[.val (.int p1), .val (.long q1), .second, .val (.long q2), .second, .val (.int p4), .val (.int p5), .val (.ref v0), .val (.ref v1), .val (.ref v2), .val (.ref v3), .val (.ref o0), .val (.ref o1), .val (.ref o2), .val (.int (3 : Int32)), .val (.ref pa), .unset, .unset, .unset] [])) t
        refine XS.iload X388.here hx rfl (hb hby at_179) rfl ?_
        show Steps p.tables e below (T388.setTop (mkF m 181 #[.val (.int p1), .val (.long q1), .second, .val (.long q2), .second, .val (.int p4), .val (.int p5), .val (.ref v0), .val (.ref v1), .val (.ref v2), .val (.ref v3), .val (.ref o0), .val (.ref o1), .val (.ref o2), .val (.int (3 : Int32)), .val (.ref pa), .unset, .unset, .unset] [(.int (3 : Int32))])) t
        refine XS.iconst X388.here hx rfl (hb hby at_181) ?_
        show Steps p.tables e below (T388.setTop (mkF m 182 #[.val (.int p1), .val (.long q1), .second, .val (.long q2), .second, .val (.int p4), .val (.int p5), .val (.ref v0), .val (.ref v1), .val (.ref v2), .val (.ref v3), .val (.ref o0), .val (.ref o1), .val (.ref o2), .val (.int (3 : Int32)), .val (.ref pa), .unset, .unset, .unset] [(.int (2 : Int32)), (.int (3 : Int32))])) t
        refine XS.icmpNo X388.here hx rfl (hb hby at_182) rfl (tlt (by decide)).2.2.2 ?_
        show Steps p.tables e below (T388.setTop (mkF m 185 #[.val (.int p1), .val (.long q1), .second, .val (.long q2), .second, .val (.int p4), .val (.int p5), .val (.ref v0), .val (.ref v1), .val (.ref v2), .val (.ref v3), .val (.ref o0), .val (.ref o1), .val (.ref o2), .val (.int (3 : Int32)), .val (.ref pa), .unset, .unset, .unset] [])) t
        refine XS.aload X388.here hx rfl (hb hby at_185) rfl rfl ?_
        show Steps p.tables e below (T388.setTop (mkF m 187 #[.val (.int p1), .val (.long q1), .second, .val (.long q2), .second, .val (.int p4), .val (.int p5), .val (.ref v0), .val (.ref v1), .val (.ref v2), .val (.ref v3), .val (.ref o0), .val (.ref o1), .val (.ref o2), .val (.int (3 : Int32)), .val (.ref pa), .unset, .unset, .unset] [(.ref pa)])) t
        refine XS.iconst X388.here hx rfl (hb hby at_187) ?_
        show Steps p.tables e below (T388.setTop (mkF m 188 #[.val (.int p1), .val (.long q1), .second, .val (.long q2), .second, .val (.int p4), .val (.int p5), .val (.ref v0), .val (.ref v1), .val (.ref v2), .val (.ref v3), .val (.ref o0), .val (.ref o1), .val (.ref o2), .val (.int (3 : Int32)), .val (.ref pa), .unset, .unset, .unset] [(.int (2 : Int32)), (.ref pa)])) t
        refine XS.aload X388.here hx rfl (hb hby at_188) rfl rfl ?_
        exact ht
      obtain ⟨cl397, Ar397, qc397, Sz397, Nn397, Hh397, Gg397⟩ := id f395
      have hin397 : ¬ ((2 : Int32) < 0 ∨ cl397.slots.size ≤ ((2 : Int32)).toNatClampNeg) := inb_of Sz397 ⟨by decide, by decide⟩
      obtain ⟨T397, h397, X397, e397, W397, st397⟩ := stR X388 hx hZ e388 Ar397 (j := (2 : Int32)) hin397 rfl (Sto.ofV Ar397 qc397 O372 (f393).ins) (g := (mkF m 190 #[.val (.int p1), .val (.long q1), .second, .val (.long q2), .second, .val (.int p4), .val (.int p5), .val (.ref v0), .val (.ref v1), .val (.ref v2), .val (.ref v3), .val (.ref o0), .val (.ref o1), .val (.ref o2), .val (.int (3 : Int32)), .val (.ref pa), .unset, .unset, .unset] [(.ref o2), (.int (2 : Int32)), (.ref pa)])) rfl rfl (hb hby at_190)
      have N397 := Fr.snoc X397 N388 g_pa
      have f398 : n0 ≤ h397.size := Nat.le_trans f389 (Keep.of_wr W397).1
      have f399 : Old Z n0 h397 := f390.wr W397 g_pa
      have f400 : own_ok Z a0 h397 o0 := f391.wr W397
      have f401 : own_ok Z a0 h397 o1 := f392.wr W397
      have f402 : own_ok Z a0 h397 o2 := f393.wr W397
      have f403 : Exa Z h397 pa "[Ljava/lang/Object;" := f394.wr W397
      have f404 : Arv Z h397 pa ak372 (.object "java/lang/Object") (3 : Int32) [(.ref o0), (.ref o1), (.ref o2)] .null := Arv.set Ar397 qc397 Sz397 Nn397 Hh397 Gg397 rfl W397 2 rfl (Nat.le_of_ble_eq_true rfl)
      have k397 : Kt p e below m (s₁.setTop (entryFrame m #[(.int p1), (.long q1), (.long q2), (.int p4), (.int p5)] maxLocals)) T397 191 #[.val (.int p1), .val (.long q1), .second, .val (.long q2), .second, .val (.int p4), .val (.int p5), .val (.ref v0), .val (.ref v1), .val (.ref v2), .val (.ref v3), .val (.ref o0), .val (.ref o1), .val (.ref o2), .val (.int (3 : Int32)), .val (.ref pa), .unset, .unset, .unset] [] := fun t ht => k396 t (st397 t ht)
      obtain ⟨T405, h405, X405, e405, E405, A405, D405, -, st405⟩ := newO X397 hx hZ hown (hw _ (List.mem_of_getElem? (i := 84) rfl)) (hw _ (List.mem_of_getElem? (i := 85) rfl)) (hw _ (List.mem_of_getElem? (i := 86) rfl)) e397 (g := (mkF m 191 #[.val (.int p1), .val (.long q1), .second, .val (.long q2), .second, .val (.int p4), .val (.int p5), .val (.ref v0), .val (.ref v1), .val (.ref v2), .val (.ref v3), .val (.ref o0), .val (.ref o1), .val (.ref o2), .val (.int (3 : Int32)), .val (.ref pa), .unset, .unset, .unset] [])) rfl (hb hby at_191) (by decide) (by decide)
      obtain ⟨ck, q405⟩ : ∃ z, z = h397.size := ⟨_, rfl⟩
      have ne_o0_ck : o0 ≠ ck := by rw [q405]; exact Nat.ne_of_lt f400.lt
      have ne_o1_ck : o1 ≠ ck := by rw [q405]; exact Nat.ne_of_lt f401.lt
      have ne_o2_ck : o2 ≠ ck := by rw [q405]; exact Nat.ne_of_lt f402.lt
      have ne_pa_ck : pa ≠ ck := by rw [q405]; exact Nat.ne_of_lt f403.lt
      have g_ck : n0 ≤ ck := by rw [q405]; exact f398
      rw [← q405] at A405 D405 st405
      have f406 : n0 ≤ h405.size := Nat.le_trans f398 E405.1
      have f407 : Old Z n0 h405 := f399.ext E405
      have f408 : own_ok Z a0 h405 o0 := f400.ext E405
      have f409 : own_ok Z a0 h405 o1 := f401.ext E405
      have f410 : own_ok Z a0 h405 o2 := f402.ext E405
      have f411 : Exa Z h405 pa "[Ljava/lang/Object;" := f403.ext E405
      have f412 : Arv Z h405 pa ak372 (.object "java/lang/Object") (3 : Int32) [(.ref o0), (.ref o1), (.ref o2)] .null := f404.ext E405
      have f405 : Exa Z h405 ck "com/example/tablepuffer/tablepuffer/CompositeKey" := A405
      have f413 : Fld Z h405 ck "com/example/tablepuffer/tablepuffer/CompositeKey" "parts" "[Ljava/lang/Object;" .null := D405 (Or.inr (hw _ (List.mem_of_getElem? (i := 92) rfl))) (ty := (.array (.object "java/lang/Object"))) (by decide)
      have k405 : Kt p e below m (s₁.setTop (entryFrame m #[(.int p1), (.long q1), (.long q2), (.int p4), (.int p5)] maxLocals)) T405 194 #[.val (.int p1), .val (.long q1), .second, .val (.long q2), .second, .val (.int p4), .val (.int p5), .val (.ref v0), .val (.ref v1), .val (.ref v2), .val (.ref v3), .val (.ref o0), .val (.ref o1), .val (.ref o2), .val (.int (3 : Int32)), .val (.ref pa), .unset, .unset, .unset] [(.ref ck)] := fun t ht => k397 t (st405 t ht)
      have k414 : Kt p e below m (s₁.setTop (entryFrame m #[(.int p1), (.long q1), (.long q2), (.int p4), (.int p5)] maxLocals)) T405 197 #[.val (.int p1), .val (.long q1), .second, .val (.long q2), .second, .val (.int p4), .val (.int p5), .val (.ref v0), .val (.ref v1), .val (.ref v2), .val (.ref v3), .val (.ref o0), .val (.ref o1), .val (.ref o2), .val (.int (3 : Int32)), .val (.ref pa), .unset, .unset, .unset] [(.ref pa), (.ref ck), (.ref ck)] := by
        intro t ht
        refine k405 t ?_
        show Steps p.tables e below (T405.setTop (mkF m 194 #[.val (.int p1), .val (.long q1), .second, .val (.long q2), .second, .val (.int p4), .val (.int p5), .val (.ref v0), .val (.ref v1), .val (.ref v2), .val (.ref v3), .val (.ref o0), .val (.ref o1), .val (.ref o2), .val (.int (3 : Int32)), .val (.ref pa), .unset, .unset, .unset] [(.ref ck)])) t
        refine XS.dup X405.here hx rfl (hb hby at_194) rfl rfl ?_
        show Steps p.tables e below (T405.setTop (mkF m 195 #[.val (.int p1), .val (.long q1), .second, .val (.long q2), .second, .val (.int p4), .val (.int p5), .val (.ref v0), .val (.ref v1), .val (.ref v2), .val (.ref v3), .val (.ref o0), .val (.ref o1), .val (.ref o2), .val (.int (3 : Int32)), .val (.ref pa), .unset, .unset, .unset] [(.ref ck), (.ref ck)])) t
        refine XS.aload X405.here hx rfl (hb hby at_195) rfl rfl ?_
        exact ht
      obtain ⟨_, _, ⟨T415, L415, c415, n415⟩, -, X415, ⟨Lc415, hQ415, l415, y415, z415⟩, st415⟩ := X405.specialBack hx (y := (⟨"com/example/tablepuffer/tablepuffer/CompositeKey", "<init>", "([Ljava/lang/Object;)V"⟩ : MethodName)) rfl hown (mvT hZ (hw _ (List.mem_of_getElem? (i := 87) rfl))) (mvT hZ (hw _ (List.mem_of_getElem? (i := 88) rfl))) (mvT hZ (hw _ (List.mem_of_getElem? (i := 89) rfl))) (by decide) (backOf (W := 1) (rm16 l Z a0 hw [] ck pa h405 n0 f406 f405 f413 g_ck) hZ (hw _ (List.mem_of_getElem? (i := 89) rfl)) (hw _ (List.mem_of_getElem? (i := 86) rfl)) (by decide) (by decide)) (g := (mkF m 197 #[.val (.int p1), .val (.long q1), .second, .val (.long q2), .second, .val (.int p4), .val (.int p5), .val (.ref v0), .val (.ref v1), .val (.ref v2), .val (.ref v3), .val (.ref o0), .val (.ref o1), .val (.ref o2), .val (.int (3 : Int32)), .val (.ref pa), .unset, .unset, .unset] [(.ref pa), (.ref ck), (.ref ck)])) rfl (by rw [hml]; rfl) (Steps.refl _) (a := ck) (argsL := [(.ref pa)]) (rest := [(.ref ck)]) (lenOf pd_16 rfl) rfl (by show 2 * 0 + _ ≤ _; exact Nat.le_of_eq rfl) (hb hby at_197) (fun _ _ => ⟨rfl, e405, (by decide : 9 + 0 ≤ _), (by decide : 19 + 0 ≤ _)⟩)
      dsimp only [Pt.U, Pt.locs, Pt.cells, Pt.slots] at X415 l415 y415 z415 st415 hQ415
      subst l415 y415 z415
      obtain ⟨rfl, Nq415, Kp415, Fp415⟩ := hQ415
      have N415 := Fr.app N397 Nq415
      have k415 : Kt p e below m (s₁.setTop (entryFrame m #[(.int p1), (.long q1), (.long q2), (.int p4), (.int p5)] maxLocals)) T415 200 #[.val (.int p1), .val (.long q1), .second, .val (.long q2), .second, .val (.int p4), .val (.int p5), .val (.ref v0), .val (.ref v1), .val (.ref v2), .val (.ref v3), .val (.ref o0), .val (.ref o1), .val (.ref o2), .val (.int (3 : Int32)), .val (.ref pa), .unset, .unset, .unset] [(.ref ck)] := fun t ht => k414 t (st415.trans ht)
      have f416 : n0 ≤ T415.heap.size := Nat.le_trans f406 Kp415.1
      have f417 : Old Z n0 T415.heap := f407.keep Kp415 (allS g_ck all0)
      have f418 : own_ok Z a0 T415.heap o0 := f408.keep Kp415
      have f419 : own_ok Z a0 T415.heap o1 := f409.keep Kp415
      have f420 : own_ok Z a0 T415.heap o2 := f410.keep Kp415
      have f421 : Exa Z T415.heap pa "[Ljava/lang/Object;" := f411.keep Kp415
      have f422 : Arv Z T415.heap pa ak372 (.object "java/lang/Object") (3 : Int32) [(.ref o0), (.ref o1), (.ref o2)] .null := f412.keep Kp415 (ninS ne_pa_ck nin0)
      have f423 : Exa Z T415.heap ck "com/example/tablepuffer/tablepuffer/CompositeKey" := f405.keep Kp415
      have k425 : Kt p e below m (s₁.setTop (entryFrame m #[(.int p1), (.long q1), (.long q2), (.int p4), (.int p5)] maxLocals)) T415 204 #[.val (.int p1), .val (.long q1), .second, .val (.long q2), .second, .val (.int p4), .val (.int p5), .val (.ref v0), .val (.ref v1), .val (.ref v2), .val (.ref v3), .val (.ref o0), .val (.ref o1), .val (.ref o2), .val (.int (3 : Int32)), .val (.ref pa), .val (.ref ck), .unset, .unset] [(.ref ck)] := by
        intro t ht
        refine k415 t ?_
        show Steps p.tables e below (T415.setTop (mkF m 200 #[.val (.int p1), .val (.long q1), .second, .val (.long q2), .second, .val (.int p4), .val (.int p5), .val (.ref v0), .val (.ref v1), .val (.ref v2), .val (.ref v3), .val (.ref o0), .val (.ref o1), .val (.ref o2), .val (.int (3 : Int32)), .val (.ref pa), .unset, .unset, .unset] [(.ref ck)])) t
        refine XS.astore X415.here hx rfl (hb hby at_200) rfl rfl (l' := #[.val (.int p1), .val (.long q1), .second, .val (.long q2), .second, .val (.int p4), .val (.int p5), .val (.ref v0), .val (.ref v1), .val (.ref v2), .val (.ref v3), .val (.ref o0), .val (.ref o1), .val (.ref o2), .val (.int (3 : Int32)), .val (.ref pa), .val (.ref ck), .unset, .unset]) rfl ?_
        show Steps p.tables e below (T415.setTop (mkF m 202 #[.val (.int p1), .val (.long q1), .second, .val (.long q2), .second, .val (.int p4), .val (.int p5), .val (.ref v0), .val (.ref v1), .val (.ref v2), .val (.ref v3), .val (.ref o0), .val (.ref o1), .val (.ref o2), .val (.int (3 : Int32)), .val (.ref pa), .val (.ref ck), .unset, .unset] [])) t
        refine XS.aload X415.here hx rfl (hb hby at_202) rfl rfl ?_
        exact ht
      obtain ⟨_, _, ⟨T426, L426, c426, n426⟩, -, X426, ⟨Lc426, hQ426, l426, y426, z426⟩, st426⟩ := Jvm.LawKit.callS X415 hx (y := (⟨"com/example/tablepuffer/tablepuffer/TableShape", "keyParts", "(Ljava/lang/Object;)[Ljava/lang/Object;"⟩ : MethodName)) hown (mvT hZ (hw _ (List.mem_of_getElem? (i := 71) rfl))) (mvT hZ (hw _ (List.mem_of_getElem? (i := 72) rfl))) (mvT hZ (hw _ (List.mem_of_getElem? (i := 73) rfl))) (mvT hZ (hw _ (List.mem_of_getElem? (i := 74) rfl))) (by decide) (backOf (W := 0) (rmkpK l Z a0 hw [] ck pa ak372 (3 : Int32) [(.ref o0), (.ref o1), (.ref o2)] T415.heap n0 f416 f423 Fp415 f422 f421 (by decide)) hZ (hw _ (List.mem_of_getElem? (i := 74) rfl)) (hw _ (List.mem_of_getElem? (i := 73) rfl)) (by decide) (by decide)) (g := (mkF m 204 #[.val (.int p1), .val (.long q1), .second, .val (.long q2), .second, .val (.int p4), .val (.int p5), .val (.ref v0), .val (.ref v1), .val (.ref v2), .val (.ref v3), .val (.ref o0), .val (.ref o1), .val (.ref o2), .val (.int (3 : Int32)), .val (.ref pa), .val (.ref ck), .unset, .unset] [(.ref ck)])) rfl (by rw [hml]; rfl) (argsL := [(.ref ck)]) (rest := []) (lenOf pd_9 rfl) rfl (by show 2 * 0 + _ ≤ _; exact Nat.le_of_eq rfl) (hb hby at_204) (fun _ _ => ⟨rfl, rfl, (by decide : 9 + 1 ≤ _), (by decide : 19 + 3 ≤ _)⟩)
      dsimp only [Pt.U, Pt.locs, Pt.cells, Pt.slots] at X426 l426 y426 z426 st426 hQ426
      subst l426 y426 z426
      obtain ⟨rr, rfl, Nq426, Kp426, Vr426⟩ := hQ426
      have N426 := Fr.app N415 Nq426
      have k426 : Kt p e below m (s₁.setTop (entryFrame m #[(.int p1), (.long q1), (.long q2), (.int p4), (.int p5)] maxLocals)) T426 207 #[.val (.int p1), .val (.long q1), .second, .val (.long q2), .second, .val (.int p4), .val (.int p5), .val (.ref v0), .val (.ref v1), .val (.ref v2), .val (.ref v3), .val (.ref o0), .val (.ref o1), .val (.ref o2), .val (.int (3 : Int32)), .val (.ref pa), .val (.ref ck), .unset, .unset] [(.ref rr)] := fun t ht => k425 t (st426 t ht)
      have f427 : n0 ≤ T426.heap.size := Nat.le_trans f416 Kp426.1
      have f428 : Old Z n0 T426.heap := f417.keep Kp426 all0
      have f429 : own_ok Z a0 T426.heap o0 := f418.keep Kp426
      have f430 : own_ok Z a0 T426.heap o1 := f419.keep Kp426
      have f431 : own_ok Z a0 T426.heap o2 := f420.keep Kp426
      have f432 : Exa Z T426.heap pa "[Ljava/lang/Object;" := f421.keep Kp426
      have f433 : Arv Z T426.heap pa ak372 (.object "java/lang/Object") (3 : Int32) [(.ref o0), (.ref o1), (.ref o2)] .null := f422.keep Kp426 nin0
      have f434 : Exa Z T426.heap ck "com/example/tablepuffer/tablepuffer/CompositeKey" := f423.keep Kp426
      have f435 : Fld Z T426.heap ck "com/example/tablepuffer/tablepuffer/CompositeKey" "parts" "[Ljava/lang/Object;" (.ref pa) := Fp415.keep Kp426 nin0
      have k436 : Kt p e below m (s₁.setTop (entryFrame m #[(.int p1), (.long q1), (.long q2), (.int p4), (.int p5)] maxLocals)) T426 211 #[.val (.int p1), .val (.long q1), .second, .val (.long q2), .second, .val (.int p4), .val (.int p5), .val (.ref v0), .val (.ref v1), .val (.ref v2), .val (.ref v3), .val (.ref o0), .val (.ref o1), .val (.ref o2), .val (.int (3 : Int32)), .val (.ref pa), .val (.ref ck), .val (.ref rr), .unset] [(.ref rr)] := by
        intro t ht
        refine k426 t ?_
        show Steps p.tables e below (T426.setTop (mkF m 207 #[.val (.int p1), .val (.long q1), .second, .val (.long q2), .second, .val (.int p4), .val (.int p5), .val (.ref v0), .val (.ref v1), .val (.ref v2), .val (.ref v3), .val (.ref o0), .val (.ref o1), .val (.ref o2), .val (.int (3 : Int32)), .val (.ref pa), .val (.ref ck), .unset, .unset] [(.ref rr)])) t
        refine XS.astore X426.here hx rfl (hb hby at_207) rfl rfl (l' := #[.val (.int p1), .val (.long q1), .second, .val (.long q2), .second, .val (.int p4), .val (.int p5), .val (.ref v0), .val (.ref v1), .val (.ref v2), .val (.ref v3), .val (.ref o0), .val (.ref o1), .val (.ref o2), .val (.int (3 : Int32)), .val (.ref pa), .val (.ref ck), .val (.ref rr), .unset]) rfl ?_
        show Steps p.tables e below (T426.setTop (mkF m 209 #[.val (.int p1), .val (.long q1), .second, .val (.long q2), .second, .val (.int p4), .val (.int p5), .val (.ref v0), .val (.ref v1), .val (.ref v2), .val (.ref v3), .val (.ref o0), .val (.ref o1), .val (.ref o2), .val (.int (3 : Int32)), .val (.ref pa), .val (.ref ck), .val (.ref rr), .unset] [])) t
        refine XS.aload X426.here hx rfl (hb hby at_209) rfl rfl ?_
        exact ht
      obtain ⟨cl437, Ar437, qc437, Sz437, Nn437, Hh437, Gg437⟩ := id Vr426
      have k438 : Kt p e below m (s₁.setTop (entryFrame m #[(.int p1), (.long q1), (.long q2), (.int p4), (.int p5)] maxLocals)) T426 220 #[.val (.int p1), .val (.long q1), .second, .val (.long q2), .second, .val (.int p4), .val (.int p5), .val (.ref v0), .val (.ref v1), .val (.ref v2), .val (.ref v3), .val (.ref o0), .val (.ref o1), .val (.ref o2), .val (.int (3 : Int32)), .val (.ref pa), .val (.ref ck), .val (.ref rr), .unset] [(.int (0 : Int32)), (.ref rr)] := by
        intro t ht
        refine k436 t ?_
        show Steps p.tables e below (T426.setTop (mkF m 211 #[.val (.int p1), .val (.long q1), .second, .val (.long q2), .second, .val (.int p4), .val (.int p5), .val (.ref v0), .val (.ref v1), .val (.ref v2), .val (.ref v3), .val (.ref o0), .val (.ref o1), .val (.ref o2), .val (.int (3 : Int32)), .val (.ref pa), .val (.ref ck), .val (.ref rr), .unset] [(.ref rr)])) t
        refine X426.arraylength hx Ar437.1 (State.isArrayOf_alike hZ.alike Ar437.2.1) (g := (mkF m 211 #[.val (.int p1), .val (.long q1), .second, .val (.long q2), .second, .val (.int p4), .val (.int p5), .val (.ref v0), .val (.ref v1), .val (.ref v2), .val (.ref v3), .val (.ref o0), .val (.ref o1), .val (.ref o2), .val (.int (3 : Int32)), .val (.ref pa), .val (.ref ck), .val (.ref rr), .unset] [(.ref rr)])) rfl rfl (hb hby at_211) _ ?_
        rw [len_of Sz437 Nn437]
        show Steps p.tables e below (T426.setTop (mkF m 212 #[.val (.int p1), .val (.long q1), .second, .val (.long q2), .second, .val (.int p4), .val (.int p5), .val (.ref v0), .val (.ref v1), .val (.ref v2), .val (.ref v3), .val (.ref o0), .val (.ref o1), .val (.ref o2), .val (.int (3 : Int32)), .val (.ref pa), .val (.ref ck), .val (.ref rr), .unset] [(.int (3 : Int32))])) t
        refine XS.iload X426.here hx rfl (hb hby at_212) rfl ?_
        show Steps p.tables e below (T426.setTop (mkF m 214 #[.val (.int p1), .val (.long q1), .second, .val (.long q2), .second, .val (.int p4), .val (.int p5), .val (.ref v0), .val (.ref v1), .val (.ref v2), .val (.ref v3), .val (.ref o0), .val (.ref o1), .val (.ref o2), .val (.int (3 : Int32)), .val (.ref pa), .val (.ref ck), .val (.ref rr), .unset] [(.int (3 : Int32)), (.int (3 : Int32))])) t
        refine XS.icmpNo X426.here hx rfl (hb hby at_214) rfl (teq rfl).2 ?_
        show Steps p.tables e below (T426.setTop (mkF m 217 #[.val (.int p1), .val (.long q1), .second, .val (.long q2), .second, .val (.int p4), .val (.int p5), .val (.ref v0), .val (.ref v1), .val (.ref v2), .val (.ref v3), .val (.ref o0), .val (.ref o1), .val (.ref o2), .val (.int (3 : Int32)), .val (.ref pa), .val (.ref ck), .val (.ref rr), .unset] [])) t
        refine XS.aload X426.here hx rfl (hb hby at_217) rfl rfl ?_
        show Steps p.tables e below (T426.setTop (mkF m 219 #[.val (.int p1), .val (.long q1), .second, .val (.long q2), .second, .val (.int p4), .val (.int p5), .val (.ref v0), .val (.ref v1), .val (.ref v2), .val (.ref v3), .val (.ref o0), .val (.ref o1), .val (.ref o2), .val (.int (3 : Int32)), .val (.ref pa), .val (.ref ck), .val (.ref rr), .unset] [(.ref rr)])) t
        refine XS.iconst X426.here hx rfl (hb hby at_219) ?_
        exact ht
      obtain ⟨cl439, Ar439, qc439, Sz439, Nn439, Hh439, Gg439⟩ := id Vr426
      have hin439 : ¬ ((0 : Int32) < 0 ∨ cl439.slots.size ≤ ((0 : Int32)).toNatClampNeg) := inb_of Sz439 ⟨by decide, by decide⟩
      have hat439 : cl439.slots[((0 : Int32)).toNatClampNeg]? = some (.ref o0) := Hh439.at hin439 rfl
      have k440 : Kt p e below m (s₁.setTop (entryFrame m #[(.int p1), (.long q1), (.long q2), (.int p4), (.int p5)] maxLocals)) T426 247 #[.val (.int p1), .val (.long q1), .second, .val (.long q2), .second, .val (.int p4), .val (.int p5), .val (.ref v0), .val (.ref v1), .val (.ref v2), .val (.ref v3), .val (.ref o0), .val (.ref o1), .val (.ref o2), .val (.int (3 : Int32)), .val (.ref pa), .val (.ref ck), .val (.ref rr), .val (.int (1 : Int32))] [(.int (1 : Int32)), (.ref rr)] := by
        intro t ht
        refine k438 t ?_
        show Steps p.tables e below (T426.setTop (mkF m 220 #[.val (.int p1), .val (.long q1), .second, .val (.long q2), .second, .val (.int p4), .val (.int p5), .val (.ref v0), .val (.ref v1), .val (.ref v2), .val (.ref v3), .val (.ref o0), .val (.ref o1), .val (.ref o2), .val (.int (3 : Int32)), .val (.ref pa), .val (.ref ck), .val (.ref rr), .unset] [(.int (0 : Int32)), (.ref rr)])) t
        refine X426.aaload hx (j := (0 : Int32)) (v := (.ref o0)) Ar439.1 (State.isArrayOf_alike hZ.alike Ar439.2.1) rfl Ar439.2.2 hin439 hat439 (g := (mkF m 220 #[.val (.int p1), .val (.long q1), .second, .val (.long q2), .second, .val (.int p4), .val (.int p5), .val (.ref v0), .val (.ref v1), .val (.ref v2), .val (.ref v3), .val (.ref o0), .val (.ref o1), .val (.ref o2), .val (.int (3 : Int32)), .val (.ref pa), .val (.ref ck), .val (.ref rr), .unset] [(.int (0 : Int32)), (.ref rr)])) rfl rfl (hb hby at_220) _ ?_
        show Steps p.tables e below (T426.setTop (mkF m 221 #[.val (.int p1), .val (.long q1), .second, .val (.long q2), .second, .val (.int p4), .val (.int p5), .val (.ref v0), .val (.ref v1), .val (.ref v2), .val (.ref v3), .val (.ref o0), .val (.ref o1), .val (.ref o2), .val (.int (3 : Int32)), .val (.ref pa), .val (.ref ck), .val (.ref rr), .unset] [(.ref o0)])) t
        refine XS.aload X426.here hx rfl (hb hby at_221) rfl rfl ?_
        show Steps p.tables e below (T426.setTop (mkF m 223 #[.val (.int p1), .val (.long q1), .second, .val (.long q2), .second, .val (.int p4), .val (.int p5), .val (.ref v0), .val (.ref v1), .val (.ref v2), .val (.ref v3), .val (.ref o0), .val (.ref o1), .val (.ref o2), .val (.int (3 : Int32)), .val (.ref pa), .val (.ref ck), .val (.ref rr), .unset] [(.ref o0), (.ref o0)])) t
        refine Jvm.RoadKit.acmp (g := (mkF m 223 #[.val (.int p1), .val (.long q1), .second, .val (.long q2), .second, .val (.int p4), .val (.int p5), .val (.ref v0), .val (.ref v1), .val (.ref v2), .val (.ref v3), .val (.ref o0), .val (.ref o1), .val (.ref o2), .val (.int (3 : Int32)), .val (.ref pa), .val (.ref ck), .val (.ref rr), .unset] [(.ref o0), (.ref o0)])) X426 hx rfl rfl rfl (pc0 := 223) (pc' := 226) (same := true) rfl (hb hby at_223) rfl (decide_eq_true rfl) (by decide) (by decide) ?_
        show Steps p.tables e below (T426.setTop (mkF m 226 #[.val (.int p1), .val (.long q1), .second, .val (.long q2), .second, .val (.int p4), .val (.int p5), .val (.ref v0), .val (.ref v1), .val (.ref v2), .val (.ref v3), .val (.ref o0), .val (.ref o1), .val (.ref o2), .val (.int (3 : Int32)), .val (.ref pa), .val (.ref ck), .val (.ref rr), .unset] [])) t
        refine XS.iconst X426.here hx rfl (hb hby at_226) ?_
        show Steps p.tables e below (T426.setTop (mkF m 227 #[.val (.int p1), .val (.long q1), .second, .val (.long q2), .second, .val (.int p4), .val (.int p5), .val (.ref v0), .val (.ref v1), .val (.ref v2), .val (.ref v3), .val (.ref o0), .val (.ref o1), .val (.ref o2), .val (.int (3 : Int32)), .val (.ref pa), .val (.ref ck), .val (.ref rr), .unset] [(.int (1 : Int32))])) t
        refine XS.goto X426.here hx rfl (pc0 := 227) (pc' := 231) rfl (hb hby at_227) (by decide) (by decide) ?_
        show Steps p.tables e below (T426.setTop (mkF m 231 #[.val (.int p1), .val (.long q1), .second, .val (.long q2), .second, .val (.int p4), .val (.int p5), .val (.ref v0), .val (.ref v1), .val (.ref v2), .val (.ref v3), .val (.ref o0), .val (.ref o1), .val (.ref o2), .val (.int (3 : Int32)), .val (.ref pa), .val (.ref ck), .val (.ref rr), .unset] [(.int (1 : Int32))])) t
        refine XS.istore X426.here hx rfl (hb hby at_231) rfl (l' := #[.val (.int p1), .val (.long q1), .second, .val (.long q2), .second, .val (.int p4), .val (.int p5), .val (.ref v0), .val (.ref v1), .val (.ref v2), .val (.ref v3), .val (.ref o0), .val (.ref o1), .val (.ref o2), .val (.int (3 : Int32)), .val (.ref pa), .val (.ref ck), .val (.ref rr), .val (.int (1 : Int32))]) rfl ?_
        show Steps p.tables e below (T426.setTop (mkF m 233 #[.val (.int p1), .val (.long q1), .second, .val (.long q2), .second, .val (.int p4), .val (.int p5), .val (.ref v0), .val (.ref v1), .val (.ref v2), .val (.ref v3), .val (.ref o0), .val (.ref o1), .val (.ref o2), .val (.int (3 : Int32)), .val (.ref pa), .val (.ref ck), .val (.ref rr), .val (.int (1 : Int32))] [])) t
        refine XS.iload X426.here hx rfl (hb hby at_233) rfl ?_
        show Steps p.tables e below (T426.setTop (mkF m 235 #[.val (.int p1), .val (.long q1), .second, .val (.long q2), .second, .val (.int p4), .val (.int p5), .val (.ref v0), .val (.ref v1), .val (.ref v2), .val (.ref v3), .val (.ref o0), .val (.ref o1), .val (.ref o2), .val (.int (3 : Int32)), .val (.ref pa), .val (.ref ck), .val (.ref rr), .val (.int (1 : Int32))] [(.int (1 : Int32))])) t
        refine XS.ifNo X426.here hx rfl (hb hby at_235) rfl ((if0 _ _).trans (feq (by decide)).1) ?_
        show Steps p.tables e below (T426.setTop (mkF m 238 #[.val (.int p1), .val (.long q1), .second, .val (.long q2), .second, .val (.int p4), .val (.int p5), .val (.ref v0), .val (.ref v1), .val (.ref v2), .val (.ref v3), .val (.ref o0), .val (.ref o1), .val (.ref o2), .val (.int (3 : Int32)), .val (.ref pa), .val (.ref ck), .val (.ref rr), .val (.int (1 : Int32))] [])) t
        refine XS.iload X426.here hx rfl (hb hby at_238) rfl ?_
        show Steps p.tables e below (T426.setTop (mkF m 240 #[.val (.int p1), .val (.long q1), .second, .val (.long q2), .second, .val (.int p4), .val (.int p5), .val (.ref v0), .val (.ref v1), .val (.ref v2), .val (.ref v3), .val (.ref o0), .val (.ref o1), .val (.ref o2), .val (.int (3 : Int32)), .val (.ref pa), .val (.ref ck), .val (.ref rr), .val (.int (1 : Int32))] [(.int (3 : Int32))])) t
        refine XS.iconst X426.here hx rfl (hb hby at_240) ?_
        show Steps p.tables e below (T426.setTop (mkF m 241 #[.val (.int p1), .val (.long q1), .second, .val (.long q2), .second, .val (.int p4), .val (.int p5), .val (.ref v0), .val (.ref v1), .val (.ref v2), .val (.ref v3), .val (.ref o0), .val (.ref o1), .val (.ref o2), .val (.int (3 : Int32)), .val (.ref pa), .val (.ref ck), .val (.ref rr), .val (.int (1 : Int32))] [(.int (1 : Int32)), (.int (3 : Int32))])) t
        refine XS.icmpNo X426.here hx rfl (hb hby at_241) rfl (tlt (by decide)).2.2.2 ?_
        show Steps p.tables e below (T426.setTop (mkF m 244 #[.val (.int p1), .val (.long q1), .second, .val (.long q2), .second, .val (.int p4), .val (.int p5), .val (.ref v0), .val (.ref v1), .val (.ref v2), .val (.ref v3), .val (.ref o0), .val (.ref o1), .val (.ref o2), .val (.int (3 : Int32)), .val (.ref pa), .val (.ref ck), .val (.ref rr), .val (.int (1 : Int32))] [])) t
        refine XS.aload X426.here hx rfl (hb hby at_244) rfl rfl ?_
        show Steps p.tables e below (T426.setTop (mkF m 246 #[.val (.int p1), .val (.long q1), .second, .val (.long q2), .second, .val (.int p4), .val (.int p5), .val (.ref v0), .val (.ref v1), .val (.ref v2), .val (.ref v3), .val (.ref o0), .val (.ref o1), .val (.ref o2), .val (.int (3 : Int32)), .val (.ref pa), .val (.ref ck), .val (.ref rr), .val (.int (1 : Int32))] [(.ref rr)])) t
        refine XS.iconst X426.here hx rfl (hb hby at_246) ?_
        exact ht
      obtain ⟨cl441, Ar441, qc441, Sz441, Nn441, Hh441, Gg441⟩ := id Vr426
      have hin441 : ¬ ((1 : Int32) < 0 ∨ cl441.slots.size ≤ ((1 : Int32)).toNatClampNeg) := inb_of Sz441 ⟨by decide, by decide⟩
      have hat441 : cl441.slots[((1 : Int32)).toNatClampNeg]? = some (.ref o1) := Hh441.at hin441 rfl
      have k442 : Kt p e below m (s₁.setTop (entryFrame m #[(.int p1), (.long q1), (.long q2), (.int p4), (.int p5)] maxLocals)) T426 274 #[.val (.int p1), .val (.long q1), .second, .val (.long q2), .second, .val (.int p4), .val (.int p5), .val (.ref v0), .val (.ref v1), .val (.ref v2), .val (.ref v3), .val (.ref o0), .val (.ref o1), .val (.ref o2), .val (.int (3 : Int32)), .val (.ref pa), .val (.ref ck), .val (.ref rr), .val (.int (1 : Int32))] [(.int (2 : Int32)), (.ref rr)] := by
        intro t ht
        refine k440 t ?_
        show Steps p.tables e below (T426.setTop (mkF m 247 #[.val (.int p1), .val (.long q1), .second, .val (.long q2), .second, .val (.int p4), .val (.int p5), .val (.ref v0), .val (.ref v1), .val (.ref v2), .val (.ref v3), .val (.ref o0), .val (.ref o1), .val (.ref o2), .val (.int (3 : Int32)), .val (.ref pa), .val (.ref ck), .val (.ref rr), .val (.int (1 : Int32))] [(.int (1 : Int32)), (.ref rr)])) t
        refine X426.aaload hx (j := (1 : Int32)) (v := (.ref o1)) Ar441.1 (State.isArrayOf_alike hZ.alike Ar441.2.1) rfl Ar441.2.2 hin441 hat441 (g := (mkF m 247 #[.val (.int p1), .val (.long q1), .second, .val (.long q2), .second, .val (.int p4), .val (.int p5), .val (.ref v0), .val (.ref v1), .val (.ref v2), .val (.ref v3), .val (.ref o0), .val (.ref o1), .val (.ref o2), .val (.int (3 : Int32)), .val (.ref pa), .val (.ref ck), .val (.ref rr), .val (.int (1 : Int32))] [(.int (1 : Int32)), (.ref rr)])) rfl rfl (hb hby at_247) _ ?_
        show Steps p.tables e below (T426.setTop (mkF m 248 #[.val (.int p1), .val (.long q1), .second, .val (.long q2), .second, .val (.int p4), .val (.int p5), .val (.ref v0), .val (.ref v1), .val (.ref v2), .val (.ref v3), .val (.ref o0), .val (.ref o1), .val (.ref o2), .val (.int (3 : Int32)), .val (.ref pa), .val (.ref ck), .val (.ref rr), .val (.int (1 : Int32))] [(.ref o1)])) t
        refine XS.aload X426.here hx rfl (hb hby at_248) rfl rfl ?_
        show Steps p.tables e below (T426.setTop (mkF m 250 #[.val (.int p1), .val (.long q1), .second, .val (.long q2), .second, .val (.int p4), .val (.int p5), .val (.ref v0), .val (.ref v1), .val (.ref v2), .val (.ref v3), .val (.ref o0), .val (.ref o1), .val (.ref o2), .val (.int (3 : Int32)), .val (.ref pa), .val (.ref ck), .val (.ref rr), .val (.int (1 : Int32))] [(.ref o1), (.ref o1)])) t
        refine Jvm.RoadKit.acmp (g := (mkF m 250 #[.val (.int p1), .val (.long q1), .second, .val (.long q2), .second, .val (.int p4), .val (.int p5), .val (.ref v0), .val (.ref v1), .val (.ref v2), .val (.ref v3), .val (.ref o0), .val (.ref o1), .val (.ref o2), .val (.int (3 : Int32)), .val (.ref pa), .val (.ref ck), .val (.ref rr), .val (.int (1 : Int32))] [(.ref o1), (.ref o1)])) X426 hx rfl rfl rfl (pc0 := 250) (pc' := 253) (same := true) rfl (hb hby at_250) rfl (decide_eq_true rfl) (by decide) (by decide) ?_
        show Steps p.tables e below (T426.setTop (mkF m 253 #[.val (.int p1), .val (.long q1), .second, .val (.long q2), .second, .val (.int p4), .val (.int p5), .val (.ref v0), .val (.ref v1), .val (.ref v2), .val (.ref v3), .val (.ref o0), .val (.ref o1), .val (.ref o2), .val (.int (3 : Int32)), .val (.ref pa), .val (.ref ck), .val (.ref rr), .val (.int (1 : Int32))] [])) t
        refine XS.iconst X426.here hx rfl (hb hby at_253) ?_
        show Steps p.tables e below (T426.setTop (mkF m 254 #[.val (.int p1), .val (.long q1), .second, .val (.long q2), .second, .val (.int p4), .val (.int p5), .val (.ref v0), .val (.ref v1), .val (.ref v2), .val (.ref v3), .val (.ref o0), .val (.ref o1), .val (.ref o2), .val (.int (3 : Int32)), .val (.ref pa), .val (.ref ck), .val (.ref rr), .val (.int (1 : Int32))] [(.int (1 : Int32))])) t
        refine XS.goto X426.here hx rfl (pc0 := 254) (pc' := 258) rfl (hb hby at_254) (by decide) (by decide) ?_
        show Steps p.tables e below (T426.setTop (mkF m 258 #[.val (.int p1), .val (.long q1), .second, .val (.long q2), .second, .val (.int p4), .val (.int p5), .val (.ref v0), .val (.ref v1), .val (.ref v2), .val (.ref v3), .val (.ref o0), .val (.ref o1), .val (.ref o2), .val (.int (3 : Int32)), .val (.ref pa), .val (.ref ck), .val (.ref rr), .val (.int (1 : Int32))] [(.int (1 : Int32))])) t
        refine XS.istore X426.here hx rfl (hb hby at_258) rfl (l' := #[.val (.int p1), .val (.long q1), .second, .val (.long q2), .second, .val (.int p4), .val (.int p5), .val (.ref v0), .val (.ref v1), .val (.ref v2), .val (.ref v3), .val (.ref o0), .val (.ref o1), .val (.ref o2), .val (.int (3 : Int32)), .val (.ref pa), .val (.ref ck), .val (.ref rr), .val (.int (1 : Int32))]) rfl ?_
        show Steps p.tables e below (T426.setTop (mkF m 260 #[.val (.int p1), .val (.long q1), .second, .val (.long q2), .second, .val (.int p4), .val (.int p5), .val (.ref v0), .val (.ref v1), .val (.ref v2), .val (.ref v3), .val (.ref o0), .val (.ref o1), .val (.ref o2), .val (.int (3 : Int32)), .val (.ref pa), .val (.ref ck), .val (.ref rr), .val (.int (1 : Int32))] [])) t
        refine XS.iload X426.here hx rfl (hb hby at_260) rfl ?_
        show Steps p.tables e below (T426.setTop (mkF m 262 #[.val (.int p1), .val (.long q1), .second, .val (.long q2), .second, .val (.int p4), .val (.int p5), .val (.ref v0), .val (.ref v1), .val (.ref v2), .val (.ref v3), .val (.ref o0), .val (.ref o1), .val (.ref o2), .val (.int (3 : Int32)), .val (.ref pa), .val (.ref ck), .val (.ref rr), .val (.int (1 : Int32))] [(.int (1 : Int32))])) t
        refine XS.ifNo X426.here hx rfl (hb hby at_262) rfl ((if0 _ _).trans (feq (by decide)).1) ?_
        show Steps p.tables e below (T426.setTop (mkF m 265 #[.val (.int p1), .val (.long q1), .second, .val (.long q2), .second, .val (.int p4), .val (.int p5), .val (.ref v0), .val (.ref v1), .val (.ref v2), .val (.ref v3), .val (.ref o0), .val (.ref o1), .val (.ref o2), .val (.int (3 : Int32)), .val (.ref pa), .val (.ref ck), .val (.ref rr), .val (.int (1 : Int32))] [])) t
        refine XS.iload X426.here hx rfl (hb hby at_265) rfl ?_
        show Steps p.tables e below (T426.setTop (mkF m 267 #[.val (.int p1), .val (.long q1), .second, .val (.long q2), .second, .val (.int p4), .val (.int p5), .val (.ref v0), .val (.ref v1), .val (.ref v2), .val (.ref v3), .val (.ref o0), .val (.ref o1), .val (.ref o2), .val (.int (3 : Int32)), .val (.ref pa), .val (.ref ck), .val (.ref rr), .val (.int (1 : Int32))] [(.int (3 : Int32))])) t
        refine XS.iconst X426.here hx rfl (hb hby at_267) ?_
        show Steps p.tables e below (T426.setTop (mkF m 268 #[.val (.int p1), .val (.long q1), .second, .val (.long q2), .second, .val (.int p4), .val (.int p5), .val (.ref v0), .val (.ref v1), .val (.ref v2), .val (.ref v3), .val (.ref o0), .val (.ref o1), .val (.ref o2), .val (.int (3 : Int32)), .val (.ref pa), .val (.ref ck), .val (.ref rr), .val (.int (1 : Int32))] [(.int (2 : Int32)), (.int (3 : Int32))])) t
        refine XS.icmpNo X426.here hx rfl (hb hby at_268) rfl (tlt (by decide)).2.2.2 ?_
        show Steps p.tables e below (T426.setTop (mkF m 271 #[.val (.int p1), .val (.long q1), .second, .val (.long q2), .second, .val (.int p4), .val (.int p5), .val (.ref v0), .val (.ref v1), .val (.ref v2), .val (.ref v3), .val (.ref o0), .val (.ref o1), .val (.ref o2), .val (.int (3 : Int32)), .val (.ref pa), .val (.ref ck), .val (.ref rr), .val (.int (1 : Int32))] [])) t
        refine XS.aload X426.here hx rfl (hb hby at_271) rfl rfl ?_
        show Steps p.tables e below (T426.setTop (mkF m 273 #[.val (.int p1), .val (.long q1), .second, .val (.long q2), .second, .val (.int p4), .val (.int p5), .val (.ref v0), .val (.ref v1), .val (.ref v2), .val (.ref v3), .val (.ref o0), .val (.ref o1), .val (.ref o2), .val (.int (3 : Int32)), .val (.ref pa), .val (.ref ck), .val (.ref rr), .val (.int (1 : Int32))] [(.ref rr)])) t
        refine XS.iconst X426.here hx rfl (hb hby at_273) ?_
        exact ht
      obtain ⟨cl443, Ar443, qc443, Sz443, Nn443, Hh443, Gg443⟩ := id Vr426
      have hin443 : ¬ ((2 : Int32) < 0 ∨ cl443.slots.size ≤ ((2 : Int32)).toNatClampNeg) := inb_of Sz443 ⟨by decide, by decide⟩
      have hat443 : cl443.slots[((2 : Int32)).toNatClampNeg]? = some (.ref o2) := Hh443.at hin443 rfl
      have k444 : Kt p e below m (s₁.setTop (entryFrame m #[(.int p1), (.long q1), (.long q2), (.int p4), (.int p5)] maxLocals)) T426 289 #[.val (.int p1), .val (.long q1), .second, .val (.long q2), .second, .val (.int p4), .val (.int p5), .val (.ref v0), .val (.ref v1), .val (.ref v2), .val (.ref v3), .val (.ref o0), .val (.ref o1), .val (.ref o2), .val (.int (3 : Int32)), .val (.ref pa), .val (.ref ck), .val (.ref rr), .val (.int (1 : Int32))] [(.int (1 : Int32))] := by
        intro t ht
        refine k442 t ?_
        show Steps p.tables e below (T426.setTop (mkF m 274 #[.val (.int p1), .val (.long q1), .second, .val (.long q2), .second, .val (.int p4), .val (.int p5), .val (.ref v0), .val (.ref v1), .val (.ref v2), .val (.ref v3), .val (.ref o0), .val (.ref o1), .val (.ref o2), .val (.int (3 : Int32)), .val (.ref pa), .val (.ref ck), .val (.ref rr), .val (.int (1 : Int32))] [(.int (2 : Int32)), (.ref rr)])) t
        refine X426.aaload hx (j := (2 : Int32)) (v := (.ref o2)) Ar443.1 (State.isArrayOf_alike hZ.alike Ar443.2.1) rfl Ar443.2.2 hin443 hat443 (g := (mkF m 274 #[.val (.int p1), .val (.long q1), .second, .val (.long q2), .second, .val (.int p4), .val (.int p5), .val (.ref v0), .val (.ref v1), .val (.ref v2), .val (.ref v3), .val (.ref o0), .val (.ref o1), .val (.ref o2), .val (.int (3 : Int32)), .val (.ref pa), .val (.ref ck), .val (.ref rr), .val (.int (1 : Int32))] [(.int (2 : Int32)), (.ref rr)])) rfl rfl (hb hby at_274) _ ?_
        show Steps p.tables e below (T426.setTop (mkF m 275 #[.val (.int p1), .val (.long q1), .second, .val (.long q2), .second, .val (.int p4), .val (.int p5), .val (.ref v0), .val (.ref v1), .val (.ref v2), .val (.ref v3), .val (.ref o0), .val (.ref o1), .val (.ref o2), .val (.int (3 : Int32)), .val (.ref pa), .val (.ref ck), .val (.ref rr), .val (.int (1 : Int32))] [(.ref o2)])) t
        refine XS.aload X426.here hx rfl (hb hby at_275) rfl rfl ?_
        show Steps p.tables e below (T426.setTop (mkF m 277 #[.val (.int p1), .val (.long q1), .second, .val (.long q2), .second, .val (.int p4), .val (.int p5), .val (.ref v0), .val (.ref v1), .val (.ref v2), .val (.ref v3), .val (.ref o0), .val (.ref o1), .val (.ref o2), .val (.int (3 : Int32)), .val (.ref pa), .val (.ref ck), .val (.ref rr), .val (.int (1 : Int32))] [(.ref o2), (.ref o2)])) t
        refine Jvm.RoadKit.acmp (g := (mkF m 277 #[.val (.int p1), .val (.long q1), .second, .val (.long q2), .second, .val (.int p4), .val (.int p5), .val (.ref v0), .val (.ref v1), .val (.ref v2), .val (.ref v3), .val (.ref o0), .val (.ref o1), .val (.ref o2), .val (.int (3 : Int32)), .val (.ref pa), .val (.ref ck), .val (.ref rr), .val (.int (1 : Int32))] [(.ref o2), (.ref o2)])) X426 hx rfl rfl rfl (pc0 := 277) (pc' := 280) (same := true) rfl (hb hby at_277) rfl (decide_eq_true rfl) (by decide) (by decide) ?_
        show Steps p.tables e below (T426.setTop (mkF m 280 #[.val (.int p1), .val (.long q1), .second, .val (.long q2), .second, .val (.int p4), .val (.int p5), .val (.ref v0), .val (.ref v1), .val (.ref v2), .val (.ref v3), .val (.ref o0), .val (.ref o1), .val (.ref o2), .val (.int (3 : Int32)), .val (.ref pa), .val (.ref ck), .val (.ref rr), .val (.int (1 : Int32))] [])) t
        refine XS.iconst X426.here hx rfl (hb hby at_280) ?_
        show Steps p.tables e below (T426.setTop (mkF m 281 #[.val (.int p1), .val (.long q1), .second, .val (.long q2), .second, .val (.int p4), .val (.int p5), .val (.ref v0), .val (.ref v1), .val (.ref v2), .val (.ref v3), .val (.ref o0), .val (.ref o1), .val (.ref o2), .val (.int (3 : Int32)), .val (.ref pa), .val (.ref ck), .val (.ref rr), .val (.int (1 : Int32))] [(.int (1 : Int32))])) t
        refine XS.goto X426.here hx rfl (pc0 := 281) (pc' := 285) rfl (hb hby at_281) (by decide) (by decide) ?_
        show Steps p.tables e below (T426.setTop (mkF m 285 #[.val (.int p1), .val (.long q1), .second, .val (.long q2), .second, .val (.int p4), .val (.int p5), .val (.ref v0), .val (.ref v1), .val (.ref v2), .val (.ref v3), .val (.ref o0), .val (.ref o1), .val (.ref o2), .val (.int (3 : Int32)), .val (.ref pa), .val (.ref ck), .val (.ref rr), .val (.int (1 : Int32))] [(.int (1 : Int32))])) t
        refine XS.istore X426.here hx rfl (hb hby at_285) rfl (l' := #[.val (.int p1), .val (.long q1), .second, .val (.long q2), .second, .val (.int p4), .val (.int p5), .val (.ref v0), .val (.ref v1), .val (.ref v2), .val (.ref v3), .val (.ref o0), .val (.ref o1), .val (.ref o2), .val (.int (3 : Int32)), .val (.ref pa), .val (.ref ck), .val (.ref rr), .val (.int (1 : Int32))]) rfl ?_
        show Steps p.tables e below (T426.setTop (mkF m 287 #[.val (.int p1), .val (.long q1), .second, .val (.long q2), .second, .val (.int p4), .val (.int p5), .val (.ref v0), .val (.ref v1), .val (.ref v2), .val (.ref v3), .val (.ref o0), .val (.ref o1), .val (.ref o2), .val (.int (3 : Int32)), .val (.ref pa), .val (.ref ck), .val (.ref rr), .val (.int (1 : Int32))] [])) t
        refine XS.iload X426.here hx rfl (hb hby at_287) rfl ?_
        exact ht
      obtain ⟨fs, hr, hrun, hended, hW, hsame⟩ := X426.leave (v := some (.int (1 : Int32))) (fun h => by rw [Bd.returns] at h; cases h)
      refine ⟨_, _, k444 _ ?_, hrun, hended, _, _, rfl, ?_, ⟨_, rfl⟩, hW, hsame.mono (by decide) (by decide)⟩
      · exact retN X426 hx (t := .boolean) Bd.returns (by simp) (hb hby at_289) hr
      · show Q0 Z p1 q1 q2 p4 p5 G1 ca cc va h0 n0 _ T426.heap _
        exact ⟨rfl, N426⟩
set_option maxRecDepth 65536 in
set_option maxHeartbeats 40000000 in
theorem comes_1 {Post : Tables → Env → Array Value → State → Outcome → State → Prop} (hpost : ∀ tb e args s v u, (limb_1_1.after args s (.returned v) u = true ∧ limb_1_2.after args s (.returned v) u = true ∧ True) → FrameEnd s (.returned v) u (Jvm.fieldLocs frame_1_writes args s ++ Jvm.arrayLocs frame_1_arrays args s ++ Jvm.staticLocs frame_1_statics s) 32 128 → Post tb e args s (.returned v) u) :
    ArmFor flags0 classFile x code maxLocals ret World_1 tables_1 room_1 Calls_1 rest_1 Pre_1 Post := by
  intro l hfl _ _ p e ha hc hk s m args below hf hA hF happ hP
  obtain ⟨hcalls, hrest, hpre⟩ := hP
  obtain ⟨-, -, -, hnamed, -, -, -, hat⟩ := (Spec.applies_iff hf).mp happ
  obtain ⟨hg, hn⟩ := and_e (Cond.before_iff.mp (show (Jvm.Cond.and given_1 narrow_1).before args s = true from hpre))
  obtain ⟨hcount, g0⟩ := and_e hg
  obtain ⟨ga0, g1⟩ := and_e g0
  obtain ⟨ga1, g2⟩ := and_e g1
  obtain ⟨ga2, g3⟩ := and_e g2
  obtain ⟨ga3, g4⟩ := and_e g3
  obtain ⟨w0, w1, w2, w3, w4, rfl⟩ : ∃ w0 w1 w2 w3 w4 : Value, args = #[w0, w1, w2, w3, w4] := by
    have hs : args.size = 5 := by simpa [Cond.value, given_1] using hcount
    obtain ⟨L⟩ := args
    match L, hs with
    | [w0, w1, w2, w3, w4], _ => exact ⟨w0, w1, w2, w3, w4, rfl⟩
  have hw := fun d (hd : d ∈ tables_1) => atoms_spec (ws := Jvm.Cond.code x code maxLocals ret :: tables_1) hat d (List.mem_cons_of_mem _ hd)
  have hfit : Fit s := fun {y c} hc i hi => by
    obtain ⟨ha, rfl⟩ := Array.getElem?_eq_some_iff.mp hc
    have q := List.all_eq_true.mp ((Array.all_eq_true_iff_forall_mem.mp hF) _ (Array.getElem_mem ha)) i (List.mem_range.mpr hi)
    simpa [Array.getElem?_eq_getElem hi] using q
  obtain ⟨i0, ei0⟩ := is_v ga0
  obtain rfl : w0 = (.int i0) := Option.some.inj ei0
  obtain ⟨i1, ei1⟩ := isL_v ga1
  obtain rfl : w1 = (.long i1) := Option.some.inj ei1
  obtain ⟨i2, ei2⟩ := isL_v ga2
  obtain rfl : w2 = (.long i2) := Option.some.inj ei2
  obtain ⟨i3, ei3⟩ := is_v ga3
  obtain rfl : w3 = (.int i3) := Option.some.inj ei3
  obtain ⟨i4, ei4⟩ := is_v g4
  obtain rfl : w4 = (.int i4) := Option.some.inj ei4
  obtain ⟨hsets, hown0⟩ := atoms_of _ (rest_1_c_eq ▸ (show rest_1_c.before _ s = true from hrest))
  obtain ⟨G1, eG⟩ := is_v (Cond.before_iff.mp (hsets _ (List.mem_of_getElem? (i := 7) rfl)))
  have S1 : Sta s s.heap "java/lang/String" "COMPACT_STRINGS" "Z" (.int G1) := Sta.start eG (Or.inl (hsets _ (List.mem_of_getElem? (i := 6) rfl)))
  have P5 : ¬ (G1 = (0 : Int32)) := gotF (Cond.eq_ints eG (Term.int_eval (0))) (not_v (Cond.before_iff.mp (hsets _ (List.mem_of_getElem? (i := 8) rfl))))
  obtain ⟨ca, eca⟩ := arr_v (Cond.before_iff.mp (hsets _ (List.mem_of_getElem? (i := 2) rfl)))
  have S2 : Sta s s.heap "java/lang/Long$LongCache" "cache" "[Ljava/lang/Long;" (.ref ca) := Sta.start eca (Or.inl (hsets _ (List.mem_of_getElem? (i := 1) rfl)))
  obtain ⟨cc, Acc⟩ := Arr.start eca (Cond.before_iff.mp (hsets _ (List.mem_of_getElem? (i := 2) rfl)))
  have hlen := Cond.before_iff.mp (hsets _ (List.mem_of_getElem? (i := 4) rfl))
  have hacc : s.arrayAt? ca = some cc := Acc.fin (Vm.Alike.refl _)
  obtain ⟨hlt, hz⟩ : cc.slots.size < 2 ^ 31 ∧ cc.slots.size.toInt32 = (256 : Int32) := own_len eca hacc hlen
  have B := Bxs.start (t := .static "java/lang/Long$LongCache" "cache" "[Ljava/lang/Long;") (F := .op1 .i2l (.sub (.index 0) (.int 128))) (val := fun j => .long (j - 128).toInt64) (fun _ => eca) Acc hlt hz (by decide) (Cond.before_iff.mp (hsets _ (List.mem_of_getElem? (i := 5) rfl))) (fun X j hj h => eqv_l (own_sub128 hj) h)
  obtain ⟨n, o, h1, h2, h3, _, L, rfl, ⟨rfl, N⟩, hq⟩ := rm0 l s _ hw tables_1 i0 i1 i2 i3 i4 G1 ca cc _ s.heap s.heap.size (Nat.le_refl _) S1 P5 S2 B (Old.start s) p e ha hc hk s m _ below hf ((Spec.applies_iff_loose hf).mp happ).1 ⟨rfl, State.Warmed39.refl s, rfl⟩ trivial
  refine ⟨n, _, h1, h2, h3, hpost _ _ _ _ _ _ ⟨Cond.after_iff.mpr rfl, Cond.after_iff.mpr (eq_i res_at (Term.int_eval (1)) rfl), trivial⟩ ⟨hq.1, hq.2.1, (hq.2.2.sift fun y hy => Or.inr (N y hy)).mono (by decide) (by decide)⟩⟩
theorem main_1_1 : Claimed_1_1 := comes_1 fun _ _ _ _ _ _ h hF => ⟨h.1, hF⟩
theorem main_1_2 : Claimed_1_2 := comes_1 fun _ _ _ _ _ _ h hF => ⟨h.2.1, hF⟩
end Jvm.Pilot.@@N@@
namespace Jvm.Pilot.@@N@@
open Jvm Jvm.ClassFile Sem Op Lib Jvm.Free Jvm.Stand Jvm.Pilot.@@N@@.Jvm.D
/-! MADE BY PROGRAM (witnessworld.py) out of the Statement's table words and the real class files: 26 classes; the members and pool entries that the words name. The judged class is class 1, her method 1. -/
namespace start1
open Jvm.ClassFile
def u (s : String) : CpInfo := .utf8 (stringToUtf16 s)
/-- a pool by its gaps: so many unusable entries, then the entry; so many at the end -/
def gap : Nat → List CpInfo → List CpInfo
  | 0, r => r
  | n + 1, r => .unusable :: gap n r
def poolList (es : List (Nat × CpInfo)) (last : Nat) : List CpInfo := es.foldr (fun e r => gap e.1 (e.2 :: r)) (gap last [])
def pool (es : List (Nat × CpInfo)) (last : Nat) : Array CpInfo := ⟨poolList es last⟩
def fileOf (pool : Array CpInfo) (this : Nat) (attrs : Array Attribute := #[]) (ms : Array MethodInfo := #[]) (fl : Nat := 33) (sup : Nat := 0) (ifs : Array Nat := #[]) (fds : Array FieldInfo := #[]) : ClassFile where
  minorVersion := 0
  majorVersion := 65
  constantPool := pool
  accessFlags := fl
  thisClass := this
  superClass := sup
  interfaces := ifs
  fields := fds
  methods := ms
  attributes := attrs
def plain (name : String) (sup : Option ClassId) : Class where
  name := name
  kind := .ordinary
  loader := none
  accessFlags := 33
  super := sup
  interfaces := #[]
  cf := none
  fields := #[]
  methods := #[]
  instanceTypes := #[]
  staticTypes := #[]
  resolved := #[]
  callSites := []
  init := .initialized
  statics := none
  mirror := none

def pool0 : Array CpInfo := pool [(5, u "<init>"), (0, u "()V"), (1, .class_ 10), (1, u "java/lang/Object"), (85, u "clone"), (0, u "()Ljava/lang/Object;")] 26

def k0c0 : Code := { maxStack := 0, maxLocals := 1, code := object_method_1_code, exceptionTable := #[], attributes := #[] }
def k0m0 : Method := { name := "<init>", desc := "()V", sig := { parameters := [], returnType := none }, accessFlags := 1, code := some k0c0 }
def k0m1 : Method := { name := "clone", desc := "()Ljava/lang/Object;", sig := { parameters := [], returnType := some (.object "java/lang/Object") }, accessFlags := 260, code := none }
/-- java/lang/Object -/
def k0 : Class := { plain "java/lang/Object" none with
  accessFlags := 33
  interfaces := #[]
  cf := some (fileOf pool0 8 #[] #[{ accessFlags := 1, nameIndex := 5, descriptorIndex := 6, attributes := #[] }, { accessFlags := 260, nameIndex := 96, descriptorIndex := 97, attributes := #[] }] 33 0 #[] #[])
  fields := #[]
  methods := #[k0m0, k0m1]
  instanceTypes := #[]
  staticTypes := #[]
  resolved := Array.replicate 124 none
  statics := none }

def pool1 : Array CpInfo := pool [(2, .class_ 4), (1, u "java/lang/Object"), (0, u "<init>"), (0, u "()V"), (0, .methodref 8 9), (0, .class_ 10), (0, .nameAndType 11 12), (0, u "java/lang/Long"), (0, u "valueOf"), (0, u "(J)Ljava/lang/Long;"), (0, .class_ 14), (0, u "java/lang/String"), (0, .methodref 13 16), (0, .nameAndType 5 17), (0, u "([C)V"), (0, .methodref 13 19), (0, .nameAndType 11 20), (0, u "(C)Ljava/lang/String;"), (0, .methodref 22 23), (0, .class_ 24), (0, .nameAndType 25 26), (0, u "com/example/tablepuffer/tablepuffer/TableShapeKeyPartsPinLaw"), (0, u "pick"), (0, u "(ILjava/lang/Object;Ljava/lang/Object;Ljava/lang/Object;Ljava/lang/Object;)Ljava/lang/Object;"), (0, .methodref 28 29), (0, .class_ 30), (0, .nameAndType 31 32), (0, u "com/example/tablepuffer/tablepuffer/TableShape"), (0, u "keyParts"), (0, u "(Ljava/lang/Object;)[Ljava/lang/Object;"), (0, .class_ 34), (0, u "com/example/tablepuffer/tablepuffer/CompositeKey"), (0, .methodref 33 36), (0, .nameAndType 5 37), (0, u "([Ljava/lang/Object;)V"), (2, u "law"), (0, u "(IJJII)Z")] 5

def k1m0 : Method := { name := "<init>", desc := "()V", sig := { parameters := [], returnType := none }, accessFlags := 1, code := none }
def k1c1 : Code := { maxStack := 7, maxLocals := 19, code := code, exceptionTable := #[], attributes := #[] }
def k1m1 : Method := { name := "law", desc := "(IJJII)Z", sig := { parameters := [.int, .long, .long, .int, .int], returnType := some .boolean }, accessFlags := 9, code := some k1c1 }
def k1c2 : Code := { maxStack := 2, maxLocals := 6, code := method_3_code, exceptionTable := #[], attributes := #[] }
def k1m2 : Method := { name := "pick", desc := "(ILjava/lang/Object;Ljava/lang/Object;Ljava/lang/Object;Ljava/lang/Object;)Ljava/lang/Object;", sig := { parameters := [.int, (.object "java/lang/Object"), (.object "java/lang/Object"), (.object "java/lang/Object"), (.object "java/lang/Object")], returnType := some (.object "java/lang/Object") }, accessFlags := 10, code := some k1c2 }
/-- com/example/tablepuffer/tablepuffer/TableShapeKeyPartsPinLaw -/
def k1 : Class := { plain "com/example/tablepuffer/tablepuffer/TableShapeKeyPartsPinLaw" (some 0) with
  accessFlags := 49
  interfaces := #[]
  cf := some (fileOf pool1 22 #[] #[{ accessFlags := 1, nameIndex := 5, descriptorIndex := 6, attributes := #[] }, { accessFlags := 9, nameIndex := 40, descriptorIndex := 41, attributes := #[] }, { accessFlags := 10, nameIndex := 25, descriptorIndex := 26, attributes := #[] }] 49 2 #[] #[])
  fields := #[]
  methods := #[k1m0, k1m1, k1m2]
  instanceTypes := #[]
  staticTypes := #[]
  resolved := Array.replicate 47 none
  statics := none }

def pool2 : Array CpInfo := pool [(1, .class_ 2), (0, u "java/io/Serializable"), (0, .class_ 4), (0, u "java/lang/Object")] 2

/-- java/io/Serializable -/
def k2 : Class := { plain "java/io/Serializable" (some 0) with
  accessFlags := 1537
  interfaces := #[]
  cf := some (fileOf pool2 1 #[] #[] 1537 3 #[] #[])
  fields := #[]
  methods := #[]
  instanceTypes := #[]
  staticTypes := #[]
  resolved := Array.replicate 7 none
  statics := none }

def pool3 : Array CpInfo := pool [(1, .methodref 2 3), (0, .class_ 4), (0, .nameAndType 5 6), (0, u "java/lang/Object"), (0, u "<init>"), (0, u "()V"), (1, .class_ 10), (1, u "java/lang/Number"), (2, .class_ 14), (0, u "java/io/Serializable"), (0, u "serialVersionUID"), (0, u "J")] 20

def k3c0 : Code := { maxStack := 1, maxLocals := 1, code := jdk_18_method_1_code, exceptionTable := #[], attributes := #[] }
def k3m0 : Method := { name := "<init>", desc := "()V", sig := { parameters := [], returnType := none }, accessFlags := 1, code := some k3c0 }
/-- java/lang/Number -/
def k3 : Class := { plain "java/lang/Number" (some 0) with
  accessFlags := 1057
  interfaces := #[2]
  cf := some (fileOf pool3 8 #[] #[{ accessFlags := 1, nameIndex := 5, descriptorIndex := 6, attributes := #[] }] 1057 2 #[13] #[{ accessFlags := 26, nameIndex := 15, descriptorIndex := 16, attributes := #[] }])
  fields := #[{ name := "serialVersionUID", type := .long, accessFlags := 26, slot := 0, constantValue := 0 }]
  methods := #[k3m0]
  instanceTypes := #[]
  staticTypes := #[.long]
  resolved := Array.replicate 37 none
  statics := none }

def pool4 : Array CpInfo := pool [(1, .class_ 2), (0, u "java/lang/Comparable"), (0, .class_ 4), (0, u "java/lang/Object")] 7

/-- java/lang/Comparable -/
def k4 : Class := { plain "java/lang/Comparable" (some 0) with
  accessFlags := 1537
  interfaces := #[]
  cf := some (fileOf pool4 1 #[] #[] 1537 3 #[] #[])
  fields := #[]
  methods := #[]
  instanceTypes := #[]
  staticTypes := #[]
  resolved := Array.replicate 12 none
  statics := none }

def pool5 : Array CpInfo := pool [(1, .class_ 2), (0, u "java/lang/constant/Constable"), (0, .class_ 4), (0, u "java/lang/Object")] 6

/-- java/lang/constant/Constable -/
def k5 : Class := { plain "java/lang/constant/Constable" (some 0) with
  accessFlags := 1537
  interfaces := #[]
  cf := some (fileOf pool5 1 #[] #[] 1537 3 #[] #[])
  fields := #[]
  methods := #[]
  instanceTypes := #[]
  staticTypes := #[]
  resolved := Array.replicate 11 none
  statics := none }

def pool6 : Array CpInfo := pool [(1, .class_ 2), (0, u "java/lang/constant/ConstantDesc"), (0, .class_ 4), (0, u "java/lang/Object")] 32

/-- java/lang/constant/ConstantDesc -/
def k6 : Class := { plain "java/lang/constant/ConstantDesc" (some 0) with
  accessFlags := 1537
  interfaces := #[]
  cf := some (fileOf pool6 1 #[] #[] 1537 3 #[] #[])
  fields := #[]
  methods := #[]
  instanceTypes := #[]
  staticTypes := #[]
  resolved := Array.replicate 37 none
  statics := none }

def pool7 : Array CpInfo := pool [(1, .class_ 2), (0, u "java/lang/Long"), (55, .nameAndType 59 60), (0, u "<init>"), (0, u "()V"), (24, u "valueOf"), (143, u "(J)Ljava/lang/Long;"), (0, .long 18446744073709551488), (1, .long 127), (1, .fieldref 235 236), (0, .class_ 237), (0, .nameAndType 238 239), (0, u "java/lang/Long$LongCache"), (0, u "cache"), (0, u "[Ljava/lang/Long;"), (0, .methodref 1 241), (0, .nameAndType 59 242), (0, u "(J)V"), (27, .methodref 271 58), (0, .class_ 272), (0, u "java/lang/Number"), (0, .fieldref 1 274), (0, .nameAndType 275 276), (0, u "value"), (0, u "J"), (84, u "TYPE"), (0, u "Ljava/lang/Class;"), (0, .class_ 364), (0, u "java/lang/Comparable"), (0, .class_ 366), (0, u "java/lang/constant/Constable"), (0, .class_ 368), (0, u "java/lang/constant/ConstantDesc"), (0, u "MIN_VALUE"), (1, u "MAX_VALUE"), (4, u "SIZE"), (0, u "I"), (1, u "BYTES"), (1, u "serialVersionUID")] 142

def k7c0 : Code := { maxStack := 4, maxLocals := 3, code := jdk_35_method_24_code, exceptionTable := #[], attributes := #[] }
def k7m0 : Method := { name := "valueOf", desc := "(J)Ljava/lang/Long;", sig := { parameters := [.long], returnType := some (.object "java/lang/Long") }, accessFlags := 9, code := some k7c0 }
def k7c1 : Code := { maxStack := 3, maxLocals := 3, code := jdk_35_method_26_code, exceptionTable := #[], attributes := #[] }
def k7m1 : Method := { name := "<init>", desc := "(J)V", sig := { parameters := [.long], returnType := none }, accessFlags := 1, code := some k7c1 }
/-- java/lang/Long -/
def k7 : Class := { plain "java/lang/Long" (some 3) with
  accessFlags := 49
  interfaces := #[4, 5, 6]
  cf := some (fileOf pool7 1 #[.nestMembers #[235]] #[{ accessFlags := 9, nameIndex := 85, descriptorIndex := 229, attributes := #[] }, { accessFlags := 1, nameIndex := 59, descriptorIndex := 242, attributes := #[] }] 49 271 #[363, 365, 367] #[{ accessFlags := 25, nameIndex := 369, descriptorIndex := 276, attributes := #[] }, { accessFlags := 25, nameIndex := 371, descriptorIndex := 276, attributes := #[] }, { accessFlags := 25, nameIndex := 361, descriptorIndex := 362, attributes := #[] }, { accessFlags := 18, nameIndex := 275, descriptorIndex := 276, attributes := #[] }, { accessFlags := 25, nameIndex := 376, descriptorIndex := 377, attributes := #[] }, { accessFlags := 25, nameIndex := 379, descriptorIndex := 377, attributes := #[] }, { accessFlags := 26, nameIndex := 381, descriptorIndex := 276, attributes := #[] }])
  fields := #[{ name := "MIN_VALUE", type := .long, accessFlags := 25, slot := 0, constantValue := 0 }, { name := "MAX_VALUE", type := .long, accessFlags := 25, slot := 1, constantValue := 0 }, { name := "TYPE", type := (.object "java/lang/Class"), accessFlags := 25, slot := 2, constantValue := 0 }, { name := "value", type := .long, accessFlags := 18, slot := 0, constantValue := 0 }, { name := "SIZE", type := .int, accessFlags := 25, slot := 3, constantValue := 0 }, { name := "BYTES", type := .int, accessFlags := 25, slot := 4, constantValue := 0 }, { name := "serialVersionUID", type := .long, accessFlags := 26, slot := 5, constantValue := 0 }]
  methods := #[k7m0, k7m1]
  instanceTypes := #[.long]
  staticTypes := #[.long, .long, (.object "java/lang/Class"), .int, .int, .long]
  resolved := Array.replicate 524 none
  statics := none }

def pool8 : Array CpInfo := pool [(2, .class_ 4), (1, u "java/lang/Object"), (0, u "<init>"), (0, u "()V"), (0, .class_ 8), (0, u "java/lang/Long"), (7, .class_ 18), (1, u "java/lang/Long$LongCache"), (0, u "$assertionsDisabled"), (0, u "Z"), (8, u "archivedCache"), (0, u "[Ljava/lang/Long;"), (7, u "cache")] 24

def k8m0 : Method := { name := "<init>", desc := "()V", sig := { parameters := [], returnType := none }, accessFlags := 2, code := none }
/-- java/lang/Long$LongCache -/
def k8 : Class := { plain "java/lang/Long$LongCache" (some 0) with
  accessFlags := 48
  interfaces := #[]
  cf := some (fileOf pool8 16 #[.nestHost 7] #[{ accessFlags := 2, nameIndex := 5, descriptorIndex := 6, attributes := #[] }] 48 2 #[] #[{ accessFlags := 24, nameIndex := 38, descriptorIndex := 30, attributes := #[] }, { accessFlags := 8, nameIndex := 29, descriptorIndex := 30, attributes := #[] }, { accessFlags := 4120, nameIndex := 19, descriptorIndex := 20, attributes := #[] }])
  fields := #[{ name := "cache", type := (.array (.object "java/lang/Long")), accessFlags := 24, slot := 0, constantValue := 0 }, { name := "archivedCache", type := (.array (.object "java/lang/Long")), accessFlags := 8, slot := 1, constantValue := 0 }, { name := "$assertionsDisabled", type := .boolean, accessFlags := 4120, slot := 2, constantValue := 0 }]
  methods := #[k8m0]
  instanceTypes := #[]
  staticTypes := #[(.array (.object "java/lang/Long")), (.array (.object "java/lang/Long")), .boolean]
  resolved := Array.replicate 63 none
  statics := some 0 }

def pool9 : Array CpInfo := pool [(2, .class_ 4), (1, u "java/lang/CharSequence"), (42, .class_ 48), (0, u "java/lang/CharSequence$1CodePointIterator"), (10, .class_ 60), (0, u "java/lang/CharSequence$1CharIterator"), (5, .class_ 67), (0, u "java/lang/Object")] 63

/-- java/lang/CharSequence -/
def k9 : Class := { plain "java/lang/CharSequence" (some 0) with
  accessFlags := 1537
  interfaces := #[]
  cf := some (fileOf pool9 2 #[.nestMembers #[47, 59]] #[] 1537 66 #[] #[])
  fields := #[]
  methods := #[]
  instanceTypes := #[]
  staticTypes := #[]
  resolved := Array.replicate 131 none
  statics := none }

def pool10 : Array CpInfo := pool [(1, .methodref 2 3), (0, .class_ 4), (0, .nameAndType 5 6), (0, u "java/lang/Object"), (0, u "<init>"), (0, u "()V"), (2, .fieldref 10 11), (0, .class_ 12), (0, .nameAndType 13 14), (0, u "java/lang/String"), (0, u "value"), (0, u "[B"), (0, .fieldref 10 16), (0, .nameAndType 17 18), (0, u "coder"), (0, u "B"), (2, u "hash"), (0, u "I"), (2, u "hashIsZero"), (0, u "Z"), (0, .methodref 10 28), (0, .nameAndType 5 29), (0, u "([CIILjava/lang/Void;)V"), (8, .fieldref 10 39), (0, .nameAndType 40 26), (0, u "COMPACT_STRINGS"), (1, .class_ 44), (1, u "java/lang/StringUTF16"), (0, u "compress"), (1, .methodref 42 48), (0, .nameAndType 49 50), (0, u "coderFromArrayLen"), (0, u "([BI)B"), (2, u "toBytes"), (53, .class_ 109), (1, u "java/lang/StringLatin1"), (67, .methodref 42 178), (0, .nameAndType 45 179), (0, u "([CII)[B"), (29, .methodref 10 210), (0, .nameAndType 5 211), (0, u "([BB)V"), (157, u "(C)Z"), (205, .class_ 576), (0, u "java/lang/CharSequence"), (22, u "CASE_INSENSITIVE_ORDER"), (0, u "Ljava/util/Comparator;"), (181, u "valueOf"), (0, u "(C)Ljava/lang/String;"), (226, u "([C)V"), (4, .methodref 107 1016), (0, .nameAndType 1017 369), (0, u "canEncode"), (0, .methodref 107 1019), (0, .nameAndType 53 1020), (0, u "(C)[B"), (80, u "serialPersistentFields"), (0, u "[Ljava/io/ObjectStreamField;"), (0, .class_ 1104), (0, u "java/lang/String$CaseInsensitiveComparator"), (1, .class_ 1107), (0, u "java/io/Serializable"), (0, .class_ 1109), (0, u "java/lang/Comparable"), (0, .class_ 1111), (0, u "java/lang/constant/Constable"), (0, .class_ 1113), (0, u "java/lang/constant/ConstantDesc"), (2, u "serialVersionUID"), (0, u "J"), (3, u "REPL"), (0, u "C"), (2, u "LATIN1"), (1, u "UTF16")] 323

def k10m0 : Method := { name := "<init>", desc := "()V", sig := { parameters := [], returnType := none }, accessFlags := 1, code := none }
def k10c1 : Code := { maxStack := 5, maxLocals := 2, code := jdk_42_method_3_code, exceptionTable := #[], attributes := #[] }
def k10m1 : Method := { name := "<init>", desc := "([C)V", sig := { parameters := [(.array .char)], returnType := none }, accessFlags := 1, code := some k10c1 }
def k10c2 : Code := { maxStack := 4, maxLocals := 1, code := jdk_42_method_139_code, exceptionTable := #[], attributes := #[] }
def k10m2 : Method := { name := "valueOf", desc := "(C)Ljava/lang/String;", sig := { parameters := [.char], returnType := some (.object "java/lang/String") }, accessFlags := 9, code := some k10c2 }
def k10c3 : Code := { maxStack := 4, maxLocals := 6, code := jdk_42_method_149_code, exceptionTable := #[], attributes := #[] }
def k10m3 : Method := { name := "<init>", desc := "([CIILjava/lang/Void;)V", sig := { parameters := [(.array .char), .int, .int, (.object "java/lang/Void")], returnType := none }, accessFlags := 2, code := some k10c3 }
def k10c4 : Code := { maxStack := 2, maxLocals := 3, code := jdk_42_method_151_code, exceptionTable := #[], attributes := #[] }
def k10m4 : Method := { name := "<init>", desc := "([BB)V", sig := { parameters := [(.array .byte), .byte], returnType := none }, accessFlags := 0, code := some k10c4 }
/-- java/lang/String -/
def k10 : Class := { plain "java/lang/String" (some 0) with
  accessFlags := 49
  interfaces := #[2, 4, 9, 5, 6]
  cf := some (fileOf pool10 10 #[.nestMembers #[1103]] #[{ accessFlags := 1, nameIndex := 5, descriptorIndex := 6, attributes := #[] }, { accessFlags := 1, nameIndex := 5, descriptorIndex := 1010, attributes := #[] }, { accessFlags := 9, nameIndex := 782, descriptorIndex := 783, attributes := #[] }, { accessFlags := 2, nameIndex := 5, descriptorIndex := 29, attributes := #[] }, { accessFlags := 0, nameIndex := 5, descriptorIndex := 211, attributes := #[] }] 49 2 #[1106, 1108, 575, 1110, 1112] #[{ accessFlags := 18, nameIndex := 13, descriptorIndex := 14, attributes := #[] }, { accessFlags := 18, nameIndex := 17, descriptorIndex := 18, attributes := #[] }, { accessFlags := 2, nameIndex := 21, descriptorIndex := 22, attributes := #[] }, { accessFlags := 2, nameIndex := 25, descriptorIndex := 26, attributes := #[] }, { accessFlags := 26, nameIndex := 1116, descriptorIndex := 1117, attributes := #[] }, { accessFlags := 24, nameIndex := 40, descriptorIndex := 26, attributes := #[] }, { accessFlags := 26, nameIndex := 1101, descriptorIndex := 1102, attributes := #[] }, { accessFlags := 26, nameIndex := 1121, descriptorIndex := 1122, attributes := #[] }, { accessFlags := 25, nameIndex := 599, descriptorIndex := 600, attributes := #[] }, { accessFlags := 24, nameIndex := 1125, descriptorIndex := 18, attributes := #[] }, { accessFlags := 24, nameIndex := 1127, descriptorIndex := 18, attributes := #[] }])
  fields := #[{ name := "value", type := (.array .byte), accessFlags := 18, slot := 0, constantValue := 0 }, { name := "coder", type := .byte, accessFlags := 18, slot := 1, constantValue := 0 }, { name := "hash", type := .int, accessFlags := 2, slot := 2, constantValue := 0 }, { name := "hashIsZero", type := .boolean, accessFlags := 2, slot := 3, constantValue := 0 }, { name := "serialVersionUID", type := .long, accessFlags := 26, slot := 0, constantValue := 0 }, { name := "COMPACT_STRINGS", type := .boolean, accessFlags := 24, slot := 1, constantValue := 0 }, { name := "serialPersistentFields", type := (.array (.object "java/io/ObjectStreamField")), accessFlags := 26, slot := 2, constantValue := 0 }, { name := "REPL", type := .char, accessFlags := 26, slot := 3, constantValue := 0 }, { name := "CASE_INSENSITIVE_ORDER", type := (.object "java/util/Comparator"), accessFlags := 25, slot := 4, constantValue := 0 }, { name := "LATIN1", type := .byte, accessFlags := 24, slot := 5, constantValue := 0 }, { name := "UTF16", type := .byte, accessFlags := 24, slot := 6, constantValue := 0 }]
  methods := #[k10m0, k10m1, k10m2, k10m3, k10m4]
  instanceTypes := #[(.array .byte), .byte, .int, .boolean]
  staticTypes := #[.long, .boolean, (.array (.object "java/io/ObjectStreamField")), .char, (.object "java/util/Comparator"), .byte, .byte]
  resolved := Array.replicate 1451 none
  statics := some 1 }

def pool11 : Array CpInfo := pool [(6, .class_ 8), (1, u "java/lang/Object"), (0, u "<init>"), (0, u "()V"), (1, .class_ 14), (1, u "java/lang/StringUTF16"), (31, u "$assertionsDisabled"), (0, u "Z"), (13, u "HI_BYTE_SHIFT"), (0, u "I"), (2, u "LO_BYTE_SHIFT"), (49, .methodref 12 116), (0, .nameAndType 117 118), (0, u "compress"), (0, u "([CI[BII)I"), (3, u "([CII)[B"), (138, u "coderFromArrayLen"), (0, u "([BI)B"), (106, .class_ 371), (1, u "java/lang/StringUTF16$LinesSpliterator"), (58, u "MAX_LENGTH"), (196, .class_ 628), (0, u "java/lang/StringUTF16$CodePointsSpliterator"), (0, .class_ 630), (0, u "java/lang/StringUTF16$CharsSpliterator")] 4

def k11m0 : Method := { name := "<init>", desc := "()V", sig := { parameters := [], returnType := none }, accessFlags := 0, code := none }
def k11c1 : Code := { maxStack := 2, maxLocals := 2, code := jdk_52_method_15_code, exceptionTable := #[], attributes := #[] }
def k11m1 : Method := { name := "coderFromArrayLen", desc := "([BI)B", sig := { parameters := [(.array .byte), .int], returnType := some .byte }, accessFlags := 8, code := some k11c1 }
def k11c2 : Code := { maxStack := 5, maxLocals := 6, code := jdk_52_method_16_code, exceptionTable := #[], attributes := #[] }
def k11m2 : Method := { name := "compress", desc := "([CII)[B", sig := { parameters := [(.array .char), .int, .int], returnType := some (.array .byte) }, accessFlags := 9, code := some k11c2 }
def k11c3 : Code := { maxStack := 3, maxLocals := 7, code := jdk_52_method_21_code, exceptionTable := #[], attributes := #[] }
def k11m3 : Method := { name := "compress", desc := "([CI[BII)I", sig := { parameters := [(.array .char), .int, (.array .byte), .int, .int], returnType := some .int }, accessFlags := 9, code := some k11c3 }
/-- java/lang/StringUTF16 -/
def k11 : Class := { plain "java/lang/StringUTF16" (some 0) with
  accessFlags := 48
  interfaces := #[]
  cf := some (fileOf pool11 12 #[.nestMembers #[627, 629, 369]] #[{ accessFlags := 0, nameIndex := 9, descriptorIndex := 10, attributes := #[] }, { accessFlags := 8, nameIndex := 261, descriptorIndex := 262, attributes := #[] }, { accessFlags := 9, nameIndex := 117, descriptorIndex := 122, attributes := #[] }, { accessFlags := 9, nameIndex := 117, descriptorIndex := 118, attributes := #[] }] 48 6 #[] #[{ accessFlags := 26, nameIndex := 61, descriptorIndex := 62, attributes := #[] }, { accessFlags := 26, nameIndex := 65, descriptorIndex := 62, attributes := #[] }, { accessFlags := 24, nameIndex := 430, descriptorIndex := 62, attributes := #[] }, { accessFlags := 4120, nameIndex := 46, descriptorIndex := 47, attributes := #[] }])
  fields := #[{ name := "HI_BYTE_SHIFT", type := .int, accessFlags := 26, slot := 0, constantValue := 0 }, { name := "LO_BYTE_SHIFT", type := .int, accessFlags := 26, slot := 1, constantValue := 0 }, { name := "MAX_LENGTH", type := .int, accessFlags := 24, slot := 2, constantValue := 0 }, { name := "$assertionsDisabled", type := .boolean, accessFlags := 4120, slot := 3, constantValue := 0 }]
  methods := #[k11m0, k11m1, k11m2, k11m3]
  instanceTypes := #[]
  staticTypes := #[.int, .int, .int, .boolean]
  resolved := Array.replicate 635 none
  statics := none }

def pool12 : Array CpInfo := pool [(4, .class_ 6), (1, u "java/lang/Object"), (0, u "<init>"), (0, u "()V"), (5, .class_ 16), (1, u "java/lang/StringLatin1"), (73, u "canEncode"), (14, u "(C)Z"), (15, u "$assertionsDisabled"), (0, u "Z"), (98, .class_ 223), (1, u "java/lang/StringLatin1$LinesSpliterator"), (156, u "toBytes"), (1, u "(C)[B"), (7, .class_ 391), (0, u "java/lang/StringLatin1$CharsSpliterator")] 3

def k12m0 : Method := { name := "<init>", desc := "()V", sig := { parameters := [], returnType := none }, accessFlags := 0, code := none }
def k12c1 : Code := { maxStack := 2, maxLocals := 1, code := jdk_43_method_3_code, exceptionTable := #[], attributes := #[] }
def k12m1 : Method := { name := "canEncode", desc := "(C)Z", sig := { parameters := [.char], returnType := some .boolean }, accessFlags := 9, code := some k12c1 }
def k12c2 : Code := { maxStack := 4, maxLocals := 1, code := jdk_43_method_46_code, exceptionTable := #[], attributes := #[] }
def k12m2 : Method := { name := "toBytes", desc := "(C)[B", sig := { parameters := [.char], returnType := some (.array .byte) }, accessFlags := 9, code := some k12c2 }
/-- java/lang/StringLatin1 -/
def k12 : Class := { plain "java/lang/StringLatin1" (some 0) with
  accessFlags := 48
  interfaces := #[]
  cf := some (fileOf pool12 14 #[.nestMembers #[390, 221]] #[{ accessFlags := 0, nameIndex := 7, descriptorIndex := 8, attributes := #[] }, { accessFlags := 9, nameIndex := 90, descriptorIndex := 105, attributes := #[] }, { accessFlags := 9, nameIndex := 380, descriptorIndex := 382, attributes := #[] }] 48 4 #[] #[{ accessFlags := 4120, nameIndex := 121, descriptorIndex := 122, attributes := #[] }])
  fields := #[{ name := "$assertionsDisabled", type := .boolean, accessFlags := 4120, slot := 0, constantValue := 0 }]
  methods := #[k12m0, k12m1, k12m2]
  instanceTypes := #[]
  staticTypes := #[.boolean]
  resolved := Array.replicate 395 none
  statics := none }

def pool13 : Array CpInfo := pool [(2, .class_ 4), (1, u "java/lang/Object"), (6, .class_ 13), (1, u "com/example/tablepuffer/tablepuffer/TableShape"), (0, u "positions"), (0, u "Ljava/util/Map;"), (3, u "[Lcom/example/tablepuffer/tablepuffer/ColumnDescription;"), (4, u "columns"), (4, u "codecs"), (0, u "[Lcom/example/tablepuffer/tablepuffer/ColumnCodec;"), (2, u "slots"), (0, u "[I"), (28, u "heldColumns"), (0, u "I"), (34, u "keyPositions"), (7, u "[Lcom/example/tablepuffer/tablepuffer/KeyKind;"), (2, u "keyKinds"), (8, .class_ 120), (0, u "com/example/tablepuffer/tablepuffer/CompositeKey"), (3, .methodref 119 125), (0, .nameAndType 126 127), (0, u "parts"), (0, u "()[Ljava/lang/Object;"), (5, u "keyParts"), (0, u "(Ljava/lang/Object;)[Ljava/lang/Object;")] 128

def k13c0 : Code := { maxStack := 4, maxLocals := 2, code := prog_87_method_12_code, exceptionTable := #[], attributes := #[] }
def k13m0 : Method := { name := "keyParts", desc := "(Ljava/lang/Object;)[Ljava/lang/Object;", sig := { parameters := [(.object "java/lang/Object")], returnType := some (.array (.object "java/lang/Object")) }, accessFlags := 8, code := some k13c0 }
/-- com/example/tablepuffer/tablepuffer/TableShape -/
def k13 : Class := { plain "com/example/tablepuffer/tablepuffer/TableShape" (some 0) with
  accessFlags := 48
  interfaces := #[]
  cf := some (fileOf pool13 11 #[] #[{ accessFlags := 8, nameIndex := 133, descriptorIndex := 134, attributes := #[] }] 48 2 #[] #[{ accessFlags := 18, nameIndex := 24, descriptorIndex := 19, attributes := #[] }, { accessFlags := 18, nameIndex := 14, descriptorIndex := 15, attributes := #[] }, { accessFlags := 18, nameIndex := 29, descriptorIndex := 30, attributes := #[] }, { accessFlags := 18, nameIndex := 33, descriptorIndex := 34, attributes := #[] }, { accessFlags := 18, nameIndex := 63, descriptorIndex := 64, attributes := #[] }, { accessFlags := 18, nameIndex := 99, descriptorIndex := 34, attributes := #[] }, { accessFlags := 18, nameIndex := 110, descriptorIndex := 107, attributes := #[] }])
  fields := #[{ name := "columns", type := (.array (.object "com/example/tablepuffer/tablepuffer/ColumnDescription")), accessFlags := 18, slot := 0, constantValue := 0 }, { name := "positions", type := (.object "java/util/Map"), accessFlags := 18, slot := 1, constantValue := 0 }, { name := "codecs", type := (.array (.object "com/example/tablepuffer/tablepuffer/ColumnCodec")), accessFlags := 18, slot := 2, constantValue := 0 }, { name := "slots", type := (.array .int), accessFlags := 18, slot := 3, constantValue := 0 }, { name := "heldColumns", type := .int, accessFlags := 18, slot := 4, constantValue := 0 }, { name := "keyPositions", type := (.array .int), accessFlags := 18, slot := 5, constantValue := 0 }, { name := "keyKinds", type := (.array (.object "com/example/tablepuffer/tablepuffer/KeyKind")), accessFlags := 18, slot := 6, constantValue := 0 }]
  methods := #[k13m0]
  instanceTypes := #[(.array (.object "com/example/tablepuffer/tablepuffer/ColumnDescription")), (.object "java/util/Map"), (.array (.object "com/example/tablepuffer/tablepuffer/ColumnCodec")), (.array .int), .int, (.array .int), (.array (.object "com/example/tablepuffer/tablepuffer/KeyKind"))]
  staticTypes := #[]
  resolved := Array.replicate 263 none
  statics := none }

def pool14 : Array CpInfo := pool [(1, .methodref 2 3), (0, .class_ 4), (0, .nameAndType 5 6), (0, u "java/lang/Object"), (0, u "<init>"), (0, u "()V"), (0, .fieldref 8 9), (0, .class_ 10), (0, .nameAndType 11 12), (0, u "com/example/tablepuffer/tablepuffer/CompositeKey"), (0, u "parts"), (0, u "[Ljava/lang/Object;"), (0, .methodref 14 15), (0, .class_ 12), (0, .nameAndType 16 17), (0, u "clone"), (0, u "()Ljava/lang/Object;"), (16, u "([Ljava/lang/Object;)V"), (2, u "()[Ljava/lang/Object;")] 7

def k14c0 : Code := { maxStack := 2, maxLocals := 2, code := prog_36_method_1_code, exceptionTable := #[], attributes := #[] }
def k14m0 : Method := { name := "<init>", desc := "([Ljava/lang/Object;)V", sig := { parameters := [(.array (.object "java/lang/Object"))], returnType := none }, accessFlags := 0, code := some k14c0 }
def k14c1 : Code := { maxStack := 1, maxLocals := 1, code := prog_36_method_2_code, exceptionTable := #[], attributes := #[] }
def k14m1 : Method := { name := "parts", desc := "()[Ljava/lang/Object;", sig := { parameters := [], returnType := some (.array (.object "java/lang/Object")) }, accessFlags := 0, code := some k14c1 }
/-- com/example/tablepuffer/tablepuffer/CompositeKey -/
def k14 : Class := { plain "com/example/tablepuffer/tablepuffer/CompositeKey" (some 0) with
  accessFlags := 48
  interfaces := #[]
  cf := some (fileOf pool14 8 #[] #[{ accessFlags := 0, nameIndex := 5, descriptorIndex := 34, attributes := #[] }, { accessFlags := 0, nameIndex := 11, descriptorIndex := 37, attributes := #[] }] 48 2 #[] #[{ accessFlags := 18, nameIndex := 11, descriptorIndex := 12, attributes := #[] }])
  fields := #[{ name := "parts", type := (.array (.object "java/lang/Object")), accessFlags := 18, slot := 0, constantValue := 0 }]
  methods := #[k14m0, k14m1]
  instanceTypes := #[(.array (.object "java/lang/Object"))]
  staticTypes := #[]
  resolved := Array.replicate 45 none
  statics := none }

def pool15 : Array CpInfo := pool [(1, .class_ 2), (0, u "java/lang/Cloneable"), (0, .class_ 4), (0, u "java/lang/Object")] 2

/-- java/lang/Cloneable -/
def k15 : Class := { plain "java/lang/Cloneable" (some 0) with
  accessFlags := 1537
  interfaces := #[]
  cf := some (fileOf pool15 1 #[] #[] 1537 3 #[] #[])
  fields := #[]
  methods := #[]
  instanceTypes := #[]
  staticTypes := #[]
  resolved := Array.replicate 7 none
  statics := none }

def pool16 : Array CpInfo := pool [(2, .class_ 4), (1, u "java/lang/Object"), (0, u "<init>"), (0, u "()V"), (17, .class_ 26), (1, u "jdk/internal/util/Preconditions"), (28, .class_ 56), (0, u "jdk/internal/util/Preconditions$4"), (57, .class_ 115), (0, u "jdk/internal/util/Preconditions$1"), (7, u "SIOOBE_FORMATTER"), (0, u "Ljava/util/function/BiFunction;"), (0, .class_ 126), (0, u "jdk/internal/util/Preconditions$2"), (3, u "AIOOBE_FORMATTER"), (0, .class_ 132), (0, u "jdk/internal/util/Preconditions$3"), (3, u "IOOBE_FORMATTER")] 57

def k16m0 : Method := { name := "<init>", desc := "()V", sig := { parameters := [], returnType := none }, accessFlags := 1, code := none }
/-- jdk/internal/util/Preconditions -/
def k16 : Class := { plain "jdk/internal/util/Preconditions" (some 0) with
  accessFlags := 33
  interfaces := #[]
  cf := some (fileOf pool16 24 #[.nestMembers #[55, 131, 125, 114]] #[{ accessFlags := 1, nameIndex := 5, descriptorIndex := 6, attributes := #[] }] 33 2 #[] #[{ accessFlags := 25, nameIndex := 123, descriptorIndex := 124, attributes := #[] }, { accessFlags := 25, nameIndex := 130, descriptorIndex := 124, attributes := #[] }, { accessFlags := 25, nameIndex := 136, descriptorIndex := 124, attributes := #[] }])
  fields := #[{ name := "SIOOBE_FORMATTER", type := (.object "java/util/function/BiFunction"), accessFlags := 25, slot := 0, constantValue := 0 }, { name := "AIOOBE_FORMATTER", type := (.object "java/util/function/BiFunction"), accessFlags := 25, slot := 1, constantValue := 0 }, { name := "IOOBE_FORMATTER", type := (.object "java/util/function/BiFunction"), accessFlags := 25, slot := 2, constantValue := 0 }]
  methods := #[k16m0]
  instanceTypes := #[]
  staticTypes := #[(.object "java/util/function/BiFunction"), (.object "java/util/function/BiFunction"), (.object "java/util/function/BiFunction")]
  resolved := Array.replicate 194 none
  statics := some 2 }

def pool17 : Array CpInfo := pool [(9, u "<init>"), (6, .class_ 18), (1, u "java/lang/Object"), (0, u "()V"), (1, .class_ 23), (1, u "jdk/internal/util/ArraysSupport"), (0, u "LOG2_ARRAY_LONG_INDEX_SCALE"), (0, u "I"), (2, u "U"), (0, u "Ljdk/internal/misc/Unsafe;"), (8, u "BIG_ENDIAN"), (0, u "Z"), (8, u "LOG2_BYTE_BIT_SIZE"), (4, u "LOG2_ARRAY_INT_INDEX_SCALE"), (54, u "JLA"), (0, u "Ljdk/internal/access/JavaLangAccess;"), (11, u "LOG2_ARRAY_BOOLEAN_INDEX_SCALE"), (9, u "LOG2_ARRAY_BYTE_INDEX_SCALE"), (5, u "LOG2_ARRAY_CHAR_INDEX_SCALE"), (5, u "LOG2_ARRAY_SHORT_INDEX_SCALE"), (18, u "LOG2_ARRAY_FLOAT_INDEX_SCALE"), (24, u "LOG2_ARRAY_DOUBLE_INDEX_SCALE"), (89, u "T_BOOLEAN"), (2, u "T_CHAR"), (1, u "T_FLOAT"), (1, u "T_DOUBLE"), (1, u "T_BYTE"), (1, u "T_SHORT"), (1, u "T_INT"), (1, u "T_LONG"), (1, u "SOFT_MAX_ARRAY_LENGTH")] 83

def k17m0 : Method := { name := "<init>", desc := "()V", sig := { parameters := [], returnType := none }, accessFlags := 2, code := none }
/-- jdk/internal/util/ArraysSupport -/
def k17 : Class := { plain "jdk/internal/util/ArraysSupport" (some 0) with
  accessFlags := 33
  interfaces := #[]
  cf := some (fileOf pool17 21 #[] #[{ accessFlags := 2, nameIndex := 9, descriptorIndex := 19, attributes := #[] }] 33 16 #[] #[{ accessFlags := 24, nameIndex := 28, descriptorIndex := 29, attributes := #[] }, { accessFlags := 26, nameIndex := 38, descriptorIndex := 39, attributes := #[] }, { accessFlags := 25, nameIndex := 121, descriptorIndex := 25, attributes := #[] }, { accessFlags := 25, nameIndex := 131, descriptorIndex := 25, attributes := #[] }, { accessFlags := 25, nameIndex := 137, descriptorIndex := 25, attributes := #[] }, { accessFlags := 25, nameIndex := 143, descriptorIndex := 25, attributes := #[] }, { accessFlags := 25, nameIndex := 53, descriptorIndex := 25, attributes := #[] }, { accessFlags := 25, nameIndex := 24, descriptorIndex := 25, attributes := #[] }, { accessFlags := 25, nameIndex := 162, descriptorIndex := 25, attributes := #[] }, { accessFlags := 25, nameIndex := 187, descriptorIndex := 25, attributes := #[] }, { accessFlags := 26, nameIndex := 48, descriptorIndex := 25, attributes := #[] }, { accessFlags := 25, nameIndex := 277, descriptorIndex := 25, attributes := #[] }, { accessFlags := 25, nameIndex := 280, descriptorIndex := 25, attributes := #[] }, { accessFlags := 25, nameIndex := 282, descriptorIndex := 25, attributes := #[] }, { accessFlags := 25, nameIndex := 284, descriptorIndex := 25, attributes := #[] }, { accessFlags := 25, nameIndex := 286, descriptorIndex := 25, attributes := #[] }, { accessFlags := 25, nameIndex := 288, descriptorIndex := 25, attributes := #[] }, { accessFlags := 25, nameIndex := 290, descriptorIndex := 25, attributes := #[] }, { accessFlags := 25, nameIndex := 292, descriptorIndex := 25, attributes := #[] }, { accessFlags := 26, nameIndex := 108, descriptorIndex := 109, attributes := #[] }, { accessFlags := 25, nameIndex := 294, descriptorIndex := 25, attributes := #[] }])
  fields := #[{ name := "U", type := (.object "jdk/internal/misc/Unsafe"), accessFlags := 24, slot := 0, constantValue := 0 }, { name := "BIG_ENDIAN", type := .boolean, accessFlags := 26, slot := 1, constantValue := 0 }, { name := "LOG2_ARRAY_BOOLEAN_INDEX_SCALE", type := .int, accessFlags := 25, slot := 2, constantValue := 0 }, { name := "LOG2_ARRAY_BYTE_INDEX_SCALE", type := .int, accessFlags := 25, slot := 3, constantValue := 0 }, { name := "LOG2_ARRAY_CHAR_INDEX_SCALE", type := .int, accessFlags := 25, slot := 4, constantValue := 0 }, { name := "LOG2_ARRAY_SHORT_INDEX_SCALE", type := .int, accessFlags := 25, slot := 5, constantValue := 0 }, { name := "LOG2_ARRAY_INT_INDEX_SCALE", type := .int, accessFlags := 25, slot := 6, constantValue := 0 }, { name := "LOG2_ARRAY_LONG_INDEX_SCALE", type := .int, accessFlags := 25, slot := 7, constantValue := 0 }, { name := "LOG2_ARRAY_FLOAT_INDEX_SCALE", type := .int, accessFlags := 25, slot := 8, constantValue := 0 }, { name := "LOG2_ARRAY_DOUBLE_INDEX_SCALE", type := .int, accessFlags := 25, slot := 9, constantValue := 0 }, { name := "LOG2_BYTE_BIT_SIZE", type := .int, accessFlags := 26, slot := 10, constantValue := 0 }, { name := "T_BOOLEAN", type := .int, accessFlags := 25, slot := 11, constantValue := 0 }, { name := "T_CHAR", type := .int, accessFlags := 25, slot := 12, constantValue := 0 }, { name := "T_FLOAT", type := .int, accessFlags := 25, slot := 13, constantValue := 0 }, { name := "T_DOUBLE", type := .int, accessFlags := 25, slot := 14, constantValue := 0 }, { name := "T_BYTE", type := .int, accessFlags := 25, slot := 15, constantValue := 0 }, { name := "T_SHORT", type := .int, accessFlags := 25, slot := 16, constantValue := 0 }, { name := "T_INT", type := .int, accessFlags := 25, slot := 17, constantValue := 0 }, { name := "T_LONG", type := .int, accessFlags := 25, slot := 18, constantValue := 0 }, { name := "JLA", type := (.object "jdk/internal/access/JavaLangAccess"), accessFlags := 26, slot := 19, constantValue := 0 }, { name := "SOFT_MAX_ARRAY_LENGTH", type := .int, accessFlags := 25, slot := 20, constantValue := 0 }]
  methods := #[k17m0]
  instanceTypes := #[]
  staticTypes := #[(.object "jdk/internal/misc/Unsafe"), .boolean, .int, .int, .int, .int, .int, .int, .int, .int, .int, .int, .int, .int, .int, .int, .int, .int, .int, (.object "jdk/internal/access/JavaLangAccess"), .int]
  resolved := Array.replicate 378 none
  statics := none }

/-- the primitive byte -/
def k18 : Class := { plain "byte" none with kind := .primitive 'B', accessFlags := 0x411 }
/-- [B -/
def k19 : Class := { plain "[B" (some 0) with kind := .array 18 .byte, interfaces := #[15, 2], accessFlags := 1041 }

/-- the primitive char -/
def k20 : Class := { plain "char" none with kind := .primitive 'C', accessFlags := 0x411 }
/-- [C -/
def k21 : Class := { plain "[C" (some 0) with kind := .array 20 .char, interfaces := #[15, 2], accessFlags := 1041 }

/-- the primitive int -/
def k22 : Class := { plain "int" none with kind := .primitive 'I', accessFlags := 0x411 }
/-- [I -/
def k23 : Class := { plain "[I" (some 0) with kind := .array 22 .int, interfaces := #[15, 2], accessFlags := 1041 }

/-- [Ljava/lang/Long; -/
def k24 : Class := { plain "[Ljava/lang/Long;" (some 0) with kind := .array 7 (.object "java/lang/Long"), interfaces := #[15, 2], accessFlags := 1041 }

/-- [Ljava/lang/Object; -/
def k25 : Class := { plain "[Ljava/lang/Object;" (some 0) with kind := .array 0 (.object "java/lang/Object"), interfaces := #[15, 2], accessFlags := 1041 }

def heap : Heap := #[{ cls := 8, slots := #[.ref 3, .null, .int 0], vm := .statics 8 },
  { cls := 10, slots := #[.long 0, .int 1, .null, .int 0, .null, .int 0, .int 0], vm := .statics 10 },
  { cls := 16, slots := #[.null, .null, .null], vm := .statics 16 },
  { cls := 24, slots := #[.ref 4, .ref 5, .ref 6, .ref 7, .ref 8, .ref 9, .ref 10, .ref 11, .ref 12, .ref 13, .ref 14, .ref 15, .ref 16, .ref 17, .ref 18, .ref 19, .ref 20, .ref 21, .ref 22, .ref 23, .ref 24, .ref 25, .ref 26, .ref 27, .ref 28, .ref 29, .ref 30, .ref 31, .ref 32, .ref 33, .ref 34, .ref 35, .ref 36, .ref 37, .ref 38, .ref 39, .ref 40, .ref 41, .ref 42, .ref 43, .ref 44, .ref 45, .ref 46, .ref 47, .ref 48, .ref 49, .ref 50, .ref 51, .ref 52, .ref 53, .ref 54, .ref 55, .ref 56, .ref 57, .ref 58, .ref 59, .ref 60, .ref 61, .ref 62, .ref 63, .ref 64, .ref 65, .ref 66, .ref 67, .ref 68, .ref 69, .ref 70, .ref 71, .ref 72, .ref 73, .ref 74, .ref 75, .ref 76, .ref 77, .ref 78, .ref 79, .ref 80, .ref 81, .ref 82, .ref 83, .ref 84, .ref 85, .ref 86, .ref 87, .ref 88, .ref 89, .ref 90, .ref 91, .ref 92, .ref 93, .ref 94, .ref 95, .ref 96, .ref 97, .ref 98, .ref 99, .ref 100, .ref 101, .ref 102, .ref 103, .ref 104, .ref 105, .ref 106, .ref 107, .ref 108, .ref 109, .ref 110, .ref 111, .ref 112, .ref 113, .ref 114, .ref 115, .ref 116, .ref 117, .ref 118, .ref 119, .ref 120, .ref 121, .ref 122, .ref 123, .ref 124, .ref 125, .ref 126, .ref 127, .ref 128, .ref 129, .ref 130, .ref 131, .ref 132, .ref 133, .ref 134, .ref 135, .ref 136, .ref 137, .ref 138, .ref 139, .ref 140, .ref 141, .ref 142, .ref 143, .ref 144, .ref 145, .ref 146, .ref 147, .ref 148, .ref 149, .ref 150, .ref 151, .ref 152, .ref 153, .ref 154, .ref 155, .ref 156, .ref 157, .ref 158, .ref 159, .ref 160, .ref 161, .ref 162, .ref 163, .ref 164, .ref 165, .ref 166, .ref 167, .ref 168, .ref 169, .ref 170, .ref 171, .ref 172, .ref 173, .ref 174, .ref 175, .ref 176, .ref 177, .ref 178, .ref 179, .ref 180, .ref 181, .ref 182, .ref 183, .ref 184, .ref 185, .ref 186, .ref 187, .ref 188, .ref 189, .ref 190, .ref 191, .ref 192, .ref 193, .ref 194, .ref 195, .ref 196, .ref 197, .ref 198, .ref 199, .ref 200, .ref 201, .ref 202, .ref 203, .ref 204, .ref 205, .ref 206, .ref 207, .ref 208, .ref 209, .ref 210, .ref 211, .ref 212, .ref 213, .ref 214, .ref 215, .ref 216, .ref 217, .ref 218, .ref 219, .ref 220, .ref 221, .ref 222, .ref 223, .ref 224, .ref 225, .ref 226, .ref 227, .ref 228, .ref 229, .ref 230, .ref 231, .ref 232, .ref 233, .ref 234, .ref 235, .ref 236, .ref 237, .ref 238, .ref 239, .ref 240, .ref 241, .ref 242, .ref 243, .ref 244, .ref 245, .ref 246, .ref 247, .ref 248, .ref 249, .ref 250, .ref 251, .ref 252, .ref 253, .ref 254, .ref 255, .ref 256, .ref 257, .ref 258, .ref 259], vm := .none },
  { cls := 7, slots := #[.long (-128)], vm := .none },
  { cls := 7, slots := #[.long (-127)], vm := .none },
  { cls := 7, slots := #[.long (-126)], vm := .none },
  { cls := 7, slots := #[.long (-125)], vm := .none },
  { cls := 7, slots := #[.long (-124)], vm := .none },
  { cls := 7, slots := #[.long (-123)], vm := .none },
  { cls := 7, slots := #[.long (-122)], vm := .none },
  { cls := 7, slots := #[.long (-121)], vm := .none },
  { cls := 7, slots := #[.long (-120)], vm := .none },
  { cls := 7, slots := #[.long (-119)], vm := .none },
  { cls := 7, slots := #[.long (-118)], vm := .none },
  { cls := 7, slots := #[.long (-117)], vm := .none },
  { cls := 7, slots := #[.long (-116)], vm := .none },
  { cls := 7, slots := #[.long (-115)], vm := .none },
  { cls := 7, slots := #[.long (-114)], vm := .none },
  { cls := 7, slots := #[.long (-113)], vm := .none },
  { cls := 7, slots := #[.long (-112)], vm := .none },
  { cls := 7, slots := #[.long (-111)], vm := .none },
  { cls := 7, slots := #[.long (-110)], vm := .none },
  { cls := 7, slots := #[.long (-109)], vm := .none },
  { cls := 7, slots := #[.long (-108)], vm := .none },
  { cls := 7, slots := #[.long (-107)], vm := .none },
  { cls := 7, slots := #[.long (-106)], vm := .none },
  { cls := 7, slots := #[.long (-105)], vm := .none },
  { cls := 7, slots := #[.long (-104)], vm := .none },
  { cls := 7, slots := #[.long (-103)], vm := .none },
  { cls := 7, slots := #[.long (-102)], vm := .none },
  { cls := 7, slots := #[.long (-101)], vm := .none },
  { cls := 7, slots := #[.long (-100)], vm := .none },
  { cls := 7, slots := #[.long (-99)], vm := .none },
  { cls := 7, slots := #[.long (-98)], vm := .none },
  { cls := 7, slots := #[.long (-97)], vm := .none },
  { cls := 7, slots := #[.long (-96)], vm := .none },
  { cls := 7, slots := #[.long (-95)], vm := .none },
  { cls := 7, slots := #[.long (-94)], vm := .none },
  { cls := 7, slots := #[.long (-93)], vm := .none },
  { cls := 7, slots := #[.long (-92)], vm := .none },
  { cls := 7, slots := #[.long (-91)], vm := .none },
  { cls := 7, slots := #[.long (-90)], vm := .none },
  { cls := 7, slots := #[.long (-89)], vm := .none },
  { cls := 7, slots := #[.long (-88)], vm := .none },
  { cls := 7, slots := #[.long (-87)], vm := .none },
  { cls := 7, slots := #[.long (-86)], vm := .none },
  { cls := 7, slots := #[.long (-85)], vm := .none },
  { cls := 7, slots := #[.long (-84)], vm := .none },
  { cls := 7, slots := #[.long (-83)], vm := .none },
  { cls := 7, slots := #[.long (-82)], vm := .none },
  { cls := 7, slots := #[.long (-81)], vm := .none },
  { cls := 7, slots := #[.long (-80)], vm := .none },
  { cls := 7, slots := #[.long (-79)], vm := .none },
  { cls := 7, slots := #[.long (-78)], vm := .none },
  { cls := 7, slots := #[.long (-77)], vm := .none },
  { cls := 7, slots := #[.long (-76)], vm := .none },
  { cls := 7, slots := #[.long (-75)], vm := .none },
  { cls := 7, slots := #[.long (-74)], vm := .none },
  { cls := 7, slots := #[.long (-73)], vm := .none },
  { cls := 7, slots := #[.long (-72)], vm := .none },
  { cls := 7, slots := #[.long (-71)], vm := .none },
  { cls := 7, slots := #[.long (-70)], vm := .none },
  { cls := 7, slots := #[.long (-69)], vm := .none },
  { cls := 7, slots := #[.long (-68)], vm := .none },
  { cls := 7, slots := #[.long (-67)], vm := .none },
  { cls := 7, slots := #[.long (-66)], vm := .none },
  { cls := 7, slots := #[.long (-65)], vm := .none },
  { cls := 7, slots := #[.long (-64)], vm := .none },
  { cls := 7, slots := #[.long (-63)], vm := .none },
  { cls := 7, slots := #[.long (-62)], vm := .none },
  { cls := 7, slots := #[.long (-61)], vm := .none },
  { cls := 7, slots := #[.long (-60)], vm := .none },
  { cls := 7, slots := #[.long (-59)], vm := .none },
  { cls := 7, slots := #[.long (-58)], vm := .none },
  { cls := 7, slots := #[.long (-57)], vm := .none },
  { cls := 7, slots := #[.long (-56)], vm := .none },
  { cls := 7, slots := #[.long (-55)], vm := .none },
  { cls := 7, slots := #[.long (-54)], vm := .none },
  { cls := 7, slots := #[.long (-53)], vm := .none },
  { cls := 7, slots := #[.long (-52)], vm := .none },
  { cls := 7, slots := #[.long (-51)], vm := .none },
  { cls := 7, slots := #[.long (-50)], vm := .none },
  { cls := 7, slots := #[.long (-49)], vm := .none },
  { cls := 7, slots := #[.long (-48)], vm := .none },
  { cls := 7, slots := #[.long (-47)], vm := .none },
  { cls := 7, slots := #[.long (-46)], vm := .none },
  { cls := 7, slots := #[.long (-45)], vm := .none },
  { cls := 7, slots := #[.long (-44)], vm := .none },
  { cls := 7, slots := #[.long (-43)], vm := .none },
  { cls := 7, slots := #[.long (-42)], vm := .none },
  { cls := 7, slots := #[.long (-41)], vm := .none },
  { cls := 7, slots := #[.long (-40)], vm := .none },
  { cls := 7, slots := #[.long (-39)], vm := .none },
  { cls := 7, slots := #[.long (-38)], vm := .none },
  { cls := 7, slots := #[.long (-37)], vm := .none },
  { cls := 7, slots := #[.long (-36)], vm := .none },
  { cls := 7, slots := #[.long (-35)], vm := .none },
  { cls := 7, slots := #[.long (-34)], vm := .none },
  { cls := 7, slots := #[.long (-33)], vm := .none },
  { cls := 7, slots := #[.long (-32)], vm := .none },
  { cls := 7, slots := #[.long (-31)], vm := .none },
  { cls := 7, slots := #[.long (-30)], vm := .none },
  { cls := 7, slots := #[.long (-29)], vm := .none },
  { cls := 7, slots := #[.long (-28)], vm := .none },
  { cls := 7, slots := #[.long (-27)], vm := .none },
  { cls := 7, slots := #[.long (-26)], vm := .none },
  { cls := 7, slots := #[.long (-25)], vm := .none },
  { cls := 7, slots := #[.long (-24)], vm := .none },
  { cls := 7, slots := #[.long (-23)], vm := .none },
  { cls := 7, slots := #[.long (-22)], vm := .none },
  { cls := 7, slots := #[.long (-21)], vm := .none },
  { cls := 7, slots := #[.long (-20)], vm := .none },
  { cls := 7, slots := #[.long (-19)], vm := .none },
  { cls := 7, slots := #[.long (-18)], vm := .none },
  { cls := 7, slots := #[.long (-17)], vm := .none },
  { cls := 7, slots := #[.long (-16)], vm := .none },
  { cls := 7, slots := #[.long (-15)], vm := .none },
  { cls := 7, slots := #[.long (-14)], vm := .none },
  { cls := 7, slots := #[.long (-13)], vm := .none },
  { cls := 7, slots := #[.long (-12)], vm := .none },
  { cls := 7, slots := #[.long (-11)], vm := .none },
  { cls := 7, slots := #[.long (-10)], vm := .none },
  { cls := 7, slots := #[.long (-9)], vm := .none },
  { cls := 7, slots := #[.long (-8)], vm := .none },
  { cls := 7, slots := #[.long (-7)], vm := .none },
  { cls := 7, slots := #[.long (-6)], vm := .none },
  { cls := 7, slots := #[.long (-5)], vm := .none },
  { cls := 7, slots := #[.long (-4)], vm := .none },
  { cls := 7, slots := #[.long (-3)], vm := .none },
  { cls := 7, slots := #[.long (-2)], vm := .none },
  { cls := 7, slots := #[.long (-1)], vm := .none },
  { cls := 7, slots := #[.long (0)], vm := .none },
  { cls := 7, slots := #[.long (1)], vm := .none },
  { cls := 7, slots := #[.long (2)], vm := .none },
  { cls := 7, slots := #[.long (3)], vm := .none },
  { cls := 7, slots := #[.long (4)], vm := .none },
  { cls := 7, slots := #[.long (5)], vm := .none },
  { cls := 7, slots := #[.long (6)], vm := .none },
  { cls := 7, slots := #[.long (7)], vm := .none },
  { cls := 7, slots := #[.long (8)], vm := .none },
  { cls := 7, slots := #[.long (9)], vm := .none },
  { cls := 7, slots := #[.long (10)], vm := .none },
  { cls := 7, slots := #[.long (11)], vm := .none },
  { cls := 7, slots := #[.long (12)], vm := .none },
  { cls := 7, slots := #[.long (13)], vm := .none },
  { cls := 7, slots := #[.long (14)], vm := .none },
  { cls := 7, slots := #[.long (15)], vm := .none },
  { cls := 7, slots := #[.long (16)], vm := .none },
  { cls := 7, slots := #[.long (17)], vm := .none },
  { cls := 7, slots := #[.long (18)], vm := .none },
  { cls := 7, slots := #[.long (19)], vm := .none },
  { cls := 7, slots := #[.long (20)], vm := .none },
  { cls := 7, slots := #[.long (21)], vm := .none },
  { cls := 7, slots := #[.long (22)], vm := .none },
  { cls := 7, slots := #[.long (23)], vm := .none },
  { cls := 7, slots := #[.long (24)], vm := .none },
  { cls := 7, slots := #[.long (25)], vm := .none },
  { cls := 7, slots := #[.long (26)], vm := .none },
  { cls := 7, slots := #[.long (27)], vm := .none },
  { cls := 7, slots := #[.long (28)], vm := .none },
  { cls := 7, slots := #[.long (29)], vm := .none },
  { cls := 7, slots := #[.long (30)], vm := .none },
  { cls := 7, slots := #[.long (31)], vm := .none },
  { cls := 7, slots := #[.long (32)], vm := .none },
  { cls := 7, slots := #[.long (33)], vm := .none },
  { cls := 7, slots := #[.long (34)], vm := .none },
  { cls := 7, slots := #[.long (35)], vm := .none },
  { cls := 7, slots := #[.long (36)], vm := .none },
  { cls := 7, slots := #[.long (37)], vm := .none },
  { cls := 7, slots := #[.long (38)], vm := .none },
  { cls := 7, slots := #[.long (39)], vm := .none },
  { cls := 7, slots := #[.long (40)], vm := .none },
  { cls := 7, slots := #[.long (41)], vm := .none },
  { cls := 7, slots := #[.long (42)], vm := .none },
  { cls := 7, slots := #[.long (43)], vm := .none },
  { cls := 7, slots := #[.long (44)], vm := .none },
  { cls := 7, slots := #[.long (45)], vm := .none },
  { cls := 7, slots := #[.long (46)], vm := .none },
  { cls := 7, slots := #[.long (47)], vm := .none },
  { cls := 7, slots := #[.long (48)], vm := .none },
  { cls := 7, slots := #[.long (49)], vm := .none },
  { cls := 7, slots := #[.long (50)], vm := .none },
  { cls := 7, slots := #[.long (51)], vm := .none },
  { cls := 7, slots := #[.long (52)], vm := .none },
  { cls := 7, slots := #[.long (53)], vm := .none },
  { cls := 7, slots := #[.long (54)], vm := .none },
  { cls := 7, slots := #[.long (55)], vm := .none },
  { cls := 7, slots := #[.long (56)], vm := .none },
  { cls := 7, slots := #[.long (57)], vm := .none },
  { cls := 7, slots := #[.long (58)], vm := .none },
  { cls := 7, slots := #[.long (59)], vm := .none },
  { cls := 7, slots := #[.long (60)], vm := .none },
  { cls := 7, slots := #[.long (61)], vm := .none },
  { cls := 7, slots := #[.long (62)], vm := .none },
  { cls := 7, slots := #[.long (63)], vm := .none },
  { cls := 7, slots := #[.long (64)], vm := .none },
  { cls := 7, slots := #[.long (65)], vm := .none },
  { cls := 7, slots := #[.long (66)], vm := .none },
  { cls := 7, slots := #[.long (67)], vm := .none },
  { cls := 7, slots := #[.long (68)], vm := .none },
  { cls := 7, slots := #[.long (69)], vm := .none },
  { cls := 7, slots := #[.long (70)], vm := .none },
  { cls := 7, slots := #[.long (71)], vm := .none },
  { cls := 7, slots := #[.long (72)], vm := .none },
  { cls := 7, slots := #[.long (73)], vm := .none },
  { cls := 7, slots := #[.long (74)], vm := .none },
  { cls := 7, slots := #[.long (75)], vm := .none },
  { cls := 7, slots := #[.long (76)], vm := .none },
  { cls := 7, slots := #[.long (77)], vm := .none },
  { cls := 7, slots := #[.long (78)], vm := .none },
  { cls := 7, slots := #[.long (79)], vm := .none },
  { cls := 7, slots := #[.long (80)], vm := .none },
  { cls := 7, slots := #[.long (81)], vm := .none },
  { cls := 7, slots := #[.long (82)], vm := .none },
  { cls := 7, slots := #[.long (83)], vm := .none },
  { cls := 7, slots := #[.long (84)], vm := .none },
  { cls := 7, slots := #[.long (85)], vm := .none },
  { cls := 7, slots := #[.long (86)], vm := .none },
  { cls := 7, slots := #[.long (87)], vm := .none },
  { cls := 7, slots := #[.long (88)], vm := .none },
  { cls := 7, slots := #[.long (89)], vm := .none },
  { cls := 7, slots := #[.long (90)], vm := .none },
  { cls := 7, slots := #[.long (91)], vm := .none },
  { cls := 7, slots := #[.long (92)], vm := .none },
  { cls := 7, slots := #[.long (93)], vm := .none },
  { cls := 7, slots := #[.long (94)], vm := .none },
  { cls := 7, slots := #[.long (95)], vm := .none },
  { cls := 7, slots := #[.long (96)], vm := .none },
  { cls := 7, slots := #[.long (97)], vm := .none },
  { cls := 7, slots := #[.long (98)], vm := .none },
  { cls := 7, slots := #[.long (99)], vm := .none },
  { cls := 7, slots := #[.long (100)], vm := .none },
  { cls := 7, slots := #[.long (101)], vm := .none },
  { cls := 7, slots := #[.long (102)], vm := .none },
  { cls := 7, slots := #[.long (103)], vm := .none },
  { cls := 7, slots := #[.long (104)], vm := .none },
  { cls := 7, slots := #[.long (105)], vm := .none },
  { cls := 7, slots := #[.long (106)], vm := .none },
  { cls := 7, slots := #[.long (107)], vm := .none },
  { cls := 7, slots := #[.long (108)], vm := .none },
  { cls := 7, slots := #[.long (109)], vm := .none },
  { cls := 7, slots := #[.long (110)], vm := .none },
  { cls := 7, slots := #[.long (111)], vm := .none },
  { cls := 7, slots := #[.long (112)], vm := .none },
  { cls := 7, slots := #[.long (113)], vm := .none },
  { cls := 7, slots := #[.long (114)], vm := .none },
  { cls := 7, slots := #[.long (115)], vm := .none },
  { cls := 7, slots := #[.long (116)], vm := .none },
  { cls := 7, slots := #[.long (117)], vm := .none },
  { cls := 7, slots := #[.long (118)], vm := .none },
  { cls := 7, slots := #[.long (119)], vm := .none },
  { cls := 7, slots := #[.long (120)], vm := .none },
  { cls := 7, slots := #[.long (121)], vm := .none },
  { cls := 7, slots := #[.long (122)], vm := .none },
  { cls := 7, slots := #[.long (123)], vm := .none },
  { cls := 7, slots := #[.long (124)], vm := .none },
  { cls := 7, slots := #[.long (125)], vm := .none },
  { cls := 7, slots := #[.long (126)], vm := .none },
  { cls := 7, slots := #[.long (127)], vm := .none }]
def classes : Array Class := #[k0, k1, k2, k3, k4, k5, k6, k7, k8, k9, k10, k11, k12, k13, k14, k15, k16, k17, k18, k19, k20, k21, k22, k23, k24, k25]
def interned : List (Array UInt16 × Addr) := []
def slotsUsed : Nat := 525
def theMethod : MethodId := ⟨1, 1⟩
def args0 : Array Value := #[.int 5, .long 7, .long 1, .int 2, .int 3]
def aboutOver (below : List Frame) : State where
  vm := { classes := classes, interned := interned.toArray }
  heap := heap
  slotsUsed := slotsUsed
  threads := #[{ frames := .invoking theMethod args0 :: below }]
def below0 : List Frame := [.native { method := ⟨0, 0⟩, args := #[] }]
def about1 : State := aboutOver below0
def p0 : Program := .bare "" "" ""
def e0 : Env := launch0.env 0 0 0
theorem w_frames : about1.frames = Frame.invoking theMethod args0 :: below0 := rfl
set_option maxRecDepth 65536 in
theorem w_args : argsFit about1.vm theMethod args0 = true := by decide +kernel
set_option maxRecDepth 65536 in
theorem w_heap : heapFits about1 = true := by decide +kernel
set_option maxRecDepth 65536 in
theorem w_runnable : about1.curStatus? = some .runnable := by decide +kernel
set_option maxRecDepth 65536 in
theorem w_alone : about1.alone = true := by decide +kernel
set_option maxRecDepth 65536 in
theorem w_named : about1.methodNamed? x = some theMethod := by decide +kernel
set_option maxRecDepth 65536 in
theorem w_hears : about1.hears theMethod below0 = true := by decide +kernel
set_option maxRecDepth 65536 in
theorem w_ripe : about1.ripe theMethod args0 below0 = true := by decide +kernel
theorem w_running : about1.status = .running := rfl
set_option maxRecDepth 65536 in
theorem w_room : about1.hasRoom e0.platform room_1 = true :=
  launch0.hasRoom_least _ room_1 (by decide +kernel) (by decide +kernel) (by decide +kernel) (by decide +kernel) (by decide +kernel) (by decide +kernel)
theorem allAtoms_all (ts : List Jvm.Cond) (a : Array Jvm.Value) (st : Jvm.State) : (allAtoms ts).before a st = ts.all (fun c => c.before a st) := by
  induction ts with
  | nil => rfl
  | cons c t ih =>
    show (Jvm.Cond.and c (allAtoms t)).before a st = _
    rw [Jvm.Cond.before_and, ih, List.all_cons]
def words1 : List Jvm.Cond := Jvm.Cond.code x code maxLocals ret :: tables_1
/-- a 'code' word, met by the world's own term for the bytes: nothing is compared byte by byte -/
theorem code_word {y : MethodName} {bytes : ByteArray} {mx : Nat} {rt : Option FieldType} {a : Array Value} {s : State} {m : MethodId} {meth : Method} {c : Code} (h1 : s.methodNamed? y = some m) (h2 : s.vm.method? m = some meth) (h3 : meth.code = some c) (h4 : c.code = bytes)
    (h5 : (c.maxLocals == mx && c.exceptionTable.isEmpty && decide (c.maxStack ≤ mostOperands) && decide (meth.sig.returnType = rt) && !meth.locks && decide (parseMethodDescriptor y.desc = some meth.sig)) = true) : (Jvm.Cond.code y bytes mx rt).before a s = true := by
  simp only [Bool.and_eq_true, beq_iff_eq, Bool.not_eq_true', decide_eq_true_eq] at h5
  obtain ⟨⟨⟨⟨⟨g1, g2⟩, g3⟩, g4⟩, g5⟩, g6⟩ := h5
  simp [Cond.before, Cond.holds, Cond.value, h1, h2, h3, h4, g1, g2, g3, g4, g5, g6]
def isCode : Jvm.Cond → Bool
  | .code _ _ _ _ => true
  | _ => false
theorem all_split {L : List Jvm.Cond} {P : Jvm.Cond → Bool} (h1 : L.all (fun c => isCode c || P c) = true) (h2 : ∀ c ∈ L.filter isCode, P c = true) : L.all P = true := by
  refine List.all_eq_true.mpr fun c hc => ?_
  have h := List.all_eq_true.mp h1 c hc
  rcases Bool.eq_false_or_eq_true (isCode c) with hi | hi
  · exact h2 c (List.mem_filter.mpr ⟨hc, hi⟩)
  · simpa [hi] using h
set_option maxRecDepth 65536 in
theorem w_c0 : (Jvm.Cond.code x code maxLocals ret).before args0 about1 = true := code_word (m := ⟨1, 1⟩) (meth := k1m1) (c := k1c1) (by decide +kernel) rfl rfl rfl (by decide +kernel)
set_option maxRecDepth 65536 in
theorem w_c1 : (Jvm.Cond.code ({ cls := "java/lang/Long", name := "valueOf", desc := "(J)Ljava/lang/Long;" } : Jvm.MethodName) jdk_35_method_24_code (3 : Nat) (Option.some (Jvm.ClassFile.FieldType.object "java/lang/Long"))).before args0 about1 = true := code_word (m := ⟨7, 0⟩) (meth := k7m0) (c := k7c0) (by decide +kernel) rfl rfl rfl (by decide +kernel)
set_option maxRecDepth 65536 in
theorem w_c2 : (Jvm.Cond.code ({ cls := "java/lang/String", name := "<init>", desc := "([C)V" } : Jvm.MethodName) jdk_42_method_3_code (2 : Nat) (Option.none : Option Jvm.ClassFile.FieldType)).before args0 about1 = true := code_word (m := ⟨10, 1⟩) (meth := k10m1) (c := k10c1) (by decide +kernel) rfl rfl rfl (by decide +kernel)
set_option maxRecDepth 65536 in
theorem w_c3 : (Jvm.Cond.code ({ cls := "java/lang/String", name := "<init>", desc := "([CIILjava/lang/Void;)V" } : Jvm.MethodName) jdk_42_method_149_code (6 : Nat) (Option.none : Option Jvm.ClassFile.FieldType)).before args0 about1 = true := code_word (m := ⟨10, 3⟩) (meth := k10m3) (c := k10c3) (by decide +kernel) rfl rfl rfl (by decide +kernel)
set_option maxRecDepth 65536 in
theorem w_c4 : (Jvm.Cond.code ({ cls := "java/lang/Object", name := "<init>", desc := "()V" } : Jvm.MethodName) object_method_1_code (1 : Nat) (Option.none : Option Jvm.ClassFile.FieldType)).before args0 about1 = true := code_word (m := ⟨0, 0⟩) (meth := k0m0) (c := k0c0) (by decide +kernel) rfl rfl rfl (by decide +kernel)
set_option maxRecDepth 65536 in
theorem w_c5 : (Jvm.Cond.code ({ cls := "java/lang/StringUTF16", name := "compress", desc := "([CII)[B" } : Jvm.MethodName) jdk_52_method_16_code (6 : Nat) (Option.some (Jvm.ClassFile.FieldType.array Jvm.ClassFile.FieldType.byte))).before args0 about1 = true := code_word (m := ⟨11, 2⟩) (meth := k11m2) (c := k11c2) (by decide +kernel) rfl rfl rfl (by decide +kernel)
set_option maxRecDepth 65536 in
theorem w_c6 : (Jvm.Cond.code ({ cls := "java/lang/StringUTF16", name := "compress", desc := "([CI[BII)I" } : Jvm.MethodName) jdk_52_method_21_code (7 : Nat) (Option.some Jvm.ClassFile.FieldType.int)).before args0 about1 = true := code_word (m := ⟨11, 3⟩) (meth := k11m3) (c := k11c3) (by decide +kernel) rfl rfl rfl (by decide +kernel)
set_option maxRecDepth 65536 in
theorem w_c7 : (Jvm.Cond.code ({ cls := "java/lang/StringUTF16", name := "coderFromArrayLen", desc := "([BI)B" } : Jvm.MethodName) jdk_52_method_15_code (2 : Nat) (Option.some Jvm.ClassFile.FieldType.byte)).before args0 about1 = true := code_word (m := ⟨11, 1⟩) (meth := k11m1) (c := k11c1) (by decide +kernel) rfl rfl rfl (by decide +kernel)
set_option maxRecDepth 65536 in
theorem w_c8 : (Jvm.Cond.code ({ cls := "java/lang/Long", name := "<init>", desc := "(J)V" } : Jvm.MethodName) jdk_35_method_26_code (3 : Nat) (Option.none : Option Jvm.ClassFile.FieldType)).before args0 about1 = true := code_word (m := ⟨7, 1⟩) (meth := k7m1) (c := k7c1) (by decide +kernel) rfl rfl rfl (by decide +kernel)
set_option maxRecDepth 65536 in
theorem w_c9 : (Jvm.Cond.code ({ cls := "java/lang/Number", name := "<init>", desc := "()V" } : Jvm.MethodName) jdk_18_method_1_code (1 : Nat) (Option.none : Option Jvm.ClassFile.FieldType)).before args0 about1 = true := code_word (m := ⟨3, 0⟩) (meth := k3m0) (c := k3c0) (by decide +kernel) rfl rfl rfl (by decide +kernel)
set_option maxRecDepth 65536 in
theorem w_c10 : (Jvm.Cond.code ({ cls := "java/lang/String", name := "valueOf", desc := "(C)Ljava/lang/String;" } : Jvm.MethodName) jdk_42_method_139_code (1 : Nat) (Option.some (Jvm.ClassFile.FieldType.object "java/lang/String"))).before args0 about1 = true := code_word (m := ⟨10, 2⟩) (meth := k10m2) (c := k10c2) (by decide +kernel) rfl rfl rfl (by decide +kernel)
set_option maxRecDepth 65536 in
theorem w_c11 : (Jvm.Cond.code ({ cls := "java/lang/StringLatin1", name := "canEncode", desc := "(C)Z" } : Jvm.MethodName) jdk_43_method_3_code (1 : Nat) (Option.some Jvm.ClassFile.FieldType.boolean)).before args0 about1 = true := code_word (m := ⟨12, 1⟩) (meth := k12m1) (c := k12c1) (by decide +kernel) rfl rfl rfl (by decide +kernel)
set_option maxRecDepth 65536 in
theorem w_c12 : (Jvm.Cond.code ({ cls := "java/lang/StringLatin1", name := "toBytes", desc := "(C)[B" } : Jvm.MethodName) jdk_43_method_46_code (1 : Nat) (Option.some (Jvm.ClassFile.FieldType.array Jvm.ClassFile.FieldType.byte))).before args0 about1 = true := code_word (m := ⟨12, 2⟩) (meth := k12m2) (c := k12c2) (by decide +kernel) rfl rfl rfl (by decide +kernel)
set_option maxRecDepth 65536 in
theorem w_c13 : (Jvm.Cond.code ({ cls := "java/lang/String", name := "<init>", desc := "([BB)V" } : Jvm.MethodName) jdk_42_method_151_code (3 : Nat) (Option.none : Option Jvm.ClassFile.FieldType)).before args0 about1 = true := code_word (m := ⟨10, 4⟩) (meth := k10m4) (c := k10c4) (by decide +kernel) rfl rfl rfl (by decide +kernel)
set_option maxRecDepth 65536 in
theorem w_c14 : (Jvm.Cond.code ({ cls := "com/example/tablepuffer/tablepuffer/TableShapeKeyPartsPinLaw", name := "pick", desc := "(ILjava/lang/Object;Ljava/lang/Object;Ljava/lang/Object;Ljava/lang/Object;)Ljava/lang/Object;" } : Jvm.MethodName) method_3_code (6 : Nat) (Option.some (Jvm.ClassFile.FieldType.object "java/lang/Object"))).before args0 about1 = true := code_word (m := ⟨1, 2⟩) (meth := k1m2) (c := k1c2) (by decide +kernel) rfl rfl rfl (by decide +kernel)
set_option maxRecDepth 65536 in
theorem w_c15 : (Jvm.Cond.code ({ cls := "com/example/tablepuffer/tablepuffer/TableShape", name := "keyParts", desc := "(Ljava/lang/Object;)[Ljava/lang/Object;" } : Jvm.MethodName) prog_87_method_12_code (2 : Nat) (Option.some (Jvm.ClassFile.FieldType.array (Jvm.ClassFile.FieldType.object "java/lang/Object")))).before args0 about1 = true := code_word (m := ⟨13, 0⟩) (meth := k13m0) (c := k13c0) (by decide +kernel) rfl rfl rfl (by decide +kernel)
set_option maxRecDepth 65536 in
theorem w_c16 : (Jvm.Cond.code ({ cls := "com/example/tablepuffer/tablepuffer/CompositeKey", name := "<init>", desc := "([Ljava/lang/Object;)V" } : Jvm.MethodName) prog_36_method_1_code (2 : Nat) (Option.none : Option Jvm.ClassFile.FieldType)).before args0 about1 = true := code_word (m := ⟨14, 0⟩) (meth := k14m0) (c := k14c0) (by decide +kernel) rfl rfl rfl (by decide +kernel)
set_option maxRecDepth 65536 in
theorem w_c17 : (Jvm.Cond.code ({ cls := "com/example/tablepuffer/tablepuffer/CompositeKey", name := "parts", desc := "()[Ljava/lang/Object;" } : Jvm.MethodName) prog_36_method_2_code (1 : Nat) (Option.some (Jvm.ClassFile.FieldType.array (Jvm.ClassFile.FieldType.object "java/lang/Object")))).before args0 about1 = true := code_word (m := ⟨14, 1⟩) (meth := k14m1) (c := k14c1) (by decide +kernel) rfl rfl rfl (by decide +kernel)
def codes1 : List Jvm.Cond := [Jvm.Cond.code x code maxLocals ret, Jvm.Cond.code ({ cls := "java/lang/Long", name := "valueOf", desc := "(J)Ljava/lang/Long;" } : Jvm.MethodName) jdk_35_method_24_code (3 : Nat) (Option.some (Jvm.ClassFile.FieldType.object "java/lang/Long")), Jvm.Cond.code ({ cls := "java/lang/String", name := "<init>", desc := "([C)V" } : Jvm.MethodName) jdk_42_method_3_code (2 : Nat) (Option.none : Option Jvm.ClassFile.FieldType), Jvm.Cond.code ({ cls := "java/lang/String", name := "<init>", desc := "([CIILjava/lang/Void;)V" } : Jvm.MethodName) jdk_42_method_149_code (6 : Nat) (Option.none : Option Jvm.ClassFile.FieldType), Jvm.Cond.code ({ cls := "java/lang/Object", name := "<init>", desc := "()V" } : Jvm.MethodName) object_method_1_code (1 : Nat) (Option.none : Option Jvm.ClassFile.FieldType), Jvm.Cond.code ({ cls := "java/lang/StringUTF16", name := "compress", desc := "([CII)[B" } : Jvm.MethodName) jdk_52_method_16_code (6 : Nat) (Option.some (Jvm.ClassFile.FieldType.array Jvm.ClassFile.FieldType.byte)), Jvm.Cond.code ({ cls := "java/lang/StringUTF16", name := "compress", desc := "([CI[BII)I" } : Jvm.MethodName) jdk_52_method_21_code (7 : Nat) (Option.some Jvm.ClassFile.FieldType.int), Jvm.Cond.code ({ cls := "java/lang/StringUTF16", name := "coderFromArrayLen", desc := "([BI)B" } : Jvm.MethodName) jdk_52_method_15_code (2 : Nat) (Option.some Jvm.ClassFile.FieldType.byte), Jvm.Cond.code ({ cls := "java/lang/Long", name := "<init>", desc := "(J)V" } : Jvm.MethodName) jdk_35_method_26_code (3 : Nat) (Option.none : Option Jvm.ClassFile.FieldType), Jvm.Cond.code ({ cls := "java/lang/Number", name := "<init>", desc := "()V" } : Jvm.MethodName) jdk_18_method_1_code (1 : Nat) (Option.none : Option Jvm.ClassFile.FieldType), Jvm.Cond.code ({ cls := "java/lang/String", name := "valueOf", desc := "(C)Ljava/lang/String;" } : Jvm.MethodName) jdk_42_method_139_code (1 : Nat) (Option.some (Jvm.ClassFile.FieldType.object "java/lang/String")), Jvm.Cond.code ({ cls := "java/lang/StringLatin1", name := "canEncode", desc := "(C)Z" } : Jvm.MethodName) jdk_43_method_3_code (1 : Nat) (Option.some Jvm.ClassFile.FieldType.boolean), Jvm.Cond.code ({ cls := "java/lang/StringLatin1", name := "toBytes", desc := "(C)[B" } : Jvm.MethodName) jdk_43_method_46_code (1 : Nat) (Option.some (Jvm.ClassFile.FieldType.array Jvm.ClassFile.FieldType.byte)), Jvm.Cond.code ({ cls := "java/lang/String", name := "<init>", desc := "([BB)V" } : Jvm.MethodName) jdk_42_method_151_code (3 : Nat) (Option.none : Option Jvm.ClassFile.FieldType), Jvm.Cond.code ({ cls := "com/example/tablepuffer/tablepuffer/TableShapeKeyPartsPinLaw", name := "pick", desc := "(ILjava/lang/Object;Ljava/lang/Object;Ljava/lang/Object;Ljava/lang/Object;)Ljava/lang/Object;" } : Jvm.MethodName) method_3_code (6 : Nat) (Option.some (Jvm.ClassFile.FieldType.object "java/lang/Object")), Jvm.Cond.code ({ cls := "com/example/tablepuffer/tablepuffer/TableShape", name := "keyParts", desc := "(Ljava/lang/Object;)[Ljava/lang/Object;" } : Jvm.MethodName) prog_87_method_12_code (2 : Nat) (Option.some (Jvm.ClassFile.FieldType.array (Jvm.ClassFile.FieldType.object "java/lang/Object"))), Jvm.Cond.code ({ cls := "com/example/tablepuffer/tablepuffer/CompositeKey", name := "<init>", desc := "([Ljava/lang/Object;)V" } : Jvm.MethodName) prog_36_method_1_code (2 : Nat) (Option.none : Option Jvm.ClassFile.FieldType), Jvm.Cond.code ({ cls := "com/example/tablepuffer/tablepuffer/CompositeKey", name := "parts", desc := "()[Ljava/lang/Object;" } : Jvm.MethodName) prog_36_method_2_code (1 : Nat) (Option.some (Jvm.ClassFile.FieldType.array (Jvm.ClassFile.FieldType.object "java/lang/Object")))]
set_option maxRecDepth 65536 in
theorem codes_eq : words1.filter isCode = codes1 := rfl
theorem w_codes : ∀ c ∈ words1.filter isCode, c.before args0 about1 = true := by
  rw [codes_eq]
  intro c hc
  simp only [codes1, List.mem_cons, List.not_mem_nil, or_false] at hc
  rcases hc with rfl | rfl | rfl | rfl | rfl | rfl | rfl | rfl | rfl | rfl | rfl | rfl | rfl | rfl | rfl | rfl | rfl | rfl
  · exact w_c0
  · exact w_c1
  · exact w_c2
  · exact w_c3
  · exact w_c4
  · exact w_c5
  · exact w_c6
  · exact w_c7
  · exact w_c8
  · exact w_c9
  · exact w_c10
  · exact w_c11
  · exact w_c12
  · exact w_c13
  · exact w_c14
  · exact w_c15
  · exact w_c16
  · exact w_c17
set_option maxRecDepth 65536 in
theorem w_t1 : (words1.take 24).all (fun c => isCode c || c.before args0 about1) = true := by decide +kernel
set_option maxRecDepth 65536 in
theorem w_t2 : ((words1.drop 24).take 24).all (fun c => isCode c || c.before args0 about1) = true := by decide +kernel
set_option maxRecDepth 65536 in
theorem w_t3 : (((words1.drop 24).drop 24).take 24).all (fun c => isCode c || c.before args0 about1) = true := by decide +kernel
set_option maxRecDepth 65536 in
theorem w_t4 : ((((words1.drop 24).drop 24).drop 24).take 24).all (fun c => isCode c || c.before args0 about1) = true := by decide +kernel
set_option maxRecDepth 65536 in
theorem w_t5 : ((((words1.drop 24).drop 24).drop 24).drop 24).all (fun c => isCode c || c.before args0 about1) = true := by decide +kernel
theorem w_tables : (allAtoms (Jvm.Cond.code x code maxLocals ret :: tables_1)).before args0 about1 = true := by
  rw [allAtoms_all]
  show words1.all (fun c => c.before args0 about1) = true
  refine all_split ?_ w_codes
  rw [← List.take_append_drop 24 words1, List.all_append, w_t1, ← List.take_append_drop 24 (words1.drop 24), List.all_append, w_t2, ← List.take_append_drop 24 ((words1.drop 24).drop 24), List.all_append, w_t3, ← List.take_append_drop 24 (((words1.drop 24).drop 24).drop 24), List.all_append, w_t4, w_t5]
  rfl
set_option maxRecDepth 65536 in
theorem w_rest : rest_1_c.before args0 about1 = true := by decide +kernel
set_option maxRecDepth 65536 in
theorem w_case : (Jvm.Cond.and given_1 narrow_1).before args0 about1 = true := by decide +kernel
theorem w_applies : (headSpec (Jvm.Cond.code x code maxLocals ret :: tables_1) room_1).applies x e0.platform about1 = true :=
  (Spec.applies_iff w_frames).mpr ⟨w_running, w_runnable, w_alone, w_named, w_hears, w_ripe, w_room, w_tables⟩
theorem atStart : AtStart classFile x code maxLocals ret World_1 tables_1 room_1 Calls_1 rest_1 Pre_1 launch0 p0 e0 about1 theMethod args0 below0 :=
  ⟨lists_1, trivial, launch0.admits_env _ _ _, launch0.least_env, fairChoices_fair.cas, fairChoices_fair.clock, w_frames, w_args, w_heap, w_applies, trivial, w_rest, w_case⟩
end start1
theorem witness_1 : WitnessClaimed_1 := ⟨start1.p0, start1.e0, start1.about1, start1.theMethod, start1.args0, start1.below0, start1.atStart⟩
end Jvm.Pilot.@@N@@
