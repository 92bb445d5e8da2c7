import JvmDerived
import JvmDerived.Pilot.@@N@@Statement
import JvmDerived.Pilot.@@N@@Code
set_option linter.unusedVariables false
set_option linter.unusedSimpArgs false
namespace Jvm.RoadKit
open Sem ClassFile Op Lib Jvm.Stand Jvm.Free Jvm.LawKit
section New
variable {p : Program} {l : Launch} {e : Env} {R : Room} {s : State} {m : MethodId} {args : Array Value} {below : List Frame} {meth : Method} {c : Code} {T : State} {locs : List Loc} {cells slots : Nat}
theorem retI (X : Stand p l e R s m args below meth c T locs cells slots) (hx : p.tables.exec = Jvm.exec) {pc : Nat} {Ls : Array Slot} {z : Int32} {rest : List Value} (hret : meth.sig.returnType = some .int) (hd : decode c.code pc = .ok (.ireturn, 1)) {fs : List Frame}
    (hl : ∀ (f : JFrame) (acts : List Action), f.method = m → f.locked = none → f.entered = [] → (doReturn e (T.setTop f) acts (some (.int z))).1 = T.setFrames fs) : Steps p.tables e below (T.setTop (mkF m pc Ls (.int z :: rest))) (T.setFrames fs) := by
  have hm' : T.vm.method? m = some meth := X.method'
  have hn : narrow .int (.int z) = .int z := rfl
  show Steps p.tables e below (T.setTop { method := m, pc := pc, locals := Ls, stack := _ :: rest, locked := none }) _
  jvm_step X.here [X.here.top, hx, hd, hm', hret, hn]
  first | (intro acts; rw [hl _ acts rfl rfl rfl]) | rw [hl _ _ rfl rfl rfl]
  exact Steps.refl _
end New
end Jvm.RoadKit
/- laws to paste: Road.backV, Road.eqW, Road.codOf (cut by pick.py; bodies as the Statement names them) -/
namespace Jvm.Pilot.@@N@@
namespace StrChars
open Jvm Sem ClassFile Op Lib Jvm.Stand Jvm.Free.XT Jvm.Free.ALB Jvm.Free.JM Jvm.Free
open Jvm.Lib.Cold (StaticIs)
/-- a char array whose places are chars -/
def Ch (a : Addr) (A : Cell) (U : State) : Prop := Arr .char a A U ∧ Typed .char A
theorem Ch.mv {a : Addr} {A : Cell} {U U' : State} (h : Ch a A U) (hal : U.vm.Alike U'.vm) (hh : U'.heap = U.heap) : Ch a A U' := ⟨h.1.mv hal hh, h.2⟩
theorem Ch.keep {a : Addr} {A : Cell} {U U' : State} (h : Ch a A U) (hal : U.vm.Alike U'.vm) (hk : U'.heap[a]? = some A) : Ch a A U' := ⟨h.1.keep hal hk, h.2⟩
/-- what place i of a char[]'s cell holds -/
def cv (A : Cell) (i : Nat) : Int32 := match A.slots[i]? with | some (.int x) => x | _ => 0
theorem Ch.get {a : Addr} {A : Cell} {U : State} (h : Ch a A U) {i : Nat} (hi : i < A.slots.size) : A.slots[i]? = some (.int (cv A i)) := by
  have e := Array.getElem?_eq_getElem hi
  have f := h.2 i _ e
  unfold cv; rw [e]
  generalize A.slots[i] = v at f
  cases v <;> simp [fits] at f ⊢
/-- the byte that i2b leaves of a char -/
def lo8 (x : Int32) : Int32 := x.toInt8.toInt32
theorem fits_lo8 (y : Int32) : fits .byte (.int (lo8 y)) = true := by
  have h1 := y.toInt8.le_toInt
  have h2 := y.toInt8.toInt_lt
  simp only [lo8, fits, Bool.and_eq_true, decide_eq_true_eq, Int32.le_iff_toInt_le, Int8.toInt_toInt32, show (-128 : Int32).toInt = -128 from by decide, show (127 : Int32).toInt = 127 from by decide]
  omega
/-- A' is A but that each place j of lo .. hi - 1 holds f j -/
def Laid (A A' : Cell) (lo hi : Nat) (f : Nat → Value) : Prop := A'.cls = A.cls ∧ A'.vm = A.vm ∧ A'.slots.size = A.slots.size ∧ ∀ i, A'.slots[i]? = if lo ≤ i ∧ i < hi then some (f i) else A.slots[i]?
theorem Laid.zero (A : Cell) (lo : Nat) (f : Nat → Value) : Laid A A lo (lo + 0) f := ⟨rfl, rfl, rfl, fun i => by rw [if_neg (by omega)]⟩
theorem Laid.step {A Ak : Cell} {lo k : Nat} {f : Nat → Value} {v : Value} (h : Laid A Ak lo k f) (hlo : lo ≤ k) (hk : k < Ak.slots.size) (hv : v = f k) : Laid A (Ak.setSlot k v) lo (k + 1) f := by
  refine ⟨h.1, h.2.1, by simpa [Cell.setSlot] using h.2.2.1, fun i => ?_⟩
  by_cases e : k = i
  · subst e; rw [Cell.slots_setSlot_self v hk, if_pos (by omega), hv]
  · rw [Cell.slots_setSlot_ne v e, h.2.2.2 i]
    by_cases q : lo ≤ i ∧ i < k
    · rw [if_pos q, if_pos (by omega)]
    · rw [if_neg q, if_neg (by omega)]
def U16 : String := "java/lang/StringUTF16"
namespace Cmp5
def yN : MethodName := ⟨"java/lang/StringUTF16", "compress", "([CI[BII)I"⟩
abbrev yB : ByteArray := jdk_52_method_21_code
theorem d0 : decode yB 0 = .ok (.iconst 0, 1) := by decide +kernel
theorem d1 : decode yB 1 = .ok (.istore 5, 2) := by decide +kernel
theorem d3 : decode yB 3 = .ok (.iload 5, 2) := by decide +kernel
theorem d5 : decode yB 5 = .ok (.iload 4, 2) := by decide +kernel
theorem d7 : decode yB 7 = .ok (.if_icmp (.ge) 37, 3) := by decide +kernel
theorem d10 : decode yB 10 = .ok (.aload_n 0, 1) := by decide +kernel
theorem d11 : decode yB 11 = .ok (.iload_n 1, 1) := by decide +kernel
theorem d12 : decode yB 12 = .ok (.caload, 1) := by decide +kernel
theorem d13 : decode yB 13 = .ok (.istore 6, 2) := by decide +kernel
theorem d15 : decode yB 15 = .ok (.iload 6, 2) := by decide +kernel
theorem d17 : decode yB 17 = .ok (.sipush 255, 3) := by decide +kernel
theorem d20 : decode yB 20 = .ok (.if_icmp (.le) 6, 3) := by decide +kernel
theorem d26 : decode yB 26 = .ok (.aload_n 2, 1) := by decide +kernel
theorem d27 : decode yB 27 = .ok (.iload_n 3, 1) := by decide +kernel
theorem d28 : decode yB 28 = .ok (.iload 6, 2) := by decide +kernel
theorem d30 : decode yB 30 = .ok (.i2b, 1) := by decide +kernel
theorem d31 : decode yB 31 = .ok (.bastore, 1) := by decide +kernel
theorem d32 : decode yB 32 = .ok (.iinc 1 1, 3) := by decide +kernel
theorem d35 : decode yB 35 = .ok (.iinc 3 1, 3) := by decide +kernel
theorem d38 : decode yB 38 = .ok (.iinc 5 1, 3) := by decide +kernel
theorem d41 : decode yB 41 = .ok (.goto (-38), 3) := by decide +kernel
theorem d44 : decode yB 44 = .ok (.iload 4, 2) := by decide +kernel
theorem d46 : decode yB 46 = .ok (.ireturn, 1) := by decide +kernel
def site : List Cond := []
def tab : Cond := tabOf yN yB 7 (some .int) site
def P (b : Addr) (A : Cell) (d : Addr) (B : Cell) (o q len : Nat) (args : Array Value) (s : State) : Prop := args = #[.ref b, .int (Int32.ofNat o), .ref d, .int (Int32.ofNat q), .int (Int32.ofNat len)] ∧ Ch b A s ∧ Arr .byte d B s ∧ b ≠ d ∧ o + len ≤ A.slots.size ∧ q + len ≤ B.slots.size ∧ ∀ i, i < len → ¬ 255 < cv A (o + i)
def E (b : Addr) (A : Cell) (d : Addr) (B : Cell) (o q len : Nat) (r : Option Value) (s u : State) : Prop := r = some (.int (Int32.ofNat len)) ∧ ∃ B', Put d B' s u ∧ Laid B B' q (q + len) (fun j => Value.int (lo8 (cv A (o + (j - q)))))
/-- no char of the range above 255: len; the places written hold each char's low byte -/
theorem law (l : Launch) (b : Addr) (A : Cell) (d : Addr) (B : Cell) (o q len : Nat) : Law l yN 5 5 0 0 yB 7 (some .int) site (P b A d B o q len) (E b A d B o q len) (copyLocs d q len) 0 0 := by
  refine Law.of_walk (plainFor_of_name (by decide +kernel)) (by decide +kernel) (by decide +kernel) (by decide) (fun _ _ h => by rw [h.1]; rfl) (fun _ U U' hal hh h => ⟨h.1, h.2.1.mv hal hh, h.2.2.1.mv hal hh, h.2.2.2⟩) (fun r U U' V V' h1 hal h2 h => ⟨h.1, h.2.elim fun B' q => ⟨B', q.1.mv h1 h2, q.2⟩⟩) ?_
  intro p e s m args below meth c s₁ X0 hexec hbytes hml hret hlk hnm hown hh0 W hP
  obtain ⟨rfl, hA, hB, hne, l1, l2, hp⟩ := hP
  have c1 : Steps p.tables e below (s₁.setTop (entryFrame m #[.ref b, .int (Int32.ofNat o), .ref d, .int (Int32.ofNat q), .int (Int32.ofNat len)] 7)) (s₁.setTop (mkF m 0 #[.val (.ref b), .val (.int (Int32.ofNat o)), .val (.ref d), .val (.int (Int32.ofNat q)), .val (.int (Int32.ofNat len)), .unset, .unset] [])) := entry rfl
  have hA0 := hA.1.mv X0.warmed.alike hh0
  have hB0 := hB.mv X0.warmed.alike hh0
  have a31 := hA.1.2.2.2
  have c2 : Steps p.tables e below (s₁.setTop (entryFrame m #[.ref b, .int (Int32.ofNat o), .ref d, .int (Int32.ofNat q), .int (Int32.ofNat len)] 7)) (s₁.setTop (mkF m 3 #[.val (.ref b), .val (.int (Int32.ofNat o)), .val (.ref d), .val (.int (Int32.ofNat q)), .val (.int (Int32.ofNat len)), .val (.int 0), .unset] [])) := c1.trans (by
    refine iconstV X0.here hexec rfl 0 (hb hbytes d0) (by decide) ?_
    refine XS.istore X0.here hexec rfl (hb hbytes d1) rfl rfl ?_
    exact Steps.refl _)
  have loop : ∀ (r i : Nat), i + r = len → ∀ (z : Slot), (z = .unset ∨ ∃ w, z = .val w ∧ w.category = 1) → ∀ (Tl : State) (Bk : Cell), Stand p l e { frames := 0, locals := 0, cells := 0, slots := 0 } s m #[.ref b, .int (Int32.ofNat o), .ref d, .int (Int32.ofNat q), .int (Int32.ofNat len)] below meth c Tl ([] ++ copyLocs d q i) 0 0 → Put d Bk s₁ Tl → Laid B Bk q (q + i) (fun j => Value.int (lo8 (cv A (o + (j - q))))) →
      Steps p.tables e below (s₁.setTop (entryFrame m #[.ref b, .int (Int32.ofNat o), .ref d, .int (Int32.ofNat q), .int (Int32.ofNat len)] 7)) (Tl.setTop (mkF m 3 #[.val (.ref b), .val (.int (Int32.ofNat (o + i))), .val (.ref d), .val (.int (Int32.ofNat (q + i))), .val (.int (Int32.ofNat len)), .val (.int (Int32.ofNat i)), z] [])) → ∃ (T' : State) (B' : Cell) (z' : Slot), Stand p l e { frames := 0, locals := 0, cells := 0, slots := 0 } s m #[.ref b, .int (Int32.ofNat o), .ref d, .int (Int32.ofNat q), .int (Int32.ofNat len)] below meth c T' ([] ++ copyLocs d q len) 0 0 ∧ Put d B' s₁ T' ∧ Laid B B' q (q + len) (fun j => Value.int (lo8 (cv A (o + (j - q))))) ∧
      Steps p.tables e below (s₁.setTop (entryFrame m #[.ref b, .int (Int32.ofNat o), .ref d, .int (Int32.ofNat q), .int (Int32.ofNat len)] 7)) (T'.setTop (mkF m 3 #[.val (.ref b), .val (.int (Int32.ofNat (o + len))), .val (.ref d), .val (.int (Int32.ofNat (q + len))), .val (.int (Int32.ofNat len)), .val (.int (Int32.ofNat len)), z'] [])) := by
    intro r
    induction r with
    | zero =>
      intro i hi z hz Tl Bk Xl pl fl cl
      have hil : i = len := by omega
      rw [hil] at Xl fl cl
      exact ⟨Tl, Bk, z, Xl, pl, fl, cl⟩
    | succ r ih =>
      intro i hi z hz Tl Bk Xl pl fl cl
      have all := X0.warmed.alike.symm.trans Xl.warmed.alike
      have hAl := hA0.keep all (pl.other hne hA0.1)
      have hBk := hB0.like all pl.1 fl.1 fl.2.1 fl.2.2.1
      have hlt : q + i < Bk.slots.size := by rw [fl.2.2.1]; omega
      have c3 : Steps p.tables e below (s₁.setTop (entryFrame m #[.ref b, .int (Int32.ofNat o), .ref d, .int (Int32.ofNat q), .int (Int32.ofNat len)] 7)) (Tl.setTop (mkF m 12 #[.val (.ref b), .val (.int (Int32.ofNat (o + i))), .val (.ref d), .val (.int (Int32.ofNat (q + i))), .val (.int (Int32.ofNat len)), .val (.int (Int32.ofNat i)), z] [.int (Int32.ofNat (o + i)), .ref b])) := cl.trans (by
        refine XS.iload Xl.here hexec rfl (hb hbytes d3) rfl ?_
        refine XS.iload Xl.here hexec rfl (hb hbytes d5) rfl ?_
        refine XS.icmpNo Xl.here hexec rfl (hb hbytes d7) rfl (ii_ge_f (lt32 (by omega) (by omega))) ?_
        refine XS.aloadN Xl.here hexec rfl (hb hbytes d10) rfl rfl ?_
        refine XS.iloadN Xl.here hexec rfl (hb hbytes d11) rfl ?_
        exact Steps.refl _)
      have c4 : Steps p.tables e below (s₁.setTop (entryFrame m #[.ref b, .int (Int32.ofNat o), .ref d, .int (Int32.ofNat q), .int (Int32.ofNat len)] 7)) (Tl.setTop (mkF m 13 #[.val (.ref b), .val (.int (Int32.ofNat (o + i))), .val (.ref d), .val (.int (Int32.ofNat (q + i))), .val (.int (Int32.ofNat len)), .val (.int (Int32.ofNat i)), z] [.int (cv A (o + i))])) := c3.trans (by
        refine Xl.aget hexec hAl rfl (hA.get (i := o + i) (by omega)) rfl rfl (hb hbytes d12) ?_
        exact Steps.refl _)
      have c5 : Steps p.tables e below (s₁.setTop (entryFrame m #[.ref b, .int (Int32.ofNat o), .ref d, .int (Int32.ofNat q), .int (Int32.ofNat len)] 7)) (Tl.setTop (mkF m 15 #[.val (.ref b), .val (.int (Int32.ofNat (o + i))), .val (.ref d), .val (.int (Int32.ofNat (q + i))), .val (.int (Int32.ofNat len)), .val (.int (Int32.ofNat i)), .val (.int (cv A (o + i)))] [])) := c4.trans (by
        refine XS.istoreS Xl.here hexec rfl (hb hbytes d13) rfl rfl hz ?_
        exact Steps.refl _)
      have c6 : Steps p.tables e below (s₁.setTop (entryFrame m #[.ref b, .int (Int32.ofNat o), .ref d, .int (Int32.ofNat q), .int (Int32.ofNat len)] 7)) (Tl.setTop (mkF m 31 #[.val (.ref b), .val (.int (Int32.ofNat (o + i))), .val (.ref d), .val (.int (Int32.ofNat (q + i))), .val (.int (Int32.ofNat len)), .val (.int (Int32.ofNat i)), .val (.int (cv A (o + i)))] [.int (lo8 (cv A (o + i))), .int (Int32.ofNat (q + i)), .ref d])) := c5.trans (by
        refine XS.iload Xl.here hexec rfl (hb hbytes d15) rfl ?_
        refine sipushV Xl.here hexec rfl 255 (hb hbytes d17) (by decide) ?_
        refine XS.icmpYes Xl.here hexec rfl (pc0 := 20) rfl (hb hbytes d20) rfl (ii_le_t (hp i (by omega))) (by decide) rfl ?_
        refine XS.aloadN Xl.here hexec rfl (hb hbytes d26) rfl rfl ?_
        refine XS.iloadN Xl.here hexec rfl (hb hbytes d27) rfl ?_
        refine XS.iload Xl.here hexec rfl (hb hbytes d28) rfl ?_
        refine i2b Xl.here hexec rfl (hb hbytes d30) rfl ?_
        exact Steps.refl _)
      obtain ⟨T7, X7, p7, st7⟩ := Xl.aput hexec hBk rfl hlt rfl (fits_lo8 (cv A (o + i))) (g := (mkF m 31 #[.val (.ref b), .val (.int (Int32.ofNat (o + i))), .val (.ref d), .val (.int (Int32.ofNat (q + i))), .val (.int (Int32.ofNat len)), .val (.int (Int32.ofNat i)), .val (.int (cv A (o + i)))] [.int (lo8 (cv A (o + i))), .int (Int32.ofNat (q + i)), .ref d])) rfl (rest := []) rfl (hb hbytes d31)
      have c8 : Steps p.tables e below (s₁.setTop (entryFrame m #[.ref b, .int (Int32.ofNat o), .ref d, .int (Int32.ofNat q), .int (Int32.ofNat len)] 7)) (T7.setTop (mkF m 32 #[.val (.ref b), .val (.int (Int32.ofNat (o + i))), .val (.ref d), .val (.int (Int32.ofNat (q + i))), .val (.int (Int32.ofNat len)), .val (.int (Int32.ofNat i)), .val (.int (cv A (o + i)))] [])) := c6.trans (st7 _ (Steps.refl _))
      have c9 : Steps p.tables e below (s₁.setTop (entryFrame m #[.ref b, .int (Int32.ofNat o), .ref d, .int (Int32.ofNat q), .int (Int32.ofNat len)] 7)) (T7.setTop (mkF m 3 #[.val (.ref b), .val (.int (Int32.ofNat (o + i) + 1)), .val (.ref d), .val (.int (Int32.ofNat (q + i) + 1)), .val (.int (Int32.ofNat len)), .val (.int (Int32.ofNat i + 1)), .val (.int (cv A (o + i)))] [])) := c8.trans (by
        refine iincV X7.here hexec rfl 1 (hb hbytes d32) (by decide) rfl rfl ?_
        refine iincV X7.here hexec rfl 1 (hb hbytes d35) (by decide) rfl rfl ?_
        refine iincV X7.here hexec rfl 1 (hb hbytes d38) (by decide) rfl rfl ?_
        refine XS.goto X7.here hexec rfl (pc0 := 41) rfl (hb hbytes d41) (by decide) rfl ?_
        exact Steps.refl _)
      have c10 : Steps p.tables e below (s₁.setTop (entryFrame m #[.ref b, .int (Int32.ofNat o), .ref d, .int (Int32.ofNat q), .int (Int32.ofNat len)] 7)) (T7.setTop (mkF m 3 #[.val (.ref b), .val (.int (Int32.ofNat (o + (i + 1)))), .val (.ref d), .val (.int (Int32.ofNat (q + (i + 1)))), .val (.int (Int32.ofNat len)), .val (.int (Int32.ofNat (i + 1))), .val (.int (cv A (o + i)))] [])) := by
        have := c9
        rw [succ32, succ32, succ32] at this
        exact this
      exact ih (i + 1) (by omega) _ (Or.inr ⟨_, rfl, rfl⟩) T7 _ (by rw [copyLocs_step, ← List.append_assoc]; exact X7) (pl.trans p7) (fl.step (by omega) hlt (by simp)) c10
  obtain ⟨T9, B9, z9, X9, p9, f9, g9⟩ := loop len 0 (by omega) .unset (Or.inl rfl) s₁ B (by simpa [copyLocs] using X0) ⟨hB0.1, fun _ _ => rfl, rfl⟩ (Laid.zero _ _ _) c2
  have c11 : Steps p.tables e below (s₁.setTop (entryFrame m #[.ref b, .int (Int32.ofNat o), .ref d, .int (Int32.ofNat q), .int (Int32.ofNat len)] 7)) (T9.setTop (mkF m 46 #[.val (.ref b), .val (.int (Int32.ofNat (o + len))), .val (.ref d), .val (.int (Int32.ofNat (q + len))), .val (.int (Int32.ofNat len)), .val (.int (Int32.ofNat len)), z9] [.int (Int32.ofNat len)])) := g9.trans (by
    refine XS.iload X9.here hexec rfl (hb hbytes d3) rfl ?_
    refine XS.iload X9.here hexec rfl (hb hbytes d5) rfl ?_
    refine XS.icmpYes X9.here hexec rfl (pc0 := 7) rfl (hb hbytes d7) rfl (ii_ge_t (nlt32 (by omega) (Nat.le_refl _))) (by decide) rfl ?_
    refine XS.iload X9.here hexec rfl (hb hbytes d44) rfl ?_
    exact Steps.refl _)
  exact ⟨T9, some (.int (Int32.ofNat len)), _, _, _, X9, by simp, rfl, rfl, (fun h => by cases h), ⟨rfl, B9, p9.from hh0, f9⟩, fun fs hl => c11.trans (X9.ireturnOut hexec hret rfl (Or.inl rfl) (hb hbytes d46) hl)⟩
end Cmp5
namespace Cmp3
def yN : MethodName := ⟨"java/lang/StringUTF16", "compress", "([CII)[B"⟩
abbrev yB : ByteArray := jdk_52_method_16_code
theorem d0 : decode yB 0 = .ok (.iload_n 2, 1) := by decide +kernel
theorem d1 : decode yB 1 = .ok (.newarray .byte, 2) := by decide +kernel
theorem d3 : decode yB 3 = .ok (.astore_n 3, 1) := by decide +kernel
theorem d4 : decode yB 4 = .ok (.aload_n 0, 1) := by decide +kernel
theorem d5 : decode yB 5 = .ok (.iload_n 1, 1) := by decide +kernel
theorem d6 : decode yB 6 = .ok (.aload_n 3, 1) := by decide +kernel
theorem d7 : decode yB 7 = .ok (.iconst 0, 1) := by decide +kernel
theorem d8 : decode yB 8 = .ok (.iload_n 2, 1) := by decide +kernel
theorem d9 : decode yB 9 = .ok (.invokestatic 115, 3) := by decide +kernel
theorem d12 : decode yB 12 = .ok (.istore 4, 2) := by decide +kernel
theorem d14 : decode yB 14 = .ok (.iload 4, 2) := by decide +kernel
theorem d16 : decode yB 16 = .ok (.iload_n 2, 1) := by decide +kernel
theorem d17 : decode yB 17 = .ok (.if_icmp (.eq) 40, 3) := by decide +kernel
theorem d57 : decode yB 57 = .ok (.aload_n 3, 1) := by decide +kernel
theorem d58 : decode yB 58 = .ok (.areturn, 1) := by decide +kernel
def site : List Cond := [.arrayClass .byte, Cmp5.tab] ++ staticW U16 115 Cmp5.yN
def tab : Cond := tabOf yN yB 6 (some (.array .byte)) site
def P (b : Addr) (A : Cell) (o len : Nat) (args : Array Value) (s : State) : Prop := args = #[.ref b, .int (Int32.ofNat o), .int (Int32.ofNat len)] ∧ Ch b A s ∧ o + len ≤ A.slots.size ∧ len ≤ 536870912 ∧ ∀ i, i < len → ¬ 255 < cv A (o + i)
def E (b : Addr) (A : Cell) (o len : Nat) (r : Option Value) (s u : State) : Prop := NewArr .byte "[B" len (fun j => .int (lo8 (cv A (o + j)))) r s u ∧ u.heap.size = s.heap.size + 1
/-- no char of the range above 255: a new byte[] of their low bytes -/
theorem law (l : Launch) (b : Addr) (A : Cell) (o len : Nat) : Law l yN 3 3 1 18 yB 6 (some (.array .byte)) site (P b A o len) (E b A o len) [] 1 len := by
  refine Law.of_walk (plainFor_of_name (by decide +kernel)) (by decide +kernel) (by decide +kernel) (by decide) (fun _ _ h => by rw [h.1]; rfl) (fun _ U U' hal hh h => ⟨h.1, h.2.1.mv hal hh, h.2.2⟩) (fun r U U' V V' h1 hal h2 h => ⟨NewArr.mv r U U' V V' h1 hal h2 h.1, by rw [h1, h2]; exact h.2⟩) ?_
  intro p e s m args below meth c s₁ X0 hexec hbytes hml hret hlk hnm hown hh0 W hP
  obtain ⟨rfl, hA, l1, l2, hp⟩ := hP
  have a31 := hA.1.2.2.2
  have c1 : Steps p.tables e below (s₁.setTop (entryFrame m #[.ref b, .int (Int32.ofNat o), .int (Int32.ofNat len)] 6)) (s₁.setTop (mkF m 0 #[.val (.ref b), .val (.int (Int32.ofNat o)), .val (.int (Int32.ofNat len)), .unset, .unset, .unset] [])) := entry rfl
  have c2 : Steps p.tables e below (s₁.setTop (entryFrame m #[.ref b, .int (Int32.ofNat o), .int (Int32.ofNat len)] 6)) (s₁.setTop (mkF m 1 #[.val (.ref b), .val (.int (Int32.ofNat o)), .val (.int (Int32.ofNat len)), .unset, .unset, .unset] [.int (Int32.ofNat len)])) := c1.trans (by
    refine XS.iloadN X0.here hexec rfl (hb hbytes d0) rfl ?_
    exact Steps.refl _)
  obtain ⟨T3, B3, X3, ba3, bs3, bv3, bh3, bf3, st3⟩ := X0.anew hexec (atype := .byte) (wk W (.arrayClass .byte)) rfl (by show len * 1 ≤ _; omega) (by omega) (g := (mkF m 1 #[.val (.ref b), .val (.int (Int32.ofNat o)), .val (.int (Int32.ofNat len)), .unset, .unset, .unset] [.int (Int32.ofNat len)])) rfl (hb hbytes d1) (rest := []) rfl (Nat.le_refl _) (by show 0 + len ≤ len; omega)
  rw [hh0] at ba3 st3
  have kp3 : XT.Kept s T3 := (XT.Kept.of_eq hh0).push bh3
  have hA3 := hA.keep X3.warmed.alike (kp3 _ _ hA.1.1)
  have hne : b ≠ s.heap.size := hA.1.ne
  have c4 : Steps p.tables e below (s₁.setTop (entryFrame m #[.ref b, .int (Int32.ofNat o), .int (Int32.ofNat len)] 6)) (T3.setTop (mkF m 3 #[.val (.ref b), .val (.int (Int32.ofNat o)), .val (.int (Int32.ofNat len)), .unset, .unset, .unset] [.ref s.heap.size])) := c2.trans (st3 _ (Steps.refl _))
  have c5 : Steps p.tables e below (s₁.setTop (entryFrame m #[.ref b, .int (Int32.ofNat o), .int (Int32.ofNat len)] 6)) (T3.setTop (mkF m 9 #[.val (.ref b), .val (.int (Int32.ofNat o)), .val (.int (Int32.ofNat len)), .val (.ref s.heap.size), .unset, .unset] [.int (Int32.ofNat len), .int 0, .ref s.heap.size, .int (Int32.ofNat o), .ref b])) := c4.trans (by
    refine XS.astoreN X3.here hexec rfl (hb hbytes d3) rfl rfl rfl ?_
    refine XS.aloadN X3.here hexec rfl (hb hbytes d4) rfl rfl ?_
    refine XS.iloadN X3.here hexec rfl (hb hbytes d5) rfl ?_
    refine XS.aloadN X3.here hexec rfl (hb hbytes d6) rfl rfl ?_
    refine iconstV X3.here hexec rfl 0 (hb hbytes d7) (by decide) ?_
    refine XS.iloadN X3.here hexec rfl (hb hbytes d8) rfl ?_
    exact Steps.refl _)
  obtain ⟨v6, T6, X6, E6, g6⟩ := X3.callS hexec (Cmp5.law l b A s.heap.size B3 o 0 len) hown (wks W (staticW U16 115 Cmp5.yN)) (wk W Cmp5.tab) (W := 0) (Nat.le_of_ble_eq_true rfl) (Nat.le_of_ble_eq_true rfl) (Nat.le_refl _) (by show 0 + len + 0 ≤ len; omega) (g := (mkF m 9 #[.val (.ref b), .val (.int (Int32.ofNat o)), .val (.int (Int32.ofNat len)), .val (.ref s.heap.size), .unset, .unset] [.int (Int32.ofNat len), .int (Int32.ofNat 0), .ref s.heap.size, .int (Int32.ofNat o), .ref b])) rfl (by rw [hml]; rfl) c5 (argsL := [.ref b, .int (Int32.ofNat o), .ref s.heap.size, .int (Int32.ofNat 0), .int (Int32.ofNat len)]) (rest := []) rfl rfl (by show 2 * 0 + 0 ≤ _; decide) (hb hbytes d9) (⟨rfl, hA3, ba3, hne, l1, by rw [bs3]; simp, hp⟩)
  obtain ⟨rfl, B6, p6, f6⟩ := E6
  have c7 : Steps p.tables e below (s₁.setTop (entryFrame m #[.ref b, .int (Int32.ofNat o), .int (Int32.ofNat len)] 6)) (T6.setTop (mkF m 12 #[.val (.ref b), .val (.int (Int32.ofNat o)), .val (.int (Int32.ofNat len)), .val (.ref s.heap.size), .unset, .unset] [.int (Int32.ofNat len)])) := g6
  have c8 : Steps p.tables e below (s₁.setTop (entryFrame m #[.ref b, .int (Int32.ofNat o), .int (Int32.ofNat len)] 6)) (T6.setTop (mkF m 58 #[.val (.ref b), .val (.int (Int32.ofNat o)), .val (.int (Int32.ofNat len)), .val (.ref s.heap.size), .val (.int (Int32.ofNat len)), .unset] [.ref s.heap.size])) := c7.trans (by
    refine XS.istore X6.here hexec rfl (hb hbytes d12) rfl rfl ?_
    refine XS.iload X6.here hexec rfl (hb hbytes d14) rfl ?_
    refine XS.iloadN X6.here hexec rfl (hb hbytes d16) rfl ?_
    refine XS.icmpYes X6.here hexec rfl (pc0 := 17) rfl (hb hbytes d17) rfl (ii_eq_t rfl) (by decide) rfl ?_
    refine XS.aloadN X6.here hexec rfl (hb hbytes d57) rfl rfl ?_
    exact Steps.refl _)
  have X8 := X6.wide (L' := []) (cells' := 1) (slots' := len) (fun x hx hlt => by
    simp only [List.nil_append, copyLocs, List.mem_map, List.mem_range] at hx
    obtain ⟨i, -, rfl⟩ := hx
    exact absurd hlt (Nat.lt_irrefl _)) (Nat.le_refl _) (by omega)
  exact ⟨T6, some (.ref s.heap.size), _, _, _, X8, rfl, rfl, rfl, (fun h => by cases h), ⟨⟨rfl, B6, ba3.like (X3.warmed.alike.symm.trans X6.warmed.alike) p6.1 f6.1 f6.2.1 f6.2.2.1, f6.2.1.trans bv3, by rw [X6.warmed.alike.findClass, f6.1]; exact bf3, by rw [f6.2.2.1, bs3]; simp, fun j hj => by rw [f6.2.2.2 j, if_pos (by omega)]; rfl, kp3.put p6 (Nat.le_refl _)⟩, by rw [p6.2.2, bh3, hh0]; simp⟩, fun fs hl => c8.trans (X8.areturnOut hexec rfl hret rfl (hb hbytes d58) hl)⟩
end Cmp3
namespace CodL
def yN : MethodName := ⟨"java/lang/StringUTF16", "coderFromArrayLen", "([BI)B"⟩
abbrev yB : ByteArray := jdk_52_method_15_code
theorem d0 : decode yB 0 = .ok (.iload_n 1, 1) := by decide +kernel
theorem d1 : decode yB 1 = .ok (.aload_n 0, 1) := by decide +kernel
theorem d2 : decode yB 2 = .ok (.arraylength, 1) := by decide +kernel
theorem d3 : decode yB 3 = .ok (.isub, 1) := by decide +kernel
theorem d4 : decode yB 4 = .ok (.bipush 31, 2) := by decide +kernel
theorem d6 : decode yB 6 = .ok (.iushr, 1) := by decide +kernel
theorem d7 : decode yB 7 = .ok (.i2b, 1) := by decide +kernel
theorem d8 : decode yB 8 = .ok (.ireturn, 1) := by decide +kernel
def site : List Cond := []
def tab : Cond := tabOf yN yB 2 (some .byte) site
def P (d : Addr) (B : Cell) (args : Array Value) (s : State) : Prop := args = #[.ref d, .int (Int32.ofNat B.slots.size)] ∧ Arr .byte d B s
def E (r : Option Value) (s u : State) : Prop := XT.PureE (some (.int 0)) r s u
/-- an array as long as the number of chars: LATIN1 -/
theorem law (l : Launch) (d : Addr) (B : Cell) : Law l yN 2 2 0 0 yB 2 (some .byte) site (P d B) E [] 0 0 := by
  refine Law.of_walk (plainFor_of_name (by decide +kernel)) (by decide +kernel) (by decide +kernel) (by decide) (fun _ _ h => by rw [h.1]; rfl) (fun _ U U' hal hh h => ⟨h.1, h.2.mv hal hh⟩) (fun r U U' V V' h1 hal h2 h => XT.PureE.mv r U U' V V' h1 hal h2 h) ?_
  intro p e s m args below meth c s₁ X0 hexec hbytes hml hret hlk hnm hown hh0 W hP
  obtain ⟨rfl, hB⟩ := hP
  have hB0 := hB.mv X0.warmed.alike hh0
  have c1 : Steps p.tables e below (s₁.setTop (entryFrame m #[.ref d, .int (Int32.ofNat B.slots.size)] 2)) (s₁.setTop (mkF m 0 #[.val (.ref d), .val (.int (Int32.ofNat B.slots.size))] [])) := entry rfl
  have c2 : Steps p.tables e below (s₁.setTop (entryFrame m #[.ref d, .int (Int32.ofNat B.slots.size)] 2)) (s₁.setTop (mkF m 2 #[.val (.ref d), .val (.int (Int32.ofNat B.slots.size))] [.ref d, .int (Int32.ofNat B.slots.size)])) := c1.trans (by
    refine XS.iloadN X0.here hexec rfl (hb hbytes d0) rfl ?_
    refine XS.aloadN X0.here hexec rfl (hb hbytes d1) rfl rfl ?_
    exact Steps.refl _)
  have c3 : Steps p.tables e below (s₁.setTop (entryFrame m #[.ref d, .int (Int32.ofNat B.slots.size)] 2)) (s₁.setTop (mkF m 8 #[.val (.ref d), .val (.int (Int32.ofNat B.slots.size))] [.int (lo8 (ushr (Int32.ofNat B.slots.size - Int32.ofNat B.slots.size) 31))])) := c2.trans (by
    refine X0.alen hexec hB0 rfl rfl (hb hbytes d2) ?_
    refine XS.isub X0.here hexec rfl (hb hbytes d3) rfl ?_
    refine bipushV X0.here hexec rfl 31 (hb hbytes d4) (by decide) ?_
    refine iushr X0.here hexec rfl (hb hbytes d6) rfl ?_
    refine i2b X0.here hexec rfl (hb hbytes d7) rfl ?_
    exact Steps.refl _)
  have e0 : lo8 (ushr (Int32.ofNat B.slots.size - Int32.ofNat B.slots.size) 31) = 0 := by rw [Int32.sub_self]; decide
  rw [e0] at c3
  exact ⟨s₁, some (.int 0), _, _, _, X0, rfl, rfl, rfl, (fun h => by cases h), ⟨rfl, hh0⟩, fun fs hl => c3.trans (X0.ireturnOut hexec hret rfl (Or.inr (Or.inr (Or.inl rfl))) (hb hbytes d8) hl)⟩
end CodL
/-- the String at a is Latin-1 over a new byte[] (the heap's one new cell): the low bytes of the len chars of A from o on; every cell but a is kept -/
def Got (a : Addr) (D : Cell) (fV fC : Field) (A : Cell) (o len : Nat) (r : Option Value) (s u : State) : Prop := r = none ∧ ∃ D' V : Cell, Blank "java/lang/String" a D' u ∧ Same D D' [fV.slot, fC.slot] ∧ D'.slots[fV.slot]? = some (.ref s.heap.size) ∧ D'.slots[fC.slot]? = some (.int 0) ∧ Arr .byte s.heap.size V u ∧ V.vm = .none ∧ u.vm.findClass "[B" = some V.cls ∧ V.slots.size = len ∧ (∀ j, j < len → V.slots[j]? = some (.int (lo8 (cv A (o + j))))) ∧ (∀ (y : Addr) (c : Cell), y ≠ a → s.heap[y]? = some c → u.heap[y]? = some c) ∧ u.heap.size = s.heap.size + 1
theorem Got.mv {a : Addr} {D A : Cell} {fV fC : Field} {o len : Nat} : ∀ r (U U' V V' : State), U'.heap = U.heap → V.vm.Alike V'.vm → V'.heap = V.heap → Got a D fV fC A o len r U V → Got a D fV fC A o len r U' V' :=
  fun r U U' V V' h1 hal h2 ⟨e0, D', X, a1, a2, a3, a4, a5, a6, a7, a8, a9, a10, a11⟩ => ⟨e0, D', X, a1.mv hal h2, a2, by rw [h1]; exact a3, a4, by rw [h1]; exact a5.mv hal h2, a6, by rw [hal.findClass]; exact a7, a8, a9, by rw [h1, h2]; exact a10, by rw [h1, h2]; exact a11⟩
namespace New4
def yN : MethodName := ⟨"java/lang/String", "<init>", "([CIILjava/lang/Void;)V"⟩
abbrev yB : ByteArray := jdk_42_method_149_code
theorem d0 : decode yB 0 = .ok (.aload_n 0, 1) := by decide +kernel
theorem d1 : decode yB 1 = .ok (.invokespecial 1, 3) := by decide +kernel
theorem d4 : decode yB 4 = .ok (.iload_n 3, 1) := by decide +kernel
theorem d5 : decode yB 5 = .ok (.ifCond (.ne) 22, 3) := by decide +kernel
theorem d27 : decode yB 27 = .ok (.getstatic 38, 3) := by decide +kernel
theorem d30 : decode yB 30 = .ok (.ifCond (.eq) 28, 3) := by decide +kernel
theorem d33 : decode yB 33 = .ok (.aload_n 1, 1) := by decide +kernel
theorem d34 : decode yB 34 = .ok (.iload_n 2, 1) := by decide +kernel
theorem d35 : decode yB 35 = .ok (.iload_n 3, 1) := by decide +kernel
theorem d36 : decode yB 36 = .ok (.invokestatic 177, 3) := by decide +kernel
theorem d39 : decode yB 39 = .ok (.astore 5, 2) := by decide +kernel
theorem d41 : decode yB 41 = .ok (.aload_n 0, 1) := by decide +kernel
theorem d42 : decode yB 42 = .ok (.aload 5, 2) := by decide +kernel
theorem d44 : decode yB 44 = .ok (.iload_n 3, 1) := by decide +kernel
theorem d45 : decode yB 45 = .ok (.invokestatic 47, 3) := by decide +kernel
theorem d48 : decode yB 48 = .ok (.putfield 15, 3) := by decide +kernel
theorem d51 : decode yB 51 = .ok (.aload_n 0, 1) := by decide +kernel
theorem d52 : decode yB 52 = .ok (.aload 5, 2) := by decide +kernel
theorem d54 : decode yB 54 = .ok (.putfield 9, 3) := by decide +kernel
theorem d57 : decode yB 57 = .ok (.return_, 1) := by decide +kernel
def site : List Cond := [.fieldLink "java/lang/String" 38 "java/lang/String" "COMPACT_STRINGS" "Z", Cmp3.tab, CodL.tab, .laysFinal "java/lang/String" "java/lang/String" "value" "[B", .fieldLink "java/lang/String" 9 "java/lang/String" "value" "[B", .laysFinal "java/lang/String" "java/lang/String" "coder" "B", .fieldLink "java/lang/String" 15 "java/lang/String" "coder" "B"] ++ objW "java/lang/String" 1 ++ staticW "java/lang/String" 177 Cmp3.yN ++ staticW "java/lang/String" 47 CodL.yN
def tab : Cond := tabOf yN yB 6 none site
def P (a : Addr) (D : Cell) (fV fC : Field) (b : Addr) (A : Cell) (z : Int32) (o len : Nat) (args : Array Value) (s : State) : Prop := args = #[.ref a, .ref b, .int (Int32.ofNat o), .int (Int32.ofNat len), .null] ∧ Blank "java/lang/String" a D s ∧ Found "java/lang/String" "value" "[B" fV s ∧ Found "java/lang/String" "coder" "B" fC s ∧ Ch b A s ∧ StaticIs s "java/lang/String" "COMPACT_STRINGS" "Z" (.int z) ∧ ¬ z = 0 ∧ 0 < len ∧ o + len ≤ A.slots.size ∧ len ≤ 536870912 ∧ ∀ i, i < len → ¬ 255 < cv A (o + i)
def E (a : Addr) (D : Cell) (fV fC : Field) (A : Cell) (o len : Nat) (r : Option Value) (s u : State) : Prop := Got a D fV fC A o len r s u
/-- len > 0, no char of the range above 255: a Latin-1 String of their low bytes -/
theorem law (l : Launch) (a : Addr) (D : Cell) (fV fC : Field) (b : Addr) (A : Cell) (z : Int32) (o len : Nat) : Law l yN 5 4 2 35 yB 6 none site (P a D fV fC b A z o len) (E a D fV fC A o len) [⟨a, fC.slot⟩, ⟨a, fV.slot⟩] 1 len := by
  refine Law.of_walk (plainFor_of_name (by decide +kernel)) (by decide +kernel) (by decide +kernel) (by decide) (fun _ _ h => by rw [h.1]; rfl) (fun _ U U' hal hh h => ⟨h.1, h.2.1.mv hal hh, h.2.2.1.al hal, h.2.2.2.1.al hal, h.2.2.2.2.1.mv hal hh, h.2.2.2.2.2.1.there hal hh, h.2.2.2.2.2.2⟩) (fun r U U' V V' h1 hal h2 h => Got.mv r U U' V V' h1 hal h2 h) ?_
  intro p e s m args below meth c s₁ X0 hexec hbytes hml hret hlk hnm hown hh0 W hP
  obtain ⟨rfl, hB, f1, f2, hA, s1, hz, l0, l1, l2, hp⟩ := hP
  have a31 := hA.1.2.2.2
  have c1 : Steps p.tables e below (s₁.setTop (entryFrame m #[.ref a, .ref b, .int (Int32.ofNat o), .int (Int32.ofNat len), .null] 6)) (s₁.setTop (mkF m 0 #[.val (.ref a), .val (.ref b), .val (.int (Int32.ofNat o)), .val (.int (Int32.ofNat len)), .val .null, .unset] [])) := entry rfl
  have c2 : Steps p.tables e below (s₁.setTop (entryFrame m #[.ref a, .ref b, .int (Int32.ofNat o), .int (Int32.ofNat len), .null] 6)) (s₁.setTop (mkF m 1 #[.val (.ref a), .val (.ref b), .val (.int (Int32.ofNat o)), .val (.int (Int32.ofNat len)), .val .null, .unset] [.ref a])) := c1.trans (by
    refine XS.aloadN X0.here hexec rfl (hb hbytes d0) rfl rfl ?_
    exact Steps.refl _)
  obtain ⟨T3, X3, q3, st3⟩ := X0.oinit hexec hown (wks W (objW "java/lang/String" 1)) (g := (mkF m 1 #[.val (.ref a), .val (.ref b), .val (.int (Int32.ofNat o)), .val (.int (Int32.ofNat len)), .val .null, .unset] [.ref a])) rfl (by rw [hml]; rfl) (rest := []) rfl (hb hbytes d1) (W := 0) (by show 2 * 0 + 0 ≤ _; decide) (Nat.le_of_ble_eq_true rfl) (Nat.le_of_ble_eq_true rfl)
  have hh3 := q3.trans hh0
  have c4 : Steps p.tables e below (s₁.setTop (entryFrame m #[.ref a, .ref b, .int (Int32.ofNat o), .int (Int32.ofNat len), .null] 6)) (T3.setTop (mkF m 27 #[.val (.ref a), .val (.ref b), .val (.int (Int32.ofNat o)), .val (.int (Int32.ofNat len)), .val .null, .unset] [])) := (c2.trans (st3 _ (Steps.refl _))).trans (by
    refine XS.iloadN X3.here hexec rfl (hb hbytes d4) rfl ?_
    refine XS.ifYes X3.here hexec rfl (pc0 := 5) rfl (hb hbytes d5) rfl (i0_ne_t (nz32 (by omega) l0)) (by decide) rfl ?_
    exact Steps.refl _)
  obtain ⟨T5, X5, q5, st5⟩ := X3.sget hexec hown (wk W (.fieldLink "java/lang/String" 38 "java/lang/String" "COMPACT_STRINGS" "Z")) s1 (fun _ _ h => by rw [hh3]; exact h) (g := (mkF m 27 #[.val (.ref a), .val (.ref b), .val (.int (Int32.ofNat o)), .val (.int (Int32.ofNat len)), .val .null, .unset] [])) rfl (hb hbytes d27)
  have hh5 := q5.trans hh3
  have c6 : Steps p.tables e below (s₁.setTop (entryFrame m #[.ref a, .ref b, .int (Int32.ofNat o), .int (Int32.ofNat len), .null] 6)) (T5.setTop (mkF m 30 #[.val (.ref a), .val (.ref b), .val (.int (Int32.ofNat o)), .val (.int (Int32.ofNat len)), .val .null, .unset] [.int z])) := c4.trans (st5 _ (Steps.refl _))
  have c7 : Steps p.tables e below (s₁.setTop (entryFrame m #[.ref a, .ref b, .int (Int32.ofNat o), .int (Int32.ofNat len), .null] 6)) (T5.setTop (mkF m 36 #[.val (.ref a), .val (.ref b), .val (.int (Int32.ofNat o)), .val (.int (Int32.ofNat len)), .val .null, .unset] [.int (Int32.ofNat len), .int (Int32.ofNat o), .ref b])) := c6.trans (by
    refine XS.ifNo X5.here hexec rfl (hb hbytes d30) rfl (i0_eq_f hz) ?_
    refine XS.aloadN X5.here hexec rfl (hb hbytes d33) rfl rfl ?_
    refine XS.iloadN X5.here hexec rfl (hb hbytes d34) rfl ?_
    refine XS.iloadN X5.here hexec rfl (hb hbytes d35) rfl ?_
    exact Steps.refl _)
  obtain ⟨v8, T8, X8, E8, g8⟩ := X5.callS hexec (Cmp3.law l b A o len) hown (wks W (staticW "java/lang/String" 177 Cmp3.yN)) (wk W Cmp3.tab) (W := 0) (Nat.le_of_ble_eq_true rfl) (Nat.le_of_ble_eq_true rfl) (Nat.le_refl _) (by show 0 + len ≤ len; omega) (g := (mkF m 36 #[.val (.ref a), .val (.ref b), .val (.int (Int32.ofNat o)), .val (.int (Int32.ofNat len)), .val .null, .unset] [.int (Int32.ofNat len), .int (Int32.ofNat o), .ref b])) rfl (by rw [hml]; rfl) c7 (argsL := [.ref b, .int (Int32.ofNat o), .int (Int32.ofNat len)]) (rest := []) rfl rfl (by show 2 * 0 + 0 ≤ _; decide) (hb hbytes d36) (⟨rfl, hA.mv X5.warmed.alike hh5, l1, l2, hp⟩)
  obtain ⟨e8, z8⟩ := E8
  obtain ⟨rfl, N, n1, n2, n3, n4, n5, n6⟩ := NewArr.mv _ T5 s _ _ hh5.symm (Vm.Alike.refl _) rfl e8
  rw [hh5] at z8
  have hB1 := hB.keep X8.warmed.alike (n6 _ _ hB.1)
  have hne : s.heap.size ≠ a := (Nat.ne_of_lt (Array.getElem?_eq_some_iff.mp hB.1).1).symm
  have c9 : Steps p.tables e below (s₁.setTop (entryFrame m #[.ref a, .ref b, .int (Int32.ofNat o), .int (Int32.ofNat len), .null] 6)) (T8.setTop (mkF m 39 #[.val (.ref a), .val (.ref b), .val (.int (Int32.ofNat o)), .val (.int (Int32.ofNat len)), .val .null, .unset] [.ref s.heap.size])) := g8
  have c10 : Steps p.tables e below (s₁.setTop (entryFrame m #[.ref a, .ref b, .int (Int32.ofNat o), .int (Int32.ofNat len), .null] 6)) (T8.setTop (mkF m 45 #[.val (.ref a), .val (.ref b), .val (.int (Int32.ofNat o)), .val (.int (Int32.ofNat len)), .val .null, .val (.ref s.heap.size)] [.int (Int32.ofNat N.slots.size), .ref s.heap.size, .ref a])) := by
    have hc : Steps p.tables e below (s₁.setTop (entryFrame m #[.ref a, .ref b, .int (Int32.ofNat o), .int (Int32.ofNat len), .null] 6)) (T8.setTop (mkF m 45 #[.val (.ref a), .val (.ref b), .val (.int (Int32.ofNat o)), .val (.int (Int32.ofNat len)), .val .null, .val (.ref s.heap.size)] [.int (Int32.ofNat len), .ref s.heap.size, .ref a])) := c9.trans (by
      refine XS.astore X8.here hexec rfl (hb hbytes d39) rfl rfl rfl ?_
      refine XS.aloadN X8.here hexec rfl (hb hbytes d41) rfl rfl ?_
      refine XS.aload X8.here hexec rfl (hb hbytes d42) rfl rfl ?_
      refine XS.iloadN X8.here hexec rfl (hb hbytes d44) rfl ?_
      exact Steps.refl _)
    rw [n4]; exact hc
  obtain ⟨v11, T11, X11, E11, g11⟩ := X8.callS hexec (CodL.law l s.heap.size N) hown (wks W (staticW "java/lang/String" 47 CodL.yN)) (wk W CodL.tab) (W := 1) (Nat.le_of_ble_eq_true rfl) (Nat.le_of_ble_eq_true rfl) (Nat.le_refl _) (by show 0 + len + 0 ≤ len; omega) (g := (mkF m 45 #[.val (.ref a), .val (.ref b), .val (.int (Int32.ofNat o)), .val (.int (Int32.ofNat len)), .val .null, .val (.ref s.heap.size)] [.int (Int32.ofNat N.slots.size), .ref s.heap.size, .ref a])) rfl (by rw [hml]; rfl) c10 (argsL := [.ref s.heap.size, .int (Int32.ofNat N.slots.size)]) (rest := [.ref a]) rfl rfl (by show 2 * 0 + (1 + 0) ≤ _; decide) (hb hbytes d45) (⟨rfl, n1⟩)
  obtain ⟨rfl, q11⟩ := E11
  have hB11 := hB1.mv (X8.warmed.alike.symm.trans X11.warmed.alike) q11
  have c12 : Steps p.tables e below (s₁.setTop (entryFrame m #[.ref a, .ref b, .int (Int32.ofNat o), .int (Int32.ofNat len), .null] 6)) (T11.setTop (mkF m 48 #[.val (.ref a), .val (.ref b), .val (.int (Int32.ofNat o)), .val (.int (Int32.ofNat len)), .val .null, .val (.ref s.heap.size)] [.int 0, .ref a])) := g11
  obtain ⟨T13, X13, p13, bl13, sl13, st13⟩ := X11.finit hexec hown (wk W (.fieldLink "java/lang/String" 15 "java/lang/String" "coder" "B")) (Or.inr ⟨_, (wk W (.laysFinal "java/lang/String" "java/lang/String" "coder" "B"))⟩) (Or.inl ⟨rfl, hnm⟩) f2 (Or.inl rfl) hB11 (t := .byte) (by decide +kernel) rfl (g := (mkF m 48 #[.val (.ref a), .val (.ref b), .val (.int (Int32.ofNat o)), .val (.int (Int32.ofNat len)), .val .null, .val (.ref s.heap.size)] [.int 0, .ref a])) rfl (rest := []) rfl (hb hbytes d48)
  have c14 : Steps p.tables e below (s₁.setTop (entryFrame m #[.ref a, .ref b, .int (Int32.ofNat o), .int (Int32.ofNat len), .null] 6)) (T13.setTop (mkF m 54 #[.val (.ref a), .val (.ref b), .val (.int (Int32.ofNat o)), .val (.int (Int32.ofNat len)), .val .null, .val (.ref s.heap.size)] [.ref s.heap.size, .ref a])) := (c12.trans (st13 _ (Steps.refl _))).trans (by
    refine XS.aloadN X13.here hexec rfl (hb hbytes d51) rfl rfl ?_
    refine XS.aload X13.here hexec rfl (hb hbytes d52) rfl rfl ?_
    exact Steps.refl _)
  obtain ⟨T15, X15, p15, bl15, sl15, st15⟩ := X13.finit hexec hown (wk W (.fieldLink "java/lang/String" 9 "java/lang/String" "value" "[B")) (Or.inr ⟨_, (wk W (.laysFinal "java/lang/String" "java/lang/String" "value" "[B"))⟩) (Or.inl ⟨rfl, hnm⟩) f1 (Or.inl rfl) bl13 (t := (.array .byte)) (by decide +kernel) rfl (g := (mkF m 54 #[.val (.ref a), .val (.ref b), .val (.int (Int32.ofNat o)), .val (.int (Int32.ofNat len)), .val .null, .val (.ref s.heap.size)] [.ref s.heap.size, .ref a])) rfl (rest := []) rfl (hb hbytes d54)
  have c16 : Steps p.tables e below (s₁.setTop (entryFrame m #[.ref a, .ref b, .int (Int32.ofNat o), .int (Int32.ofNat len), .null] 6)) (T15.setTop (mkF m 57 #[.val (.ref a), .val (.ref b), .val (.int (Int32.ofNat o)), .val (.int (Int32.ofNat len)), .val .null, .val (.ref s.heap.size)] [])) := c14.trans (st15 _ (Steps.refl _))
  have ap := apart (Or.inr ⟨_, (wk W (.laysFinal "java/lang/String" "java/lang/String" "value" "[B"))⟩) (Or.inr ⟨_, (wk W (.laysFinal "java/lang/String" "java/lang/String" "coder" "B"))⟩) f1 f2 (t₁ := .array .byte) (t₂ := .byte) (by decide +kernel) (by decide +kernel) (by decide)
  have al := X8.warmed.alike.symm.trans X15.warmed.alike
  have n7 : T11.heap[s.heap.size]? = some N := by rw [q11]; exact n1.1
  exact ⟨T15, none, _, _, _, X15, by simp, rfl, by omega, (fun _ => rfl), ⟨rfl, _, N, bl15, ((Same.refl D _).set _ (by simp)).set _ (by simp), sl15, (Cell.slots_setSlot_ne _ ap).trans sl13, n1.keep al (p15.other hne (p13.other hne n7)), n2, by rw [al.findClass]; exact n3, n4, n5, fun y c h1 h2 => p15.other h1 (p13.other h1 (by rw [q11]; exact n6 y c h2)), by rw [p15.2.2, p13.2.2, q11]; exact z8⟩, fun fs hl => c16.trans (X15.returnOut hexec hret (hb hbytes d57) hl)⟩
end New4
namespace New1
def yN : MethodName := ⟨"java/lang/String", "<init>", "([C)V"⟩
abbrev yB : ByteArray := jdk_42_method_3_code
theorem d0 : decode yB 0 = .ok (.aload_n 0, 1) := by decide +kernel
theorem d1 : decode yB 1 = .ok (.aload_n 1, 1) := by decide +kernel
theorem d2 : decode yB 2 = .ok (.iconst 0, 1) := by decide +kernel
theorem d3 : decode yB 3 = .ok (.aload_n 1, 1) := by decide +kernel
theorem d4 : decode yB 4 = .ok (.arraylength, 1) := by decide +kernel
theorem d5 : decode yB 5 = .ok (.aconst_null, 1) := by decide +kernel
theorem d6 : decode yB 6 = .ok (.invokespecial 27, 3) := by decide +kernel
theorem d9 : decode yB 9 = .ok (.return_, 1) := by decide +kernel
def site : List Cond := [New4.tab] ++ initW "java/lang/String" 27 New4.yN
def tab : Cond := tabOf yN yB 2 none site
def P (a : Addr) (D : Cell) (fV fC : Field) (b : Addr) (A : Cell) (z : Int32) (args : Array Value) (s : State) : Prop := args = #[.ref a, .ref b] ∧ Blank "java/lang/String" a D s ∧ Found "java/lang/String" "value" "[B" fV s ∧ Found "java/lang/String" "coder" "B" fC s ∧ Ch b A s ∧ StaticIs s "java/lang/String" "COMPACT_STRINGS" "Z" (.int z) ∧ ¬ z = 0 ∧ 0 < A.slots.size ∧ A.slots.size ≤ 536870912 ∧ ∀ i, i < A.slots.size → ¬ 255 < cv A i
def E (a : Addr) (D : Cell) (fV fC : Field) (A : Cell) (r : Option Value) (s u : State) : Prop := Got a D fV fC A 0 A.slots.size r s u
/-- new String(chars), not empty, no char above 255: a Latin-1 String of their low bytes -/
theorem law (l : Launch) (a : Addr) (D : Cell) (fV fC : Field) (b : Addr) (A : Cell) (z : Int32) : Law l yN 2 1 3 52 yB 2 none site (P a D fV fC b A z) (E a D fV fC A) [⟨a, fC.slot⟩, ⟨a, fV.slot⟩] 1 A.slots.size := by
  refine Law.of_walk (plainFor_of_name (by decide +kernel)) (by decide +kernel) (by decide +kernel) (by decide) (fun _ _ h => by rw [h.1]; rfl) (fun _ U U' hal hh h => ⟨h.1, h.2.1.mv hal hh, h.2.2.1.al hal, h.2.2.2.1.al hal, h.2.2.2.2.1.mv hal hh, h.2.2.2.2.2.1.there hal hh, h.2.2.2.2.2.2⟩) (fun r U U' V V' h1 hal h2 h => Got.mv r U U' V V' h1 hal h2 h) ?_
  intro p e s m args below meth c s₁ X0 hexec hbytes hml hret hlk hnm hown hh0 W hP
  obtain ⟨rfl, hB, f1, f2, hA, s1, hz, l0, l2, hp⟩ := hP
  have c1 : Steps p.tables e below (s₁.setTop (entryFrame m #[.ref a, .ref b] 2)) (s₁.setTop (mkF m 0 #[.val (.ref a), .val (.ref b)] [])) := entry rfl
  have c2 : Steps p.tables e below (s₁.setTop (entryFrame m #[.ref a, .ref b] 2)) (s₁.setTop (mkF m 6 #[.val (.ref a), .val (.ref b)] [.null, .int (Int32.ofNat A.slots.size), .int 0, .ref b, .ref a])) := c1.trans (by
    refine XS.aloadN X0.here hexec rfl (hb hbytes d0) rfl rfl ?_
    refine XS.aloadN X0.here hexec rfl (hb hbytes d1) rfl rfl ?_
    refine iconstV X0.here hexec rfl 0 (hb hbytes d2) (by decide) ?_
    refine XS.aloadN X0.here hexec rfl (hb hbytes d3) rfl rfl ?_
    refine X0.alen hexec (hA.1.mv X0.warmed.alike hh0) rfl rfl (hb hbytes d4) ?_
    refine XS.aconstNull X0.here hexec rfl (hb hbytes d5) ?_
    exact Steps.refl _)
  obtain ⟨v3, T3, X3, E3, g3⟩ := X0.callN hexec (New4.law l a D fV fC b A z 0 A.slots.size) rfl hown (wks W (initW "java/lang/String" 27 New4.yN)) (W New4.tab (by simp only [site, List.mem_cons, List.mem_append, true_or, or_true])) (W := 0) (Nat.le_of_ble_eq_true rfl) (Nat.le_of_ble_eq_true rfl) (Nat.le_refl _) (by show 0 + A.slots.size ≤ A.slots.size; omega) (g := (mkF m 6 #[.val (.ref a), .val (.ref b)] [.null, .int (Int32.ofNat A.slots.size), .int (Int32.ofNat 0), .ref b, .ref a])) rfl (by rw [hml]; rfl) c2 (argsL := [.ref b, .int (Int32.ofNat 0), .int (Int32.ofNat A.slots.size), .null]) (rest := []) rfl rfl (by show 2 * 0 + 0 ≤ _; decide) (hb hbytes d6) (⟨rfl, hB.mv X0.warmed.alike hh0, f1.al X0.warmed.alike, f2.al X0.warmed.alike, hA.mv X0.warmed.alike hh0, s1.there X0.warmed.alike hh0, hz, l0, by omega, l2, fun i hi => by rw [Nat.zero_add]; exact hp i hi⟩)
  have e0 := Got.mv _ s₁ s _ _ hh0.symm (Vm.Alike.refl _) rfl E3
  obtain rfl := e0.1
  have c4 : Steps p.tables e below (s₁.setTop (entryFrame m #[.ref a, .ref b] 2)) (T3.setTop (mkF m 9 #[.val (.ref a), .val (.ref b)] [])) := g3
  exact ⟨T3, none, _, _, _, X3, by simp, rfl, by omega, (fun _ => rfl), e0, fun fs hl => c4.trans (X3.returnOut hexec hret (hb hbytes d9) hl)⟩
theorem pays {l : Launch} {R : Room} {p : Program} {e : Env} {below : List Frame} {s : State} {sargs : Array Value} {len W : Nat} (a : Addr) (D : Cell) (fV fC : Field) (b : Addr) (A : Cell) (z : Int32) (htab : tab.before sargs s = true) (hfr : 4 ≤ R.frames) (hlo : W + 65 ≤ R.locals) :
    Back l R p e below s sargs yN len W (fun A₁ a₁ => A₁.cells + 1 ≤ R.cells ∧ A₁.slots + A.slots.size ≤ R.slots ∧ P a D fV fC b A z a₁ A₁.U) (fun A₁ _ v₁ B₁ => E a D fV fC A v₁ A₁.U B₁.U ∧ B₁.locs = A₁.locs ++ [⟨a, fC.slot⟩, ⟨a, fV.slot⟩] ∧ B₁.cells = A₁.cells + 1 ∧ B₁.slots = A₁.slots + A.slots.size) :=
  (law l a D fV fC b A z).pays htab hfr (by omega)
end New1
/-- the byte, read back as charAt reads it, is the char -/
theorem lo8_mask {x : Int32} (h0 : ¬ x < 0) (h1 : ¬ 255 < x) : lo8 x &&& 255 = x := by
  have t : ∀ k : Fin 256, lo8 (Int32.ofNat k.val) &&& 255 = Int32.ofNat k.val := by decide +kernel
  rw [Int32.lt_iff_toInt_lt] at h0 h1
  have e0 : (0 : Int32).toInt = 0 := rfl
  have e1 : (255 : Int32).toInt = 255 := rfl
  obtain ⟨k, hk⟩ : ∃ k : Nat, x.toInt = k := ⟨x.toInt.toNat, by omega⟩
  have hx : x = Int32.ofNat k := Int32.toInt_inj.mp (by rw [hk, Int32.toInt_ofNat_small (by omega)])
  rw [hx]
  exact t ⟨k, by omega⟩
end StrChars
namespace StrChars.Road
open Jvm Sem ClassFile Op Lib Jvm.Stand Jvm.Free Jvm.Free.XT
open Jvm.Lib.Cold (StaticIs)
abbrev ST : String := "java/lang/String"
/-- every table word that New1's law asks, flat -/
abbrev words : List Jvm.Cond := [.code New1.yN New1.yB 2 none, .initialized ST, .methodLink ST 27 New4.yN, .instanceMethod New4.yN,
  .code New4.yN New4.yB 6 none, .fieldLink ST 38 ST "COMPACT_STRINGS" "Z", .laysFinal ST ST "value" "[B", .fieldLink ST 9 ST "value" "[B", .laysFinal ST ST "coder" "B", .fieldLink ST 15 ST "coder" "B",
  .methodLink ST 1 Lib.objectInit, .instanceMethod Lib.objectInit, .code Lib.objectInit ⟨#[0xb1]⟩ 1 none, .methodLink ST 177 Cmp3.yN, .static Cmp3.yN, .methodLink ST 47 CodL.yN, .static CodL.yN,
  .code Cmp3.yN Cmp3.yB 6 (some (.array .byte)), .initialized U16, .arrayClass .byte, .methodLink U16 115 Cmp5.yN, .static Cmp5.yN, .code Cmp5.yN Cmp5.yB 7 (some .int), .code CodL.yN CodL.yB 2 (some .byte)]
theorem tab_of {a : Array Value} {s : State} (h : ∀ w ∈ words, w.before a s = true) : New1.tab.before a s = true := by
  have h5 : Cmp5.tab.before a s = true := unparts (wk h (.code Cmp5.yN Cmp5.yB 7 (some .int))) (wks h (.initialized Cmp5.yN.cls :: Cmp5.site))
  have hc : CodL.tab.before a s = true := unparts (wk h (.code CodL.yN CodL.yB 2 (some .byte))) (wks h (.initialized CodL.yN.cls :: CodL.site))
  have q5 : ∀ w ∈ Cmp5.tab :: words, w.before a s = true := fun w hw => (List.mem_cons.mp hw).elim (fun e => e ▸ h5) (h w)
  have h3 : Cmp3.tab.before a s = true := unparts (wk q5 (.code Cmp3.yN Cmp3.yB 6 (some (.array .byte)))) (wks q5 (.initialized Cmp3.yN.cls :: Cmp3.site))
  have q3 : ∀ w ∈ Cmp3.tab :: CodL.tab :: words, w.before a s = true := fun w hw => (List.mem_cons.mp hw).elim (fun e => e ▸ h3) fun hw => (List.mem_cons.mp hw).elim (fun e => e ▸ hc) (h w)
  have h4 : New4.tab.before a s = true := unparts (wk q3 (.code New4.yN New4.yB 6 none)) (wks q3 (.initialized New4.yN.cls :: New4.site))
  have q4 : ∀ w ∈ New4.tab :: words, w.before a s = true := fun w hw => (List.mem_cons.mp hw).elim (fun e => e ▸ h4) (h w)
  exact unparts (wk q4 (.code New1.yN New1.yB 2 none)) (wks q4 (.initialized New1.yN.cls :: New1.site))
/-- the words ride from the start Z to the walk's own state -/
theorem moved {Z s : State} {a0 args : Array Value} (hZ : Z.Warmed39 s.vm) (hw : ∀ d ∈ words, d.before a0 Z = true) : ∀ d ∈ words, d.before args s = true := fun d hd => by
  have q := hw d hd
  have t : ∀ d ∈ words, d = .arrayClass .byte ∨ (d.onTables && d.keepsFace) = true := by decide +kernel
  rcases t d hd with rfl | t
  · exact RoadKit.mvA hZ q
  · exact RoadKit.mv hZ q t
/-- WHAT COMES BACK, over the tables of the start Z: h the heap at the call, h' behind it -/
def Q (Z : State) (x : Addr) (A : Cell) (h : Heap) (v : Option Value) (h' : Heap) (L : List Loc) : Prop := v = none ∧ (∀ y ∈ L, y.base = x) ∧ RoadKit.Keep h h' [x] ∧ h'.size = h.size + 1 ∧ RoadKit.Exa Z h' x ST ∧ RoadKit.Fld Z h' x ST "value" "[B" (.ref h.size) ∧ RoadKit.Fld Z h' x ST "coder" "B" (.int 0) ∧
  (∃ V : Cell, RoadKit.Arr Z h' h.size V .byte ∧ V.vm = .none ∧ Z.vm.findClass "[B" = some V.cls ∧ V.slots.size = A.slots.size ∧ ∀ j, j < A.slots.size → V.slots[j]? = some (.int (lo8 (cv A j)))) ∧
  ∀ (O n d : String) (w : Value), RoadKit.Fld Z h x O n d w → RoadKit.slotOf Z O n d ≠ RoadKit.slotOf Z ST "value" "[B" → RoadKit.slotOf Z O n d ≠ RoadKit.slotOf Z ST "coder" "B" → RoadKit.Fld Z h' x O n d w
/-- **new String(chars) AT A CALL, IN THE ROAD'S FORM**: for specialBack behind newO: x the fresh String, b the char[] with the cell A -/
theorem back {p : Program} {l : Launch} {e : Env} {R : Room} {s : State} {args : Array Value} {below : List Frame} {len W : Nat} {Z : State} {a0 : Array Value} {h : Heap} (hZ : Z.Warmed39 s.vm) (hw : ∀ d ∈ words, d.before a0 Z = true) {kI : Nat} (wi : (Jvm.Cond.instantiable ST kI).before a0 Z = true)
    {x b : Addr} {A : Cell} {z : Int32} {v0 c0 : Value} (E : RoadKit.Exa Z h x ST) (V : RoadKit.Fld Z h x ST "value" "[B" v0) (C : RoadKit.Fld Z h x ST "coder" "B" c0) (K : RoadKit.Arr Z h b A .char) (hty : Typed .char A) (S : RoadKit.Sta Z h ST "COMPACT_STRINGS" "Z" (.int z)) (hz : ¬ z = 0)
    (l0 : 0 < A.slots.size) (l2 : A.slots.size ≤ 536870912) (hp : ∀ i, i < A.slots.size → ¬ 255 < cv A i) (hfr : 4 ≤ R.frames) (hlo : W + 65 ≤ R.locals) :
    Back l R p e below s args New1.yN len W (fun P a => a = #[.ref x, .ref b] ∧ P.U.heap = h ∧ P.cells + 1 ≤ R.cells ∧ P.slots + A.slots.size ≤ R.slots)
      (fun P _ v B => ∃ L, Q Z x A h v B.U.heap L ∧ B.locs = P.locs ++ L ∧ B.cells = P.cells + 1 ∧ B.slots = P.slots + A.slots.size) := by
  intro m meth c P g ig mk a X hg hsize hdg hW hn hp'
  obtain ⟨rfl, rfl, r1, r2⟩ := hp'
  have al : Z.vm.Alike P.U.vm := hZ.alike.trans X.warmed.alike
  obtain ⟨D, cfV, kV, iV, fV, hD, gV, stV, knV, obV, asV, slV⟩ := id V
  obtain ⟨D', cfC, kC, iC, fC, hD', gC, stC, -, -, asC, slC⟩ := id C
  cases hD.symm.trans hD'
  obtain ⟨D2, kD, e1, e2, e3, e4, e5⟩ := id E
  cases hD.symm.trans e1
  obtain ⟨c2, k2, i1, i2, i3, -⟩ := Cond.instantiable_spec wi
  cases e2.symm.trans i1
  cases e3.symm.trans i2
  obtain ⟨kU, u1, u2⟩ := al.2.2 _ _ e3
  have hB : Blank ST x D P.U := ⟨hD, ⟨knV, fun q hq => by rw [hq] at obV; cases obV⟩, by rw [al.findClass]; exact e2, kU, u1, by rw [u2]; exact i3, by rw [u2]; exact e5 i3⟩
  have F1 : Found ST "value" "[B" fV P.U := ⟨SBG.found_only al ⟨cfV, kV, iV, gV⟩, stV⟩
  have F2 : Found ST "coder" "B" fC P.U := ⟨SBG.found_only al ⟨cfC, kC, iC, gC⟩, stC⟩
  have hA : Ch b A P.U := ⟨⟨K.1, State.isArrayOf_alike al K.2.1, K.2.2, by omega⟩, hty⟩
  have hS : StaticIs P.U ST "COMPACT_STRINGS" "Z" (.int z) := by
    obtain ⟨cfS, iS, kS, fS, st, cS, t1, t2, t3, t4, t5, t6, t7⟩ := S
    exact StaticIs.there (s := { Z with heap := P.U.heap }) ⟨cfS, iS, kS, fS, st, cS, t1, t2, t3, t4, t5, (fun q => by rw [q] at t6; cases t6), t7⟩ al rfl
  obtain ⟨v, B, X', ⟨⟨hv, E', V', q1, q2, q3, q4, q5, q6, q7, q8, q9, q10, q11⟩, hl, hc, hs⟩, st⟩ := New1.pays x D fV fC b A z (tab_of (moved hZ hw)) hfr hlo m meth c P g ig mk _ X hg hsize hdg hW hn ⟨r1, r2, rfl, hB, F1, F2, hA, hS, hz, l0, l2, hp⟩
  have al' : Z.vm.Alike B.U.vm := hZ.alike.trans X'.warmed.alike
  have hsz : E'.slots.size = D.slots.size := by
    obtain ⟨-, -, -, kB, w1, w2, w3⟩ := q1
    obtain ⟨kB', y1, y2⟩ := al'.2.2 _ _ e3
    rw [q2.2.1] at w1
    cases w1.symm.trans y1
    rw [w3, e5 i3, y2]
  refine ⟨v, B, X', ⟨_, ⟨hv, ?_, ⟨by omega, fun y cy hy hn' => q10 y cy (by simpa using hn') hy, fun y cy hy => ?_⟩, q11, ⟨E', _, q1.1, by rw [q2.2.1]; exact e2, by rw [q2.2.1]; exact e3, by rw [q2.1]; exact obV, fun _ => by rw [hsz]; exact e5 i3⟩,
    ⟨E', cfV, kV, iV, fV, q1.1, gV, stV, by rw [q2.1]; exact knV, by rw [q2.1]; exact obV, by rw [q2.2.1]; exact asV, q3⟩, ⟨E', cfC, kC, iC, fC, q1.1, gC, stC, by rw [q2.1]; exact knV, by rw [q2.1]; exact obV, by rw [q2.2.1]; exact asC, q4⟩,
    ⟨V', ⟨q5.1, State.isArrayOf_alike al'.symm q5.2.1, q5.2.2.1⟩, q6, by rw [← al'.findClass]; exact q7, q8, fun j hj => by have := q9 j hj; rwa [Nat.zero_add] at this⟩, fun O n d w F n1 n2 => ?_⟩, hl, hc, hs⟩, st⟩
  · intro y hy
    simp only [List.mem_cons, List.not_mem_nil, or_false] at hy
    rcases hy with rfl | rfl <;> rfl
  · by_cases q : y = x
    · subst q
      cases hD.symm.trans hy
      exact ⟨E', q1.1, q2.2.1, q2.1, hsz⟩
    · exact ⟨cy, q10 y cy q hy, rfl, rfl, rfl⟩
  · obtain ⟨D3, cf, k, i, f, g1, g2, g3, g4, g5, g6, g7⟩ := F
    cases hD.symm.trans g1
    simp only [RoadKit.slotOf, g2, gV, gC, Option.map_some, Option.getD_some] at n1 n2
    exact ⟨E', cf, k, i, f, q1.1, g2, g3, by rw [q2.1]; exact g4, by rw [q2.1]; exact g5, by rw [q2.2.1]; exact g6, by rw [q2.2.2 f.slot (by simp [n1, n2])]; exact g7⟩
end StrChars.Road
namespace StrChars.Road
open Jvm Sem ClassFile Op Lib Jvm.Stand Jvm.Free Jvm.Free.XT
/-- WHAT COMES BACK, the byte[] as a list of values -/
def QA (Z : State) (x : Addr) (zn : Int32) (cs : List Int32) (h : Heap) (v : Option Value) (h' : Heap) (L : List Loc) : Prop := v = none ∧ (∀ y ∈ L, y.base = x) ∧ RoadKit.Keep h h' [x] ∧ h'.size = h.size + 1 ∧ RoadKit.Exa Z h' x ST ∧ RoadKit.Fld Z h' x ST "value" "[B" (.ref h.size) ∧ RoadKit.Fld Z h' x ST "coder" "B" (.int 0) ∧
  (∃ kb, Z.vm.findClass "[B" = some kb ∧ RoadKit.Arv Z h' h.size kb .byte zn (cs.map fun c => .int (lo8 c)) (.int 0)) ∧
  ∀ (O n d : String) (w : Value), RoadKit.Fld Z h x O n d w → RoadKit.slotOf Z O n d ≠ RoadKit.slotOf Z ST "value" "[B" → RoadKit.slotOf Z O n d ≠ RoadKit.slotOf Z ST "coder" "B" → RoadKit.Fld Z h' x O n d w
/-- **new String(chars) AT A CALL, THE ARRAYS AS LISTS**: the char[] at b holds cs, not empty, no char above 255 -/
theorem backArv {p : Program} {l : Launch} {e : Env} {R : Room} {s : State} {args : Array Value} {below : List Frame} {len W : Nat} {Z : State} {a0 : Array Value} {h : Heap} (hZ : Z.Warmed39 s.vm) (hw : ∀ d ∈ words, d.before a0 Z = true) {kI : Nat} (wi : (Jvm.Cond.instantiable ST kI).before a0 Z = true)
    {x b : Addr} {k : ClassId} {zn z : Int32} {cs : List Int32} {dv v0 c0 : Value} (E : RoadKit.Exa Z h x ST) (V : RoadKit.Fld Z h x ST "value" "[B" v0) (C : RoadKit.Fld Z h x ST "coder" "B" c0) (K : RoadKit.Arv Z h b k .char zn (cs.map Value.int) dv) (S : RoadKit.Sta Z h ST "COMPACT_STRINGS" "Z" (.int z)) (hz : ¬ z = 0)
    (hlen : zn.toNatClampNeg = cs.length) (h0 : 0 < cs.length) (hbig : cs.length ≤ 536870912) (hall : ∀ c ∈ cs, ¬ 255 < c) (hfr : 4 ≤ R.frames) (hlo : W + 65 ≤ R.locals) :
    Back l R p e below s args New1.yN len W (fun P a => a = #[.ref x, .ref b] ∧ P.U.heap = h ∧ P.cells + 1 ≤ R.cells ∧ P.slots + cs.length ≤ R.slots)
      (fun P _ v B => ∃ L, QA Z x zn cs h v B.U.heap L ∧ B.locs = P.locs ++ L ∧ B.cells = P.cells + 1 ∧ B.slots = P.slots + cs.length) := by
  obtain ⟨A, K1, K2, K3, K4, K5, K6⟩ := K
  have e : A.slots.size = cs.length := K3.trans hlen
  have hat : ∀ (i : Nat) (hi : i < cs.length), A.slots[i]? = some (.int cs[i]) := fun i hi => by rw [K5 i (by omega)]; simp [List.getD_eq_getElem?_getD, hi]
  have hcv : ∀ (i : Nat) (hi : i < cs.length), cv A i = cs[i] := fun i hi => by unfold cv; rw [hat i hi]
  have hty : Typed .char A := fun i v hv => by
    have hi : i < A.slots.size := (Array.getElem?_eq_some_iff.mp hv).1
    have q := K5 i hi
    rw [hv] at q
    rw [Option.some.inj q]
    exact K6 i hi
  refine Back.mono (back hZ hw wi E V C K1 hty S hz (by omega) (by omega) (fun i hi => by rw [hcv i (by omega)]; exact hall _ (List.getElem_mem _)) hfr hlo) (fun P a hp => ⟨hp.1, hp.2.1, hp.2.2.1, by rw [e]; exact hp.2.2.2⟩) (fun P a v B hp hq => ?_)
  obtain ⟨L, ⟨q1, q2, q3, q4, q5, q6, q7, ⟨V', v1, v2, v3, v4, v5⟩, q9⟩, hl, hc, hs⟩ := hq
  refine ⟨L, ⟨q1, q2, q3, q4, q5, q6, q7, ⟨V'.cls, v3, V', v1, rfl, by rw [v4, e, hlen], K4, fun i hi => ?_, fun i hi => ?_⟩, q9⟩, hl, hc, by rw [hs, e]⟩
  · have hi' : i < cs.length := by omega
    rw [v5 i (by omega), hcv i hi']; simp [List.getD_eq_getElem?_getD, hi']
  · have hi' : i < cs.length := by omega
    simp only [List.getD_eq_getElem?_getD, List.getElem?_map, List.getElem?_eq_getElem hi', Option.map_some, Option.getD_some]
    exact fits_lo8 _
end StrChars.Road
namespace StrChars.Road
open Jvm Sem ClassFile Op Lib Jvm.Stand Jvm.Free Jvm.Free.XT
/-- WHAT COMES BACK, in the writer's own shape -/
def QV (Z : State) (x : Addr) (N : Int32) (bs : List Int32) (h : Heap) (n0 : Nat) (v : Option Value) (h' : Heap) (L : List Loc) : Prop := v = none ∧ RoadKit.Fr n0 L ∧ RoadKit.Keep h h' [x] ∧ RoadKit.Exa Z h' x ST ∧ RoadKit.Fld Z h' x ST "coder" "B" (.int 0) ∧
  ∃ (t : Addr) (kb : ClassId), n0 ≤ t ∧ h.size ≤ t ∧ ¬ t = x ∧ RoadKit.Fld Z h' x ST "value" "[B" (.ref t) ∧ RoadKit.Arv Z h' t kb .byte N (bs.map Value.int) (.int 0)
/-- **new String(chars) AT A CALL, FOR THE WRITER**: a char[] of n known ints, each 0 to 255 -/
theorem backV {p : Program} {l : Launch} {e : Env} {R : Room} {s : State} {args : Array Value} {below : List Frame} {len W : Nat} {Z : State} {a0 : Array Value} {h : Heap} (hZ : Z.Warmed39 s.vm) (hw : ∀ d ∈ words, d.before a0 Z = true) {kI : Nat} (wi : (Jvm.Cond.instantiable ST kI).before a0 Z = true)
    {x b : Addr} {kC : ClassId} {cs bs : List Int32} {d v0 c0 : Value} {z N : Int32} {n n0 : Nat} (hx0 : n0 ≤ x) (hh0 : n0 ≤ h.size) (E : RoadKit.Exa Z h x ST) (V : RoadKit.Fld Z h x ST "value" "[B" v0) (C : RoadKit.Fld Z h x ST "coder" "B" c0) (K : RoadKit.Arv Z h b kC .char N (cs.map Value.int) d) (S : RoadKit.Sta Z h ST "COMPACT_STRINGS" "Z" (.int z)) (hz : ¬ z = 0)
    (hn : cs.length = n) (hN : N = Int32.ofNat n) (l0 : 0 < n) (l2 : n ≤ 4000) (hp : ∀ c ∈ cs, ¬ c < 0 ∧ ¬ (255 : Int32) < c) (hb : bs = cs.map (fun c => c.toInt8.toInt32)) (hfr : 4 ≤ R.frames) (hlo : W + 65 ≤ R.locals) :
    Back l R p e below s args (⟨"java/lang/String", "<init>", "([C)V"⟩ : MethodName) len W (fun P a => a = #[.ref x, .ref b] ∧ P.U.heap = h ∧ P.cells + 1 ≤ R.cells ∧ P.slots + n ≤ R.slots)
      (fun P _ v B => ∃ L, QV Z x N bs h n0 v B.U.heap L ∧ B.locs = P.locs ++ L ∧ B.cells = P.cells + 1 ∧ B.slots = P.slots + n) := by
  subst hn hN hb
  refine Back.mono (backArv hZ hw wi E V C K S hz (n32 (by omega)) l0 (by omega) (fun c hc => (hp c hc).2) hfr hlo) (fun P a hp => hp) (fun P a v B hp hq => ?_)
  obtain ⟨L, ⟨q1, q2, q3, q4, q5, q6, q7, ⟨kb, v1, v2⟩, q9⟩, hl, hc, hs⟩ := hq
  exact ⟨L, ⟨q1, fun y hy => by rw [q2 y hy]; exact hx0, q3, q5, q7, h.size, kb, hh0, Nat.le_refl _, Nat.ne_of_gt E.lt, q6, by rw [List.map_map]; exact v2⟩, hl, hc, hs⟩
end StrChars.Road
namespace StrChars
open Jvm Sem ClassFile Op Lib Jvm.Stand Jvm.Free.XT Jvm.Free.ALB Jvm.Free.JM Jvm.Free
open Jvm.Lib.Cold (StaticIs)
def hi8 (x : Int32) : Int32 := lo8 (x >>> ((8 : Int32) &&& 31))
/-- what StringUTF16.getChar makes of two bytes -/
def pairCh (u v : Int32) : Int32 := (((u &&& 255) <<< ((0 : Int32) &&& 31)) ||| ((v &&& 255) <<< ((8 : Int32) &&& 31))).toUInt32.toUInt16.toUInt32.toInt32
theorem lo8_and (x : Int32) : (lo8 x &&& 255).toBitVec.toNat = x.toBitVec.toNat % 256 := by
  have h : (lo8 x).toBitVec = (x.toBitVec.signExtend 8).signExtend 32 := by rw [lo8, Int8.toBitVec_toInt32, Int32.toBitVec_toInt8]
  rw [Int32.toBitVec_and, BitVec.toNat_and, h]
  have e : ((x.toBitVec.signExtend 8).signExtend 32).toNat % 256 = x.toBitVec.toNat % 256 := by
    rw [BitVec.toNat_signExtend]
    have hlt := x.toBitVec.isLt
    simp only [BitVec.toNat_setWidth, BitVec.toNat_signExtend]
    split <;> split <;> omega
  rw [← e]
  exact Nat.and_two_pow_sub_one_eq_mod _ 8
theorem pair_says {c : Int32} (h0 : ¬ c < 0) (h1 : ¬ 65535 < c) : pairCh (lo8 c) (hi8 c) = c := by
  rw [Int32.lt_iff_toInt_lt] at h0 h1
  have e0 : (0 : Int32).toInt = 0 := rfl
  have e1 : (65535 : Int32).toInt = 65535 := rfl
  have hc : c.toInt = c.toBitVec.toNat := by
    have := c.toBitVec.isLt
    have e : c.toInt = c.toBitVec.toInt := rfl
    rw [e] at h0 h1
    rw [e]
    rw [BitVec.toInt_eq_toNat_cond] at h0 h1 ⊢
    split at h0 <;> split <;> omega
  have hn : c.toBitVec.toNat < 65536 := by omega
  have a1 := lo8_and c
  have a2 : (hi8 c &&& 255).toBitVec.toNat = c.toBitVec.toNat / 256 := by
    rw [hi8, lo8_and]
    have e : ((8 : Int32) &&& 31) = 8 := by decide
    rw [e, Int32.toBitVec_shiftRight]
    have e2 : ((8 : Int32).toBitVec.smod 32) = 8#32 := by decide
    rw [e2, BitVec.sshiftRight_eq', BitVec.toNat_sshiftRight_of_msb_false (by rw [BitVec.msb_eq_false_iff_two_mul_lt]; omega)]
    show c.toBitVec.toNat >>> 8 % 256 = _
    rw [Nat.shiftRight_eq_div_pow]
    omega
  unfold pairCh
  apply Int32.toBitVec_inj.mp
  apply BitVec.eq_of_toNat_eq
  have f0 : ((0 : Int32) &&& 31) = 0 := by decide
  have f8 : ((8 : Int32) &&& 31) = 8 := by decide
  rw [f0, f8]
  have g : (((lo8 c &&& 255) <<< (0 : Int32)) ||| ((hi8 c &&& 255) <<< (8 : Int32))).toBitVec.toNat = c.toBitVec.toNat := by
    rw [Int32.toBitVec_or, Int32.toBitVec_shiftLeft, Int32.toBitVec_shiftLeft]
    have s0 : ((0 : Int32).toBitVec.smod 32) = 0#32 := by decide
    have s8 : ((8 : Int32).toBitVec.smod 32) = 8#32 := by decide
    rw [s0, s8, BitVec.toNat_or]
    simp only [BitVec.shiftLeft_eq', BitVec.toNat_shiftLeft, a1, a2]
    show (c.toBitVec.toNat % 256) <<< 0 % 2 ^ 32 ||| (c.toBitVec.toNat / 256) <<< 8 % 2 ^ 32 = _
    rw [Nat.shiftLeft_zero, Nat.mod_eq_of_lt (show c.toBitVec.toNat % 256 < 2 ^ 32 by omega), Nat.mod_eq_of_lt (show (c.toBitVec.toNat / 256) <<< 8 < 2 ^ 32 by rw [Nat.shiftLeft_eq]; omega), Nat.or_comm, ← Nat.shiftLeft_add_eq_or_of_lt (by omega), Nat.shiftLeft_eq]
    omega
  show BitVec.toNat (((((lo8 c &&& 255) <<< (0 : Int32)) ||| ((hi8 c &&& 255) <<< (8 : Int32))).toBitVec.setWidth 16).setWidth 32) = _
  rw [BitVec.toNat_setWidth, BitVec.toNat_setWidth, g]
  omega
end StrChars
namespace StrChars
open Jvm Sem ClassFile Op Lib Jvm.Stand Jvm.Free.XT Jvm.Free.ALB Jvm.Free.JM Jvm.Free
open Jvm.Lib.Cold (StaticIs)
/-- the array's cell V codes the n chars f 0 .. f (n - 1) by the coder cd, as the JDK does: coder 1 just where some char is above 255 -/
def Cod (cd : Int32) (n : Nat) (f : Nat → Int32) (V : Cell) : Prop := (cd = 0 ∧ V.slots.size = n ∧ ∀ j, j < n → V.slots[j]? = some (.int (lo8 (f j))) ∧ ¬ 255 < f j) ∨ (cd = 1 ∧ V.slots.size = 2 * n ∧ (∀ j, j < n → V.slots[2 * j]? = some (.int (lo8 (f j))) ∧ V.slots[2 * j + 1]? = some (.int (hi8 (f j)))) ∧ ∃ j, j < n ∧ 255 < f j)
/-- **x is a String of the n chars f 0 .. f (n - 1)**, Latin-1 or UTF-16; its array at t has the cell V -/
def Txt (x t : Addr) (V : Cell) (cd : Int32) (n : Nat) (f : Nat → Int32) (U : State) : Prop := Exact "java/lang/String" x U ∧ Has x "java/lang/String" "value" "[B" (.ref t) U ∧ Has x "java/lang/String" "coder" "B" (.int cd) U ∧ XT.Arr .byte t V U ∧ Cod cd n f V ∧ ∀ j, j < n → ¬ f j < 0 ∧ ¬ 65535 < f j
theorem Txt.mv {x t : Addr} {V : Cell} {cd : Int32} {n : Nat} {f : Nat → Int32} {U U' : State} (h : Txt x t V cd n f U) (hal : U.vm.Alike U'.vm) (hh : U'.heap = U.heap) : Txt x t V cd n f U' := ⟨h.1.mv hal hh, h.2.1.mv hal hh, h.2.2.1.mv hal hh, h.2.2.2.1.mv hal hh, h.2.2.2.2⟩
end StrChars
namespace StrChars.Road
open Jvm Sem ClassFile Op Lib Jvm.Stand Jvm.Free Jvm.Free.XT
open Jvm.Lib.Cold (StaticIs)
theorem consq {a : Array Value} {s : State} {c : Jvm.Cond} {L : List Jvm.Cond} (h0 : c.before a s = true) (h : ∀ w ∈ L, w.before a s = true) : ∀ w ∈ c :: L, w.before a s = true := fun w hw => (List.mem_cons.mp hw).elim (fun e => e ▸ h0) (h w)
/-- the bytes of the chars cs, low before high -/
def wideBytes : List Int32 → List Value
  | [] => []
  | c :: cs => .int (lo8 c) :: .int (hi8 c) :: wideBytes cs
theorem wide_lo (d : Value) : ∀ (cs : List Int32) (j : Nat), j < cs.length → (wideBytes cs).getD (2 * j) d = .int (lo8 (cs.getD j 0))
  | [], j, h => absurd h (Nat.not_lt_zero j)
  | c :: cs, 0, _ => rfl
  | c :: cs, j + 1, h => by
    have q := wide_lo d cs j (by simpa using h)
    rw [show 2 * (j + 1) = 2 * j + 1 + 1 from by omega]
    simpa [wideBytes] using q
theorem wide_hi (d : Value) : ∀ (cs : List Int32) (j : Nat), j < cs.length → (wideBytes cs).getD (2 * j + 1) d = .int (hi8 (cs.getD j 0))
  | [], j, h => absurd h (Nat.not_lt_zero j)
  | c :: cs, 0, _ => rfl
  | c :: cs, j + 1, h => by
    have q := wide_hi d cs j (by simpa using h)
    rw [show 2 * (j + 1) + 1 = 2 * j + 1 + 1 + 1 from by omega]
    simpa [wideBytes] using q
theorem low_at (d : Value) (cs : List Int32) (j : Nat) (h : j < cs.length) : (cs.map fun c => Value.int (lo8 c)).getD j d = .int (lo8 (cs.getD j 0)) := by
  simp [List.getD_eq_getElem?_getD, h]
/-- an array of N2 bytes vs codes the chars cs by the coder cd -/
def CodA (cs : List Int32) (cd N2 : Int32) (vs : List Value) : Prop := (cd = 0 ∧ N2 = Int32.ofNat cs.length ∧ vs = (cs.map fun c => Value.int (lo8 c)) ∧ ∀ c ∈ cs, ¬ 255 < c) ∨ (cd = 1 ∧ N2 = Int32.ofNat (2 * cs.length) ∧ vs = wideBytes cs ∧ ∃ c ∈ cs, 255 < c)
theorem CodA.cod {cs : List Int32} {cd N2 : Int32} {vs : List Value} {V : Cell} (h : CodA cs cd N2 vs) (hn : 2 * cs.length < 2 ^ 31) (hs : V.slots.size = N2.toNatClampNeg) (hv : RoadKit.Has V vs (.int 0)) : Cod cd cs.length (fun j => cs.getD j 0) V := by
  rcases h with ⟨rfl, rfl, rfl, h⟩ | ⟨rfl, rfl, rfl, c, hc, hw⟩
  · rw [n32 (by omega)] at hs
    exact Or.inl ⟨rfl, hs, fun j hj => ⟨by rw [hv j (by omega), low_at _ _ _ hj], by
      have e : cs.getD j 0 = cs[j] := by simp [List.getD_eq_getElem?_getD, hj]
      show ¬ 255 < cs.getD j 0
      rw [e]; exact h _ (List.getElem_mem _)⟩⟩
  · rw [n32 (by omega)] at hs
    obtain ⟨j, hj, rfl⟩ := List.getElem_of_mem hc
    exact Or.inr ⟨rfl, hs, fun j hj => ⟨by rw [hv _ (by omega), wide_lo _ _ _ hj], by rw [hv _ (by omega), wide_hi _ _ _ hj]⟩, j, hj, by
      have e : cs.getD j 0 = cs[j] := by simp [List.getD_eq_getElem?_getD, hj]
      show 255 < cs.getD j 0
      rw [e]; exact hw⟩
/-- an object of exactly java/lang/String, its two fields found: as the laws ask it -/
theorem strObj {Z U : State} {a0 : Array Value} {kI : Nat} (wi : (Jvm.Cond.instantiable ST kI).before a0 Z = true) (al : Z.vm.Alike U.vm) {x : Addr} {v0 c0 : Value} (E : RoadKit.Exa Z U.heap x ST) (V : RoadKit.Fld Z U.heap x ST "value" "[B" v0) (C : RoadKit.Fld Z U.heap x ST "coder" "B" c0) :
    ∃ (D : Cell) (fV fC : Field), Blank ST x D U ∧ Found ST "value" "[B" fV U ∧ Found ST "coder" "B" fC U ∧ D.slots[fV.slot]? = some v0 ∧ D.slots[fC.slot]? = some c0 ∧ RoadKit.slotOf Z ST "value" "[B" = fV.slot ∧ RoadKit.slotOf Z ST "coder" "B" = fC.slot := by
  obtain ⟨D, cfV, kV, iV, fV, hD, gV, stV, knV, obV, asV, slV⟩ := V
  obtain ⟨D', cfC, kC, iC, fC, hD', gC, stC, -, -, asC, slC⟩ := C
  cases hD.symm.trans hD'
  obtain ⟨D2, kD, e1, e2, e3, e4, e5⟩ := E
  cases hD.symm.trans e1
  obtain ⟨c2, k2, i1, i2, i3, -⟩ := Cond.instantiable_spec wi
  cases e2.symm.trans i1
  cases e3.symm.trans i2
  obtain ⟨kU, u1, u2⟩ := al.2.2 _ _ e3
  exact ⟨D, fV, fC, ⟨hD, ⟨knV, fun q hq => by rw [hq] at obV; cases obV⟩, by rw [al.findClass]; exact e2, kU, u1, by rw [u2]; exact i3, by rw [u2]; exact e5 i3⟩, ⟨SBG.found_only al ⟨cfV, kV, iV, gV⟩, stV⟩, ⟨SBG.found_only al ⟨cfC, kC, iC, gC⟩, stC⟩, slV, slC, by simp [RoadKit.slotOf, gV], by simp [RoadKit.slotOf, gC]⟩
theorem sta_is {Z U : State} (al : Z.vm.Alike U.vm) {C n d : String} {v : Value} (S : RoadKit.Sta Z U.heap C n d v) : StaticIs U C n d v := by
  obtain ⟨cfS, iS, kS, fS, st, cS, t1, t2, t3, t4, t5, t6, t7⟩ := S
  exact StaticIs.there (s := { Z with heap := U.heap }) ⟨cfS, iS, kS, fS, st, cS, t1, t2, t3, t4, t5, (fun q => by rw [q] at t6; cases t6), t7⟩ al rfl
end StrChars.Road
namespace StrChars
open Jvm Sem ClassFile Op Lib Jvm.Stand Jvm.Free.XT Jvm.Free.ALB Jvm.Free.JM Jvm.Free
open Jvm.Lib.Cold (StaticIs)
/-- what place i of a byte[]'s cell holds -/
def yv (A : Cell) (i : Nat) : Int32 := match A.slots[i]? with | some (.int x) => x | _ => 0
theorem yv_get {a : Addr} {A : Cell} {U : State} (h : XT.Arr .byte a A U) (ht : Typed .byte A) {i : Nat} (hi : i < A.slots.size) : A.slots[i]? = some (.int (yv A i)) := by
  have e := Array.getElem?_eq_getElem hi
  have f := ht i _ e
  unfold yv; rw [e]
  generalize A.slots[i] = v at f
  cases v <;> simp [fits] at f ⊢
/-- the two arrays are equal, place for place -/
def EqC (A B : Cell) : Prop := A.slots.size = B.slots.size ∧ ∀ i, i < A.slots.size → yv A i = yv B i
/-- a boolean that says whether p -/
def Says01 (q : Prop) (r : Option Value) (s u : State) : Prop := ∃ v : Int32, r = some (.int v) ∧ u.heap = s.heap ∧ ((v = 1 ∧ q) ∨ (v = 0 ∧ ¬ q))
theorem Says01.mv {q : Prop} : ∀ r (U U' V V' : State), U'.heap = U.heap → V.vm.Alike V'.vm → V'.heap = V.heap → Says01 q r U V → Says01 q r U' V' :=
  fun r U U' V V' h1 _ h2 ⟨v, a, b, c⟩ => ⟨v, a, by rw [h1, h2]; exact b, c⟩
namespace LEq
def yN : MethodName := ⟨"java/lang/StringLatin1", "equals", "([B[B)Z"⟩
abbrev yB : ByteArray := jdk_43_method_13_code
theorem d0 : decode yB 0 = .ok (.aload_n 0, 1) := by decide +kernel
theorem d1 : decode yB 1 = .ok (.arraylength, 1) := by decide +kernel
theorem d2 : decode yB 2 = .ok (.aload_n 1, 1) := by decide +kernel
theorem d3 : decode yB 3 = .ok (.arraylength, 1) := by decide +kernel
theorem d4 : decode yB 4 = .ok (.if_icmp (.ne) 30, 3) := by decide +kernel
theorem d7 : decode yB 7 = .ok (.iconst 0, 1) := by decide +kernel
theorem d8 : decode yB 8 = .ok (.istore_n 2, 1) := by decide +kernel
theorem d9 : decode yB 9 = .ok (.iload_n 2, 1) := by decide +kernel
theorem d10 : decode yB 10 = .ok (.aload_n 0, 1) := by decide +kernel
theorem d11 : decode yB 11 = .ok (.arraylength, 1) := by decide +kernel
theorem d12 : decode yB 12 = .ok (.if_icmp (.ge) 20, 3) := by decide +kernel
theorem d15 : decode yB 15 = .ok (.aload_n 0, 1) := by decide +kernel
theorem d16 : decode yB 16 = .ok (.iload_n 2, 1) := by decide +kernel
theorem d17 : decode yB 17 = .ok (.baload, 1) := by decide +kernel
theorem d18 : decode yB 18 = .ok (.aload_n 1, 1) := by decide +kernel
theorem d19 : decode yB 19 = .ok (.iload_n 2, 1) := by decide +kernel
theorem d20 : decode yB 20 = .ok (.baload, 1) := by decide +kernel
theorem d21 : decode yB 21 = .ok (.if_icmp (.eq) 5, 3) := by decide +kernel
theorem d24 : decode yB 24 = .ok (.iconst 0, 1) := by decide +kernel
theorem d25 : decode yB 25 = .ok (.ireturn, 1) := by decide +kernel
theorem d26 : decode yB 26 = .ok (.iinc 2 1, 3) := by decide +kernel
theorem d29 : decode yB 29 = .ok (.goto (-20), 3) := by decide +kernel
theorem d32 : decode yB 32 = .ok (.iconst 1, 1) := by decide +kernel
theorem d33 : decode yB 33 = .ok (.ireturn, 1) := by decide +kernel
theorem d34 : decode yB 34 = .ok (.iconst 0, 1) := by decide +kernel
theorem d35 : decode yB 35 = .ok (.ireturn, 1) := by decide +kernel
def site : List Cond := []
def tab : Cond := tabOf yN yB 3 (some .boolean) site
def P (a : Addr) (A : Cell) (b : Addr) (B : Cell) (args : Array Value) (s : State) : Prop := args = #[.ref a, .ref b] ∧ XT.Arr .byte a A s ∧ Typed .byte A ∧ XT.Arr .byte b B s ∧ Typed .byte B
/-- whether two byte[] are equal, place for place -/
theorem law (l : Launch) (a : Addr) (A : Cell) (b : Addr) (B : Cell) : Law l yN 2 2 0 0 yB 3 (some .boolean) site (P a A b B) (Says01 (EqC A B)) [] 0 0 := by
  refine Law.of_walk (plainFor_of_name (by decide +kernel)) (by decide +kernel) (by decide +kernel) (by decide) (fun _ _ h => by rw [h.1]; rfl) (fun _ U U' hal hh h => ⟨h.1, h.2.1.mv hal hh, h.2.2.1, h.2.2.2.1.mv hal hh, h.2.2.2.2⟩) (fun r U U' V V' h1 hal h2 h => Says01.mv r U U' V V' h1 hal h2 h) ?_
  intro p e s m args below meth c s₁ X0 hexec hbytes hml hret hlk hnm hown hh0 W hP
  obtain ⟨rfl, hA, tA, hB, tB⟩ := hP
  have a31 := hA.2.2.2
  have b31 := hB.2.2.2
  have hA0 := hA.mv X0.warmed.alike hh0
  have hB0 := hB.mv X0.warmed.alike hh0
  have c1 : Steps p.tables e below (s₁.setTop (entryFrame m #[.ref a, .ref b] 3)) (s₁.setTop (mkF m 0 #[.val (.ref a), .val (.ref b), .unset] [])) := entry rfl
  have c2 : Steps p.tables e below (s₁.setTop (entryFrame m #[.ref a, .ref b] 3)) (s₁.setTop (mkF m 4 #[.val (.ref a), .val (.ref b), .unset] [.int (Int32.ofNat B.slots.size), .int (Int32.ofNat A.slots.size)])) := c1.trans (by
    refine XS.aloadN X0.here hexec rfl (hb hbytes d0) rfl rfl ?_
    refine X0.alen hexec hA0 rfl rfl (hb hbytes d1) ?_
    refine XS.aloadN X0.here hexec rfl (hb hbytes d2) rfl rfl ?_
    refine X0.alen hexec hB0 rfl rfl (hb hbytes d3) ?_
    exact Steps.refl _)
  by_cases hs : A.slots.size = B.slots.size
  · have c3 : Steps p.tables e below (s₁.setTop (entryFrame m #[.ref a, .ref b] 3)) (s₁.setTop (mkF m 9 #[.val (.ref a), .val (.ref b), .val (.int 0)] [])) := c2.trans (by
      refine XS.icmpNo X0.here hexec rfl (hb hbytes d4) rfl (ii_ne_f (by rw [hs])) ?_
      refine iconstV X0.here hexec rfl 0 (hb hbytes d7) (by decide) ?_
      refine XS.istoreN X0.here hexec rfl (hb hbytes d8) rfl rfl ?_
      exact Steps.refl _)
    have loop : ∀ (r i : Nat), i + r = A.slots.size → (∀ j, j < i → yv A j = yv B j) → Steps p.tables e below (s₁.setTop (entryFrame m #[.ref a, .ref b] 3)) (s₁.setTop (mkF m 9 #[.val (.ref a), .val (.ref b), .val (.int (Int32.ofNat i))] [])) → ∃ (pc : Nat) (Ls : Array Slot) (v : Int32), (pc = 25 ∨ pc = 33) ∧ ((v = 1 ∧ EqC A B) ∨ (v = 0 ∧ ¬ EqC A B)) ∧ Steps p.tables e below (s₁.setTop (entryFrame m #[.ref a, .ref b] 3)) (s₁.setTop (mkF m pc Ls [.int v])) := by
      intro r
      induction r with
      | zero =>
        intro i hi he cl
        exact ⟨33, _, 1, Or.inr rfl, Or.inl ⟨rfl, hs, fun j hj => he j (by omega)⟩, cl.trans (by
          refine XS.iloadN X0.here hexec rfl (hb hbytes d9) rfl ?_
          refine XS.aloadN X0.here hexec rfl (hb hbytes d10) rfl rfl ?_
          refine X0.alen hexec hA0 rfl rfl (hb hbytes d11) ?_
          refine XS.icmpYes X0.here hexec rfl (pc0 := 12) rfl (hb hbytes d12) rfl (ii_ge_t (nlt32 (by omega) (by omega))) (by decide) rfl ?_
          refine iconstV X0.here hexec rfl 1 (hb hbytes d32) (by decide) ?_
          exact Steps.refl _)⟩
      | succ r ih =>
        intro i hi he cl
        have c4 : Steps p.tables e below (s₁.setTop (entryFrame m #[.ref a, .ref b] 3)) (s₁.setTop (mkF m 21 #[.val (.ref a), .val (.ref b), .val (.int (Int32.ofNat i))] [.int (yv B i), .int (yv A i)])) := cl.trans (by
          refine XS.iloadN X0.here hexec rfl (hb hbytes d9) rfl ?_
          refine XS.aloadN X0.here hexec rfl (hb hbytes d10) rfl rfl ?_
          refine X0.alen hexec hA0 rfl rfl (hb hbytes d11) ?_
          refine XS.icmpNo X0.here hexec rfl (hb hbytes d12) rfl (ii_ge_f (lt32 (by omega) (by omega))) ?_
          refine XS.aloadN X0.here hexec rfl (hb hbytes d15) rfl rfl ?_
          refine XS.iloadN X0.here hexec rfl (hb hbytes d16) rfl ?_
          refine X0.aget hexec hA0 rfl (yv_get hA tA (i := i) (by omega)) rfl rfl (hb hbytes d17) ?_
          refine XS.aloadN X0.here hexec rfl (hb hbytes d18) rfl rfl ?_
          refine XS.iloadN X0.here hexec rfl (hb hbytes d19) rfl ?_
          refine X0.aget hexec hB0 rfl (yv_get hB tB (i := i) (by omega)) rfl rfl (hb hbytes d20) ?_
          exact Steps.refl _)
        by_cases hv : yv A i = yv B i
        · have c5 : Steps p.tables e below (s₁.setTop (entryFrame m #[.ref a, .ref b] 3)) (s₁.setTop (mkF m 9 #[.val (.ref a), .val (.ref b), .val (.int (Int32.ofNat i + 1))] [])) := c4.trans (by
            refine XS.icmpYes X0.here hexec rfl (pc0 := 21) rfl (hb hbytes d21) rfl (ii_eq_t hv) (by decide) rfl ?_
            refine iincV X0.here hexec rfl 1 (hb hbytes d26) (by decide) rfl rfl ?_
            refine XS.goto X0.here hexec rfl (pc0 := 29) rfl (hb hbytes d29) (by decide) rfl ?_
            exact Steps.refl _)
          rw [succ32] at c5
          exact ih (i + 1) (by omega) (fun j hj => by
            by_cases e : j = i
            · rw [e]; exact hv
            · exact he j (by omega)) c5
        · exact ⟨25, _, 0, Or.inl rfl, Or.inr ⟨rfl, fun q => hv (q.2 i (by omega))⟩, c4.trans (by
            refine XS.icmpNo X0.here hexec rfl (hb hbytes d21) rfl (ii_eq_f hv) ?_
            refine iconstV X0.here hexec rfl 0 (hb hbytes d24) (by decide) ?_
            exact Steps.refl _)⟩
    obtain ⟨pc, Ls, v, hpc, hv, cz⟩ := loop A.slots.size 0 (by omega) (fun j hj => absurd hj (Nat.not_lt_zero j)) c3
    have nv : narrow .boolean (.int v) = .int v := by rcases hv with ⟨rfl, -⟩ | ⟨rfl, -⟩ <;> rfl
    rcases hpc with rfl | rfl
    · exact ⟨s₁, some (.int v), _, _, _, X0, rfl, rfl, rfl, (fun h => by cases h), ⟨v, rfl, hh0, hv⟩, fun fs hl => cz.trans (X0.ireturnOut hexec hret nv (Or.inr (Or.inl rfl)) (hb hbytes d25) hl)⟩
    · exact ⟨s₁, some (.int v), _, _, _, X0, rfl, rfl, rfl, (fun h => by cases h), ⟨v, rfl, hh0, hv⟩, fun fs hl => cz.trans (X0.ireturnOut hexec hret nv (Or.inr (Or.inl rfl)) (hb hbytes d33) hl)⟩
  · have c3 : Steps p.tables e below (s₁.setTop (entryFrame m #[.ref a, .ref b] 3)) (s₁.setTop (mkF m 35 #[.val (.ref a), .val (.ref b), .unset] [.int 0])) := c2.trans (by
      refine XS.icmpYes X0.here hexec rfl (pc0 := 4) rfl (hb hbytes d4) rfl (ii_ne_t (ne32 a31 b31 hs)) (by decide) rfl ?_
      refine iconstV X0.here hexec rfl 0 (hb hbytes d34) (by decide) ?_
      exact Steps.refl _)
    exact ⟨s₁, some (.int 0), _, _, _, X0, rfl, rfl, rfl, (fun h => by cases h), ⟨0, rfl, hh0, Or.inr ⟨rfl, fun q => hs q.1⟩⟩, fun fs hl => c3.trans (X0.ireturnOut hexec hret rfl (Or.inr (Or.inl rfl)) (hb hbytes d35) hl)⟩
end LEq
theorem Cod.ty {cd : Int32} {n : Nat} {f : Nat → Int32} {V : Cell} (h : Cod cd n f V) : Typed .byte V := fun i v hv => by
  have hi : i < V.slots.size := (Array.getElem?_eq_some_iff.mp hv).1
  rcases h with ⟨-, k1, k2⟩ | ⟨-, k1, k2, -⟩
  · rw [(k2 i (by omega)).1] at hv; cases hv; exact fits_lo8 _
  · rcases Nat.mod_two_eq_zero_or_one i with e | e
    · obtain ⟨j, rfl⟩ : ∃ j, i = 2 * j := ⟨i / 2, by omega⟩
      rw [(k2 j (by omega)).1] at hv; cases hv; exact fits_lo8 _
    · obtain ⟨j, rfl⟩ : ∃ j, i = 2 * j + 1 := ⟨i / 2, by omega⟩
      rw [(k2 j (by omega)).2] at hv; cases hv; exact fits_lo8 _
/-- the same text -/
def SameT (n : Nat) (f : Nat → Int32) (k : Nat) (g : Nat → Int32) : Prop := n = k ∧ ∀ j, j < n → f j = g j
theorem lo8_inj {x y : Int32} (h0 : ¬ x < 0) (h1 : ¬ 255 < x) (k0 : ¬ y < 0) (k1 : ¬ 255 < y) (h : lo8 x = lo8 y) : x = y := by
  rw [← lo8_mask h0 h1, ← lo8_mask k0 k1, h]
/-- arrays coded by one coder are equal just where the texts are -/
theorem Cod.eqv {cd : Int32} {n k : Nat} {f g : Nat → Int32} {V V' : Cell} (h : Cod cd n f V) (h' : Cod cd k g V') (hf : ∀ j, j < n → ¬ f j < 0 ∧ ¬ 65535 < f j) (hg : ∀ j, j < k → ¬ g j < 0 ∧ ¬ 65535 < g j) : EqC V V' ↔ SameT n f k g := by
  have yvv : ∀ {W : Cell} {i : Nat} {x : Int32}, W.slots[i]? = some (.int x) → yv W i = x := fun q => by unfold yv; rw [q]
  rcases h with ⟨rfl, k1, k2⟩ | ⟨rfl, k1, k2, -⟩
  · rcases h' with ⟨-, m1, m2⟩ | ⟨e, -⟩
    · constructor
      · rintro ⟨e1, e2⟩
        refine ⟨by omega, fun j hj => ?_⟩
        have q := e2 j (by omega)
        rw [yvv (k2 j hj).1, yvv (m2 j (by omega)).1] at q
        exact lo8_inj (hf j hj).1 (k2 j hj).2 (hg j (by omega)).1 (m2 j (by omega)).2 q
      · rintro ⟨rfl, e2⟩
        refine ⟨by omega, fun j hj => ?_⟩
        rw [yvv (k2 j (by omega)).1, yvv (m2 j (by omega)).1, e2 j (by omega)]
    · exact absurd e (by decide)
  · rcases h' with ⟨e, -⟩ | ⟨-, m1, m2, -⟩
    · exact absurd e (by decide)
    · constructor
      · rintro ⟨e1, e2⟩
        refine ⟨by omega, fun j hj => ?_⟩
        have q1 := e2 (2 * j) (by omega)
        have q2 := e2 (2 * j + 1) (by omega)
        rw [yvv (k2 j hj).1, yvv (m2 j (by omega)).1] at q1
        rw [yvv (k2 j hj).2, yvv (m2 j (by omega)).2] at q2
        rw [← pair_says (hf j hj).1 (hf j hj).2, ← pair_says (hg j (by omega)).1 (hg j (by omega)).2, q1, q2]
      · rintro ⟨rfl, e2⟩
        refine ⟨by omega, fun i hi => ?_⟩
        rcases Nat.mod_two_eq_zero_or_one i with e | e
        · obtain ⟨j, rfl⟩ : ∃ j, i = 2 * j := ⟨i / 2, by omega⟩
          rw [yvv (k2 j (by omega)).1, yvv (m2 j (by omega)).1, e2 j (by omega)]
        · obtain ⟨j, rfl⟩ : ∃ j, i = 2 * j + 1 := ⟨i / 2, by omega⟩
          rw [yvv (k2 j (by omega)).2, yvv (m2 j (by omega)).2, e2 j (by omega)]
/-- two codings differ: so do the texts -/
theorem Cod.dif {cd cd' : Int32} {n k : Nat} {f g : Nat → Int32} {V V' : Cell} (h : Cod cd n f V) (h' : Cod cd' k g V') (hne : ¬ cd = cd') : ¬ SameT n f k g := by
  rintro ⟨rfl, e⟩
  rcases h with ⟨rfl, -, k2⟩ | ⟨rfl, -, -, j, hj, hw⟩
  · rcases h' with ⟨rfl, -⟩ | ⟨-, -, -, j, hj, hw⟩
    · exact hne rfl
    · exact (k2 j hj).2 (by rw [e j hj]; exact hw)
  · rcases h' with ⟨-, -, m2⟩ | ⟨rfl, -⟩
    · exact (m2 j hj).2 (by rw [← e j hj]; exact hw)
    · exact hne rfl
/-- an object of exactly C is an instance of C -/
theorem cinst {p : Program} {l : Launch} {e : Env} {R : Room} {s : State} {m : MethodId} {args : Array Value} {below : List Frame} {meth : Method} {c : Code} {T : State} {locs : List Loc} {cells slots : Nat} (X : Stand p l e R s m args below meth c T locs cells slots) (hexec : p.tables.exec = Jvm.exec) {own C : String} {index : Nat} (hown : s.vm.findClass own = some m.cls) (hlink : (Cond.classLink own index C).before args s = true) {a : Addr} (hE : Exact C a T)
    {g : JFrame} (hg : g.method = m) {rest : List Value} (hstack : g.stack = .ref a :: rest) (hdg : decode c.code g.pc = .ok (.instanceof index, 3)) :
    ∃ T', Stand p l e R s m args below meth c T' locs cells slots ∧ T'.heap = T.heap ∧ ∀ target, Steps p.tables e below (T'.setTop { g with pc := g.pc + 3, stack := .int 1 :: rest }) target → Steps p.tables e below (T.setTop g) target := by
  obtain ⟨cB, h1, D, h2, h3, h4⟩ := hE
  have h1' : s.vm.findClass C = some cB := by rw [← X.warmed.alike.findClass]; exact h1
  obtain ⟨vm', X', st⟩ := X.instanceofYes hexec hown hlink h2 h4 h1' (by rw [h3]; exact Jvm.Free.SB.assignable_self _ _) hg hstack hdg
  exact ⟨_, X', rfl, st⟩
theorem cself {p : Program} {l : Launch} {e : Env} {R : Room} {s : State} {m : MethodId} {args : Array Value} {below : List Frame} {meth : Method} {c : Code} {T : State} {locs : List Loc} {cells slots : Nat} (X : Stand p l e R s m args below meth c T locs cells slots) (hexec : p.tables.exec = Jvm.exec) {own C : String} {index : Nat} (hown : s.vm.findClass own = some m.cls) (hlink : (Cond.classLink own index C).before args s = true) {a : Addr} (hE : Exact C a T)
    {g : JFrame} (hg : g.method = m) {rest : List Value} (hstack : g.stack = .ref a :: rest) (hdg : decode c.code g.pc = .ok (.checkcast index, 3)) :
    ∃ T', Stand p l e R s m args below meth c T' locs cells slots ∧ T'.heap = T.heap ∧ ∀ target, Steps p.tables e below (T'.setTop { g with pc := g.pc + 3, stack := .ref a :: rest }) target → Steps p.tables e below (T.setTop g) target := by
  obtain ⟨cB, h1, D, h2, h3, h4⟩ := hE
  have h1' : s.vm.findClass C = some cB := by rw [← X.warmed.alike.findClass]; exact h1
  obtain ⟨vm', X', st⟩ := X.checkcastYes hexec hown hlink h2 h4 h1' (by rw [h3]; exact Jvm.Free.SB.assignable_self _ _) hg hstack hdg
  exact ⟨_, X', rfl, fun t h => st t (by rw [← hstack] at h; exact h)⟩
namespace SEq
def yN : MethodName := ⟨"java/lang/String", "equals", "(Ljava/lang/Object;)Z"⟩
abbrev yB : ByteArray := jdk_42_method_66_code
theorem d0 : decode yB 0 = .ok (.aload_n 0, 1) := by decide +kernel
theorem d1 : decode yB 1 = .ok (.aload_n 1, 1) := by decide +kernel
theorem d2 : decode yB 2 = .ok (.if_acmp (.ne) 5, 3) := by decide +kernel
theorem d5 : decode yB 5 = .ok (.iconst 1, 1) := by decide +kernel
theorem d6 : decode yB 6 = .ok (.ireturn, 1) := by decide +kernel
theorem d7 : decode yB 7 = .ok (.aload_n 1, 1) := by decide +kernel
theorem d8 : decode yB 8 = .ok (.instanceof 10, 3) := by decide +kernel
theorem d11 : decode yB 11 = .ok (.ifCond (.eq) 43, 3) := by decide +kernel
theorem d14 : decode yB 14 = .ok (.aload_n 1, 1) := by decide +kernel
theorem d15 : decode yB 15 = .ok (.checkcast 10, 3) := by decide +kernel
theorem d18 : decode yB 18 = .ok (.astore_n 2, 1) := by decide +kernel
theorem d19 : decode yB 19 = .ok (.getstatic 38, 3) := by decide +kernel
theorem d22 : decode yB 22 = .ok (.ifCond (.eq) 14, 3) := by decide +kernel
theorem d25 : decode yB 25 = .ok (.aload_n 0, 1) := by decide +kernel
theorem d26 : decode yB 26 = .ok (.getfield 15, 3) := by decide +kernel
theorem d29 : decode yB 29 = .ok (.aload_n 2, 1) := by decide +kernel
theorem d30 : decode yB 30 = .ok (.getfield 15, 3) := by decide +kernel
theorem d33 : decode yB 33 = .ok (.if_icmp (.ne) 21, 3) := by decide +kernel
theorem d36 : decode yB 36 = .ok (.aload_n 0, 1) := by decide +kernel
theorem d37 : decode yB 37 = .ok (.getfield 9, 3) := by decide +kernel
theorem d40 : decode yB 40 = .ok (.aload_n 2, 1) := by decide +kernel
theorem d41 : decode yB 41 = .ok (.getfield 9, 3) := by decide +kernel
theorem d44 : decode yB 44 = .ok (.invokestatic 541, 3) := by decide +kernel
theorem d47 : decode yB 47 = .ok (.ifCond (.eq) 7, 3) := by decide +kernel
theorem d50 : decode yB 50 = .ok (.iconst 1, 1) := by decide +kernel
theorem d51 : decode yB 51 = .ok (.goto 4, 3) := by decide +kernel
theorem d54 : decode yB 54 = .ok (.iconst 0, 1) := by decide +kernel
theorem d55 : decode yB 55 = .ok (.ireturn, 1) := by decide +kernel
def site : List Cond := [.classLink "java/lang/String" 10 "java/lang/String", .fieldLink "java/lang/String" 38 "java/lang/String" "COMPACT_STRINGS" "Z", .fieldLink "java/lang/String" 15 "java/lang/String" "coder" "B", .fieldLink "java/lang/String" 9 "java/lang/String" "value" "[B", LEq.tab] ++ staticW "java/lang/String" 541 LEq.yN
def tab : Cond := tabOf yN yB 3 (some .boolean) site
def P (x t : Addr) (V : Cell) (cd : Int32) (n : Nat) (f : Nat → Int32) (y t' : Addr) (V' : Cell) (cd' : Int32) (k : Nat) (g : Nat → Int32) (z : Int32) (args : Array Value) (s : State) : Prop := args = #[.ref x, .ref y] ∧ Txt x t V cd n f s ∧ Txt y t' V' cd' k g s ∧ StaticIs s "java/lang/String" "COMPACT_STRINGS" "Z" (.int z) ∧ ¬ z = 0
/-- equals(Object) of two Strings: whether the texts are the same -/
theorem law (l : Launch) (x t : Addr) (V : Cell) (cd : Int32) (n : Nat) (f : Nat → Int32) (y t' : Addr) (V' : Cell) (cd' : Int32) (k : Nat) (g : Nat → Int32) (z : Int32) : Law l yN 2 1 1 14 yB 3 (some .boolean) site (P x t V cd n f y t' V' cd' k g z) (Says01 (SameT n f k g)) [] 0 0 := by
  refine Law.of_walk (plainFor_of_name (by decide +kernel)) (by decide +kernel) (by decide +kernel) (by decide) (fun _ _ h => by rw [h.1]; rfl) (fun _ U U' hal hh h => ⟨h.1, h.2.1.mv hal hh, h.2.2.1.mv hal hh, h.2.2.2.1.there hal hh, h.2.2.2.2⟩) (fun r U U' V V' h1 hal h2 h => Says01.mv r U U' V V' h1 hal h2 h) ?_
  intro p e s m args below meth c s₁ X0 hexec hbytes hml hret hlk hnm hown hh0 W hP
  obtain ⟨rfl, hx, hy, s1, hz⟩ := hP
  have c1 : Steps p.tables e below (s₁.setTop (entryFrame m #[.ref x, .ref y] 3)) (s₁.setTop (mkF m 2 #[.val (.ref x), .val (.ref y), .unset] [.ref y, .ref x])) := Steps.trans (entry rfl) (by
    show Steps p.tables e below (s₁.setTop (mkF m 0 #[.val (.ref x), .val (.ref y), .unset] [])) _
    refine XS.aloadN X0.here hexec rfl (hb hbytes d0) rfl rfl ?_
    refine XS.aloadN X0.here hexec rfl (hb hbytes d1) rfl rfl ?_
    exact Steps.refl _)
  by_cases hxy : x = y
  · have c2 : Steps p.tables e below (s₁.setTop (entryFrame m #[.ref x, .ref y] 3)) (s₁.setTop (mkF m 6 #[.val (.ref x), .val (.ref y), .unset] [.int 1])) := c1.trans (by
      refine acmpNo X0.here hexec rfl (hb hbytes d2) rfl rfl rfl (by simp [acmp, hxy]) ?_
      refine iconstV X0.here hexec rfl 1 (hb hbytes d5) (by decide) ?_
      exact Steps.refl _)
    subst hxy
    have ec : cd = cd' := by
      obtain ⟨D, fd, a1, a2, a3⟩ := hx.2.2.1
      obtain ⟨D', fd', b1, b2, b3⟩ := hy.2.2.1
      cases a1.symm.trans b1
      obtain ⟨q1, q2, q3, q4⟩ := a2.1
      obtain ⟨r1, r2, r3, r4⟩ := b2.1
      cases q4.symm.trans r4
      cases a3.symm.trans b3; rfl
    have et : t = t' := by
      obtain ⟨D, fd, a1, a2, a3⟩ := hx.2.1
      obtain ⟨D', fd', b1, b2, b3⟩ := hy.2.1
      cases a1.symm.trans b1
      obtain ⟨q1, q2, q3, q4⟩ := a2.1
      obtain ⟨r1, r2, r3, r4⟩ := b2.1
      cases q4.symm.trans r4
      cases a3.symm.trans b3; rfl
    subst ec et
    have ev : V = V' := by cases hx.2.2.2.1.1.symm.trans hy.2.2.2.1.1; rfl
    subst ev
    have hs : SameT n f k g := (Cod.eqv hx.2.2.2.2.1 hy.2.2.2.2.1 hx.2.2.2.2.2 hy.2.2.2.2.2).mp ⟨rfl, fun _ _ => rfl⟩
    exact ⟨s₁, some (.int 1), _, _, _, X0, rfl, rfl, rfl, (fun h => by cases h), ⟨1, rfl, hh0, Or.inl ⟨rfl, hs⟩⟩, fun fs hl => c2.trans (X0.ireturnOut hexec hret rfl (Or.inr (Or.inl rfl)) (hb hbytes d6) hl)⟩
  · have c2 : Steps p.tables e below (s₁.setTop (entryFrame m #[.ref x, .ref y] 3)) (s₁.setTop (mkF m 8 #[.val (.ref x), .val (.ref y), .unset] [.ref y])) := c1.trans (by
      refine acmpYes X0.here hexec rfl (pc0 := 2) rfl (hb hbytes d2) rfl rfl rfl (by simp [acmp, hxy]) (by decide) rfl ?_
      refine XS.aloadN X0.here hexec rfl (hb hbytes d7) rfl rfl ?_
      exact Steps.refl _)
    obtain ⟨T3, X3, q3, st3⟩ := cinst X0 hexec hown (wk W (.classLink "java/lang/String" 10 "java/lang/String")) (hy.mv X0.warmed.alike hh0).1 (g := (mkF m 8 #[.val (.ref x), .val (.ref y), .unset] [.ref y])) rfl (rest := []) rfl (hb hbytes d8)
    have hh3 := q3.trans hh0
    have c4 : Steps p.tables e below (s₁.setTop (entryFrame m #[.ref x, .ref y] 3)) (T3.setTop (mkF m 15 #[.val (.ref x), .val (.ref y), .unset] [.ref y])) := (c2.trans (st3 _ (Steps.refl _))).trans (by
      refine XS.ifNo X3.here hexec rfl (hb hbytes d11) rfl (i0_eq_f (by decide)) ?_
      refine XS.aloadN X3.here hexec rfl (hb hbytes d14) rfl rfl ?_
      exact Steps.refl _)
    obtain ⟨T5, X5, q5, st5⟩ := cself X3 hexec hown (wk W (.classLink "java/lang/String" 10 "java/lang/String")) (hy.mv X3.warmed.alike hh3).1 (g := (mkF m 15 #[.val (.ref x), .val (.ref y), .unset] [.ref y])) rfl (rest := []) rfl (hb hbytes d15)
    have hh5 := q5.trans hh3
    have c6 : Steps p.tables e below (s₁.setTop (entryFrame m #[.ref x, .ref y] 3)) (T5.setTop (mkF m 19 #[.val (.ref x), .val (.ref y), .val (.ref y)] [])) := (c4.trans (st5 _ (Steps.refl _))).trans (by
      refine XS.astoreN X5.here hexec rfl (hb hbytes d18) rfl rfl rfl ?_
      exact Steps.refl _)
    obtain ⟨T7, X7, q7, st7⟩ := X5.sget hexec hown (wk W (.fieldLink "java/lang/String" 38 "java/lang/String" "COMPACT_STRINGS" "Z")) s1 (fun _ _ h => by rw [hh5]; exact h) (g := (mkF m 19 #[.val (.ref x), .val (.ref y), .val (.ref y)] [])) rfl (hb hbytes d19)
    have hh7 := q7.trans hh5
    have c8 : Steps p.tables e below (s₁.setTop (entryFrame m #[.ref x, .ref y] 3)) (T7.setTop (mkF m 26 #[.val (.ref x), .val (.ref y), .val (.ref y)] [.ref x])) := (c6.trans (st7 _ (Steps.refl _))).trans (by
      refine XS.ifNo X7.here hexec rfl (hb hbytes d22) rfl (i0_eq_f hz) ?_
      refine XS.aloadN X7.here hexec rfl (hb hbytes d25) rfl rfl ?_
      exact Steps.refl _)
    obtain ⟨T9, X9, q9, st9⟩ := X7.hget hexec hown (wk W (.fieldLink "java/lang/String" 15 "java/lang/String" "coder" "B")) (hx.mv X7.warmed.alike hh7).2.2.1 (g := (mkF m 26 #[.val (.ref x), .val (.ref y), .val (.ref y)] [.ref x])) rfl (rest := []) rfl (hb hbytes d26)
    have hh9 := q9.trans hh7
    have c10 : Steps p.tables e below (s₁.setTop (entryFrame m #[.ref x, .ref y] 3)) (T9.setTop (mkF m 30 #[.val (.ref x), .val (.ref y), .val (.ref y)] [.ref y, .int cd])) := (c8.trans (st9 _ (Steps.refl _))).trans (by
      refine XS.aloadN X9.here hexec rfl (hb hbytes d29) rfl rfl ?_
      exact Steps.refl _)
    obtain ⟨T11, X11, q11, st11⟩ := X9.hget hexec hown (wk W (.fieldLink "java/lang/String" 15 "java/lang/String" "coder" "B")) (hy.mv X9.warmed.alike hh9).2.2.1 (g := (mkF m 30 #[.val (.ref x), .val (.ref y), .val (.ref y)] [.ref y, .int cd])) rfl (rest := [.int cd]) rfl (hb hbytes d30)
    have hh11 := q11.trans hh9
    have c12 : Steps p.tables e below (s₁.setTop (entryFrame m #[.ref x, .ref y] 3)) (T11.setTop (mkF m 33 #[.val (.ref x), .val (.ref y), .val (.ref y)] [.int cd', .int cd])) := c10.trans (st11 _ (Steps.refl _))
    by_cases hcd : cd = cd'
    · subst hcd
      have c13 : Steps p.tables e below (s₁.setTop (entryFrame m #[.ref x, .ref y] 3)) (T11.setTop (mkF m 37 #[.val (.ref x), .val (.ref y), .val (.ref y)] [.ref x])) := c12.trans (by
        refine XS.icmpNo X11.here hexec rfl (hb hbytes d33) rfl (ii_ne_f rfl) ?_
        refine XS.aloadN X11.here hexec rfl (hb hbytes d36) rfl rfl ?_
        exact Steps.refl _)
      obtain ⟨T14, X14, q14, st14⟩ := X11.hget hexec hown (wk W (.fieldLink "java/lang/String" 9 "java/lang/String" "value" "[B")) (hx.mv X11.warmed.alike hh11).2.1 (g := (mkF m 37 #[.val (.ref x), .val (.ref y), .val (.ref y)] [.ref x])) rfl (rest := []) rfl (hb hbytes d37)
      have hh14 := q14.trans hh11
      have c15 : Steps p.tables e below (s₁.setTop (entryFrame m #[.ref x, .ref y] 3)) (T14.setTop (mkF m 41 #[.val (.ref x), .val (.ref y), .val (.ref y)] [.ref y, .ref t])) := (c13.trans (st14 _ (Steps.refl _))).trans (by
        refine XS.aloadN X14.here hexec rfl (hb hbytes d40) rfl rfl ?_
        exact Steps.refl _)
      obtain ⟨T16, X16, q16, st16⟩ := X14.hget hexec hown (wk W (.fieldLink "java/lang/String" 9 "java/lang/String" "value" "[B")) (hy.mv X14.warmed.alike hh14).2.1 (g := (mkF m 41 #[.val (.ref x), .val (.ref y), .val (.ref y)] [.ref y, .ref t])) rfl (rest := [.ref t]) rfl (hb hbytes d41)
      have hh16 := q16.trans hh14
      have c17 : Steps p.tables e below (s₁.setTop (entryFrame m #[.ref x, .ref y] 3)) (T16.setTop (mkF m 44 #[.val (.ref x), .val (.ref y), .val (.ref y)] [.ref t', .ref t])) := c15.trans (st16 _ (Steps.refl _))
      obtain ⟨v18, T18, X18, E18, g18⟩ := X16.callS hexec (LEq.law l t V t' V') hown (wks W (staticW "java/lang/String" 541 LEq.yN)) (wk W LEq.tab) (W := 0) (Nat.le_of_ble_eq_true rfl) (Nat.le_of_ble_eq_true rfl) (Nat.le_refl _) (Nat.le_refl _) (g := (mkF m 44 #[.val (.ref x), .val (.ref y), .val (.ref y)] [.ref t', .ref t])) rfl (by rw [hml]; rfl) c17 (argsL := [.ref t, .ref t']) (rest := []) rfl rfl (by show 2 * 0 + 0 ≤ _; decide) (hb hbytes d44) (⟨rfl, hx.2.2.2.1.mv X16.warmed.alike hh16, hx.2.2.2.2.1.ty, hy.2.2.2.1.mv X16.warmed.alike hh16, hy.2.2.2.2.1.ty⟩)
      obtain ⟨v, rfl, q18, hv⟩ := E18
      have iff := Cod.eqv hx.2.2.2.2.1 hy.2.2.2.2.1 hx.2.2.2.2.2 hy.2.2.2.2.2
      rcases hv with ⟨rfl, he⟩ | ⟨rfl, he⟩
      · have c19 : Steps p.tables e below (s₁.setTop (entryFrame m #[.ref x, .ref y] 3)) (T18.setTop (mkF m 55 #[.val (.ref x), .val (.ref y), .val (.ref y)] [.int 1])) := Steps.trans g18 (by
          refine XS.ifNo X18.here hexec rfl (hb hbytes d47) rfl (i0_eq_f (by decide)) ?_
          refine iconstV X18.here hexec rfl 1 (hb hbytes d50) (by decide) ?_
          refine XS.goto X18.here hexec rfl (pc0 := 51) rfl (hb hbytes d51) (by decide) rfl ?_
          exact Steps.refl _)
        exact ⟨T18, some (.int 1), _, _, _, X18, rfl, rfl, rfl, (fun h => by cases h), ⟨1, rfl, q18.trans hh16, Or.inl ⟨rfl, iff.mp he⟩⟩, fun fs hl => c19.trans (X18.ireturnOut hexec hret rfl (Or.inr (Or.inl rfl)) (hb hbytes d55) hl)⟩
      · have c19 : Steps p.tables e below (s₁.setTop (entryFrame m #[.ref x, .ref y] 3)) (T18.setTop (mkF m 55 #[.val (.ref x), .val (.ref y), .val (.ref y)] [.int 0])) := Steps.trans g18 (by
          refine XS.ifYes X18.here hexec rfl (pc0 := 47) rfl (hb hbytes d47) rfl (i0_eq_t rfl) (by decide) rfl ?_
          refine iconstV X18.here hexec rfl 0 (hb hbytes d54) (by decide) ?_
          exact Steps.refl _)
        exact ⟨T18, some (.int 0), _, _, _, X18, rfl, rfl, rfl, (fun h => by cases h), ⟨0, rfl, q18.trans hh16, Or.inr ⟨rfl, fun q => he (iff.mpr q)⟩⟩, fun fs hl => c19.trans (X18.ireturnOut hexec hret rfl (Or.inr (Or.inl rfl)) (hb hbytes d55) hl)⟩
    · have c13 : Steps p.tables e below (s₁.setTop (entryFrame m #[.ref x, .ref y] 3)) (T11.setTop (mkF m 55 #[.val (.ref x), .val (.ref y), .val (.ref y)] [.int 0])) := c12.trans (by
        refine XS.icmpYes X11.here hexec rfl (pc0 := 33) rfl (hb hbytes d33) rfl (ii_ne_t hcd) (by decide) rfl ?_
        refine iconstV X11.here hexec rfl 0 (hb hbytes d54) (by decide) ?_
        exact Steps.refl _)
      exact ⟨T11, some (.int 0), _, _, _, X11, rfl, rfl, rfl, (fun h => by cases h), ⟨0, rfl, hh11, Or.inr ⟨rfl, Cod.dif hx.2.2.2.2.1 hy.2.2.2.2.1 hcd⟩⟩, fun fs hl => c13.trans (X11.ireturnOut hexec hret rfl (Or.inr (Or.inl rfl)) (hb hbytes d55) hl)⟩
theorem pays {l : Launch} {R : Room} {p : Program} {e : Env} {below : List Frame} {s : State} {sargs : Array Value} {len W : Nat} (x t : Addr) (V : Cell) (cd : Int32) (n : Nat) (f : Nat → Int32) (y t' : Addr) (V' : Cell) (cd' : Int32) (k : Nat) (g : Nat → Int32) (z : Int32) (htab : tab.before sargs s = true) (hfr : 2 ≤ R.frames) (hlo : W + 28 ≤ R.locals) :
    Back l R p e below s sargs yN len W (fun A₁ a₁ => A₁.cells + 0 ≤ R.cells ∧ A₁.slots + 0 ≤ R.slots ∧ P x t V cd n f y t' V' cd' k g z a₁ A₁.U) (fun A₁ _ v₁ B₁ => Says01 (SameT n f k g) v₁ A₁.U B₁.U ∧ B₁.locs = A₁.locs ++ [] ∧ B₁.cells = A₁.cells + 0 ∧ B₁.slots = A₁.slots + 0) :=
  (law l x t V cd n f y t' V' cd' k g z).pays htab hfr (by omega)
end SEq
end StrChars
namespace StrChars.Road
open Jvm Sem ClassFile Op Lib Jvm.Stand Jvm.Free Jvm.Free.XT
open Jvm.Lib.Cold (StaticIs)
/-- the words of String.equals(Object) -/
abbrev wordsEq : List Jvm.Cond := [.code SEq.yN SEq.yB 3 (some .boolean), .initialized ST, .classLink ST 10 ST, .fieldLink ST 38 ST "COMPACT_STRINGS" "Z", .fieldLink ST 15 ST "coder" "B", .fieldLink ST 9 ST "value" "[B", .methodLink ST 541 LEq.yN, .static LEq.yN, .code LEq.yN LEq.yB 3 (some .boolean), .initialized "java/lang/StringLatin1"]
theorem tabEq_of {a : Array Value} {s : State} (h : ∀ w ∈ wordsEq, w.before a s = true) : SEq.tab.before a s = true := by
  have hl : LEq.tab.before a s = true := unparts (wk h (.code LEq.yN LEq.yB 3 (some .boolean))) (wks h (.initialized LEq.yN.cls :: LEq.site))
  have q := consq hl h
  exact unparts (wk q (.code SEq.yN SEq.yB 3 (some .boolean))) (wks q (.initialized SEq.yN.cls :: SEq.site))
theorem movedEq {Z s : State} {a0 args : Array Value} (hZ : Z.Warmed39 s.vm) (hw : ∀ d ∈ wordsEq, d.before a0 Z = true) : ∀ d ∈ wordsEq, d.before args s = true := fun d hd => by
  have t : ∀ d ∈ wordsEq, (d.onTables && d.keepsFace) = true := by decide +kernel
  exact RoadKit.mv hZ (hw d hd) (t d hd)
/-- the road's facts of a String, as the laws ask it -/
theorem txt_of {Z U : State} {a0 : Array Value} {kI : Nat} (wi : (Jvm.Cond.instantiable ST kI).before a0 Z = true) (al : Z.vm.Alike U.vm) {x t : Addr} {kb : ClassId} {cs : List Int32} {cd N2 : Int32} {vs : List Value} (E : RoadKit.Exa Z U.heap x ST) (V : RoadKit.Fld Z U.heap x ST "value" "[B" (.ref t)) (C : RoadKit.Fld Z U.heap x ST "coder" "B" (.int cd)) (K : RoadKit.Arv Z U.heap t kb .byte N2 vs (.int 0)) (hc : CodA cs cd N2 vs) (hb : ∀ c ∈ cs, ¬ c < 0 ∧ ¬ (65535 : Int32) < c) (l2 : cs.length ≤ 4000) :
    ∃ A, Txt x t A cd cs.length (fun j => cs.getD j 0) U := by
  obtain ⟨A, K1, K2, K3, K4, K5, K6⟩ := K
  have hcod := hc.cod (by omega) K3 K5
  obtain ⟨D, fV, fC, hB, F1, F2, g1, g2, -, -⟩ := strObj wi al E V C
  exact ⟨A, ⟨_, hB.2.2.1, D, hB.1, rfl, by cases q : D.vm <;> first | rfl | exact absurd q (hB.2.1.2 _)⟩, Has.of hB F1 g1, Has.of hB F2 g2, ⟨K1.1, State.isArrayOf_alike al K1.2.1, K1.2.2, by rcases hcod with ⟨-, q, -⟩ | ⟨-, q, -⟩ <;> omega⟩, hcod, fun j hj => by
    have e : cs.getD j 0 = cs[j] := by simp [List.getD_eq_getElem?_getD, hj]
    show ¬ cs.getD j 0 < 0 ∧ ¬ 65535 < cs.getD j 0
    rw [e]; exact hb _ (List.getElem_mem _)⟩
theorem same_list (cs ds : List Int32) : SameT cs.length (fun j => cs.getD j 0) ds.length (fun j => ds.getD j 0) ↔ cs = ds := by
  constructor
  · rintro ⟨e, q⟩
    refine List.ext_getElem e fun j h1 h2 => ?_
    have := q j h1
    simpa [List.getD_eq_getElem?_getD, h1, h2] using this
  · rintro rfl
    exact ⟨rfl, fun _ _ => rfl⟩
/-- **equals(Object) OF TWO SUCH STRINGS**: 1 just where the chars are the same -/
theorem eqW {p : Program} {l : Launch} {e : Env} {R : Room} {s : State} {args : Array Value} {below : List Frame} {len W : Nat} {Z : State} {a0 : Array Value} {h : Heap} (hZ : Z.Warmed39 s.vm) (hw : ∀ d ∈ wordsEq, d.before a0 Z = true) {kI : Nat} (wi : (Jvm.Cond.instantiable ST kI).before a0 Z = true)
    {x t : Addr} {kb : ClassId} {cs : List Int32} {cd N2 : Int32} {vs : List Value} (E : RoadKit.Exa Z h x ST) (V : RoadKit.Fld Z h x ST "value" "[B" (.ref t)) (C : RoadKit.Fld Z h x ST "coder" "B" (.int cd)) (K : RoadKit.Arv Z h t kb .byte N2 vs (.int 0)) (hc : CodA cs cd N2 vs) (hb : ∀ c ∈ cs, ¬ c < 0 ∧ ¬ (65535 : Int32) < c) (l2 : cs.length ≤ 4000)
    {y t' : Addr} {kb' : ClassId} {ds : List Int32} {cd' N2' : Int32} {vs' : List Value} (E' : RoadKit.Exa Z h y ST) (V' : RoadKit.Fld Z h y ST "value" "[B" (.ref t')) (C' : RoadKit.Fld Z h y ST "coder" "B" (.int cd')) (K' : RoadKit.Arv Z h t' kb' .byte N2' vs' (.int 0)) (hc' : CodA ds cd' N2' vs') (hb' : ∀ c ∈ ds, ¬ c < 0 ∧ ¬ (65535 : Int32) < c) (l2' : ds.length ≤ 4000)
    {z : Int32} (S : RoadKit.Sta Z h ST "COMPACT_STRINGS" "Z" (.int z)) (hz : ¬ z = 0) (hfr : 2 ≤ R.frames) (hlo : W + 28 ≤ R.locals) :
    Back l R p e below s args (⟨"java/lang/String", "equals", "(Ljava/lang/Object;)Z"⟩ : MethodName) len W (fun P a => a = #[.ref x, .ref y] ∧ P.U.heap = h ∧ P.cells + 0 ≤ R.cells ∧ P.slots + 0 ≤ R.slots)
      (fun P _ v B => ∃ L, (((v = some (.int 1) ∧ cs = ds) ∨ (v = some (.int 0) ∧ ¬ cs = ds)) ∧ L = [] ∧ B.U.heap = h) ∧ B.locs = P.locs ++ L ∧ B.cells = P.cells + 0 ∧ B.slots = P.slots + 0) := by
  intro m meth c P g ig mk a X hg hsize hdg hW hn hp'
  obtain ⟨rfl, rfl, r1, r2⟩ := hp'
  have al : Z.vm.Alike P.U.vm := hZ.alike.trans X.warmed.alike
  obtain ⟨A, hx⟩ := txt_of wi al E V C K hc hb l2
  obtain ⟨A', hy⟩ := txt_of wi al E' V' C' K' hc' hb' l2'
  obtain ⟨v, B, X', ⟨⟨w, hv, hh, hq⟩, hl, hk, hs⟩, st⟩ := SEq.pays x t A cd cs.length (fun j => cs.getD j 0) y t' A' cd' ds.length (fun j => ds.getD j 0) z (tabEq_of (movedEq hZ hw)) hfr hlo m meth c P g ig mk _ X hg hsize hdg hW hn ⟨r1, r2, rfl, hx, hy, sta_is al S, hz⟩
  refine ⟨v, B, X', ⟨[], ⟨?_, rfl, hh⟩, hl, hk, hs⟩, st⟩
  rcases hq with ⟨rfl, q⟩ | ⟨rfl, q⟩
  · exact Or.inl ⟨hv, (same_list cs ds).mp q⟩
  · exact Or.inr ⟨hv, fun e => q ((same_list cs ds).mpr e)⟩
end StrChars.Road
namespace StrChars.Road
open Jvm Sem ClassFile Op Lib Jvm.Stand Jvm.Free Jvm.Free.XT
open Jvm.Lib.Cold (StaticIs)
/-- what backV says of its String, as the contracts of this text ask it: cs's low bytes, coder 0 -/
theorem codOf {cs : List Int32} {n : Nat} (hn : cs.length = n) (hb : ∀ c ∈ cs, ¬ 255 < c) : CodA cs 0 (Int32.ofNat n) ((cs.map lo8).map Value.int) := Or.inl ⟨rfl, by rw [hn], by simp [List.map_map, Function.comp_def], hb⟩
end StrChars.Road
end Jvm.Pilot.@@N@@
namespace Jvm.Pilot.@@N@@
open Jvm Jvm.ClassFile Sem Op Lib Jvm.Free Jvm.Stand Jvm.LawKit Jvm.RoadKit Bundle Jvm.Pilot.@@N@@.Jvm.D
theorem own_noface {a b : Bool} (h : (a || b) = false) : a = false := by
  cases a
  · rfl
  · cases h
/-- who comes to t from this place of the method comes to t from G -/
abbrev Kt (p : Program) (e : Env) (below : List Frame) (m : MethodId) (G T : State) (pc : Nat) (Ls : Array Slot) (st : List Value) : Prop :=
  ∀ t, Steps p.tables e below (T.setTop (mkF m pc Ls st)) t → Steps p.tables e below G t
/-- a callee that may intern and keeps the invariant, with cells that are asked to be safe -/
theorem own_backH {p : Program} {l : Launch} {e : Env} {R : Room} {s : State} {args : Array Value} {below : List Frame} {Z : State} {a0 : Array Value} {EL : List (String × Nat)} {h : Heap} {vm0 : Vm} {y : MethodName} {bytes : ByteArray} {maxL : Nat} {ret : Option FieldType} {rm : Room} {len W : Nat} {as' : Array Value} {Q : Option Value → Heap → List Loc → Prop} {ws : List Addr}
    (hM : MetFree l y (head1 [Jvm.Cond.code y bytes maxL ret] rm) (fun a U => a = as' ∧ Z.Warmed39 U.vm ∧ U.heap = h ∧ CHv Z EL U.vm h ∧ ∀ x ∈ ws, Safe Z EL U.vm h x) (fun _ _ _ _ _ => True) (fun _ U o U' => ∃ v L, o = .returned v ∧ Q v U'.heap L ∧ CHr Z EL U.vm U.heap U'.vm U'.heap ∧ ReturnedEndW U o U' L rm.cells rm.slots))
    (hZ : Z.Warmed39 vm0) (wc : (Jvm.Cond.code y bytes maxL ret).before a0 Z = true) (wz : (Jvm.Cond.initialized y.cls).before a0 Z = true) (hf : rm.frames + 1 ≤ R.frames) (hl : W + (maxL + 11) + rm.locals ≤ R.locals) (hEL : EW Z a0 EL) (H : CHv Z EL vm0 h) (hs : ∀ x ∈ ws, x < h.size ∧ Safe Z EL vm0 h x) :
    BackS l R p e below (s.setVm vm0) args y len W (fun A a => a = as' ∧ A.U.heap = h ∧ A.cells + rm.cells ≤ R.cells ∧ A.slots + rm.slots ≤ R.slots)
      (fun A _ v B => ∃ L, Q v B.U.heap L ∧ B.locs = A.locs ++ L ∧ B.cells = A.cells + rm.cells ∧ B.slots = A.slots + rm.slots ∧ CHr Z EL vm0 h B.U.vm B.U.heap) := by
  have there : ∀ (m : MethodId) (meth : Method) (c : Code) (A : Pt), Stand p l e R (s.setVm vm0) m args below meth c A.U A.locs A.cells A.slots → CHr Z EL vm0 h A.U.vm h := fun _ _ _ _ Y => CHv.at Y hZ hEL H
  have warm : ∀ (m : MethodId) (meth : Method) (c : Code) (A : Pt), Stand p l e R (s.setVm vm0) m args below meth c A.U A.locs A.cells A.slots → Z.Warmed39 A.U.vm := fun _ _ _ _ Y => wtrans (s := s.setVm vm0) hZ Y.warmed
  refine BackS.of_freeW (bytes := bytes) (maxL := maxL) (ret := ret) (E := fun _ first o t L k n => (k = rm.cells ∧ n = rm.slots) ∧ (∃ v, o = .returned v ∧ Q v t.heap L) ∧ CHr Z EL first.vm first.heap t.vm t.heap) hM hf hl ?_ ?_ (fun _ _ _ _ _ _ _ _ _ => trivial) ?_ ?_
  · intro m meth c A a Y hp
    have hU := warm m meth c A Y
    refine ⟨?_, mv hU wc, mv hU wz, hp.2.2⟩
    show (Jvm.Cond.and _ .tt).before a A.U = true
    rw [Cond.before_and, mv hU wc]
    rfl
  · intro m meth c A a g mk Y hp
    exact ⟨hp.1, warm m meth c A Y, hp.2.1, (there m meth c A Y).1, fun x hx => (there m meth c A Y).safe (hs x hx).1 (hs x hx).2⟩
  · intro a first o t hq
    obtain ⟨v, L, q1, q2, q3, q4⟩ := hq
    exact ⟨L, _, _, q4, ⟨rfl, rfl⟩, ⟨v, q1, q2⟩, q3⟩
  · intro m meth c A a g mk v t L k n Y hp _ _ hE
    obtain ⟨⟨rfl, rfl⟩, ⟨v', e3, e4⟩, e5⟩ := hE
    cases e3
    refine ⟨L, e4, rfl, rfl, rfl, (there m meth c A Y).trans ?_⟩
    rw [← hp.2.1]
    exact e5
/-! plain facts -/
def own_b (P : Prop) [Decidable P] : Int32 := if P then 1 else 0
theorem own_b1 {P : Prop} [Decidable P] (h : P) : (1 : Int32) = own_b P := (if_pos h).symm
theorem own_b0 {P : Prop} [Decidable P] (h : ¬ P) : (0 : Int32) = own_b P := (if_neg h).symm
theorem own_bz {P : Prop} [Decidable P] : own_b P = 0 ↔ ¬ P := by
  unfold own_b
  by_cases h : P <;> simp [h]
theorem own_bn {P Q : Prop} [Decidable P] [Decidable Q] (h : P ↔ Q) : own_b P = own_b Q := by
  unfold own_b
  by_cases h1 : P
  · rw [if_pos h1, if_pos (h.mp h1)]
  · rw [if_neg h1, if_neg (fun q => h1 (h.mpr q))]
def own_cs (n a b : Int32) : List Int32 := if n = 0 then [] else if n = 1 then [a] else [a, b]
abbrev own_by (cs : List Int32) : List Value := (cs.map (fun c => c.toInt8.toInt32)).map Value.int
abbrev own_r (c : Int32) : Prop := ¬ c < 0 ∧ ¬ (255 : Int32) < c
abbrev own_3 (n : Int32) : Prop := n = 0 ∨ n = 1 ∨ n = 2
theorem own_lt {a b : Int32} : a < b ↔ a.toInt < b.toInt := Int32.lt_iff_toInt_lt
theorem own_0 : (0 : Int32).toInt = 0 := by decide
theorem own_255 : (255 : Int32).toInt = 255 := by decide
theorem own_65535 : (65535 : Int32).toInt = 65535 := by decide
theorem own_csr {n a b : Int32} (ha : own_r a) (hb : own_r b) : ∀ c ∈ own_cs n a b, own_r c := by
  intro c hc
  unfold own_cs at hc
  split at hc
  · simp at hc
  split at hc
  · simp at hc; subst hc; exact ha
  · simp at hc
    rcases hc with rfl | rfl
    · exact ha
    · exact hb
theorem own_len {n a b : Int32} : (own_cs n a b).length ≤ 2 := by
  unfold own_cs
  split
  · simp
  split
  · simp
  · simp
theorem own_up {cs : List Int32} (h : ∀ c ∈ cs, own_r c) : ∀ c ∈ cs, ¬ c < 0 ∧ ¬ (65535 : Int32) < c := by
  intro c hc
  have q := h c hc
  simp only [own_r, own_lt, own_0, own_255, own_65535] at q ⊢
  omega
theorem own_nar {c : Int32} (h : own_r c) : nar .char c = c := by
  show c.toUInt32.toUInt16.toUInt32.toInt32 = c
  have q := c_i2c c
  apply Int32.toInt_inj.mp
  simp only [own_r, own_lt, own_0, own_255] at h
  omega
theorem own_m (x : Int32) : own_r (x &&& (255 : Int32)).toUInt32.toUInt16.toUInt32.toInt32 := by
  rw [i2c_mask]
  have h := c_mask x 255 8 (by decide) (by decide)
  simp only [own_r, own_lt, own_0, own_255]
  omega
theorem own_mod (x : Int32) : own_3 ((x &&& (2147483647 : Int32)) % (3 : Int32)) := by
  have h := c_mask x 2147483647 31 (by decide) (by decide)
  have q := (c_irem (x &&& (2147483647 : Int32)) 3 3 (by decide)).1 (by omega)
  generalize (x &&& (2147483647 : Int32)) % (3 : Int32) = w at *
  have q2 : w.toInt = 0 ∨ w.toInt = 1 ∨ w.toInt = 2 := by omega
  rcases q2 with q | q | q
  · exact Or.inl (Int32.toInt_inj.mp q)
  · exact Or.inr (Or.inl (Int32.toInt_inj.mp q))
  · exact Or.inr (Or.inr (Int32.toInt_inj.mp q))
theorem own_same {n m a b c d : Int32} (hn : own_3 n) (hm : own_3 m) : (own_cs n a b = own_cs m c d) ↔ (n = m ∧ (n < 1 ∨ a = c) ∧ (n < 2 ∨ b = d)) := by
  rcases hn with rfl | rfl | rfl <;> rcases hm with rfl | rfl | rfl <;> simp [own_cs]
theorem own_eq2 {v : Option Value} {P : Prop} [Decidable P] (h : (v = some (.int 1) ∧ P) ∨ (v = some (.int 0) ∧ ¬ P)) : v = some (.int (own_b P)) := by
  rcases h with ⟨rfl, h⟩ | ⟨rfl, h⟩
  · rw [← own_b1 h]
  · rw [← own_b0 h]
theorem own_cod {cs : List Int32} (h : ∀ c ∈ cs, own_r c) : StrChars.Road.CodA cs 0 (Int32.ofNat cs.length) (own_by cs) := StrChars.Road.codOf rfl (fun c hc => (h c hc).2)
theorem dsv_0 : decode jdk_42_method_149_code 0 = .ok (.aload_n 0, 1) := by decide +kernel
theorem dsv_1 : decode jdk_42_method_149_code 1 = .ok (.invokespecial 1, 3) := by decide +kernel
theorem dsv_4 : decode jdk_42_method_149_code 4 = .ok (.iload_n 3, 1) := by decide +kernel
theorem dsv_5 : decode jdk_42_method_149_code 5 = .ok (.ifCond .ne 22, 3) := by decide +kernel
theorem dsv_8 : decode jdk_42_method_149_code 8 = .ok (.aload_n 0, 1) := by decide +kernel
theorem dsv_9 : decode jdk_42_method_149_code 9 = .ok (.ldc 7, 2) := by decide +kernel
theorem dsv_11 : decode jdk_42_method_149_code 11 = .ok (.getfield 9, 3) := by decide +kernel
theorem dsv_14 : decode jdk_42_method_149_code 14 = .ok (.putfield 9, 3) := by decide +kernel
theorem dsv_17 : decode jdk_42_method_149_code 17 = .ok (.aload_n 0, 1) := by decide +kernel
theorem dsv_18 : decode jdk_42_method_149_code 18 = .ok (.ldc 7, 2) := by decide +kernel
theorem dsv_20 : decode jdk_42_method_149_code 20 = .ok (.getfield 15, 3) := by decide +kernel
theorem dsv_23 : decode jdk_42_method_149_code 23 = .ok (.putfield 15, 3) := by decide +kernel
theorem dsv_26 : decode jdk_42_method_149_code 26 = .ok (.return_, 1) := by decide +kernel
theorem dsv_27 : decode jdk_42_method_149_code 27 = .ok (.getstatic 38, 3) := by decide +kernel
theorem dsv_30 : decode jdk_42_method_149_code 30 = .ok (.ifCond .eq 28, 3) := by decide +kernel
theorem dsv_33 : decode jdk_42_method_149_code 33 = .ok (.aload_n 1, 1) := by decide +kernel
theorem dsv_34 : decode jdk_42_method_149_code 34 = .ok (.iload_n 2, 1) := by decide +kernel
theorem dsv_35 : decode jdk_42_method_149_code 35 = .ok (.iload_n 3, 1) := by decide +kernel
theorem dsv_36 : decode jdk_42_method_149_code 36 = .ok (.invokestatic 177, 3) := by decide +kernel
theorem dsv_39 : decode jdk_42_method_149_code 39 = .ok (.astore 5, 2) := by decide +kernel
theorem dsv_41 : decode jdk_42_method_149_code 41 = .ok (.aload_n 0, 1) := by decide +kernel
theorem dsv_42 : decode jdk_42_method_149_code 42 = .ok (.aload 5, 2) := by decide +kernel
theorem dsv_44 : decode jdk_42_method_149_code 44 = .ok (.iload_n 3, 1) := by decide +kernel
theorem dsv_45 : decode jdk_42_method_149_code 45 = .ok (.invokestatic 47, 3) := by decide +kernel
theorem dsv_48 : decode jdk_42_method_149_code 48 = .ok (.putfield 15, 3) := by decide +kernel
theorem dsv_51 : decode jdk_42_method_149_code 51 = .ok (.aload_n 0, 1) := by decide +kernel
theorem dsv_52 : decode jdk_42_method_149_code 52 = .ok (.aload 5, 2) := by decide +kernel
theorem dsv_54 : decode jdk_42_method_149_code 54 = .ok (.putfield 9, 3) := by decide +kernel
theorem dsv_57 : decode jdk_42_method_149_code 57 = .ok (.return_, 1) := by decide +kernel
theorem dsv_58 : decode jdk_42_method_149_code 58 = .ok (.aload_n 0, 1) := by decide +kernel
theorem dsv_59 : decode jdk_42_method_149_code 59 = .ok (.iconst 1, 1) := by decide +kernel
theorem dsv_60 : decode jdk_42_method_149_code 60 = .ok (.putfield 15, 3) := by decide +kernel
theorem dsv_63 : decode jdk_42_method_149_code 63 = .ok (.aload_n 0, 1) := by decide +kernel
theorem dsv_64 : decode jdk_42_method_149_code 64 = .ok (.aload_n 1, 1) := by decide +kernel
theorem dsv_65 : decode jdk_42_method_149_code 65 = .ok (.iload_n 2, 1) := by decide +kernel
theorem dsv_66 : decode jdk_42_method_149_code 66 = .ok (.iload_n 3, 1) := by decide +kernel
theorem dsv_67 : decode jdk_42_method_149_code 67 = .ok (.invokestatic 180, 3) := by decide +kernel
theorem dsv_70 : decode jdk_42_method_149_code 70 = .ok (.putfield 9, 3) := by decide +kernel
theorem dsv_73 : decode jdk_42_method_149_code 73 = .ok (.return_, 1) := by decide +kernel
theorem pnsv : plainName "java/lang/String" = true := by first | (simp [plainName, overriddenIn]; done) | decide +kernel
theorem pd_0 : parseMethodDescriptor "()V" = some ⟨[], none⟩ := by decide +kernel
theorem pd_1 : parseMethodDescriptor "()Z" = some ⟨[], some .boolean⟩ := by decide +kernel
theorem pd_2 : parseMethodDescriptor "(ICC)Ljava/lang/String;" = some ⟨[.int, .char, .char], some (.object "java/lang/String")⟩ := by decide +kernel
theorem pd_3 : parseMethodDescriptor "(Ljava/lang/Object;)Z" = some ⟨[(.object "java/lang/Object")], some .boolean⟩ := by decide +kernel
theorem pd_4 : parseMethodDescriptor "(Ljava/lang/String;Ljava/lang/String;)V" = some ⟨[(.object "java/lang/String"), (.object "java/lang/String")], none⟩ := by decide +kernel
theorem pd_5 : parseMethodDescriptor "([BI)B" = some ⟨[(.array .byte), .int], some .byte⟩ := by decide +kernel
theorem pd_6 : parseMethodDescriptor "([B[B)Z" = some ⟨[(.array .byte), (.array .byte)], some .boolean⟩ := by decide +kernel
theorem pd_7 : parseMethodDescriptor "([C)V" = some ⟨[(.array .char)], none⟩ := by decide +kernel
theorem pd_8 : parseMethodDescriptor "([CII)[B" = some ⟨[(.array .char), .int, .int], some (.array .byte)⟩ := by decide +kernel
theorem pd_9 : parseMethodDescriptor "([CIILjava/lang/Void;)V" = some ⟨[(.array .char), .int, .int, (.object "java/lang/Void")], none⟩ := by decide +kernel
theorem pd_10 : parseMethodDescriptor "([CI[BII)I" = some ⟨[(.array .char), .int, (.array .byte), .int, .int], some .int⟩ := by decide +kernel
theorem efsv (m : MethodId) (xx : Addr) (bb : Addr) : entryFrame m #[(.ref xx), (.ref bb), (.int (0 : Int32)), (.int (0 : Int32)), .null] 6 = mkF m 0 #[.val (.ref xx), .val (.ref bb), .val (.int (0 : Int32)), .val (.int (0 : Int32)), .val .null, .unset] [] := by first | (simp [entryFrame, mkF, argsToLocals, Value.category]; done) | rfl
def Qsv (Z : State) (xx : Addr) (bb : Addr) (h0 : Heap) (n0 : Nat) (v : Option Value) (h : Heap) (L : List Loc) : Prop := v = none ∧ Fr n0 L ∧ Keep h0 h [xx] ∧ ∃ t kb, Fld Z h xx "java/lang/String" "coder" "B" (.int (0 : Int32)) ∧ Fld Z h xx "java/lang/String" "value" "[B" (.ref t) ∧ Arv Z h t kb .byte (0 : Int32) [] (.int (0 : Int32))
set_option maxRecDepth 65536 in
set_option maxHeartbeats 40000000 in
theorem rmsv (l : Launch) (Z : State) (a0 : Array Value) (hw : ∀ d ∈ tables_1, d.before a0 Z = true) (ws : List Jvm.Cond) (xx : Addr) (bb : Addr) (h0 : Heap) (n0 : Nat) (Z0 : n0 ≤ h0.size) (hEL : EW Z a0 consts_1) (E_x : Exa Z h0 xx "java/lang/String") (F_value : Fld Z h0 xx "java/lang/String" "value" "[B" .null) (F_coder : Fld Z h0 xx "java/lang/String" "coder" "B" (.int (0 : Int32))) (g_xx : n0 ≤ xx) :
    MetFree l (⟨"java/lang/String", "<init>", "([CIILjava/lang/Void;)V"⟩ : MethodName) (head1 (Jvm.Cond.code (⟨"java/lang/String", "<init>", "([CIILjava/lang/Void;)V"⟩ : MethodName) jdk_42_method_149_code 6 none :: ws) ({ frames := 1, cells := 4, slots := 8, locals := 12 } : Room)) (fun gs' U => gs' = #[(.ref xx), (.ref bb), (.int (0 : Int32)), (.int (0 : Int32)), .null] ∧ Z.Warmed39 U.vm ∧ U.heap = h0 ∧ CHv Z consts_1 U.vm h0 ∧ ∀ x ∈ ([xx] : List Addr), Safe Z consts_1 U.vm h0 x) (fun _ _ _ _ _ => True) (fun _ U o U' => ∃ v L, o = .returned v ∧ Qsv Z xx bb h0 n0 v U'.heap L ∧ CHr Z consts_1 U.vm U.heap U'.vm U'.heap ∧ ReturnedEndW U o U' L ({ frames := 1, cells := 4, slots := 8, locals := 12 } : Room).cells ({ frames := 1, cells := 4, slots := 8, locals := 12 } : Room).slots) := by
  refine MetFree.of_bodySF (plainFor_of_name pnsv) hisR ?_
  intro p e s m args below meth c s₁ Bd hml0 hP hK
  obtain ⟨rfl, hZ, hh, hCH, hSf⟩ := hP
  have hx := Bd.exec
  have hby := Bd.bytes
  have hml : c.maxLocals = 6 := hml0
  have hown : s.vm.findClass "java/lang/String" = some m.cls := findClass_of_methodNamed Bd.named
  have hnm := (name_of_methodNamed Bd.named Bd.method).1
  have X0 : Stand p l e ({ frames := 1, cells := 4, slots := 8, locals := 12 } : Room) (s.setVm s.vm) m #[(.ref xx), (.ref bb), (.int (0 : Int32)), (.int (0 : Int32)), .null] below meth c s₁ [] 0 0 := Stand.of_body Bd
  have e0 : s₁.heap = h0 := by rw [← hh, Bd.state]; rfl
  have N0 := Fr.nil n0
  have k0 : Kt p e below m (s₁.setTop (entryFrame m #[(.ref xx), (.ref bb), (.int (0 : Int32)), (.int (0 : Int32)), .null] 6)) s₁ 0 #[.val (.ref xx), .val (.ref bb), .val (.int (0 : Int32)), .val (.int (0 : Int32)), .val .null, .unset] [] := fun t ht => castTop (efsv m xx bb) ht
  have R0 : CHr Z consts_1 s.vm h0 s.vm h0 := CHr.refl hCH
  have Sf_xx : Safe Z consts_1 s.vm h0 xx := hSf _ (List.mem_of_getElem? (i := 0) rfl)
  have K0 : Keep h0 h0 [xx] := Keep.refl _ _
  have wS : ∀ a ∈ Bundle.stringAtoms, a.before a0 Z = true := by
    intro a ha
    simp only [Bundle.stringAtoms, List.mem_cons, List.not_mem_nil, or_false] at ha
    rcases ha with rfl | rfl | rfl | rfl | rfl | rfl | rfl
    · exact (hw _ (List.mem_of_getElem? (i := 7) rfl))
    · exact (hw _ (List.mem_of_getElem? (i := 6) rfl))
    · exact (hw _ (List.mem_of_getElem? (i := 20) rfl))
    · exact (hw _ (List.mem_of_getElem? (i := 21) rfl))
    · exact (hw _ (List.mem_of_getElem? (i := 22) rfl))
    · exact (hw _ (List.mem_of_getElem? (i := 23) rfl))
    · exact (hw _ (List.mem_of_getElem? (i := 24) rfl))
  have k1 : Kt p e below m (s₁.setTop (entryFrame m #[(.ref xx), (.ref bb), (.int (0 : Int32)), (.int (0 : Int32)), .null] 6)) s₁ 1 #[.val (.ref xx), .val (.ref bb), .val (.int (0 : Int32)), .val (.int (0 : Int32)), .val .null, .unset] [(.ref xx)] := by
    intro t ht
    refine k0 t ?_
    show Steps p.tables e below (s₁.setTop (mkF m 0 #[.val (.ref xx), .val (.ref bb), .val (.int (0 : Int32)), .val (.int (0 : Int32)), .val .null, .unset] [])) t
    refine XS.aloadN X0.here hx rfl (hb hby dsv_0) rfl rfl ?_
    exact ht
  obtain ⟨T2, X2, e2, st2⟩ := initO X0 hx hZ hown (hw _ (List.mem_of_getElem? (i := 16) rfl)) (hw _ (List.mem_of_getElem? (i := 17) rfl)) (hw _ (List.mem_of_getElem? (i := 18) rfl)) e0 (g := (mkF m 1 #[.val (.ref xx), .val (.ref bb), .val (.int (0 : Int32)), .val (.int (0 : Int32)), .val .null, .unset] [(.ref xx)])) rfl (by rw [hml]; rfl) rfl (hb hby dsv_1) (by decide) (W := 0) (by show 2 * 0 + _ ≤ _; exact Nat.le_of_eq rfl) (by decide)
  have k2 : Kt p e below m (s₁.setTop (entryFrame m #[(.ref xx), (.ref bb), (.int (0 : Int32)), (.int (0 : Int32)), .null] 6)) T2 4 #[.val (.ref xx), .val (.ref bb), .val (.int (0 : Int32)), .val (.int (0 : Int32)), .val .null, .unset] [] := fun t ht => k1 t (st2 t ht)
  have k3 : Kt p e below m (s₁.setTop (entryFrame m #[(.ref xx), (.ref bb), (.int (0 : Int32)), (.int (0 : Int32)), .null] 6)) T2 9 #[.val (.ref xx), .val (.ref bb), .val (.int (0 : Int32)), .val (.int (0 : Int32)), .val .null, .unset] [(.ref xx)] := by
    intro t ht
    refine k2 t ?_
    show Steps p.tables e below (T2.setTop (mkF m 4 #[.val (.ref xx), .val (.ref bb), .val (.int (0 : Int32)), .val (.int (0 : Int32)), .val .null, .unset] [])) t
    refine XS.iloadN X2.here hx rfl (hb hby dsv_4) rfl ?_
    show Steps p.tables e below (T2.setTop (mkF m 5 #[.val (.ref xx), .val (.ref bb), .val (.int (0 : Int32)), .val (.int (0 : Int32)), .val .null, .unset] [(.int (0 : Int32))])) t
    refine XS.ifNo X2.here hx rfl (hb hby dsv_5) rfl ((if0 _ _).trans (teq rfl).2) ?_
    show Steps p.tables e below (T2.setTop (mkF m 8 #[.val (.ref xx), .val (.ref bb), .val (.int (0 : Int32)), .val (.int (0 : Int32)), .val .null, .unset] [])) t
    refine XS.aloadN X2.here hx rfl (hb hby dsv_8) rfl rfl ?_
    exact ht
  obtain ⟨s1, T4, h4, kb4, t1, ck4, X4, e4, E4, hS4, hk4, hZ4, hown4, Ex4, Fc4, Fv4, Va4, la4, lb4, hR4, -, hne4, st4⟩ := ldcCH (s := s) (vm0 := s.vm) X2 hx hZ hown (hw _ (List.mem_of_getElem? (i := 19) rfl)) wS e2 ((State.WarmedH.refl s).since 0) (Nat.zero_le _) hEL (EL := consts_1) (by decide) R0.1 (vs := []) (z := (0 : Int32)) (by decide +kernel) (by decide) (by decide) (g := (mkF m 9 #[.val (.ref xx), .val (.ref bb), .val (.int (0 : Int32)), .val (.int (0 : Int32)), .val .null, .unset] [(.ref xx)])) rfl (hb hby dsv_9) (n := 0) (by decide +kernel) (by decide) (by decide) (by decide)
  have f5 : n0 ≤ h4.size := Nat.le_trans Z0 E4.1
  have f6 : CHr Z consts_1 s.vm h0 T4.vm h4 := R0.trans hR4
  have f7 : Safe Z consts_1 T4.vm h4 xx := hR4.safe E_x.lt Sf_xx
  have f8 : Exa Z h4 xx "java/lang/String" := E_x.ext E4
  have f9 : Fld Z h4 xx "java/lang/String" "value" "[B" .null := F_value.ext E4
  have f10 : Fld Z h4 xx "java/lang/String" "coder" "B" (.int (0 : Int32)) := F_coder.ext E4
  have f11 : Keep h0 h4 [xx] := K0.ext E4
  obtain ⟨ne_xx_s1, ne_xx_t1⟩ := hne4 _ f7
  have k4 : Kt p e below m (s₁.setTop (entryFrame m #[(.ref xx), (.ref bb), (.int (0 : Int32)), (.int (0 : Int32)), .null] 6)) T4 11 #[.val (.ref xx), .val (.ref bb), .val (.int (0 : Int32)), .val (.int (0 : Int32)), .val .null, .unset] [(.ref s1), (.ref xx)] := fun t ht => k3 t (st4 t ht)
  obtain ⟨T12, X12, e12, st12⟩ := getF X4 hx hZ4 hown4 (host := "") (Or.inl (hw _ (List.mem_of_getElem? (i := 25) rfl))) Via.refl e4 Fv4 (g := (mkF m 11 #[.val (.ref xx), .val (.ref bb), .val (.int (0 : Int32)), .val (.int (0 : Int32)), .val .null, .unset] [(.ref s1), (.ref xx)])) rfl rfl (hb hby dsv_11)
  have k12 : Kt p e below m (s₁.setTop (entryFrame m #[(.ref xx), (.ref bb), (.int (0 : Int32)), (.int (0 : Int32)), .null] 6)) T12 14 #[.val (.ref xx), .val (.ref bb), .val (.int (0 : Int32)), .val (.int (0 : Int32)), .val .null, .unset] [(.ref t1), (.ref xx)] := fun t ht => k4 t (st12 t ht)
  obtain ⟨T13, h13, X13, e13, W13, st13⟩ := putF X12 hx hZ4 hown4 (host := "") (Or.inl (hw _ (List.mem_of_getElem? (i := 25) rfl))) Via.refl e12 f9 f8 (Or.inr ⟨(hw _ (List.mem_of_getElem? (i := 21) rfl)), rfl, hnm⟩) (hw _ (List.mem_of_getElem? (i := 6) rfl)) (ty := (.array .byte)) (by decide) rfl rfl (g := (mkF m 14 #[.val (.ref xx), .val (.ref bb), .val (.int (0 : Int32)), .val (.int (0 : Int32)), .val .null, .unset] [(.ref t1), (.ref xx)])) rfl rfl (hb hby dsv_14)
  have N13 := Fr.snoc X13 N0 g_xx
  have f14 : n0 ≤ h13.size := Nat.le_trans f5 (Keep.of_wr W13).1
  have f15 : CHr Z consts_1 s.vm h0 T4.vm h13 := f6.trans (CHr.wr W13 f7 f6.1)
  have f16 : Safe Z consts_1 T4.vm h13 xx := Safe.wr W13 f7 f6.1 f7
  have f17 : Exa Z h13 xx "java/lang/String" := f8.wr W13
  have f18 : Fld Z h13 xx "java/lang/String" "value" "[B" (.ref t1) := f9.same W13
  have f19 : Fld Z h13 xx "java/lang/String" "coder" "B" (.int (0 : Int32)) := f10.other W13 (Or.inr (slot_ne (Or.inr (hw _ (List.mem_of_getElem? (i := 22) rfl))) (Or.inr (hw _ (List.mem_of_getElem? (i := 21) rfl))) (by decide) (t := .byte) (t' := (.array .byte)) (by decide) (by decide)))
  have f20 : Keep h0 h13 [xx] := f11.wr W13 (Or.inl (List.mem_of_getElem? (i := 0) rfl))
  have f21 : kb4 ≤ h13.size := Nat.le_trans hk4 (Keep.of_wr W13).1
  have f22 : Exa Z h13 s1 "java/lang/String" := Ex4.wr W13
  have f23 : Fld Z h13 s1 "java/lang/String" "coder" "B" (.int (0 : Int32)) := Fc4.other W13 (Or.inl ne_xx_s1.symm)
  have f24 : Fld Z h13 s1 "java/lang/String" "value" "[B" (.ref t1) := Fv4.other W13 (Or.inl ne_xx_s1.symm)
  have f25 : Arv Z h13 t1 ck4 .byte (0 : Int32) [] (.int (0 : Int32)) := Va4.other W13 ne_xx_t1.symm
  have k13 : Kt p e below m (s₁.setTop (entryFrame m #[(.ref xx), (.ref bb), (.int (0 : Int32)), (.int (0 : Int32)), .null] 6)) T13 17 #[.val (.ref xx), .val (.ref bb), .val (.int (0 : Int32)), .val (.int (0 : Int32)), .val .null, .unset] [] := fun t ht => k12 t (st13 t ht)
  have k26 : Kt p e below m (s₁.setTop (entryFrame m #[(.ref xx), (.ref bb), (.int (0 : Int32)), (.int (0 : Int32)), .null] 6)) T13 18 #[.val (.ref xx), .val (.ref bb), .val (.int (0 : Int32)), .val (.int (0 : Int32)), .val .null, .unset] [(.ref xx)] := by
    intro t ht
    refine k13 t ?_
    show Steps p.tables e below (T13.setTop (mkF m 17 #[.val (.ref xx), .val (.ref bb), .val (.int (0 : Int32)), .val (.int (0 : Int32)), .val .null, .unset] [])) t
    refine XS.aloadN X13.here hx rfl (hb hby dsv_17) rfl rfl ?_
    exact ht
  obtain ⟨s2, T27, h27, kb27, t2, ck27, X27, e27, E27, hS27, hk27, hZ27, hown27, Ex27, Fc27, Fv27, Va27, la27, lb27, hR27, -, hne27, st27⟩ := ldcCH (s := s) (vm0 := T4.vm) X13 hx hZ4 hown4 (hw _ (List.mem_of_getElem? (i := 19) rfl)) wS e13 hS4 f21 hEL (EL := consts_1) (by decide) f15.1 (vs := []) (z := (0 : Int32)) (by decide +kernel) (by decide) (by decide) (g := (mkF m 18 #[.val (.ref xx), .val (.ref bb), .val (.int (0 : Int32)), .val (.int (0 : Int32)), .val .null, .unset] [(.ref xx)])) rfl (hb hby dsv_18) (n := 0) (by decide +kernel) (by decide) (by decide) (by decide)
  have f28 : n0 ≤ h27.size := Nat.le_trans f14 E27.1
  have f29 : CHr Z consts_1 s.vm h0 T27.vm h27 := f15.trans hR27
  have f30 : Safe Z consts_1 T27.vm h27 xx := hR27.safe f17.lt f16
  have f31 : Exa Z h27 xx "java/lang/String" := f17.ext E27
  have f32 : Fld Z h27 xx "java/lang/String" "value" "[B" (.ref t1) := f18.ext E27
  have f33 : Fld Z h27 xx "java/lang/String" "coder" "B" (.int (0 : Int32)) := f19.ext E27
  have f34 : Keep h0 h27 [xx] := f20.ext E27
  have f35 : kb4 ≤ h27.size := Nat.le_trans f21 E27.1
  have f36 : Arv Z h27 t1 ck4 .byte (0 : Int32) [] (.int (0 : Int32)) := f25.ext E27
  obtain ⟨ne_xx_s2, ne_xx_t2⟩ := hne27 _ f30
  have k27 : Kt p e below m (s₁.setTop (entryFrame m #[(.ref xx), (.ref bb), (.int (0 : Int32)), (.int (0 : Int32)), .null] 6)) T27 20 #[.val (.ref xx), .val (.ref bb), .val (.int (0 : Int32)), .val (.int (0 : Int32)), .val .null, .unset] [(.ref s2), (.ref xx)] := fun t ht => k26 t (st27 t ht)
  obtain ⟨T37, X37, e37, st37⟩ := getF X27 hx hZ27 hown27 (host := "") (Or.inl (hw _ (List.mem_of_getElem? (i := 26) rfl))) Via.refl e27 Fc27 (g := (mkF m 20 #[.val (.ref xx), .val (.ref bb), .val (.int (0 : Int32)), .val (.int (0 : Int32)), .val .null, .unset] [(.ref s2), (.ref xx)])) rfl rfl (hb hby dsv_20)
  have k37 : Kt p e below m (s₁.setTop (entryFrame m #[(.ref xx), (.ref bb), (.int (0 : Int32)), (.int (0 : Int32)), .null] 6)) T37 23 #[.val (.ref xx), .val (.ref bb), .val (.int (0 : Int32)), .val (.int (0 : Int32)), .val .null, .unset] [(.int (0 : Int32)), (.ref xx)] := fun t ht => k27 t (st37 t ht)
  obtain ⟨T38, h38, X38, e38, W38, st38⟩ := putFN X37 hx hZ27 hown27 (hw _ (List.mem_of_getElem? (i := 26) rfl)) Via.refl e37 f33 f31 (Or.inr ⟨(hw _ (List.mem_of_getElem? (i := 22) rfl)), rfl, hnm⟩) (hw _ (List.mem_of_getElem? (i := 6) rfl)) (ty := .byte) (v' := (.int (0 : Int32))) (by decide) rfl rfl (g := (mkF m 23 #[.val (.ref xx), .val (.ref bb), .val (.int (0 : Int32)), .val (.int (0 : Int32)), .val .null, .unset] [(.int (0 : Int32)), (.ref xx)])) rfl rfl (hb hby dsv_23)
  have N38 := Fr.snoc X38 N13 g_xx
  have f39 : n0 ≤ h38.size := Nat.le_trans f28 (Keep.of_wr W38).1
  have f40 : CHr Z consts_1 s.vm h0 T27.vm h38 := f29.trans (CHr.wr W38 f30 f29.1)
  have f41 : Safe Z consts_1 T27.vm h38 xx := Safe.wr W38 f30 f29.1 f30
  have f42 : Exa Z h38 xx "java/lang/String" := f31.wr W38
  have f43 : Fld Z h38 xx "java/lang/String" "value" "[B" (.ref t1) := f32.other W38 (Or.inr (slot_ne (Or.inr (hw _ (List.mem_of_getElem? (i := 21) rfl))) (Or.inr (hw _ (List.mem_of_getElem? (i := 22) rfl))) (by decide) (t := (.array .byte)) (t' := .byte) (by decide) (by decide)))
  have f44 : Fld Z h38 xx "java/lang/String" "coder" "B" (.int (0 : Int32)) := f33.same W38
  have f45 : Keep h0 h38 [xx] := f34.wr W38 (Or.inl (List.mem_of_getElem? (i := 0) rfl))
  have f46 : kb27 ≤ h38.size := Nat.le_trans hk27 (Keep.of_wr W38).1
  have f47 : Arv Z h38 t1 ck4 .byte (0 : Int32) [] (.int (0 : Int32)) := f36.other W38 ne_xx_t1.symm
  have f48 : Exa Z h38 s2 "java/lang/String" := Ex27.wr W38
  have f49 : Fld Z h38 s2 "java/lang/String" "coder" "B" (.int (0 : Int32)) := Fc27.other W38 (Or.inl ne_xx_s2.symm)
  have f50 : Fld Z h38 s2 "java/lang/String" "value" "[B" (.ref t2) := Fv27.other W38 (Or.inl ne_xx_s2.symm)
  have f51 : Arv Z h38 t2 ck27 .byte (0 : Int32) [] (.int (0 : Int32)) := Va27.other W38 ne_xx_t2.symm
  have k38 : Kt p e below m (s₁.setTop (entryFrame m #[(.ref xx), (.ref bb), (.int (0 : Int32)), (.int (0 : Int32)), .null] 6)) T38 26 #[.val (.ref xx), .val (.ref bb), .val (.int (0 : Int32)), .val (.int (0 : Int32)), .val .null, .unset] [] := fun t ht => k37 t (st38 t ht)
  obtain ⟨fs, hr, hrun, hended, -, hW, hbk, hsame⟩ := Stand.leaveW (s := s) (vm₁ := T27.vm) X38 (hS27) (by rw [e38]; exact f46) (v := none) (fun _ => rfl)
  refine ⟨_, _, k38 _ ?_, hrun, hended, _, _, rfl, ?_, ?_, ⟨_, rfl⟩, hW, hbk, hsame.mono (by decide) (by decide)⟩
  · exact X38.returnOut hx Bd.returns (hb hby dsv_26) hr
  · show Qsv Z xx bb h0 n0 _ T38.heap _
    rw [e38]
    exact ⟨rfl, N38, f45, t1, _, f44, f43, f47⟩
  · show CHr Z consts_1 s.vm s.heap T38.vm T38.heap
    rw [hh, e38]
    exact f40.trans (CHv.at (s := s) (vm0 := T27.vm) X38 hZ27 hEL f40.1)
theorem dsi_0 : decode jdk_42_method_3_code 0 = .ok (.aload_n 0, 1) := by decide +kernel
theorem dsi_1 : decode jdk_42_method_3_code 1 = .ok (.aload_n 1, 1) := by decide +kernel
theorem dsi_2 : decode jdk_42_method_3_code 2 = .ok (.iconst 0, 1) := by decide +kernel
theorem dsi_3 : decode jdk_42_method_3_code 3 = .ok (.aload_n 1, 1) := by decide +kernel
theorem dsi_4 : decode jdk_42_method_3_code 4 = .ok (.arraylength, 1) := by decide +kernel
theorem dsi_5 : decode jdk_42_method_3_code 5 = .ok (.aconst_null, 1) := by decide +kernel
theorem dsi_6 : decode jdk_42_method_3_code 6 = .ok (.invokespecial 27, 3) := by decide +kernel
theorem dsi_9 : decode jdk_42_method_3_code 9 = .ok (.return_, 1) := by decide +kernel
theorem pnsi : plainName "java/lang/String" = true := by first | (simp [plainName, overriddenIn]; done) | decide +kernel
theorem efsi (m : MethodId) (xx : Addr) (bb : Addr) : entryFrame m #[(.ref xx), (.ref bb)] 2 = mkF m 0 #[.val (.ref xx), .val (.ref bb)] [] := by first | (simp [entryFrame, mkF, argsToLocals, Value.category]; done) | rfl
def Qsi (Z : State) (xx : Addr) (bb : Addr) (kc : ClassId) (h0 : Heap) (n0 : Nat) (v : Option Value) (h : Heap) (L : List Loc) : Prop := v = none ∧ Fr n0 L ∧ Keep h0 h [xx] ∧ ∃ t kb, Fld Z h xx "java/lang/String" "coder" "B" (.int (0 : Int32)) ∧ Fld Z h xx "java/lang/String" "value" "[B" (.ref t) ∧ Arv Z h t kb .byte (0 : Int32) [] (.int (0 : Int32))
set_option maxRecDepth 65536 in
set_option maxHeartbeats 40000000 in
theorem rmsi (l : Launch) (Z : State) (a0 : Array Value) (hw : ∀ d ∈ tables_1, d.before a0 Z = true) (ws : List Jvm.Cond) (xx : Addr) (bb : Addr) (kc : ClassId) (h0 : Heap) (n0 : Nat) (Z0 : n0 ≤ h0.size) (hEL : EW Z a0 consts_1) (E_x : Exa Z h0 xx "java/lang/String") (F_value : Fld Z h0 xx "java/lang/String" "value" "[B" .null) (F_coder : Fld Z h0 xx "java/lang/String" "coder" "B" (.int (0 : Int32))) (g_xx : n0 ≤ xx) (V_b : Arv Z h0 bb kc .char (0 : Int32) [] (.int (0 : Int32))) :
    MetFree l (⟨"java/lang/String", "<init>", "([C)V"⟩ : MethodName) (head1 (Jvm.Cond.code (⟨"java/lang/String", "<init>", "([C)V"⟩ : MethodName) jdk_42_method_3_code 2 none :: ws) ({ frames := 2, cells := 4, slots := 8, locals := 29 } : Room)) (fun gs' U => gs' = #[(.ref xx), (.ref bb)] ∧ Z.Warmed39 U.vm ∧ U.heap = h0 ∧ CHv Z consts_1 U.vm h0 ∧ ∀ x ∈ ([xx] : List Addr), Safe Z consts_1 U.vm h0 x) (fun _ _ _ _ _ => True) (fun _ U o U' => ∃ v L, o = .returned v ∧ Qsi Z xx bb kc h0 n0 v U'.heap L ∧ CHr Z consts_1 U.vm U.heap U'.vm U'.heap ∧ ReturnedEndW U o U' L ({ frames := 2, cells := 4, slots := 8, locals := 29 } : Room).cells ({ frames := 2, cells := 4, slots := 8, locals := 29 } : Room).slots) := by
  refine MetFree.of_bodySF (plainFor_of_name pnsi) hisR ?_
  intro p e s m args below meth c s₁ Bd hml0 hP hK
  obtain ⟨rfl, hZ, hh, hCH, hSf⟩ := hP
  have hx := Bd.exec
  have hby := Bd.bytes
  have hml : c.maxLocals = 2 := hml0
  have hown : s.vm.findClass "java/lang/String" = some m.cls := findClass_of_methodNamed Bd.named
  have hnm := (name_of_methodNamed Bd.named Bd.method).1
  have X0 : Stand p l e ({ frames := 2, cells := 4, slots := 8, locals := 29 } : Room) (s.setVm s.vm) m #[(.ref xx), (.ref bb)] below meth c s₁ [] 0 0 := Stand.of_body Bd
  have e0 : s₁.heap = h0 := by rw [← hh, Bd.state]; rfl
  have N0 := Fr.nil n0
  have k0 : Kt p e below m (s₁.setTop (entryFrame m #[(.ref xx), (.ref bb)] 2)) s₁ 0 #[.val (.ref xx), .val (.ref bb)] [] := fun t ht => castTop (efsi m xx bb) ht
  have R0 : CHr Z consts_1 s.vm h0 s.vm h0 := CHr.refl hCH
  have Sf_xx : Safe Z consts_1 s.vm h0 xx := hSf _ (List.mem_of_getElem? (i := 0) rfl)
  have K0 : Keep h0 h0 [xx] := Keep.refl _ _
  have k52 : Kt p e below m (s₁.setTop (entryFrame m #[(.ref xx), (.ref bb)] 2)) s₁ 4 #[.val (.ref xx), .val (.ref bb)] [(.ref bb), (.int (0 : Int32)), (.ref bb), (.ref xx)] := by
    intro t ht
    refine k0 t ?_
    show Steps p.tables e below (s₁.setTop (mkF m 0 #[.val (.ref xx), .val (.ref bb)] [])) t
    refine XS.aloadN X0.here hx rfl (hb hby dsi_0) rfl rfl ?_
    show Steps p.tables e below (s₁.setTop (mkF m 1 #[.val (.ref xx), .val (.ref bb)] [(.ref xx)])) t
    refine XS.aloadN X0.here hx rfl (hb hby dsi_1) rfl rfl ?_
    show Steps p.tables e below (s₁.setTop (mkF m 2 #[.val (.ref xx), .val (.ref bb)] [(.ref bb), (.ref xx)])) t
    refine XS.iconst X0.here hx rfl (hb hby dsi_2) ?_
    show Steps p.tables e below (s₁.setTop (mkF m 3 #[.val (.ref xx), .val (.ref bb)] [(.int (0 : Int32)), (.ref bb), (.ref xx)])) t
    refine XS.aloadN X0.here hx rfl (hb hby dsi_3) rfl rfl ?_
    exact ht
  obtain ⟨cl53, Ar53, qc53, Sz53, Nn53, Hh53, Gg53⟩ := id V_b
  have k54 : Kt p e below m (s₁.setTop (entryFrame m #[(.ref xx), (.ref bb)] 2)) s₁ 6 #[.val (.ref xx), .val (.ref bb)] [.null, (.int (0 : Int32)), (.int (0 : Int32)), (.ref bb), (.ref xx)] := by
    intro t ht
    refine k52 t ?_
    show Steps p.tables e below (s₁.setTop (mkF m 4 #[.val (.ref xx), .val (.ref bb)] [(.ref bb), (.int (0 : Int32)), (.ref bb), (.ref xx)])) t
    refine X0.arraylength hx (by rw [e0]; exact Ar53.1) (State.isArrayOf_alike hZ.alike Ar53.2.1) (g := (mkF m 4 #[.val (.ref xx), .val (.ref bb)] [(.ref bb), (.int (0 : Int32)), (.ref bb), (.ref xx)])) rfl rfl (hb hby dsi_4) _ ?_
    rw [len_of Sz53 Nn53]
    show Steps p.tables e below (s₁.setTop (mkF m 5 #[.val (.ref xx), .val (.ref bb)] [(.int (0 : Int32)), (.int (0 : Int32)), (.ref bb), (.ref xx)])) t
    refine XS.aconstNull X0.here hx rfl (hb hby dsi_5) ?_
    exact ht
  obtain ⟨_, _, ⟨T55, L55, c55, n55⟩, -, X55, hs55, hg55, ⟨Lc55, hQ55, l55, y55, z55, hR55⟩, st55⟩ := Stand.specialBackS (s := s.setVm s.vm) X0 hx (y := (⟨"java/lang/String", "<init>", "([CIILjava/lang/Void;)V"⟩ : MethodName)) rfl hown (mvT hZ (hw _ (List.mem_of_getElem? (i := 12) rfl))) (mvT hZ (hw _ (List.mem_of_getElem? (i := 13) rfl))) (mvT hZ (hw _ (List.mem_of_getElem? (i := 15) rfl))) (by decide) (own_backH (s := s) (vm0 := s.vm) (W := 0) (rmsv l Z a0 hw [] xx bb h0 n0 Z0 hEL E_x F_value F_coder g_xx) hZ (hw _ (List.mem_of_getElem? (i := 15) rfl)) (hw _ (List.mem_of_getElem? (i := 7) rfl)) (by decide) (by decide) hEL R0.1 (allS ⟨E_x.lt, Sf_xx⟩ all0)) (g := (mkF m 6 #[.val (.ref xx), .val (.ref bb)] [.null, (.int (0 : Int32)), (.int (0 : Int32)), (.ref bb), (.ref xx)])) rfl (by rw [hml]; rfl) (Steps.refl _) (a := xx) (argsL := [(.ref bb), (.int (0 : Int32)), (.int (0 : Int32)), .null]) (rest := []) (lenOf pd_9 rfl) rfl (by show 2 * 0 + _ ≤ _; exact Nat.le_of_eq rfl) (hb hby dsi_6) (fun _ _ => ⟨rfl, e0, (by decide : 0 + 4 ≤ _), (by decide : 0 + 8 ≤ _)⟩)
  dsimp only [Pt.U, Pt.locs, Pt.cells, Pt.slots] at X55 hs55 hg55 l55 y55 z55 st55 hQ55 hR55
  subst l55 y55 z55
  have hS55 : s.Since T55.vm T55.heap.size := foldS ((State.WarmedH.refl s).since 0) (Nat.zero_le _) hs55 hg55
  have hZ55 : Z.Warmed39 T55.vm := State.Warmed39.trans (t := s.setVm s.vm) hZ hs55.1
  have hown55 : T55.vm.findClass "java/lang/String" = some m.cls := by rw [hs55.1.alike.findClass]; exact hown
  obtain ⟨rfl, Nq55, Kp55, t1, kb1, Fc, Fv, Va⟩ := hQ55
  have N55 := Fr.app N0 Nq55
  have k55 : Kt p e below m (s₁.setTop (entryFrame m #[(.ref xx), (.ref bb)] 2)) T55 9 #[.val (.ref xx), .val (.ref bb)] [] := fun t ht => k54 t (st55.trans ht)
  have f56 : n0 ≤ T55.heap.size := Nat.le_trans Z0 Kp55.1
  have f57 : CHr Z consts_1 s.vm h0 T55.vm T55.heap := R0.trans hR55
  have f58 : Safe Z consts_1 T55.vm T55.heap xx := hR55.safe E_x.lt Sf_xx
  have f59 : Exa Z T55.heap xx "java/lang/String" := E_x.keep Kp55
  have f62 : Keep h0 T55.heap [xx] := K0.trans Kp55 (allS (Or.inl (List.mem_of_getElem? (i := 0) rfl)) all0)
  have hk55 : T55.heap.size ≤ T55.heap.size := Nat.le_refl _
  obtain ⟨fs, hr, hrun, hended, -, hW, hbk, hsame⟩ := Stand.leaveW (s := s) (vm₁ := T55.vm) X55 (hS55) (by exact hk55) (v := none) (fun _ => rfl)
  refine ⟨_, _, k55 _ ?_, hrun, hended, _, _, rfl, ?_, ?_, ⟨_, rfl⟩, hW, hbk, hsame.mono (by decide) (by decide)⟩
  · exact X55.returnOut hx Bd.returns (hb hby dsi_9) hr
  · show Qsi Z xx bb kc h0 n0 _ T55.heap _
    exact ⟨rfl, N55, f62, t1, kb1, Fc, Fv, Va⟩
  · show CHr Z consts_1 s.vm s.heap T55.vm T55.heap
    rw [hh]
    exact f57.trans (CHv.at (s := s) (vm0 := T55.vm) X55 hZ55 hEL f57.1)
theorem dmk_0 : decode method_2_code 0 = .ok (.iload_n 0, 1) := by decide +kernel
theorem dmk_1 : decode method_2_code 1 = .ok (.ifCond .ne 14, 3) := by decide +kernel
theorem dmk_4 : decode method_2_code 4 = .ok (.new 7, 3) := by decide +kernel
theorem dmk_7 : decode method_2_code 7 = .ok (.dup, 1) := by decide +kernel
theorem dmk_8 : decode method_2_code 8 = .ok (.iconst 0, 1) := by decide +kernel
theorem dmk_9 : decode method_2_code 9 = .ok (.newarray .char, 2) := by decide +kernel
theorem dmk_11 : decode method_2_code 11 = .ok (.invokespecial 9, 3) := by decide +kernel
theorem dmk_14 : decode method_2_code 14 = .ok (.areturn, 1) := by decide +kernel
theorem dmk_15 : decode method_2_code 15 = .ok (.iload_n 0, 1) := by decide +kernel
theorem dmk_16 : decode method_2_code 16 = .ok (.iconst 1, 1) := by decide +kernel
theorem dmk_17 : decode method_2_code 17 = .ok (.if_icmp .ne 18, 3) := by decide +kernel
theorem dmk_20 : decode method_2_code 20 = .ok (.new 7, 3) := by decide +kernel
theorem dmk_23 : decode method_2_code 23 = .ok (.dup, 1) := by decide +kernel
theorem dmk_24 : decode method_2_code 24 = .ok (.iconst 1, 1) := by decide +kernel
theorem dmk_25 : decode method_2_code 25 = .ok (.newarray .char, 2) := by decide +kernel
theorem dmk_27 : decode method_2_code 27 = .ok (.dup, 1) := by decide +kernel
theorem dmk_28 : decode method_2_code 28 = .ok (.iconst 0, 1) := by decide +kernel
theorem dmk_29 : decode method_2_code 29 = .ok (.iload_n 1, 1) := by decide +kernel
theorem dmk_30 : decode method_2_code 30 = .ok (.castore, 1) := by decide +kernel
theorem dmk_31 : decode method_2_code 31 = .ok (.invokespecial 9, 3) := by decide +kernel
theorem dmk_34 : decode method_2_code 34 = .ok (.areturn, 1) := by decide +kernel
theorem dmk_35 : decode method_2_code 35 = .ok (.new 7, 3) := by decide +kernel
theorem dmk_38 : decode method_2_code 38 = .ok (.dup, 1) := by decide +kernel
theorem dmk_39 : decode method_2_code 39 = .ok (.iconst 2, 1) := by decide +kernel
theorem dmk_40 : decode method_2_code 40 = .ok (.newarray .char, 2) := by decide +kernel
theorem dmk_42 : decode method_2_code 42 = .ok (.dup, 1) := by decide +kernel
theorem dmk_43 : decode method_2_code 43 = .ok (.iconst 0, 1) := by decide +kernel
theorem dmk_44 : decode method_2_code 44 = .ok (.iload_n 1, 1) := by decide +kernel
theorem dmk_45 : decode method_2_code 45 = .ok (.castore, 1) := by decide +kernel
theorem dmk_46 : decode method_2_code 46 = .ok (.dup, 1) := by decide +kernel
theorem dmk_47 : decode method_2_code 47 = .ok (.iconst 1, 1) := by decide +kernel
theorem dmk_48 : decode method_2_code 48 = .ok (.iload_n 2, 1) := by decide +kernel
theorem dmk_49 : decode method_2_code 49 = .ok (.castore, 1) := by decide +kernel
theorem dmk_50 : decode method_2_code 50 = .ok (.invokespecial 9, 3) := by decide +kernel
theorem dmk_53 : decode method_2_code 53 = .ok (.areturn, 1) := by decide +kernel
theorem pnmk : plainName "com/example/clearhour/clearhour/input/EndIsTradingHubPinLaw" = true := by first | (simp [plainName, overriddenIn]; done) | decide +kernel
theorem efmk (m : MethodId) (p1 : Int32) (p2 : Int32) (p3 : Int32) : entryFrame m #[(.int p1), (.int p2), (.int p3)] 3 = mkF m 0 #[.val (.int p1), .val (.int p2), .val (.int p3)] [] := by first | (simp [entryFrame, mkF, argsToLocals, Value.category]; done) | rfl
def Qmk (Z : State) (p1 : Int32) (p2 : Int32) (p3 : Int32) (G1 : Int32) (h0 : Heap) (n0 : Nat) (v : Option Value) (h : Heap) (L : List Loc) : Prop := ∃ r t kb, v = some (.ref r) ∧ Fr n0 L ∧ Keep h0 h [] ∧ Exa Z h r "java/lang/String" ∧ Fld Z h r "java/lang/String" "coder" "B" (.int (0 : Int32)) ∧ Fld Z h r "java/lang/String" "value" "[B" (.ref t) ∧ Arv Z h t kb .byte (Int32.ofNat (own_cs p1 p2 p3).length) (own_by (own_cs p1 p2 p3)) (.int (0 : Int32))
set_option maxRecDepth 65536 in
set_option maxHeartbeats 40000000 in
theorem rmmk (l : Launch) (Z : State) (a0 : Array Value) (hw : ∀ d ∈ tables_1, d.before a0 Z = true) (ws : List Jvm.Cond) (p1 : Int32) (p2 : Int32) (p3 : Int32) (G1 : Int32) (h0 : Heap) (n0 : Nat) (Z0 : n0 ≤ h0.size) (hEL : EW Z a0 consts_1) (S1 : Sta Z Z.heap "java/lang/String" "COMPACT_STRINGS" "Z" (.int G1)) (P5 : ¬ (G1 = (0 : Int32))) (O : Old Z n0 h0) (h3 : own_3 p1) (r2 : own_r p2) (r3 : own_r p3) :
    MetFree l (⟨"com/example/clearhour/clearhour/input/EndIsTradingHubPinLaw", "mk", "(ICC)Ljava/lang/String;"⟩ : MethodName) (head1 (Jvm.Cond.code (⟨"com/example/clearhour/clearhour/input/EndIsTradingHubPinLaw", "mk", "(ICC)Ljava/lang/String;"⟩ : MethodName) method_2_code 3 (some (.object "java/lang/String")) :: ws) ({ frames := 4, cells := 6, slots := 12, locals := 66 } : Room)) (fun gs' U => gs' = #[(.int p1), (.int p2), (.int p3)] ∧ Z.Warmed39 U.vm ∧ U.heap = h0 ∧ CHv Z consts_1 U.vm h0 ∧ ∀ x ∈ ([] : List Addr), Safe Z consts_1 U.vm h0 x) (fun _ _ _ _ _ => True) (fun _ U o U' => ∃ v L, o = .returned v ∧ Qmk Z p1 p2 p3 G1 h0 n0 v U'.heap L ∧ CHr Z consts_1 U.vm U.heap U'.vm U'.heap ∧ ReturnedEndW U o U' L ({ frames := 4, cells := 6, slots := 12, locals := 66 } : Room).cells ({ frames := 4, cells := 6, slots := 12, locals := 66 } : Room).slots) := by
  refine MetFree.of_bodySF (plainFor_of_name pnmk) hisR ?_
  intro p e s m args below meth c s₁ Bd hml0 hP hK
  obtain ⟨rfl, hZ, hh, hCH, hSf⟩ := hP
  have hx := Bd.exec
  have hby := Bd.bytes
  have hml : c.maxLocals = 3 := hml0
  have hown : s.vm.findClass "com/example/clearhour/clearhour/input/EndIsTradingHubPinLaw" = some m.cls := findClass_of_methodNamed Bd.named
  have hnm := (name_of_methodNamed Bd.named Bd.method).1
  have X0 : Stand p l e ({ frames := 4, cells := 6, slots := 12, locals := 66 } : Room) (s.setVm s.vm) m #[(.int p1), (.int p2), (.int p3)] below meth c s₁ [] 0 0 := Stand.of_body Bd
  have e0 : s₁.heap = h0 := by rw [← hh, Bd.state]; rfl
  have N0 := Fr.nil n0
  have k0 : Kt p e below m (s₁.setTop (entryFrame m #[(.int p1), (.int p2), (.int p3)] 3)) s₁ 0 #[.val (.int p1), .val (.int p2), .val (.int p3)] [] := fun t ht => castTop (efmk m p1 p2 p3) ht
  have R0 : CHr Z consts_1 s.vm h0 s.vm h0 := CHr.refl hCH
  have K0 : Keep h0 h0 [] := Keep.refl _ _
  have hws : ∀ d ∈ StrChars.Road.words, d.before a0 Z = true := fun d hd => hw d ((by decide +kernel : ∀ d ∈ StrChars.Road.words, d ∈ tables_1) d hd)
  have k63 : Kt p e below m (s₁.setTop (entryFrame m #[(.int p1), (.int p2), (.int p3)] 3)) s₁ 1 #[.val (.int p1), .val (.int p2), .val (.int p3)] [(.int p1)] := by
    intro t ht
    refine k0 t ?_
    show Steps p.tables e below (s₁.setTop (mkF m 0 #[.val (.int p1), .val (.int p2), .val (.int p3)] [])) t
    refine XS.iloadN X0.here hx rfl (hb hby dmk_0) rfl ?_
    exact ht
  by_cases h0' : p1 = (0 : Int32)
  · have k64 : Kt p e below m (s₁.setTop (entryFrame m #[(.int p1), (.int p2), (.int p3)] 3)) s₁ 4 #[.val (.int p1), .val (.int p2), .val (.int p3)] [] := by
      intro t ht
      refine k63 t ?_
      show Steps p.tables e below (s₁.setTop (mkF m 1 #[.val (.int p1), .val (.int p2), .val (.int p3)] [(.int p1)])) t
      refine XS.ifNo X0.here hx rfl (hb hby dmk_1) rfl ((if0 _ _).trans (teq h0').2) ?_
      exact ht
    obtain ⟨T65, h65, X65, e65, E65, A65, D65, -, st65⟩ := newO X0 hx hZ hown (hw _ (List.mem_of_getElem? (i := 5) rfl)) (hw _ (List.mem_of_getElem? (i := 6) rfl)) (hw _ (List.mem_of_getElem? (i := 7) rfl)) e0 (g := (mkF m 4 #[.val (.int p1), .val (.int p2), .val (.int p3)] [])) rfl (hb hby dmk_4) (by decide) (by decide)
    obtain ⟨r, q65⟩ : ∃ z, z = h0.size := ⟨_, rfl⟩
    have g_r : n0 ≤ r := by rw [q65]; exact Z0
    have sz_r : h0.size ≤ r := by rw [q65]; exact K0.1
    rw [← q65] at A65 D65 st65
    have f66 : n0 ≤ h65.size := Nat.le_trans Z0 E65.1
    have f67 : CHr Z consts_1 s.vm h0 s.vm h65 := R0.trans (CHr.ext E65 R0.1)
    have f68 : Old Z n0 h65 := O.ext E65
    have f69 : Keep h0 h65 [] := K0.ext E65
    have Sf65 : Safe Z consts_1 s.vm h65 r := Safe.ext E65 R0.1 (Safe.new (by rw [q65]; exact Nat.le_refl _))
    have f65 : Exa Z h65 r "java/lang/String" := A65
    have f70 : Fld Z h65 r "java/lang/String" "value" "[B" .null := D65 (Or.inr (hw _ (List.mem_of_getElem? (i := 21) rfl))) (ty := (.array .byte)) (by decide)
    have f71 : Fld Z h65 r "java/lang/String" "coder" "B" (.int (0 : Int32)) := D65 (Or.inr (hw _ (List.mem_of_getElem? (i := 22) rfl))) (ty := .byte) (by decide)
    have k65 : Kt p e below m (s₁.setTop (entryFrame m #[(.int p1), (.int p2), (.int p3)] 3)) T65 7 #[.val (.int p1), .val (.int p2), .val (.int p3)] [(.ref r)] := fun t ht => k64 t (st65 t ht)
    have k72 : Kt p e below m (s₁.setTop (entryFrame m #[(.int p1), (.int p2), (.int p3)] 3)) T65 9 #[.val (.int p1), .val (.int p2), .val (.int p3)] [(.int (0 : Int32)), (.ref r), (.ref r)] := by
      intro t ht
      refine k65 t ?_
      show Steps p.tables e below (T65.setTop (mkF m 7 #[.val (.int p1), .val (.int p2), .val (.int p3)] [(.ref r)])) t
      refine XS.dup X65.here hx rfl (hb hby dmk_7) rfl rfl ?_
      show Steps p.tables e below (T65.setTop (mkF m 8 #[.val (.int p1), .val (.int p2), .val (.int p3)] [(.ref r), (.ref r)])) t
      refine XS.iconst X65.here hx rfl (hb hby dmk_8) ?_
      exact ht
    obtain ⟨T73, h73, ak73, X73, e73, E73, A73, st73⟩ := newP X65 hx hZ (hw _ (List.mem_of_getElem? (i := 8) rfl)) e65 (g := (mkF m 9 #[.val (.int p1), .val (.int p2), .val (.int p3)] [(.int (0 : Int32)), (.ref r), (.ref r)])) rfl (hb hby dmk_9) rfl (by decide) (cap := 0) (by decide) (by decide) (by decide) (by decide)
    obtain ⟨ch, q73⟩ : ∃ z, z = h65.size := ⟨_, rfl⟩
    have ne_r_ch : r ≠ ch := by rw [q73]; exact Nat.ne_of_lt f65.lt
    have g_ch : n0 ≤ ch := by rw [q73]; exact f66
    have sz_ch : h0.size ≤ ch := by rw [q73]; exact f69.1
    rw [← q73] at A73 st73
    have f74 : n0 ≤ h73.size := Nat.le_trans f66 E73.1
    have f75 : CHr Z consts_1 s.vm h0 s.vm h73 := f67.trans (CHr.ext E73 f67.1)
    have f76 : Old Z n0 h73 := f68.ext E73
    have f77 : Keep h0 h73 [] := f69.ext E73
    have f78 : Safe Z consts_1 s.vm h73 r := Sf65.ext E73 f67.1
    have f79 : Exa Z h73 r "java/lang/String" := f65.ext E73
    have f80 : Fld Z h73 r "java/lang/String" "value" "[B" .null := f70.ext E73
    have f81 : Fld Z h73 r "java/lang/String" "coder" "B" (.int (0 : Int32)) := f71.ext E73
    have Sf73 : Safe Z consts_1 s.vm h73 ch := Safe.ext E73 f67.1 (Safe.new (by rw [q73]; exact Nat.le_refl _))
    have f73 : Arv Z h73 ch ak73 .char (0 : Int32) [] (.int (0 : Int32)) := Arv.new A73 (by decide)
    have k73 : Kt p e below m (s₁.setTop (entryFrame m #[(.int p1), (.int p2), (.int p3)] 3)) T73 11 #[.val (.int p1), .val (.int p2), .val (.int p3)] [(.ref ch), (.ref r), (.ref r)] := fun t ht => k72 t (st73 t ht)
    obtain ⟨_, _, ⟨T82, L82, c82, n82⟩, -, X82, hs82, hg82, ⟨Lc82, hQ82, l82, y82, z82, hR82⟩, st82⟩ := Stand.specialBackS (s := s.setVm s.vm) X73 hx (y := (⟨"java/lang/String", "<init>", "([C)V"⟩ : MethodName)) rfl hown (mvT hZ (hw _ (List.mem_of_getElem? (i := 9) rfl))) (mvT hZ (hw _ (List.mem_of_getElem? (i := 10) rfl))) (mvT hZ (hw _ (List.mem_of_getElem? (i := 11) rfl))) (by decide) (own_backH (s := s) (vm0 := s.vm) (W := 1) (rmsi l Z a0 hw [] r ch ak73 h73 n0 f74 hEL f79 f80 f81 g_r f73) hZ (hw _ (List.mem_of_getElem? (i := 11) rfl)) (hw _ (List.mem_of_getElem? (i := 7) rfl)) (by decide) (by decide) hEL f75.1 (allS ⟨f79.lt, f78⟩ all0)) (g := (mkF m 11 #[.val (.int p1), .val (.int p2), .val (.int p3)] [(.ref ch), (.ref r), (.ref r)])) rfl (by rw [hml]; rfl) (Steps.refl _) (a := r) (argsL := [(.ref ch)]) (rest := [(.ref r)]) (lenOf pd_7 rfl) rfl (by show 2 * 0 + _ ≤ _; exact Nat.le_of_eq rfl) (hb hby dmk_11) (fun _ _ => ⟨rfl, e73, (by decide : 2 + 4 ≤ _), (by decide : 4 + 8 ≤ _)⟩)
    dsimp only [Pt.U, Pt.locs, Pt.cells, Pt.slots] at X82 hs82 hg82 l82 y82 z82 st82 hQ82 hR82
    subst l82 y82 z82
    have hS82 : s.Since T82.vm T82.heap.size := foldS ((State.WarmedH.refl s).since 0) (Nat.zero_le _) hs82 hg82
    have hZ82 : Z.Warmed39 T82.vm := State.Warmed39.trans (t := s.setVm s.vm) hZ hs82.1
    have hown82 : T82.vm.findClass "com/example/clearhour/clearhour/input/EndIsTradingHubPinLaw" = some m.cls := by rw [hs82.1.alike.findClass]; exact hown
    obtain ⟨rfl, Nq82, Kp82, t1, kb1, Fc, Fv, Va⟩ := hQ82
    have N82 := Fr.app N0 Nq82
    have k82 : Kt p e below m (s₁.setTop (entryFrame m #[(.int p1), (.int p2), (.int p3)] 3)) T82 14 #[.val (.int p1), .val (.int p2), .val (.int p3)] [(.ref r)] := fun t ht => k73 t (st82.trans ht)
    have f83 : n0 ≤ T82.heap.size := Nat.le_trans f74 Kp82.1
    have f84 : CHr Z consts_1 s.vm h0 T82.vm T82.heap := f75.trans hR82
    have f85 : Old Z n0 T82.heap := f76.keep Kp82 (allS g_r all0)
    have f86 : Keep h0 T82.heap [] := f77.trans Kp82 (allS (Or.inr sz_r) all0)
    have f87 : Safe Z consts_1 T82.vm T82.heap r := hR82.safe f79.lt f78
    have f88 : Exa Z T82.heap r "java/lang/String" := f79.keep Kp82
    have f91 : Safe Z consts_1 T82.vm T82.heap ch := hR82.safe f73.lt Sf73
    have f92 : Arv Z T82.heap ch ak73 .char (0 : Int32) [] (.int (0 : Int32)) := f73.keep Kp82 (ninS ne_r_ch.symm nin0)
    have hk82 : T82.heap.size ≤ T82.heap.size := Nat.le_refl _
    have hcs : own_cs p1 p2 p3 = [] := by rw [h0']; rfl
    obtain ⟨fs, hr, hrun, hended, -, hW, hbk, hsame⟩ := Stand.leaveW (s := s) (vm₁ := T82.vm) X82 (hS82) (by exact hk82) (v := some (.ref r)) (fun h => by rw [Bd.returns] at h; cases h)
    refine ⟨_, _, k82 _ ?_, hrun, hended, _, _, rfl, ?_, ?_, ⟨_, rfl⟩, hW, hbk, hsame.mono (by decide) (by decide)⟩
    · show Steps p.tables e below (T82.setTop (mkF m 14 #[.val (.int p1), .val (.int p2), .val (.int p3)] [(.ref r)])) _
      jvm_step X82.here [X82.here.top, hx, (hb hby dmk_14), X82.method', Bd.returns, Value.isRef, FieldType.isReference]
      first | (intro acts; rw [hr _ acts rfl rfl rfl]) | rw [hr _ _ rfl rfl rfl]
      exact Steps.refl _
    · show Qmk Z p1 p2 p3 G1 h0 n0 _ T82.heap _
      exact ⟨r, t1, kb1, rfl, N82, f86, f88, Fc, Fv, by rw [hcs]; exact Va⟩
    · show CHr Z consts_1 s.vm s.heap T82.vm T82.heap
      rw [hh]
      exact f84.trans (CHv.at (s := s) (vm0 := T82.vm) X82 hZ82 hEL f84.1)
  · have k93 : Kt p e below m (s₁.setTop (entryFrame m #[(.int p1), (.int p2), (.int p3)] 3)) s₁ 17 #[.val (.int p1), .val (.int p2), .val (.int p3)] [(.int (1 : Int32)), (.int p1)] := by
      intro t ht
      refine k63 t ?_
      show Steps p.tables e below (s₁.setTop (mkF m 1 #[.val (.int p1), .val (.int p2), .val (.int p3)] [(.int p1)])) t
      refine XS.ifYes X0.here hx rfl (pc0 := 1) (pc' := 15) rfl (hb hby dmk_1) rfl ((if0 _ _).trans (feq h0').2) (by decide) (by decide) ?_
      show Steps p.tables e below (s₁.setTop (mkF m 15 #[.val (.int p1), .val (.int p2), .val (.int p3)] [])) t
      refine XS.iloadN X0.here hx rfl (hb hby dmk_15) rfl ?_
      show Steps p.tables e below (s₁.setTop (mkF m 16 #[.val (.int p1), .val (.int p2), .val (.int p3)] [(.int p1)])) t
      refine XS.iconst X0.here hx rfl (hb hby dmk_16) ?_
      exact ht
    by_cases h1 : p1 = (1 : Int32)
    · have k94 : Kt p e below m (s₁.setTop (entryFrame m #[(.int p1), (.int p2), (.int p3)] 3)) s₁ 20 #[.val (.int p1), .val (.int p2), .val (.int p3)] [] := by
        intro t ht
        refine k93 t ?_
        show Steps p.tables e below (s₁.setTop (mkF m 17 #[.val (.int p1), .val (.int p2), .val (.int p3)] [(.int (1 : Int32)), (.int p1)])) t
        refine XS.icmpNo X0.here hx rfl (hb hby dmk_17) rfl (teq h1).2 ?_
        exact ht
      obtain ⟨T95, h95, X95, e95, E95, A95, D95, -, st95⟩ := newO X0 hx hZ hown (hw _ (List.mem_of_getElem? (i := 5) rfl)) (hw _ (List.mem_of_getElem? (i := 6) rfl)) (hw _ (List.mem_of_getElem? (i := 7) rfl)) e0 (g := (mkF m 20 #[.val (.int p1), .val (.int p2), .val (.int p3)] [])) rfl (hb hby dmk_20) (by decide) (by decide)
      obtain ⟨r, q95⟩ : ∃ z, z = h0.size := ⟨_, rfl⟩
      have g_r : n0 ≤ r := by rw [q95]; exact Z0
      have sz_r : h0.size ≤ r := by rw [q95]; exact K0.1
      rw [← q95] at A95 D95 st95
      have f96 : n0 ≤ h95.size := Nat.le_trans Z0 E95.1
      have f97 : CHr Z consts_1 s.vm h0 s.vm h95 := R0.trans (CHr.ext E95 R0.1)
      have f98 : Old Z n0 h95 := O.ext E95
      have f99 : Keep h0 h95 [] := K0.ext E95
      have Sf95 : Safe Z consts_1 s.vm h95 r := Safe.ext E95 R0.1 (Safe.new (by rw [q95]; exact Nat.le_refl _))
      have f95 : Exa Z h95 r "java/lang/String" := A95
      have f100 : Fld Z h95 r "java/lang/String" "value" "[B" .null := D95 (Or.inr (hw _ (List.mem_of_getElem? (i := 21) rfl))) (ty := (.array .byte)) (by decide)
      have f101 : Fld Z h95 r "java/lang/String" "coder" "B" (.int (0 : Int32)) := D95 (Or.inr (hw _ (List.mem_of_getElem? (i := 22) rfl))) (ty := .byte) (by decide)
      have k95 : Kt p e below m (s₁.setTop (entryFrame m #[(.int p1), (.int p2), (.int p3)] 3)) T95 23 #[.val (.int p1), .val (.int p2), .val (.int p3)] [(.ref r)] := fun t ht => k94 t (st95 t ht)
      have k102 : Kt p e below m (s₁.setTop (entryFrame m #[(.int p1), (.int p2), (.int p3)] 3)) T95 25 #[.val (.int p1), .val (.int p2), .val (.int p3)] [(.int (1 : Int32)), (.ref r), (.ref r)] := by
        intro t ht
        refine k95 t ?_
        show Steps p.tables e below (T95.setTop (mkF m 23 #[.val (.int p1), .val (.int p2), .val (.int p3)] [(.ref r)])) t
        refine XS.dup X95.here hx rfl (hb hby dmk_23) rfl rfl ?_
        show Steps p.tables e below (T95.setTop (mkF m 24 #[.val (.int p1), .val (.int p2), .val (.int p3)] [(.ref r), (.ref r)])) t
        refine XS.iconst X95.here hx rfl (hb hby dmk_24) ?_
        exact ht
      obtain ⟨T103, h103, ak103, X103, e103, E103, A103, st103⟩ := newP X95 hx hZ (hw _ (List.mem_of_getElem? (i := 8) rfl)) e95 (g := (mkF m 25 #[.val (.int p1), .val (.int p2), .val (.int p3)] [(.int (1 : Int32)), (.ref r), (.ref r)])) rfl (hb hby dmk_25) rfl (by decide) (cap := 1) (by decide) (by decide) (by decide) (by decide)
      obtain ⟨ch, q103⟩ : ∃ z, z = h95.size := ⟨_, rfl⟩
      have ne_r_ch : r ≠ ch := by rw [q103]; exact Nat.ne_of_lt f95.lt
      have g_ch : n0 ≤ ch := by rw [q103]; exact f96
      have sz_ch : h0.size ≤ ch := by rw [q103]; exact f99.1
      rw [← q103] at A103 st103
      have f104 : n0 ≤ h103.size := Nat.le_trans f96 E103.1
      have f105 : CHr Z consts_1 s.vm h0 s.vm h103 := f97.trans (CHr.ext E103 f97.1)
      have f106 : Old Z n0 h103 := f98.ext E103
      have f107 : Keep h0 h103 [] := f99.ext E103
      have f108 : Safe Z consts_1 s.vm h103 r := Sf95.ext E103 f97.1
      have f109 : Exa Z h103 r "java/lang/String" := f95.ext E103
      have f110 : Fld Z h103 r "java/lang/String" "value" "[B" .null := f100.ext E103
      have f111 : Fld Z h103 r "java/lang/String" "coder" "B" (.int (0 : Int32)) := f101.ext E103
      have Sf103 : Safe Z consts_1 s.vm h103 ch := Safe.ext E103 f97.1 (Safe.new (by rw [q103]; exact Nat.le_refl _))
      have f103 : Arv Z h103 ch ak103 .char (1 : Int32) [(.int (0 : Int32))] (.int (0 : Int32)) := (Arv.new A103 (by decide)).pad (pad_rep [] (.int (0 : Int32)) 1)
      have k103 : Kt p e below m (s₁.setTop (entryFrame m #[(.int p1), (.int p2), (.int p3)] 3)) T103 27 #[.val (.int p1), .val (.int p2), .val (.int p3)] [(.ref ch), (.ref r), (.ref r)] := fun t ht => k102 t (st103 t ht)
      have k112 : Kt p e below m (s₁.setTop (entryFrame m #[(.int p1), (.int p2), (.int p3)] 3)) T103 30 #[.val (.int p1), .val (.int p2), .val (.int p3)] [(.int p2), (.int (0 : Int32)), (.ref ch), (.ref ch), (.ref r), (.ref r)] := by
        intro t ht
        refine k103 t ?_
        show Steps p.tables e below (T103.setTop (mkF m 27 #[.val (.int p1), .val (.int p2), .val (.int p3)] [(.ref ch), (.ref r), (.ref r)])) t
        refine XS.dup X103.here hx rfl (hb hby dmk_27) rfl rfl ?_
        show Steps p.tables e below (T103.setTop (mkF m 28 #[.val (.int p1), .val (.int p2), .val (.int p3)] [(.ref ch), (.ref ch), (.ref r), (.ref r)])) t
        refine XS.iconst X103.here hx rfl (hb hby dmk_28) ?_
        show Steps p.tables e below (T103.setTop (mkF m 29 #[.val (.int p1), .val (.int p2), .val (.int p3)] [(.int (0 : Int32)), (.ref ch), (.ref ch), (.ref r), (.ref r)])) t
        refine XS.iloadN X103.here hx rfl (hb hby dmk_29) rfl ?_
        exact ht
      obtain ⟨cl113, Ar113, qc113, Sz113, Nn113, Hh113, Gg113⟩ := id f103
      have hin113 : ¬ ((0 : Int32) < 0 ∨ cl113.slots.size ≤ ((0 : Int32)).toNatClampNeg) := inb_of Sz113 ⟨by decide, by decide⟩
      obtain ⟨T113, h113, X113, e113, W113, st113⟩ := stC X103 hx hZ e103 Ar113 (j := (0 : Int32)) hin113 (g := (mkF m 30 #[.val (.int p1), .val (.int p2), .val (.int p3)] [(.int p2), (.int (0 : Int32)), (.ref ch), (.ref ch), (.ref r), (.ref r)])) rfl rfl (hb hby dmk_30)
      have N113 := Fr.snoc X113 N0 g_ch
      have f114 : n0 ≤ h113.size := Nat.le_trans f104 (Keep.of_wr W113).1
      have f115 : CHr Z consts_1 s.vm h0 s.vm h113 := f105.trans (CHr.wr W113 Sf103 f105.1)
      have f116 : Old Z n0 h113 := f106.wr W113 g_ch
      have f117 : Keep h0 h113 [] := f107.wr W113 (Or.inr sz_ch)
      have f118 : Safe Z consts_1 s.vm h113 r := Safe.wr W113 Sf103 f105.1 f108
      have f119 : Exa Z h113 r "java/lang/String" := f109.wr W113
      have f120 : Fld Z h113 r "java/lang/String" "value" "[B" .null := f110.other W113 (Or.inl ne_r_ch)
      have f121 : Fld Z h113 r "java/lang/String" "coder" "B" (.int (0 : Int32)) := f111.other W113 (Or.inl ne_r_ch)
      have f122 : Safe Z consts_1 s.vm h113 ch := Safe.wr W113 Sf103 f105.1 Sf103
      have f123 : Arv Z h113 ch ak103 .char (1 : Int32) [(.int (nar .char p2))] (.int (0 : Int32)) := Arv.set Ar113 qc113 Sz113 Nn113 Hh113 Gg113 (fits_nar_char _) W113 0 rfl (Nat.le_of_ble_eq_true rfl)
      have k113 : Kt p e below m (s₁.setTop (entryFrame m #[(.int p1), (.int p2), (.int p3)] 3)) T113 31 #[.val (.int p1), .val (.int p2), .val (.int p3)] [(.ref ch), (.ref r), (.ref r)] := fun t ht => k112 t (st113 t ht)
      rw [own_nar r2] at f123
      have hcs : own_cs p1 p2 p3 = [p2] := by rw [h1]; rfl
      have hp : ∀ c ∈ ([p2] : List Int32), ¬ c < 0 ∧ ¬ (255 : Int32) < c := by rw [← hcs]; exact own_csr r2 r3
      obtain ⟨_, _, ⟨T124, L124, c124, n124⟩, -, X124, ⟨Lc124, hQ124, l124, y124, z124⟩, st124⟩ := X113.specialBack hx (y := (⟨"java/lang/String", "<init>", "([C)V"⟩ : MethodName)) rfl hown (mvT hZ (hw _ (List.mem_of_getElem? (i := 9) rfl))) (mvT hZ (hw _ (List.mem_of_getElem? (i := 10) rfl))) (mvT hZ (hw _ (List.mem_of_getElem? (i := 11) rfl))) (by decide) (StrChars.Road.backV (W := 1) hZ hws (kI := 4) (hw _ (List.mem_of_getElem? (i := 6) rfl)) (cs := ([p2] : List Int32)) (bs := ([p2] : List Int32).map (fun c => c.toInt8.toInt32)) (n := 1) g_r f114 f119 f120 f121 f123 (S1.ext f116.2) P5 rfl rfl (by decide) (by decide) hp rfl (by decide) (by decide)) (g := (mkF m 31 #[.val (.int p1), .val (.int p2), .val (.int p3)] [(.ref ch), (.ref r), (.ref r)])) rfl (by rw [hml]; rfl) (Steps.refl _) (a := r) (argsL := [(.ref ch)]) (rest := [(.ref r)]) (lenOf pd_7 rfl) rfl (by show 2 * 0 + _ ≤ _; exact Nat.le_of_eq rfl) (hb hby dmk_31) (fun _ _ => ⟨rfl, e113, (by decide : 2 + 1 ≤ _), (by decide : 5 + 1 ≤ _)⟩)
      dsimp only [Pt.U, Pt.locs, Pt.cells, Pt.slots] at X124 l124 y124 z124 st124 hQ124
      subst l124 y124 z124
      obtain ⟨rfl, Nq124, Kp124, Ev124, Fc124, t124, kb124, -, -, -, Fv124, Va124⟩ := hQ124
      have N124 := Fr.app N113 Nq124
      have k124 : Kt p e below m (s₁.setTop (entryFrame m #[(.int p1), (.int p2), (.int p3)] 3)) T124 34 #[.val (.int p1), .val (.int p2), .val (.int p3)] [(.ref r)] := fun t ht => k113 t (st124.trans ht)
      have f125 : n0 ≤ T124.heap.size := Nat.le_trans f114 Kp124.1
      have f126 : CHr Z consts_1 s.vm h0 s.vm T124.heap := f115.trans (CHr.keep Kp124 (sfS f118 sf0) f115.1)
      have f127 : Old Z n0 T124.heap := f116.keep Kp124 (allS g_r all0)
      have f128 : Keep h0 T124.heap [] := f117.trans Kp124 (allS (Or.inr sz_r) all0)
      have f129 : Safe Z consts_1 s.vm T124.heap r := Safe.keep Kp124 (sfS f118 sf0) f115.1 f118
      have f130 : Exa Z T124.heap r "java/lang/String" := f119.keep Kp124
      have f133 : Safe Z consts_1 s.vm T124.heap ch := Safe.keep Kp124 (sfS f118 sf0) f115.1 f122
      have f134 : Arv Z T124.heap ch ak103 .char (1 : Int32) [(.int p2)] (.int (0 : Int32)) := f123.keep Kp124 (ninS ne_r_ch.symm nin0)
      obtain ⟨fs, hr, hrun, hended, -, hW, hbk, hsame⟩ := Stand.leaveW (s := s) (vm₁ := s.vm) X124 ((State.WarmedH.refl s).since 0) (Nat.zero_le _) (v := some (.ref r)) (fun h => by rw [Bd.returns] at h; cases h)
      refine ⟨_, _, k124 _ ?_, hrun, hended, _, _, rfl, ?_, ?_, ⟨_, rfl⟩, hW, hbk, hsame.mono (by decide) (by decide)⟩
      · show Steps p.tables e below (T124.setTop (mkF m 34 #[.val (.int p1), .val (.int p2), .val (.int p3)] [(.ref r)])) _
        jvm_step X124.here [X124.here.top, hx, (hb hby dmk_34), X124.method', Bd.returns, Value.isRef, FieldType.isReference]
        first | (intro acts; rw [hr _ acts rfl rfl rfl]) | rw [hr _ _ rfl rfl rfl]
        exact Steps.refl _
      · show Qmk Z p1 p2 p3 G1 h0 n0 _ T124.heap _
        exact ⟨r, t124, kb124, rfl, N124, f128, Ev124, Fc124, Fv124, by rw [hcs]; exact Va124⟩
      · show CHr Z consts_1 s.vm s.heap T124.vm T124.heap
        rw [hh]
        exact f126.trans (CHv.at (s := s) (vm0 := s.vm) X124 hZ hEL f126.1)
    · have k135 : Kt p e below m (s₁.setTop (entryFrame m #[(.int p1), (.int p2), (.int p3)] 3)) s₁ 35 #[.val (.int p1), .val (.int p2), .val (.int p3)] [] := by
        intro t ht
        refine k93 t ?_
        show Steps p.tables e below (s₁.setTop (mkF m 17 #[.val (.int p1), .val (.int p2), .val (.int p3)] [(.int (1 : Int32)), (.int p1)])) t
        refine XS.icmpYes X0.here hx rfl (pc0 := 17) (pc' := 35) rfl (hb hby dmk_17) rfl (feq h1).2 (by decide) (by decide) ?_
        exact ht
      obtain ⟨T136, h136, X136, e136, E136, A136, D136, -, st136⟩ := newO X0 hx hZ hown (hw _ (List.mem_of_getElem? (i := 5) rfl)) (hw _ (List.mem_of_getElem? (i := 6) rfl)) (hw _ (List.mem_of_getElem? (i := 7) rfl)) e0 (g := (mkF m 35 #[.val (.int p1), .val (.int p2), .val (.int p3)] [])) rfl (hb hby dmk_35) (by decide) (by decide)
      obtain ⟨r, q136⟩ : ∃ z, z = h0.size := ⟨_, rfl⟩
      have g_r : n0 ≤ r := by rw [q136]; exact Z0
      have sz_r : h0.size ≤ r := by rw [q136]; exact K0.1
      rw [← q136] at A136 D136 st136
      have f137 : n0 ≤ h136.size := Nat.le_trans Z0 E136.1
      have f138 : CHr Z consts_1 s.vm h0 s.vm h136 := R0.trans (CHr.ext E136 R0.1)
      have f139 : Old Z n0 h136 := O.ext E136
      have f140 : Keep h0 h136 [] := K0.ext E136
      have Sf136 : Safe Z consts_1 s.vm h136 r := Safe.ext E136 R0.1 (Safe.new (by rw [q136]; exact Nat.le_refl _))
      have f136 : Exa Z h136 r "java/lang/String" := A136
      have f141 : Fld Z h136 r "java/lang/String" "value" "[B" .null := D136 (Or.inr (hw _ (List.mem_of_getElem? (i := 21) rfl))) (ty := (.array .byte)) (by decide)
      have f142 : Fld Z h136 r "java/lang/String" "coder" "B" (.int (0 : Int32)) := D136 (Or.inr (hw _ (List.mem_of_getElem? (i := 22) rfl))) (ty := .byte) (by decide)
      have k136 : Kt p e below m (s₁.setTop (entryFrame m #[(.int p1), (.int p2), (.int p3)] 3)) T136 38 #[.val (.int p1), .val (.int p2), .val (.int p3)] [(.ref r)] := fun t ht => k135 t (st136 t ht)
      have k143 : Kt p e below m (s₁.setTop (entryFrame m #[(.int p1), (.int p2), (.int p3)] 3)) T136 40 #[.val (.int p1), .val (.int p2), .val (.int p3)] [(.int (2 : Int32)), (.ref r), (.ref r)] := by
        intro t ht
        refine k136 t ?_
        show Steps p.tables e below (T136.setTop (mkF m 38 #[.val (.int p1), .val (.int p2), .val (.int p3)] [(.ref r)])) t
        refine XS.dup X136.here hx rfl (hb hby dmk_38) rfl rfl ?_
        show Steps p.tables e below (T136.setTop (mkF m 39 #[.val (.int p1), .val (.int p2), .val (.int p3)] [(.ref r), (.ref r)])) t
        refine XS.iconst X136.here hx rfl (hb hby dmk_39) ?_
        exact ht
      obtain ⟨T144, h144, ak144, X144, e144, E144, A144, st144⟩ := newP X136 hx hZ (hw _ (List.mem_of_getElem? (i := 8) rfl)) e136 (g := (mkF m 40 #[.val (.int p1), .val (.int p2), .val (.int p3)] [(.int (2 : Int32)), (.ref r), (.ref r)])) rfl (hb hby dmk_40) rfl (by decide) (cap := 2) (by decide) (by decide) (by decide) (by decide)
      obtain ⟨ch, q144⟩ : ∃ z, z = h136.size := ⟨_, rfl⟩
      have ne_r_ch : r ≠ ch := by rw [q144]; exact Nat.ne_of_lt f136.lt
      have g_ch : n0 ≤ ch := by rw [q144]; exact f137
      have sz_ch : h0.size ≤ ch := by rw [q144]; exact f140.1
      rw [← q144] at A144 st144
      have f145 : n0 ≤ h144.size := Nat.le_trans f137 E144.1
      have f146 : CHr Z consts_1 s.vm h0 s.vm h144 := f138.trans (CHr.ext E144 f138.1)
      have f147 : Old Z n0 h144 := f139.ext E144
      have f148 : Keep h0 h144 [] := f140.ext E144
      have f149 : Safe Z consts_1 s.vm h144 r := Sf136.ext E144 f138.1
      have f150 : Exa Z h144 r "java/lang/String" := f136.ext E144
      have f151 : Fld Z h144 r "java/lang/String" "value" "[B" .null := f141.ext E144
      have f152 : Fld Z h144 r "java/lang/String" "coder" "B" (.int (0 : Int32)) := f142.ext E144
      have Sf144 : Safe Z consts_1 s.vm h144 ch := Safe.ext E144 f138.1 (Safe.new (by rw [q144]; exact Nat.le_refl _))
      have f144 : Arv Z h144 ch ak144 .char (2 : Int32) [(.int (0 : Int32)), (.int (0 : Int32))] (.int (0 : Int32)) := (Arv.new A144 (by decide)).pad (pad_rep [] (.int (0 : Int32)) 2)
      have k144 : Kt p e below m (s₁.setTop (entryFrame m #[(.int p1), (.int p2), (.int p3)] 3)) T144 42 #[.val (.int p1), .val (.int p2), .val (.int p3)] [(.ref ch), (.ref r), (.ref r)] := fun t ht => k143 t (st144 t ht)
      have k153 : Kt p e below m (s₁.setTop (entryFrame m #[(.int p1), (.int p2), (.int p3)] 3)) T144 45 #[.val (.int p1), .val (.int p2), .val (.int p3)] [(.int p2), (.int (0 : Int32)), (.ref ch), (.ref ch), (.ref r), (.ref r)] := by
        intro t ht
        refine k144 t ?_
        show Steps p.tables e below (T144.setTop (mkF m 42 #[.val (.int p1), .val (.int p2), .val (.int p3)] [(.ref ch), (.ref r), (.ref r)])) t
        refine XS.dup X144.here hx rfl (hb hby dmk_42) rfl rfl ?_
        show Steps p.tables e below (T144.setTop (mkF m 43 #[.val (.int p1), .val (.int p2), .val (.int p3)] [(.ref ch), (.ref ch), (.ref r), (.ref r)])) t
        refine XS.iconst X144.here hx rfl (hb hby dmk_43) ?_
        show Steps p.tables e below (T144.setTop (mkF m 44 #[.val (.int p1), .val (.int p2), .val (.int p3)] [(.int (0 : Int32)), (.ref ch), (.ref ch), (.ref r), (.ref r)])) t
        refine XS.iloadN X144.here hx rfl (hb hby dmk_44) rfl ?_
        exact ht
      obtain ⟨cl154, Ar154, qc154, Sz154, Nn154, Hh154, Gg154⟩ := id f144
      have hin154 : ¬ ((0 : Int32) < 0 ∨ cl154.slots.size ≤ ((0 : Int32)).toNatClampNeg) := inb_of Sz154 ⟨by decide, by decide⟩
      obtain ⟨T154, h154, X154, e154, W154, st154⟩ := stC X144 hx hZ e144 Ar154 (j := (0 : Int32)) hin154 (g := (mkF m 45 #[.val (.int p1), .val (.int p2), .val (.int p3)] [(.int p2), (.int (0 : Int32)), (.ref ch), (.ref ch), (.ref r), (.ref r)])) rfl rfl (hb hby dmk_45)
      have N154 := Fr.snoc X154 N0 g_ch
      have f155 : n0 ≤ h154.size := Nat.le_trans f145 (Keep.of_wr W154).1
      have f156 : CHr Z consts_1 s.vm h0 s.vm h154 := f146.trans (CHr.wr W154 Sf144 f146.1)
      have f157 : Old Z n0 h154 := f147.wr W154 g_ch
      have f158 : Keep h0 h154 [] := f148.wr W154 (Or.inr sz_ch)
      have f159 : Safe Z consts_1 s.vm h154 r := Safe.wr W154 Sf144 f146.1 f149
      have f160 : Exa Z h154 r "java/lang/String" := f150.wr W154
      have f161 : Fld Z h154 r "java/lang/String" "value" "[B" .null := f151.other W154 (Or.inl ne_r_ch)
      have f162 : Fld Z h154 r "java/lang/String" "coder" "B" (.int (0 : Int32)) := f152.other W154 (Or.inl ne_r_ch)
      have f163 : Safe Z consts_1 s.vm h154 ch := Safe.wr W154 Sf144 f146.1 Sf144
      have f164 : Arv Z h154 ch ak144 .char (2 : Int32) [(.int (nar .char p2)), (.int (0 : Int32))] (.int (0 : Int32)) := Arv.set Ar154 qc154 Sz154 Nn154 Hh154 Gg154 (fits_nar_char _) W154 0 rfl (Nat.le_of_ble_eq_true rfl)
      have k154 : Kt p e below m (s₁.setTop (entryFrame m #[(.int p1), (.int p2), (.int p3)] 3)) T154 46 #[.val (.int p1), .val (.int p2), .val (.int p3)] [(.ref ch), (.ref r), (.ref r)] := fun t ht => k153 t (st154 t ht)
      have k165 : Kt p e below m (s₁.setTop (entryFrame m #[(.int p1), (.int p2), (.int p3)] 3)) T154 49 #[.val (.int p1), .val (.int p2), .val (.int p3)] [(.int p3), (.int (1 : Int32)), (.ref ch), (.ref ch), (.ref r), (.ref r)] := by
        intro t ht
        refine k154 t ?_
        show Steps p.tables e below (T154.setTop (mkF m 46 #[.val (.int p1), .val (.int p2), .val (.int p3)] [(.ref ch), (.ref r), (.ref r)])) t
        refine XS.dup X154.here hx rfl (hb hby dmk_46) rfl rfl ?_
        show Steps p.tables e below (T154.setTop (mkF m 47 #[.val (.int p1), .val (.int p2), .val (.int p3)] [(.ref ch), (.ref ch), (.ref r), (.ref r)])) t
        refine XS.iconst X154.here hx rfl (hb hby dmk_47) ?_
        show Steps p.tables e below (T154.setTop (mkF m 48 #[.val (.int p1), .val (.int p2), .val (.int p3)] [(.int (1 : Int32)), (.ref ch), (.ref ch), (.ref r), (.ref r)])) t
        refine XS.iloadN X154.here hx rfl (hb hby dmk_48) rfl ?_
        exact ht
      obtain ⟨cl166, Ar166, qc166, Sz166, Nn166, Hh166, Gg166⟩ := id f164
      have hin166 : ¬ ((1 : Int32) < 0 ∨ cl166.slots.size ≤ ((1 : Int32)).toNatClampNeg) := inb_of Sz166 ⟨by decide, by decide⟩
      obtain ⟨T166, h166, X166, e166, W166, st166⟩ := stC X154 hx hZ e154 Ar166 (j := (1 : Int32)) hin166 (g := (mkF m 49 #[.val (.int p1), .val (.int p2), .val (.int p3)] [(.int p3), (.int (1 : Int32)), (.ref ch), (.ref ch), (.ref r), (.ref r)])) rfl rfl (hb hby dmk_49)
      have N166 := Fr.snoc X166 N154 g_ch
      have f167 : n0 ≤ h166.size := Nat.le_trans f155 (Keep.of_wr W166).1
      have f168 : CHr Z consts_1 s.vm h0 s.vm h166 := f156.trans (CHr.wr W166 f163 f156.1)
      have f169 : Old Z n0 h166 := f157.wr W166 g_ch
      have f170 : Keep h0 h166 [] := f158.wr W166 (Or.inr sz_ch)
      have f171 : Safe Z consts_1 s.vm h166 r := Safe.wr W166 f163 f156.1 f159
      have f172 : Exa Z h166 r "java/lang/String" := f160.wr W166
      have f173 : Fld Z h166 r "java/lang/String" "value" "[B" .null := f161.other W166 (Or.inl ne_r_ch)
      have f174 : Fld Z h166 r "java/lang/String" "coder" "B" (.int (0 : Int32)) := f162.other W166 (Or.inl ne_r_ch)
      have f175 : Safe Z consts_1 s.vm h166 ch := Safe.wr W166 f163 f156.1 f163
      have f176 : Arv Z h166 ch ak144 .char (2 : Int32) [(.int (nar .char p2)), (.int (nar .char p3))] (.int (0 : Int32)) := Arv.set Ar166 qc166 Sz166 Nn166 Hh166 Gg166 (fits_nar_char _) W166 1 rfl (Nat.le_of_ble_eq_true rfl)
      have k166 : Kt p e below m (s₁.setTop (entryFrame m #[(.int p1), (.int p2), (.int p3)] 3)) T166 50 #[.val (.int p1), .val (.int p2), .val (.int p3)] [(.ref ch), (.ref r), (.ref r)] := fun t ht => k165 t (st166 t ht)
      rw [own_nar r2] at f176
      rw [own_nar r3] at f176
      have hcs : own_cs p1 p2 p3 = [p2, p3] := by rw [(h3.resolve_left h0').resolve_left h1]; rfl
      have hp : ∀ c ∈ ([p2, p3] : List Int32), ¬ c < 0 ∧ ¬ (255 : Int32) < c := by rw [← hcs]; exact own_csr r2 r3
      obtain ⟨_, _, ⟨T177, L177, c177, n177⟩, -, X177, ⟨Lc177, hQ177, l177, y177, z177⟩, st177⟩ := X166.specialBack hx (y := (⟨"java/lang/String", "<init>", "([C)V"⟩ : MethodName)) rfl hown (mvT hZ (hw _ (List.mem_of_getElem? (i := 9) rfl))) (mvT hZ (hw _ (List.mem_of_getElem? (i := 10) rfl))) (mvT hZ (hw _ (List.mem_of_getElem? (i := 11) rfl))) (by decide) (StrChars.Road.backV (W := 1) hZ hws (kI := 4) (hw _ (List.mem_of_getElem? (i := 6) rfl)) (cs := ([p2, p3] : List Int32)) (bs := ([p2, p3] : List Int32).map (fun c => c.toInt8.toInt32)) (n := 2) g_r f167 f172 f173 f174 f176 (S1.ext f169.2) P5 rfl rfl (by decide) (by decide) hp rfl (by decide) (by decide)) (g := (mkF m 50 #[.val (.int p1), .val (.int p2), .val (.int p3)] [(.ref ch), (.ref r), (.ref r)])) rfl (by rw [hml]; rfl) (Steps.refl _) (a := r) (argsL := [(.ref ch)]) (rest := [(.ref r)]) (lenOf pd_7 rfl) rfl (by show 2 * 0 + _ ≤ _; exact Nat.le_of_eq rfl) (hb hby dmk_50) (fun _ _ => ⟨rfl, e166, (by decide : 2 + 1 ≤ _), (by decide : 6 + 2 ≤ _)⟩)
      dsimp only [Pt.U, Pt.locs, Pt.cells, Pt.slots] at X177 l177 y177 z177 st177 hQ177
      subst l177 y177 z177
      obtain ⟨rfl, Nq177, Kp177, Ev177, Fc177, t177, kb177, -, -, -, Fv177, Va177⟩ := hQ177
      have N177 := Fr.app N166 Nq177
      have k177 : Kt p e below m (s₁.setTop (entryFrame m #[(.int p1), (.int p2), (.int p3)] 3)) T177 53 #[.val (.int p1), .val (.int p2), .val (.int p3)] [(.ref r)] := fun t ht => k166 t (st177.trans ht)
      have f178 : n0 ≤ T177.heap.size := Nat.le_trans f167 Kp177.1
      have f179 : CHr Z consts_1 s.vm h0 s.vm T177.heap := f168.trans (CHr.keep Kp177 (sfS f171 sf0) f168.1)
      have f180 : Old Z n0 T177.heap := f169.keep Kp177 (allS g_r all0)
      have f181 : Keep h0 T177.heap [] := f170.trans Kp177 (allS (Or.inr sz_r) all0)
      have f182 : Safe Z consts_1 s.vm T177.heap r := Safe.keep Kp177 (sfS f171 sf0) f168.1 f171
      have f183 : Exa Z T177.heap r "java/lang/String" := f172.keep Kp177
      have f186 : Safe Z consts_1 s.vm T177.heap ch := Safe.keep Kp177 (sfS f171 sf0) f168.1 f175
      have f187 : Arv Z T177.heap ch ak144 .char (2 : Int32) [(.int p2), (.int p3)] (.int (0 : Int32)) := f176.keep Kp177 (ninS ne_r_ch.symm nin0)
      obtain ⟨fs, hr, hrun, hended, -, hW, hbk, hsame⟩ := Stand.leaveW (s := s) (vm₁ := s.vm) X177 ((State.WarmedH.refl s).since 0) (Nat.zero_le _) (v := some (.ref r)) (fun h => by rw [Bd.returns] at h; cases h)
      refine ⟨_, _, k177 _ ?_, hrun, hended, _, _, rfl, ?_, ?_, ⟨_, rfl⟩, hW, hbk, hsame.mono (by decide) (by decide)⟩
      · show Steps p.tables e below (T177.setTop (mkF m 53 #[.val (.int p1), .val (.int p2), .val (.int p3)] [(.ref r)])) _
        jvm_step X177.here [X177.here.top, hx, (hb hby dmk_53), X177.method', Bd.returns, Value.isRef, FieldType.isReference]
        first | (intro acts; rw [hr _ acts rfl rfl rfl]) | rw [hr _ _ rfl rfl rfl]
        exact Steps.refl _
      · show Qmk Z p1 p2 p3 G1 h0 n0 _ T177.heap _
        exact ⟨r, t177, kb177, rfl, N177, f181, Ev177, Fc177, Fv177, by rw [hcs]; exact Va177⟩
      · show CHr Z consts_1 s.vm s.heap T177.vm T177.heap
        rw [hh]
        exact f179.trans (CHv.at (s := s) (vm0 := s.vm) X177 hZ hEL f179.1)
theorem d6_0 : decode jdk_30_method_1_code 0 = .ok (.aload_n 0, 1) := by decide +kernel
theorem d6_1 : decode jdk_30_method_1_code 1 = .ok (.invokespecial 1, 3) := by decide +kernel
theorem d6_4 : decode jdk_30_method_1_code 4 = .ok (.return_, 1) := by decide +kernel
theorem pn6 : plainName "java/lang/Record" = true := by first | (simp [plainName, overriddenIn]; done) | decide +kernel
theorem ef6 (m : MethodId) (a : Addr) : entryFrame m #[(.ref a)] 1 = mkF m 0 #[.val (.ref a)] [] := by first | (simp [entryFrame, mkF, argsToLocals, Value.category]; done) | rfl
def Q6 (Z : State) (a : Addr) (h0 : Heap) (n0 : Nat) (v : Option Value) (h : Heap) (L : List Loc) : Prop := v = none ∧ Fr n0 L ∧ h = h0
set_option maxRecDepth 65536 in
set_option maxHeartbeats 40000000 in
theorem rm6 (l : Launch) (Z : State) (a0 : Array Value) (hw : ∀ d ∈ tables_1, d.before a0 Z = true) (ws : List Jvm.Cond) (a : Addr) (h0 : Heap) (n0 : Nat) (Z0 : n0 ≤ h0.size)  :
    MetFree l (⟨"java/lang/Record", "<init>", "()V"⟩ : MethodName) (head1 (Jvm.Cond.code (⟨"java/lang/Record", "<init>", "()V"⟩ : MethodName) jdk_30_method_1_code 1 none :: ws) ({ frames := 1, cells := 0, slots := 0, locals := 12 } : Room)) (fun gs' U => gs' = #[(.ref a)] ∧ Z.Warmed39 U.vm ∧ U.heap = h0) (fun _ _ _ _ _ => True) (fun _ U o U' => ∃ v L, o = .returned v ∧ Q6 Z a h0 n0 v U'.heap L ∧ FrameEnd U o U' L ({ frames := 1, cells := 0, slots := 0, locals := 12 } : Room).cells ({ frames := 1, cells := 0, slots := 0, locals := 12 } : Room).slots) := by
  refine MetFree.of_bodySF (plainFor_of_name pn6) hisR ?_
  intro p e s m args below meth c s₁ Bd hml0 hP hK
  obtain ⟨rfl, hZ, hh⟩ := hP
  have hx := Bd.exec
  have hby := Bd.bytes
  have hml : c.maxLocals = 1 := hml0
  have hown : s.vm.findClass "java/lang/Record" = some m.cls := findClass_of_methodNamed Bd.named
  have hnm := (name_of_methodNamed Bd.named Bd.method).1
  have X0 : Stand p l e ({ frames := 1, cells := 0, slots := 0, locals := 12 } : Room) s m #[(.ref a)] below meth c s₁ [] 0 0 := Stand.of_body Bd
  have e0 : s₁.heap = h0 := by rw [← hh, Bd.state]; rfl
  have N0 := Fr.nil n0
  have k0 : Kt p e below m (s₁.setTop (entryFrame m #[(.ref a)] 1)) s₁ 0 #[.val (.ref a)] [] := fun t ht => castTop (ef6 m a) ht
  have k188 : Kt p e below m (s₁.setTop (entryFrame m #[(.ref a)] 1)) s₁ 1 #[.val (.ref a)] [(.ref a)] := by
    intro t ht
    refine k0 t ?_
    show Steps p.tables e below (s₁.setTop (mkF m 0 #[.val (.ref a)] [])) t
    refine XS.aloadN X0.here hx rfl (hb hby d6_0) rfl rfl ?_
    exact ht
  obtain ⟨T189, X189, e189, st189⟩ := initO X0 hx hZ hown (hw _ (List.mem_of_getElem? (i := 38) rfl)) (hw _ (List.mem_of_getElem? (i := 17) rfl)) (hw _ (List.mem_of_getElem? (i := 18) rfl)) e0 (g := (mkF m 1 #[.val (.ref a)] [(.ref a)])) rfl (by rw [hml]; rfl) rfl (hb hby d6_1) (by decide) (W := 0) (by show 2 * 0 + _ ≤ _; exact Nat.le_of_eq rfl) (by decide)
  have k189 : Kt p e below m (s₁.setTop (entryFrame m #[(.ref a)] 1)) T189 4 #[.val (.ref a)] [] := fun t ht => k188 t (st189 t ht)
  obtain ⟨fs, hr, hrun, hended, hW, hsame⟩ := X189.leave (v := none) (fun _ => rfl)
  refine ⟨_, _, k189 _ ?_, hrun, hended, _, _, rfl, ?_, ⟨_, rfl⟩, hW, hsame.mono (by decide) (by decide)⟩
  · exact X189.returnOut hx Bd.returns (hb hby d6_4) hr
  · show Q6 Z a h0 n0 _ T189.heap _
    rw [e189]
    exact ⟨rfl, N0, rfl⟩
theorem d5_0 : decode prog_21_method_1_code 0 = .ok (.aload_n 0, 1) := by decide +kernel
theorem d5_1 : decode prog_21_method_1_code 1 = .ok (.invokespecial 1, 3) := by decide +kernel
theorem d5_4 : decode prog_21_method_1_code 4 = .ok (.aload_n 0, 1) := by decide +kernel
theorem d5_5 : decode prog_21_method_1_code 5 = .ok (.aload_n 1, 1) := by decide +kernel
theorem d5_6 : decode prog_21_method_1_code 6 = .ok (.putfield 7, 3) := by decide +kernel
theorem d5_9 : decode prog_21_method_1_code 9 = .ok (.aload_n 0, 1) := by decide +kernel
theorem d5_10 : decode prog_21_method_1_code 10 = .ok (.aload_n 2, 1) := by decide +kernel
theorem d5_11 : decode prog_21_method_1_code 11 = .ok (.putfield 13, 3) := by decide +kernel
theorem d5_14 : decode prog_21_method_1_code 14 = .ok (.return_, 1) := by decide +kernel
theorem pn5 : plainName "com/example/clearhour/clearhour/input/Transaction$End" = true := by first | (simp [plainName, overriddenIn]; done) | decide +kernel
theorem ef5 (m : MethodId) (a : Addr) (x1 : Addr) (x2 : Addr) : entryFrame m #[(.ref a), (.ref x1), (.ref x2)] 3 = mkF m 0 #[.val (.ref a), .val (.ref x1), .val (.ref x2)] [] := by first | (simp [entryFrame, mkF, argsToLocals, Value.category]; done) | rfl
def Q5 (Z : State) (a : Addr) (x1 : Addr) (x2 : Addr) (h0 : Heap) (n0 : Nat) (v : Option Value) (h : Heap) (L : List Loc) : Prop := v = none ∧ Fr n0 L ∧ Keep h0 h [a] ∧ Fld Z h a "com/example/clearhour/clearhour/input/Transaction$End" "name" "Ljava/lang/String;" (.ref x1) ∧ Fld Z h a "com/example/clearhour/clearhour/input/Transaction$End" "pricedAt" "Ljava/lang/String;" (.ref x2)
set_option maxRecDepth 65536 in
set_option maxHeartbeats 40000000 in
theorem rm5 (l : Launch) (Z : State) (a0 : Array Value) (hw : ∀ d ∈ tables_1, d.before a0 Z = true) (ws : List Jvm.Cond) (a : Addr) (x1 : Addr) (x2 : Addr) (h0 : Heap) (n0 : Nat) (Z0 : n0 ≤ h0.size) (E_a : Exa Z h0 a "com/example/clearhour/clearhour/input/Transaction$End") (F1 : Fld Z h0 a "com/example/clearhour/clearhour/input/Transaction$End" "name" "Ljava/lang/String;" .null) (F2 : Fld Z h0 a "com/example/clearhour/clearhour/input/Transaction$End" "pricedAt" "Ljava/lang/String;" .null) (g_a : n0 ≤ a) :
    MetFree l (⟨"com/example/clearhour/clearhour/input/Transaction$End", "<init>", "(Ljava/lang/String;Ljava/lang/String;)V"⟩ : MethodName) (head1 (Jvm.Cond.code (⟨"com/example/clearhour/clearhour/input/Transaction$End", "<init>", "(Ljava/lang/String;Ljava/lang/String;)V"⟩ : MethodName) prog_21_method_1_code 3 none :: ws) ({ frames := 2, cells := 0, slots := 0, locals := 24 } : Room)) (fun gs' U => gs' = #[(.ref a), (.ref x1), (.ref x2)] ∧ Z.Warmed39 U.vm ∧ U.heap = h0) (fun _ _ _ _ _ => True) (fun _ U o U' => ∃ v L, o = .returned v ∧ Q5 Z a x1 x2 h0 n0 v U'.heap L ∧ FrameEnd U o U' L ({ frames := 2, cells := 0, slots := 0, locals := 24 } : Room).cells ({ frames := 2, cells := 0, slots := 0, locals := 24 } : Room).slots) := by
  refine MetFree.of_bodySF (plainFor_of_name pn5) hisR ?_
  intro p e s m args below meth c s₁ Bd hml0 hP hK
  obtain ⟨rfl, hZ, hh⟩ := hP
  have hx := Bd.exec
  have hby := Bd.bytes
  have hml : c.maxLocals = 3 := hml0
  have hown : s.vm.findClass "com/example/clearhour/clearhour/input/Transaction$End" = some m.cls := findClass_of_methodNamed Bd.named
  have hnm := (name_of_methodNamed Bd.named Bd.method).1
  have X0 : Stand p l e ({ frames := 2, cells := 0, slots := 0, locals := 24 } : Room) s m #[(.ref a), (.ref x1), (.ref x2)] below meth c s₁ [] 0 0 := Stand.of_body Bd
  have e0 : s₁.heap = h0 := by rw [← hh, Bd.state]; rfl
  have N0 := Fr.nil n0
  have k0 : Kt p e below m (s₁.setTop (entryFrame m #[(.ref a), (.ref x1), (.ref x2)] 3)) s₁ 0 #[.val (.ref a), .val (.ref x1), .val (.ref x2)] [] := fun t ht => castTop (ef5 m a x1 x2) ht
  have K0 : Keep h0 h0 [a] := Keep.refl _ _
  have k190 : Kt p e below m (s₁.setTop (entryFrame m #[(.ref a), (.ref x1), (.ref x2)] 3)) s₁ 1 #[.val (.ref a), .val (.ref x1), .val (.ref x2)] [(.ref a)] := by
    intro t ht
    refine k0 t ?_
    show Steps p.tables e below (s₁.setTop (mkF m 0 #[.val (.ref a), .val (.ref x1), .val (.ref x2)] [])) t
    refine XS.aloadN X0.here hx rfl (hb hby d5_0) rfl rfl ?_
    exact ht
  obtain ⟨_, _, ⟨T191, L191, c191, n191⟩, -, X191, ⟨Lc191, hQ191, l191, y191, z191⟩, st191⟩ := X0.specialBack hx (y := (⟨"java/lang/Record", "<init>", "()V"⟩ : MethodName)) rfl hown (mvT hZ (hw _ (List.mem_of_getElem? (i := 33) rfl))) (mvT hZ (hw _ (List.mem_of_getElem? (i := 34) rfl))) (mvT hZ (hw _ (List.mem_of_getElem? (i := 37) rfl))) (by decide) (backOf (W := 0) (rm6 l Z a0 hw [] a h0 n0 Z0 ) hZ (hw _ (List.mem_of_getElem? (i := 37) rfl)) (hw _ (List.mem_of_getElem? (i := 36) rfl)) (by decide) (by decide)) (g := (mkF m 1 #[.val (.ref a), .val (.ref x1), .val (.ref x2)] [(.ref a)])) rfl (by rw [hml]; rfl) (Steps.refl _) (a := a) (argsL := []) (rest := []) (lenOf pd_0 rfl) rfl (by show 2 * 0 + _ ≤ _; exact Nat.le_of_eq rfl) (hb hby d5_1) (fun _ _ => ⟨rfl, e0, (by decide : 0 + 0 ≤ _), (by decide : 0 + 0 ≤ _)⟩)
  dsimp only [Pt.U, Pt.locs, Pt.cells, Pt.slots] at X191 l191 y191 z191 st191 hQ191
  subst l191 y191 z191
  obtain ⟨rfl, Nq191, eq1⟩ := hQ191
  have N191 := Fr.app N0 Nq191
  have k191 : Kt p e below m (s₁.setTop (entryFrame m #[(.ref a), (.ref x1), (.ref x2)] 3)) T191 4 #[.val (.ref a), .val (.ref x1), .val (.ref x2)] [] := fun t ht => k190 t (st191.trans ht)
  have f192 : n0 ≤ T191.heap.size := by rw [eq1]; exact Z0
  have f193 : Exa Z T191.heap a "com/example/clearhour/clearhour/input/Transaction$End" := by rw [eq1]; exact E_a
  have f194 : Fld Z T191.heap a "com/example/clearhour/clearhour/input/Transaction$End" "name" "Ljava/lang/String;" .null := by rw [eq1]; exact F1
  have f195 : Fld Z T191.heap a "com/example/clearhour/clearhour/input/Transaction$End" "pricedAt" "Ljava/lang/String;" .null := by rw [eq1]; exact F2
  have f196 : Keep h0 T191.heap [a] := by rw [eq1]; exact K0
  have k197 : Kt p e below m (s₁.setTop (entryFrame m #[(.ref a), (.ref x1), (.ref x2)] 3)) T191 6 #[.val (.ref a), .val (.ref x1), .val (.ref x2)] [(.ref x1), (.ref a)] := by
    intro t ht
    refine k191 t ?_
    show Steps p.tables e below (T191.setTop (mkF m 4 #[.val (.ref a), .val (.ref x1), .val (.ref x2)] [])) t
    refine XS.aloadN X191.here hx rfl (hb hby d5_4) rfl rfl ?_
    show Steps p.tables e below (T191.setTop (mkF m 5 #[.val (.ref a), .val (.ref x1), .val (.ref x2)] [(.ref a)])) t
    refine XS.aloadN X191.here hx rfl (hb hby d5_5) rfl rfl ?_
    exact ht
  obtain ⟨T198, h198, X198, e198, W198, st198⟩ := putF X191 hx hZ hown (host := "") (Or.inl (hw _ (List.mem_of_getElem? (i := 39) rfl))) Via.refl rfl f194 f193 (Or.inr ⟨(hw _ (List.mem_of_getElem? (i := 40) rfl)), rfl, hnm⟩) (hw _ (List.mem_of_getElem? (i := 28) rfl)) (ty := (.object "java/lang/String")) (by decide) rfl rfl (g := (mkF m 6 #[.val (.ref a), .val (.ref x1), .val (.ref x2)] [(.ref x1), (.ref a)])) rfl rfl (hb hby d5_6)
  have N198 := Fr.snoc X198 N191 g_a
  have f199 : n0 ≤ h198.size := Nat.le_trans f192 (Keep.of_wr W198).1
  have f200 : Exa Z h198 a "com/example/clearhour/clearhour/input/Transaction$End" := f193.wr W198
  have f201 : Fld Z h198 a "com/example/clearhour/clearhour/input/Transaction$End" "name" "Ljava/lang/String;" (.ref x1) := f194.same W198
  have f202 : Fld Z h198 a "com/example/clearhour/clearhour/input/Transaction$End" "pricedAt" "Ljava/lang/String;" .null := f195.other W198 (Or.inr (slot_ne (Or.inr (hw _ (List.mem_of_getElem? (i := 42) rfl))) (Or.inr (hw _ (List.mem_of_getElem? (i := 40) rfl))) (by decide) (t := (.object "java/lang/String")) (t' := (.object "java/lang/String")) (by decide) (by decide)))
  have f203 : Keep h0 h198 [a] := f196.wr W198 (Or.inl (List.mem_of_getElem? (i := 0) rfl))
  have k198 : Kt p e below m (s₁.setTop (entryFrame m #[(.ref a), (.ref x1), (.ref x2)] 3)) T198 9 #[.val (.ref a), .val (.ref x1), .val (.ref x2)] [] := fun t ht => k197 t (st198 t ht)
  have k204 : Kt p e below m (s₁.setTop (entryFrame m #[(.ref a), (.ref x1), (.ref x2)] 3)) T198 11 #[.val (.ref a), .val (.ref x1), .val (.ref x2)] [(.ref x2), (.ref a)] := by
    intro t ht
    refine k198 t ?_
    show Steps p.tables e below (T198.setTop (mkF m 9 #[.val (.ref a), .val (.ref x1), .val (.ref x2)] [])) t
    refine XS.aloadN X198.here hx rfl (hb hby d5_9) rfl rfl ?_
    show Steps p.tables e below (T198.setTop (mkF m 10 #[.val (.ref a), .val (.ref x1), .val (.ref x2)] [(.ref a)])) t
    refine XS.aloadN X198.here hx rfl (hb hby d5_10) rfl rfl ?_
    exact ht
  obtain ⟨T205, h205, X205, e205, W205, st205⟩ := putF X198 hx hZ hown (host := "") (Or.inl (hw _ (List.mem_of_getElem? (i := 41) rfl))) Via.refl e198 f202 f200 (Or.inr ⟨(hw _ (List.mem_of_getElem? (i := 42) rfl)), rfl, hnm⟩) (hw _ (List.mem_of_getElem? (i := 28) rfl)) (ty := (.object "java/lang/String")) (by decide) rfl rfl (g := (mkF m 11 #[.val (.ref a), .val (.ref x1), .val (.ref x2)] [(.ref x2), (.ref a)])) rfl rfl (hb hby d5_11)
  have N205 := Fr.snoc X205 N198 g_a
  have f206 : n0 ≤ h205.size := Nat.le_trans f199 (Keep.of_wr W205).1
  have f207 : Exa Z h205 a "com/example/clearhour/clearhour/input/Transaction$End" := f200.wr W205
  have f208 : Fld Z h205 a "com/example/clearhour/clearhour/input/Transaction$End" "name" "Ljava/lang/String;" (.ref x1) := f201.other W205 (Or.inr (slot_ne (Or.inr (hw _ (List.mem_of_getElem? (i := 40) rfl))) (Or.inr (hw _ (List.mem_of_getElem? (i := 42) rfl))) (by decide) (t := (.object "java/lang/String")) (t' := (.object "java/lang/String")) (by decide) (by decide)))
  have f209 : Fld Z h205 a "com/example/clearhour/clearhour/input/Transaction$End" "pricedAt" "Ljava/lang/String;" (.ref x2) := f202.same W205
  have f210 : Keep h0 h205 [a] := f203.wr W205 (Or.inl (List.mem_of_getElem? (i := 0) rfl))
  have k205 : Kt p e below m (s₁.setTop (entryFrame m #[(.ref a), (.ref x1), (.ref x2)] 3)) T205 14 #[.val (.ref a), .val (.ref x1), .val (.ref x2)] [] := fun t ht => k204 t (st205 t ht)
  obtain ⟨fs, hr, hrun, hended, hW, hsame⟩ := X205.leave (v := none) (fun _ => rfl)
  refine ⟨_, _, k205 _ ?_, hrun, hended, _, _, rfl, ?_, ⟨_, rfl⟩, hW, hsame.mono (by decide) (by decide)⟩
  · exact X205.returnOut hx Bd.returns (hb hby d5_14) hr
  · show Q5 Z a x1 x2 h0 n0 _ T205.heap _
    rw [e205]
    exact ⟨rfl, N205, f210, f208, f209⟩
theorem d7_0 : decode prog_21_method_3_code 0 = .ok (.aload_n 0, 1) := by decide +kernel
theorem d7_1 : decode prog_21_method_3_code 1 = .ok (.getfield 7, 3) := by decide +kernel
theorem d7_4 : decode prog_21_method_3_code 4 = .ok (.aload_n 0, 1) := by decide +kernel
theorem d7_5 : decode prog_21_method_3_code 5 = .ok (.getfield 13, 3) := by decide +kernel
theorem d7_8 : decode prog_21_method_3_code 8 = .ok (.invokevirtual 19, 3) := by decide +kernel
theorem d7_11 : decode prog_21_method_3_code 11 = .ok (.ifCond .ne 7, 3) := by decide +kernel
theorem d7_14 : decode prog_21_method_3_code 14 = .ok (.iconst 1, 1) := by decide +kernel
theorem d7_15 : decode prog_21_method_3_code 15 = .ok (.goto 4, 3) := by decide +kernel
theorem d7_18 : decode prog_21_method_3_code 18 = .ok (.iconst 0, 1) := by decide +kernel
theorem d7_19 : decode prog_21_method_3_code 19 = .ok (.ireturn, 1) := by decide +kernel
theorem pn7 : plainName "com/example/clearhour/clearhour/input/Transaction$End" = true := by first | (simp [plainName, overriddenIn]; done) | decide +kernel
theorem ef7 (m : MethodId) (a : Addr) : entryFrame m #[(.ref a)] 1 = mkF m 0 #[.val (.ref a)] [] := by first | (simp [entryFrame, mkF, argsToLocals, Value.category]; done) | rfl
def Q7 (Z : State) (a : Addr) (x1 : Addr) (t1 : Addr) (k1 : ClassId) (cs : List Int32) (x2 : Addr) (t2 : Addr) (k2 : ClassId) (ds : List Int32) (G1 : Int32) (h0 : Heap) (n0 : Nat) (v : Option Value) (h : Heap) (L : List Loc) : Prop := v = some (.int (own_b (¬ cs = ds))) ∧ Fr n0 L ∧ h = h0
set_option maxRecDepth 65536 in
set_option maxHeartbeats 40000000 in
theorem rm7 (l : Launch) (Z : State) (a0 : Array Value) (hw : ∀ d ∈ tables_1, d.before a0 Z = true) (ws : List Jvm.Cond) (a : Addr) (x1 : Addr) (t1 : Addr) (k1 : ClassId) (cs : List Int32) (x2 : Addr) (t2 : Addr) (k2 : ClassId) (ds : List Int32) (G1 : Int32) (h0 : Heap) (n0 : Nat) (Z0 : n0 ≤ h0.size) (S1 : Sta Z Z.heap "java/lang/String" "COMPACT_STRINGS" "Z" (.int G1)) (P5 : ¬ (G1 = (0 : Int32))) (O : Old Z n0 h0) (F1 : Fld Z h0 a "com/example/clearhour/clearhour/input/Transaction$End" "name" "Ljava/lang/String;" (.ref x1)) (F2 : Fld Z h0 a "com/example/clearhour/clearhour/input/Transaction$End" "pricedAt" "Ljava/lang/String;" (.ref x2)) (uE : Exa Z h0 x1 "java/lang/String") (uC : Fld Z h0 x1 "java/lang/String" "coder" "B" (.int (0 : Int32))) (uV : Fld Z h0 x1 "java/lang/String" "value" "[B" (.ref t1)) (uK : Arv Z h0 t1 k1 .byte (Int32.ofNat cs.length) (own_by cs) (.int (0 : Int32))) (ur : ∀ c ∈ cs, own_r c) (ul : cs.length ≤ 4000) (wE : Exa Z h0 x2 "java/lang/String") (wC : Fld Z h0 x2 "java/lang/String" "coder" "B" (.int (0 : Int32))) (wV : Fld Z h0 x2 "java/lang/String" "value" "[B" (.ref t2)) (wK : Arv Z h0 t2 k2 .byte (Int32.ofNat ds.length) (own_by ds) (.int (0 : Int32))) (wr : ∀ c ∈ ds, own_r c) (wl : ds.length ≤ 4000) :
    MetFree l (⟨"com/example/clearhour/clearhour/input/Transaction$End", "isTradingHub", "()Z"⟩ : MethodName) (head1 (Jvm.Cond.code (⟨"com/example/clearhour/clearhour/input/Transaction$End", "isTradingHub", "()Z"⟩ : MethodName) prog_21_method_3_code 1 (some .boolean) :: ws) ({ frames := 2, cells := 0, slots := 0, locals := 28 } : Room)) (fun gs' U => gs' = #[(.ref a)] ∧ Z.Warmed39 U.vm ∧ U.heap = h0) (fun _ _ _ _ _ => True) (fun _ U o U' => ∃ v L, o = .returned v ∧ Q7 Z a x1 t1 k1 cs x2 t2 k2 ds G1 h0 n0 v U'.heap L ∧ FrameEnd U o U' L ({ frames := 2, cells := 0, slots := 0, locals := 28 } : Room).cells ({ frames := 2, cells := 0, slots := 0, locals := 28 } : Room).slots) := by
  refine MetFree.of_bodySF (plainFor_of_name pn7) hisR ?_
  intro p e s m args below meth c s₁ Bd hml0 hP hK
  obtain ⟨rfl, hZ, hh⟩ := hP
  have hx := Bd.exec
  have hby := Bd.bytes
  have hml : c.maxLocals = 1 := hml0
  have hown : s.vm.findClass "com/example/clearhour/clearhour/input/Transaction$End" = some m.cls := findClass_of_methodNamed Bd.named
  have hnm := (name_of_methodNamed Bd.named Bd.method).1
  have X0 : Stand p l e ({ frames := 2, cells := 0, slots := 0, locals := 28 } : Room) s m #[(.ref a)] below meth c s₁ [] 0 0 := Stand.of_body Bd
  have e0 : s₁.heap = h0 := by rw [← hh, Bd.state]; rfl
  have N0 := Fr.nil n0
  have k0 : Kt p e below m (s₁.setTop (entryFrame m #[(.ref a)] 1)) s₁ 0 #[.val (.ref a)] [] := fun t ht => castTop (ef7 m a) ht
  have heq : ∀ d ∈ StrChars.Road.wordsEq, d.before a0 Z = true := fun d hd => hw d ((by decide +kernel : ∀ d ∈ StrChars.Road.wordsEq, d ∈ tables_1) d hd)
  have k211 : Kt p e below m (s₁.setTop (entryFrame m #[(.ref a)] 1)) s₁ 1 #[.val (.ref a)] [(.ref a)] := by
    intro t ht
    refine k0 t ?_
    show Steps p.tables e below (s₁.setTop (mkF m 0 #[.val (.ref a)] [])) t
    refine XS.aloadN X0.here hx rfl (hb hby d7_0) rfl rfl ?_
    exact ht
  obtain ⟨T212, X212, e212, st212⟩ := getF X0 hx hZ hown (host := "") (Or.inl (hw _ (List.mem_of_getElem? (i := 39) rfl))) Via.refl e0 F1 (g := (mkF m 1 #[.val (.ref a)] [(.ref a)])) rfl rfl (hb hby d7_1)
  have k212 : Kt p e below m (s₁.setTop (entryFrame m #[(.ref a)] 1)) T212 4 #[.val (.ref a)] [(.ref x1)] := fun t ht => k211 t (st212 t ht)
  have k213 : Kt p e below m (s₁.setTop (entryFrame m #[(.ref a)] 1)) T212 5 #[.val (.ref a)] [(.ref a), (.ref x1)] := by
    intro t ht
    refine k212 t ?_
    show Steps p.tables e below (T212.setTop (mkF m 4 #[.val (.ref a)] [(.ref x1)])) t
    refine XS.aloadN X212.here hx rfl (hb hby d7_4) rfl rfl ?_
    exact ht
  obtain ⟨T214, X214, e214, st214⟩ := getF X212 hx hZ hown (host := "") (Or.inl (hw _ (List.mem_of_getElem? (i := 41) rfl))) Via.refl e212 F2 (g := (mkF m 5 #[.val (.ref a)] [(.ref a), (.ref x1)])) rfl rfl (hb hby d7_5)
  have k214 : Kt p e below m (s₁.setTop (entryFrame m #[(.ref a)] 1)) T214 8 #[.val (.ref a)] [(.ref x2), (.ref x1)] := fun t ht => k213 t (st214 t ht)
  obtain ⟨cq215, kq215, q215a, q215b, q215c⟩ := isOf hZ e214 uE
  obtain ⟨_, _, ⟨T215, L215, c215, n215⟩, -, X215, ⟨Lc215, hQ215, l215, y215, z215⟩, st215⟩ := X214.virtualBack hx (y := (⟨"java/lang/String", "equals", "(Ljava/lang/Object;)Z"⟩ : MethodName)) (z := (⟨"java/lang/String", "equals", "(Ljava/lang/Object;)Z"⟩ : MethodName)) hown (mvT hZ (hw _ (List.mem_of_getElem? (i := 48) rfl))) (mvT hZ (hw _ (List.mem_of_getElem? (i := 49) rfl))) (notFace_of_selects (args := #[]) (mvT hZ (hw _ (List.mem_of_getElem? (i := 51) rfl)))) (mvT hZ (hw _ (List.mem_of_getElem? (i := 51) rfl))) (mvT hZ (hw _ (List.mem_of_getElem? (i := 50) rfl))) (by decide) (StrChars.Road.eqW (W := 0) hZ heq (kI := 4) (hw _ (List.mem_of_getElem? (i := 6) rfl)) uE uV uC uK (own_cod ur) (own_up ur) ul wE wV wC wK (own_cod wr) (own_up wr) wl (S1.ext O.2) P5 (by decide) (by decide)) q215a q215c (g := (mkF m 8 #[.val (.ref a)] [(.ref x2), (.ref x1)])) rfl (by rw [hml]; rfl) (Steps.refl _) (argsL := [(.ref x2)]) (rest := []) (lenOf pd_3 rfl) rfl (by show 2 * 0 + _ ≤ _; exact Nat.le_of_eq rfl) (hb hby d7_8) (fun _ _ => ⟨rfl, e214, (by decide : 0 + 0 ≤ _), (by decide : 0 + 0 ≤ _)⟩)
  dsimp only [Pt.U, Pt.locs, Pt.cells, Pt.slots] at X215 l215 y215 z215 st215 hQ215
  subst l215 y215 z215
  obtain ⟨hz215, hL215, eq215⟩ := hQ215
  obtain rfl := own_eq2 hz215
  subst hL215
  have Nq215 := Fr.nil n0
  have N215 := Fr.app N0 Nq215
  have k215 : Kt p e below m (s₁.setTop (entryFrame m #[(.ref a)] 1)) T215 11 #[.val (.ref a)] [(.int (own_b (cs = ds)))] := fun t ht => k214 t (st215.trans ht)
  by_cases h1 : (own_b (cs = ds)) = (0 : Int32)
  · have k216 : Kt p e below m (s₁.setTop (entryFrame m #[(.ref a)] 1)) T215 19 #[.val (.ref a)] [(.int (1 : Int32))] := by
      intro t ht
      refine k215 t ?_
      show Steps p.tables e below (T215.setTop (mkF m 11 #[.val (.ref a)] [(.int (own_b (cs = ds)))])) t
      refine XS.ifNo X215.here hx rfl (hb hby d7_11) rfl ((if0 _ _).trans (teq h1).2) ?_
      show Steps p.tables e below (T215.setTop (mkF m 14 #[.val (.ref a)] [])) t
      refine XS.iconst X215.here hx rfl (hb hby d7_14) ?_
      show Steps p.tables e below (T215.setTop (mkF m 15 #[.val (.ref a)] [(.int (1 : Int32))])) t
      refine XS.goto X215.here hx rfl (pc0 := 15) (pc' := 19) rfl (hb hby d7_15) (by decide) (by decide) ?_
      exact ht
    obtain ⟨fs, hr, hrun, hended, hW, hsame⟩ := X215.leave (v := some (.int (1 : Int32))) (fun h => by rw [Bd.returns] at h; cases h)
    refine ⟨_, _, k216 _ ?_, hrun, hended, _, _, rfl, ?_, ⟨_, rfl⟩, hW, hsame.mono (by decide) (by decide)⟩
    · exact retN X215 hx (t := .boolean) Bd.returns (by simp) (hb hby d7_19) hr
    · show Q7 Z a x1 t1 k1 cs x2 t2 k2 ds G1 h0 n0 _ T215.heap _
      exact ⟨congrArg (fun z => some (Value.int z)) (own_b1 (own_bz.mp h1)), N215, eq215⟩
  · have k217 : Kt p e below m (s₁.setTop (entryFrame m #[(.ref a)] 1)) T215 19 #[.val (.ref a)] [(.int (0 : Int32))] := by
      intro t ht
      refine k215 t ?_
      show Steps p.tables e below (T215.setTop (mkF m 11 #[.val (.ref a)] [(.int (own_b (cs = ds)))])) t
      refine XS.ifYes X215.here hx rfl (pc0 := 11) (pc' := 18) rfl (hb hby d7_11) rfl ((if0 _ _).trans (feq h1).2) (by decide) (by decide) ?_
      show Steps p.tables e below (T215.setTop (mkF m 18 #[.val (.ref a)] [])) t
      refine XS.iconst X215.here hx rfl (hb hby d7_18) ?_
      exact ht
    obtain ⟨fs, hr, hrun, hended, hW, hsame⟩ := X215.leave (v := some (.int (0 : Int32))) (fun h => by rw [Bd.returns] at h; cases h)
    refine ⟨_, _, k217 _ ?_, hrun, hended, _, _, rfl, ?_, ⟨_, rfl⟩, hW, hsame.mono (by decide) (by decide)⟩
    · exact retN X215 hx (t := .boolean) Bd.returns (by simp) (hb hby d7_19) hr
    · show Q7 Z a x1 t1 k1 cs x2 t2 k2 ds G1 h0 n0 _ T215.heap _
      exact ⟨congrArg (fun z => some (Value.int z)) (own_b0 (fun q => h1 (own_bz.mpr q))), N215, eq215⟩
theorem pn0 : plainName "com/example/clearhour/clearhour/input/EndIsTradingHubPinLaw" = true := by first | (simp [plainName, overriddenIn]; done) | decide +kernel
theorem ef0 (m : MethodId) (p1 : Int32) (p2 : Int32) (p3 : Int32) (p4 : Int32) : entryFrame m #[(.int p1), (.int p2), (.int p3), (.int p4)] maxLocals = mkF m 0 #[.val (.int p1), .val (.int p2), .val (.int p3), .val (.int p4), .unset, .unset, .unset, .unset, .unset, .unset, .unset, .unset, .unset, .unset] [] := by first | (simp [entryFrame, mkF, argsToLocals, Value.category, maxLocals]; done) | rfl
def Q0 (Z : State) (p1 : Int32) (p2 : Int32) (p3 : Int32) (p4 : Int32) (G1 : Int32) (h0 : Heap) (n0 : Nat) (v : Option Value) (h : Heap) (L : List Loc) : Prop := v = some (.int 1) ∧ Fr n0 L
set_option maxRecDepth 65536 in
set_option maxHeartbeats 40000000 in
theorem rm0 (l : Launch) (Z : State) (a0 : Array Value) (hw : ∀ d ∈ tables_1, d.before a0 Z = true) (ws : List Jvm.Cond) (p1 : Int32) (p2 : Int32) (p3 : Int32) (p4 : Int32) (G1 : Int32) (h0 : Heap) (n0 : Nat) (Z0 : n0 ≤ h0.size) (hEL : EW Z a0 consts_1) (S1 : Sta Z Z.heap "java/lang/String" "COMPACT_STRINGS" "Z" (.int G1)) (P5 : ¬ (G1 = (0 : Int32))) (O : Old Z n0 h0) :
    MetFree l x (head1 (Jvm.Cond.code x code maxLocals ret :: ws) room_1) (fun gs' U => gs' = #[(.int p1), (.int p2), (.int p3), (.int p4)] ∧ Z.Warmed39 U.vm ∧ U.heap = h0 ∧ CHv Z consts_1 U.vm h0 ∧ ∀ x ∈ ([] : List Addr), Safe Z consts_1 U.vm h0 x) (fun _ _ _ _ _ => True) (fun _ U o U' => ∃ v L, o = .returned v ∧ Q0 Z p1 p2 p3 p4 G1 h0 n0 v U'.heap L ∧ CHr Z consts_1 U.vm U.heap U'.vm U'.heap ∧ ReturnedEndW U o U' L room_1.cells room_1.slots) := by
  refine MetFree.of_bodySF (plainFor_of_name pn0) hisR ?_
  intro p e s m args below meth c s₁ Bd hml0 hP hK
  obtain ⟨rfl, hZ, hh, hCH, hSf⟩ := hP
  have hx := Bd.exec
  have hby := Bd.bytes
  have hml : c.maxLocals = 14 := hml0
  have hown : s.vm.findClass "com/example/clearhour/clearhour/input/EndIsTradingHubPinLaw" = some m.cls := findClass_of_methodNamed Bd.named
  have hnm := (name_of_methodNamed Bd.named Bd.method).1
  have X0 : Stand p l e room_1 (s.setVm s.vm) m #[(.int p1), (.int p2), (.int p3), (.int p4)] below meth c s₁ [] 0 0 := Stand.of_body Bd
  have e0 : s₁.heap = h0 := by rw [← hh, Bd.state]; rfl
  have N0 := Fr.nil n0
  have k0 : Kt p e below m (s₁.setTop (entryFrame m #[(.int p1), (.int p2), (.int p3), (.int p4)] maxLocals)) s₁ 0 #[.val (.int p1), .val (.int p2), .val (.int p3), .val (.int p4), .unset, .unset, .unset, .unset, .unset, .unset, .unset, .unset, .unset, .unset] [] := fun t ht => castTop (ef0 m p1 p2 p3 p4) ht
  have R0 : CHr Z consts_1 s.vm h0 s.vm h0 := CHr.refl hCH
  have h3a := own_mod p1
  have k218 : Kt p e below m (s₁.setTop (entryFrame m #[(.int p1), (.int p2), (.int p3), (.int p4)] maxLocals)) s₁ 6 #[.val (.int p1), .val (.int p2), .val (.int p3), .val (.int p4), .unset, .unset, .unset, .unset, .unset, .unset, .unset, .unset, .unset, .unset] [(.int ((p1 &&& (2147483647 : Int32)) % (3 : Int32)))] := by
    intro t ht
    refine k0 t ?_
    show Steps p.tables e below (s₁.setTop (mkF m 0 #[.val (.int p1), .val (.int p2), .val (.int p3), .val (.int p4), .unset, .unset, .unset, .unset, .unset, .unset, .unset, .unset, .unset, .unset] [])) t
    refine XS.iloadN X0.here hx rfl (hb hby at_0) rfl ?_
    show Steps p.tables e below (s₁.setTop (mkF m 1 #[.val (.int p1), .val (.int p2), .val (.int p3), .val (.int p4), .unset, .unset, .unset, .unset, .unset, .unset, .unset, .unset, .unset, .unset] [(.int p1)])) t
    refine X0.ldcInt hx hown (mvT hZ (hw _ (List.mem_of_getElem? (i := 0) rfl))) (g := (mkF m 1 #[.val (.int p1), .val (.int p2), .val (.int p3), .val (.int p4), .unset, .unset, .unset, .unset, .unset, .unset, .unset, .unset, .unset, .unset] [(.int p1)])) rfl (hb hby at_1) _ ?_
    show Steps p.tables e below (s₁.setTop (mkF m 3 #[.val (.int p1), .val (.int p2), .val (.int p3), .val (.int p4), .unset, .unset, .unset, .unset, .unset, .unset, .unset, .unset, .unset, .unset] [(.int (2147483647 : Int32)), (.int p1)])) t
    refine XS.iand X0.here hx rfl (hb hby at_3) rfl ?_
    show Steps p.tables e below (s₁.setTop (mkF m 4 #[.val (.int p1), .val (.int p2), .val (.int p3), .val (.int p4), .unset, .unset, .unset, .unset, .unset, .unset, .unset, .unset, .unset, .unset] [(.int (p1 &&& (2147483647 : Int32)))])) t
    refine XS.iconst X0.here hx rfl (hb hby at_4) ?_
    show Steps p.tables e below (s₁.setTop (mkF m 5 #[.val (.int p1), .val (.int p2), .val (.int p3), .val (.int p4), .unset, .unset, .unset, .unset, .unset, .unset, .unset, .unset, .unset, .unset] [(.int (3 : Int32)), (.int (p1 &&& (2147483647 : Int32)))])) t
    refine iremM X0 hx rfl (hb hby at_5) rfl (by decide) ?_
    exact ht
  obtain ⟨la, hla, k219⟩ : ∃ la : Int32, la = ((p1 &&& (2147483647 : Int32)) % (3 : Int32)) ∧ Kt p e below m (s₁.setTop (entryFrame m #[(.int p1), (.int p2), (.int p3), (.int p4)] maxLocals)) s₁ 6 #[.val (.int p1), .val (.int p2), .val (.int p3), .val (.int p4), .unset, .unset, .unset, .unset, .unset, .unset, .unset, .unset, .unset, .unset] [(.int la)] := ⟨_, rfl, k218⟩
  rw [← hla] at h3a
  have h3b := own_mod ((p1.toUInt32 >>> ((8 : Int32) &&& 31).toUInt32).toInt32)
  have k220 : Kt p e below m (s₁.setTop (entryFrame m #[(.int p1), (.int p2), (.int p3), (.int p4)] maxLocals)) s₁ 17 #[.val (.int p1), .val (.int p2), .val (.int p3), .val (.int p4), .val (.int la), .unset, .unset, .unset, .unset, .unset, .unset, .unset, .unset, .unset] [(.int ((((p1.toUInt32 >>> ((8 : Int32) &&& 31).toUInt32).toInt32) &&& (2147483647 : Int32)) % (3 : Int32)))] := by
    intro t ht
    refine k219 t ?_
    show Steps p.tables e below (s₁.setTop (mkF m 6 #[.val (.int p1), .val (.int p2), .val (.int p3), .val (.int p4), .unset, .unset, .unset, .unset, .unset, .unset, .unset, .unset, .unset, .unset] [(.int la)])) t
    refine XS.istore X0.here hx rfl (hb hby at_6) rfl (l' := #[.val (.int p1), .val (.int p2), .val (.int p3), .val (.int p4), .val (.int la), .unset, .unset, .unset, .unset, .unset, .unset, .unset, .unset, .unset]) rfl ?_
    show Steps p.tables e below (s₁.setTop (mkF m 8 #[.val (.int p1), .val (.int p2), .val (.int p3), .val (.int p4), .val (.int la), .unset, .unset, .unset, .unset, .unset, .unset, .unset, .unset, .unset] [])) t
    refine XS.iloadN X0.here hx rfl (hb hby at_8) rfl ?_
    show Steps p.tables e below (s₁.setTop (mkF m 9 #[.val (.int p1), .val (.int p2), .val (.int p3), .val (.int p4), .val (.int la), .unset, .unset, .unset, .unset, .unset, .unset, .unset, .unset, .unset] [(.int p1)])) t
    refine XS.bipush X0.here hx rfl (hb hby at_9) ?_
    show Steps p.tables e below (s₁.setTop (mkF m 11 #[.val (.int p1), .val (.int p2), .val (.int p3), .val (.int p4), .val (.int la), .unset, .unset, .unset, .unset, .unset, .unset, .unset, .unset, .unset] [(.int (8 : Int32)), (.int p1)])) t
    refine XS.iushr X0.here hx rfl (hb hby at_11) rfl ?_
    show Steps p.tables e below (s₁.setTop (mkF m 12 #[.val (.int p1), .val (.int p2), .val (.int p3), .val (.int p4), .val (.int la), .unset, .unset, .unset, .unset, .unset, .unset, .unset, .unset, .unset] [(.int ((p1.toUInt32 >>> ((8 : Int32) &&& 31).toUInt32).toInt32))])) t
    refine X0.ldcInt hx hown (mvT hZ (hw _ (List.mem_of_getElem? (i := 0) rfl))) (g := (mkF m 12 #[.val (.int p1), .val (.int p2), .val (.int p3), .val (.int p4), .val (.int la), .unset, .unset, .unset, .unset, .unset, .unset, .unset, .unset, .unset] [(.int ((p1.toUInt32 >>> ((8 : Int32) &&& 31).toUInt32).toInt32))])) rfl (hb hby at_12) _ ?_
    show Steps p.tables e below (s₁.setTop (mkF m 14 #[.val (.int p1), .val (.int p2), .val (.int p3), .val (.int p4), .val (.int la), .unset, .unset, .unset, .unset, .unset, .unset, .unset, .unset, .unset] [(.int (2147483647 : Int32)), (.int ((p1.toUInt32 >>> ((8 : Int32) &&& 31).toUInt32).toInt32))])) t
    refine XS.iand X0.here hx rfl (hb hby at_14) rfl ?_
    show Steps p.tables e below (s₁.setTop (mkF m 15 #[.val (.int p1), .val (.int p2), .val (.int p3), .val (.int p4), .val (.int la), .unset, .unset, .unset, .unset, .unset, .unset, .unset, .unset, .unset] [(.int (((p1.toUInt32 >>> ((8 : Int32) &&& 31).toUInt32).toInt32) &&& (2147483647 : Int32)))])) t
    refine XS.iconst X0.here hx rfl (hb hby at_15) ?_
    show Steps p.tables e below (s₁.setTop (mkF m 16 #[.val (.int p1), .val (.int p2), .val (.int p3), .val (.int p4), .val (.int la), .unset, .unset, .unset, .unset, .unset, .unset, .unset, .unset, .unset] [(.int (3 : Int32)), (.int (((p1.toUInt32 >>> ((8 : Int32) &&& 31).toUInt32).toInt32) &&& (2147483647 : Int32)))])) t
    refine iremM X0 hx rfl (hb hby at_16) rfl (by decide) ?_
    exact ht
  obtain ⟨lb0, hlb0, k221⟩ : ∃ lb0 : Int32, lb0 = ((((p1.toUInt32 >>> ((8 : Int32) &&& 31).toUInt32).toInt32) &&& (2147483647 : Int32)) % (3 : Int32)) ∧ Kt p e below m (s₁.setTop (entryFrame m #[(.int p1), (.int p2), (.int p3), (.int p4)] maxLocals)) s₁ 17 #[.val (.int p1), .val (.int p2), .val (.int p3), .val (.int p4), .val (.int la), .unset, .unset, .unset, .unset, .unset, .unset, .unset, .unset, .unset] [(.int lb0)] := ⟨_, rfl, k220⟩
  rw [← hlb0] at h3b
  have rca0 := own_m p2
  have k222 : Kt p e below m (s₁.setTop (entryFrame m #[(.int p1), (.int p2), (.int p3), (.int p4)] maxLocals)) s₁ 25 #[.val (.int p1), .val (.int p2), .val (.int p3), .val (.int p4), .val (.int la), .val (.int lb0), .unset, .unset, .unset, .unset, .unset, .unset, .unset, .unset] [(.int ((p2 &&& (255 : Int32)).toUInt32.toUInt16.toUInt32.toInt32))] := by
    intro t ht
    refine k221 t ?_
    show Steps p.tables e below (s₁.setTop (mkF m 17 #[.val (.int p1), .val (.int p2), .val (.int p3), .val (.int p4), .val (.int la), .unset, .unset, .unset, .unset, .unset, .unset, .unset, .unset, .unset] [(.int lb0)])) t
    refine XS.istore X0.here hx rfl (hb hby at_17) rfl (l' := #[.val (.int p1), .val (.int p2), .val (.int p3), .val (.int p4), .val (.int la), .val (.int lb0), .unset, .unset, .unset, .unset, .unset, .unset, .unset, .unset]) rfl ?_
    show Steps p.tables e below (s₁.setTop (mkF m 19 #[.val (.int p1), .val (.int p2), .val (.int p3), .val (.int p4), .val (.int la), .val (.int lb0), .unset, .unset, .unset, .unset, .unset, .unset, .unset, .unset] [])) t
    refine XS.iloadN X0.here hx rfl (hb hby at_19) rfl ?_
    show Steps p.tables e below (s₁.setTop (mkF m 20 #[.val (.int p1), .val (.int p2), .val (.int p3), .val (.int p4), .val (.int la), .val (.int lb0), .unset, .unset, .unset, .unset, .unset, .unset, .unset, .unset] [(.int p2)])) t
    refine XS.sipush X0.here hx rfl (hb hby at_20) ?_
    show Steps p.tables e below (s₁.setTop (mkF m 23 #[.val (.int p1), .val (.int p2), .val (.int p3), .val (.int p4), .val (.int la), .val (.int lb0), .unset, .unset, .unset, .unset, .unset, .unset, .unset, .unset] [(.int (255 : Int32)), (.int p2)])) t
    refine XS.iand X0.here hx rfl (hb hby at_23) rfl ?_
    show Steps p.tables e below (s₁.setTop (mkF m 24 #[.val (.int p1), .val (.int p2), .val (.int p3), .val (.int p4), .val (.int la), .val (.int lb0), .unset, .unset, .unset, .unset, .unset, .unset, .unset, .unset] [(.int (p2 &&& (255 : Int32)))])) t
    refine XS.i2c X0.here hx rfl (hb hby at_24) rfl ?_
    exact ht
  obtain ⟨ca0, hca0, k223⟩ : ∃ ca0 : Int32, ca0 = ((p2 &&& (255 : Int32)).toUInt32.toUInt16.toUInt32.toInt32) ∧ Kt p e below m (s₁.setTop (entryFrame m #[(.int p1), (.int p2), (.int p3), (.int p4)] maxLocals)) s₁ 25 #[.val (.int p1), .val (.int p2), .val (.int p3), .val (.int p4), .val (.int la), .val (.int lb0), .unset, .unset, .unset, .unset, .unset, .unset, .unset, .unset] [(.int ca0)] := ⟨_, rfl, k222⟩
  rw [← hca0] at rca0
  have rca1 := own_m ((p2.toUInt32 >>> ((8 : Int32) &&& 31).toUInt32).toInt32)
  have k224 : Kt p e below m (s₁.setTop (entryFrame m #[(.int p1), (.int p2), (.int p3), (.int p4)] maxLocals)) s₁ 36 #[.val (.int p1), .val (.int p2), .val (.int p3), .val (.int p4), .val (.int la), .val (.int lb0), .val (.int ca0), .unset, .unset, .unset, .unset, .unset, .unset, .unset] [(.int ((((p2.toUInt32 >>> ((8 : Int32) &&& 31).toUInt32).toInt32) &&& (255 : Int32)).toUInt32.toUInt16.toUInt32.toInt32))] := by
    intro t ht
    refine k223 t ?_
    show Steps p.tables e below (s₁.setTop (mkF m 25 #[.val (.int p1), .val (.int p2), .val (.int p3), .val (.int p4), .val (.int la), .val (.int lb0), .unset, .unset, .unset, .unset, .unset, .unset, .unset, .unset] [(.int ca0)])) t
    refine XS.istore X0.here hx rfl (hb hby at_25) rfl (l' := #[.val (.int p1), .val (.int p2), .val (.int p3), .val (.int p4), .val (.int la), .val (.int lb0), .val (.int ca0), .unset, .unset, .unset, .unset, .unset, .unset, .unset]) rfl ?_
    show Steps p.tables e below (s₁.setTop (mkF m 27 #[.val (.int p1), .val (.int p2), .val (.int p3), .val (.int p4), .val (.int la), .val (.int lb0), .val (.int ca0), .unset, .unset, .unset, .unset, .unset, .unset, .unset] [])) t
    refine XS.iloadN X0.here hx rfl (hb hby at_27) rfl ?_
    show Steps p.tables e below (s₁.setTop (mkF m 28 #[.val (.int p1), .val (.int p2), .val (.int p3), .val (.int p4), .val (.int la), .val (.int lb0), .val (.int ca0), .unset, .unset, .unset, .unset, .unset, .unset, .unset] [(.int p2)])) t
    refine XS.bipush X0.here hx rfl (hb hby at_28) ?_
    show Steps p.tables e below (s₁.setTop (mkF m 30 #[.val (.int p1), .val (.int p2), .val (.int p3), .val (.int p4), .val (.int la), .val (.int lb0), .val (.int ca0), .unset, .unset, .unset, .unset, .unset, .unset, .unset] [(.int (8 : Int32)), (.int p2)])) t
    refine XS.iushr X0.here hx rfl (hb hby at_30) rfl ?_
    show Steps p.tables e below (s₁.setTop (mkF m 31 #[.val (.int p1), .val (.int p2), .val (.int p3), .val (.int p4), .val (.int la), .val (.int lb0), .val (.int ca0), .unset, .unset, .unset, .unset, .unset, .unset, .unset] [(.int ((p2.toUInt32 >>> ((8 : Int32) &&& 31).toUInt32).toInt32))])) t
    refine XS.sipush X0.here hx rfl (hb hby at_31) ?_
    show Steps p.tables e below (s₁.setTop (mkF m 34 #[.val (.int p1), .val (.int p2), .val (.int p3), .val (.int p4), .val (.int la), .val (.int lb0), .val (.int ca0), .unset, .unset, .unset, .unset, .unset, .unset, .unset] [(.int (255 : Int32)), (.int ((p2.toUInt32 >>> ((8 : Int32) &&& 31).toUInt32).toInt32))])) t
    refine XS.iand X0.here hx rfl (hb hby at_34) rfl ?_
    show Steps p.tables e below (s₁.setTop (mkF m 35 #[.val (.int p1), .val (.int p2), .val (.int p3), .val (.int p4), .val (.int la), .val (.int lb0), .val (.int ca0), .unset, .unset, .unset, .unset, .unset, .unset, .unset] [(.int (((p2.toUInt32 >>> ((8 : Int32) &&& 31).toUInt32).toInt32) &&& (255 : Int32)))])) t
    refine XS.i2c X0.here hx rfl (hb hby at_35) rfl ?_
    exact ht
  obtain ⟨ca1, hca1, k225⟩ : ∃ ca1 : Int32, ca1 = ((((p2.toUInt32 >>> ((8 : Int32) &&& 31).toUInt32).toInt32) &&& (255 : Int32)).toUInt32.toUInt16.toUInt32.toInt32) ∧ Kt p e below m (s₁.setTop (entryFrame m #[(.int p1), (.int p2), (.int p3), (.int p4)] maxLocals)) s₁ 36 #[.val (.int p1), .val (.int p2), .val (.int p3), .val (.int p4), .val (.int la), .val (.int lb0), .val (.int ca0), .unset, .unset, .unset, .unset, .unset, .unset, .unset] [(.int ca1)] := ⟨_, rfl, k224⟩
  rw [← hca1] at rca1
  have rcb0 := own_m p3
  have k226 : Kt p e below m (s₁.setTop (entryFrame m #[(.int p1), (.int p2), (.int p3), (.int p4)] maxLocals)) s₁ 44 #[.val (.int p1), .val (.int p2), .val (.int p3), .val (.int p4), .val (.int la), .val (.int lb0), .val (.int ca0), .val (.int ca1), .unset, .unset, .unset, .unset, .unset, .unset] [(.int ((p3 &&& (255 : Int32)).toUInt32.toUInt16.toUInt32.toInt32))] := by
    intro t ht
    refine k225 t ?_
    show Steps p.tables e below (s₁.setTop (mkF m 36 #[.val (.int p1), .val (.int p2), .val (.int p3), .val (.int p4), .val (.int la), .val (.int lb0), .val (.int ca0), .unset, .unset, .unset, .unset, .unset, .unset, .unset] [(.int ca1)])) t
    refine XS.istore X0.here hx rfl (hb hby at_36) rfl (l' := #[.val (.int p1), .val (.int p2), .val (.int p3), .val (.int p4), .val (.int la), .val (.int lb0), .val (.int ca0), .val (.int ca1), .unset, .unset, .unset, .unset, .unset, .unset]) rfl ?_
    show Steps p.tables e below (s₁.setTop (mkF m 38 #[.val (.int p1), .val (.int p2), .val (.int p3), .val (.int p4), .val (.int la), .val (.int lb0), .val (.int ca0), .val (.int ca1), .unset, .unset, .unset, .unset, .unset, .unset] [])) t
    refine XS.iloadN X0.here hx rfl (hb hby at_38) rfl ?_
    show Steps p.tables e below (s₁.setTop (mkF m 39 #[.val (.int p1), .val (.int p2), .val (.int p3), .val (.int p4), .val (.int la), .val (.int lb0), .val (.int ca0), .val (.int ca1), .unset, .unset, .unset, .unset, .unset, .unset] [(.int p3)])) t
    refine XS.sipush X0.here hx rfl (hb hby at_39) ?_
    show Steps p.tables e below (s₁.setTop (mkF m 42 #[.val (.int p1), .val (.int p2), .val (.int p3), .val (.int p4), .val (.int la), .val (.int lb0), .val (.int ca0), .val (.int ca1), .unset, .unset, .unset, .unset, .unset, .unset] [(.int (255 : Int32)), (.int p3)])) t
    refine XS.iand X0.here hx rfl (hb hby at_42) rfl ?_
    show Steps p.tables e below (s₁.setTop (mkF m 43 #[.val (.int p1), .val (.int p2), .val (.int p3), .val (.int p4), .val (.int la), .val (.int lb0), .val (.int ca0), .val (.int ca1), .unset, .unset, .unset, .unset, .unset, .unset] [(.int (p3 &&& (255 : Int32)))])) t
    refine XS.i2c X0.here hx rfl (hb hby at_43) rfl ?_
    exact ht
  obtain ⟨cb0, hcb0, k227⟩ : ∃ cb0 : Int32, cb0 = ((p3 &&& (255 : Int32)).toUInt32.toUInt16.toUInt32.toInt32) ∧ Kt p e below m (s₁.setTop (entryFrame m #[(.int p1), (.int p2), (.int p3), (.int p4)] maxLocals)) s₁ 44 #[.val (.int p1), .val (.int p2), .val (.int p3), .val (.int p4), .val (.int la), .val (.int lb0), .val (.int ca0), .val (.int ca1), .unset, .unset, .unset, .unset, .unset, .unset] [(.int cb0)] := ⟨_, rfl, k226⟩
  rw [← hcb0] at rcb0
  have rcb1 := own_m ((p3.toUInt32 >>> ((8 : Int32) &&& 31).toUInt32).toInt32)
  have k228 : Kt p e below m (s₁.setTop (entryFrame m #[(.int p1), (.int p2), (.int p3), (.int p4)] maxLocals)) s₁ 55 #[.val (.int p1), .val (.int p2), .val (.int p3), .val (.int p4), .val (.int la), .val (.int lb0), .val (.int ca0), .val (.int ca1), .val (.int cb0), .unset, .unset, .unset, .unset, .unset] [(.int ((((p3.toUInt32 >>> ((8 : Int32) &&& 31).toUInt32).toInt32) &&& (255 : Int32)).toUInt32.toUInt16.toUInt32.toInt32))] := by
    intro t ht
    refine k227 t ?_
    show Steps p.tables e below (s₁.setTop (mkF m 44 #[.val (.int p1), .val (.int p2), .val (.int p3), .val (.int p4), .val (.int la), .val (.int lb0), .val (.int ca0), .val (.int ca1), .unset, .unset, .unset, .unset, .unset, .unset] [(.int cb0)])) t
    refine XS.istore X0.here hx rfl (hb hby at_44) rfl (l' := #[.val (.int p1), .val (.int p2), .val (.int p3), .val (.int p4), .val (.int la), .val (.int lb0), .val (.int ca0), .val (.int ca1), .val (.int cb0), .unset, .unset, .unset, .unset, .unset]) rfl ?_
    show Steps p.tables e below (s₁.setTop (mkF m 46 #[.val (.int p1), .val (.int p2), .val (.int p3), .val (.int p4), .val (.int la), .val (.int lb0), .val (.int ca0), .val (.int ca1), .val (.int cb0), .unset, .unset, .unset, .unset, .unset] [])) t
    refine XS.iloadN X0.here hx rfl (hb hby at_46) rfl ?_
    show Steps p.tables e below (s₁.setTop (mkF m 47 #[.val (.int p1), .val (.int p2), .val (.int p3), .val (.int p4), .val (.int la), .val (.int lb0), .val (.int ca0), .val (.int ca1), .val (.int cb0), .unset, .unset, .unset, .unset, .unset] [(.int p3)])) t
    refine XS.bipush X0.here hx rfl (hb hby at_47) ?_
    show Steps p.tables e below (s₁.setTop (mkF m 49 #[.val (.int p1), .val (.int p2), .val (.int p3), .val (.int p4), .val (.int la), .val (.int lb0), .val (.int ca0), .val (.int ca1), .val (.int cb0), .unset, .unset, .unset, .unset, .unset] [(.int (8 : Int32)), (.int p3)])) t
    refine XS.iushr X0.here hx rfl (hb hby at_49) rfl ?_
    show Steps p.tables e below (s₁.setTop (mkF m 50 #[.val (.int p1), .val (.int p2), .val (.int p3), .val (.int p4), .val (.int la), .val (.int lb0), .val (.int ca0), .val (.int ca1), .val (.int cb0), .unset, .unset, .unset, .unset, .unset] [(.int ((p3.toUInt32 >>> ((8 : Int32) &&& 31).toUInt32).toInt32))])) t
    refine XS.sipush X0.here hx rfl (hb hby at_50) ?_
    show Steps p.tables e below (s₁.setTop (mkF m 53 #[.val (.int p1), .val (.int p2), .val (.int p3), .val (.int p4), .val (.int la), .val (.int lb0), .val (.int ca0), .val (.int ca1), .val (.int cb0), .unset, .unset, .unset, .unset, .unset] [(.int (255 : Int32)), (.int ((p3.toUInt32 >>> ((8 : Int32) &&& 31).toUInt32).toInt32))])) t
    refine XS.iand X0.here hx rfl (hb hby at_53) rfl ?_
    show Steps p.tables e below (s₁.setTop (mkF m 54 #[.val (.int p1), .val (.int p2), .val (.int p3), .val (.int p4), .val (.int la), .val (.int lb0), .val (.int ca0), .val (.int ca1), .val (.int cb0), .unset, .unset, .unset, .unset, .unset] [(.int (((p3.toUInt32 >>> ((8 : Int32) &&& 31).toUInt32).toInt32) &&& (255 : Int32)))])) t
    refine XS.i2c X0.here hx rfl (hb hby at_54) rfl ?_
    exact ht
  obtain ⟨cb1, hcb1, k229⟩ : ∃ cb1 : Int32, cb1 = ((((p3.toUInt32 >>> ((8 : Int32) &&& 31).toUInt32).toInt32) &&& (255 : Int32)).toUInt32.toUInt16.toUInt32.toInt32) ∧ Kt p e below m (s₁.setTop (entryFrame m #[(.int p1), (.int p2), (.int p3), (.int p4)] maxLocals)) s₁ 55 #[.val (.int p1), .val (.int p2), .val (.int p3), .val (.int p4), .val (.int la), .val (.int lb0), .val (.int ca0), .val (.int ca1), .val (.int cb0), .unset, .unset, .unset, .unset, .unset] [(.int cb1)] := ⟨_, rfl, k228⟩
  rw [← hcb1] at rcb1
  have k230 : Kt p e below m (s₁.setTop (entryFrame m #[(.int p1), (.int p2), (.int p3), (.int p4)] maxLocals)) s₁ 60 #[.val (.int p1), .val (.int p2), .val (.int p3), .val (.int p4), .val (.int la), .val (.int lb0), .val (.int ca0), .val (.int ca1), .val (.int cb0), .val (.int cb1), .unset, .unset, .unset, .unset] [(.int (p4 &&& (1 : Int32)))] := by
    intro t ht
    refine k229 t ?_
    show Steps p.tables e below (s₁.setTop (mkF m 55 #[.val (.int p1), .val (.int p2), .val (.int p3), .val (.int p4), .val (.int la), .val (.int lb0), .val (.int ca0), .val (.int ca1), .val (.int cb0), .unset, .unset, .unset, .unset, .unset] [(.int cb1)])) t
    refine XS.istore X0.here hx rfl (hb hby at_55) rfl (l' := #[.val (.int p1), .val (.int p2), .val (.int p3), .val (.int p4), .val (.int la), .val (.int lb0), .val (.int ca0), .val (.int ca1), .val (.int cb0), .val (.int cb1), .unset, .unset, .unset, .unset]) rfl ?_
    show Steps p.tables e below (s₁.setTop (mkF m 57 #[.val (.int p1), .val (.int p2), .val (.int p3), .val (.int p4), .val (.int la), .val (.int lb0), .val (.int ca0), .val (.int ca1), .val (.int cb0), .val (.int cb1), .unset, .unset, .unset, .unset] [])) t
    refine XS.iloadN X0.here hx rfl (hb hby at_57) rfl ?_
    show Steps p.tables e below (s₁.setTop (mkF m 58 #[.val (.int p1), .val (.int p2), .val (.int p3), .val (.int p4), .val (.int la), .val (.int lb0), .val (.int ca0), .val (.int ca1), .val (.int cb0), .val (.int cb1), .unset, .unset, .unset, .unset] [(.int p4)])) t
    refine XS.iconst X0.here hx rfl (hb hby at_58) ?_
    show Steps p.tables e below (s₁.setTop (mkF m 59 #[.val (.int p1), .val (.int p2), .val (.int p3), .val (.int p4), .val (.int la), .val (.int lb0), .val (.int ca0), .val (.int ca1), .val (.int cb0), .val (.int cb1), .unset, .unset, .unset, .unset] [(.int (1 : Int32)), (.int p4)])) t
    refine XS.iand X0.here hx rfl (hb hby at_59) rfl ?_
    exact ht
  obtain ⟨lb, d0, d1, hp231, k231⟩ : ∃ (lb : Int32) (d0 : Int32) (d1 : Int32), (own_3 lb ∧ own_r d0 ∧ own_r d1) ∧ Kt p e below m (s₁.setTop (entryFrame m #[(.int p1), (.int p2), (.int p3), (.int p4)] maxLocals)) s₁ 75 #[.val (.int p1), .val (.int p2), .val (.int p3), .val (.int p4), .val (.int la), .val (.int lb), .val (.int ca0), .val (.int ca1), .val (.int d0), .val (.int d1), .unset, .unset, .unset, .unset] [] := by
    by_cases hj232 : (p4 &&& (1 : Int32)) = (0 : Int32)
    · have k233 : Kt p e below m (s₁.setTop (entryFrame m #[(.int p1), (.int p2), (.int p3), (.int p4)] maxLocals)) s₁ 75 #[.val (.int p1), .val (.int p2), .val (.int p3), .val (.int p4), .val (.int la), .val (.int lb0), .val (.int ca0), .val (.int ca1), .val (.int cb0), .val (.int cb1), .unset, .unset, .unset, .unset] [] := by
        intro t ht
        refine k230 t ?_
        show Steps p.tables e below (s₁.setTop (mkF m 60 #[.val (.int p1), .val (.int p2), .val (.int p3), .val (.int p4), .val (.int la), .val (.int lb0), .val (.int ca0), .val (.int ca1), .val (.int cb0), .val (.int cb1), .unset, .unset, .unset, .unset] [(.int (p4 &&& (1 : Int32)))])) t
        refine XS.ifYes X0.here hx rfl (pc0 := 60) (pc' := 75) rfl (hb hby at_60) rfl ((if0 _ _).trans (teq hj232).1) (by decide) (by decide) ?_
        exact ht
      exact ⟨lb0, cb0, cb1, ⟨h3b, rcb0, rcb1⟩, k233⟩
    · have k234 : Kt p e below m (s₁.setTop (entryFrame m #[(.int p1), (.int p2), (.int p3), (.int p4)] maxLocals)) s₁ 75 #[.val (.int p1), .val (.int p2), .val (.int p3), .val (.int p4), .val (.int la), .val (.int la), .val (.int ca0), .val (.int ca1), .val (.int ca0), .val (.int ca1), .unset, .unset, .unset, .unset] [] := by
        intro t ht
        refine k230 t ?_
        show Steps p.tables e below (s₁.setTop (mkF m 60 #[.val (.int p1), .val (.int p2), .val (.int p3), .val (.int p4), .val (.int la), .val (.int lb0), .val (.int ca0), .val (.int ca1), .val (.int cb0), .val (.int cb1), .unset, .unset, .unset, .unset] [(.int (p4 &&& (1 : Int32)))])) t
        refine XS.ifNo X0.here hx rfl (hb hby at_60) rfl ((if0 _ _).trans (feq hj232).1) ?_
        show Steps p.tables e below (s₁.setTop (mkF m 63 #[.val (.int p1), .val (.int p2), .val (.int p3), .val (.int p4), .val (.int la), .val (.int lb0), .val (.int ca0), .val (.int ca1), .val (.int cb0), .val (.int cb1), .unset, .unset, .unset, .unset] [])) t
        refine XS.iload X0.here hx rfl (hb hby at_63) rfl ?_
        show Steps p.tables e below (s₁.setTop (mkF m 65 #[.val (.int p1), .val (.int p2), .val (.int p3), .val (.int p4), .val (.int la), .val (.int lb0), .val (.int ca0), .val (.int ca1), .val (.int cb0), .val (.int cb1), .unset, .unset, .unset, .unset] [(.int la)])) t
        refine XS.istore X0.here hx rfl (hb hby at_65) rfl (l' := #[.val (.int p1), .val (.int p2), .val (.int p3), .val (.int p4), .val (.int la), .val (.int la), .val (.int ca0), .val (.int ca1), .val (.int cb0), .val (.int cb1), .unset, .unset, .unset, .unset]) rfl ?_
        show Steps p.tables e below (s₁.setTop (mkF m 67 #[.val (.int p1), .val (.int p2), .val (.int p3), .val (.int p4), .val (.int la), .val (.int la), .val (.int ca0), .val (.int ca1), .val (.int cb0), .val (.int cb1), .unset, .unset, .unset, .unset] [])) t
        refine XS.iload X0.here hx rfl (hb hby at_67) rfl ?_
        show Steps p.tables e below (s₁.setTop (mkF m 69 #[.val (.int p1), .val (.int p2), .val (.int p3), .val (.int p4), .val (.int la), .val (.int la), .val (.int ca0), .val (.int ca1), .val (.int cb0), .val (.int cb1), .unset, .unset, .unset, .unset] [(.int ca0)])) t
        refine XS.istore X0.here hx rfl (hb hby at_69) rfl (l' := #[.val (.int p1), .val (.int p2), .val (.int p3), .val (.int p4), .val (.int la), .val (.int la), .val (.int ca0), .val (.int ca1), .val (.int ca0), .val (.int cb1), .unset, .unset, .unset, .unset]) rfl ?_
        show Steps p.tables e below (s₁.setTop (mkF m 71 #[.val (.int p1), .val (.int p2), .val (.int p3), .val (.int p4), .val (.int la), .val (.int la), .val (.int ca0), .val (.int ca1), .val (.int ca0), .val (.int cb1), .unset, .unset, .unset, .unset] [])) t
        refine XS.iload X0.here hx rfl (hb hby at_71) rfl ?_
        show Steps p.tables e below (s₁.setTop (mkF m 73 #[.val (.int p1), .val (.int p2), .val (.int p3), .val (.int p4), .val (.int la), .val (.int la), .val (.int ca0), .val (.int ca1), .val (.int ca0), .val (.int cb1), .unset, .unset, .unset, .unset] [(.int ca1)])) t
        refine XS.istore X0.here hx rfl (hb hby at_73) rfl (l' := #[.val (.int p1), .val (.int p2), .val (.int p3), .val (.int p4), .val (.int la), .val (.int la), .val (.int ca0), .val (.int ca1), .val (.int ca0), .val (.int ca1), .unset, .unset, .unset, .unset]) rfl ?_
        exact ht
      exact ⟨la, ca0, ca1, ⟨h3a, rca0, rca1⟩, k234⟩
  obtain ⟨h3l, rd0, rd1⟩ := hp231
  have k235 : Kt p e below m (s₁.setTop (entryFrame m #[(.int p1), (.int p2), (.int p3), (.int p4)] maxLocals)) s₁ 81 #[.val (.int p1), .val (.int p2), .val (.int p3), .val (.int p4), .val (.int la), .val (.int lb), .val (.int ca0), .val (.int ca1), .val (.int d0), .val (.int d1), .unset, .unset, .unset, .unset] [(.int ca1), (.int ca0), (.int la)] := by
    intro t ht
    refine k231 t ?_
    show Steps p.tables e below (s₁.setTop (mkF m 75 #[.val (.int p1), .val (.int p2), .val (.int p3), .val (.int p4), .val (.int la), .val (.int lb), .val (.int ca0), .val (.int ca1), .val (.int d0), .val (.int d1), .unset, .unset, .unset, .unset] [])) t
    refine XS.iload X0.here hx rfl (hb hby at_75) rfl ?_
    show Steps p.tables e below (s₁.setTop (mkF m 77 #[.val (.int p1), .val (.int p2), .val (.int p3), .val (.int p4), .val (.int la), .val (.int lb), .val (.int ca0), .val (.int ca1), .val (.int d0), .val (.int d1), .unset, .unset, .unset, .unset] [(.int la)])) t
    refine XS.iload X0.here hx rfl (hb hby at_77) rfl ?_
    show Steps p.tables e below (s₁.setTop (mkF m 79 #[.val (.int p1), .val (.int p2), .val (.int p3), .val (.int p4), .val (.int la), .val (.int lb), .val (.int ca0), .val (.int ca1), .val (.int d0), .val (.int d1), .unset, .unset, .unset, .unset] [(.int ca0), (.int la)])) t
    refine XS.iload X0.here hx rfl (hb hby at_79) rfl ?_
    exact ht
  obtain ⟨_, _, ⟨T236, L236, c236, n236⟩, -, X236, hs236, hg236, ⟨Lc236, hQ236, l236, y236, z236, hR236⟩, st236⟩ := callSS (s := s.setVm s.vm) X0 hx (y := (⟨"com/example/clearhour/clearhour/input/EndIsTradingHubPinLaw", "mk", "(ICC)Ljava/lang/String;"⟩ : MethodName)) hown (mvT hZ (hw _ (List.mem_of_getElem? (i := 1) rfl))) (mvT hZ (hw _ (List.mem_of_getElem? (i := 2) rfl))) (mvT hZ (hw _ (List.mem_of_getElem? (i := 3) rfl))) (mvT hZ (hw _ (List.mem_of_getElem? (i := 4) rfl))) (by decide) (own_backH (s := s) (vm0 := s.vm) (W := 0) (rmmk l Z a0 hw [] la ca0 ca1 G1 h0 n0 Z0 hEL S1 P5 O h3a rca0 rca1) hZ (hw _ (List.mem_of_getElem? (i := 4) rfl)) (hw _ (List.mem_of_getElem? (i := 3) rfl)) (by decide) (by decide) hEL R0.1 all0) (g := (mkF m 81 #[.val (.int p1), .val (.int p2), .val (.int p3), .val (.int p4), .val (.int la), .val (.int lb), .val (.int ca0), .val (.int ca1), .val (.int d0), .val (.int d1), .unset, .unset, .unset, .unset] [(.int ca1), (.int ca0), (.int la)])) rfl (by rw [hml]; rfl) (argsL := [(.int la), (.int ca0), (.int ca1)]) (rest := []) (lenOf pd_2 rfl) rfl (by show 2 * 0 + _ ≤ _; exact Nat.le_of_eq rfl) (hb hby at_81) (fun _ _ => ⟨rfl, e0, (by decide : 0 + 6 ≤ _), (by decide : 0 + 12 ≤ _)⟩)
  dsimp only [Pt.U, Pt.locs, Pt.cells, Pt.slots] at X236 hs236 hg236 l236 y236 z236 st236 hQ236 hR236
  subst l236 y236 z236
  have hS236 : s.Since T236.vm T236.heap.size := foldS ((State.WarmedH.refl s).since 0) (Nat.zero_le _) hs236 hg236
  have hZ236 : Z.Warmed39 T236.vm := State.Warmed39.trans (t := s.setVm s.vm) hZ hs236.1
  have hown236 : T236.vm.findClass "com/example/clearhour/clearhour/input/EndIsTradingHubPinLaw" = some m.cls := by rw [hs236.1.alike.findClass]; exact hown
  obtain ⟨x1, t1, k1, rfl, Nq236, Kp236, Ex1, Cx1, Vx1, Ax1⟩ := hQ236
  have N236 := Fr.app N0 Nq236
  have k236 : Kt p e below m (s₁.setTop (entryFrame m #[(.int p1), (.int p2), (.int p3), (.int p4)] maxLocals)) T236 84 #[.val (.int p1), .val (.int p2), .val (.int p3), .val (.int p4), .val (.int la), .val (.int lb), .val (.int ca0), .val (.int ca1), .val (.int d0), .val (.int d1), .unset, .unset, .unset, .unset] [(.ref x1)] := fun t ht => k235 t (st236.trans ht)
  have f237 : n0 ≤ T236.heap.size := Nat.le_trans Z0 Kp236.1
  have f238 : CHr Z consts_1 s.vm h0 T236.vm T236.heap := R0.trans hR236
  have f239 : Old Z n0 T236.heap := O.keep Kp236 all0
  have hk236 : T236.heap.size ≤ T236.heap.size := Nat.le_refl _
  have k240 : Kt p e below m (s₁.setTop (entryFrame m #[(.int p1), (.int p2), (.int p3), (.int p4)] maxLocals)) T236 92 #[.val (.int p1), .val (.int p2), .val (.int p3), .val (.int p4), .val (.int la), .val (.int lb), .val (.int ca0), .val (.int ca1), .val (.int d0), .val (.int d1), .val (.ref x1), .unset, .unset, .unset] [(.int d1), (.int d0), (.int lb)] := by
    intro t ht
    refine k236 t ?_
    show Steps p.tables e below (T236.setTop (mkF m 84 #[.val (.int p1), .val (.int p2), .val (.int p3), .val (.int p4), .val (.int la), .val (.int lb), .val (.int ca0), .val (.int ca1), .val (.int d0), .val (.int d1), .unset, .unset, .unset, .unset] [(.ref x1)])) t
    refine XS.astore X236.here hx rfl (hb hby at_84) rfl rfl (l' := #[.val (.int p1), .val (.int p2), .val (.int p3), .val (.int p4), .val (.int la), .val (.int lb), .val (.int ca0), .val (.int ca1), .val (.int d0), .val (.int d1), .val (.ref x1), .unset, .unset, .unset]) rfl ?_
    show Steps p.tables e below (T236.setTop (mkF m 86 #[.val (.int p1), .val (.int p2), .val (.int p3), .val (.int p4), .val (.int la), .val (.int lb), .val (.int ca0), .val (.int ca1), .val (.int d0), .val (.int d1), .val (.ref x1), .unset, .unset, .unset] [])) t
    refine XS.iload X236.here hx rfl (hb hby at_86) rfl ?_
    show Steps p.tables e below (T236.setTop (mkF m 88 #[.val (.int p1), .val (.int p2), .val (.int p3), .val (.int p4), .val (.int la), .val (.int lb), .val (.int ca0), .val (.int ca1), .val (.int d0), .val (.int d1), .val (.ref x1), .unset, .unset, .unset] [(.int lb)])) t
    refine XS.iload X236.here hx rfl (hb hby at_88) rfl ?_
    show Steps p.tables e below (T236.setTop (mkF m 90 #[.val (.int p1), .val (.int p2), .val (.int p3), .val (.int p4), .val (.int la), .val (.int lb), .val (.int ca0), .val (.int ca1), .val (.int d0), .val (.int d1), .val (.ref x1), .unset, .unset, .unset] [(.int d0), (.int lb)])) t
    refine XS.iload X236.here hx rfl (hb hby at_90) rfl ?_
    exact ht
  obtain ⟨_, _, ⟨T241, L241, c241, n241⟩, -, X241, hs241, hg241, ⟨Lc241, hQ241, l241, y241, z241, hR241⟩, st241⟩ := callSS (s := s.setVm T236.vm) X236 hx (y := (⟨"com/example/clearhour/clearhour/input/EndIsTradingHubPinLaw", "mk", "(ICC)Ljava/lang/String;"⟩ : MethodName)) hown236 (mvT hZ236 (hw _ (List.mem_of_getElem? (i := 1) rfl))) (mvT hZ236 (hw _ (List.mem_of_getElem? (i := 2) rfl))) (mvT hZ236 (hw _ (List.mem_of_getElem? (i := 3) rfl))) (mvT hZ236 (hw _ (List.mem_of_getElem? (i := 4) rfl))) (by decide) (own_backH (s := s) (vm0 := T236.vm) (W := 0) (rmmk l Z a0 hw [] lb d0 d1 G1 T236.heap n0 f237 hEL S1 P5 f239 h3l rd0 rd1) hZ236 (hw _ (List.mem_of_getElem? (i := 4) rfl)) (hw _ (List.mem_of_getElem? (i := 3) rfl)) (by decide) (by decide) hEL f238.1 all0) (g := (mkF m 92 #[.val (.int p1), .val (.int p2), .val (.int p3), .val (.int p4), .val (.int la), .val (.int lb), .val (.int ca0), .val (.int ca1), .val (.int d0), .val (.int d1), .val (.ref x1), .unset, .unset, .unset] [(.int d1), (.int d0), (.int lb)])) rfl (by rw [hml]; rfl) (argsL := [(.int lb), (.int d0), (.int d1)]) (rest := []) (lenOf pd_2 rfl) rfl (by show 2 * 0 + _ ≤ _; exact Nat.le_of_eq rfl) (hb hby at_92) (fun _ _ => ⟨rfl, rfl, (by decide : 6 + 6 ≤ _), (by decide : 12 + 12 ≤ _)⟩)
  dsimp only [Pt.U, Pt.locs, Pt.cells, Pt.slots] at X241 hs241 hg241 l241 y241 z241 st241 hQ241 hR241
  subst l241 y241 z241
  have hS241 : s.Since T241.vm T241.heap.size := foldS hS236 (by exact hk236) hs241 hg241
  have hZ241 : Z.Warmed39 T241.vm := State.Warmed39.trans (t := s.setVm T236.vm) hZ236 hs241.1
  have hown241 : T241.vm.findClass "com/example/clearhour/clearhour/input/EndIsTradingHubPinLaw" = some m.cls := by rw [hs241.1.alike.findClass]; exact hown236
  obtain ⟨x2, t2, k2, rfl, Nq241, Kp241, Ex2, Cx2, Vx2, Ax2⟩ := hQ241
  have N241 := Fr.app N236 Nq241
  have k241 : Kt p e below m (s₁.setTop (entryFrame m #[(.int p1), (.int p2), (.int p3), (.int p4)] maxLocals)) T241 95 #[.val (.int p1), .val (.int p2), .val (.int p3), .val (.int p4), .val (.int la), .val (.int lb), .val (.int ca0), .val (.int ca1), .val (.int d0), .val (.int d1), .val (.ref x1), .unset, .unset, .unset] [(.ref x2)] := fun t ht => k240 t (st241.trans ht)
  have f242 : n0 ≤ T241.heap.size := Nat.le_trans f237 Kp241.1
  have f243 : CHr Z consts_1 s.vm h0 T241.vm T241.heap := f238.trans hR241
  have f244 : Old Z n0 T241.heap := f239.keep Kp241 all0
  have f245 : T236.heap.size ≤ T241.heap.size := Nat.le_trans hk236 Kp241.1
  have f246 : Exa Z T241.heap x1 "java/lang/String" := Ex1.keep Kp241
  have f247 : Fld Z T241.heap x1 "java/lang/String" "coder" "B" (.int (0 : Int32)) := Cx1.keep Kp241 nin0
  have f248 : Fld Z T241.heap x1 "java/lang/String" "value" "[B" (.ref t1) := Vx1.keep Kp241 nin0
  have f249 : Arv Z T241.heap t1 k1 .byte (Int32.ofNat (own_cs la ca0 ca1).length) (own_by (own_cs la ca0 ca1)) (.int (0 : Int32)) := Ax1.keep Kp241 nin0
  have hk241 : T241.heap.size ≤ T241.heap.size := Nat.le_refl _
  have k250 : Kt p e below m (s₁.setTop (entryFrame m #[(.int p1), (.int p2), (.int p3), (.int p4)] maxLocals)) T241 101 #[.val (.int p1), .val (.int p2), .val (.int p3), .val (.int p4), .val (.int la), .val (.int lb), .val (.int ca0), .val (.int ca1), .val (.int d0), .val (.int d1), .val (.ref x1), .val (.ref x2), .unset, .unset] [(.int lb), (.int la)] := by
    intro t ht
    refine k241 t ?_
    show Steps p.tables e below (T241.setTop (mkF m 95 #[.val (.int p1), .val (.int p2), .val (.int p3), .val (.int p4), .val (.int la), .val (.int lb), .val (.int ca0), .val (.int ca1), .val (.int d0), .val (.int d1), .val (.ref x1), .unset, .unset, .unset] [(.ref x2)])) t
    refine XS.astore X241.here hx rfl (hb hby at_95) rfl rfl (l' := #[.val (.int p1), .val (.int p2), .val (.int p3), .val (.int p4), .val (.int la), .val (.int lb), .val (.int ca0), .val (.int ca1), .val (.int d0), .val (.int d1), .val (.ref x1), .val (.ref x2), .unset, .unset]) rfl ?_
    show Steps p.tables e below (T241.setTop (mkF m 97 #[.val (.int p1), .val (.int p2), .val (.int p3), .val (.int p4), .val (.int la), .val (.int lb), .val (.int ca0), .val (.int ca1), .val (.int d0), .val (.int d1), .val (.ref x1), .val (.ref x2), .unset, .unset] [])) t
    refine XS.iload X241.here hx rfl (hb hby at_97) rfl ?_
    show Steps p.tables e below (T241.setTop (mkF m 99 #[.val (.int p1), .val (.int p2), .val (.int p3), .val (.int p4), .val (.int la), .val (.int lb), .val (.int ca0), .val (.int ca1), .val (.int d0), .val (.int d1), .val (.ref x1), .val (.ref x2), .unset, .unset] [(.int la)])) t
    refine XS.iload X241.here hx rfl (hb hby at_99) rfl ?_
    exact ht
  obtain ⟨z, hp251, k251⟩ : ∃ z : Int32, (z = own_b ((own_cs la ca0 ca1) = (own_cs lb d0 d1))) ∧ Kt p e below m (s₁.setTop (entryFrame m #[(.int p1), (.int p2), (.int p3), (.int p4)] maxLocals)) T241 135 #[.val (.int p1), .val (.int p2), .val (.int p3), .val (.int p4), .val (.int la), .val (.int lb), .val (.int ca0), .val (.int ca1), .val (.int d0), .val (.int d1), .val (.ref x1), .val (.ref x2), .unset, .unset] [(.int z)] := by
    by_cases hj252 : la = lb
    · have k253 : Kt p e below m (s₁.setTop (entryFrame m #[(.int p1), (.int p2), (.int p3), (.int p4)] maxLocals)) T241 107 #[.val (.int p1), .val (.int p2), .val (.int p3), .val (.int p4), .val (.int la), .val (.int lb), .val (.int ca0), .val (.int ca1), .val (.int d0), .val (.int d1), .val (.ref x1), .val (.ref x2), .unset, .unset] [(.int (1 : Int32)), (.int la)] := by
        intro t ht
        refine k250 t ?_
        show Steps p.tables e below (T241.setTop (mkF m 101 #[.val (.int p1), .val (.int p2), .val (.int p3), .val (.int p4), .val (.int la), .val (.int lb), .val (.int ca0), .val (.int ca1), .val (.int d0), .val (.int d1), .val (.ref x1), .val (.ref x2), .unset, .unset] [(.int lb), (.int la)])) t
        refine XS.icmpNo X241.here hx rfl (hb hby at_101) rfl (teq hj252).2 ?_
        show Steps p.tables e below (T241.setTop (mkF m 104 #[.val (.int p1), .val (.int p2), .val (.int p3), .val (.int p4), .val (.int la), .val (.int lb), .val (.int ca0), .val (.int ca1), .val (.int d0), .val (.int d1), .val (.ref x1), .val (.ref x2), .unset, .unset] [])) t
        refine XS.iload X241.here hx rfl (hb hby at_104) rfl ?_
        show Steps p.tables e below (T241.setTop (mkF m 106 #[.val (.int p1), .val (.int p2), .val (.int p3), .val (.int p4), .val (.int la), .val (.int lb), .val (.int ca0), .val (.int ca1), .val (.int d0), .val (.int d1), .val (.ref x1), .val (.ref x2), .unset, .unset] [(.int la)])) t
        refine XS.iconst X241.here hx rfl (hb hby at_106) ?_
        exact ht
      by_cases hj254 : la < (1 : Int32)
      · have k255 : Kt p e below m (s₁.setTop (entryFrame m #[(.int p1), (.int p2), (.int p3), (.int p4)] maxLocals)) T241 120 #[.val (.int p1), .val (.int p2), .val (.int p3), .val (.int p4), .val (.int la), .val (.int lb), .val (.int ca0), .val (.int ca1), .val (.int d0), .val (.int d1), .val (.ref x1), .val (.ref x2), .unset, .unset] [(.int (2 : Int32)), (.int la)] := by
          intro t ht
          refine k253 t ?_
          show Steps p.tables e below (T241.setTop (mkF m 107 #[.val (.int p1), .val (.int p2), .val (.int p3), .val (.int p4), .val (.int la), .val (.int lb), .val (.int ca0), .val (.int ca1), .val (.int d0), .val (.int d1), .val (.ref x1), .val (.ref x2), .unset, .unset] [(.int (1 : Int32)), (.int la)])) t
          refine XS.icmpYes X241.here hx rfl (pc0 := 107) (pc' := 117) rfl (hb hby at_107) rfl (tlt hj254).1 (by decide) (by decide) ?_
          show Steps p.tables e below (T241.setTop (mkF m 117 #[.val (.int p1), .val (.int p2), .val (.int p3), .val (.int p4), .val (.int la), .val (.int lb), .val (.int ca0), .val (.int ca1), .val (.int d0), .val (.int d1), .val (.ref x1), .val (.ref x2), .unset, .unset] [])) t
          refine XS.iload X241.here hx rfl (hb hby at_117) rfl ?_
          show Steps p.tables e below (T241.setTop (mkF m 119 #[.val (.int p1), .val (.int p2), .val (.int p3), .val (.int p4), .val (.int la), .val (.int lb), .val (.int ca0), .val (.int ca1), .val (.int d0), .val (.int d1), .val (.ref x1), .val (.ref x2), .unset, .unset] [(.int la)])) t
          refine XS.iconst X241.here hx rfl (hb hby at_119) ?_
          exact ht
        by_cases hj256 : la < (2 : Int32)
        · have k257 : Kt p e below m (s₁.setTop (entryFrame m #[(.int p1), (.int p2), (.int p3), (.int p4)] maxLocals)) T241 135 #[.val (.int p1), .val (.int p2), .val (.int p3), .val (.int p4), .val (.int la), .val (.int lb), .val (.int ca0), .val (.int ca1), .val (.int d0), .val (.int d1), .val (.ref x1), .val (.ref x2), .unset, .unset] [(.int (1 : Int32))] := by
            intro t ht
            refine k255 t ?_
            show Steps p.tables e below (T241.setTop (mkF m 120 #[.val (.int p1), .val (.int p2), .val (.int p3), .val (.int p4), .val (.int la), .val (.int lb), .val (.int ca0), .val (.int ca1), .val (.int d0), .val (.int d1), .val (.ref x1), .val (.ref x2), .unset, .unset] [(.int (2 : Int32)), (.int la)])) t
            refine XS.icmpYes X241.here hx rfl (pc0 := 120) (pc' := 130) rfl (hb hby at_120) rfl (tlt hj256).1 (by decide) (by decide) ?_
            show Steps p.tables e below (T241.setTop (mkF m 130 #[.val (.int p1), .val (.int p2), .val (.int p3), .val (.int p4), .val (.int la), .val (.int lb), .val (.int ca0), .val (.int ca1), .val (.int d0), .val (.int d1), .val (.ref x1), .val (.ref x2), .unset, .unset] [])) t
            refine XS.iconst X241.here hx rfl (hb hby at_130) ?_
            show Steps p.tables e below (T241.setTop (mkF m 131 #[.val (.int p1), .val (.int p2), .val (.int p3), .val (.int p4), .val (.int la), .val (.int lb), .val (.int ca0), .val (.int ca1), .val (.int d0), .val (.int d1), .val (.ref x1), .val (.ref x2), .unset, .unset] [(.int (1 : Int32))])) t
            refine XS.goto X241.here hx rfl (pc0 := 131) (pc' := 135) rfl (hb hby at_131) (by decide) (by decide) ?_
            exact ht
          exact ⟨(1 : Int32), (by rw [own_bn (own_same h3a h3l)]; unfold own_b; simp [eq_true hj252, eq_true hj254, eq_true hj256]), k257⟩
        · have k258 : Kt p e below m (s₁.setTop (entryFrame m #[(.int p1), (.int p2), (.int p3), (.int p4)] maxLocals)) T241 127 #[.val (.int p1), .val (.int p2), .val (.int p3), .val (.int p4), .val (.int la), .val (.int lb), .val (.int ca0), .val (.int ca1), .val (.int d0), .val (.int d1), .val (.ref x1), .val (.ref x2), .unset, .unset] [(.int d1), (.int ca1)] := by
            intro t ht
            refine k255 t ?_
            show Steps p.tables e below (T241.setTop (mkF m 120 #[.val (.int p1), .val (.int p2), .val (.int p3), .val (.int p4), .val (.int la), .val (.int lb), .val (.int ca0), .val (.int ca1), .val (.int d0), .val (.int d1), .val (.ref x1), .val (.ref x2), .unset, .unset] [(.int (2 : Int32)), (.int la)])) t
            refine XS.icmpNo X241.here hx rfl (hb hby at_120) rfl (flt hj256).1 ?_
            show Steps p.tables e below (T241.setTop (mkF m 123 #[.val (.int p1), .val (.int p2), .val (.int p3), .val (.int p4), .val (.int la), .val (.int lb), .val (.int ca0), .val (.int ca1), .val (.int d0), .val (.int d1), .val (.ref x1), .val (.ref x2), .unset, .unset] [])) t
            refine XS.iload X241.here hx rfl (hb hby at_123) rfl ?_
            show Steps p.tables e below (T241.setTop (mkF m 125 #[.val (.int p1), .val (.int p2), .val (.int p3), .val (.int p4), .val (.int la), .val (.int lb), .val (.int ca0), .val (.int ca1), .val (.int d0), .val (.int d1), .val (.ref x1), .val (.ref x2), .unset, .unset] [(.int ca1)])) t
            refine XS.iload X241.here hx rfl (hb hby at_125) rfl ?_
            exact ht
          by_cases hj259 : ca1 = d1
          · have k260 : Kt p e below m (s₁.setTop (entryFrame m #[(.int p1), (.int p2), (.int p3), (.int p4)] maxLocals)) T241 135 #[.val (.int p1), .val (.int p2), .val (.int p3), .val (.int p4), .val (.int la), .val (.int lb), .val (.int ca0), .val (.int ca1), .val (.int d0), .val (.int d1), .val (.ref x1), .val (.ref x2), .unset, .unset] [(.int (1 : Int32))] := by
              intro t ht
              refine k258 t ?_
              show Steps p.tables e below (T241.setTop (mkF m 127 #[.val (.int p1), .val (.int p2), .val (.int p3), .val (.int p4), .val (.int la), .val (.int lb), .val (.int ca0), .val (.int ca1), .val (.int d0), .val (.int d1), .val (.ref x1), .val (.ref x2), .unset, .unset] [(.int d1), (.int ca1)])) t
              refine XS.icmpNo X241.here hx rfl (hb hby at_127) rfl (teq hj259).2 ?_
              show Steps p.tables e below (T241.setTop (mkF m 130 #[.val (.int p1), .val (.int p2), .val (.int p3), .val (.int p4), .val (.int la), .val (.int lb), .val (.int ca0), .val (.int ca1), .val (.int d0), .val (.int d1), .val (.ref x1), .val (.ref x2), .unset, .unset] [])) t
              refine XS.iconst X241.here hx rfl (hb hby at_130) ?_
              show Steps p.tables e below (T241.setTop (mkF m 131 #[.val (.int p1), .val (.int p2), .val (.int p3), .val (.int p4), .val (.int la), .val (.int lb), .val (.int ca0), .val (.int ca1), .val (.int d0), .val (.int d1), .val (.ref x1), .val (.ref x2), .unset, .unset] [(.int (1 : Int32))])) t
              refine XS.goto X241.here hx rfl (pc0 := 131) (pc' := 135) rfl (hb hby at_131) (by decide) (by decide) ?_
              exact ht
            exact ⟨(1 : Int32), (by rw [own_bn (own_same h3a h3l)]; unfold own_b; simp [eq_true hj252, eq_true hj254, eq_false hj256, eq_true hj259]), k260⟩
          · have k261 : Kt p e below m (s₁.setTop (entryFrame m #[(.int p1), (.int p2), (.int p3), (.int p4)] maxLocals)) T241 135 #[.val (.int p1), .val (.int p2), .val (.int p3), .val (.int p4), .val (.int la), .val (.int lb), .val (.int ca0), .val (.int ca1), .val (.int d0), .val (.int d1), .val (.ref x1), .val (.ref x2), .unset, .unset] [(.int (0 : Int32))] := by
              intro t ht
              refine k258 t ?_
              show Steps p.tables e below (T241.setTop (mkF m 127 #[.val (.int p1), .val (.int p2), .val (.int p3), .val (.int p4), .val (.int la), .val (.int lb), .val (.int ca0), .val (.int ca1), .val (.int d0), .val (.int d1), .val (.ref x1), .val (.ref x2), .unset, .unset] [(.int d1), (.int ca1)])) t
              refine XS.icmpYes X241.here hx rfl (pc0 := 127) (pc' := 134) rfl (hb hby at_127) rfl (feq hj259).2 (by decide) (by decide) ?_
              show Steps p.tables e below (T241.setTop (mkF m 134 #[.val (.int p1), .val (.int p2), .val (.int p3), .val (.int p4), .val (.int la), .val (.int lb), .val (.int ca0), .val (.int ca1), .val (.int d0), .val (.int d1), .val (.ref x1), .val (.ref x2), .unset, .unset] [])) t
              refine XS.iconst X241.here hx rfl (hb hby at_134) ?_
              exact ht
            exact ⟨(0 : Int32), (by rw [own_bn (own_same h3a h3l)]; unfold own_b; simp [eq_true hj252, eq_true hj254, eq_false hj256, eq_false hj259]), k261⟩
      · have k262 : Kt p e below m (s₁.setTop (entryFrame m #[(.int p1), (.int p2), (.int p3), (.int p4)] maxLocals)) T241 114 #[.val (.int p1), .val (.int p2), .val (.int p3), .val (.int p4), .val (.int la), .val (.int lb), .val (.int ca0), .val (.int ca1), .val (.int d0), .val (.int d1), .val (.ref x1), .val (.ref x2), .unset, .unset] [(.int d0), (.int ca0)] := by
          intro t ht
          refine k253 t ?_
          show Steps p.tables e below (T241.setTop (mkF m 107 #[.val (.int p1), .val (.int p2), .val (.int p3), .val (.int p4), .val (.int la), .val (.int lb), .val (.int ca0), .val (.int ca1), .val (.int d0), .val (.int d1), .val (.ref x1), .val (.ref x2), .unset, .unset] [(.int (1 : Int32)), (.int la)])) t
          refine XS.icmpNo X241.here hx rfl (hb hby at_107) rfl (flt hj254).1 ?_
          show Steps p.tables e below (T241.setTop (mkF m 110 #[.val (.int p1), .val (.int p2), .val (.int p3), .val (.int p4), .val (.int la), .val (.int lb), .val (.int ca0), .val (.int ca1), .val (.int d0), .val (.int d1), .val (.ref x1), .val (.ref x2), .unset, .unset] [])) t
          refine XS.iload X241.here hx rfl (hb hby at_110) rfl ?_
          show Steps p.tables e below (T241.setTop (mkF m 112 #[.val (.int p1), .val (.int p2), .val (.int p3), .val (.int p4), .val (.int la), .val (.int lb), .val (.int ca0), .val (.int ca1), .val (.int d0), .val (.int d1), .val (.ref x1), .val (.ref x2), .unset, .unset] [(.int ca0)])) t
          refine XS.iload X241.here hx rfl (hb hby at_112) rfl ?_
          exact ht
        by_cases hj263 : ca0 = d0
        · have k264 : Kt p e below m (s₁.setTop (entryFrame m #[(.int p1), (.int p2), (.int p3), (.int p4)] maxLocals)) T241 120 #[.val (.int p1), .val (.int p2), .val (.int p3), .val (.int p4), .val (.int la), .val (.int lb), .val (.int ca0), .val (.int ca1), .val (.int d0), .val (.int d1), .val (.ref x1), .val (.ref x2), .unset, .unset] [(.int (2 : Int32)), (.int la)] := by
            intro t ht
            refine k262 t ?_
            show Steps p.tables e below (T241.setTop (mkF m 114 #[.val (.int p1), .val (.int p2), .val (.int p3), .val (.int p4), .val (.int la), .val (.int lb), .val (.int ca0), .val (.int ca1), .val (.int d0), .val (.int d1), .val (.ref x1), .val (.ref x2), .unset, .unset] [(.int d0), (.int ca0)])) t
            refine XS.icmpNo X241.here hx rfl (hb hby at_114) rfl (teq hj263).2 ?_
            show Steps p.tables e below (T241.setTop (mkF m 117 #[.val (.int p1), .val (.int p2), .val (.int p3), .val (.int p4), .val (.int la), .val (.int lb), .val (.int ca0), .val (.int ca1), .val (.int d0), .val (.int d1), .val (.ref x1), .val (.ref x2), .unset, .unset] [])) t
            refine XS.iload X241.here hx rfl (hb hby at_117) rfl ?_
            show Steps p.tables e below (T241.setTop (mkF m 119 #[.val (.int p1), .val (.int p2), .val (.int p3), .val (.int p4), .val (.int la), .val (.int lb), .val (.int ca0), .val (.int ca1), .val (.int d0), .val (.int d1), .val (.ref x1), .val (.ref x2), .unset, .unset] [(.int la)])) t
            refine XS.iconst X241.here hx rfl (hb hby at_119) ?_
            exact ht
          by_cases hj265 : la < (2 : Int32)
          · have k266 : Kt p e below m (s₁.setTop (entryFrame m #[(.int p1), (.int p2), (.int p3), (.int p4)] maxLocals)) T241 135 #[.val (.int p1), .val (.int p2), .val (.int p3), .val (.int p4), .val (.int la), .val (.int lb), .val (.int ca0), .val (.int ca1), .val (.int d0), .val (.int d1), .val (.ref x1), .val (.ref x2), .unset, .unset] [(.int (1 : Int32))] := by
              intro t ht
              refine k264 t ?_
              show Steps p.tables e below (T241.setTop (mkF m 120 #[.val (.int p1), .val (.int p2), .val (.int p3), .val (.int p4), .val (.int la), .val (.int lb), .val (.int ca0), .val (.int ca1), .val (.int d0), .val (.int d1), .val (.ref x1), .val (.ref x2), .unset, .unset] [(.int (2 : Int32)), (.int la)])) t
              refine XS.icmpYes X241.here hx rfl (pc0 := 120) (pc' := 130) rfl (hb hby at_120) rfl (tlt hj265).1 (by decide) (by decide) ?_
              show Steps p.tables e below (T241.setTop (mkF m 130 #[.val (.int p1), .val (.int p2), .val (.int p3), .val (.int p4), .val (.int la), .val (.int lb), .val (.int ca0), .val (.int ca1), .val (.int d0), .val (.int d1), .val (.ref x1), .val (.ref x2), .unset, .unset] [])) t
              refine XS.iconst X241.here hx rfl (hb hby at_130) ?_
              show Steps p.tables e below (T241.setTop (mkF m 131 #[.val (.int p1), .val (.int p2), .val (.int p3), .val (.int p4), .val (.int la), .val (.int lb), .val (.int ca0), .val (.int ca1), .val (.int d0), .val (.int d1), .val (.ref x1), .val (.ref x2), .unset, .unset] [(.int (1 : Int32))])) t
              refine XS.goto X241.here hx rfl (pc0 := 131) (pc' := 135) rfl (hb hby at_131) (by decide) (by decide) ?_
              exact ht
            exact ⟨(1 : Int32), (by rw [own_bn (own_same h3a h3l)]; unfold own_b; simp [eq_true hj252, eq_false hj254, eq_true hj263, eq_true hj265]), k266⟩
          · have k267 : Kt p e below m (s₁.setTop (entryFrame m #[(.int p1), (.int p2), (.int p3), (.int p4)] maxLocals)) T241 127 #[.val (.int p1), .val (.int p2), .val (.int p3), .val (.int p4), .val (.int la), .val (.int lb), .val (.int ca0), .val (.int ca1), .val (.int d0), .val (.int d1), .val (.ref x1), .val (.ref x2), .unset, .unset] [(.int d1), (.int ca1)] := by
              intro t ht
              refine k264 t ?_
              show Steps p.tables e below (T241.setTop (mkF m 120 #[.val (.int p1), .val (.int p2), .val (.int p3), .val (.int p4), .val (.int la), .val (.int lb), .val (.int ca0), .val (.int ca1), .val (.int d0), .val (.int d1), .val (.ref x1), .val (.ref x2), .unset, .unset] [(.int (2 : Int32)), (.int la)])) t
              refine XS.icmpNo X241.here hx rfl (hb hby at_120) rfl (flt hj265).1 ?_
              show Steps p.tables e below (T241.setTop (mkF m 123 #[.val (.int p1), .val (.int p2), .val (.int p3), .val (.int p4), .val (.int la), .val (.int lb), .val (.int ca0), .val (.int ca1), .val (.int d0), .val (.int d1), .val (.ref x1), .val (.ref x2), .unset, .unset] [])) t
              refine XS.iload X241.here hx rfl (hb hby at_123) rfl ?_
              show Steps p.tables e below (T241.setTop (mkF m 125 #[.val (.int p1), .val (.int p2), .val (.int p3), .val (.int p4), .val (.int la), .val (.int lb), .val (.int ca0), .val (.int ca1), .val (.int d0), .val (.int d1), .val (.ref x1), .val (.ref x2), .unset, .unset] [(.int ca1)])) t
              refine XS.iload X241.here hx rfl (hb hby at_125) rfl ?_
              exact ht
            by_cases hj268 : ca1 = d1
            · have k269 : Kt p e below m (s₁.setTop (entryFrame m #[(.int p1), (.int p2), (.int p3), (.int p4)] maxLocals)) T241 135 #[.val (.int p1), .val (.int p2), .val (.int p3), .val (.int p4), .val (.int la), .val (.int lb), .val (.int ca0), .val (.int ca1), .val (.int d0), .val (.int d1), .val (.ref x1), .val (.ref x2), .unset, .unset] [(.int (1 : Int32))] := by
                intro t ht
                refine k267 t ?_
                show Steps p.tables e below (T241.setTop (mkF m 127 #[.val (.int p1), .val (.int p2), .val (.int p3), .val (.int p4), .val (.int la), .val (.int lb), .val (.int ca0), .val (.int ca1), .val (.int d0), .val (.int d1), .val (.ref x1), .val (.ref x2), .unset, .unset] [(.int d1), (.int ca1)])) t
                refine XS.icmpNo X241.here hx rfl (hb hby at_127) rfl (teq hj268).2 ?_
                show Steps p.tables e below (T241.setTop (mkF m 130 #[.val (.int p1), .val (.int p2), .val (.int p3), .val (.int p4), .val (.int la), .val (.int lb), .val (.int ca0), .val (.int ca1), .val (.int d0), .val (.int d1), .val (.ref x1), .val (.ref x2), .unset, .unset] [])) t
                refine XS.iconst X241.here hx rfl (hb hby at_130) ?_
                show Steps p.tables e below (T241.setTop (mkF m 131 #[.val (.int p1), .val (.int p2), .val (.int p3), .val (.int p4), .val (.int la), .val (.int lb), .val (.int ca0), .val (.int ca1), .val (.int d0), .val (.int d1), .val (.ref x1), .val (.ref x2), .unset, .unset] [(.int (1 : Int32))])) t
                refine XS.goto X241.here hx rfl (pc0 := 131) (pc' := 135) rfl (hb hby at_131) (by decide) (by decide) ?_
                exact ht
              exact ⟨(1 : Int32), (by rw [own_bn (own_same h3a h3l)]; unfold own_b; simp [eq_true hj252, eq_false hj254, eq_true hj263, eq_false hj265, eq_true hj268]), k269⟩
            · have k270 : Kt p e below m (s₁.setTop (entryFrame m #[(.int p1), (.int p2), (.int p3), (.int p4)] maxLocals)) T241 135 #[.val (.int p1), .val (.int p2), .val (.int p3), .val (.int p4), .val (.int la), .val (.int lb), .val (.int ca0), .val (.int ca1), .val (.int d0), .val (.int d1), .val (.ref x1), .val (.ref x2), .unset, .unset] [(.int (0 : Int32))] := by
                intro t ht
                refine k267 t ?_
                show Steps p.tables e below (T241.setTop (mkF m 127 #[.val (.int p1), .val (.int p2), .val (.int p3), .val (.int p4), .val (.int la), .val (.int lb), .val (.int ca0), .val (.int ca1), .val (.int d0), .val (.int d1), .val (.ref x1), .val (.ref x2), .unset, .unset] [(.int d1), (.int ca1)])) t
                refine XS.icmpYes X241.here hx rfl (pc0 := 127) (pc' := 134) rfl (hb hby at_127) rfl (feq hj268).2 (by decide) (by decide) ?_
                show Steps p.tables e below (T241.setTop (mkF m 134 #[.val (.int p1), .val (.int p2), .val (.int p3), .val (.int p4), .val (.int la), .val (.int lb), .val (.int ca0), .val (.int ca1), .val (.int d0), .val (.int d1), .val (.ref x1), .val (.ref x2), .unset, .unset] [])) t
                refine XS.iconst X241.here hx rfl (hb hby at_134) ?_
                exact ht
              exact ⟨(0 : Int32), (by rw [own_bn (own_same h3a h3l)]; unfold own_b; simp [eq_true hj252, eq_false hj254, eq_true hj263, eq_false hj265, eq_false hj268]), k270⟩
        · have k271 : Kt p e below m (s₁.setTop (entryFrame m #[(.int p1), (.int p2), (.int p3), (.int p4)] maxLocals)) T241 135 #[.val (.int p1), .val (.int p2), .val (.int p3), .val (.int p4), .val (.int la), .val (.int lb), .val (.int ca0), .val (.int ca1), .val (.int d0), .val (.int d1), .val (.ref x1), .val (.ref x2), .unset, .unset] [(.int (0 : Int32))] := by
            intro t ht
            refine k262 t ?_
            show Steps p.tables e below (T241.setTop (mkF m 114 #[.val (.int p1), .val (.int p2), .val (.int p3), .val (.int p4), .val (.int la), .val (.int lb), .val (.int ca0), .val (.int ca1), .val (.int d0), .val (.int d1), .val (.ref x1), .val (.ref x2), .unset, .unset] [(.int d0), (.int ca0)])) t
            refine XS.icmpYes X241.here hx rfl (pc0 := 114) (pc' := 134) rfl (hb hby at_114) rfl (feq hj263).2 (by decide) (by decide) ?_
            show Steps p.tables e below (T241.setTop (mkF m 134 #[.val (.int p1), .val (.int p2), .val (.int p3), .val (.int p4), .val (.int la), .val (.int lb), .val (.int ca0), .val (.int ca1), .val (.int d0), .val (.int d1), .val (.ref x1), .val (.ref x2), .unset, .unset] [])) t
            refine XS.iconst X241.here hx rfl (hb hby at_134) ?_
            exact ht
          exact ⟨(0 : Int32), (by rw [own_bn (own_same h3a h3l)]; unfold own_b; simp [eq_true hj252, eq_false hj254, eq_false hj263]), k271⟩
    · have k272 : Kt p e below m (s₁.setTop (entryFrame m #[(.int p1), (.int p2), (.int p3), (.int p4)] maxLocals)) T241 135 #[.val (.int p1), .val (.int p2), .val (.int p3), .val (.int p4), .val (.int la), .val (.int lb), .val (.int ca0), .val (.int ca1), .val (.int d0), .val (.int d1), .val (.ref x1), .val (.ref x2), .unset, .unset] [(.int (0 : Int32))] := by
        intro t ht
        refine k250 t ?_
        show Steps p.tables e below (T241.setTop (mkF m 101 #[.val (.int p1), .val (.int p2), .val (.int p3), .val (.int p4), .val (.int la), .val (.int lb), .val (.int ca0), .val (.int ca1), .val (.int d0), .val (.int d1), .val (.ref x1), .val (.ref x2), .unset, .unset] [(.int lb), (.int la)])) t
        refine XS.icmpYes X241.here hx rfl (pc0 := 101) (pc' := 134) rfl (hb hby at_101) rfl (feq hj252).2 (by decide) (by decide) ?_
        show Steps p.tables e below (T241.setTop (mkF m 134 #[.val (.int p1), .val (.int p2), .val (.int p3), .val (.int p4), .val (.int la), .val (.int lb), .val (.int ca0), .val (.int ca1), .val (.int d0), .val (.int d1), .val (.ref x1), .val (.ref x2), .unset, .unset] [])) t
        refine XS.iconst X241.here hx rfl (hb hby at_134) ?_
        exact ht
      exact ⟨(0 : Int32), (by rw [own_bn (own_same h3a h3l)]; unfold own_b; simp [eq_false hj252]), k272⟩
  have k273 : Kt p e below m (s₁.setTop (entryFrame m #[(.int p1), (.int p2), (.int p3), (.int p4)] maxLocals)) T241 137 #[.val (.int p1), .val (.int p2), .val (.int p3), .val (.int p4), .val (.int la), .val (.int lb), .val (.int ca0), .val (.int ca1), .val (.int d0), .val (.int d1), .val (.ref x1), .val (.ref x2), .val (.int z), .unset] [] := by
    intro t ht
    refine k251 t ?_
    show Steps p.tables e below (T241.setTop (mkF m 135 #[.val (.int p1), .val (.int p2), .val (.int p3), .val (.int p4), .val (.int la), .val (.int lb), .val (.int ca0), .val (.int ca1), .val (.int d0), .val (.int d1), .val (.ref x1), .val (.ref x2), .unset, .unset] [(.int z)])) t
    refine XS.istore X241.here hx rfl (hb hby at_135) rfl (l' := #[.val (.int p1), .val (.int p2), .val (.int p3), .val (.int p4), .val (.int la), .val (.int lb), .val (.int ca0), .val (.int ca1), .val (.int d0), .val (.int d1), .val (.ref x1), .val (.ref x2), .val (.int z), .unset]) rfl ?_
    exact ht
  obtain ⟨T274, h274, X274, e274, E274, A274, D274, -, st274⟩ := newO X241 hx hZ241 hown241 (hw _ (List.mem_of_getElem? (i := 27) rfl)) (hw _ (List.mem_of_getElem? (i := 28) rfl)) (hw _ (List.mem_of_getElem? (i := 29) rfl)) rfl (g := (mkF m 137 #[.val (.int p1), .val (.int p2), .val (.int p3), .val (.int p4), .val (.int la), .val (.int lb), .val (.int ca0), .val (.int ca1), .val (.int d0), .val (.int d1), .val (.ref x1), .val (.ref x2), .val (.int z), .unset] [])) rfl (hb hby at_137) (by decide) (by decide)
  obtain ⟨en, q274⟩ : ∃ z, z = T241.heap.size := ⟨_, rfl⟩
  have ne_x1_en : x1 ≠ en := by rw [q274]; exact Nat.ne_of_lt f246.lt
  have ne_t1_en : t1 ≠ en := by rw [q274]; exact Nat.ne_of_lt f249.lt
  have ne_x2_en : x2 ≠ en := by rw [q274]; exact Nat.ne_of_lt Ex2.lt
  have ne_t2_en : t2 ≠ en := by rw [q274]; exact Nat.ne_of_lt Ax2.lt
  have g_en : n0 ≤ en := by rw [q274]; exact f242
  rw [← q274] at A274 D274 st274
  have f275 : n0 ≤ h274.size := Nat.le_trans f242 E274.1
  have f276 : CHr Z consts_1 s.vm h0 T241.vm h274 := f243.trans (CHr.ext E274 f243.1)
  have f277 : Old Z n0 h274 := f244.ext E274
  have f278 : T241.heap.size ≤ h274.size := Nat.le_trans hk241 E274.1
  have f279 : Exa Z h274 x1 "java/lang/String" := f246.ext E274
  have f280 : Fld Z h274 x1 "java/lang/String" "coder" "B" (.int (0 : Int32)) := f247.ext E274
  have f281 : Fld Z h274 x1 "java/lang/String" "value" "[B" (.ref t1) := f248.ext E274
  have f282 : Arv Z h274 t1 k1 .byte (Int32.ofNat (own_cs la ca0 ca1).length) (own_by (own_cs la ca0 ca1)) (.int (0 : Int32)) := f249.ext E274
  have f283 : Exa Z h274 x2 "java/lang/String" := Ex2.ext E274
  have f284 : Fld Z h274 x2 "java/lang/String" "coder" "B" (.int (0 : Int32)) := Cx2.ext E274
  have f285 : Fld Z h274 x2 "java/lang/String" "value" "[B" (.ref t2) := Vx2.ext E274
  have f286 : Arv Z h274 t2 k2 .byte (Int32.ofNat (own_cs lb d0 d1).length) (own_by (own_cs lb d0 d1)) (.int (0 : Int32)) := Ax2.ext E274
  have Sf274 : Safe Z consts_1 T241.vm h274 en := Safe.ext E274 f243.1 (Safe.new (by rw [q274]; exact Nat.le_refl _))
  have f274 : Exa Z h274 en "com/example/clearhour/clearhour/input/Transaction$End" := A274
  have f287 : Fld Z h274 en "com/example/clearhour/clearhour/input/Transaction$End" "name" "Ljava/lang/String;" .null := D274 (Or.inr (hw _ (List.mem_of_getElem? (i := 40) rfl))) (ty := (.object "java/lang/String")) (by decide)
  have f288 : Fld Z h274 en "com/example/clearhour/clearhour/input/Transaction$End" "pricedAt" "Ljava/lang/String;" .null := D274 (Or.inr (hw _ (List.mem_of_getElem? (i := 42) rfl))) (ty := (.object "java/lang/String")) (by decide)
  have k274 : Kt p e below m (s₁.setTop (entryFrame m #[(.int p1), (.int p2), (.int p3), (.int p4)] maxLocals)) T274 140 #[.val (.int p1), .val (.int p2), .val (.int p3), .val (.int p4), .val (.int la), .val (.int lb), .val (.int ca0), .val (.int ca1), .val (.int d0), .val (.int d1), .val (.ref x1), .val (.ref x2), .val (.int z), .unset] [(.ref en)] := fun t ht => k273 t (st274 t ht)
  have k289 : Kt p e below m (s₁.setTop (entryFrame m #[(.int p1), (.int p2), (.int p3), (.int p4)] maxLocals)) T274 145 #[.val (.int p1), .val (.int p2), .val (.int p3), .val (.int p4), .val (.int la), .val (.int lb), .val (.int ca0), .val (.int ca1), .val (.int d0), .val (.int d1), .val (.ref x1), .val (.ref x2), .val (.int z), .unset] [(.ref x2), (.ref x1), (.ref en), (.ref en)] := by
    intro t ht
    refine k274 t ?_
    show Steps p.tables e below (T274.setTop (mkF m 140 #[.val (.int p1), .val (.int p2), .val (.int p3), .val (.int p4), .val (.int la), .val (.int lb), .val (.int ca0), .val (.int ca1), .val (.int d0), .val (.int d1), .val (.ref x1), .val (.ref x2), .val (.int z), .unset] [(.ref en)])) t
    refine XS.dup X274.here hx rfl (hb hby at_140) rfl rfl ?_
    show Steps p.tables e below (T274.setTop (mkF m 141 #[.val (.int p1), .val (.int p2), .val (.int p3), .val (.int p4), .val (.int la), .val (.int lb), .val (.int ca0), .val (.int ca1), .val (.int d0), .val (.int d1), .val (.ref x1), .val (.ref x2), .val (.int z), .unset] [(.ref en), (.ref en)])) t
    refine XS.aload X274.here hx rfl (hb hby at_141) rfl rfl ?_
    show Steps p.tables e below (T274.setTop (mkF m 143 #[.val (.int p1), .val (.int p2), .val (.int p3), .val (.int p4), .val (.int la), .val (.int lb), .val (.int ca0), .val (.int ca1), .val (.int d0), .val (.int d1), .val (.ref x1), .val (.ref x2), .val (.int z), .unset] [(.ref x1), (.ref en), (.ref en)])) t
    refine XS.aload X274.here hx rfl (hb hby at_143) rfl rfl ?_
    exact ht
  obtain ⟨_, _, ⟨T290, L290, c290, n290⟩, -, X290, ⟨Lc290, hQ290, l290, y290, z290⟩, st290⟩ := X274.specialBack hx (y := (⟨"com/example/clearhour/clearhour/input/Transaction$End", "<init>", "(Ljava/lang/String;Ljava/lang/String;)V"⟩ : MethodName)) rfl hown241 (mvT hZ241 (hw _ (List.mem_of_getElem? (i := 30) rfl))) (mvT hZ241 (hw _ (List.mem_of_getElem? (i := 31) rfl))) (mvT hZ241 (hw _ (List.mem_of_getElem? (i := 32) rfl))) (by decide) (backOf (W := 1) (rm5 l Z a0 hw [] en x1 x2 h274 n0 f275 f274 f287 f288 g_en) hZ241 (hw _ (List.mem_of_getElem? (i := 32) rfl)) (hw _ (List.mem_of_getElem? (i := 29) rfl)) (by decide) (by decide)) (g := (mkF m 145 #[.val (.int p1), .val (.int p2), .val (.int p3), .val (.int p4), .val (.int la), .val (.int lb), .val (.int ca0), .val (.int ca1), .val (.int d0), .val (.int d1), .val (.ref x1), .val (.ref x2), .val (.int z), .unset] [(.ref x2), (.ref x1), (.ref en), (.ref en)])) rfl (by rw [hml]; rfl) (Steps.refl _) (a := en) (argsL := [(.ref x1), (.ref x2)]) (rest := [(.ref en)]) (lenOf pd_4 rfl) rfl (by show 2 * 0 + _ ≤ _; exact Nat.le_of_eq rfl) (hb hby at_145) (fun _ _ => ⟨rfl, e274, (by decide : 13 + 0 ≤ _), (by decide : 26 + 0 ≤ _)⟩)
  dsimp only [Pt.U, Pt.locs, Pt.cells, Pt.slots] at X290 l290 y290 z290 st290 hQ290
  subst l290 y290 z290
  obtain ⟨rfl, Nq290, Kp290, Fa290, Fb290⟩ := hQ290
  have N290 := Fr.app N241 Nq290
  have k290 : Kt p e below m (s₁.setTop (entryFrame m #[(.int p1), (.int p2), (.int p3), (.int p4)] maxLocals)) T290 148 #[.val (.int p1), .val (.int p2), .val (.int p3), .val (.int p4), .val (.int la), .val (.int lb), .val (.int ca0), .val (.int ca1), .val (.int d0), .val (.int d1), .val (.ref x1), .val (.ref x2), .val (.int z), .unset] [(.ref en)] := fun t ht => k289 t (st290.trans ht)
  have f291 : n0 ≤ T290.heap.size := Nat.le_trans f275 Kp290.1
  have f292 : CHr Z consts_1 s.vm h0 T241.vm T290.heap := f276.trans (CHr.keep Kp290 (sfS Sf274 sf0) f276.1)
  have f293 : Old Z n0 T290.heap := f277.keep Kp290 (allS g_en all0)
  have f294 : T241.heap.size ≤ T290.heap.size := Nat.le_trans f278 Kp290.1
  have f295 : Exa Z T290.heap x1 "java/lang/String" := f279.keep Kp290
  have f296 : Fld Z T290.heap x1 "java/lang/String" "coder" "B" (.int (0 : Int32)) := f280.keep Kp290 (ninS ne_x1_en nin0)
  have f297 : Fld Z T290.heap x1 "java/lang/String" "value" "[B" (.ref t1) := f281.keep Kp290 (ninS ne_x1_en nin0)
  have f298 : Arv Z T290.heap t1 k1 .byte (Int32.ofNat (own_cs la ca0 ca1).length) (own_by (own_cs la ca0 ca1)) (.int (0 : Int32)) := f282.keep Kp290 (ninS ne_t1_en nin0)
  have f299 : Exa Z T290.heap x2 "java/lang/String" := f283.keep Kp290
  have f300 : Fld Z T290.heap x2 "java/lang/String" "coder" "B" (.int (0 : Int32)) := f284.keep Kp290 (ninS ne_x2_en nin0)
  have f301 : Fld Z T290.heap x2 "java/lang/String" "value" "[B" (.ref t2) := f285.keep Kp290 (ninS ne_x2_en nin0)
  have f302 : Arv Z T290.heap t2 k2 .byte (Int32.ofNat (own_cs lb d0 d1).length) (own_by (own_cs lb d0 d1)) (.int (0 : Int32)) := f286.keep Kp290 (ninS ne_t2_en nin0)
  have f303 : Safe Z consts_1 T241.vm T290.heap en := Safe.keep Kp290 (sfS Sf274 sf0) f276.1 Sf274
  have f304 : Exa Z T290.heap en "com/example/clearhour/clearhour/input/Transaction$End" := f274.keep Kp290
  have k307 : Kt p e below m (s₁.setTop (entryFrame m #[(.int p1), (.int p2), (.int p3), (.int p4)] maxLocals)) T290 152 #[.val (.int p1), .val (.int p2), .val (.int p3), .val (.int p4), .val (.int la), .val (.int lb), .val (.int ca0), .val (.int ca1), .val (.int d0), .val (.int d1), .val (.ref x1), .val (.ref x2), .val (.int z), .val (.ref en)] [(.ref en)] := by
    intro t ht
    refine k290 t ?_
    show Steps p.tables e below (T290.setTop (mkF m 148 #[.val (.int p1), .val (.int p2), .val (.int p3), .val (.int p4), .val (.int la), .val (.int lb), .val (.int ca0), .val (.int ca1), .val (.int d0), .val (.int d1), .val (.ref x1), .val (.ref x2), .val (.int z), .unset] [(.ref en)])) t
    refine XS.astore X290.here hx rfl (hb hby at_148) rfl rfl (l' := #[.val (.int p1), .val (.int p2), .val (.int p3), .val (.int p4), .val (.int la), .val (.int lb), .val (.int ca0), .val (.int ca1), .val (.int d0), .val (.int d1), .val (.ref x1), .val (.ref x2), .val (.int z), .val (.ref en)]) rfl ?_
    show Steps p.tables e below (T290.setTop (mkF m 150 #[.val (.int p1), .val (.int p2), .val (.int p3), .val (.int p4), .val (.int la), .val (.int lb), .val (.int ca0), .val (.int ca1), .val (.int d0), .val (.int d1), .val (.ref x1), .val (.ref x2), .val (.int z), .val (.ref en)] [])) t
    refine XS.aload X290.here hx rfl (hb hby at_150) rfl rfl ?_
    exact ht
  obtain ⟨cq308, kq308, q308a, q308b, q308c⟩ := isOf hZ241 rfl f304
  obtain ⟨_, _, ⟨T308, L308, c308, n308⟩, -, X308, ⟨Lc308, hQ308, l308, y308, z308⟩, st308⟩ := X290.virtualBack hx (y := (⟨"com/example/clearhour/clearhour/input/Transaction$End", "isTradingHub", "()Z"⟩ : MethodName)) (z := (⟨"com/example/clearhour/clearhour/input/Transaction$End", "isTradingHub", "()Z"⟩ : MethodName)) hown241 (mvT hZ241 (hw _ (List.mem_of_getElem? (i := 43) rfl))) (mvT hZ241 (hw _ (List.mem_of_getElem? (i := 44) rfl))) (notFace_of_selects (args := #[]) (mvT hZ241 (hw _ (List.mem_of_getElem? (i := 46) rfl)))) (mvT hZ241 (hw _ (List.mem_of_getElem? (i := 46) rfl))) (mvT hZ241 (hw _ (List.mem_of_getElem? (i := 45) rfl))) (by decide) (backOf (W := 0) (rm7 l Z a0 hw [] en x1 t1 k1 (own_cs la ca0 ca1) x2 t2 k2 (own_cs lb d0 d1) G1 T290.heap n0 f291 S1 P5 f293 Fa290 Fb290 f295 f296 f297 f298 (own_csr rca0 rca1) (Nat.le_trans own_len (by decide)) f299 f300 f301 f302 (own_csr rd0 rd1) (Nat.le_trans own_len (by decide))) hZ241 (hw _ (List.mem_of_getElem? (i := 47) rfl)) (hw _ (List.mem_of_getElem? (i := 29) rfl)) (by decide) (by decide)) q308a q308c (g := (mkF m 152 #[.val (.int p1), .val (.int p2), .val (.int p3), .val (.int p4), .val (.int la), .val (.int lb), .val (.int ca0), .val (.int ca1), .val (.int d0), .val (.int d1), .val (.ref x1), .val (.ref x2), .val (.int z), .val (.ref en)] [(.ref en)])) rfl (by rw [hml]; rfl) (Steps.refl _) (argsL := []) (rest := []) (lenOf pd_1 rfl) rfl (by show 2 * 0 + _ ≤ _; exact Nat.le_of_eq rfl) (hb hby at_152) (fun _ _ => ⟨rfl, rfl, (by decide : 13 + 0 ≤ _), (by decide : 26 + 0 ≤ _)⟩)
  dsimp only [Pt.U, Pt.locs, Pt.cells, Pt.slots] at X308 l308 y308 z308 st308 hQ308
  subst l308 y308 z308
  obtain ⟨rfl, Nq308, eq308⟩ := hQ308
  have N308 := Fr.app N290 Nq308
  have k308 : Kt p e below m (s₁.setTop (entryFrame m #[(.int p1), (.int p2), (.int p3), (.int p4)] maxLocals)) T308 155 #[.val (.int p1), .val (.int p2), .val (.int p3), .val (.int p4), .val (.int la), .val (.int lb), .val (.int ca0), .val (.int ca1), .val (.int d0), .val (.int d1), .val (.ref x1), .val (.ref x2), .val (.int z), .val (.ref en)] [(.int (own_b (¬ (own_cs la ca0 ca1) = (own_cs lb d0 d1))))] := fun t ht => k307 t (st308.trans ht)
  have f309 : n0 ≤ T308.heap.size := by rw [eq308]; exact f291
  have f310 : CHr Z consts_1 s.vm h0 T241.vm T308.heap := by rw [eq308]; exact f292
  have f311 : Old Z n0 T308.heap := by rw [eq308]; exact f293
  have f312 : T241.heap.size ≤ T308.heap.size := by rw [eq308]; exact f294
  have f313 : Exa Z T308.heap x1 "java/lang/String" := by rw [eq308]; exact f295
  have f314 : Fld Z T308.heap x1 "java/lang/String" "coder" "B" (.int (0 : Int32)) := by rw [eq308]; exact f296
  have f315 : Fld Z T308.heap x1 "java/lang/String" "value" "[B" (.ref t1) := by rw [eq308]; exact f297
  have f316 : Arv Z T308.heap t1 k1 .byte (Int32.ofNat (own_cs la ca0 ca1).length) (own_by (own_cs la ca0 ca1)) (.int (0 : Int32)) := by rw [eq308]; exact f298
  have f317 : Exa Z T308.heap x2 "java/lang/String" := by rw [eq308]; exact f299
  have f318 : Fld Z T308.heap x2 "java/lang/String" "coder" "B" (.int (0 : Int32)) := by rw [eq308]; exact f300
  have f319 : Fld Z T308.heap x2 "java/lang/String" "value" "[B" (.ref t2) := by rw [eq308]; exact f301
  have f320 : Arv Z T308.heap t2 k2 .byte (Int32.ofNat (own_cs lb d0 d1).length) (own_by (own_cs lb d0 d1)) (.int (0 : Int32)) := by rw [eq308]; exact f302
  have f321 : Safe Z consts_1 T241.vm T308.heap en := by rw [eq308]; exact f303
  have f322 : Exa Z T308.heap en "com/example/clearhour/clearhour/input/Transaction$End" := by rw [eq308]; exact f304
  have f323 : Fld Z T308.heap en "com/example/clearhour/clearhour/input/Transaction$End" "name" "Ljava/lang/String;" (.ref x1) := by rw [eq308]; exact Fa290
  have f324 : Fld Z T308.heap en "com/example/clearhour/clearhour/input/Transaction$End" "pricedAt" "Ljava/lang/String;" (.ref x2) := by rw [eq308]; exact Fb290
  have k325 : Kt p e below m (s₁.setTop (entryFrame m #[(.int p1), (.int p2), (.int p3), (.int p4)] maxLocals)) T308 157 #[.val (.int p1), .val (.int p2), .val (.int p3), .val (.int p4), .val (.int la), .val (.int lb), .val (.int ca0), .val (.int ca1), .val (.int d0), .val (.int d1), .val (.ref x1), .val (.ref x2), .val (.int z), .val (.ref en)] [(.int z), (.int (own_b (¬ (own_cs la ca0 ca1) = (own_cs lb d0 d1))))] := by
    intro t ht
    refine k308 t ?_
    show Steps p.tables e below (T308.setTop (mkF m 155 #[.val (.int p1), .val (.int p2), .val (.int p3), .val (.int p4), .val (.int la), .val (.int lb), .val (.int ca0), .val (.int ca1), .val (.int d0), .val (.int d1), .val (.ref x1), .val (.ref x2), .val (.int z), .val (.ref en)] [(.int (own_b (¬ (own_cs la ca0 ca1) = (own_cs lb d0 d1))))])) t
    refine XS.iload X308.here hx rfl (hb hby at_155) rfl ?_
    exact ht
  obtain ⟨y, hp326, k326⟩ : ∃ y : Int32, (y = own_b (z = 0)) ∧ Kt p e below m (s₁.setTop (entryFrame m #[(.int p1), (.int p2), (.int p3), (.int p4)] maxLocals)) T308 165 #[.val (.int p1), .val (.int p2), .val (.int p3), .val (.int p4), .val (.int la), .val (.int lb), .val (.int ca0), .val (.int ca1), .val (.int d0), .val (.int d1), .val (.ref x1), .val (.ref x2), .val (.int z), .val (.ref en)] [(.int y), (.int (own_b (¬ (own_cs la ca0 ca1) = (own_cs lb d0 d1))))] := by
    by_cases hj327 : z = (0 : Int32)
    · have k328 : Kt p e below m (s₁.setTop (entryFrame m #[(.int p1), (.int p2), (.int p3), (.int p4)] maxLocals)) T308 165 #[.val (.int p1), .val (.int p2), .val (.int p3), .val (.int p4), .val (.int la), .val (.int lb), .val (.int ca0), .val (.int ca1), .val (.int d0), .val (.int d1), .val (.ref x1), .val (.ref x2), .val (.int z), .val (.ref en)] [(.int (1 : Int32)), (.int (own_b (¬ (own_cs la ca0 ca1) = (own_cs lb d0 d1))))] := by
        intro t ht
        refine k325 t ?_
        show Steps p.tables e below (T308.setTop (mkF m 157 #[.val (.int p1), .val (.int p2), .val (.int p3), .val (.int p4), .val (.int la), .val (.int lb), .val (.int ca0), .val (.int ca1), .val (.int d0), .val (.int d1), .val (.ref x1), .val (.ref x2), .val (.int z), .val (.ref en)] [(.int z), (.int (own_b (¬ (own_cs la ca0 ca1) = (own_cs lb d0 d1))))])) t
        refine XS.ifNo X308.here hx rfl (hb hby at_157) rfl ((if0 _ _).trans (teq hj327).2) ?_
        show Steps p.tables e below (T308.setTop (mkF m 160 #[.val (.int p1), .val (.int p2), .val (.int p3), .val (.int p4), .val (.int la), .val (.int lb), .val (.int ca0), .val (.int ca1), .val (.int d0), .val (.int d1), .val (.ref x1), .val (.ref x2), .val (.int z), .val (.ref en)] [(.int (own_b (¬ (own_cs la ca0 ca1) = (own_cs lb d0 d1))))])) t
        refine XS.iconst X308.here hx rfl (hb hby at_160) ?_
        show Steps p.tables e below (T308.setTop (mkF m 161 #[.val (.int p1), .val (.int p2), .val (.int p3), .val (.int p4), .val (.int la), .val (.int lb), .val (.int ca0), .val (.int ca1), .val (.int d0), .val (.int d1), .val (.ref x1), .val (.ref x2), .val (.int z), .val (.ref en)] [(.int (1 : Int32)), (.int (own_b (¬ (own_cs la ca0 ca1) = (own_cs lb d0 d1))))])) t
        refine XS.goto X308.here hx rfl (pc0 := 161) (pc' := 165) rfl (hb hby at_161) (by decide) (by decide) ?_
        exact ht
      exact ⟨(1 : Int32), (by unfold own_b; simp [eq_true hj327]), k328⟩
    · have k329 : Kt p e below m (s₁.setTop (entryFrame m #[(.int p1), (.int p2), (.int p3), (.int p4)] maxLocals)) T308 165 #[.val (.int p1), .val (.int p2), .val (.int p3), .val (.int p4), .val (.int la), .val (.int lb), .val (.int ca0), .val (.int ca1), .val (.int d0), .val (.int d1), .val (.ref x1), .val (.ref x2), .val (.int z), .val (.ref en)] [(.int (0 : Int32)), (.int (own_b (¬ (own_cs la ca0 ca1) = (own_cs lb d0 d1))))] := by
        intro t ht
        refine k325 t ?_
        show Steps p.tables e below (T308.setTop (mkF m 157 #[.val (.int p1), .val (.int p2), .val (.int p3), .val (.int p4), .val (.int la), .val (.int lb), .val (.int ca0), .val (.int ca1), .val (.int d0), .val (.int d1), .val (.ref x1), .val (.ref x2), .val (.int z), .val (.ref en)] [(.int z), (.int (own_b (¬ (own_cs la ca0 ca1) = (own_cs lb d0 d1))))])) t
        refine XS.ifYes X308.here hx rfl (pc0 := 157) (pc' := 164) rfl (hb hby at_157) rfl ((if0 _ _).trans (feq hj327).2) (by decide) (by decide) ?_
        show Steps p.tables e below (T308.setTop (mkF m 164 #[.val (.int p1), .val (.int p2), .val (.int p3), .val (.int p4), .val (.int la), .val (.int lb), .val (.int ca0), .val (.int ca1), .val (.int d0), .val (.int d1), .val (.ref x1), .val (.ref x2), .val (.int z), .val (.ref en)] [(.int (own_b (¬ (own_cs la ca0 ca1) = (own_cs lb d0 d1))))])) t
        refine XS.iconst X308.here hx rfl (hb hby at_164) ?_
        exact ht
      exact ⟨(0 : Int32), (by unfold own_b; simp [eq_false hj327]), k329⟩
  have k330 : Kt p e below m (s₁.setTop (entryFrame m #[(.int p1), (.int p2), (.int p3), (.int p4)] maxLocals)) T308 173 #[.val (.int p1), .val (.int p2), .val (.int p3), .val (.int p4), .val (.int la), .val (.int lb), .val (.int ca0), .val (.int ca1), .val (.int d0), .val (.int d1), .val (.ref x1), .val (.ref x2), .val (.int z), .val (.ref en)] [(.int (1 : Int32))] := by
    intro t ht
    refine k326 t ?_
    show Steps p.tables e below (T308.setTop (mkF m 165 #[.val (.int p1), .val (.int p2), .val (.int p3), .val (.int p4), .val (.int la), .val (.int lb), .val (.int ca0), .val (.int ca1), .val (.int d0), .val (.int d1), .val (.ref x1), .val (.ref x2), .val (.int z), .val (.ref en)] [(.int y), (.int (own_b (¬ (own_cs la ca0 ca1) = (own_cs lb d0 d1))))])) t
    refine XS.icmpNo X308.here hx rfl (hb hby at_165) rfl (teq (((own_bn (by rw [hp251]; exact own_bz.symm)).trans hp326.symm))).2 ?_
    show Steps p.tables e below (T308.setTop (mkF m 168 #[.val (.int p1), .val (.int p2), .val (.int p3), .val (.int p4), .val (.int la), .val (.int lb), .val (.int ca0), .val (.int ca1), .val (.int d0), .val (.int d1), .val (.ref x1), .val (.ref x2), .val (.int z), .val (.ref en)] [])) t
    refine XS.iconst X308.here hx rfl (hb hby at_168) ?_
    show Steps p.tables e below (T308.setTop (mkF m 169 #[.val (.int p1), .val (.int p2), .val (.int p3), .val (.int p4), .val (.int la), .val (.int lb), .val (.int ca0), .val (.int ca1), .val (.int d0), .val (.int d1), .val (.ref x1), .val (.ref x2), .val (.int z), .val (.ref en)] [(.int (1 : Int32))])) t
    refine XS.goto X308.here hx rfl (pc0 := 169) (pc' := 173) rfl (hb hby at_169) (by decide) (by decide) ?_
    exact ht
  obtain ⟨fs, hr, hrun, hended, -, hW, hbk, hsame⟩ := Stand.leaveW (s := s) (vm₁ := T241.vm) X308 (hS241) (by exact f312) (v := some (.int (1 : Int32))) (fun h => by rw [Bd.returns] at h; cases h)
  refine ⟨_, _, k330 _ ?_, hrun, hended, _, _, rfl, ?_, ?_, ⟨_, rfl⟩, hW, hbk, hsame.mono (by decide) (by decide)⟩
  · exact retN X308 hx (t := .boolean) Bd.returns (by simp) (hb hby at_173) hr
  · show Q0 Z p1 p2 p3 p4 G1 h0 n0 _ T308.heap _
    exact ⟨rfl, N308⟩
  · show CHr Z consts_1 s.vm s.heap T308.vm T308.heap
    rw [hh]
    exact f310.trans (CHv.at (s := s) (vm0 := T241.vm) X308 hZ241 hEL f310.1)
set_option maxRecDepth 65536 in
set_option maxHeartbeats 40000000 in
theorem comes_1 {Post : Tables → Env → Array Value → State → Outcome → State → Prop} (hpost : ∀ tb e args s v u, (limb_1_1.after args s (.returned v) u = true ∧ limb_1_2.after args s (.returned v) u = true ∧ True) → ReturnedEndW s (.returned v) u (Jvm.fieldLocs frame_1_writes args s ++ Jvm.arrayLocs frame_1_arrays args s ++ Jvm.staticLocs frame_1_statics s) 24 1152 → Post tb e args s (.returned v) u) :
    ArmFor flags0 classFile x code maxLocals ret World_1 tables_1 room_1 Calls_1 rest_1 Pre_1 Post := by
  intro l hfl _ _ p e ha hc hk s m args below hf hA hF happ hP
  obtain ⟨hcalls, hrest, hpre⟩ := hP
  obtain ⟨-, -, -, hnamed, -, -, -, hat⟩ := (Spec.applies_iff hf).mp happ
  obtain ⟨hg, hn⟩ := and_e (Cond.before_iff.mp (show (Jvm.Cond.and given_1 narrow_1).before args s = true from hpre))
  obtain ⟨hcount, g0⟩ := and_e hg
  obtain ⟨ga0, g1⟩ := and_e g0
  obtain ⟨ga1, g2⟩ := and_e g1
  obtain ⟨ga2, g3⟩ := and_e g2
  obtain ⟨w0, w1, w2, w3, rfl⟩ : ∃ w0 w1 w2 w3 : Value, args = #[w0, w1, w2, w3] := by
    have hs : args.size = 4 := by simpa [Cond.value, given_1] using hcount
    obtain ⟨L⟩ := args
    match L, hs with
    | [w0, w1, w2, w3], _ => exact ⟨w0, w1, w2, w3, rfl⟩
  have hw := fun d (hd : d ∈ tables_1) => atoms_spec (ws := Jvm.Cond.code x code maxLocals ret :: tables_1) hat d (List.mem_cons_of_mem _ hd)
  have hfit : Fit s := fun {y c} hc i hi => by
    obtain ⟨ha, rfl⟩ := Array.getElem?_eq_some_iff.mp hc
    have q := List.all_eq_true.mp ((Array.all_eq_true_iff_forall_mem.mp hF) _ (Array.getElem_mem ha)) i (List.mem_range.mpr hi)
    simpa [Array.getElem?_eq_getElem hi] using q
  obtain ⟨i0, ei0⟩ := is_v ga0
  obtain rfl : w0 = (.int i0) := Option.some.inj ei0
  obtain ⟨i1, ei1⟩ := is_v ga1
  obtain rfl : w1 = (.int i1) := Option.some.inj ei1
  obtain ⟨i2, ei2⟩ := is_v ga2
  obtain rfl : w2 = (.int i2) := Option.some.inj ei2
  obtain ⟨i3, ei3⟩ := is_v g3
  obtain rfl : w3 = (.int i3) := Option.some.inj ei3
  obtain ⟨hsets, hown0⟩ := atoms_of _ (rest_1_c_eq ▸ (show rest_1_c.before _ s = true from hrest))
  obtain ⟨G1, eG⟩ := is_v (Cond.before_iff.mp (hsets _ (List.mem_of_getElem? (i := 1) rfl)))
  have S1 : Sta s s.heap "java/lang/String" "COMPACT_STRINGS" "Z" (.int G1) := Sta.start eG (Or.inl (hsets _ (List.mem_of_getElem? (i := 0) rfl)))
  have P5 : ¬ (G1 = (0 : Int32)) := gotF (Cond.eq_ints eG (Term.int_eval (0))) (not_v (Cond.before_iff.mp (hsets _ (List.mem_of_getElem? (i := 2) rfl))))
  have hEL : EW s _ consts_1 := (EW.cons (hw _ (List.mem_of_getElem? (i := 19) rfl)) (by decide +kernel) EW.nil)
  have hCV : CHv s consts_1 s.vm s.heap := CHv.start hEL (show ∀ p ∈ consts_1, Jvm.Lit.constHeld s p.1 p.2 from hcalls.1) (hsets _ (List.mem_of_getElem? (i := 2) rfl)) (hw _ (List.mem_of_getElem? (i := 20) rfl)) (hw _ (List.mem_of_getElem? (i := 6) rfl))
  obtain ⟨n, o, h1, h2, h3, _, L, rfl, ⟨rfl, N⟩, -, hq⟩ := rm0 l s _ hw tables_1 i0 i1 i2 i3 G1 s.heap s.heap.size (Nat.le_refl _) hEL S1 P5 (Old.start s) p e ha hc hk s m _ below hf ((Spec.applies_iff_loose hf).mp happ).1 ⟨rfl, State.Warmed39.refl s, rfl, hCV, all0⟩ trivial
  refine ⟨n, _, h1, h2, h3, hpost _ _ _ _ _ _ ⟨Cond.after_iff.mpr rfl, Cond.after_iff.mpr (eq_i res_at (Term.int_eval (1)) rfl), trivial⟩ ⟨hq.1, hq.2.1, hq.2.2.1, (hq.2.2.2.sift fun y hy => Or.inr (N y hy)).mono (by decide) (by decide)⟩⟩
theorem main_1_1 : Claimed_1_1 := comes_1 fun _ _ _ _ _ _ h hF => ⟨h.1, hF⟩
theorem main_1_2 : Claimed_1_2 := comes_1 fun _ _ _ _ _ _ h hF => ⟨h.2.1, hF⟩
end Jvm.Pilot.@@N@@
namespace Jvm.Pilot.@@N@@
open Jvm Jvm.ClassFile Sem Op Lib Jvm.Free Jvm.Stand Jvm.Pilot.@@N@@.Jvm.D
/-! MADE BY PROGRAM (witnessworld.py) out of the Statement's table words and the real class files: 21 classes; the members and pool entries that the words name. The judged class is class 1, her method 2. -/
namespace start1
open Jvm.ClassFile
def u (s : String) : CpInfo := .utf8 (stringToUtf16 s)
/-- a pool by its gaps: so many unusable entries, then the entry; so many at the end -/
def gap : Nat → List CpInfo → List CpInfo
  | 0, r => r
  | n + 1, r => .unusable :: gap n r
def poolList (es : List (Nat × CpInfo)) (last : Nat) : List CpInfo := es.foldr (fun e r => gap e.1 (e.2 :: r)) (gap last [])
def pool (es : List (Nat × CpInfo)) (last : Nat) : Array CpInfo := ⟨poolList es last⟩
def fileOf (pool : Array CpInfo) (this : Nat) (attrs : Array Attribute := #[]) (ms : Array MethodInfo := #[]) (fl : Nat := 33) (sup : Nat := 0) (ifs : Array Nat := #[]) (fds : Array FieldInfo := #[]) : ClassFile where
  minorVersion := 0
  majorVersion := 65
  constantPool := pool
  accessFlags := fl
  thisClass := this
  superClass := sup
  interfaces := ifs
  fields := fds
  methods := ms
  attributes := attrs
def plain (name : String) (sup : Option ClassId) : Class where
  name := name
  kind := .ordinary
  loader := none
  accessFlags := 33
  super := sup
  interfaces := #[]
  cf := none
  fields := #[]
  methods := #[]
  instanceTypes := #[]
  staticTypes := #[]
  resolved := #[]
  callSites := []
  init := .initialized
  statics := none
  mirror := none

def pool0 : Array CpInfo := pool [(5, u "<init>"), (0, u "()V"), (1, .class_ 10), (1, u "java/lang/Object")] 113

def k0c0 : Code := { maxStack := 0, maxLocals := 1, code := object_method_1_code, exceptionTable := #[], attributes := #[] }
def k0m0 : Method := { name := "<init>", desc := "()V", sig := { parameters := [], returnType := none }, accessFlags := 1, code := some k0c0 }
/-- java/lang/Object -/
def k0 : Class := { plain "java/lang/Object" none with
  accessFlags := 33
  interfaces := #[]
  cf := some (fileOf pool0 8 #[] #[{ accessFlags := 1, nameIndex := 5, descriptorIndex := 6, attributes := #[] }] 33 0 #[] #[])
  fields := #[]
  methods := #[k0m0]
  instanceTypes := #[]
  staticTypes := #[]
  resolved := Array.replicate 124 none
  statics := none }

def pool1 : Array CpInfo := pool [(2, .class_ 4), (1, u "java/lang/Object"), (0, u "<init>"), (0, u "()V"), (0, .class_ 8), (0, u "java/lang/String"), (0, .methodref 7 10), (0, .nameAndType 5 11), (0, u "([C)V"), (0, .integer 2147483647), (0, .methodref 14 15), (0, .class_ 16), (0, .nameAndType 17 18), (0, u "com/example/clearhour/clearhour/input/EndIsTradingHubPinLaw"), (0, u "mk"), (0, u "(ICC)Ljava/lang/String;"), (0, .class_ 20), (0, u "com/example/clearhour/clearhour/input/Transaction$End"), (0, .methodref 19 22), (0, .nameAndType 5 23), (0, u "(Ljava/lang/String;Ljava/lang/String;)V"), (0, .methodref 19 25), (0, .nameAndType 26 27), (0, u "isTradingHub"), (0, u "()Z"), (3, u "law"), (0, u "(IIII)Z")] 6

def k1m0 : Method := { name := "<init>", desc := "()V", sig := { parameters := [], returnType := none }, accessFlags := 1, code := none }
def k1c1 : Code := { maxStack := 6, maxLocals := 3, code := method_2_code, exceptionTable := #[], attributes := #[] }
def k1m1 : Method := { name := "mk", desc := "(ICC)Ljava/lang/String;", sig := { parameters := [.int, .char, .char], returnType := some (.object "java/lang/String") }, accessFlags := 10, code := some k1c1 }
def k1c2 : Code := { maxStack := 4, maxLocals := 14, code := code, exceptionTable := #[], attributes := #[] }
def k1m2 : Method := { name := "law", desc := "(IIII)Z", sig := { parameters := [.int, .int, .int, .int], returnType := some .boolean }, accessFlags := 9, code := some k1c2 }
/-- com/example/clearhour/clearhour/input/EndIsTradingHubPinLaw -/
def k1 : Class := { plain "com/example/clearhour/clearhour/input/EndIsTradingHubPinLaw" (some 0) with
  accessFlags := 49
  interfaces := #[]
  cf := some (fileOf pool1 14 #[] #[{ accessFlags := 1, nameIndex := 5, descriptorIndex := 6, attributes := #[] }, { accessFlags := 10, nameIndex := 17, descriptorIndex := 18, attributes := #[] }, { accessFlags := 9, nameIndex := 31, descriptorIndex := 32, attributes := #[] }] 49 2 #[] #[])
  fields := #[]
  methods := #[k1m0, k1m1, k1m2]
  instanceTypes := #[]
  staticTypes := #[]
  resolved := Array.replicate 39 none
  statics := none }

def pool2 : Array CpInfo := pool [(1, .class_ 2), (0, u "java/io/Serializable"), (0, .class_ 4), (0, u "java/lang/Object")] 2

/-- java/io/Serializable -/
def k2 : Class := { plain "java/io/Serializable" (some 0) with
  accessFlags := 1537
  interfaces := #[]
  cf := some (fileOf pool2 1 #[] #[] 1537 3 #[] #[])
  fields := #[]
  methods := #[]
  instanceTypes := #[]
  staticTypes := #[]
  resolved := Array.replicate 7 none
  statics := none }

def pool3 : Array CpInfo := pool [(1, .class_ 2), (0, u "java/lang/Comparable"), (0, .class_ 4), (0, u "java/lang/Object")] 7

/-- java/lang/Comparable -/
def k3 : Class := { plain "java/lang/Comparable" (some 0) with
  accessFlags := 1537
  interfaces := #[]
  cf := some (fileOf pool3 1 #[] #[] 1537 3 #[] #[])
  fields := #[]
  methods := #[]
  instanceTypes := #[]
  staticTypes := #[]
  resolved := Array.replicate 12 none
  statics := none }

def pool4 : Array CpInfo := pool [(2, .class_ 4), (1, u "java/lang/CharSequence"), (42, .class_ 48), (0, u "java/lang/CharSequence$1CodePointIterator"), (10, .class_ 60), (0, u "java/lang/CharSequence$1CharIterator"), (5, .class_ 67), (0, u "java/lang/Object")] 63

/-- java/lang/CharSequence -/
def k4 : Class := { plain "java/lang/CharSequence" (some 0) with
  accessFlags := 1537
  interfaces := #[]
  cf := some (fileOf pool4 2 #[.nestMembers #[47, 59]] #[] 1537 66 #[] #[])
  fields := #[]
  methods := #[]
  instanceTypes := #[]
  staticTypes := #[]
  resolved := Array.replicate 131 none
  statics := none }

def pool5 : Array CpInfo := pool [(1, .class_ 2), (0, u "java/lang/constant/Constable"), (0, .class_ 4), (0, u "java/lang/Object")] 6

/-- java/lang/constant/Constable -/
def k5 : Class := { plain "java/lang/constant/Constable" (some 0) with
  accessFlags := 1537
  interfaces := #[]
  cf := some (fileOf pool5 1 #[] #[] 1537 3 #[] #[])
  fields := #[]
  methods := #[]
  instanceTypes := #[]
  staticTypes := #[]
  resolved := Array.replicate 11 none
  statics := none }

def pool6 : Array CpInfo := pool [(1, .class_ 2), (0, u "java/lang/constant/ConstantDesc"), (0, .class_ 4), (0, u "java/lang/Object")] 32

/-- java/lang/constant/ConstantDesc -/
def k6 : Class := { plain "java/lang/constant/ConstantDesc" (some 0) with
  accessFlags := 1537
  interfaces := #[]
  cf := some (fileOf pool6 1 #[] #[] 1537 3 #[] #[])
  fields := #[]
  methods := #[]
  instanceTypes := #[]
  staticTypes := #[]
  resolved := Array.replicate 37 none
  statics := none }

def pool7 : Array CpInfo := pool [(1, .methodref 2 3), (0, .class_ 4), (0, .nameAndType 5 6), (0, u "java/lang/Object"), (0, u "<init>"), (0, u "()V"), (0, .string 8), (0, u ""), (0, .fieldref 10 11), (0, .class_ 12), (0, .nameAndType 13 14), (0, u "java/lang/String"), (0, u "value"), (0, u "[B"), (0, .fieldref 10 16), (0, .nameAndType 17 18), (0, u "coder"), (0, u "B"), (2, u "hash"), (0, u "I"), (2, u "hashIsZero"), (0, u "Z"), (0, .methodref 10 28), (0, .nameAndType 5 29), (0, u "([CIILjava/lang/Void;)V"), (8, .fieldref 10 39), (0, .nameAndType 40 26), (0, u "COMPACT_STRINGS"), (1, .class_ 44), (1, u "java/lang/StringUTF16"), (0, u "compress"), (1, .methodref 42 48), (0, .nameAndType 49 50), (0, u "coderFromArrayLen"), (0, u "([BI)B"), (56, .class_ 109), (1, u "java/lang/StringLatin1"), (67, .methodref 42 178), (0, .nameAndType 45 179), (0, u "([CII)[B"), (361, .methodref 107 542), (0, .nameAndType 543 544), (0, u "equals"), (0, u "([B[B)Z"), (28, u "(Ljava/lang/Object;)Z"), (1, .class_ 576), (0, u "java/lang/CharSequence"), (22, u "CASE_INSENSITIVE_ORDER"), (0, u "Ljava/util/Comparator;"), (409, u "([C)V"), (90, u "serialPersistentFields"), (0, u "[Ljava/io/ObjectStreamField;"), (0, .class_ 1104), (0, u "java/lang/String$CaseInsensitiveComparator"), (1, .class_ 1107), (0, u "java/io/Serializable"), (0, .class_ 1109), (0, u "java/lang/Comparable"), (0, .class_ 1111), (0, u "java/lang/constant/Constable"), (0, .class_ 1113), (0, u "java/lang/constant/ConstantDesc"), (2, u "serialVersionUID"), (0, u "J"), (3, u "REPL"), (0, u "C"), (2, u "LATIN1"), (1, u "UTF16")] 323

def k7m0 : Method := { name := "<init>", desc := "()V", sig := { parameters := [], returnType := none }, accessFlags := 1, code := none }
def k7c1 : Code := { maxStack := 5, maxLocals := 2, code := jdk_42_method_3_code, exceptionTable := #[], attributes := #[] }
def k7m1 : Method := { name := "<init>", desc := "([C)V", sig := { parameters := [(.array .char)], returnType := none }, accessFlags := 1, code := some k7c1 }
def k7c2 : Code := { maxStack := 2, maxLocals := 3, code := jdk_42_method_66_code, exceptionTable := #[], attributes := #[] }
def k7m2 : Method := { name := "equals", desc := "(Ljava/lang/Object;)Z", sig := { parameters := [(.object "java/lang/Object")], returnType := some .boolean }, accessFlags := 1, code := some k7c2 }
def k7c3 : Code := { maxStack := 4, maxLocals := 6, code := jdk_42_method_149_code, exceptionTable := #[], attributes := #[] }
def k7m3 : Method := { name := "<init>", desc := "([CIILjava/lang/Void;)V", sig := { parameters := [(.array .char), .int, .int, (.object "java/lang/Void")], returnType := none }, accessFlags := 2, code := some k7c3 }
/-- java/lang/String -/
def k7 : Class := { plain "java/lang/String" (some 0) with
  accessFlags := 49
  interfaces := #[2, 3, 4, 5, 6]
  cf := some (fileOf pool7 10 #[.nestMembers #[1103]] #[{ accessFlags := 1, nameIndex := 5, descriptorIndex := 6, attributes := #[] }, { accessFlags := 1, nameIndex := 5, descriptorIndex := 1010, attributes := #[] }, { accessFlags := 1, nameIndex := 543, descriptorIndex := 573, attributes := #[] }, { accessFlags := 2, nameIndex := 5, descriptorIndex := 29, attributes := #[] }] 49 2 #[1106, 1108, 575, 1110, 1112] #[{ accessFlags := 18, nameIndex := 13, descriptorIndex := 14, attributes := #[] }, { accessFlags := 18, nameIndex := 17, descriptorIndex := 18, attributes := #[] }, { accessFlags := 2, nameIndex := 21, descriptorIndex := 22, attributes := #[] }, { accessFlags := 2, nameIndex := 25, descriptorIndex := 26, attributes := #[] }, { accessFlags := 26, nameIndex := 1116, descriptorIndex := 1117, attributes := #[] }, { accessFlags := 24, nameIndex := 40, descriptorIndex := 26, attributes := #[] }, { accessFlags := 26, nameIndex := 1101, descriptorIndex := 1102, attributes := #[] }, { accessFlags := 26, nameIndex := 1121, descriptorIndex := 1122, attributes := #[] }, { accessFlags := 25, nameIndex := 599, descriptorIndex := 600, attributes := #[] }, { accessFlags := 24, nameIndex := 1125, descriptorIndex := 18, attributes := #[] }, { accessFlags := 24, nameIndex := 1127, descriptorIndex := 18, attributes := #[] }])
  fields := #[{ name := "value", type := (.array .byte), accessFlags := 18, slot := 0, constantValue := 0 }, { name := "coder", type := .byte, accessFlags := 18, slot := 1, constantValue := 0 }, { name := "hash", type := .int, accessFlags := 2, slot := 2, constantValue := 0 }, { name := "hashIsZero", type := .boolean, accessFlags := 2, slot := 3, constantValue := 0 }, { name := "serialVersionUID", type := .long, accessFlags := 26, slot := 0, constantValue := 0 }, { name := "COMPACT_STRINGS", type := .boolean, accessFlags := 24, slot := 1, constantValue := 0 }, { name := "serialPersistentFields", type := (.array (.object "java/io/ObjectStreamField")), accessFlags := 26, slot := 2, constantValue := 0 }, { name := "REPL", type := .char, accessFlags := 26, slot := 3, constantValue := 0 }, { name := "CASE_INSENSITIVE_ORDER", type := (.object "java/util/Comparator"), accessFlags := 25, slot := 4, constantValue := 0 }, { name := "LATIN1", type := .byte, accessFlags := 24, slot := 5, constantValue := 0 }, { name := "UTF16", type := .byte, accessFlags := 24, slot := 6, constantValue := 0 }]
  methods := #[k7m0, k7m1, k7m2, k7m3]
  instanceTypes := #[(.array .byte), .byte, .int, .boolean]
  staticTypes := #[.long, .boolean, (.array (.object "java/io/ObjectStreamField")), .char, (.object "java/util/Comparator"), .byte, .byte]
  resolved := Array.replicate 1451 none
  statics := some 0 }

def pool8 : Array CpInfo := pool [(1, .methodref 2 3), (0, .class_ 4), (0, .nameAndType 5 6), (0, u "java/lang/Object"), (0, u "<init>"), (0, u "()V"), (0, .class_ 8), (0, u "java/lang/Record")] 13

def k8c0 : Code := { maxStack := 1, maxLocals := 1, code := jdk_30_method_1_code, exceptionTable := #[], attributes := #[] }
def k8m0 : Method := { name := "<init>", desc := "()V", sig := { parameters := [], returnType := none }, accessFlags := 4, code := some k8c0 }
/-- java/lang/Record -/
def k8 : Class := { plain "java/lang/Record" (some 0) with
  accessFlags := 1057
  interfaces := #[]
  cf := some (fileOf pool8 7 #[] #[{ accessFlags := 4, nameIndex := 5, descriptorIndex := 6, attributes := #[] }] 1057 2 #[] #[])
  fields := #[]
  methods := #[k8m0]
  instanceTypes := #[]
  staticTypes := #[]
  resolved := Array.replicate 22 none
  statics := none }

def pool9 : Array CpInfo := pool [(1, .methodref 2 3), (0, .class_ 4), (0, .nameAndType 5 6), (0, u "java/lang/Record"), (0, u "<init>"), (0, u "()V"), (0, .fieldref 8 9), (0, .class_ 10), (0, .nameAndType 11 12), (0, u "com/example/clearhour/clearhour/input/Transaction$End"), (0, u "name"), (0, u "Ljava/lang/String;"), (0, .fieldref 8 14), (0, .nameAndType 15 12), (0, u "pricedAt"), (2, u "(Ljava/lang/String;Ljava/lang/String;)V"), (0, .methodref 20 21), (0, .class_ 22), (0, .nameAndType 23 24), (0, u "java/lang/String"), (0, u "equals"), (0, u "(Ljava/lang/Object;)Z"), (2, u "isTradingHub"), (0, u "()Z"), (27, .class_ 57), (0, u "com/example/clearhour/clearhour/input/Transaction")] 28

def k9c0 : Code := { maxStack := 2, maxLocals := 3, code := prog_21_method_1_code, exceptionTable := #[], attributes := #[] }
def k9m0 : Method := { name := "<init>", desc := "(Ljava/lang/String;Ljava/lang/String;)V", sig := { parameters := [(.object "java/lang/String"), (.object "java/lang/String")], returnType := none }, accessFlags := 1, code := some k9c0 }
def k9c1 : Code := { maxStack := 2, maxLocals := 1, code := prog_21_method_3_code, exceptionTable := #[], attributes := #[] }
def k9m1 : Method := { name := "isTradingHub", desc := "()Z", sig := { parameters := [], returnType := some .boolean }, accessFlags := 1, code := some k9c1 }
/-- com/example/clearhour/clearhour/input/Transaction$End -/
def k9 : Class := { plain "com/example/clearhour/clearhour/input/Transaction$End" (some 8) with
  accessFlags := 49
  interfaces := #[]
  cf := some (fileOf pool9 8 #[.nestHost 56] #[{ accessFlags := 1, nameIndex := 5, descriptorIndex := 18, attributes := #[] }, { accessFlags := 1, nameIndex := 27, descriptorIndex := 28, attributes := #[] }] 49 2 #[] #[{ accessFlags := 18, nameIndex := 11, descriptorIndex := 12, attributes := #[] }, { accessFlags := 18, nameIndex := 15, descriptorIndex := 12, attributes := #[] }])
  fields := #[{ name := "name", type := (.object "java/lang/String"), accessFlags := 18, slot := 0, constantValue := 0 }, { name := "pricedAt", type := (.object "java/lang/String"), accessFlags := 18, slot := 1, constantValue := 0 }]
  methods := #[k9m0, k9m1]
  instanceTypes := #[(.object "java/lang/String"), (.object "java/lang/String")]
  staticTypes := #[]
  resolved := Array.replicate 86 none
  statics := none }

def pool10 : Array CpInfo := pool [(4, .class_ 6), (1, u "java/lang/Object"), (0, u "<init>"), (0, u "()V"), (5, .class_ 16), (1, u "java/lang/StringLatin1"), (104, u "$assertionsDisabled"), (0, u "Z"), (98, .class_ 223), (1, u "java/lang/StringLatin1$LinesSpliterator"), (57, u "equals"), (0, u "([B[B)Z"), (107, .class_ 391), (0, u "java/lang/StringLatin1$CharsSpliterator")] 3

def k10m0 : Method := { name := "<init>", desc := "()V", sig := { parameters := [], returnType := none }, accessFlags := 0, code := none }
def k10c1 : Code := { maxStack := 3, maxLocals := 3, code := jdk_43_method_13_code, exceptionTable := #[], attributes := #[] }
def k10m1 : Method := { name := "equals", desc := "([B[B)Z", sig := { parameters := [(.array .byte), (.array .byte)], returnType := some .boolean }, accessFlags := 9, code := some k10c1 }
/-- java/lang/StringLatin1 -/
def k10 : Class := { plain "java/lang/StringLatin1" (some 0) with
  accessFlags := 48
  interfaces := #[]
  cf := some (fileOf pool10 14 #[.nestMembers #[390, 221]] #[{ accessFlags := 0, nameIndex := 7, descriptorIndex := 8, attributes := #[] }, { accessFlags := 9, nameIndex := 281, descriptorIndex := 282, attributes := #[] }] 48 4 #[] #[{ accessFlags := 4120, nameIndex := 121, descriptorIndex := 122, attributes := #[] }])
  fields := #[{ name := "$assertionsDisabled", type := .boolean, accessFlags := 4120, slot := 0, constantValue := 0 }]
  methods := #[k10m0, k10m1]
  instanceTypes := #[]
  staticTypes := #[.boolean]
  resolved := Array.replicate 395 none
  statics := none }

def pool11 : Array CpInfo := pool [(6, .class_ 8), (1, u "java/lang/Object"), (0, u "<init>"), (0, u "()V"), (1, .class_ 14), (1, u "java/lang/StringUTF16"), (31, u "$assertionsDisabled"), (0, u "Z"), (13, u "HI_BYTE_SHIFT"), (0, u "I"), (2, u "LO_BYTE_SHIFT"), (49, .methodref 12 116), (0, .nameAndType 117 118), (0, u "compress"), (0, u "([CI[BII)I"), (3, u "([CII)[B"), (138, u "coderFromArrayLen"), (0, u "([BI)B"), (106, .class_ 371), (1, u "java/lang/StringUTF16$LinesSpliterator"), (58, u "MAX_LENGTH"), (196, .class_ 628), (0, u "java/lang/StringUTF16$CodePointsSpliterator"), (0, .class_ 630), (0, u "java/lang/StringUTF16$CharsSpliterator")] 4

def k11m0 : Method := { name := "<init>", desc := "()V", sig := { parameters := [], returnType := none }, accessFlags := 0, code := none }
def k11c1 : Code := { maxStack := 2, maxLocals := 2, code := jdk_52_method_15_code, exceptionTable := #[], attributes := #[] }
def k11m1 : Method := { name := "coderFromArrayLen", desc := "([BI)B", sig := { parameters := [(.array .byte), .int], returnType := some .byte }, accessFlags := 8, code := some k11c1 }
def k11c2 : Code := { maxStack := 5, maxLocals := 6, code := jdk_52_method_16_code, exceptionTable := #[], attributes := #[] }
def k11m2 : Method := { name := "compress", desc := "([CII)[B", sig := { parameters := [(.array .char), .int, .int], returnType := some (.array .byte) }, accessFlags := 9, code := some k11c2 }
def k11c3 : Code := { maxStack := 3, maxLocals := 7, code := jdk_52_method_21_code, exceptionTable := #[], attributes := #[] }
def k11m3 : Method := { name := "compress", desc := "([CI[BII)I", sig := { parameters := [(.array .char), .int, (.array .byte), .int, .int], returnType := some .int }, accessFlags := 9, code := some k11c3 }
/-- java/lang/StringUTF16 -/
def k11 : Class := { plain "java/lang/StringUTF16" (some 0) with
  accessFlags := 48
  interfaces := #[]
  cf := some (fileOf pool11 12 #[.nestMembers #[627, 629, 369]] #[{ accessFlags := 0, nameIndex := 9, descriptorIndex := 10, attributes := #[] }, { accessFlags := 8, nameIndex := 261, descriptorIndex := 262, attributes := #[] }, { accessFlags := 9, nameIndex := 117, descriptorIndex := 122, attributes := #[] }, { accessFlags := 9, nameIndex := 117, descriptorIndex := 118, attributes := #[] }] 48 6 #[] #[{ accessFlags := 26, nameIndex := 61, descriptorIndex := 62, attributes := #[] }, { accessFlags := 26, nameIndex := 65, descriptorIndex := 62, attributes := #[] }, { accessFlags := 24, nameIndex := 430, descriptorIndex := 62, attributes := #[] }, { accessFlags := 4120, nameIndex := 46, descriptorIndex := 47, attributes := #[] }])
  fields := #[{ name := "HI_BYTE_SHIFT", type := .int, accessFlags := 26, slot := 0, constantValue := 0 }, { name := "LO_BYTE_SHIFT", type := .int, accessFlags := 26, slot := 1, constantValue := 0 }, { name := "MAX_LENGTH", type := .int, accessFlags := 24, slot := 2, constantValue := 0 }, { name := "$assertionsDisabled", type := .boolean, accessFlags := 4120, slot := 3, constantValue := 0 }]
  methods := #[k11m0, k11m1, k11m2, k11m3]
  instanceTypes := #[]
  staticTypes := #[.int, .int, .int, .boolean]
  resolved := Array.replicate 635 none
  statics := none }

def pool12 : Array CpInfo := pool [(2, .class_ 4), (1, u "java/lang/Object"), (0, u "<init>"), (0, u "()V"), (17, .class_ 26), (1, u "jdk/internal/util/Preconditions"), (28, .class_ 56), (0, u "jdk/internal/util/Preconditions$4"), (57, .class_ 115), (0, u "jdk/internal/util/Preconditions$1"), (7, u "SIOOBE_FORMATTER"), (0, u "Ljava/util/function/BiFunction;"), (0, .class_ 126), (0, u "jdk/internal/util/Preconditions$2"), (3, u "AIOOBE_FORMATTER"), (0, .class_ 132), (0, u "jdk/internal/util/Preconditions$3"), (3, u "IOOBE_FORMATTER")] 57

def k12m0 : Method := { name := "<init>", desc := "()V", sig := { parameters := [], returnType := none }, accessFlags := 1, code := none }
/-- jdk/internal/util/Preconditions -/
def k12 : Class := { plain "jdk/internal/util/Preconditions" (some 0) with
  accessFlags := 33
  interfaces := #[]
  cf := some (fileOf pool12 24 #[.nestMembers #[55, 131, 125, 114]] #[{ accessFlags := 1, nameIndex := 5, descriptorIndex := 6, attributes := #[] }] 33 2 #[] #[{ accessFlags := 25, nameIndex := 123, descriptorIndex := 124, attributes := #[] }, { accessFlags := 25, nameIndex := 130, descriptorIndex := 124, attributes := #[] }, { accessFlags := 25, nameIndex := 136, descriptorIndex := 124, attributes := #[] }])
  fields := #[{ name := "SIOOBE_FORMATTER", type := (.object "java/util/function/BiFunction"), accessFlags := 25, slot := 0, constantValue := 0 }, { name := "AIOOBE_FORMATTER", type := (.object "java/util/function/BiFunction"), accessFlags := 25, slot := 1, constantValue := 0 }, { name := "IOOBE_FORMATTER", type := (.object "java/util/function/BiFunction"), accessFlags := 25, slot := 2, constantValue := 0 }]
  methods := #[k12m0]
  instanceTypes := #[]
  staticTypes := #[(.object "java/util/function/BiFunction"), (.object "java/util/function/BiFunction"), (.object "java/util/function/BiFunction")]
  resolved := Array.replicate 194 none
  statics := some 1 }

def pool13 : Array CpInfo := pool [(9, u "<init>"), (6, .class_ 18), (1, u "java/lang/Object"), (0, u "()V"), (1, .class_ 23), (1, u "jdk/internal/util/ArraysSupport"), (0, u "LOG2_ARRAY_LONG_INDEX_SCALE"), (0, u "I"), (2, u "U"), (0, u "Ljdk/internal/misc/Unsafe;"), (8, u "BIG_ENDIAN"), (0, u "Z"), (8, u "LOG2_BYTE_BIT_SIZE"), (4, u "LOG2_ARRAY_INT_INDEX_SCALE"), (54, u "JLA"), (0, u "Ljdk/internal/access/JavaLangAccess;"), (11, u "LOG2_ARRAY_BOOLEAN_INDEX_SCALE"), (9, u "LOG2_ARRAY_BYTE_INDEX_SCALE"), (5, u "LOG2_ARRAY_CHAR_INDEX_SCALE"), (5, u "LOG2_ARRAY_SHORT_INDEX_SCALE"), (18, u "LOG2_ARRAY_FLOAT_INDEX_SCALE"), (24, u "LOG2_ARRAY_DOUBLE_INDEX_SCALE"), (89, u "T_BOOLEAN"), (2, u "T_CHAR"), (1, u "T_FLOAT"), (1, u "T_DOUBLE"), (1, u "T_BYTE"), (1, u "T_SHORT"), (1, u "T_INT"), (1, u "T_LONG"), (1, u "SOFT_MAX_ARRAY_LENGTH")] 83

def k13m0 : Method := { name := "<init>", desc := "()V", sig := { parameters := [], returnType := none }, accessFlags := 2, code := none }
/-- jdk/internal/util/ArraysSupport -/
def k13 : Class := { plain "jdk/internal/util/ArraysSupport" (some 0) with
  accessFlags := 33
  interfaces := #[]
  cf := some (fileOf pool13 21 #[] #[{ accessFlags := 2, nameIndex := 9, descriptorIndex := 19, attributes := #[] }] 33 16 #[] #[{ accessFlags := 24, nameIndex := 28, descriptorIndex := 29, attributes := #[] }, { accessFlags := 26, nameIndex := 38, descriptorIndex := 39, attributes := #[] }, { accessFlags := 25, nameIndex := 121, descriptorIndex := 25, attributes := #[] }, { accessFlags := 25, nameIndex := 131, descriptorIndex := 25, attributes := #[] }, { accessFlags := 25, nameIndex := 137, descriptorIndex := 25, attributes := #[] }, { accessFlags := 25, nameIndex := 143, descriptorIndex := 25, attributes := #[] }, { accessFlags := 25, nameIndex := 53, descriptorIndex := 25, attributes := #[] }, { accessFlags := 25, nameIndex := 24, descriptorIndex := 25, attributes := #[] }, { accessFlags := 25, nameIndex := 162, descriptorIndex := 25, attributes := #[] }, { accessFlags := 25, nameIndex := 187, descriptorIndex := 25, attributes := #[] }, { accessFlags := 26, nameIndex := 48, descriptorIndex := 25, attributes := #[] }, { accessFlags := 25, nameIndex := 277, descriptorIndex := 25, attributes := #[] }, { accessFlags := 25, nameIndex := 280, descriptorIndex := 25, attributes := #[] }, { accessFlags := 25, nameIndex := 282, descriptorIndex := 25, attributes := #[] }, { accessFlags := 25, nameIndex := 284, descriptorIndex := 25, attributes := #[] }, { accessFlags := 25, nameIndex := 286, descriptorIndex := 25, attributes := #[] }, { accessFlags := 25, nameIndex := 288, descriptorIndex := 25, attributes := #[] }, { accessFlags := 25, nameIndex := 290, descriptorIndex := 25, attributes := #[] }, { accessFlags := 25, nameIndex := 292, descriptorIndex := 25, attributes := #[] }, { accessFlags := 26, nameIndex := 108, descriptorIndex := 109, attributes := #[] }, { accessFlags := 25, nameIndex := 294, descriptorIndex := 25, attributes := #[] }])
  fields := #[{ name := "U", type := (.object "jdk/internal/misc/Unsafe"), accessFlags := 24, slot := 0, constantValue := 0 }, { name := "BIG_ENDIAN", type := .boolean, accessFlags := 26, slot := 1, constantValue := 0 }, { name := "LOG2_ARRAY_BOOLEAN_INDEX_SCALE", type := .int, accessFlags := 25, slot := 2, constantValue := 0 }, { name := "LOG2_ARRAY_BYTE_INDEX_SCALE", type := .int, accessFlags := 25, slot := 3, constantValue := 0 }, { name := "LOG2_ARRAY_CHAR_INDEX_SCALE", type := .int, accessFlags := 25, slot := 4, constantValue := 0 }, { name := "LOG2_ARRAY_SHORT_INDEX_SCALE", type := .int, accessFlags := 25, slot := 5, constantValue := 0 }, { name := "LOG2_ARRAY_INT_INDEX_SCALE", type := .int, accessFlags := 25, slot := 6, constantValue := 0 }, { name := "LOG2_ARRAY_LONG_INDEX_SCALE", type := .int, accessFlags := 25, slot := 7, constantValue := 0 }, { name := "LOG2_ARRAY_FLOAT_INDEX_SCALE", type := .int, accessFlags := 25, slot := 8, constantValue := 0 }, { name := "LOG2_ARRAY_DOUBLE_INDEX_SCALE", type := .int, accessFlags := 25, slot := 9, constantValue := 0 }, { name := "LOG2_BYTE_BIT_SIZE", type := .int, accessFlags := 26, slot := 10, constantValue := 0 }, { name := "T_BOOLEAN", type := .int, accessFlags := 25, slot := 11, constantValue := 0 }, { name := "T_CHAR", type := .int, accessFlags := 25, slot := 12, constantValue := 0 }, { name := "T_FLOAT", type := .int, accessFlags := 25, slot := 13, constantValue := 0 }, { name := "T_DOUBLE", type := .int, accessFlags := 25, slot := 14, constantValue := 0 }, { name := "T_BYTE", type := .int, accessFlags := 25, slot := 15, constantValue := 0 }, { name := "T_SHORT", type := .int, accessFlags := 25, slot := 16, constantValue := 0 }, { name := "T_INT", type := .int, accessFlags := 25, slot := 17, constantValue := 0 }, { name := "T_LONG", type := .int, accessFlags := 25, slot := 18, constantValue := 0 }, { name := "JLA", type := (.object "jdk/internal/access/JavaLangAccess"), accessFlags := 26, slot := 19, constantValue := 0 }, { name := "SOFT_MAX_ARRAY_LENGTH", type := .int, accessFlags := 25, slot := 20, constantValue := 0 }]
  methods := #[k13m0]
  instanceTypes := #[]
  staticTypes := #[(.object "jdk/internal/misc/Unsafe"), .boolean, .int, .int, .int, .int, .int, .int, .int, .int, .int, .int, .int, .int, .int, .int, .int, .int, .int, (.object "jdk/internal/access/JavaLangAccess"), .int]
  resolved := Array.replicate 378 none
  statics := none }

def pool14 : Array CpInfo := pool [(1, u "java/lang/Cloneable"), (0, .class_ 1), (0, u "java/lang/Object"), (0, .class_ 3)] 3

/-- java/lang/Cloneable -/
def k14 : Class := { plain "java/lang/Cloneable" (some 0) with
  accessFlags := 1537
  interfaces := #[]
  cf := some (fileOf pool14 2 #[] #[] 1537 4 #[] #[])
  fields := #[]
  methods := #[]
  instanceTypes := #[]
  staticTypes := #[]
  resolved := Array.replicate 8 none
  statics := none }

/-- the primitive byte -/
def k15 : Class := { plain "byte" none with kind := .primitive 'B', accessFlags := 0x411 }
/-- [B -/
def k16 : Class := { plain "[B" (some 0) with kind := .array 15 .byte, interfaces := #[14, 2], accessFlags := 1041 }

/-- the primitive char -/
def k17 : Class := { plain "char" none with kind := .primitive 'C', accessFlags := 0x411 }
/-- [C -/
def k18 : Class := { plain "[C" (some 0) with kind := .array 17 .char, interfaces := #[14, 2], accessFlags := 1041 }

/-- the primitive int -/
def k19 : Class := { plain "int" none with kind := .primitive 'I', accessFlags := 0x411 }
/-- [I -/
def k20 : Class := { plain "[I" (some 0) with kind := .array 19 .int, interfaces := #[14, 2], accessFlags := 1041 }

def heap : Heap := #[{ cls := 7, slots := #[.long 0, .int 1, .null, .int 0, .null, .int 0, .int 0], vm := .statics 7 },
  { cls := 12, slots := #[.null, .null, .null], vm := .statics 12 }]
def classes : Array Class := #[k0, k1, k2, k3, k4, k5, k6, k7, k8, k9, k10, k11, k12, k13, k14, k15, k16, k17, k18, k19, k20]
def interned : List (Array UInt16 × Addr) := []
def slotsUsed : Nat := 10
def theMethod : MethodId := ⟨1, 2⟩
def args0 : Array Value := #[.int 5, .int 7, .int 1, .int 2]
def aboutOver (below : List Frame) : State where
  vm := { classes := classes, interned := interned.toArray }
  heap := heap
  slotsUsed := slotsUsed
  threads := #[{ frames := .invoking theMethod args0 :: below }]
def below0 : List Frame := [.native { method := ⟨0, 0⟩, args := #[] }]
def about1 : State := aboutOver below0
def p0 : Program := .bare "" "" ""
def e0 : Env := launch0.env 0 0 0
theorem w_frames : about1.frames = Frame.invoking theMethod args0 :: below0 := rfl
set_option maxRecDepth 65536 in
theorem w_args : argsFit about1.vm theMethod args0 = true := by decide +kernel
set_option maxRecDepth 65536 in
theorem w_heap : heapFits about1 = true := by decide +kernel
set_option maxRecDepth 65536 in
theorem w_runnable : about1.curStatus? = some .runnable := by decide +kernel
set_option maxRecDepth 65536 in
theorem w_alone : about1.alone = true := by decide +kernel
set_option maxRecDepth 65536 in
theorem w_named : about1.methodNamed? x = some theMethod := by decide +kernel
set_option maxRecDepth 65536 in
theorem w_hears : about1.hears theMethod below0 = true := by decide +kernel
set_option maxRecDepth 65536 in
theorem w_ripe : about1.ripe theMethod args0 below0 = true := by decide +kernel
theorem w_running : about1.status = .running := rfl
set_option maxRecDepth 65536 in
theorem w_room : about1.hasRoom e0.platform room_1 = true :=
  launch0.hasRoom_least _ room_1 (by decide +kernel) (by decide +kernel) (by decide +kernel) (by decide +kernel) (by decide +kernel) (by decide +kernel)
theorem allAtoms_all (ts : List Jvm.Cond) (a : Array Jvm.Value) (st : Jvm.State) : (allAtoms ts).before a st = ts.all (fun c => c.before a st) := by
  induction ts with
  | nil => rfl
  | cons c t ih =>
    show (Jvm.Cond.and c (allAtoms t)).before a st = _
    rw [Jvm.Cond.before_and, ih, List.all_cons]
def words1 : List Jvm.Cond := Jvm.Cond.code x code maxLocals ret :: tables_1
/-- a 'code' word, met by the world's own term for the bytes: nothing is compared byte by byte -/
theorem code_word {y : MethodName} {bytes : ByteArray} {mx : Nat} {rt : Option FieldType} {a : Array Value} {s : State} {m : MethodId} {meth : Method} {c : Code} (h1 : s.methodNamed? y = some m) (h2 : s.vm.method? m = some meth) (h3 : meth.code = some c) (h4 : c.code = bytes)
    (h5 : (c.maxLocals == mx && c.exceptionTable.isEmpty && decide (c.maxStack ≤ mostOperands) && decide (meth.sig.returnType = rt) && !meth.locks && decide (parseMethodDescriptor y.desc = some meth.sig)) = true) : (Jvm.Cond.code y bytes mx rt).before a s = true := by
  simp only [Bool.and_eq_true, beq_iff_eq, Bool.not_eq_true', decide_eq_true_eq] at h5
  obtain ⟨⟨⟨⟨⟨g1, g2⟩, g3⟩, g4⟩, g5⟩, g6⟩ := h5
  simp [Cond.before, Cond.holds, Cond.value, h1, h2, h3, h4, g1, g2, g3, g4, g5, g6]
def isCode : Jvm.Cond → Bool
  | .code _ _ _ _ => true
  | _ => false
theorem all_split {L : List Jvm.Cond} {P : Jvm.Cond → Bool} (h1 : L.all (fun c => isCode c || P c) = true) (h2 : ∀ c ∈ L.filter isCode, P c = true) : L.all P = true := by
  refine List.all_eq_true.mpr fun c hc => ?_
  have h := List.all_eq_true.mp h1 c hc
  rcases Bool.eq_false_or_eq_true (isCode c) with hi | hi
  · exact h2 c (List.mem_filter.mpr ⟨hc, hi⟩)
  · simpa [hi] using h
set_option maxRecDepth 65536 in
theorem w_c0 : (Jvm.Cond.code x code maxLocals ret).before args0 about1 = true := code_word (m := ⟨1, 2⟩) (meth := k1m2) (c := k1c2) (by decide +kernel) rfl rfl rfl (by decide +kernel)
set_option maxRecDepth 65536 in
theorem w_c1 : (Jvm.Cond.code ({ cls := "com/example/clearhour/clearhour/input/EndIsTradingHubPinLaw", name := "mk", desc := "(ICC)Ljava/lang/String;" } : Jvm.MethodName) method_2_code (3 : Nat) (Option.some (Jvm.ClassFile.FieldType.object "java/lang/String"))).before args0 about1 = true := code_word (m := ⟨1, 1⟩) (meth := k1m1) (c := k1c1) (by decide +kernel) rfl rfl rfl (by decide +kernel)
set_option maxRecDepth 65536 in
theorem w_c2 : (Jvm.Cond.code ({ cls := "java/lang/String", name := "<init>", desc := "([C)V" } : Jvm.MethodName) jdk_42_method_3_code (2 : Nat) (Option.none : Option Jvm.ClassFile.FieldType)).before args0 about1 = true := code_word (m := ⟨7, 1⟩) (meth := k7m1) (c := k7c1) (by decide +kernel) rfl rfl rfl (by decide +kernel)
set_option maxRecDepth 65536 in
theorem w_c3 : (Jvm.Cond.code ({ cls := "java/lang/String", name := "<init>", desc := "([CIILjava/lang/Void;)V" } : Jvm.MethodName) jdk_42_method_149_code (6 : Nat) (Option.none : Option Jvm.ClassFile.FieldType)).before args0 about1 = true := code_word (m := ⟨7, 3⟩) (meth := k7m3) (c := k7c3) (by decide +kernel) rfl rfl rfl (by decide +kernel)
set_option maxRecDepth 65536 in
theorem w_c4 : (Jvm.Cond.code ({ cls := "java/lang/Object", name := "<init>", desc := "()V" } : Jvm.MethodName) object_method_1_code (1 : Nat) (Option.none : Option Jvm.ClassFile.FieldType)).before args0 about1 = true := code_word (m := ⟨0, 0⟩) (meth := k0m0) (c := k0c0) (by decide +kernel) rfl rfl rfl (by decide +kernel)
set_option maxRecDepth 65536 in
theorem w_c5 : (Jvm.Cond.code ({ cls := "com/example/clearhour/clearhour/input/Transaction$End", name := "<init>", desc := "(Ljava/lang/String;Ljava/lang/String;)V" } : Jvm.MethodName) prog_21_method_1_code (3 : Nat) (Option.none : Option Jvm.ClassFile.FieldType)).before args0 about1 = true := code_word (m := ⟨9, 0⟩) (meth := k9m0) (c := k9c0) (by decide +kernel) rfl rfl rfl (by decide +kernel)
set_option maxRecDepth 65536 in
theorem w_c6 : (Jvm.Cond.code ({ cls := "java/lang/Record", name := "<init>", desc := "()V" } : Jvm.MethodName) jdk_30_method_1_code (1 : Nat) (Option.none : Option Jvm.ClassFile.FieldType)).before args0 about1 = true := code_word (m := ⟨8, 0⟩) (meth := k8m0) (c := k8c0) (by decide +kernel) rfl rfl rfl (by decide +kernel)
set_option maxRecDepth 65536 in
theorem w_c7 : (Jvm.Cond.code ({ cls := "com/example/clearhour/clearhour/input/Transaction$End", name := "isTradingHub", desc := "()Z" } : Jvm.MethodName) prog_21_method_3_code (1 : Nat) (Option.some Jvm.ClassFile.FieldType.boolean)).before args0 about1 = true := code_word (m := ⟨9, 1⟩) (meth := k9m1) (c := k9c1) (by decide +kernel) rfl rfl rfl (by decide +kernel)
set_option maxRecDepth 65536 in
theorem w_c8 : (Jvm.Cond.code ({ cls := "java/lang/String", name := "equals", desc := "(Ljava/lang/Object;)Z" } : Jvm.MethodName) jdk_42_method_66_code (3 : Nat) (Option.some Jvm.ClassFile.FieldType.boolean)).before args0 about1 = true := code_word (m := ⟨7, 2⟩) (meth := k7m2) (c := k7c2) (by decide +kernel) rfl rfl rfl (by decide +kernel)
set_option maxRecDepth 65536 in
theorem w_c9 : (Jvm.Cond.code ({ cls := "java/lang/StringLatin1", name := "equals", desc := "([B[B)Z" } : Jvm.MethodName) jdk_43_method_13_code (3 : Nat) (Option.some Jvm.ClassFile.FieldType.boolean)).before args0 about1 = true := code_word (m := ⟨10, 1⟩) (meth := k10m1) (c := k10c1) (by decide +kernel) rfl rfl rfl (by decide +kernel)
set_option maxRecDepth 65536 in
theorem w_c10 : (Jvm.Cond.code ({ cls := "java/lang/StringUTF16", name := "compress", desc := "([CII)[B" } : Jvm.MethodName) jdk_52_method_16_code (6 : Nat) (Option.some (Jvm.ClassFile.FieldType.array Jvm.ClassFile.FieldType.byte))).before args0 about1 = true := code_word (m := ⟨11, 2⟩) (meth := k11m2) (c := k11c2) (by decide +kernel) rfl rfl rfl (by decide +kernel)
set_option maxRecDepth 65536 in
theorem w_c11 : (Jvm.Cond.code ({ cls := "java/lang/StringUTF16", name := "compress", desc := "([CI[BII)I" } : Jvm.MethodName) jdk_52_method_21_code (7 : Nat) (Option.some Jvm.ClassFile.FieldType.int)).before args0 about1 = true := code_word (m := ⟨11, 3⟩) (meth := k11m3) (c := k11c3) (by decide +kernel) rfl rfl rfl (by decide +kernel)
set_option maxRecDepth 65536 in
theorem w_c12 : (Jvm.Cond.code ({ cls := "java/lang/StringUTF16", name := "coderFromArrayLen", desc := "([BI)B" } : Jvm.MethodName) jdk_52_method_15_code (2 : Nat) (Option.some Jvm.ClassFile.FieldType.byte)).before args0 about1 = true := code_word (m := ⟨11, 1⟩) (meth := k11m1) (c := k11c1) (by decide +kernel) rfl rfl rfl (by decide +kernel)
def codes1 : List Jvm.Cond := [Jvm.Cond.code x code maxLocals ret, Jvm.Cond.code ({ cls := "com/example/clearhour/clearhour/input/EndIsTradingHubPinLaw", name := "mk", desc := "(ICC)Ljava/lang/String;" } : Jvm.MethodName) method_2_code (3 : Nat) (Option.some (Jvm.ClassFile.FieldType.object "java/lang/String")), Jvm.Cond.code ({ cls := "java/lang/String", name := "<init>", desc := "([C)V" } : Jvm.MethodName) jdk_42_method_3_code (2 : Nat) (Option.none : Option Jvm.ClassFile.FieldType), Jvm.Cond.code ({ cls := "java/lang/String", name := "<init>", desc := "([CIILjava/lang/Void;)V" } : Jvm.MethodName) jdk_42_method_149_code (6 : Nat) (Option.none : Option Jvm.ClassFile.FieldType), Jvm.Cond.code ({ cls := "java/lang/Object", name := "<init>", desc := "()V" } : Jvm.MethodName) object_method_1_code (1 : Nat) (Option.none : Option Jvm.ClassFile.FieldType), Jvm.Cond.code ({ cls := "com/example/clearhour/clearhour/input/Transaction$End", name := "<init>", desc := "(Ljava/lang/String;Ljava/lang/String;)V" } : Jvm.MethodName) prog_21_method_1_code (3 : Nat) (Option.none : Option Jvm.ClassFile.FieldType), Jvm.Cond.code ({ cls := "java/lang/Record", name := "<init>", desc := "()V" } : Jvm.MethodName) jdk_30_method_1_code (1 : Nat) (Option.none : Option Jvm.ClassFile.FieldType), Jvm.Cond.code ({ cls := "com/example/clearhour/clearhour/input/Transaction$End", name := "isTradingHub", desc := "()Z" } : Jvm.MethodName) prog_21_method_3_code (1 : Nat) (Option.some Jvm.ClassFile.FieldType.boolean), Jvm.Cond.code ({ cls := "java/lang/String", name := "equals", desc := "(Ljava/lang/Object;)Z" } : Jvm.MethodName) jdk_42_method_66_code (3 : Nat) (Option.some Jvm.ClassFile.FieldType.boolean), Jvm.Cond.code ({ cls := "java/lang/StringLatin1", name := "equals", desc := "([B[B)Z" } : Jvm.MethodName) jdk_43_method_13_code (3 : Nat) (Option.some Jvm.ClassFile.FieldType.boolean), Jvm.Cond.code ({ cls := "java/lang/StringUTF16", name := "compress", desc := "([CII)[B" } : Jvm.MethodName) jdk_52_method_16_code (6 : Nat) (Option.some (Jvm.ClassFile.FieldType.array Jvm.ClassFile.FieldType.byte)), Jvm.Cond.code ({ cls := "java/lang/StringUTF16", name := "compress", desc := "([CI[BII)I" } : Jvm.MethodName) jdk_52_method_21_code (7 : Nat) (Option.some Jvm.ClassFile.FieldType.int), Jvm.Cond.code ({ cls := "java/lang/StringUTF16", name := "coderFromArrayLen", desc := "([BI)B" } : Jvm.MethodName) jdk_52_method_15_code (2 : Nat) (Option.some Jvm.ClassFile.FieldType.byte)]
set_option maxRecDepth 65536 in
theorem codes_eq : words1.filter isCode = codes1 := rfl
theorem w_codes : ∀ c ∈ words1.filter isCode, c.before args0 about1 = true := by
  rw [codes_eq]
  intro c hc
  simp only [codes1, List.mem_cons, List.not_mem_nil, or_false] at hc
  rcases hc with rfl | rfl | rfl | rfl | rfl | rfl | rfl | rfl | rfl | rfl | rfl | rfl | rfl
  · exact w_c0
  · exact w_c1
  · exact w_c2
  · exact w_c3
  · exact w_c4
  · exact w_c5
  · exact w_c6
  · exact w_c7
  · exact w_c8
  · exact w_c9
  · exact w_c10
  · exact w_c11
  · exact w_c12
set_option maxRecDepth 65536 in
theorem w_t1 : (words1.take 24).all (fun c => isCode c || c.before args0 about1) = true := by decide +kernel
set_option maxRecDepth 65536 in
theorem w_t2 : ((words1.drop 24).take 24).all (fun c => isCode c || c.before args0 about1) = true := by decide +kernel
set_option maxRecDepth 65536 in
theorem w_t3 : ((words1.drop 24).drop 24).all (fun c => isCode c || c.before args0 about1) = true := by decide +kernel
theorem w_tables : (allAtoms (Jvm.Cond.code x code maxLocals ret :: tables_1)).before args0 about1 = true := by
  rw [allAtoms_all]
  show words1.all (fun c => c.before args0 about1) = true
  refine all_split ?_ w_codes
  rw [← List.take_append_drop 24 words1, List.all_append, w_t1, ← List.take_append_drop 24 (words1.drop 24), List.all_append, w_t2, w_t3]
  rfl
set_option maxRecDepth 65536 in
theorem w_rest : rest_1_c.before args0 about1 = true := by decide +kernel
set_option maxRecDepth 65536 in
theorem w_case : (Jvm.Cond.and given_1 narrow_1).before args0 about1 = true := by decide +kernel
set_option maxRecDepth 65536 in
theorem w_consts : constsHeld consts_1 about1 := Jvm.Lit.constsHeldB_iff.mp (by decide +kernel)
theorem w_applies : (headSpec (Jvm.Cond.code x code maxLocals ret :: tables_1) room_1).applies x e0.platform about1 = true :=
  (Spec.applies_iff w_frames).mpr ⟨w_running, w_runnable, w_alone, w_named, w_hears, w_ripe, w_room, w_tables⟩
theorem atStart : AtStart classFile x code maxLocals ret World_1 tables_1 room_1 Calls_1 rest_1 Pre_1 launch0 p0 e0 about1 theMethod args0 below0 :=
  ⟨lists_1, trivial, launch0.admits_env _ _ _, launch0.least_env, fairChoices_fair.cas, fairChoices_fair.clock, w_frames, w_args, w_heap, w_applies, ⟨w_consts, trivial⟩, w_rest, w_case⟩
end start1
theorem witness_1 : WitnessClaimed_1 := ⟨start1.p0, start1.e0, start1.about1, start1.theMethod, start1.args0, start1.below0, start1.atStart⟩
end Jvm.Pilot.@@N@@
