import JvmDerived
import JvmDerived.Pilot.@@N@@Statement
import JvmDerived.Pilot.@@N@@Code
set_option linter.unusedVariables false
set_option linter.unusedSimpArgs false
namespace Jvm.RoadKit
open Sem ClassFile Op Lib Jvm.Stand Jvm.Free Jvm.LawKit
section New
variable {p : Program} {l : Launch} {e : Env} {R : Room} {s : State} {m : MethodId} {args : Array Value} {below : List Frame} {meth : Method} {c : Code} {T : State} {locs : List Loc} {cells slots : Nat}
theorem retI (X : Stand p l e R s m args below meth c T locs cells slots) (hx : p.tables.exec = Jvm.exec) {pc : Nat} {Ls : Array Slot} {z : Int32} {rest : List Value} (hret : meth.sig.returnType = some .int) (hd : decode c.code pc = .ok (.ireturn, 1)) {fs : List Frame}
    (hl : ∀ (f : JFrame) (acts : List Action), f.method = m → f.locked = none → f.entered = [] → (doReturn e (T.setTop f) acts (some (.int z))).1 = T.setFrames fs) : Steps p.tables e below (T.setTop (mkF m pc Ls (.int z :: rest))) (T.setFrames fs) := by
  have hm' : T.vm.method? m = some meth := X.method'
  have hn : narrow .int (.int z) = .int z := rfl
  show Steps p.tables e below (T.setTop { method := m, pc := pc, locals := Ls, stack := _ :: rest, locked := none }) _
  jvm_step X.here [X.here.top, hx, hd, hm', hret, hn]
  first | (intro acts; rw [hl _ acts rfl rfl rfl]) | rw [hl _ _ rfl rfl rfl]
  exact Steps.refl _
end New
end Jvm.RoadKit
/- laws to paste: Road.backV, Road.eqW, Road.codOf (cut by pick.py; bodies as the Statement names them) -/
namespace Jvm.Pilot.@@N@@
namespace StrChars
open Jvm Sem ClassFile Op Lib Jvm.Stand Jvm.Free.XT Jvm.Free.ALB Jvm.Free.JM Jvm.Free
open Jvm.Lib.Cold (StaticIs)
/-- a char array whose places are chars -/
def Ch (a : Addr) (A : Cell) (U : State) : Prop := Arr .char a A U ∧ Typed .char A
theorem Ch.mv {a : Addr} {A : Cell} {U U' : State} (h : Ch a A U) (hal : U.vm.Alike U'.vm) (hh : U'.heap = U.heap) : Ch a A U' := ⟨h.1.mv hal hh, h.2⟩
theorem Ch.keep {a : Addr} {A : Cell} {U U' : State} (h : Ch a A U) (hal : U.vm.Alike U'.vm) (hk : U'.heap[a]? = some A) : Ch a A U' := ⟨h.1.keep hal hk, h.2⟩
/-- what place i of a char[]'s cell holds -/
def cv (A : Cell) (i : Nat) : Int32 := match A.slots[i]? with | some (.int x) => x | _ => 0
theorem Ch.get {a : Addr} {A : Cell} {U : State} (h : Ch a A U) {i : Nat} (hi : i < A.slots.size) : A.slots[i]? = some (.int (cv A i)) := by
  have e := Array.getElem?_eq_getElem hi
  have f := h.2 i _ e
  unfold cv; rw [e]
  generalize A.slots[i] = v at f
  cases v <;> simp [fits] at f ⊢
/-- the byte that i2b leaves of a char -/
def lo8 (x : Int32) : Int32 := x.toInt8.toInt32
theorem fits_lo8 (y : Int32) : fits .byte (.int (lo8 y)) = true := by
  have h1 := y.toInt8.le_toInt
  have h2 := y.toInt8.toInt_lt
  simp only [lo8, fits, Bool.and_eq_true, decide_eq_true_eq, Int32.le_iff_toInt_le, Int8.toInt_toInt32, show (-128 : Int32).toInt = -128 from by decide, show (127 : Int32).toInt = 127 from by decide]
  omega
/-- A' is A but that each place j of lo .. hi - 1 holds f j -/
def Laid (A A' : Cell) (lo hi : Nat) (f : Nat → Value) : Prop := A'.cls = A.cls ∧ A'.vm = A.vm ∧ A'.slots.size = A.slots.size ∧ ∀ i, A'.slots[i]? = if lo ≤ i ∧ i < hi then some (f i) else A.slots[i]?
theorem Laid.zero (A : Cell) (lo : Nat) (f : Nat → Value) : Laid A A lo (lo + 0) f := ⟨rfl, rfl, rfl, fun i => by rw [if_neg (by omega)]⟩
theorem Laid.step {A Ak : Cell} {lo k : Nat} {f : Nat → Value} {v : Value} (h : Laid A Ak lo k f) (hlo : lo ≤ k) (hk : k < Ak.slots.size) (hv : v = f k) : Laid A (Ak.setSlot k v) lo (k + 1) f := by
  refine ⟨h.1, h.2.1, by simpa [Cell.setSlot] using h.2.2.1, fun i => ?_⟩
  by_cases e : k = i
  · subst e; rw [Cell.slots_setSlot_self v hk, if_pos (by omega), hv]
  · rw [Cell.slots_setSlot_ne v e, h.2.2.2 i]
    by_cases q : lo ≤ i ∧ i < k
    · rw [if_pos q, if_pos (by omega)]
    · rw [if_neg q, if_neg (by omega)]
def U16 : String := "java/lang/StringUTF16"
namespace Cmp5
def yN : MethodName := ⟨"java/lang/StringUTF16", "compress", "([CI[BII)I"⟩
abbrev yB : ByteArray := jdk_52_method_21_code
theorem d0 : decode yB 0 = .ok (.iconst 0, 1) := by decide +kernel
theorem d1 : decode yB 1 = .ok (.istore 5, 2) := by decide +kernel
theorem d3 : decode yB 3 = .ok (.iload 5, 2) := by decide +kernel
theorem d5 : decode yB 5 = .ok (.iload 4, 2) := by decide +kernel
theorem d7 : decode yB 7 = .ok (.if_icmp (.ge) 37, 3) := by decide +kernel
theorem d10 : decode yB 10 = .ok (.aload_n 0, 1) := by decide +kernel
theorem d11 : decode yB 11 = .ok (.iload_n 1, 1) := by decide +kernel
theorem d12 : decode yB 12 = .ok (.caload, 1) := by decide +kernel
theorem d13 : decode yB 13 = .ok (.istore 6, 2) := by decide +kernel
theorem d15 : decode yB 15 = .ok (.iload 6, 2) := by decide +kernel
theorem d17 : decode yB 17 = .ok (.sipush 255, 3) := by decide +kernel
theorem d20 : decode yB 20 = .ok (.if_icmp (.le) 6, 3) := by decide +kernel
theorem d26 : decode yB 26 = .ok (.aload_n 2, 1) := by decide +kernel
theorem d27 : decode yB 27 = .ok (.iload_n 3, 1) := by decide +kernel
theorem d28 : decode yB 28 = .ok (.iload 6, 2) := by decide +kernel
theorem d30 : decode yB 30 = .ok (.i2b, 1) := by decide +kernel
theorem d31 : decode yB 31 = .ok (.bastore, 1) := by decide +kernel
theorem d32 : decode yB 32 = .ok (.iinc 1 1, 3) := by decide +kernel
theorem d35 : decode yB 35 = .ok (.iinc 3 1, 3) := by decide +kernel
theorem d38 : decode yB 38 = .ok (.iinc 5 1, 3) := by decide +kernel
theorem d41 : decode yB 41 = .ok (.goto (-38), 3) := by decide +kernel
theorem d44 : decode yB 44 = .ok (.iload 4, 2) := by decide +kernel
theorem d46 : decode yB 46 = .ok (.ireturn, 1) := by decide +kernel
def site : List Cond := []
def tab : Cond := tabOf yN yB 7 (some .int) site
def P (b : Addr) (A : Cell) (d : Addr) (B : Cell) (o q len : Nat) (args : Array Value) (s : State) : Prop := args = #[.ref b, .int (Int32.ofNat o), .ref d, .int (Int32.ofNat q), .int (Int32.ofNat len)] ∧ Ch b A s ∧ Arr .byte d B s ∧ b ≠ d ∧ o + len ≤ A.slots.size ∧ q + len ≤ B.slots.size ∧ ∀ i, i < len → ¬ 255 < cv A (o + i)
def E (b : Addr) (A : Cell) (d : Addr) (B : Cell) (o q len : Nat) (r : Option Value) (s u : State) : Prop := r = some (.int (Int32.ofNat len)) ∧ ∃ B', Put d B' s u ∧ Laid B B' q (q + len) (fun j => Value.int (lo8 (cv A (o + (j - q)))))
/-- no char of the range above 255: len; the places written hold each char's low byte -/
theorem law (l : Launch) (b : Addr) (A : Cell) (d : Addr) (B : Cell) (o q len : Nat) : Law l yN 5 5 0 0 yB 7 (some .int) site (P b A d B o q len) (E b A d B o q len) (copyLocs d q len) 0 0 := by
  refine Law.of_walk (plainFor_of_name (by decide +kernel)) (by decide +kernel) (by decide +kernel) (by decide) (fun _ _ h => by rw [h.1]; rfl) (fun _ U U' hal hh h => ⟨h.1, h.2.1.mv hal hh, h.2.2.1.mv hal hh, h.2.2.2⟩) (fun r U U' V V' h1 hal h2 h => ⟨h.1, h.2.elim fun B' q => ⟨B', q.1.mv h1 h2, q.2⟩⟩) ?_
  intro p e s m args below meth c s₁ X0 hexec hbytes hml hret hlk hnm hown hh0 W hP
  obtain ⟨rfl, hA, hB, hne, l1, l2, hp⟩ := hP
  have c1 : Steps p.tables e below (s₁.setTop (entryFrame m #[.ref b, .int (Int32.ofNat o), .ref d, .int (Int32.ofNat q), .int (Int32.ofNat len)] 7)) (s₁.setTop (mkF m 0 #[.val (.ref b), .val (.int (Int32.ofNat o)), .val (.ref d), .val (.int (Int32.ofNat q)), .val (.int (Int32.ofNat len)), .unset, .unset] [])) := entry rfl
  have hA0 := hA.1.mv X0.warmed.alike hh0
  have hB0 := hB.mv X0.warmed.alike hh0
  have a31 := hA.1.2.2.2
  have c2 : Steps p.tables e below (s₁.setTop (entryFrame m #[.ref b, .int (Int32.ofNat o), .ref d, .int (Int32.ofNat q), .int (Int32.ofNat len)] 7)) (s₁.setTop (mkF m 3 #[.val (.ref b), .val (.int (Int32.ofNat o)), .val (.ref d), .val (.int (Int32.ofNat q)), .val (.int (Int32.ofNat len)), .val (.int 0), .unset] [])) := c1.trans (by
    refine iconstV X0.here hexec rfl 0 (hb hbytes d0) (by decide) ?_
    refine XS.istore X0.here hexec rfl (hb hbytes d1) rfl rfl ?_
    exact Steps.refl _)
  have loop : ∀ (r i : Nat), i + r = len → ∀ (z : Slot), (z = .unset ∨ ∃ w, z = .val w ∧ w.category = 1) → ∀ (Tl : State) (Bk : Cell), Stand p l e { frames := 0, locals := 0, cells := 0, slots := 0 } s m #[.ref b, .int (Int32.ofNat o), .ref d, .int (Int32.ofNat q), .int (Int32.ofNat len)] below meth c Tl ([] ++ copyLocs d q i) 0 0 → Put d Bk s₁ Tl → Laid B Bk q (q + i) (fun j => Value.int (lo8 (cv A (o + (j - q))))) →
      Steps p.tables e below (s₁.setTop (entryFrame m #[.ref b, .int (Int32.ofNat o), .ref d, .int (Int32.ofNat q), .int (Int32.ofNat len)] 7)) (Tl.setTop (mkF m 3 #[.val (.ref b), .val (.int (Int32.ofNat (o + i))), .val (.ref d), .val (.int (Int32.ofNat (q + i))), .val (.int (Int32.ofNat len)), .val (.int (Int32.ofNat i)), z] [])) → ∃ (T' : State) (B' : Cell) (z' : Slot), Stand p l e { frames := 0, locals := 0, cells := 0, slots := 0 } s m #[.ref b, .int (Int32.ofNat o), .ref d, .int (Int32.ofNat q), .int (Int32.ofNat len)] below meth c T' ([] ++ copyLocs d q len) 0 0 ∧ Put d B' s₁ T' ∧ Laid B B' q (q + len) (fun j => Value.int (lo8 (cv A (o + (j - q))))) ∧
      Steps p.tables e below (s₁.setTop (entryFrame m #[.ref b, .int (Int32.ofNat o), .ref d, .int (Int32.ofNat q), .int (Int32.ofNat len)] 7)) (T'.setTop (mkF m 3 #[.val (.ref b), .val (.int (Int32.ofNat (o + len))), .val (.ref d), .val (.int (Int32.ofNat (q + len))), .val (.int (Int32.ofNat len)), .val (.int (Int32.ofNat len)), z'] [])) := by
    intro r
    induction r with
    | zero =>
      intro i hi z hz Tl Bk Xl pl fl cl
      have hil : i = len := by omega
      rw [hil] at Xl fl cl
      exact ⟨Tl, Bk, z, Xl, pl, fl, cl⟩
    | succ r ih =>
      intro i hi z hz Tl Bk Xl pl fl cl
      have all := X0.warmed.alike.symm.trans Xl.warmed.alike
      have hAl := hA0.keep all (pl.other hne hA0.1)
      have hBk := hB0.like all pl.1 fl.1 fl.2.1 fl.2.2.1
      have hlt : q + i < Bk.slots.size := by rw [fl.2.2.1]; omega
      have c3 : Steps p.tables e below (s₁.setTop (entryFrame m #[.ref b, .int (Int32.ofNat o), .ref d, .int (Int32.ofNat q), .int (Int32.ofNat len)] 7)) (Tl.setTop (mkF m 12 #[.val (.ref b), .val (.int (Int32.ofNat (o + i))), .val (.ref d), .val (.int (Int32.ofNat (q + i))), .val (.int (Int32.ofNat len)), .val (.int (Int32.ofNat i)), z] [.int (Int32.ofNat (o + i)), .ref b])) := cl.trans (by
        refine XS.iload Xl.here hexec rfl (hb hbytes d3) rfl ?_
        refine XS.iload Xl.here hexec rfl (hb hbytes d5) rfl ?_
        refine XS.icmpNo Xl.here hexec rfl (hb hbytes d7) rfl (ii_ge_f (lt32 (by omega) (by omega))) ?_
        refine XS.aloadN Xl.here hexec rfl (hb hbytes d10) rfl rfl ?_
        refine XS.iloadN Xl.here hexec rfl (hb hbytes d11) rfl ?_
        exact Steps.refl _)
      have c4 : Steps p.tables e below (s₁.setTop (entryFrame m #[.ref b, .int (Int32.ofNat o), .ref d, .int (Int32.ofNat q), .int (Int32.ofNat len)] 7)) (Tl.setTop (mkF m 13 #[.val (.ref b), .val (.int (Int32.ofNat (o + i))), .val (.ref d), .val (.int (Int32.ofNat (q + i))), .val (.int (Int32.ofNat len)), .val (.int (Int32.ofNat i)), z] [.int (cv A (o + i))])) := c3.trans (by
        refine Xl.aget hexec hAl rfl (hA.get (i := o + i) (by omega)) rfl rfl (hb hbytes d12) ?_
        exact Steps.refl _)
      have c5 : Steps p.tables e below (s₁.setTop (entryFrame m #[.ref b, .int (Int32.ofNat o), .ref d, .int (Int32.ofNat q), .int (Int32.ofNat len)] 7)) (Tl.setTop (mkF m 15 #[.val (.ref b), .val (.int (Int32.ofNat (o + i))), .val (.ref d), .val (.int (Int32.ofNat (q + i))), .val (.int (Int32.ofNat len)), .val (.int (Int32.ofNat i)), .val (.int (cv A (o + i)))] [])) := c4.trans (by
        refine XS.istoreS Xl.here hexec rfl (hb hbytes d13) rfl rfl hz ?_
        exact Steps.refl _)
      have c6 : Steps p.tables e below (s₁.setTop (entryFrame m #[.ref b, .int (Int32.ofNat o), .ref d, .int (Int32.ofNat q), .int (Int32.ofNat len)] 7)) (Tl.setTop (mkF m 31 #[.val (.ref b), .val (.int (Int32.ofNat (o + i))), .val (.ref d), .val (.int (Int32.ofNat (q + i))), .val (.int (Int32.ofNat len)), .val (.int (Int32.ofNat i)), .val (.int (cv A (o + i)))] [.int (lo8 (cv A (o + i))), .int (Int32.ofNat (q + i)), .ref d])) := c5.trans (by
        refine XS.iload Xl.here hexec rfl (hb hbytes d15) rfl ?_
        refine sipushV Xl.here hexec rfl 255 (hb hbytes d17) (by decide) ?_
        refine XS.icmpYes Xl.here hexec rfl (pc0 := 20) rfl (hb hbytes d20) rfl (ii_le_t (hp i (by omega))) (by decide) rfl ?_
        refine XS.aloadN Xl.here hexec rfl (hb hbytes d26) rfl rfl ?_
        refine XS.iloadN Xl.here hexec rfl (hb hbytes d27) rfl ?_
        refine XS.iload Xl.here hexec rfl (hb hbytes d28) rfl ?_
        refine i2b Xl.here hexec rfl (hb hbytes d30) rfl ?_
        exact Steps.refl _)
      obtain ⟨T7, X7, p7, st7⟩ := Xl.aput hexec hBk rfl hlt rfl (fits_lo8 (cv A (o + i))) (g := (mkF m 31 #[.val (.ref b), .val (.int (Int32.ofNat (o + i))), .val (.ref d), .val (.int (Int32.ofNat (q + i))), .val (.int (Int32.ofNat len)), .val (.int (Int32.ofNat i)), .val (.int (cv A (o + i)))] [.int (lo8 (cv A (o + i))), .int (Int32.ofNat (q + i)), .ref d])) rfl (rest := []) rfl (hb hbytes d31)
      have c8 : Steps p.tables e below (s₁.setTop (entryFrame m #[.ref b, .int (Int32.ofNat o), .ref d, .int (Int32.ofNat q), .int (Int32.ofNat len)] 7)) (T7.setTop (mkF m 32 #[.val (.ref b), .val (.int (Int32.ofNat (o + i))), .val (.ref d), .val (.int (Int32.ofNat (q + i))), .val (.int (Int32.ofNat len)), .val (.int (Int32.ofNat i)), .val (.int (cv A (o + i)))] [])) := c6.trans (st7 _ (Steps.refl _))
      have c9 : Steps p.tables e below (s₁.setTop (entryFrame m #[.ref b, .int (Int32.ofNat o), .ref d, .int (Int32.ofNat q), .int (Int32.ofNat len)] 7)) (T7.setTop (mkF m 3 #[.val (.ref b), .val (.int (Int32.ofNat (o + i) + 1)), .val (.ref d), .val (.int (Int32.ofNat (q + i) + 1)), .val (.int (Int32.ofNat len)), .val (.int (Int32.ofNat i + 1)), .val (.int (cv A (o + i)))] [])) := c8.trans (by
        refine iincV X7.here hexec rfl 1 (hb hbytes d32) (by decide) rfl rfl ?_
        refine iincV X7.here hexec rfl 1 (hb hbytes d35) (by decide) rfl rfl ?_
        refine iincV X7.here hexec rfl 1 (hb hbytes d38) (by decide) rfl rfl ?_
        refine XS.goto X7.here hexec rfl (pc0 := 41) rfl (hb hbytes d41) (by decide) rfl ?_
        exact Steps.refl _)
      have c10 : Steps p.tables e below (s₁.setTop (entryFrame m #[.ref b, .int (Int32.ofNat o), .ref d, .int (Int32.ofNat q), .int (Int32.ofNat len)] 7)) (T7.setTop (mkF m 3 #[.val (.ref b), .val (.int (Int32.ofNat (o + (i + 1)))), .val (.ref d), .val (.int (Int32.ofNat (q + (i + 1)))), .val (.int (Int32.ofNat len)), .val (.int (Int32.ofNat (i + 1))), .val (.int (cv A (o + i)))] [])) := by
        have := c9
        rw [succ32, succ32, succ32] at this
        exact this
      exact ih (i + 1) (by omega) _ (Or.inr ⟨_, rfl, rfl⟩) T7 _ (by rw [copyLocs_step, ← List.append_assoc]; exact X7) (pl.trans p7) (fl.step (by omega) hlt (by simp)) c10
  obtain ⟨T9, B9, z9, X9, p9, f9, g9⟩ := loop len 0 (by omega) .unset (Or.inl rfl) s₁ B (by simpa [copyLocs] using X0) ⟨hB0.1, fun _ _ => rfl, rfl⟩ (Laid.zero _ _ _) c2
  have c11 : Steps p.tables e below (s₁.setTop (entryFrame m #[.ref b, .int (Int32.ofNat o), .ref d, .int (Int32.ofNat q), .int (Int32.ofNat len)] 7)) (T9.setTop (mkF m 46 #[.val (.ref b), .val (.int (Int32.ofNat (o + len))), .val (.ref d), .val (.int (Int32.ofNat (q + len))), .val (.int (Int32.ofNat len)), .val (.int (Int32.ofNat len)), z9] [.int (Int32.ofNat len)])) := g9.trans (by
    refine XS.iload X9.here hexec rfl (hb hbytes d3) rfl ?_
    refine XS.iload X9.here hexec rfl (hb hbytes d5) rfl ?_
    refine XS.icmpYes X9.here hexec rfl (pc0 := 7) rfl (hb hbytes d7) rfl (ii_ge_t (nlt32 (by omega) (Nat.le_refl _))) (by decide) rfl ?_
    refine XS.iload X9.here hexec rfl (hb hbytes d44) rfl ?_
    exact Steps.refl _)
  exact ⟨T9, some (.int (Int32.ofNat len)), _, _, _, X9, by simp, rfl, rfl, (fun h => by cases h), ⟨rfl, B9, p9.from hh0, f9⟩, fun fs hl => c11.trans (X9.ireturnOut hexec hret rfl (Or.inl rfl) (hb hbytes d46) hl)⟩
end Cmp5
namespace Cmp3
def yN : MethodName := ⟨"java/lang/StringUTF16", "compress", "([CII)[B"⟩
abbrev yB : ByteArray := jdk_52_method_16_code
theorem d0 : decode yB 0 = .ok (.iload_n 2, 1) := by decide +kernel
theorem d1 : decode yB 1 = .ok (.newarray .byte, 2) := by decide +kernel
theorem d3 : decode yB 3 = .ok (.astore_n 3, 1) := by decide +kernel
theorem d4 : decode yB 4 = .ok (.aload_n 0, 1) := by decide +kernel
theorem d5 : decode yB 5 = .ok (.iload_n 1, 1) := by decide +kernel
theorem d6 : decode yB 6 = .ok (.aload_n 3, 1) := by decide +kernel
theorem d7 : decode yB 7 = .ok (.iconst 0, 1) := by decide +kernel
theorem d8 : decode yB 8 = .ok (.iload_n 2, 1) := by decide +kernel
theorem d9 : decode yB 9 = .ok (.invokestatic 115, 3) := by decide +kernel
theorem d12 : decode yB 12 = .ok (.istore 4, 2) := by decide +kernel
theorem d14 : decode yB 14 = .ok (.iload 4, 2) := by decide +kernel
theorem d16 : decode yB 16 = .ok (.iload_n 2, 1) := by decide +kernel
theorem d17 : decode yB 17 = .ok (.if_icmp (.eq) 40, 3) := by decide +kernel
theorem d57 : decode yB 57 = .ok (.aload_n 3, 1) := by decide +kernel
theorem d58 : decode yB 58 = .ok (.areturn, 1) := by decide +kernel
def site : List Cond := [.arrayClass .byte, Cmp5.tab] ++ staticW U16 115 Cmp5.yN
def tab : Cond := tabOf yN yB 6 (some (.array .byte)) site
def P (b : Addr) (A : Cell) (o len : Nat) (args : Array Value) (s : State) : Prop := args = #[.ref b, .int (Int32.ofNat o), .int (Int32.ofNat len)] ∧ Ch b A s ∧ o + len ≤ A.slots.size ∧ len ≤ 536870912 ∧ ∀ i, i < len → ¬ 255 < cv A (o + i)
def E (b : Addr) (A : Cell) (o len : Nat) (r : Option Value) (s u : State) : Prop := NewArr .byte "[B" len (fun j => .int (lo8 (cv A (o + j)))) r s u ∧ u.heap.size = s.heap.size + 1
/-- no char of the range above 255: a new byte[] of their low bytes -/
theorem law (l : Launch) (b : Addr) (A : Cell) (o len : Nat) : Law l yN 3 3 1 18 yB 6 (some (.array .byte)) site (P b A o len) (E b A o len) [] 1 len := by
  refine Law.of_walk (plainFor_of_name (by decide +kernel)) (by decide +kernel) (by decide +kernel) (by decide) (fun _ _ h => by rw [h.1]; rfl) (fun _ U U' hal hh h => ⟨h.1, h.2.1.mv hal hh, h.2.2⟩) (fun r U U' V V' h1 hal h2 h => ⟨NewArr.mv r U U' V V' h1 hal h2 h.1, by rw [h1, h2]; exact h.2⟩) ?_
  intro p e s m args below meth c s₁ X0 hexec hbytes hml hret hlk hnm hown hh0 W hP
  obtain ⟨rfl, hA, l1, l2, hp⟩ := hP
  have a31 := hA.1.2.2.2
  have c1 : Steps p.tables e below (s₁.setTop (entryFrame m #[.ref b, .int (Int32.ofNat o), .int (Int32.ofNat len)] 6)) (s₁.setTop (mkF m 0 #[.val (.ref b), .val (.int (Int32.ofNat o)), .val (.int (Int32.ofNat len)), .unset, .unset, .unset] [])) := entry rfl
  have c2 : Steps p.tables e below (s₁.setTop (entryFrame m #[.ref b, .int (Int32.ofNat o), .int (Int32.ofNat len)] 6)) (s₁.setTop (mkF m 1 #[.val (.ref b), .val (.int (Int32.ofNat o)), .val (.int (Int32.ofNat len)), .unset, .unset, .unset] [.int (Int32.ofNat len)])) := c1.trans (by
    refine XS.iloadN X0.here hexec rfl (hb hbytes d0) rfl ?_
    exact Steps.refl _)
  obtain ⟨T3, B3, X3, ba3, bs3, bv3, bh3, bf3, st3⟩ := X0.anew hexec (atype := .byte) (wk W (.arrayClass .byte)) rfl (by show len * 1 ≤ _; omega) (by omega) (g := (mkF m 1 #[.val (.ref b), .val (.int (Int32.ofNat o)), .val (.int (Int32.ofNat len)), .unset, .unset, .unset] [.int (Int32.ofNat len)])) rfl (hb hbytes d1) (rest := []) rfl (Nat.le_refl _) (by show 0 + len ≤ len; omega)
  rw [hh0] at ba3 st3
  have kp3 : XT.Kept s T3 := (XT.Kept.of_eq hh0).push bh3
  have hA3 := hA.keep X3.warmed.alike (kp3 _ _ hA.1.1)
  have hne : b ≠ s.heap.size := hA.1.ne
  have c4 : Steps p.tables e below (s₁.setTop (entryFrame m #[.ref b, .int (Int32.ofNat o), .int (Int32.ofNat len)] 6)) (T3.setTop (mkF m 3 #[.val (.ref b), .val (.int (Int32.ofNat o)), .val (.int (Int32.ofNat len)), .unset, .unset, .unset] [.ref s.heap.size])) := c2.trans (st3 _ (Steps.refl _))
  have c5 : Steps p.tables e below (s₁.setTop (entryFrame m #[.ref b, .int (Int32.ofNat o), .int (Int32.ofNat len)] 6)) (T3.setTop (mkF m 9 #[.val (.ref b), .val (.int (Int32.ofNat o)), .val (.int (Int32.ofNat len)), .val (.ref s.heap.size), .unset, .unset] [.int (Int32.ofNat len), .int 0, .ref s.heap.size, .int (Int32.ofNat o), .ref b])) := c4.trans (by
    refine XS.astoreN X3.here hexec rfl (hb hbytes d3) rfl rfl rfl ?_
    refine XS.aloadN X3.here hexec rfl (hb hbytes d4) rfl rfl ?_
    refine XS.iloadN X3.here hexec rfl (hb hbytes d5) rfl ?_
    refine XS.aloadN X3.here hexec rfl (hb hbytes d6) rfl rfl ?_
    refine iconstV X3.here hexec rfl 0 (hb hbytes d7) (by decide) ?_
    refine XS.iloadN X3.here hexec rfl (hb hbytes d8) rfl ?_
    exact Steps.refl _)
  obtain ⟨v6, T6, X6, E6, g6⟩ := X3.callS hexec (Cmp5.law l b A s.heap.size B3 o 0 len) hown (wks W (staticW U16 115 Cmp5.yN)) (wk W Cmp5.tab) (W := 0) (Nat.le_of_ble_eq_true rfl) (Nat.le_of_ble_eq_true rfl) (Nat.le_refl _) (by show 0 + len + 0 ≤ len; omega) (g := (mkF m 9 #[.val (.ref b), .val (.int (Int32.ofNat o)), .val (.int (Int32.ofNat len)), .val (.ref s.heap.size), .unset, .unset] [.int (Int32.ofNat len), .int (Int32.ofNat 0), .ref s.heap.size, .int (Int32.ofNat o), .ref b])) rfl (by rw [hml]; rfl) c5 (argsL := [.ref b, .int (Int32.ofNat o), .ref s.heap.size, .int (Int32.ofNat 0), .int (Int32.ofNat len)]) (rest := []) rfl rfl (by show 2 * 0 + 0 ≤ _; decide) (hb hbytes d9) (⟨rfl, hA3, ba3, hne, l1, by rw [bs3]; simp, hp⟩)
  obtain ⟨rfl, B6, p6, f6⟩ := E6
  have c7 : Steps p.tables e below (s₁.setTop (entryFrame m #[.ref b, .int (Int32.ofNat o), .int (Int32.ofNat len)] 6)) (T6.setTop (mkF m 12 #[.val (.ref b), .val (.int (Int32.ofNat o)), .val (.int (Int32.ofNat len)), .val (.ref s.heap.size), .unset, .unset] [.int (Int32.ofNat len)])) := g6
  have c8 : Steps p.tables e below (s₁.setTop (entryFrame m #[.ref b, .int (Int32.ofNat o), .int (Int32.ofNat len)] 6)) (T6.setTop (mkF m 58 #[.val (.ref b), .val (.int (Int32.ofNat o)), .val (.int (Int32.ofNat len)), .val (.ref s.heap.size), .val (.int (Int32.ofNat len)), .unset] [.ref s.heap.size])) := c7.trans (by
    refine XS.istore X6.here hexec rfl (hb hbytes d12) rfl rfl ?_
    refine XS.iload X6.here hexec rfl (hb hbytes d14) rfl ?_
    refine XS.iloadN X6.here hexec rfl (hb hbytes d16) rfl ?_
    refine XS.icmpYes X6.here hexec rfl (pc0 := 17) rfl (hb hbytes d17) rfl (ii_eq_t rfl) (by decide) rfl ?_
    refine XS.aloadN X6.here hexec rfl (hb hbytes d57) rfl rfl ?_
    exact Steps.refl _)
  have X8 := X6.wide (L' := []) (cells' := 1) (slots' := len) (fun x hx hlt => by
    simp only [List.nil_append, copyLocs, List.mem_map, List.mem_range] at hx
    obtain ⟨i, -, rfl⟩ := hx
    exact absurd hlt (Nat.lt_irrefl _)) (Nat.le_refl _) (by omega)
  exact ⟨T6, some (.ref s.heap.size), _, _, _, X8, rfl, rfl, rfl, (fun h => by cases h), ⟨⟨rfl, B6, ba3.like (X3.warmed.alike.symm.trans X6.warmed.alike) p6.1 f6.1 f6.2.1 f6.2.2.1, f6.2.1.trans bv3, by rw [X6.warmed.alike.findClass, f6.1]; exact bf3, by rw [f6.2.2.1, bs3]; simp, fun j hj => by rw [f6.2.2.2 j, if_pos (by omega)]; rfl, kp3.put p6 (Nat.le_refl _)⟩, by rw [p6.2.2, bh3, hh0]; simp⟩, fun fs hl => c8.trans (X8.areturnOut hexec rfl hret rfl (hb hbytes d58) hl)⟩
end Cmp3
namespace CodL
def yN : MethodName := ⟨"java/lang/StringUTF16", "coderFromArrayLen", "([BI)B"⟩
abbrev yB : ByteArray := jdk_52_method_15_code
theorem d0 : decode yB 0 = .ok (.iload_n 1, 1) := by decide +kernel
theorem d1 : decode yB 1 = .ok (.aload_n 0, 1) := by decide +kernel
theorem d2 : decode yB 2 = .ok (.arraylength, 1) := by decide +kernel
theorem d3 : decode yB 3 = .ok (.isub, 1) := by decide +kernel
theorem d4 : decode yB 4 = .ok (.bipush 31, 2) := by decide +kernel
theorem d6 : decode yB 6 = .ok (.iushr, 1) := by decide +kernel
theorem d7 : decode yB 7 = .ok (.i2b, 1) := by decide +kernel
theorem d8 : decode yB 8 = .ok (.ireturn, 1) := by decide +kernel
def site : List Cond := []
def tab : Cond := tabOf yN yB 2 (some .byte) site
def P (d : Addr) (B : Cell) (args : Array Value) (s : State) : Prop := args = #[.ref d, .int (Int32.ofNat B.slots.size)] ∧ Arr .byte d B s
def E (r : Option Value) (s u : State) : Prop := XT.PureE (some (.int 0)) r s u
/-- an array as long as the number of chars: LATIN1 -/
theorem law (l : Launch) (d : Addr) (B : Cell) : Law l yN 2 2 0 0 yB 2 (some .byte) site (P d B) E [] 0 0 := by
  refine Law.of_walk (plainFor_of_name (by decide +kernel)) (by decide +kernel) (by decide +kernel) (by decide) (fun _ _ h => by rw [h.1]; rfl) (fun _ U U' hal hh h => ⟨h.1, h.2.mv hal hh⟩) (fun r U U' V V' h1 hal h2 h => XT.PureE.mv r U U' V V' h1 hal h2 h) ?_
  intro p e s m args below meth c s₁ X0 hexec hbytes hml hret hlk hnm hown hh0 W hP
  obtain ⟨rfl, hB⟩ := hP
  have hB0 := hB.mv X0.warmed.alike hh0
  have c1 : Steps p.tables e below (s₁.setTop (entryFrame m #[.ref d, .int (Int32.ofNat B.slots.size)] 2)) (s₁.setTop (mkF m 0 #[.val (.ref d), .val (.int (Int32.ofNat B.slots.size))] [])) := entry rfl
  have c2 : Steps p.tables e below (s₁.setTop (entryFrame m #[.ref d, .int (Int32.ofNat B.slots.size)] 2)) (s₁.setTop (mkF m 2 #[.val (.ref d), .val (.int (Int32.ofNat B.slots.size))] [.ref d, .int (Int32.ofNat B.slots.size)])) := c1.trans (by
    refine XS.iloadN X0.here hexec rfl (hb hbytes d0) rfl ?_
    refine XS.aloadN X0.here hexec rfl (hb hbytes d1) rfl rfl ?_
    exact Steps.refl _)
  have c3 : Steps p.tables e below (s₁.setTop (entryFrame m #[.ref d, .int (Int32.ofNat B.slots.size)] 2)) (s₁.setTop (mkF m 8 #[.val (.ref d), .val (.int (Int32.ofNat B.slots.size))] [.int (lo8 (ushr (Int32.ofNat B.slots.size - Int32.ofNat B.slots.size) 31))])) := c2.trans (by
    refine X0.alen hexec hB0 rfl rfl (hb hbytes d2) ?_
    refine XS.isub X0.here hexec rfl (hb hbytes d3) rfl ?_
    refine bipushV X0.here hexec rfl 31 (hb hbytes d4) (by decide) ?_
    refine iushr X0.here hexec rfl (hb hbytes d6) rfl ?_
    refine i2b X0.here hexec rfl (hb hbytes d7) rfl ?_
    exact Steps.refl _)
  have e0 : lo8 (ushr (Int32.ofNat B.slots.size - Int32.ofNat B.slots.size) 31) = 0 := by rw [Int32.sub_self]; decide
  rw [e0] at c3
  exact ⟨s₁, some (.int 0), _, _, _, X0, rfl, rfl, rfl, (fun h => by cases h), ⟨rfl, hh0⟩, fun fs hl => c3.trans (X0.ireturnOut hexec hret rfl (Or.inr (Or.inr (Or.inl rfl))) (hb hbytes d8) hl)⟩
end CodL
/-- the String at a is Latin-1 over a new byte[] (the heap's one new cell): the low bytes of the len chars of A from o on; every cell but a is kept -/
def Got (a : Addr) (D : Cell) (fV fC : Field) (A : Cell) (o len : Nat) (r : Option Value) (s u : State) : Prop := r = none ∧ ∃ D' V : Cell, Blank "java/lang/String" a D' u ∧ Same D D' [fV.slot, fC.slot] ∧ D'.slots[fV.slot]? = some (.ref s.heap.size) ∧ D'.slots[fC.slot]? = some (.int 0) ∧ Arr .byte s.heap.size V u ∧ V.vm = .none ∧ u.vm.findClass "[B" = some V.cls ∧ V.slots.size = len ∧ (∀ j, j < len → V.slots[j]? = some (.int (lo8 (cv A (o + j))))) ∧ (∀ (y : Addr) (c : Cell), y ≠ a → s.heap[y]? = some c → u.heap[y]? = some c) ∧ u.heap.size = s.heap.size + 1
theorem Got.mv {a : Addr} {D A : Cell} {fV fC : Field} {o len : Nat} : ∀ r (U U' V V' : State), U'.heap = U.heap → V.vm.Alike V'.vm → V'.heap = V.heap → Got a D fV fC A o len r U V → Got a D fV fC A o len r U' V' :=
  fun r U U' V V' h1 hal h2 ⟨e0, D', X, a1, a2, a3, a4, a5, a6, a7, a8, a9, a10, a11⟩ => ⟨e0, D', X, a1.mv hal h2, a2, by rw [h1]; exact a3, a4, by rw [h1]; exact a5.mv hal h2, a6, by rw [hal.findClass]; exact a7, a8, a9, by rw [h1, h2]; exact a10, by rw [h1, h2]; exact a11⟩
namespace New4
def yN : MethodName := ⟨"java/lang/String", "<init>", "([CIILjava/lang/Void;)V"⟩
abbrev yB : ByteArray := jdk_42_method_149_code
theorem d0 : decode yB 0 = .ok (.aload_n 0, 1) := by decide +kernel
theorem d1 : decode yB 1 = .ok (.invokespecial 1, 3) := by decide +kernel
theorem d4 : decode yB 4 = .ok (.iload_n 3, 1) := by decide +kernel
theorem d5 : decode yB 5 = .ok (.ifCond (.ne) 22, 3) := by decide +kernel
theorem d27 : decode yB 27 = .ok (.getstatic 38, 3) := by decide +kernel
theorem d30 : decode yB 30 = .ok (.ifCond (.eq) 28, 3) := by decide +kernel
theorem d33 : decode yB 33 = .ok (.aload_n 1, 1) := by decide +kernel
theorem d34 : decode yB 34 = .ok (.iload_n 2, 1) := by decide +kernel
theorem d35 : decode yB 35 = .ok (.iload_n 3, 1) := by decide +kernel
theorem d36 : decode yB 36 = .ok (.invokestatic 177, 3) := by decide +kernel
theorem d39 : decode yB 39 = .ok (.astore 5, 2) := by decide +kernel
theorem d41 : decode yB 41 = .ok (.aload_n 0, 1) := by decide +kernel
theorem d42 : decode yB 42 = .ok (.aload 5, 2) := by decide +kernel
theorem d44 : decode yB 44 = .ok (.iload_n 3, 1) := by decide +kernel
theorem d45 : decode yB 45 = .ok (.invokestatic 47, 3) := by decide +kernel
theorem d48 : decode yB 48 = .ok (.putfield 15, 3) := by decide +kernel
theorem d51 : decode yB 51 = .ok (.aload_n 0, 1) := by decide +kernel
theorem d52 : decode yB 52 = .ok (.aload 5, 2) := by decide +kernel
theorem d54 : decode yB 54 = .ok (.putfield 9, 3) := by decide +kernel
theorem d57 : decode yB 57 = .ok (.return_, 1) := by decide +kernel
def site : List Cond := [.fieldLink "java/lang/String" 38 "java/lang/String" "COMPACT_STRINGS" "Z", Cmp3.tab, CodL.tab, .laysFinal "java/lang/String" "java/lang/String" "value" "[B", .fieldLink "java/lang/String" 9 "java/lang/String" "value" "[B", .laysFinal "java/lang/String" "java/lang/String" "coder" "B", .fieldLink "java/lang/String" 15 "java/lang/String" "coder" "B"] ++ objW "java/lang/String" 1 ++ staticW "java/lang/String" 177 Cmp3.yN ++ staticW "java/lang/String" 47 CodL.yN
def tab : Cond := tabOf yN yB 6 none site
def P (a : Addr) (D : Cell) (fV fC : Field) (b : Addr) (A : Cell) (z : Int32) (o len : Nat) (args : Array Value) (s : State) : Prop := args = #[.ref a, .ref b, .int (Int32.ofNat o), .int (Int32.ofNat len), .null] ∧ Blank "java/lang/String" a D s ∧ Found "java/lang/String" "value" "[B" fV s ∧ Found "java/lang/String" "coder" "B" fC s ∧ Ch b A s ∧ StaticIs s "java/lang/String" "COMPACT_STRINGS" "Z" (.int z) ∧ ¬ z = 0 ∧ 0 < len ∧ o + len ≤ A.slots.size ∧ len ≤ 536870912 ∧ ∀ i, i < len → ¬ 255 < cv A (o + i)
def E (a : Addr) (D : Cell) (fV fC : Field) (A : Cell) (o len : Nat) (r : Option Value) (s u : State) : Prop := Got a D fV fC A o len r s u
/-- len > 0, no char of the range above 255: a Latin-1 String of their low bytes -/
theorem law (l : Launch) (a : Addr) (D : Cell) (fV fC : Field) (b : Addr) (A : Cell) (z : Int32) (o len : Nat) : Law l yN 5 4 2 35 yB 6 none site (P a D fV fC b A z o len) (E a D fV fC A o len) [⟨a, fC.slot⟩, ⟨a, fV.slot⟩] 1 len := by
  refine Law.of_walk (plainFor_of_name (by decide +kernel)) (by decide +kernel) (by decide +kernel) (by decide) (fun _ _ h => by rw [h.1]; rfl) (fun _ U U' hal hh h => ⟨h.1, h.2.1.mv hal hh, h.2.2.1.al hal, h.2.2.2.1.al hal, h.2.2.2.2.1.mv hal hh, h.2.2.2.2.2.1.there hal hh, h.2.2.2.2.2.2⟩) (fun r U U' V V' h1 hal h2 h => Got.mv r U U' V V' h1 hal h2 h) ?_
  intro p e s m args below meth c s₁ X0 hexec hbytes hml hret hlk hnm hown hh0 W hP
  obtain ⟨rfl, hB, f1, f2, hA, s1, hz, l0, l1, l2, hp⟩ := hP
  have a31 := hA.1.2.2.2
  have c1 : Steps p.tables e below (s₁.setTop (entryFrame m #[.ref a, .ref b, .int (Int32.ofNat o), .int (Int32.ofNat len), .null] 6)) (s₁.setTop (mkF m 0 #[.val (.ref a), .val (.ref b), .val (.int (Int32.ofNat o)), .val (.int (Int32.ofNat len)), .val .null, .unset] [])) := entry rfl
  have c2 : Steps p.tables e below (s₁.setTop (entryFrame m #[.ref a, .ref b, .int (Int32.ofNat o), .int (Int32.ofNat len), .null] 6)) (s₁.setTop (mkF m 1 #[.val (.ref a), .val (.ref b), .val (.int (Int32.ofNat o)), .val (.int (Int32.ofNat len)), .val .null, .unset] [.ref a])) := c1.trans (by
    refine XS.aloadN X0.here hexec rfl (hb hbytes d0) rfl rfl ?_
    exact Steps.refl _)
  obtain ⟨T3, X3, q3, st3⟩ := X0.oinit hexec hown (wks W (objW "java/lang/String" 1)) (g := (mkF m 1 #[.val (.ref a), .val (.ref b), .val (.int (Int32.ofNat o)), .val (.int (Int32.ofNat len)), .val .null, .unset] [.ref a])) rfl (by rw [hml]; rfl) (rest := []) rfl (hb hbytes d1) (W := 0) (by show 2 * 0 + 0 ≤ _; decide) (Nat.le_of_ble_eq_true rfl) (Nat.le_of_ble_eq_true rfl)
  have hh3 := q3.trans hh0
  have c4 : Steps p.tables e below (s₁.setTop (entryFrame m #[.ref a, .ref b, .int (Int32.ofNat o), .int (Int32.ofNat len), .null] 6)) (T3.setTop (mkF m 27 #[.val (.ref a), .val (.ref b), .val (.int (Int32.ofNat o)), .val (.int (Int32.ofNat len)), .val .null, .unset] [])) := (c2.trans (st3 _ (Steps.refl _))).trans (by
    refine XS.iloadN X3.here hexec rfl (hb hbytes d4) rfl ?_
    refine XS.ifYes X3.here hexec rfl (pc0 := 5) rfl (hb hbytes d5) rfl (i0_ne_t (nz32 (by omega) l0)) (by decide) rfl ?_
    exact Steps.refl _)
  obtain ⟨T5, X5, q5, st5⟩ := X3.sget hexec hown (wk W (.fieldLink "java/lang/String" 38 "java/lang/String" "COMPACT_STRINGS" "Z")) s1 (fun _ _ h => by rw [hh3]; exact h) (g := (mkF m 27 #[.val (.ref a), .val (.ref b), .val (.int (Int32.ofNat o)), .val (.int (Int32.ofNat len)), .val .null, .unset] [])) rfl (hb hbytes d27)
  have hh5 := q5.trans hh3
  have c6 : Steps p.tables e below (s₁.setTop (entryFrame m #[.ref a, .ref b, .int (Int32.ofNat o), .int (Int32.ofNat len), .null] 6)) (T5.setTop (mkF m 30 #[.val (.ref a), .val (.ref b), .val (.int (Int32.ofNat o)), .val (.int (Int32.ofNat len)), .val .null, .unset] [.int z])) := c4.trans (st5 _ (Steps.refl _))
  have c7 : Steps p.tables e below (s₁.setTop (entryFrame m #[.ref a, .ref b, .int (Int32.ofNat o), .int (Int32.ofNat len), .null] 6)) (T5.setTop (mkF m 36 #[.val (.ref a), .val (.ref b), .val (.int (Int32.ofNat o)), .val (.int (Int32.ofNat len)), .val .null, .unset] [.int (Int32.ofNat len), .int (Int32.ofNat o), .ref b])) := c6.trans (by
    refine XS.ifNo X5.here hexec rfl (hb hbytes d30) rfl (i0_eq_f hz) ?_
    refine XS.aloadN X5.here hexec rfl (hb hbytes d33) rfl rfl ?_
    refine XS.iloadN X5.here hexec rfl (hb hbytes d34) rfl ?_
    refine XS.iloadN X5.here hexec rfl (hb hbytes d35) rfl ?_
    exact Steps.refl _)
  obtain ⟨v8, T8, X8, E8, g8⟩ := X5.callS hexec (Cmp3.law l b A o len) hown (wks W (staticW "java/lang/String" 177 Cmp3.yN)) (wk W Cmp3.tab) (W := 0) (Nat.le_of_ble_eq_true rfl) (Nat.le_of_ble_eq_true rfl) (Nat.le_refl _) (by show 0 + len ≤ len; omega) (g := (mkF m 36 #[.val (.ref a), .val (.ref b), .val (.int (Int32.ofNat o)), .val (.int (Int32.ofNat len)), .val .null, .unset] [.int (Int32.ofNat len), .int (Int32.ofNat o), .ref b])) rfl (by rw [hml]; rfl) c7 (argsL := [.ref b, .int (Int32.ofNat o), .int (Int32.ofNat len)]) (rest := []) rfl rfl (by show 2 * 0 + 0 ≤ _; decide) (hb hbytes d36) (⟨rfl, hA.mv X5.warmed.alike hh5, l1, l2, hp⟩)
  obtain ⟨e8, z8⟩ := E8
  obtain ⟨rfl, N, n1, n2, n3, n4, n5, n6⟩ := NewArr.mv _ T5 s _ _ hh5.symm (Vm.Alike.refl _) rfl e8
  rw [hh5] at z8
  have hB1 := hB.keep X8.warmed.alike (n6 _ _ hB.1)
  have hne : s.heap.size ≠ a := (Nat.ne_of_lt (Array.getElem?_eq_some_iff.mp hB.1).1).symm
  have c9 : Steps p.tables e below (s₁.setTop (entryFrame m #[.ref a, .ref b, .int (Int32.ofNat o), .int (Int32.ofNat len), .null] 6)) (T8.setTop (mkF m 39 #[.val (.ref a), .val (.ref b), .val (.int (Int32.ofNat o)), .val (.int (Int32.ofNat len)), .val .null, .unset] [.ref s.heap.size])) := g8
  have c10 : Steps p.tables e below (s₁.setTop (entryFrame m #[.ref a, .ref b, .int (Int32.ofNat o), .int (Int32.ofNat len), .null] 6)) (T8.setTop (mkF m 45 #[.val (.ref a), .val (.ref b), .val (.int (Int32.ofNat o)), .val (.int (Int32.ofNat len)), .val .null, .val (.ref s.heap.size)] [.int (Int32.ofNat N.slots.size), .ref s.heap.size, .ref a])) := by
    have hc : Steps p.tables e below (s₁.setTop (entryFrame m #[.ref a, .ref b, .int (Int32.ofNat o), .int (Int32.ofNat len), .null] 6)) (T8.setTop (mkF m 45 #[.val (.ref a), .val (.ref b), .val (.int (Int32.ofNat o)), .val (.int (Int32.ofNat len)), .val .null, .val (.ref s.heap.size)] [.int (Int32.ofNat len), .ref s.heap.size, .ref a])) := c9.trans (by
      refine XS.astore X8.here hexec rfl (hb hbytes d39) rfl rfl rfl ?_
      refine XS.aloadN X8.here hexec rfl (hb hbytes d41) rfl rfl ?_
      refine XS.aload X8.here hexec rfl (hb hbytes d42) rfl rfl ?_
      refine XS.iloadN X8.here hexec rfl (hb hbytes d44) rfl ?_
      exact Steps.refl _)
    rw [n4]; exact hc
  obtain ⟨v11, T11, X11, E11, g11⟩ := X8.callS hexec (CodL.law l s.heap.size N) hown (wks W (staticW "java/lang/String" 47 CodL.yN)) (wk W CodL.tab) (W := 1) (Nat.le_of_ble_eq_true rfl) (Nat.le_of_ble_eq_true rfl) (Nat.le_refl _) (by show 0 + len + 0 ≤ len; omega) (g := (mkF m 45 #[.val (.ref a), .val (.ref b), .val (.int (Int32.ofNat o)), .val (.int (Int32.ofNat len)), .val .null, .val (.ref s.heap.size)] [.int (Int32.ofNat N.slots.size), .ref s.heap.size, .ref a])) rfl (by rw [hml]; rfl) c10 (argsL := [.ref s.heap.size, .int (Int32.ofNat N.slots.size)]) (rest := [.ref a]) rfl rfl (by show 2 * 0 + (1 + 0) ≤ _; decide) (hb hbytes d45) (⟨rfl, n1⟩)
  obtain ⟨rfl, q11⟩ := E11
  have hB11 := hB1.mv (X8.warmed.alike.symm.trans X11.warmed.alike) q11
  have c12 : Steps p.tables e below (s₁.setTop (entryFrame m #[.ref a, .ref b, .int (Int32.ofNat o), .int (Int32.ofNat len), .null] 6)) (T11.setTop (mkF m 48 #[.val (.ref a), .val (.ref b), .val (.int (Int32.ofNat o)), .val (.int (Int32.ofNat len)), .val .null, .val (.ref s.heap.size)] [.int 0, .ref a])) := g11
  obtain ⟨T13, X13, p13, bl13, sl13, st13⟩ := X11.finit hexec hown (wk W (.fieldLink "java/lang/String" 15 "java/lang/String" "coder" "B")) (Or.inr ⟨_, (wk W (.laysFinal "java/lang/String" "java/lang/String" "coder" "B"))⟩) (Or.inl ⟨rfl, hnm⟩) f2 (Or.inl rfl) hB11 (t := .byte) (by decide +kernel) rfl (g := (mkF m 48 #[.val (.ref a), .val (.ref b), .val (.int (Int32.ofNat o)), .val (.int (Int32.ofNat len)), .val .null, .val (.ref s.heap.size)] [.int 0, .ref a])) rfl (rest := []) rfl (hb hbytes d48)
  have c14 : Steps p.tables e below (s₁.setTop (entryFrame m #[.ref a, .ref b, .int (Int32.ofNat o), .int (Int32.ofNat len), .null] 6)) (T13.setTop (mkF m 54 #[.val (.ref a), .val (.ref b), .val (.int (Int32.ofNat o)), .val (.int (Int32.ofNat len)), .val .null, .val (.ref s.heap.size)] [.ref s.heap.size, .ref a])) := (c12.trans (st13 _ (Steps.refl _))).trans (by
    refine XS.aloadN X13.here hexec rfl (hb hbytes d51) rfl rfl ?_
    refine XS.aload X13.here hexec rfl (hb hbytes d52) rfl rfl ?_
    exact Steps.refl _)
  obtain ⟨T15, X15, p15, bl15, sl15, st15⟩ := X13.finit hexec hown (wk W (.fieldLink "java/lang/String" 9 "java/lang/String" "value" "[B")) (Or.inr ⟨_, (wk W (.laysFinal "java/lang/String" "java/lang/String" "value" "[B"))⟩) (Or.inl ⟨rfl, hnm⟩) f1 (Or.inl rfl) bl13 (t := (.array .byte)) (by decide +kernel) rfl (g := (mkF m 54 #[.val (.ref a), .val (.ref b), .val (.int (Int32.ofNat o)), .val (.int (Int32.ofNat len)), .val .null, .val (.ref s.heap.size)] [.ref s.heap.size, .ref a])) rfl (rest := []) rfl (hb hbytes d54)
  have c16 : Steps p.tables e below (s₁.setTop (entryFrame m #[.ref a, .ref b, .int (Int32.ofNat o), .int (Int32.ofNat len), .null] 6)) (T15.setTop (mkF m 57 #[.val (.ref a), .val (.ref b), .val (.int (Int32.ofNat o)), .val (.int (Int32.ofNat len)), .val .null, .val (.ref s.heap.size)] [])) := c14.trans (st15 _ (Steps.refl _))
  have ap := apart (Or.inr ⟨_, (wk W (.laysFinal "java/lang/String" "java/lang/String" "value" "[B"))⟩) (Or.inr ⟨_, (wk W (.laysFinal "java/lang/String" "java/lang/String" "coder" "B"))⟩) f1 f2 (t₁ := .array .byte) (t₂ := .byte) (by decide +kernel) (by decide +kernel) (by decide)
  have al := X8.warmed.alike.symm.trans X15.warmed.alike
  have n7 : T11.heap[s.heap.size]? = some N := by rw [q11]; exact n1.1
  exact ⟨T15, none, _, _, _, X15, by simp, rfl, by omega, (fun _ => rfl), ⟨rfl, _, N, bl15, ((Same.refl D _).set _ (by simp)).set _ (by simp), sl15, (Cell.slots_setSlot_ne _ ap).trans sl13, n1.keep al (p15.other hne (p13.other hne n7)), n2, by rw [al.findClass]; exact n3, n4, n5, fun y c h1 h2 => p15.other h1 (p13.other h1 (by rw [q11]; exact n6 y c h2)), by rw [p15.2.2, p13.2.2, q11]; exact z8⟩, fun fs hl => c16.trans (X15.returnOut hexec hret (hb hbytes d57) hl)⟩
end New4
namespace New1
def yN : MethodName := ⟨"java/lang/String", "<init>", "([C)V"⟩
abbrev yB : ByteArray := jdk_42_method_3_code
theorem d0 : decode yB 0 = .ok (.aload_n 0, 1) := by decide +kernel
theorem d1 : decode yB 1 = .ok (.aload_n 1, 1) := by decide +kernel
theorem d2 : decode yB 2 = .ok (.iconst 0, 1) := by decide +kernel
theorem d3 : decode yB 3 = .ok (.aload_n 1, 1) := by decide +kernel
theorem d4 : decode yB 4 = .ok (.arraylength, 1) := by decide +kernel
theorem d5 : decode yB 5 = .ok (.aconst_null, 1) := by decide +kernel
theorem d6 : decode yB 6 = .ok (.invokespecial 27, 3) := by decide +kernel
theorem d9 : decode yB 9 = .ok (.return_, 1) := by decide +kernel
def site : List Cond := [New4.tab] ++ initW "java/lang/String" 27 New4.yN
def tab : Cond := tabOf yN yB 2 none site
def P (a : Addr) (D : Cell) (fV fC : Field) (b : Addr) (A : Cell) (z : Int32) (args : Array Value) (s : State) : Prop := args = #[.ref a, .ref b] ∧ Blank "java/lang/String" a D s ∧ Found "java/lang/String" "value" "[B" fV s ∧ Found "java/lang/String" "coder" "B" fC s ∧ Ch b A s ∧ StaticIs s "java/lang/String" "COMPACT_STRINGS" "Z" (.int z) ∧ ¬ z = 0 ∧ 0 < A.slots.size ∧ A.slots.size ≤ 536870912 ∧ ∀ i, i < A.slots.size → ¬ 255 < cv A i
def E (a : Addr) (D : Cell) (fV fC : Field) (A : Cell) (r : Option Value) (s u : State) : Prop := Got a D fV fC A 0 A.slots.size r s u
/-- new String(chars), not empty, no char above 255: a Latin-1 String of their low bytes -/
theorem law (l : Launch) (a : Addr) (D : Cell) (fV fC : Field) (b : Addr) (A : Cell) (z : Int32) : Law l yN 2 1 3 52 yB 2 none site (P a D fV fC b A z) (E a D fV fC A) [⟨a, fC.slot⟩, ⟨a, fV.slot⟩] 1 A.slots.size := by
  refine Law.of_walk (plainFor_of_name (by decide +kernel)) (by decide +kernel) (by decide +kernel) (by decide) (fun _ _ h => by rw [h.1]; rfl) (fun _ U U' hal hh h => ⟨h.1, h.2.1.mv hal hh, h.2.2.1.al hal, h.2.2.2.1.al hal, h.2.2.2.2.1.mv hal hh, h.2.2.2.2.2.1.there hal hh, h.2.2.2.2.2.2⟩) (fun r U U' V V' h1 hal h2 h => Got.mv r U U' V V' h1 hal h2 h) ?_
  intro p e s m args below meth c s₁ X0 hexec hbytes hml hret hlk hnm hown hh0 W hP
  obtain ⟨rfl, hB, f1, f2, hA, s1, hz, l0, l2, hp⟩ := hP
  have c1 : Steps p.tables e below (s₁.setTop (entryFrame m #[.ref a, .ref b] 2)) (s₁.setTop (mkF m 0 #[.val (.ref a), .val (.ref b)] [])) := entry rfl
  have c2 : Steps p.tables e below (s₁.setTop (entryFrame m #[.ref a, .ref b] 2)) (s₁.setTop (mkF m 6 #[.val (.ref a), .val (.ref b)] [.null, .int (Int32.ofNat A.slots.size), .int 0, .ref b, .ref a])) := c1.trans (by
    refine XS.aloadN X0.here hexec rfl (hb hbytes d0) rfl rfl ?_
    refine XS.aloadN X0.here hexec rfl (hb hbytes d1) rfl rfl ?_
    refine iconstV X0.here hexec rfl 0 (hb hbytes d2) (by decide) ?_
    refine XS.aloadN X0.here hexec rfl (hb hbytes d3) rfl rfl ?_
    refine X0.alen hexec (hA.1.mv X0.warmed.alike hh0) rfl rfl (hb hbytes d4) ?_
    refine XS.aconstNull X0.here hexec rfl (hb hbytes d5) ?_
    exact Steps.refl _)
  obtain ⟨v3, T3, X3, E3, g3⟩ := X0.callN hexec (New4.law l a D fV fC b A z 0 A.slots.size) rfl hown (wks W (initW "java/lang/String" 27 New4.yN)) (W New4.tab (by simp only [site, List.mem_cons, List.mem_append, true_or, or_true])) (W := 0) (Nat.le_of_ble_eq_true rfl) (Nat.le_of_ble_eq_true rfl) (Nat.le_refl _) (by show 0 + A.slots.size ≤ A.slots.size; omega) (g := (mkF m 6 #[.val (.ref a), .val (.ref b)] [.null, .int (Int32.ofNat A.slots.size), .int (Int32.ofNat 0), .ref b, .ref a])) rfl (by rw [hml]; rfl) c2 (argsL := [.ref b, .int (Int32.ofNat 0), .int (Int32.ofNat A.slots.size), .null]) (rest := []) rfl rfl (by show 2 * 0 + 0 ≤ _; decide) (hb hbytes d6) (⟨rfl, hB.mv X0.warmed.alike hh0, f1.al X0.warmed.alike, f2.al X0.warmed.alike, hA.mv X0.warmed.alike hh0, s1.there X0.warmed.alike hh0, hz, l0, by omega, l2, fun i hi => by rw [Nat.zero_add]; exact hp i hi⟩)
  have e0 := Got.mv _ s₁ s _ _ hh0.symm (Vm.Alike.refl _) rfl E3
  obtain rfl := e0.1
  have c4 : Steps p.tables e below (s₁.setTop (entryFrame m #[.ref a, .ref b] 2)) (T3.setTop (mkF m 9 #[.val (.ref a), .val (.ref b)] [])) := g3
  exact ⟨T3, none, _, _, _, X3, by simp, rfl, by omega, (fun _ => rfl), e0, fun fs hl => c4.trans (X3.returnOut hexec hret (hb hbytes d9) hl)⟩
theorem pays {l : Launch} {R : Room} {p : Program} {e : Env} {below : List Frame} {s : State} {sargs : Array Value} {len W : Nat} (a : Addr) (D : Cell) (fV fC : Field) (b : Addr) (A : Cell) (z : Int32) (htab : tab.before sargs s = true) (hfr : 4 ≤ R.frames) (hlo : W + 65 ≤ R.locals) :
    Back l R p e below s sargs yN len W (fun A₁ a₁ => A₁.cells + 1 ≤ R.cells ∧ A₁.slots + A.slots.size ≤ R.slots ∧ P a D fV fC b A z a₁ A₁.U) (fun A₁ _ v₁ B₁ => E a D fV fC A v₁ A₁.U B₁.U ∧ B₁.locs = A₁.locs ++ [⟨a, fC.slot⟩, ⟨a, fV.slot⟩] ∧ B₁.cells = A₁.cells + 1 ∧ B₁.slots = A₁.slots + A.slots.size) :=
  (law l a D fV fC b A z).pays htab hfr (by omega)
end New1
/-- the byte, read back as charAt reads it, is the char -/
theorem lo8_mask {x : Int32} (h0 : ¬ x < 0) (h1 : ¬ 255 < x) : lo8 x &&& 255 = x := by
  have t : ∀ k : Fin 256, lo8 (Int32.ofNat k.val) &&& 255 = Int32.ofNat k.val := by decide +kernel
  rw [Int32.lt_iff_toInt_lt] at h0 h1
  have e0 : (0 : Int32).toInt = 0 := rfl
  have e1 : (255 : Int32).toInt = 255 := rfl
  obtain ⟨k, hk⟩ : ∃ k : Nat, x.toInt = k := ⟨x.toInt.toNat, by omega⟩
  have hx : x = Int32.ofNat k := Int32.toInt_inj.mp (by rw [hk, Int32.toInt_ofNat_small (by omega)])
  rw [hx]
  exact t ⟨k, by omega⟩
end StrChars
namespace StrChars.Road
open Jvm Sem ClassFile Op Lib Jvm.Stand Jvm.Free Jvm.Free.XT
open Jvm.Lib.Cold (StaticIs)
abbrev ST : String := "java/lang/String"
/-- every table word that New1's law asks, flat -/
abbrev words : List Jvm.Cond := [.code New1.yN New1.yB 2 none, .initialized ST, .methodLink ST 27 New4.yN, .instanceMethod New4.yN,
  .code New4.yN New4.yB 6 none, .fieldLink ST 38 ST "COMPACT_STRINGS" "Z", .laysFinal ST ST "value" "[B", .fieldLink ST 9 ST "value" "[B", .laysFinal ST ST "coder" "B", .fieldLink ST 15 ST "coder" "B",
  .methodLink ST 1 Lib.objectInit, .instanceMethod Lib.objectInit, .code Lib.objectInit ⟨#[0xb1]⟩ 1 none, .methodLink ST 177 Cmp3.yN, .static Cmp3.yN, .methodLink ST 47 CodL.yN, .static CodL.yN,
  .code Cmp3.yN Cmp3.yB 6 (some (.array .byte)), .initialized U16, .arrayClass .byte, .methodLink U16 115 Cmp5.yN, .static Cmp5.yN, .code Cmp5.yN Cmp5.yB 7 (some .int), .code CodL.yN CodL.yB 2 (some .byte)]
theorem tab_of {a : Array Value} {s : State} (h : ∀ w ∈ words, w.before a s = true) : New1.tab.before a s = true := by
  have h5 : Cmp5.tab.before a s = true := unparts (wk h (.code Cmp5.yN Cmp5.yB 7 (some .int))) (wks h (.initialized Cmp5.yN.cls :: Cmp5.site))
  have hc : CodL.tab.before a s = true := unparts (wk h (.code CodL.yN CodL.yB 2 (some .byte))) (wks h (.initialized CodL.yN.cls :: CodL.site))
  have q5 : ∀ w ∈ Cmp5.tab :: words, w.before a s = true := fun w hw => (List.mem_cons.mp hw).elim (fun e => e ▸ h5) (h w)
  have h3 : Cmp3.tab.before a s = true := unparts (wk q5 (.code Cmp3.yN Cmp3.yB 6 (some (.array .byte)))) (wks q5 (.initialized Cmp3.yN.cls :: Cmp3.site))
  have q3 : ∀ w ∈ Cmp3.tab :: CodL.tab :: words, w.before a s = true := fun w hw => (List.mem_cons.mp hw).elim (fun e => e ▸ h3) fun hw => (List.mem_cons.mp hw).elim (fun e => e ▸ hc) (h w)
  have h4 : New4.tab.before a s = true := unparts (wk q3 (.code New4.yN New4.yB 6 none)) (wks q3 (.initialized New4.yN.cls :: New4.site))
  have q4 : ∀ w ∈ New4.tab :: words, w.before a s = true := fun w hw => (List.mem_cons.mp hw).elim (fun e => e ▸ h4) (h w)
  exact unparts (wk q4 (.code New1.yN New1.yB 2 none)) (wks q4 (.initialized New1.yN.cls :: New1.site))
/-- the words ride from the start Z to the walk's own state -/
theorem moved {Z s : State} {a0 args : Array Value} (hZ : Z.Warmed39 s.vm) (hw : ∀ d ∈ words, d.before a0 Z = true) : ∀ d ∈ words, d.before args s = true := fun d hd => by
  have q := hw d hd
  have t : ∀ d ∈ words, d = .arrayClass .byte ∨ (d.onTables && d.keepsFace) = true := by decide +kernel
  rcases t d hd with rfl | t
  · exact RoadKit.mvA hZ q
  · exact RoadKit.mv hZ q t
/-- WHAT COMES BACK, over the tables of the start Z: h the heap at the call, h' behind it -/
def Q (Z : State) (x : Addr) (A : Cell) (h : Heap) (v : Option Value) (h' : Heap) (L : List Loc) : Prop := v = none ∧ (∀ y ∈ L, y.base = x) ∧ RoadKit.Keep h h' [x] ∧ h'.size = h.size + 1 ∧ RoadKit.Exa Z h' x ST ∧ RoadKit.Fld Z h' x ST "value" "[B" (.ref h.size) ∧ RoadKit.Fld Z h' x ST "coder" "B" (.int 0) ∧
  (∃ V : Cell, RoadKit.Arr Z h' h.size V .byte ∧ V.vm = .none ∧ Z.vm.findClass "[B" = some V.cls ∧ V.slots.size = A.slots.size ∧ ∀ j, j < A.slots.size → V.slots[j]? = some (.int (lo8 (cv A j)))) ∧
  ∀ (O n d : String) (w : Value), RoadKit.Fld Z h x O n d w → RoadKit.slotOf Z O n d ≠ RoadKit.slotOf Z ST "value" "[B" → RoadKit.slotOf Z O n d ≠ RoadKit.slotOf Z ST "coder" "B" → RoadKit.Fld Z h' x O n d w
/-- **new String(chars) AT A CALL, IN THE ROAD'S FORM**: for specialBack behind newO: x the fresh String, b the char[] with the cell A -/
theorem back {p : Program} {l : Launch} {e : Env} {R : Room} {s : State} {args : Array Value} {below : List Frame} {len W : Nat} {Z : State} {a0 : Array Value} {h : Heap} (hZ : Z.Warmed39 s.vm) (hw : ∀ d ∈ words, d.before a0 Z = true) {kI : Nat} (wi : (Jvm.Cond.instantiable ST kI).before a0 Z = true)
    {x b : Addr} {A : Cell} {z : Int32} {v0 c0 : Value} (E : RoadKit.Exa Z h x ST) (V : RoadKit.Fld Z h x ST "value" "[B" v0) (C : RoadKit.Fld Z h x ST "coder" "B" c0) (K : RoadKit.Arr Z h b A .char) (hty : Typed .char A) (S : RoadKit.Sta Z h ST "COMPACT_STRINGS" "Z" (.int z)) (hz : ¬ z = 0)
    (l0 : 0 < A.slots.size) (l2 : A.slots.size ≤ 536870912) (hp : ∀ i, i < A.slots.size → ¬ 255 < cv A i) (hfr : 4 ≤ R.frames) (hlo : W + 65 ≤ R.locals) :
    Back l R p e below s args New1.yN len W (fun P a => a = #[.ref x, .ref b] ∧ P.U.heap = h ∧ P.cells + 1 ≤ R.cells ∧ P.slots + A.slots.size ≤ R.slots)
      (fun P _ v B => ∃ L, Q Z x A h v B.U.heap L ∧ B.locs = P.locs ++ L ∧ B.cells = P.cells + 1 ∧ B.slots = P.slots + A.slots.size) := by
  intro m meth c P g ig mk a X hg hsize hdg hW hn hp'
  obtain ⟨rfl, rfl, r1, r2⟩ := hp'
  have al : Z.vm.Alike P.U.vm := hZ.alike.trans X.warmed.alike
  obtain ⟨D, cfV, kV, iV, fV, hD, gV, stV, knV, obV, asV, slV⟩ := id V
  obtain ⟨D', cfC, kC, iC, fC, hD', gC, stC, -, -, asC, slC⟩ := id C
  cases hD.symm.trans hD'
  obtain ⟨D2, kD, e1, e2, e3, e4, e5⟩ := id E
  cases hD.symm.trans e1
  obtain ⟨c2, k2, i1, i2, i3, -⟩ := Cond.instantiable_spec wi
  cases e2.symm.trans i1
  cases e3.symm.trans i2
  obtain ⟨kU, u1, u2⟩ := al.2.2 _ _ e3
  have hB : Blank ST x D P.U := ⟨hD, ⟨knV, fun q hq => by rw [hq] at obV; cases obV⟩, by rw [al.findClass]; exact e2, kU, u1, by rw [u2]; exact i3, by rw [u2]; exact e5 i3⟩
  have F1 : Found ST "value" "[B" fV P.U := ⟨SBG.found_only al ⟨cfV, kV, iV, gV⟩, stV⟩
  have F2 : Found ST "coder" "B" fC P.U := ⟨SBG.found_only al ⟨cfC, kC, iC, gC⟩, stC⟩
  have hA : Ch b A P.U := ⟨⟨K.1, State.isArrayOf_alike al K.2.1, K.2.2, by omega⟩, hty⟩
  have hS : StaticIs P.U ST "COMPACT_STRINGS" "Z" (.int z) := by
    obtain ⟨cfS, iS, kS, fS, st, cS, t1, t2, t3, t4, t5, t6, t7⟩ := S
    exact StaticIs.there (s := { Z with heap := P.U.heap }) ⟨cfS, iS, kS, fS, st, cS, t1, t2, t3, t4, t5, (fun q => by rw [q] at t6; cases t6), t7⟩ al rfl
  obtain ⟨v, B, X', ⟨⟨hv, E', V', q1, q2, q3, q4, q5, q6, q7, q8, q9, q10, q11⟩, hl, hc, hs⟩, st⟩ := New1.pays x D fV fC b A z (tab_of (moved hZ hw)) hfr hlo m meth c P g ig mk _ X hg hsize hdg hW hn ⟨r1, r2, rfl, hB, F1, F2, hA, hS, hz, l0, l2, hp⟩
  have al' : Z.vm.Alike B.U.vm := hZ.alike.trans X'.warmed.alike
  have hsz : E'.slots.size = D.slots.size := by
    obtain ⟨-, -, -, kB, w1, w2, w3⟩ := q1
    obtain ⟨kB', y1, y2⟩ := al'.2.2 _ _ e3
    rw [q2.2.1] at w1
    cases w1.symm.trans y1
    rw [w3, e5 i3, y2]
  refine ⟨v, B, X', ⟨_, ⟨hv, ?_, ⟨by omega, fun y cy hy hn' => q10 y cy (by simpa using hn') hy, fun y cy hy => ?_⟩, q11, ⟨E', _, q1.1, by rw [q2.2.1]; exact e2, by rw [q2.2.1]; exact e3, by rw [q2.1]; exact obV, fun _ => by rw [hsz]; exact e5 i3⟩,
    ⟨E', cfV, kV, iV, fV, q1.1, gV, stV, by rw [q2.1]; exact knV, by rw [q2.1]; exact obV, by rw [q2.2.1]; exact asV, q3⟩, ⟨E', cfC, kC, iC, fC, q1.1, gC, stC, by rw [q2.1]; exact knV, by rw [q2.1]; exact obV, by rw [q2.2.1]; exact asC, q4⟩,
    ⟨V', ⟨q5.1, State.isArrayOf_alike al'.symm q5.2.1, q5.2.2.1⟩, q6, by rw [← al'.findClass]; exact q7, q8, fun j hj => by have := q9 j hj; rwa [Nat.zero_add] at this⟩, fun O n d w F n1 n2 => ?_⟩, hl, hc, hs⟩, st⟩
  · intro y hy
    simp only [List.mem_cons, List.not_mem_nil, or_false] at hy
    rcases hy with rfl | rfl <;> rfl
  · by_cases q : y = x
    · subst q
      cases hD.symm.trans hy
      exact ⟨E', q1.1, q2.2.1, q2.1, hsz⟩
    · exact ⟨cy, q10 y cy q hy, rfl, rfl, rfl⟩
  · obtain ⟨D3, cf, k, i, f, g1, g2, g3, g4, g5, g6, g7⟩ := F
    cases hD.symm.trans g1
    simp only [RoadKit.slotOf, g2, gV, gC, Option.map_some, Option.getD_some] at n1 n2
    exact ⟨E', cf, k, i, f, q1.1, g2, g3, by rw [q2.1]; exact g4, by rw [q2.1]; exact g5, by rw [q2.2.1]; exact g6, by rw [q2.2.2 f.slot (by simp [n1, n2])]; exact g7⟩
end StrChars.Road
namespace StrChars.Road
open Jvm Sem ClassFile Op Lib Jvm.Stand Jvm.Free Jvm.Free.XT
/-- WHAT COMES BACK, the byte[] as a list of values -/
def QA (Z : State) (x : Addr) (zn : Int32) (cs : List Int32) (h : Heap) (v : Option Value) (h' : Heap) (L : List Loc) : Prop := v = none ∧ (∀ y ∈ L, y.base = x) ∧ RoadKit.Keep h h' [x] ∧ h'.size = h.size + 1 ∧ RoadKit.Exa Z h' x ST ∧ RoadKit.Fld Z h' x ST "value" "[B" (.ref h.size) ∧ RoadKit.Fld Z h' x ST "coder" "B" (.int 0) ∧
  (∃ kb, Z.vm.findClass "[B" = some kb ∧ RoadKit.Arv Z h' h.size kb .byte zn (cs.map fun c => .int (lo8 c)) (.int 0)) ∧
  ∀ (O n d : String) (w : Value), RoadKit.Fld Z h x O n d w → RoadKit.slotOf Z O n d ≠ RoadKit.slotOf Z ST "value" "[B" → RoadKit.slotOf Z O n d ≠ RoadKit.slotOf Z ST "coder" "B" → RoadKit.Fld Z h' x O n d w
/-- **new String(chars) AT A CALL, THE ARRAYS AS LISTS**: the char[] at b holds cs, not empty, no char above 255 -/
theorem backArv {p : Program} {l : Launch} {e : Env} {R : Room} {s : State} {args : Array Value} {below : List Frame} {len W : Nat} {Z : State} {a0 : Array Value} {h : Heap} (hZ : Z.Warmed39 s.vm) (hw : ∀ d ∈ words, d.before a0 Z = true) {kI : Nat} (wi : (Jvm.Cond.instantiable ST kI).before a0 Z = true)
    {x b : Addr} {k : ClassId} {zn z : Int32} {cs : List Int32} {dv v0 c0 : Value} (E : RoadKit.Exa Z h x ST) (V : RoadKit.Fld Z h x ST "value" "[B" v0) (C : RoadKit.Fld Z h x ST "coder" "B" c0) (K : RoadKit.Arv Z h b k .char zn (cs.map Value.int) dv) (S : RoadKit.Sta Z h ST "COMPACT_STRINGS" "Z" (.int z)) (hz : ¬ z = 0)
    (hlen : zn.toNatClampNeg = cs.length) (h0 : 0 < cs.length) (hbig : cs.length ≤ 536870912) (hall : ∀ c ∈ cs, ¬ 255 < c) (hfr : 4 ≤ R.frames) (hlo : W + 65 ≤ R.locals) :
    Back l R p e below s args New1.yN len W (fun P a => a = #[.ref x, .ref b] ∧ P.U.heap = h ∧ P.cells + 1 ≤ R.cells ∧ P.slots + cs.length ≤ R.slots)
      (fun P _ v B => ∃ L, QA Z x zn cs h v B.U.heap L ∧ B.locs = P.locs ++ L ∧ B.cells = P.cells + 1 ∧ B.slots = P.slots + cs.length) := by
  obtain ⟨A, K1, K2, K3, K4, K5, K6⟩ := K
  have e : A.slots.size = cs.length := K3.trans hlen
  have hat : ∀ (i : Nat) (hi : i < cs.length), A.slots[i]? = some (.int cs[i]) := fun i hi => by rw [K5 i (by omega)]; simp [List.getD_eq_getElem?_getD, hi]
  have hcv : ∀ (i : Nat) (hi : i < cs.length), cv A i = cs[i] := fun i hi => by unfold cv; rw [hat i hi]
  have hty : Typed .char A := fun i v hv => by
    have hi : i < A.slots.size := (Array.getElem?_eq_some_iff.mp hv).1
    have q := K5 i hi
    rw [hv] at q
    rw [Option.some.inj q]
    exact K6 i hi
  refine Back.mono (back hZ hw wi E V C K1 hty S hz (by omega) (by omega) (fun i hi => by rw [hcv i (by omega)]; exact hall _ (List.getElem_mem _)) hfr hlo) (fun P a hp => ⟨hp.1, hp.2.1, hp.2.2.1, by rw [e]; exact hp.2.2.2⟩) (fun P a v B hp hq => ?_)
  obtain ⟨L, ⟨q1, q2, q3, q4, q5, q6, q7, ⟨V', v1, v2, v3, v4, v5⟩, q9⟩, hl, hc, hs⟩ := hq
  refine ⟨L, ⟨q1, q2, q3, q4, q5, q6, q7, ⟨V'.cls, v3, V', v1, rfl, by rw [v4, e, hlen], K4, fun i hi => ?_, fun i hi => ?_⟩, q9⟩, hl, hc, by rw [hs, e]⟩
  · have hi' : i < cs.length := by omega
    rw [v5 i (by omega), hcv i hi']; simp [List.getD_eq_getElem?_getD, hi']
  · have hi' : i < cs.length := by omega
    simp only [List.getD_eq_getElem?_getD, List.getElem?_map, List.getElem?_eq_getElem hi', Option.map_some, Option.getD_some]
    exact fits_lo8 _
end StrChars.Road
namespace StrChars.Road
open Jvm Sem ClassFile Op Lib Jvm.Stand Jvm.Free Jvm.Free.XT
/-- WHAT COMES BACK, in the writer's own shape -/
def QV (Z : State) (x : Addr) (N : Int32) (bs : List Int32) (h : Heap) (n0 : Nat) (v : Option Value) (h' : Heap) (L : List Loc) : Prop := v = none ∧ RoadKit.Fr n0 L ∧ RoadKit.Keep h h' [x] ∧ RoadKit.Exa Z h' x ST ∧ RoadKit.Fld Z h' x ST "coder" "B" (.int 0) ∧
  ∃ (t : Addr) (kb : ClassId), n0 ≤ t ∧ h.size ≤ t ∧ ¬ t = x ∧ RoadKit.Fld Z h' x ST "value" "[B" (.ref t) ∧ RoadKit.Arv Z h' t kb .byte N (bs.map Value.int) (.int 0)
/-- **new String(chars) AT A CALL, FOR THE WRITER**: a char[] of n known ints, each 0 to 255 -/
theorem backV {p : Program} {l : Launch} {e : Env} {R : Room} {s : State} {args : Array Value} {below : List Frame} {len W : Nat} {Z : State} {a0 : Array Value} {h : Heap} (hZ : Z.Warmed39 s.vm) (hw : ∀ d ∈ words, d.before a0 Z = true) {kI : Nat} (wi : (Jvm.Cond.instantiable ST kI).before a0 Z = true)
    {x b : Addr} {kC : ClassId} {cs bs : List Int32} {d v0 c0 : Value} {z N : Int32} {n n0 : Nat} (hx0 : n0 ≤ x) (hh0 : n0 ≤ h.size) (E : RoadKit.Exa Z h x ST) (V : RoadKit.Fld Z h x ST "value" "[B" v0) (C : RoadKit.Fld Z h x ST "coder" "B" c0) (K : RoadKit.Arv Z h b kC .char N (cs.map Value.int) d) (S : RoadKit.Sta Z h ST "COMPACT_STRINGS" "Z" (.int z)) (hz : ¬ z = 0)
    (hn : cs.length = n) (hN : N = Int32.ofNat n) (l0 : 0 < n) (l2 : n ≤ 4000) (hp : ∀ c ∈ cs, ¬ c < 0 ∧ ¬ (255 : Int32) < c) (hb : bs = cs.map (fun c => c.toInt8.toInt32)) (hfr : 4 ≤ R.frames) (hlo : W + 65 ≤ R.locals) :
    Back l R p e below s args (⟨"java/lang/String", "<init>", "([C)V"⟩ : MethodName) len W (fun P a => a = #[.ref x, .ref b] ∧ P.U.heap = h ∧ P.cells + 1 ≤ R.cells ∧ P.slots + n ≤ R.slots)
      (fun P _ v B => ∃ L, QV Z x N bs h n0 v B.U.heap L ∧ B.locs = P.locs ++ L ∧ B.cells = P.cells + 1 ∧ B.slots = P.slots + n) := by
  subst hn hN hb
  refine Back.mono (backArv hZ hw wi E V C K S hz (n32 (by omega)) l0 (by omega) (fun c hc => (hp c hc).2) hfr hlo) (fun P a hp => hp) (fun P a v B hp hq => ?_)
  obtain ⟨L, ⟨q1, q2, q3, q4, q5, q6, q7, ⟨kb, v1, v2⟩, q9⟩, hl, hc, hs⟩ := hq
  exact ⟨L, ⟨q1, fun y hy => by rw [q2 y hy]; exact hx0, q3, q5, q7, h.size, kb, hh0, Nat.le_refl _, Nat.ne_of_gt E.lt, q6, by rw [List.map_map]; exact v2⟩, hl, hc, hs⟩
end StrChars.Road
namespace StrChars
open Jvm Sem ClassFile Op Lib Jvm.Stand Jvm.Free.XT Jvm.Free.ALB Jvm.Free.JM Jvm.Free
open Jvm.Lib.Cold (StaticIs)
def hi8 (x : Int32) : Int32 := lo8 (x >>> ((8 : Int32) &&& 31))
/-- what StringUTF16.getChar makes of two bytes -/
def pairCh (u v : Int32) : Int32 := (((u &&& 255) <<< ((0 : Int32) &&& 31)) ||| ((v &&& 255) <<< ((8 : Int32) &&& 31))).toUInt32.toUInt16.toUInt32.toInt32
theorem lo8_and (x : Int32) : (lo8 x &&& 255).toBitVec.toNat = x.toBitVec.toNat % 256 := by
  have h : (lo8 x).toBitVec = (x.toBitVec.signExtend 8).signExtend 32 := by rw [lo8, Int8.toBitVec_toInt32, Int32.toBitVec_toInt8]
  rw [Int32.toBitVec_and, BitVec.toNat_and, h]
  have e : ((x.toBitVec.signExtend 8).signExtend 32).toNat % 256 = x.toBitVec.toNat % 256 := by
    rw [BitVec.toNat_signExtend]
    have hlt := x.toBitVec.isLt
    simp only [BitVec.toNat_setWidth, BitVec.toNat_signExtend]
    split <;> split <;> omega
  rw [← e]
  exact Nat.and_two_pow_sub_one_eq_mod _ 8
theorem pair_says {c : Int32} (h0 : ¬ c < 0) (h1 : ¬ 65535 < c) : pairCh (lo8 c) (hi8 c) = c := by
  rw [Int32.lt_iff_toInt_lt] at h0 h1
  have e0 : (0 : Int32).toInt = 0 := rfl
  have e1 : (65535 : Int32).toInt = 65535 := rfl
  have hc : c.toInt = c.toBitVec.toNat := by
    have := c.toBitVec.isLt
    have e : c.toInt = c.toBitVec.toInt := rfl
    rw [e] at h0 h1
    rw [e]
    rw [BitVec.toInt_eq_toNat_cond] at h0 h1 ⊢
    split at h0 <;> split <;> omega
  have hn : c.toBitVec.toNat < 65536 := by omega
  have a1 := lo8_and c
  have a2 : (hi8 c &&& 255).toBitVec.toNat = c.toBitVec.toNat / 256 := by
    rw [hi8, lo8_and]
    have e : ((8 : Int32) &&& 31) = 8 := by decide
    rw [e, Int32.toBitVec_shiftRight]
    have e2 : ((8 : Int32).toBitVec.smod 32) = 8#32 := by decide
    rw [e2, BitVec.sshiftRight_eq', BitVec.toNat_sshiftRight_of_msb_false (by rw [BitVec.msb_eq_false_iff_two_mul_lt]; omega)]
    show c.toBitVec.toNat >>> 8 % 256 = _
    rw [Nat.shiftRight_eq_div_pow]
    omega
  unfold pairCh
  apply Int32.toBitVec_inj.mp
  apply BitVec.eq_of_toNat_eq
  have f0 : ((0 : Int32) &&& 31) = 0 := by decide
  have f8 : ((8 : Int32) &&& 31) = 8 := by decide
  rw [f0, f8]
  have g : (((lo8 c &&& 255) <<< (0 : Int32)) ||| ((hi8 c &&& 255) <<< (8 : Int32))).toBitVec.toNat = c.toBitVec.toNat := by
    rw [Int32.toBitVec_or, Int32.toBitVec_shiftLeft, Int32.toBitVec_shiftLeft]
    have s0 : ((0 : Int32).toBitVec.smod 32) = 0#32 := by decide
    have s8 : ((8 : Int32).toBitVec.smod 32) = 8#32 := by decide
    rw [s0, s8, BitVec.toNat_or]
    simp only [BitVec.shiftLeft_eq', BitVec.toNat_shiftLeft, a1, a2]
    show (c.toBitVec.toNat % 256) <<< 0 % 2 ^ 32 ||| (c.toBitVec.toNat / 256) <<< 8 % 2 ^ 32 = _
    rw [Nat.shiftLeft_zero, Nat.mod_eq_of_lt (show c.toBitVec.toNat % 256 < 2 ^ 32 by omega), Nat.mod_eq_of_lt (show (c.toBitVec.toNat / 256) <<< 8 < 2 ^ 32 by rw [Nat.shiftLeft_eq]; omega), Nat.or_comm, ← Nat.shiftLeft_add_eq_or_of_lt (by omega), Nat.shiftLeft_eq]
    omega
  show BitVec.toNat (((((lo8 c &&& 255) <<< (0 : Int32)) ||| ((hi8 c &&& 255) <<< (8 : Int32))).toBitVec.setWidth 16).setWidth 32) = _
  rw [BitVec.toNat_setWidth, BitVec.toNat_setWidth, g]
  omega
end StrChars
namespace StrChars
open Jvm Sem ClassFile Op Lib Jvm.Stand Jvm.Free.XT Jvm.Free.ALB Jvm.Free.JM Jvm.Free
open Jvm.Lib.Cold (StaticIs)
/-- the array's cell V codes the n chars f 0 .. f (n - 1) by the coder cd, as the JDK does: coder 1 just where some char is above 255 -/
def Cod (cd : Int32) (n : Nat) (f : Nat → Int32) (V : Cell) : Prop := (cd = 0 ∧ V.slots.size = n ∧ ∀ j, j < n → V.slots[j]? = some (.int (lo8 (f j))) ∧ ¬ 255 < f j) ∨ (cd = 1 ∧ V.slots.size = 2 * n ∧ (∀ j, j < n → V.slots[2 * j]? = some (.int (lo8 (f j))) ∧ V.slots[2 * j + 1]? = some (.int (hi8 (f j)))) ∧ ∃ j, j < n ∧ 255 < f j)
/-- **x is a String of the n chars f 0 .. f (n - 1)**, Latin-1 or UTF-16; its array at t has the cell V -/
def Txt (x t : Addr) (V : Cell) (cd : Int32) (n : Nat) (f : Nat → Int32) (U : State) : Prop := Exact "java/lang/String" x U ∧ Has x "java/lang/String" "value" "[B" (.ref t) U ∧ Has x "java/lang/String" "coder" "B" (.int cd) U ∧ XT.Arr .byte t V U ∧ Cod cd n f V ∧ ∀ j, j < n → ¬ f j < 0 ∧ ¬ 65535 < f j
theorem Txt.mv {x t : Addr} {V : Cell} {cd : Int32} {n : Nat} {f : Nat → Int32} {U U' : State} (h : Txt x t V cd n f U) (hal : U.vm.Alike U'.vm) (hh : U'.heap = U.heap) : Txt x t V cd n f U' := ⟨h.1.mv hal hh, h.2.1.mv hal hh, h.2.2.1.mv hal hh, h.2.2.2.1.mv hal hh, h.2.2.2.2⟩
end StrChars
namespace StrChars.Road
open Jvm Sem ClassFile Op Lib Jvm.Stand Jvm.Free Jvm.Free.XT
open Jvm.Lib.Cold (StaticIs)
theorem consq {a : Array Value} {s : State} {c : Jvm.Cond} {L : List Jvm.Cond} (h0 : c.before a s = true) (h : ∀ w ∈ L, w.before a s = true) : ∀ w ∈ c :: L, w.before a s = true := fun w hw => (List.mem_cons.mp hw).elim (fun e => e ▸ h0) (h w)
/-- the bytes of the chars cs, low before high -/
def wideBytes : List Int32 → List Value
  | [] => []
  | c :: cs => .int (lo8 c) :: .int (hi8 c) :: wideBytes cs
theorem wide_lo (d : Value) : ∀ (cs : List Int32) (j : Nat), j < cs.length → (wideBytes cs).getD (2 * j) d = .int (lo8 (cs.getD j 0))
  | [], j, h => absurd h (Nat.not_lt_zero j)
  | c :: cs, 0, _ => rfl
  | c :: cs, j + 1, h => by
    have q := wide_lo d cs j (by simpa using h)
    rw [show 2 * (j + 1) = 2 * j + 1 + 1 from by omega]
    simpa [wideBytes] using q
theorem wide_hi (d : Value) : ∀ (cs : List Int32) (j : Nat), j < cs.length → (wideBytes cs).getD (2 * j + 1) d = .int (hi8 (cs.getD j 0))
  | [], j, h => absurd h (Nat.not_lt_zero j)
  | c :: cs, 0, _ => rfl
  | c :: cs, j + 1, h => by
    have q := wide_hi d cs j (by simpa using h)
    rw [show 2 * (j + 1) + 1 = 2 * j + 1 + 1 + 1 from by omega]
    simpa [wideBytes] using q
theorem low_at (d : Value) (cs : List Int32) (j : Nat) (h : j < cs.length) : (cs.map fun c => Value.int (lo8 c)).getD j d = .int (lo8 (cs.getD j 0)) := by
  simp [List.getD_eq_getElem?_getD, h]
/-- an array of N2 bytes vs codes the chars cs by the coder cd -/
def CodA (cs : List Int32) (cd N2 : Int32) (vs : List Value) : Prop := (cd = 0 ∧ N2 = Int32.ofNat cs.length ∧ vs = (cs.map fun c => Value.int (lo8 c)) ∧ ∀ c ∈ cs, ¬ 255 < c) ∨ (cd = 1 ∧ N2 = Int32.ofNat (2 * cs.length) ∧ vs = wideBytes cs ∧ ∃ c ∈ cs, 255 < c)
theorem CodA.cod {cs : List Int32} {cd N2 : Int32} {vs : List Value} {V : Cell} (h : CodA cs cd N2 vs) (hn : 2 * cs.length < 2 ^ 31) (hs : V.slots.size = N2.toNatClampNeg) (hv : RoadKit.Has V vs (.int 0)) : Cod cd cs.length (fun j => cs.getD j 0) V := by
  rcases h with ⟨rfl, rfl, rfl, h⟩ | ⟨rfl, rfl, rfl, c, hc, hw⟩
  · rw [n32 (by omega)] at hs
    exact Or.inl ⟨rfl, hs, fun j hj => ⟨by rw [hv j (by omega), low_at _ _ _ hj], by
      have e : cs.getD j 0 = cs[j] := by simp [List.getD_eq_getElem?_getD, hj]
      show ¬ 255 < cs.getD j 0
      rw [e]; exact h _ (List.getElem_mem _)⟩⟩
  · rw [n32 (by omega)] at hs
    obtain ⟨j, hj, rfl⟩ := List.getElem_of_mem hc
    exact Or.inr ⟨rfl, hs, fun j hj => ⟨by rw [hv _ (by omega), wide_lo _ _ _ hj], by rw [hv _ (by omega), wide_hi _ _ _ hj]⟩, j, hj, by
      have e : cs.getD j 0 = cs[j] := by simp [List.getD_eq_getElem?_getD, hj]
      show 255 < cs.getD j 0
      rw [e]; exact hw⟩
/-- an object of exactly java/lang/String, its two fields found: as the laws ask it -/
theorem strObj {Z U : State} {a0 : Array Value} {kI : Nat} (wi : (Jvm.Cond.instantiable ST kI).before a0 Z = true) (al : Z.vm.Alike U.vm) {x : Addr} {v0 c0 : Value} (E : RoadKit.Exa Z U.heap x ST) (V : RoadKit.Fld Z U.heap x ST "value" "[B" v0) (C : RoadKit.Fld Z U.heap x ST "coder" "B" c0) :
    ∃ (D : Cell) (fV fC : Field), Blank ST x D U ∧ Found ST "value" "[B" fV U ∧ Found ST "coder" "B" fC U ∧ D.slots[fV.slot]? = some v0 ∧ D.slots[fC.slot]? = some c0 ∧ RoadKit.slotOf Z ST "value" "[B" = fV.slot ∧ RoadKit.slotOf Z ST "coder" "B" = fC.slot := by
  obtain ⟨D, cfV, kV, iV, fV, hD, gV, stV, knV, obV, asV, slV⟩ := V
  obtain ⟨D', cfC, kC, iC, fC, hD', gC, stC, -, -, asC, slC⟩ := C
  cases hD.symm.trans hD'
  obtain ⟨D2, kD, e1, e2, e3, e4, e5⟩ := E
  cases hD.symm.trans e1
  obtain ⟨c2, k2, i1, i2, i3, -⟩ := Cond.instantiable_spec wi
  cases e2.symm.trans i1
  cases e3.symm.trans i2
  obtain ⟨kU, u1, u2⟩ := al.2.2 _ _ e3
  exact ⟨D, fV, fC, ⟨hD, ⟨knV, fun q hq => by rw [hq] at obV; cases obV⟩, by rw [al.findClass]; exact e2, kU, u1, by rw [u2]; exact i3, by rw [u2]; exact e5 i3⟩, ⟨SBG.found_only al ⟨cfV, kV, iV, gV⟩, stV⟩, ⟨SBG.found_only al ⟨cfC, kC, iC, gC⟩, stC⟩, slV, slC, by simp [RoadKit.slotOf, gV], by simp [RoadKit.slotOf, gC]⟩
theorem sta_is {Z U : State} (al : Z.vm.Alike U.vm) {C n d : String} {v : Value} (S : RoadKit.Sta Z U.heap C n d v) : StaticIs U C n d v := by
  obtain ⟨cfS, iS, kS, fS, st, cS, t1, t2, t3, t4, t5, t6, t7⟩ := S
  exact StaticIs.there (s := { Z with heap := U.heap }) ⟨cfS, iS, kS, fS, st, cS, t1, t2, t3, t4, t5, (fun q => by rw [q] at t6; cases t6), t7⟩ al rfl
end StrChars.Road
namespace StrChars
open Jvm Sem ClassFile Op Lib Jvm.Stand Jvm.Free.XT Jvm.Free.ALB Jvm.Free.JM Jvm.Free
open Jvm.Lib.Cold (StaticIs)
/-- what place i of a byte[]'s cell holds -/
def yv (A : Cell) (i : Nat) : Int32 := match A.slots[i]? with | some (.int x) => x | _ => 0
theorem yv_get {a : Addr} {A : Cell} {U : State} (h : XT.Arr .byte a A U) (ht : Typed .byte A) {i : Nat} (hi : i < A.slots.size) : A.slots[i]? = some (.int (yv A i)) := by
  have e := Array.getElem?_eq_getElem hi
  have f := ht i _ e
  unfold yv; rw [e]
  generalize A.slots[i] = v at f
  cases v <;> simp [fits] at f ⊢
/-- the two arrays are equal, place for place -/
def EqC (A B : Cell) : Prop := A.slots.size = B.slots.size ∧ ∀ i, i < A.slots.size → yv A i = yv B i
/-- a boolean that says whether p -/
def Says01 (q : Prop) (r : Option Value) (s u : State) : Prop := ∃ v : Int32, r = some (.int v) ∧ u.heap = s.heap ∧ ((v = 1 ∧ q) ∨ (v = 0 ∧ ¬ q))
theorem Says01.mv {q : Prop} : ∀ r (U U' V V' : State), U'.heap = U.heap → V.vm.Alike V'.vm → V'.heap = V.heap → Says01 q r U V → Says01 q r U' V' :=
  fun r U U' V V' h1 _ h2 ⟨v, a, b, c⟩ => ⟨v, a, by rw [h1, h2]; exact b, c⟩
namespace LEq
def yN : MethodName := ⟨"java/lang/StringLatin1", "equals", "([B[B)Z"⟩
abbrev yB : ByteArray := jdk_43_method_13_code
theorem d0 : decode yB 0 = .ok (.aload_n 0, 1) := by decide +kernel
theorem d1 : decode yB 1 = .ok (.arraylength, 1) := by decide +kernel
theorem d2 : decode yB 2 = .ok (.aload_n 1, 1) := by decide +kernel
theorem d3 : decode yB 3 = .ok (.arraylength, 1) := by decide +kernel
theorem d4 : decode yB 4 = .ok (.if_icmp (.ne) 30, 3) := by decide +kernel
theorem d7 : decode yB 7 = .ok (.iconst 0, 1) := by decide +kernel
theorem d8 : decode yB 8 = .ok (.istore_n 2, 1) := by decide +kernel
theorem d9 : decode yB 9 = .ok (.iload_n 2, 1) := by decide +kernel
theorem d10 : decode yB 10 = .ok (.aload_n 0, 1) := by decide +kernel
theorem d11 : decode yB 11 = .ok (.arraylength, 1) := by decide +kernel
theorem d12 : decode yB 12 = .ok (.if_icmp (.ge) 20, 3) := by decide +kernel
theorem d15 : decode yB 15 = .ok (.aload_n 0, 1) := by decide +kernel
theorem d16 : decode yB 16 = .ok (.iload_n 2, 1) := by decide +kernel
theorem d17 : decode yB 17 = .ok (.baload, 1) := by decide +kernel
theorem d18 : decode yB 18 = .ok (.aload_n 1, 1) := by decide +kernel
theorem d19 : decode yB 19 = .ok (.iload_n 2, 1) := by decide +kernel
theorem d20 : decode yB 20 = .ok (.baload, 1) := by decide +kernel
theorem d21 : decode yB 21 = .ok (.if_icmp (.eq) 5, 3) := by decide +kernel
theorem d24 : decode yB 24 = .ok (.iconst 0, 1) := by decide +kernel
theorem d25 : decode yB 25 = .ok (.ireturn, 1) := by decide +kernel
theorem d26 : decode yB 26 = .ok (.iinc 2 1, 3) := by decide +kernel
theorem d29 : decode yB 29 = .ok (.goto (-20), 3) := by decide +kernel
theorem d32 : decode yB 32 = .ok (.iconst 1, 1) := by decide +kernel
theorem d33 : decode yB 33 = .ok (.ireturn, 1) := by decide +kernel
theorem d34 : decode yB 34 = .ok (.iconst 0, 1) := by decide +kernel
theorem d35 : decode yB 35 = .ok (.ireturn, 1) := by decide +kernel
def site : List Cond := []
def tab : Cond := tabOf yN yB 3 (some .boolean) site
def P (a : Addr) (A : Cell) (b : Addr) (B : Cell) (args : Array Value) (s : State) : Prop := args = #[.ref a, .ref b] ∧ XT.Arr .byte a A s ∧ Typed .byte A ∧ XT.Arr .byte b B s ∧ Typed .byte B
/-- whether two byte[] are equal, place for place -/
theorem law (l : Launch) (a : Addr) (A : Cell) (b : Addr) (B : Cell) : Law l yN 2 2 0 0 yB 3 (some .boolean) site (P a A b B) (Says01 (EqC A B)) [] 0 0 := by
  refine Law.of_walk (plainFor_of_name (by decide +kernel)) (by decide +kernel) (by decide +kernel) (by decide) (fun _ _ h => by rw [h.1]; rfl) (fun _ U U' hal hh h => ⟨h.1, h.2.1.mv hal hh, h.2.2.1, h.2.2.2.1.mv hal hh, h.2.2.2.2⟩) (fun r U U' V V' h1 hal h2 h => Says01.mv r U U' V V' h1 hal h2 h) ?_
  intro p e s m args below meth c s₁ X0 hexec hbytes hml hret hlk hnm hown hh0 W hP
  obtain ⟨rfl, hA, tA, hB, tB⟩ := hP
  have a31 := hA.2.2.2
  have b31 := hB.2.2.2
  have hA0 := hA.mv X0.warmed.alike hh0
  have hB0 := hB.mv X0.warmed.alike hh0
  have c1 : Steps p.tables e below (s₁.setTop (entryFrame m #[.ref a, .ref b] 3)) (s₁.setTop (mkF m 0 #[.val (.ref a), .val (.ref b), .unset] [])) := entry rfl
  have c2 : Steps p.tables e below (s₁.setTop (entryFrame m #[.ref a, .ref b] 3)) (s₁.setTop (mkF m 4 #[.val (.ref a), .val (.ref b), .unset] [.int (Int32.ofNat B.slots.size), .int (Int32.ofNat A.slots.size)])) := c1.trans (by
    refine XS.aloadN X0.here hexec rfl (hb hbytes d0) rfl rfl ?_
    refine X0.alen hexec hA0 rfl rfl (hb hbytes d1) ?_
    refine XS.aloadN X0.here hexec rfl (hb hbytes d2) rfl rfl ?_
    refine X0.alen hexec hB0 rfl rfl (hb hbytes d3) ?_
    exact Steps.refl _)
  by_cases hs : A.slots.size = B.slots.size
  · have c3 : Steps p.tables e below (s₁.setTop (entryFrame m #[.ref a, .ref b] 3)) (s₁.setTop (mkF m 9 #[.val (.ref a), .val (.ref b), .val (.int 0)] [])) := c2.trans (by
      refine XS.icmpNo X0.here hexec rfl (hb hbytes d4) rfl (ii_ne_f (by rw [hs])) ?_
      refine iconstV X0.here hexec rfl 0 (hb hbytes d7) (by decide) ?_
      refine XS.istoreN X0.here hexec rfl (hb hbytes d8) rfl rfl ?_
      exact Steps.refl _)
    have loop : ∀ (r i : Nat), i + r = A.slots.size → (∀ j, j < i → yv A j = yv B j) → Steps p.tables e below (s₁.setTop (entryFrame m #[.ref a, .ref b] 3)) (s₁.setTop (mkF m 9 #[.val (.ref a), .val (.ref b), .val (.int (Int32.ofNat i))] [])) → ∃ (pc : Nat) (Ls : Array Slot) (v : Int32), (pc = 25 ∨ pc = 33) ∧ ((v = 1 ∧ EqC A B) ∨ (v = 0 ∧ ¬ EqC A B)) ∧ Steps p.tables e below (s₁.setTop (entryFrame m #[.ref a, .ref b] 3)) (s₁.setTop (mkF m pc Ls [.int v])) := by
      intro r
      induction r with
      | zero =>
        intro i hi he cl
        exact ⟨33, _, 1, Or.inr rfl, Or.inl ⟨rfl, hs, fun j hj => he j (by omega)⟩, cl.trans (by
          refine XS.iloadN X0.here hexec rfl (hb hbytes d9) rfl ?_
          refine XS.aloadN X0.here hexec rfl (hb hbytes d10) rfl rfl ?_
          refine X0.alen hexec hA0 rfl rfl (hb hbytes d11) ?_
          refine XS.icmpYes X0.here hexec rfl (pc0 := 12) rfl (hb hbytes d12) rfl (ii_ge_t (nlt32 (by omega) (by omega))) (by decide) rfl ?_
          refine iconstV X0.here hexec rfl 1 (hb hbytes d32) (by decide) ?_
          exact Steps.refl _)⟩
      | succ r ih =>
        intro i hi he cl
        have c4 : Steps p.tables e below (s₁.setTop (entryFrame m #[.ref a, .ref b] 3)) (s₁.setTop (mkF m 21 #[.val (.ref a), .val (.ref b), .val (.int (Int32.ofNat i))] [.int (yv B i), .int (yv A i)])) := cl.trans (by
          refine XS.iloadN X0.here hexec rfl (hb hbytes d9) rfl ?_
          refine XS.aloadN X0.here hexec rfl (hb hbytes d10) rfl rfl ?_
          refine X0.alen hexec hA0 rfl rfl (hb hbytes d11) ?_
          refine XS.icmpNo X0.here hexec rfl (hb hbytes d12) rfl (ii_ge_f (lt32 (by omega) (by omega))) ?_
          refine XS.aloadN X0.here hexec rfl (hb hbytes d15) rfl rfl ?_
          refine XS.iloadN X0.here hexec rfl (hb hbytes d16) rfl ?_
          refine X0.aget hexec hA0 rfl (yv_get hA tA (i := i) (by omega)) rfl rfl (hb hbytes d17) ?_
          refine XS.aloadN X0.here hexec rfl (hb hbytes d18) rfl rfl ?_
          refine XS.iloadN X0.here hexec rfl (hb hbytes d19) rfl ?_
          refine X0.aget hexec hB0 rfl (yv_get hB tB (i := i) (by omega)) rfl rfl (hb hbytes d20) ?_
          exact Steps.refl _)
        by_cases hv : yv A i = yv B i
        · have c5 : Steps p.tables e below (s₁.setTop (entryFrame m #[.ref a, .ref b] 3)) (s₁.setTop (mkF m 9 #[.val (.ref a), .val (.ref b), .val (.int (Int32.ofNat i + 1))] [])) := c4.trans (by
            refine XS.icmpYes X0.here hexec rfl (pc0 := 21) rfl (hb hbytes d21) rfl (ii_eq_t hv) (by decide) rfl ?_
            refine iincV X0.here hexec rfl 1 (hb hbytes d26) (by decide) rfl rfl ?_
            refine XS.goto X0.here hexec rfl (pc0 := 29) rfl (hb hbytes d29) (by decide) rfl ?_
            exact Steps.refl _)
          rw [succ32] at c5
          exact ih (i + 1) (by omega) (fun j hj => by
            by_cases e : j = i
            · rw [e]; exact hv
            · exact he j (by omega)) c5
        · exact ⟨25, _, 0, Or.inl rfl, Or.inr ⟨rfl, fun q => hv (q.2 i (by omega))⟩, c4.trans (by
            refine XS.icmpNo X0.here hexec rfl (hb hbytes d21) rfl (ii_eq_f hv) ?_
            refine iconstV X0.here hexec rfl 0 (hb hbytes d24) (by decide) ?_
            exact Steps.refl _)⟩
    obtain ⟨pc, Ls, v, hpc, hv, cz⟩ := loop A.slots.size 0 (by omega) (fun j hj => absurd hj (Nat.not_lt_zero j)) c3
    have nv : narrow .boolean (.int v) = .int v := by rcases hv with ⟨rfl, -⟩ | ⟨rfl, -⟩ <;> rfl
    rcases hpc with rfl | rfl
    · exact ⟨s₁, some (.int v), _, _, _, X0, rfl, rfl, rfl, (fun h => by cases h), ⟨v, rfl, hh0, hv⟩, fun fs hl => cz.trans (X0.ireturnOut hexec hret nv (Or.inr (Or.inl rfl)) (hb hbytes d25) hl)⟩
    · exact ⟨s₁, some (.int v), _, _, _, X0, rfl, rfl, rfl, (fun h => by cases h), ⟨v, rfl, hh0, hv⟩, fun fs hl => cz.trans (X0.ireturnOut hexec hret nv (Or.inr (Or.inl rfl)) (hb hbytes d33) hl)⟩
  · have c3 : Steps p.tables e below (s₁.setTop (entryFrame m #[.ref a, .ref b] 3)) (s₁.setTop (mkF m 35 #[.val (.ref a), .val (.ref b), .unset] [.int 0])) := c2.trans (by
      refine XS.icmpYes X0.here hexec rfl (pc0 := 4) rfl (hb hbytes d4) rfl (ii_ne_t (ne32 a31 b31 hs)) (by decide) rfl ?_
      refine iconstV X0.here hexec rfl 0 (hb hbytes d34) (by decide) ?_
      exact Steps.refl _)
    exact ⟨s₁, some (.int 0), _, _, _, X0, rfl, rfl, rfl, (fun h => by cases h), ⟨0, rfl, hh0, Or.inr ⟨rfl, fun q => hs q.1⟩⟩, fun fs hl => c3.trans (X0.ireturnOut hexec hret rfl (Or.inr (Or.inl rfl)) (hb hbytes d35) hl)⟩
end LEq
theorem Cod.ty {cd : Int32} {n : Nat} {f : Nat → Int32} {V : Cell} (h : Cod cd n f V) : Typed .byte V := fun i v hv => by
  have hi : i < V.slots.size := (Array.getElem?_eq_some_iff.mp hv).1
  rcases h with ⟨-, k1, k2⟩ | ⟨-, k1, k2, -⟩
  · rw [(k2 i (by omega)).1] at hv; cases hv; exact fits_lo8 _
  · rcases Nat.mod_two_eq_zero_or_one i with e | e
    · obtain ⟨j, rfl⟩ : ∃ j, i = 2 * j := ⟨i / 2, by omega⟩
      rw [(k2 j (by omega)).1] at hv; cases hv; exact fits_lo8 _
    · obtain ⟨j, rfl⟩ : ∃ j, i = 2 * j + 1 := ⟨i / 2, by omega⟩
      rw [(k2 j (by omega)).2] at hv; cases hv; exact fits_lo8 _
/-- the same text -/
def SameT (n : Nat) (f : Nat → Int32) (k : Nat) (g : Nat → Int32) : Prop := n = k ∧ ∀ j, j < n → f j = g j
theorem lo8_inj {x y : Int32} (h0 : ¬ x < 0) (h1 : ¬ 255 < x) (k0 : ¬ y < 0) (k1 : ¬ 255 < y) (h : lo8 x = lo8 y) : x = y := by
  rw [← lo8_mask h0 h1, ← lo8_mask k0 k1, h]
/-- arrays coded by one coder are equal just where the texts are -/
theorem Cod.eqv {cd : Int32} {n k : Nat} {f g : Nat → Int32} {V V' : Cell} (h : Cod cd n f V) (h' : Cod cd k g V') (hf : ∀ j, j < n → ¬ f j < 0 ∧ ¬ 65535 < f j) (hg : ∀ j, j < k → ¬ g j < 0 ∧ ¬ 65535 < g j) : EqC V V' ↔ SameT n f k g := by
  have yvv : ∀ {W : Cell} {i : Nat} {x : Int32}, W.slots[i]? = some (.int x) → yv W i = x := fun q => by unfold yv; rw [q]
  rcases h with ⟨rfl, k1, k2⟩ | ⟨rfl, k1, k2, -⟩
  · rcases h' with ⟨-, m1, m2⟩ | ⟨e, -⟩
    · constructor
      · rintro ⟨e1, e2⟩
        refine ⟨by omega, fun j hj => ?_⟩
        have q := e2 j (by omega)
        rw [yvv (k2 j hj).1, yvv (m2 j (by omega)).1] at q
        exact lo8_inj (hf j hj).1 (k2 j hj).2 (hg j (by omega)).1 (m2 j (by omega)).2 q
      · rintro ⟨rfl, e2⟩
        refine ⟨by omega, fun j hj => ?_⟩
        rw [yvv (k2 j (by omega)).1, yvv (m2 j (by omega)).1, e2 j (by omega)]
    · exact absurd e (by decide)
  · rcases h' with ⟨e, -⟩ | ⟨-, m1, m2, -⟩
    · exact absurd e (by decide)
    · constructor
      · rintro ⟨e1, e2⟩
        refine ⟨by omega, fun j hj => ?_⟩
        have q1 := e2 (2 * j) (by omega)
        have q2 := e2 (2 * j + 1) (by omega)
        rw [yvv (k2 j hj).1, yvv (m2 j (by omega)).1] at q1
        rw [yvv (k2 j hj).2, yvv (m2 j (by omega)).2] at q2
        rw [← pair_says (hf j hj).1 (hf j hj).2, ← pair_says (hg j (by omega)).1 (hg j (by omega)).2, q1, q2]
      · rintro ⟨rfl, e2⟩
        refine ⟨by omega, fun i hi => ?_⟩
        rcases Nat.mod_two_eq_zero_or_one i with e | e
        · obtain ⟨j, rfl⟩ : ∃ j, i = 2 * j := ⟨i / 2, by omega⟩
          rw [yvv (k2 j (by omega)).1, yvv (m2 j (by omega)).1, e2 j (by omega)]
        · obtain ⟨j, rfl⟩ : ∃ j, i = 2 * j + 1 := ⟨i / 2, by omega⟩
          rw [yvv (k2 j (by omega)).2, yvv (m2 j (by omega)).2, e2 j (by omega)]
/-- two codings differ: so do the texts -/
theorem Cod.dif {cd cd' : Int32} {n k : Nat} {f g : Nat → Int32} {V V' : Cell} (h : Cod cd n f V) (h' : Cod cd' k g V') (hne : ¬ cd = cd') : ¬ SameT n f k g := by
  rintro ⟨rfl, e⟩
  rcases h with ⟨rfl, -, k2⟩ | ⟨rfl, -, -, j, hj, hw⟩
  · rcases h' with ⟨rfl, -⟩ | ⟨-, -, -, j, hj, hw⟩
    · exact hne rfl
    · exact (k2 j hj).2 (by rw [e j hj]; exact hw)
  · rcases h' with ⟨-, -, m2⟩ | ⟨rfl, -⟩
    · exact (m2 j hj).2 (by rw [← e j hj]; exact hw)
    · exact hne rfl
/-- an object of exactly C is an instance of C -/
theorem cinst {p : Program} {l : Launch} {e : Env} {R : Room} {s : State} {m : MethodId} {args : Array Value} {below : List Frame} {meth : Method} {c : Code} {T : State} {locs : List Loc} {cells slots : Nat} (X : Stand p l e R s m args below meth c T locs cells slots) (hexec : p.tables.exec = Jvm.exec) {own C : String} {index : Nat} (hown : s.vm.findClass own = some m.cls) (hlink : (Cond.classLink own index C).before args s = true) {a : Addr} (hE : Exact C a T)
    {g : JFrame} (hg : g.method = m) {rest : List Value} (hstack : g.stack = .ref a :: rest) (hdg : decode c.code g.pc = .ok (.instanceof index, 3)) :
    ∃ T', Stand p l e R s m args below meth c T' locs cells slots ∧ T'.heap = T.heap ∧ ∀ target, Steps p.tables e below (T'.setTop { g with pc := g.pc + 3, stack := .int 1 :: rest }) target → Steps p.tables e below (T.setTop g) target := by
  obtain ⟨cB, h1, D, h2, h3, h4⟩ := hE
  have h1' : s.vm.findClass C = some cB := by rw [← X.warmed.alike.findClass]; exact h1
  obtain ⟨vm', X', st⟩ := X.instanceofYes hexec hown hlink h2 h4 h1' (by rw [h3]; exact Jvm.Free.SB.assignable_self _ _) hg hstack hdg
  exact ⟨_, X', rfl, st⟩
theorem cself {p : Program} {l : Launch} {e : Env} {R : Room} {s : State} {m : MethodId} {args : Array Value} {below : List Frame} {meth : Method} {c : Code} {T : State} {locs : List Loc} {cells slots : Nat} (X : Stand p l e R s m args below meth c T locs cells slots) (hexec : p.tables.exec = Jvm.exec) {own C : String} {index : Nat} (hown : s.vm.findClass own = some m.cls) (hlink : (Cond.classLink own index C).before args s = true) {a : Addr} (hE : Exact C a T)
    {g : JFrame} (hg : g.method = m) {rest : List Value} (hstack : g.stack = .ref a :: rest) (hdg : decode c.code g.pc = .ok (.checkcast index, 3)) :
    ∃ T', Stand p l e R s m args below meth c T' locs cells slots ∧ T'.heap = T.heap ∧ ∀ target, Steps p.tables e below (T'.setTop { g with pc := g.pc + 3, stack := .ref a :: rest }) target → Steps p.tables e below (T.setTop g) target := by
  obtain ⟨cB, h1, D, h2, h3, h4⟩ := hE
  have h1' : s.vm.findClass C = some cB := by rw [← X.warmed.alike.findClass]; exact h1
  obtain ⟨vm', X', st⟩ := X.checkcastYes hexec hown hlink h2 h4 h1' (by rw [h3]; exact Jvm.Free.SB.assignable_self _ _) hg hstack hdg
  exact ⟨_, X', rfl, fun t h => st t (by rw [← hstack] at h; exact h)⟩
namespace SEq
def yN : MethodName := ⟨"java/lang/String", "equals", "(Ljava/lang/Object;)Z"⟩
abbrev yB : ByteArray := jdk_42_method_66_code
theorem d0 : decode yB 0 = .ok (.aload_n 0, 1) := by decide +kernel
theorem d1 : decode yB 1 = .ok (.aload_n 1, 1) := by decide +kernel
theorem d2 : decode yB 2 = .ok (.if_acmp (.ne) 5, 3) := by decide +kernel
theorem d5 : decode yB 5 = .ok (.iconst 1, 1) := by decide +kernel
theorem d6 : decode yB 6 = .ok (.ireturn, 1) := by decide +kernel
theorem d7 : decode yB 7 = .ok (.aload_n 1, 1) := by decide +kernel
theorem d8 : decode yB 8 = .ok (.instanceof 10, 3) := by decide +kernel
theorem d11 : decode yB 11 = .ok (.ifCond (.eq) 43, 3) := by decide +kernel
theorem d14 : decode yB 14 = .ok (.aload_n 1, 1) := by decide +kernel
theorem d15 : decode yB 15 = .ok (.checkcast 10, 3) := by decide +kernel
theorem d18 : decode yB 18 = .ok (.astore_n 2, 1) := by decide +kernel
theorem d19 : decode yB 19 = .ok (.getstatic 38, 3) := by decide +kernel
theorem d22 : decode yB 22 = .ok (.ifCond (.eq) 14, 3) := by decide +kernel
theorem d25 : decode yB 25 = .ok (.aload_n 0, 1) := by decide +kernel
theorem d26 : decode yB 26 = .ok (.getfield 15, 3) := by decide +kernel
theorem d29 : decode yB 29 = .ok (.aload_n 2, 1) := by decide +kernel
theorem d30 : decode yB 30 = .ok (.getfield 15, 3) := by decide +kernel
theorem d33 : decode yB 33 = .ok (.if_icmp (.ne) 21, 3) := by decide +kernel
theorem d36 : decode yB 36 = .ok (.aload_n 0, 1) := by decide +kernel
theorem d37 : decode yB 37 = .ok (.getfield 9, 3) := by decide +kernel
theorem d40 : decode yB 40 = .ok (.aload_n 2, 1) := by decide +kernel
theorem d41 : decode yB 41 = .ok (.getfield 9, 3) := by decide +kernel
theorem d44 : decode yB 44 = .ok (.invokestatic 541, 3) := by decide +kernel
theorem d47 : decode yB 47 = .ok (.ifCond (.eq) 7, 3) := by decide +kernel
theorem d50 : decode yB 50 = .ok (.iconst 1, 1) := by decide +kernel
theorem d51 : decode yB 51 = .ok (.goto 4, 3) := by decide +kernel
theorem d54 : decode yB 54 = .ok (.iconst 0, 1) := by decide +kernel
theorem d55 : decode yB 55 = .ok (.ireturn, 1) := by decide +kernel
def site : List Cond := [.classLink "java/lang/String" 10 "java/lang/String", .fieldLink "java/lang/String" 38 "java/lang/String" "COMPACT_STRINGS" "Z", .fieldLink "java/lang/String" 15 "java/lang/String" "coder" "B", .fieldLink "java/lang/String" 9 "java/lang/String" "value" "[B", LEq.tab] ++ staticW "java/lang/String" 541 LEq.yN
def tab : Cond := tabOf yN yB 3 (some .boolean) site
def P (x t : Addr) (V : Cell) (cd : Int32) (n : Nat) (f : Nat → Int32) (y t' : Addr) (V' : Cell) (cd' : Int32) (k : Nat) (g : Nat → Int32) (z : Int32) (args : Array Value) (s : State) : Prop := args = #[.ref x, .ref y] ∧ Txt x t V cd n f s ∧ Txt y t' V' cd' k g s ∧ StaticIs s "java/lang/String" "COMPACT_STRINGS" "Z" (.int z) ∧ ¬ z = 0
/-- equals(Object) of two Strings: whether the texts are the same -/
theorem law (l : Launch) (x t : Addr) (V : Cell) (cd : Int32) (n : Nat) (f : Nat → Int32) (y t' : Addr) (V' : Cell) (cd' : Int32) (k : Nat) (g : Nat → Int32) (z : Int32) : Law l yN 2 1 1 14 yB 3 (some .boolean) site (P x t V cd n f y t' V' cd' k g z) (Says01 (SameT n f k g)) [] 0 0 := by
  refine Law.of_walk (plainFor_of_name (by decide +kernel)) (by decide +kernel) (by decide +kernel) (by decide) (fun _ _ h => by rw [h.1]; rfl) (fun _ U U' hal hh h => ⟨h.1, h.2.1.mv hal hh, h.2.2.1.mv hal hh, h.2.2.2.1.there hal hh, h.2.2.2.2⟩) (fun r U U' V V' h1 hal h2 h => Says01.mv r U U' V V' h1 hal h2 h) ?_
  intro p e s m args below meth c s₁ X0 hexec hbytes hml hret hlk hnm hown hh0 W hP
  obtain ⟨rfl, hx, hy, s1, hz⟩ := hP
  have c1 : Steps p.tables e below (s₁.setTop (entryFrame m #[.ref x, .ref y] 3)) (s₁.setTop (mkF m 2 #[.val (.ref x), .val (.ref y), .unset] [.ref y, .ref x])) := Steps.trans (entry rfl) (by
    show Steps p.tables e below (s₁.setTop (mkF m 0 #[.val (.ref x), .val (.ref y), .unset] [])) _
    refine XS.aloadN X0.here hexec rfl (hb hbytes d0) rfl rfl ?_
    refine XS.aloadN X0.here hexec rfl (hb hbytes d1) rfl rfl ?_
    exact Steps.refl _)
  by_cases hxy : x = y
  · have c2 : Steps p.tables e below (s₁.setTop (entryFrame m #[.ref x, .ref y] 3)) (s₁.setTop (mkF m 6 #[.val (.ref x), .val (.ref y), .unset] [.int 1])) := c1.trans (by
      refine acmpNo X0.here hexec rfl (hb hbytes d2) rfl rfl rfl (by simp [acmp, hxy]) ?_
      refine iconstV X0.here hexec rfl 1 (hb hbytes d5) (by decide) ?_
      exact Steps.refl _)
    subst hxy
    have ec : cd = cd' := by
      obtain ⟨D, fd, a1, a2, a3⟩ := hx.2.2.1
      obtain ⟨D', fd', b1, b2, b3⟩ := hy.2.2.1
      cases a1.symm.trans b1
      obtain ⟨q1, q2, q3, q4⟩ := a2.1
      obtain ⟨r1, r2, r3, r4⟩ := b2.1
      cases q4.symm.trans r4
      cases a3.symm.trans b3; rfl
    have et : t = t' := by
      obtain ⟨D, fd, a1, a2, a3⟩ := hx.2.1
      obtain ⟨D', fd', b1, b2, b3⟩ := hy.2.1
      cases a1.symm.trans b1
      obtain ⟨q1, q2, q3, q4⟩ := a2.1
      obtain ⟨r1, r2, r3, r4⟩ := b2.1
      cases q4.symm.trans r4
      cases a3.symm.trans b3; rfl
    subst ec et
    have ev : V = V' := by cases hx.2.2.2.1.1.symm.trans hy.2.2.2.1.1; rfl
    subst ev
    have hs : SameT n f k g := (Cod.eqv hx.2.2.2.2.1 hy.2.2.2.2.1 hx.2.2.2.2.2 hy.2.2.2.2.2).mp ⟨rfl, fun _ _ => rfl⟩
    exact ⟨s₁, some (.int 1), _, _, _, X0, rfl, rfl, rfl, (fun h => by cases h), ⟨1, rfl, hh0, Or.inl ⟨rfl, hs⟩⟩, fun fs hl => c2.trans (X0.ireturnOut hexec hret rfl (Or.inr (Or.inl rfl)) (hb hbytes d6) hl)⟩
  · have c2 : Steps p.tables e below (s₁.setTop (entryFrame m #[.ref x, .ref y] 3)) (s₁.setTop (mkF m 8 #[.val (.ref x), .val (.ref y), .unset] [.ref y])) := c1.trans (by
      refine acmpYes X0.here hexec rfl (pc0 := 2) rfl (hb hbytes d2) rfl rfl rfl (by simp [acmp, hxy]) (by decide) rfl ?_
      refine XS.aloadN X0.here hexec rfl (hb hbytes d7) rfl rfl ?_
      exact Steps.refl _)
    obtain ⟨T3, X3, q3, st3⟩ := cinst X0 hexec hown (wk W (.classLink "java/lang/String" 10 "java/lang/String")) (hy.mv X0.warmed.alike hh0).1 (g := (mkF m 8 #[.val (.ref x), .val (.ref y), .unset] [.ref y])) rfl (rest := []) rfl (hb hbytes d8)
    have hh3 := q3.trans hh0
    have c4 : Steps p.tables e below (s₁.setTop (entryFrame m #[.ref x, .ref y] 3)) (T3.setTop (mkF m 15 #[.val (.ref x), .val (.ref y), .unset] [.ref y])) := (c2.trans (st3 _ (Steps.refl _))).trans (by
      refine XS.ifNo X3.here hexec rfl (hb hbytes d11) rfl (i0_eq_f (by decide)) ?_
      refine XS.aloadN X3.here hexec rfl (hb hbytes d14) rfl rfl ?_
      exact Steps.refl _)
    obtain ⟨T5, X5, q5, st5⟩ := cself X3 hexec hown (wk W (.classLink "java/lang/String" 10 "java/lang/String")) (hy.mv X3.warmed.alike hh3).1 (g := (mkF m 15 #[.val (.ref x), .val (.ref y), .unset] [.ref y])) rfl (rest := []) rfl (hb hbytes d15)
    have hh5 := q5.trans hh3
    have c6 : Steps p.tables e below (s₁.setTop (entryFrame m #[.ref x, .ref y] 3)) (T5.setTop (mkF m 19 #[.val (.ref x), .val (.ref y), .val (.ref y)] [])) := (c4.trans (st5 _ (Steps.refl _))).trans (by
      refine XS.astoreN X5.here hexec rfl (hb hbytes d18) rfl rfl rfl ?_
      exact Steps.refl _)
    obtain ⟨T7, X7, q7, st7⟩ := X5.sget hexec hown (wk W (.fieldLink "java/lang/String" 38 "java/lang/String" "COMPACT_STRINGS" "Z")) s1 (fun _ _ h => by rw [hh5]; exact h) (g := (mkF m 19 #[.val (.ref x), .val (.ref y), .val (.ref y)] [])) rfl (hb hbytes d19)
    have hh7 := q7.trans hh5
    have c8 : Steps p.tables e below (s₁.setTop (entryFrame m #[.ref x, .ref y] 3)) (T7.setTop (mkF m 26 #[.val (.ref x), .val (.ref y), .val (.ref y)] [.ref x])) := (c6.trans (st7 _ (Steps.refl _))).trans (by
      refine XS.ifNo X7.here hexec rfl (hb hbytes d22) rfl (i0_eq_f hz) ?_
      refine XS.aloadN X7.here hexec rfl (hb hbytes d25) rfl rfl ?_
      exact Steps.refl _)
    obtain ⟨T9, X9, q9, st9⟩ := X7.hget hexec hown (wk W (.fieldLink "java/lang/String" 15 "java/lang/String" "coder" "B")) (hx.mv X7.warmed.alike hh7).2.2.1 (g := (mkF m 26 #[.val (.ref x), .val (.ref y), .val (.ref y)] [.ref x])) rfl (rest := []) rfl (hb hbytes d26)
    have hh9 := q9.trans hh7
    have c10 : Steps p.tables e below (s₁.setTop (entryFrame m #[.ref x, .ref y] 3)) (T9.setTop (mkF m 30 #[.val (.ref x), .val (.ref y), .val (.ref y)] [.ref y, .int cd])) := (c8.trans (st9 _ (Steps.refl _))).trans (by
      refine XS.aloadN X9.here hexec rfl (hb hbytes d29) rfl rfl ?_
      exact Steps.refl _)
    obtain ⟨T11, X11, q11, st11⟩ := X9.hget hexec hown (wk W (.fieldLink "java/lang/String" 15 "java/lang/String" "coder" "B")) (hy.mv X9.warmed.alike hh9).2.2.1 (g := (mkF m 30 #[.val (.ref x), .val (.ref y), .val (.ref y)] [.ref y, .int cd])) rfl (rest := [.int cd]) rfl (hb hbytes d30)
    have hh11 := q11.trans hh9
    have c12 : Steps p.tables e below (s₁.setTop (entryFrame m #[.ref x, .ref y] 3)) (T11.setTop (mkF m 33 #[.val (.ref x), .val (.ref y), .val (.ref y)] [.int cd', .int cd])) := c10.trans (st11 _ (Steps.refl _))
    by_cases hcd : cd = cd'
    · subst hcd
      have c13 : Steps p.tables e below (s₁.setTop (entryFrame m #[.ref x, .ref y] 3)) (T11.setTop (mkF m 37 #[.val (.ref x), .val (.ref y), .val (.ref y)] [.ref x])) := c12.trans (by
        refine XS.icmpNo X11.here hexec rfl (hb hbytes d33) rfl (ii_ne_f rfl) ?_
        refine XS.aloadN X11.here hexec rfl (hb hbytes d36) rfl rfl ?_
        exact Steps.refl _)
      obtain ⟨T14, X14, q14, st14⟩ := X11.hget hexec hown (wk W (.fieldLink "java/lang/String" 9 "java/lang/String" "value" "[B")) (hx.mv X11.warmed.alike hh11).2.1 (g := (mkF m 37 #[.val (.ref x), .val (.ref y), .val (.ref y)] [.ref x])) rfl (rest := []) rfl (hb hbytes d37)
      have hh14 := q14.trans hh11
      have c15 : Steps p.tables e below (s₁.setTop (entryFrame m #[.ref x, .ref y] 3)) (T14.setTop (mkF m 41 #[.val (.ref x), .val (.ref y), .val (.ref y)] [.ref y, .ref t])) := (c13.trans (st14 _ (Steps.refl _))).trans (by
        refine XS.aloadN X14.here hexec rfl (hb hbytes d40) rfl rfl ?_
        exact Steps.refl _)
      obtain ⟨T16, X16, q16, st16⟩ := X14.hget hexec hown (wk W (.fieldLink "java/lang/String" 9 "java/lang/String" "value" "[B")) (hy.mv X14.warmed.alike hh14).2.1 (g := (mkF m 41 #[.val (.ref x), .val (.ref y), .val (.ref y)] [.ref y, .ref t])) rfl (rest := [.ref t]) rfl (hb hbytes d41)
      have hh16 := q16.trans hh14
      have c17 : Steps p.tables e below (s₁.setTop (entryFrame m #[.ref x, .ref y] 3)) (T16.setTop (mkF m 44 #[.val (.ref x), .val (.ref y), .val (.ref y)] [.ref t', .ref t])) := c15.trans (st16 _ (Steps.refl _))
      obtain ⟨v18, T18, X18, E18, g18⟩ := X16.callS hexec (LEq.law l t V t' V') hown (wks W (staticW "java/lang/String" 541 LEq.yN)) (wk W LEq.tab) (W := 0) (Nat.le_of_ble_eq_true rfl) (Nat.le_of_ble_eq_true rfl) (Nat.le_refl _) (Nat.le_refl _) (g := (mkF m 44 #[.val (.ref x), .val (.ref y), .val (.ref y)] [.ref t', .ref t])) rfl (by rw [hml]; rfl) c17 (argsL := [.ref t, .ref t']) (rest := []) rfl rfl (by show 2 * 0 + 0 ≤ _; decide) (hb hbytes d44) (⟨rfl, hx.2.2.2.1.mv X16.warmed.alike hh16, hx.2.2.2.2.1.ty, hy.2.2.2.1.mv X16.warmed.alike hh16, hy.2.2.2.2.1.ty⟩)
      obtain ⟨v, rfl, q18, hv⟩ := E18
      have iff := Cod.eqv hx.2.2.2.2.1 hy.2.2.2.2.1 hx.2.2.2.2.2 hy.2.2.2.2.2
      rcases hv with ⟨rfl, he⟩ | ⟨rfl, he⟩
      · have c19 : Steps p.tables e below (s₁.setTop (entryFrame m #[.ref x, .ref y] 3)) (T18.setTop (mkF m 55 #[.val (.ref x), .val (.ref y), .val (.ref y)] [.int 1])) := Steps.trans g18 (by
          refine XS.ifNo X18.here hexec rfl (hb hbytes d47) rfl (i0_eq_f (by decide)) ?_
          refine iconstV X18.here hexec rfl 1 (hb hbytes d50) (by decide) ?_
          refine XS.goto X18.here hexec rfl (pc0 := 51) rfl (hb hbytes d51) (by decide) rfl ?_
          exact Steps.refl _)
        exact ⟨T18, some (.int 1), _, _, _, X18, rfl, rfl, rfl, (fun h => by cases h), ⟨1, rfl, q18.trans hh16, Or.inl ⟨rfl, iff.mp he⟩⟩, fun fs hl => c19.trans (X18.ireturnOut hexec hret rfl (Or.inr (Or.inl rfl)) (hb hbytes d55) hl)⟩
      · have c19 : Steps p.tables e below (s₁.setTop (entryFrame m #[.ref x, .ref y] 3)) (T18.setTop (mkF m 55 #[.val (.ref x), .val (.ref y), .val (.ref y)] [.int 0])) := Steps.trans g18 (by
          refine XS.ifYes X18.here hexec rfl (pc0 := 47) rfl (hb hbytes d47) rfl (i0_eq_t rfl) (by decide) rfl ?_
          refine iconstV X18.here hexec rfl 0 (hb hbytes d54) (by decide) ?_
          exact Steps.refl _)
        exact ⟨T18, some (.int 0), _, _, _, X18, rfl, rfl, rfl, (fun h => by cases h), ⟨0, rfl, q18.trans hh16, Or.inr ⟨rfl, fun q => he (iff.mpr q)⟩⟩, fun fs hl => c19.trans (X18.ireturnOut hexec hret rfl (Or.inr (Or.inl rfl)) (hb hbytes d55) hl)⟩
    · have c13 : Steps p.tables e below (s₁.setTop (entryFrame m #[.ref x, .ref y] 3)) (T11.setTop (mkF m 55 #[.val (.ref x), .val (.ref y), .val (.ref y)] [.int 0])) := c12.trans (by
        refine XS.icmpYes X11.here hexec rfl (pc0 := 33) rfl (hb hbytes d33) rfl (ii_ne_t hcd) (by decide) rfl ?_
        refine iconstV X11.here hexec rfl 0 (hb hbytes d54) (by decide) ?_
        exact Steps.refl _)
      exact ⟨T11, some (.int 0), _, _, _, X11, rfl, rfl, rfl, (fun h => by cases h), ⟨0, rfl, hh11, Or.inr ⟨rfl, Cod.dif hx.2.2.2.2.1 hy.2.2.2.2.1 hcd⟩⟩, fun fs hl => c13.trans (X11.ireturnOut hexec hret rfl (Or.inr (Or.inl rfl)) (hb hbytes d55) hl)⟩
theorem pays {l : Launch} {R : Room} {p : Program} {e : Env} {below : List Frame} {s : State} {sargs : Array Value} {len W : Nat} (x t : Addr) (V : Cell) (cd : Int32) (n : Nat) (f : Nat → Int32) (y t' : Addr) (V' : Cell) (cd' : Int32) (k : Nat) (g : Nat → Int32) (z : Int32) (htab : tab.before sargs s = true) (hfr : 2 ≤ R.frames) (hlo : W + 28 ≤ R.locals) :
    Back l R p e below s sargs yN len W (fun A₁ a₁ => A₁.cells + 0 ≤ R.cells ∧ A₁.slots + 0 ≤ R.slots ∧ P x t V cd n f y t' V' cd' k g z a₁ A₁.U) (fun A₁ _ v₁ B₁ => Says01 (SameT n f k g) v₁ A₁.U B₁.U ∧ B₁.locs = A₁.locs ++ [] ∧ B₁.cells = A₁.cells + 0 ∧ B₁.slots = A₁.slots + 0) :=
  (law l x t V cd n f y t' V' cd' k g z).pays htab hfr (by omega)
end SEq
end StrChars
namespace StrChars.Road
open Jvm Sem ClassFile Op Lib Jvm.Stand Jvm.Free Jvm.Free.XT
open Jvm.Lib.Cold (StaticIs)
/-- the words of String.equals(Object) -/
abbrev wordsEq : List Jvm.Cond := [.code SEq.yN SEq.yB 3 (some .boolean), .initialized ST, .classLink ST 10 ST, .fieldLink ST 38 ST "COMPACT_STRINGS" "Z", .fieldLink ST 15 ST "coder" "B", .fieldLink ST 9 ST "value" "[B", .methodLink ST 541 LEq.yN, .static LEq.yN, .code LEq.yN LEq.yB 3 (some .boolean), .initialized "java/lang/StringLatin1"]
theorem tabEq_of {a : Array Value} {s : State} (h : ∀ w ∈ wordsEq, w.before a s = true) : SEq.tab.before a s = true := by
  have hl : LEq.tab.before a s = true := unparts (wk h (.code LEq.yN LEq.yB 3 (some .boolean))) (wks h (.initialized LEq.yN.cls :: LEq.site))
  have q := consq hl h
  exact unparts (wk q (.code SEq.yN SEq.yB 3 (some .boolean))) (wks q (.initialized SEq.yN.cls :: SEq.site))
theorem movedEq {Z s : State} {a0 args : Array Value} (hZ : Z.Warmed39 s.vm) (hw : ∀ d ∈ wordsEq, d.before a0 Z = true) : ∀ d ∈ wordsEq, d.before args s = true := fun d hd => by
  have t : ∀ d ∈ wordsEq, (d.onTables && d.keepsFace) = true := by decide +kernel
  exact RoadKit.mv hZ (hw d hd) (t d hd)
/-- the road's facts of a String, as the laws ask it -/
theorem txt_of {Z U : State} {a0 : Array Value} {kI : Nat} (wi : (Jvm.Cond.instantiable ST kI).before a0 Z = true) (al : Z.vm.Alike U.vm) {x t : Addr} {kb : ClassId} {cs : List Int32} {cd N2 : Int32} {vs : List Value} (E : RoadKit.Exa Z U.heap x ST) (V : RoadKit.Fld Z U.heap x ST "value" "[B" (.ref t)) (C : RoadKit.Fld Z U.heap x ST "coder" "B" (.int cd)) (K : RoadKit.Arv Z U.heap t kb .byte N2 vs (.int 0)) (hc : CodA cs cd N2 vs) (hb : ∀ c ∈ cs, ¬ c < 0 ∧ ¬ (65535 : Int32) < c) (l2 : cs.length ≤ 4000) :
    ∃ A, Txt x t A cd cs.length (fun j => cs.getD j 0) U := by
  obtain ⟨A, K1, K2, K3, K4, K5, K6⟩ := K
  have hcod := hc.cod (by omega) K3 K5
  obtain ⟨D, fV, fC, hB, F1, F2, g1, g2, -, -⟩ := strObj wi al E V C
  exact ⟨A, ⟨_, hB.2.2.1, D, hB.1, rfl, by cases q : D.vm <;> first | rfl | exact absurd q (hB.2.1.2 _)⟩, Has.of hB F1 g1, Has.of hB F2 g2, ⟨K1.1, State.isArrayOf_alike al K1.2.1, K1.2.2, by rcases hcod with ⟨-, q, -⟩ | ⟨-, q, -⟩ <;> omega⟩, hcod, fun j hj => by
    have e : cs.getD j 0 = cs[j] := by simp [List.getD_eq_getElem?_getD, hj]
    show ¬ cs.getD j 0 < 0 ∧ ¬ 65535 < cs.getD j 0
    rw [e]; exact hb _ (List.getElem_mem _)⟩
theorem same_list (cs ds : List Int32) : SameT cs.length (fun j => cs.getD j 0) ds.length (fun j => ds.getD j 0) ↔ cs = ds := by
  constructor
  · rintro ⟨e, q⟩
    refine List.ext_getElem e fun j h1 h2 => ?_
    have := q j h1
    simpa [List.getD_eq_getElem?_getD, h1, h2] using this
  · rintro rfl
    exact ⟨rfl, fun _ _ => rfl⟩
/-- **equals(Object) OF TWO SUCH STRINGS**: 1 just where the chars are the same -/
theorem eqW {p : Program} {l : Launch} {e : Env} {R : Room} {s : State} {args : Array Value} {below : List Frame} {len W : Nat} {Z : State} {a0 : Array Value} {h : Heap} (hZ : Z.Warmed39 s.vm) (hw : ∀ d ∈ wordsEq, d.before a0 Z = true) {kI : Nat} (wi : (Jvm.Cond.instantiable ST kI).before a0 Z = true)
    {x t : Addr} {kb : ClassId} {cs : List Int32} {cd N2 : Int32} {vs : List Value} (E : RoadKit.Exa Z h x ST) (V : RoadKit.Fld Z h x ST "value" "[B" (.ref t)) (C : RoadKit.Fld Z h x ST "coder" "B" (.int cd)) (K : RoadKit.Arv Z h t kb .byte N2 vs (.int 0)) (hc : CodA cs cd N2 vs) (hb : ∀ c ∈ cs, ¬ c < 0 ∧ ¬ (65535 : Int32) < c) (l2 : cs.length ≤ 4000)
    {y t' : Addr} {kb' : ClassId} {ds : List Int32} {cd' N2' : Int32} {vs' : List Value} (E' : RoadKit.Exa Z h y ST) (V' : RoadKit.Fld Z h y ST "value" "[B" (.ref t')) (C' : RoadKit.Fld Z h y ST "coder" "B" (.int cd')) (K' : RoadKit.Arv Z h t' kb' .byte N2' vs' (.int 0)) (hc' : CodA ds cd' N2' vs') (hb' : ∀ c ∈ ds, ¬ c < 0 ∧ ¬ (65535 : Int32) < c) (l2' : ds.length ≤ 4000)
    {z : Int32} (S : RoadKit.Sta Z h ST "COMPACT_STRINGS" "Z" (.int z)) (hz : ¬ z = 0) (hfr : 2 ≤ R.frames) (hlo : W + 28 ≤ R.locals) :
    Back l R p e below s args (⟨"java/lang/String", "equals", "(Ljava/lang/Object;)Z"⟩ : MethodName) len W (fun P a => a = #[.ref x, .ref y] ∧ P.U.heap = h ∧ P.cells + 0 ≤ R.cells ∧ P.slots + 0 ≤ R.slots)
      (fun P _ v B => ∃ L, (((v = some (.int 1) ∧ cs = ds) ∨ (v = some (.int 0) ∧ ¬ cs = ds)) ∧ L = [] ∧ B.U.heap = h) ∧ B.locs = P.locs ++ L ∧ B.cells = P.cells + 0 ∧ B.slots = P.slots + 0) := by
  intro m meth c P g ig mk a X hg hsize hdg hW hn hp'
  obtain ⟨rfl, rfl, r1, r2⟩ := hp'
  have al : Z.vm.Alike P.U.vm := hZ.alike.trans X.warmed.alike
  obtain ⟨A, hx⟩ := txt_of wi al E V C K hc hb l2
  obtain ⟨A', hy⟩ := txt_of wi al E' V' C' K' hc' hb' l2'
  obtain ⟨v, B, X', ⟨⟨w, hv, hh, hq⟩, hl, hk, hs⟩, st⟩ := SEq.pays x t A cd cs.length (fun j => cs.getD j 0) y t' A' cd' ds.length (fun j => ds.getD j 0) z (tabEq_of (movedEq hZ hw)) hfr hlo m meth c P g ig mk _ X hg hsize hdg hW hn ⟨r1, r2, rfl, hx, hy, sta_is al S, hz⟩
  refine ⟨v, B, X', ⟨[], ⟨?_, rfl, hh⟩, hl, hk, hs⟩, st⟩
  rcases hq with ⟨rfl, q⟩ | ⟨rfl, q⟩
  · exact Or.inl ⟨hv, (same_list cs ds).mp q⟩
  · exact Or.inr ⟨hv, fun e => q ((same_list cs ds).mpr e)⟩
end StrChars.Road
namespace StrChars.Road
open Jvm Sem ClassFile Op Lib Jvm.Stand Jvm.Free Jvm.Free.XT
open Jvm.Lib.Cold (StaticIs)
/-- what backV says of its String, as the contracts of this text ask it: cs's low bytes, coder 0 -/
theorem codOf {cs : List Int32} {n : Nat} (hn : cs.length = n) (hb : ∀ c ∈ cs, ¬ 255 < c) : CodA cs 0 (Int32.ofNat n) ((cs.map lo8).map Value.int) := Or.inl ⟨rfl, by rw [hn], by simp [List.map_map, Function.comp_def], hb⟩
end StrChars.Road
end Jvm.Pilot.@@N@@
namespace Jvm.Pilot.@@N@@
open Jvm Jvm.ClassFile Sem Op Lib Jvm.Free Jvm.Stand Jvm.LawKit Jvm.RoadKit Bundle Jvm.Pilot.@@N@@.Jvm.D
theorem own_noface {a b : Bool} (h : (a || b) = false) : a = false := by
  cases a
  · rfl
  · cases h
/-- who comes to t from this place of the method comes to t from G -/
abbrev Kt (p : Program) (e : Env) (below : List Frame) (m : MethodId) (G T : State) (pc : Nat) (Ls : Array Slot) (st : List Value) : Prop :=
  ∀ t, Steps p.tables e below (T.setTop (mkF m pc Ls st)) t → Steps p.tables e below G t
/-- a callee that may intern and keeps the invariant, with cells that are asked to be safe -/
theorem own_backH {p : Program} {l : Launch} {e : Env} {R : Room} {s : State} {args : Array Value} {below : List Frame} {Z : State} {a0 : Array Value} {EL : List (String × Nat)} {h : Heap} {vm0 : Vm} {y : MethodName} {bytes : ByteArray} {maxL : Nat} {ret : Option FieldType} {rm : Room} {len W : Nat} {as' : Array Value} {Q : Option Value → Heap → List Loc → Prop} {ws : List Addr}
    (hM : MetFree l y (head1 [Jvm.Cond.code y bytes maxL ret] rm) (fun a U => a = as' ∧ Z.Warmed39 U.vm ∧ U.heap = h ∧ CHv Z EL U.vm h ∧ ∀ x ∈ ws, Safe Z EL U.vm h x) (fun _ _ _ _ _ => True) (fun _ U o U' => ∃ v L, o = .returned v ∧ Q v U'.heap L ∧ CHr Z EL U.vm U.heap U'.vm U'.heap ∧ ReturnedEndW U o U' L rm.cells rm.slots))
    (hZ : Z.Warmed39 vm0) (wc : (Jvm.Cond.code y bytes maxL ret).before a0 Z = true) (wz : (Jvm.Cond.initialized y.cls).before a0 Z = true) (hf : rm.frames + 1 ≤ R.frames) (hl : W + (maxL + 11) + rm.locals ≤ R.locals) (hEL : EW Z a0 EL) (H : CHv Z EL vm0 h) (hs : ∀ x ∈ ws, x < h.size ∧ Safe Z EL vm0 h x) :
    BackS l R p e below (s.setVm vm0) args y len W (fun A a => a = as' ∧ A.U.heap = h ∧ A.cells + rm.cells ≤ R.cells ∧ A.slots + rm.slots ≤ R.slots)
      (fun A _ v B => ∃ L, Q v B.U.heap L ∧ B.locs = A.locs ++ L ∧ B.cells = A.cells + rm.cells ∧ B.slots = A.slots + rm.slots ∧ CHr Z EL vm0 h B.U.vm B.U.heap) := by
  have there : ∀ (m : MethodId) (meth : Method) (c : Code) (A : Pt), Stand p l e R (s.setVm vm0) m args below meth c A.U A.locs A.cells A.slots → CHr Z EL vm0 h A.U.vm h := fun _ _ _ _ Y => CHv.at Y hZ hEL H
  have warm : ∀ (m : MethodId) (meth : Method) (c : Code) (A : Pt), Stand p l e R (s.setVm vm0) m args below meth c A.U A.locs A.cells A.slots → Z.Warmed39 A.U.vm := fun _ _ _ _ Y => wtrans (s := s.setVm vm0) hZ Y.warmed
  refine BackS.of_freeW (bytes := bytes) (maxL := maxL) (ret := ret) (E := fun _ first o t L k n => (k = rm.cells ∧ n = rm.slots) ∧ (∃ v, o = .returned v ∧ Q v t.heap L) ∧ CHr Z EL first.vm first.heap t.vm t.heap) hM hf hl ?_ ?_ (fun _ _ _ _ _ _ _ _ _ => trivial) ?_ ?_
  · intro m meth c A a Y hp
    have hU := warm m meth c A Y
    refine ⟨?_, mv hU wc, mv hU wz, hp.2.2⟩
    show (Jvm.Cond.and _ .tt).before a A.U = true
    rw [Cond.before_and, mv hU wc]
    rfl
  · intro m meth c A a g mk Y hp
    exact ⟨hp.1, warm m meth c A Y, hp.2.1, (there m meth c A Y).1, fun x hx => (there m meth c A Y).safe (hs x hx).1 (hs x hx).2⟩
  · intro a first o t hq
    obtain ⟨v, L, q1, q2, q3, q4⟩ := hq
    exact ⟨L, _, _, q4, ⟨rfl, rfl⟩, ⟨v, q1, q2⟩, q3⟩
  · intro m meth c A a g mk v t L k n Y hp _ _ hE
    obtain ⟨⟨rfl, rfl⟩, ⟨v', e3, e4⟩, e5⟩ := hE
    cases e3
    refine ⟨L, e4, rfl, rfl, rfl, (there m meth c A Y).trans ?_⟩
    rw [← hp.2.1]
    exact e5
def own_ns : List Int32 := [104, 116, 116, 112, 58, 47, 47, 119, 119, 119, 46, 119, 51, 46, 111, 114, 103, 47, 50, 48, 48, 48, 47, 48, 57, 47, 120, 109, 108, 100, 115, 105, 103, 35]
def own_nt : List Int32 := [104, 116, 116, 112, 58, 47, 47, 119, 119, 119, 46, 119, 51, 46, 111, 114, 103, 47, 50, 48, 48, 48, 47, 48, 57, 47, 120, 109, 108, 100, 115, 105, 103]
def own_ln : List Int32 := [83, 105, 103, 110, 97, 116, 117, 114, 101]
def own_lt2 : List Int32 := [100, 115, 58, 83, 105, 103, 110, 97, 116, 117, 114, 101]
def own_lt3 : List Int32 := [83, 105, 103, 110, 97, 116, 117, 114]
def own_em : List Int32 := []
/-! plain facts -/
def own_b (P : Prop) [Decidable P] : Int32 := if P then 1 else 0
theorem own_b1 {P : Prop} [Decidable P] (h : P) : (1 : Int32) = own_b P := (if_pos h).symm
theorem own_b0 {P : Prop} [Decidable P] (h : ¬ P) : (0 : Int32) = own_b P := (if_neg h).symm
theorem own_bz {P : Prop} [Decidable P] : own_b P = 0 ↔ ¬ P := by
  unfold own_b
  by_cases h : P <;> simp [h]
theorem own_bn {P Q : Prop} [Decidable P] [Decidable Q] (h : P ↔ Q) : own_b P = own_b Q := by
  unfold own_b
  by_cases h1 : P
  · rw [if_pos h1, if_pos (h.mp h1)]
  · rw [if_neg h1, if_neg (fun q => h1 (h.mpr q))]
theorem own_eq2 {v : Option Value} {P : Prop} [Decidable P] (h : (v = some (.int 1) ∧ P) ∨ (v = some (.int 0) ∧ ¬ P)) : v = some (.int (own_b P)) := by
  rcases h with ⟨rfl, h⟩ | ⟨rfl, h⟩
  · rw [← own_b1 h]
  · rw [← own_b0 h]
abbrev own_by (cs : List Int32) : List Value := (cs.map (fun c => c.toInt8.toInt32)).map Value.int
abbrev own_r (c : Int32) : Prop := ¬ c < 0 ∧ ¬ (255 : Int32) < c
theorem own_lt {a b : Int32} : a < b ↔ a.toInt < b.toInt := Int32.lt_iff_toInt_lt
theorem own_0 : (0 : Int32).toInt = 0 := by decide
theorem own_9 : (9 : Int32).toInt = 9 := by decide
theorem own_34 : (34 : Int32).toInt = 34 := by decide
theorem own_255 : (255 : Int32).toInt = 255 := by decide
theorem own_65535 : (65535 : Int32).toInt = 65535 := by decide
theorem own_up {cs : List Int32} (h : ∀ c ∈ cs, own_r c) : ∀ c ∈ cs, ¬ c < 0 ∧ ¬ (65535 : Int32) < c := by
  intro c hc
  have q := h c hc
  simp only [own_r, own_lt, own_0, own_255, own_65535] at q ⊢
  omega
theorem own_nar {c : Int32} (h : own_r c) : nar .char c = c := by
  show c.toUInt32.toUInt16.toUInt32.toInt32 = c
  have q := c_i2c c
  apply Int32.toInt_inj.mp
  simp only [own_r, own_lt, own_0, own_255] at h
  omega
theorem own_m (x : Int32) : own_r (x &&& (255 : Int32)).toUInt32.toUInt16.toUInt32.toInt32 := by
  rw [i2c_mask]
  have h := c_mask x 255 8 (by decide) (by decide)
  simp only [own_r, own_lt, own_0, own_255]
  omega
theorem own_mod34 (x : Int32) : ¬ ((x &&& (2147483647 : Int32)) % (34 : Int32)) < 0 ∧ ((x &&& (2147483647 : Int32)) % (34 : Int32)) < (34 : Int32) := by
  have h := c_mask x 2147483647 31 (by decide) (by decide)
  have q := (c_irem (x &&& (2147483647 : Int32)) 34 34 (by decide)).1 (by omega)
  rw [own_lt, own_lt, own_0, own_34]
  omega
theorem own_mod9 (x : Int32) : ¬ ((x &&& (2147483647 : Int32)) % (9 : Int32)) < 0 ∧ ((x &&& (2147483647 : Int32)) % (9 : Int32)) < (9 : Int32) := by
  have h := c_mask x 2147483647 31 (by decide) (by decide)
  have q := (c_irem (x &&& (2147483647 : Int32)) 9 9 (by decide)).1 (by omega)
  rw [own_lt, own_lt, own_0, own_9]
  omega
theorem own_nat {j n : Int32} {k : Nat} (h : ¬ j < 0 ∧ j < n) (hn : n.toInt = k) : j.toNatClampNeg < k := by
  rw [own_lt, own_lt, own_0, hn] at h
  have q : j.toNatClampNeg = j.toInt.toNat := rfl
  omega
theorem own_get (cs : List Int32) (i : Nat) : (cs.map Value.int).getD i (.int (0 : Int32)) = .int (cs.getD i 0) := by
  simp [List.getD_eq_getElem?_getD, List.getElem?_map]
theorem own_set (cs : List Int32) (i : Nat) (c : Int32) : (cs.map Value.int).set i (.int c) = (cs.set i c).map Value.int := by
  rw [List.map_set]
theorem own_setr {cs : List Int32} {i : Nat} {c : Int32} (h : ∀ d ∈ cs, own_r d) (hc : own_r c) : ∀ d ∈ cs.set i c, own_r d := by
  intro d hd
  rcases List.mem_or_eq_of_mem_set hd with q | q
  · exact h d q
  · subst q; exact hc
theorem own_sete {cs : List Int32} {i : Nat} {c : Int32} (hi : i < cs.length) : (cs = cs.set i c) ↔ (cs.getD i 0 = c) := by
  have e : cs.getD i 0 = cs[i] := by simp [List.getD_eq_getElem?_getD, hi]
  rw [e]
  constructor
  · intro h
    have q : (cs.set i c)[i]'(by simpa using hi) = c := by simp
    have z := congrArg (fun l => l[i]?) h
    simp [hi] at z
    exact z
  · intro h
    subst h
    simp
theorem own_cod {cs : List Int32} (h : ∀ c ∈ cs, own_r c) : StrChars.Road.CodA cs 0 (Int32.ofNat cs.length) (own_by cs) := StrChars.Road.codOf rfl (fun c hc => (h c hc).2)
theorem own_rr {cs : List Int32} (h : cs.all (fun c => decide (own_r c)) = true) : ∀ c ∈ cs, own_r c := fun c hc => of_decide_eq_true (List.all_eq_true.mp h c hc)
def own_fill (cs : List Int32) (n i : Nat) : List Value := (cs.take i ++ List.replicate (n - i) 0).map Value.int
theorem own_fill0 (cs : List Int32) (n : Nat) : own_fill cs n 0 = [] ++ List.replicate n (.int (0 : Int32)) := by
  simp [own_fill]
theorem own_fillN {cs : List Int32} {n : Nat} (h : cs.length = n) : own_fill cs n n = cs.map Value.int := by
  subst h
  simp [own_fill]
theorem own_fillS {cs : List Int32} {n i : Nat} {c : Int32} (h : cs[i]? = some c) (hi : i < n) : (own_fill cs n i).set i (.int c) = own_fill cs n (i + 1) := by
  unfold own_fill
  have hl : i < cs.length := (List.getElem?_eq_some_iff.mp h).1
  have hn : n - i = (n - (i + 1)) + 1 := by omega
  have ht : (cs.take i).length = i := by rw [List.length_take]; omega
  rw [← List.map_set, hn, List.replicate_succ, List.set_append_right _ _ (by omega), ht, Nat.sub_self, List.take_succ, h]
  simp
theorem own_fs {p : Program} {l : Launch} {e : Env} {R : Room} {s : State} {m : MethodId} {args : Array Value} {below : List Frame} {meth : Method} {c : Code} {T : State} {locs : List Loc} {cells slots : Nat} {Z : State} {h : Heap} {a : Addr} {k : ClassId} {z : Int32} {cs : List Int32} {n i n0 : Nat} (X : Stand p l e R s m args below meth c T locs cells slots) (hx : p.tables.exec = Jvm.exec) (hZ : Z.Warmed39 s.vm) (eT : T.heap = h) (A : Arv Z h a k .char z (own_fill cs n i) (.int (0 : Int32))) (N : Fr n0 locs) (ga : n0 ≤ a) {j x : Int32} (hj : j.toNatClampNeg = i) (hz : ¬ j < 0 ∧ j < z) (hc : cs[i]? = some x) (hr : nar .char x = x) (hi : i < n) {g : JFrame} (hg : g.method = m) {rest : List Value} (hs : g.stack = .int x :: .int j :: .ref a :: rest) (hd : decode c.code g.pc = .ok (.castore, 1)) :
    ∃ T' h' locs' sl v, Stand p l e R s m args below meth c T' locs' cells slots ∧ T'.heap = h' ∧ Fr n0 locs' ∧ Wr h h' a sl v ∧ Arv Z h' a k .char z (own_fill cs n (i + 1)) (.int (0 : Int32)) ∧ ∀ target, Steps p.tables e below (T'.setTop { g with pc := g.pc + 1, stack := rest }) target → Steps p.tables e below (T.setTop g) target := by
  obtain ⟨cl, Ar, qc, Sz, Nn, Hh, Gg⟩ := A
  obtain ⟨T', h', X', e', W, st⟩ := stC X hx hZ eT Ar (inb_of Sz hz) hg hs hd
  have hn : i < (own_fill cs n i).length := by
    have hl : i < cs.length := (List.getElem?_eq_some_iff.mp hc).1
    simp only [own_fill, List.length_map, List.length_append, List.length_take, List.length_replicate]
    omega
  have q := Arv.set Ar qc Sz Nn Hh Gg (fits_nar_char x) W i hj hn
  rw [hr, own_fillS hc hi] at q
  exact ⟨T', h', _, _, _, X', e', Fr.snoc X' N ga, W, q, st⟩
theorem own_nea {Z : State} {a0 : Array Value} {h : Heap} {a : Addr} {n : Nat} {k : ClassId} {ty : FieldType} {z : Int32} {vs : List Value} {d : Value} (E : Exa Z h a "java/lang/String") (wi : (Jvm.Cond.instantiable "java/lang/String" n).before a0 Z = true) (A : Arv Z h a k ty z vs d) : False := by
  obtain ⟨c, A, -⟩ := A
  exact ne_arr E wi A rfl
theorem own_neb {Z : State} {h : Heap} {a : Addr} {k k' : ClassId} {z z' : Int32} {vs vs' : List Value} {d d' : Value} (A : Arv Z h a k .byte z vs d) (B : Arv Z h a k' .char z' vs' d') : False := by
  obtain ⟨c, A, -⟩ := A
  obtain ⟨c', B, -⟩ := B
  cases A.1.symm.trans B.1
  obtain ⟨-, k1, h1, c1, h2⟩ := A.2.1
  obtain ⟨-, k2, g1, c2, g2⟩ := B.2.1
  cases h1.symm.trans g1
  rw [h2] at g2
  cases g2
theorem own_b8 (c : Int32) : c.toInt8.toInt32.toInt8.toInt32 = c.toInt8.toInt32 := by
  apply Int32.toInt_inj.mp
  have a := c_i2b c
  have b := c_i2b c.toInt8.toInt32
  omega
theorem own_ns_r : ∀ c ∈ own_ns, own_r c := own_rr (by decide +kernel)
theorem own_nt_r : ∀ c ∈ own_nt, own_r c := own_rr (by decide +kernel)
theorem own_ln_r : ∀ c ∈ own_ln, own_r c := own_rr (by decide +kernel)
theorem own_lt2_r : ∀ c ∈ own_lt2, own_r c := own_rr (by decide +kernel)
theorem own_lt3_r : ∀ c ∈ own_lt3, own_r c := own_rr (by decide +kernel)
theorem own_em_r : ∀ c ∈ own_em, own_r c := own_rr (by decide +kernel)
theorem d11_0 : decode jdk_43_method_3_code 0 = .ok (.iload_n 0, 1) := by decide +kernel
theorem d11_1 : decode jdk_43_method_3_code 1 = .ok (.sipush 255, 3) := by decide +kernel
theorem d11_4 : decode jdk_43_method_3_code 4 = .ok (.if_icmp .gt 7, 3) := by decide +kernel
theorem d11_7 : decode jdk_43_method_3_code 7 = .ok (.iconst 1, 1) := by decide +kernel
theorem d11_8 : decode jdk_43_method_3_code 8 = .ok (.goto 4, 3) := by decide +kernel
theorem d11_11 : decode jdk_43_method_3_code 11 = .ok (.iconst 0, 1) := by decide +kernel
theorem d11_12 : decode jdk_43_method_3_code 12 = .ok (.ireturn, 1) := by decide +kernel
theorem pn11 : plainName "java/lang/StringLatin1" = true := by first | (simp [plainName, overriddenIn]; done) | decide +kernel
theorem pd_0 : parseMethodDescriptor "()V" = some ⟨[], none⟩ := by decide +kernel
theorem pd_1 : parseMethodDescriptor "(C)Ljava/lang/String;" = some ⟨[.char], some (.object "java/lang/String")⟩ := by decide +kernel
theorem pd_2 : parseMethodDescriptor "(C)Z" = some ⟨[.char], some .boolean⟩ := by decide +kernel
theorem pd_3 : parseMethodDescriptor "(C)[B" = some ⟨[.char], some (.array .byte)⟩ := by decide +kernel
theorem pd_4 : parseMethodDescriptor "(Ljava/lang/Object;)Z" = some ⟨[(.object "java/lang/Object")], some .boolean⟩ := by decide +kernel
theorem pd_5 : parseMethodDescriptor "(Ljava/lang/String;Ljava/lang/String;)Z" = some ⟨[(.object "java/lang/String"), (.object "java/lang/String")], some .boolean⟩ := by decide +kernel
theorem pd_6 : parseMethodDescriptor "([BB)V" = some ⟨[(.array .byte), .byte], none⟩ := by decide +kernel
theorem pd_7 : parseMethodDescriptor "([BI)B" = some ⟨[(.array .byte), .int], some .byte⟩ := by decide +kernel
theorem pd_8 : parseMethodDescriptor "([B[B)Z" = some ⟨[(.array .byte), (.array .byte)], some .boolean⟩ := by decide +kernel
theorem pd_9 : parseMethodDescriptor "([C)V" = some ⟨[(.array .char)], none⟩ := by decide +kernel
theorem pd_10 : parseMethodDescriptor "([CII)[B" = some ⟨[(.array .char), .int, .int], some (.array .byte)⟩ := by decide +kernel
theorem pd_11 : parseMethodDescriptor "([CIILjava/lang/Void;)V" = some ⟨[(.array .char), .int, .int, (.object "java/lang/Void")], none⟩ := by decide +kernel
theorem pd_12 : parseMethodDescriptor "([CI[BII)I" = some ⟨[(.array .char), .int, (.array .byte), .int, .int], some .int⟩ := by decide +kernel
theorem ef11 (m : MethodId) (p1 : Int32) : entryFrame m #[(.int p1)] 1 = mkF m 0 #[.val (.int p1)] [] := by first | (simp [entryFrame, mkF, argsToLocals, Value.category]; done) | rfl
def Q11 (Z : State) (p1 : Int32) (h0 : Heap) (n0 : Nat) (v : Option Value) (h : Heap) (L : List Loc) : Prop := v = some (.int 1) ∧ Fr n0 L ∧ h = h0
set_option maxRecDepth 65536 in
set_option maxHeartbeats 40000000 in
theorem rm11 (l : Launch) (Z : State) (a0 : Array Value) (hw : ∀ d ∈ tables_1, d.before a0 Z = true) (ws : List Jvm.Cond) (p1 : Int32) (h0 : Heap) (n0 : Nat) (Z0 : n0 ≤ h0.size) (hp : ¬ (255 : Int32) < p1) :
    MetFree l (⟨"java/lang/StringLatin1", "canEncode", "(C)Z"⟩ : MethodName) (head1 (Jvm.Cond.code (⟨"java/lang/StringLatin1", "canEncode", "(C)Z"⟩ : MethodName) jdk_43_method_3_code 1 (some .boolean) :: ws) ({ frames := 0, cells := 0, slots := 0, locals := 0 } : Room)) (fun gs' U => gs' = #[(.int p1)] ∧ Z.Warmed39 U.vm ∧ U.heap = h0) (fun _ _ _ _ _ => True) (fun _ U o U' => ∃ v L, o = .returned v ∧ Q11 Z p1 h0 n0 v U'.heap L ∧ FrameEnd U o U' L ({ frames := 0, cells := 0, slots := 0, locals := 0 } : Room).cells ({ frames := 0, cells := 0, slots := 0, locals := 0 } : Room).slots) := by
  refine MetFree.of_bodySF (plainFor_of_name pn11) hisR ?_
  intro p e s m args below meth c s₁ Bd hml0 hP hK
  obtain ⟨rfl, hZ, hh⟩ := hP
  have hx := Bd.exec
  have hby := Bd.bytes
  have hml : c.maxLocals = 1 := hml0
  have hown : s.vm.findClass "java/lang/StringLatin1" = some m.cls := findClass_of_methodNamed Bd.named
  have hnm := (name_of_methodNamed Bd.named Bd.method).1
  have X0 : Stand p l e ({ frames := 0, cells := 0, slots := 0, locals := 0 } : Room) s m #[(.int p1)] below meth c s₁ [] 0 0 := Stand.of_body Bd
  have e0 : s₁.heap = h0 := by rw [← hh, Bd.state]; rfl
  have N0 := Fr.nil n0
  have k0 : Kt p e below m (s₁.setTop (entryFrame m #[(.int p1)] 1)) s₁ 0 #[.val (.int p1)] [] := fun t ht => castTop (ef11 m p1) ht
  have k1 : Kt p e below m (s₁.setTop (entryFrame m #[(.int p1)] 1)) s₁ 12 #[.val (.int p1)] [(.int (1 : Int32))] := by
    intro t ht
    refine k0 t ?_
    show Steps p.tables e below (s₁.setTop (mkF m 0 #[.val (.int p1)] [])) t
    refine XS.iloadN X0.here hx rfl (hb hby d11_0) rfl ?_
    show Steps p.tables e below (s₁.setTop (mkF m 1 #[.val (.int p1)] [(.int p1)])) t
    refine XS.sipush X0.here hx rfl (hb hby d11_1) ?_
    show Steps p.tables e below (s₁.setTop (mkF m 4 #[.val (.int p1)] [(.int (255 : Int32)), (.int p1)])) t
    refine XS.icmpNo X0.here hx rfl (hb hby d11_4) rfl (flt hp).2.2.1 ?_
    show Steps p.tables e below (s₁.setTop (mkF m 7 #[.val (.int p1)] [])) t
    refine XS.iconst X0.here hx rfl (hb hby d11_7) ?_
    show Steps p.tables e below (s₁.setTop (mkF m 8 #[.val (.int p1)] [(.int (1 : Int32))])) t
    refine XS.goto X0.here hx rfl (pc0 := 8) (pc' := 12) rfl (hb hby d11_8) (by decide) (by decide) ?_
    exact ht
  obtain ⟨fs, hr, hrun, hended, hW, hsame⟩ := X0.leave (v := some (.int (1 : Int32))) (fun h => by rw [Bd.returns] at h; cases h)
  refine ⟨_, _, k1 _ ?_, hrun, hended, _, _, rfl, ?_, ⟨_, rfl⟩, hW, hsame.mono (by decide) (by decide)⟩
  · exact retN X0 hx (t := .boolean) Bd.returns (by simp) (hb hby d11_12) hr
  · show Q11 Z p1 h0 n0 _ s₁.heap _
    rw [e0]
    exact ⟨rfl, N0, rfl⟩
theorem d12_0 : decode jdk_43_method_46_code 0 = .ok (.iconst 1, 1) := by decide +kernel
theorem d12_1 : decode jdk_43_method_46_code 1 = .ok (.newarray .byte, 2) := by decide +kernel
theorem d12_3 : decode jdk_43_method_46_code 3 = .ok (.dup, 1) := by decide +kernel
theorem d12_4 : decode jdk_43_method_46_code 4 = .ok (.iconst 0, 1) := by decide +kernel
theorem d12_5 : decode jdk_43_method_46_code 5 = .ok (.iload_n 0, 1) := by decide +kernel
theorem d12_6 : decode jdk_43_method_46_code 6 = .ok (.i2b, 1) := by decide +kernel
theorem d12_7 : decode jdk_43_method_46_code 7 = .ok (.bastore, 1) := by decide +kernel
theorem d12_8 : decode jdk_43_method_46_code 8 = .ok (.areturn, 1) := by decide +kernel
theorem pn12 : plainName "java/lang/StringLatin1" = true := by first | (simp [plainName, overriddenIn]; done) | decide +kernel
theorem ef12 (m : MethodId) (p1 : Int32) : entryFrame m #[(.int p1)] 1 = mkF m 0 #[.val (.int p1)] [] := by first | (simp [entryFrame, mkF, argsToLocals, Value.category]; done) | rfl
def Q12 (Z : State) (p1 : Int32) (h0 : Heap) (n0 : Nat) (v : Option Value) (h : Heap) (L : List Loc) : Prop := ∃ r k, v = some (.ref r) ∧ Fr n0 L ∧ Keep h0 h [] ∧ h0.size ≤ r ∧ Arv Z h r k .byte (1 : Int32) [(.int (p1.toInt8.toInt32))] (.int (0 : Int32))
set_option maxRecDepth 65536 in
set_option maxHeartbeats 40000000 in
theorem rm12 (l : Launch) (Z : State) (a0 : Array Value) (hw : ∀ d ∈ tables_1, d.before a0 Z = true) (ws : List Jvm.Cond) (p1 : Int32) (h0 : Heap) (n0 : Nat) (Z0 : n0 ≤ h0.size)  :
    MetFree l (⟨"java/lang/StringLatin1", "toBytes", "(C)[B"⟩ : MethodName) (head1 (Jvm.Cond.code (⟨"java/lang/StringLatin1", "toBytes", "(C)[B"⟩ : MethodName) jdk_43_method_46_code 1 (some (.array .byte)) :: ws) ({ frames := 0, cells := 1, slots := 1, locals := 0 } : Room)) (fun gs' U => gs' = #[(.int p1)] ∧ Z.Warmed39 U.vm ∧ U.heap = h0) (fun _ _ _ _ _ => True) (fun _ U o U' => ∃ v L, o = .returned v ∧ Q12 Z p1 h0 n0 v U'.heap L ∧ FrameEnd U o U' L ({ frames := 0, cells := 1, slots := 1, locals := 0 } : Room).cells ({ frames := 0, cells := 1, slots := 1, locals := 0 } : Room).slots) := by
  refine MetFree.of_bodySF (plainFor_of_name pn12) hisR ?_
  intro p e s m args below meth c s₁ Bd hml0 hP hK
  obtain ⟨rfl, hZ, hh⟩ := hP
  have hx := Bd.exec
  have hby := Bd.bytes
  have hml : c.maxLocals = 1 := hml0
  have hown : s.vm.findClass "java/lang/StringLatin1" = some m.cls := findClass_of_methodNamed Bd.named
  have hnm := (name_of_methodNamed Bd.named Bd.method).1
  have X0 : Stand p l e ({ frames := 0, cells := 1, slots := 1, locals := 0 } : Room) s m #[(.int p1)] below meth c s₁ [] 0 0 := Stand.of_body Bd
  have e0 : s₁.heap = h0 := by rw [← hh, Bd.state]; rfl
  have N0 := Fr.nil n0
  have k0 : Kt p e below m (s₁.setTop (entryFrame m #[(.int p1)] 1)) s₁ 0 #[.val (.int p1)] [] := fun t ht => castTop (ef12 m p1) ht
  have K0 : Keep h0 h0 [] := Keep.refl _ _
  have k2 : Kt p e below m (s₁.setTop (entryFrame m #[(.int p1)] 1)) s₁ 1 #[.val (.int p1)] [(.int (1 : Int32))] := by
    intro t ht
    refine k0 t ?_
    show Steps p.tables e below (s₁.setTop (mkF m 0 #[.val (.int p1)] [])) t
    refine XS.iconst X0.here hx rfl (hb hby d12_0) ?_
    exact ht
  obtain ⟨T3, h3, ak3, X3, e3, E3, A3, st3⟩ := newP X0 hx hZ (hw _ (List.mem_of_getElem? (i := 20) rfl)) e0 (g := (mkF m 1 #[.val (.int p1)] [(.int (1 : Int32))])) rfl (hb hby d12_1) rfl (by decide) (cap := 1) (by decide) (by decide) (by decide) (by decide)
  obtain ⟨r, q3⟩ : ∃ z, z = h0.size := ⟨_, rfl⟩
  have g_r : n0 ≤ r := by rw [q3]; exact Z0
  have sz_r : h0.size ≤ r := by rw [q3]; exact K0.1
  rw [← q3] at A3 st3
  have f4 : n0 ≤ h3.size := Nat.le_trans Z0 E3.1
  have f5 : Keep h0 h3 [] := K0.ext E3
  have f3 : Arv Z h3 r ak3 .byte (1 : Int32) [(.int (0 : Int32))] (.int (0 : Int32)) := (Arv.new A3 (by decide)).pad (pad_rep [] (.int (0 : Int32)) 1)
  have k3 : Kt p e below m (s₁.setTop (entryFrame m #[(.int p1)] 1)) T3 3 #[.val (.int p1)] [(.ref r)] := fun t ht => k2 t (st3 t ht)
  have k6 : Kt p e below m (s₁.setTop (entryFrame m #[(.int p1)] 1)) T3 7 #[.val (.int p1)] [(.int (p1.toInt8.toInt32)), (.int (0 : Int32)), (.ref r), (.ref r)] := by
    intro t ht
    refine k3 t ?_
    show Steps p.tables e below (T3.setTop (mkF m 3 #[.val (.int p1)] [(.ref r)])) t
    refine XS.dup X3.here hx rfl (hb hby d12_3) rfl rfl ?_
    show Steps p.tables e below (T3.setTop (mkF m 4 #[.val (.int p1)] [(.ref r), (.ref r)])) t
    refine XS.iconst X3.here hx rfl (hb hby d12_4) ?_
    show Steps p.tables e below (T3.setTop (mkF m 5 #[.val (.int p1)] [(.int (0 : Int32)), (.ref r), (.ref r)])) t
    refine XS.iloadN X3.here hx rfl (hb hby d12_5) rfl ?_
    show Steps p.tables e below (T3.setTop (mkF m 6 #[.val (.int p1)] [(.int p1), (.int (0 : Int32)), (.ref r), (.ref r)])) t
    refine XS.i2b X3.here hx rfl (hb hby d12_6) rfl ?_
    exact ht
  obtain ⟨cl7, Ar7, qc7, Sz7, Nn7, Hh7, Gg7⟩ := id f3
  have hin7 : ¬ ((0 : Int32) < 0 ∨ cl7.slots.size ≤ ((0 : Int32)).toNatClampNeg) := inb_of Sz7 ⟨by decide, by decide⟩
  obtain ⟨T7, h7, X7, e7, W7, st7⟩ := stB X3 hx hZ e3 Ar7 (j := (0 : Int32)) hin7 (g := (mkF m 7 #[.val (.int p1)] [(.int (p1.toInt8.toInt32)), (.int (0 : Int32)), (.ref r), (.ref r)])) rfl rfl (hb hby d12_7)
  have N7 := Fr.snoc X7 N0 g_r
  have f8 : n0 ≤ h7.size := Nat.le_trans f4 (Keep.of_wr W7).1
  have f9 : Keep h0 h7 [] := f5.wr W7 (Or.inr sz_r)
  have f10 : Arv Z h7 r ak3 .byte (1 : Int32) [(.int ((p1.toInt8.toInt32).toInt8.toInt32))] (.int (0 : Int32)) := Arv.set Ar7 qc7 Sz7 Nn7 Hh7 Gg7 (fits_nar_byte _) W7 0 rfl (Nat.le_of_ble_eq_true rfl)
  have k7 : Kt p e below m (s₁.setTop (entryFrame m #[(.int p1)] 1)) T7 8 #[.val (.int p1)] [(.ref r)] := fun t ht => k6 t (st7 t ht)
  rw [own_b8] at f10
  obtain ⟨fs, hr, hrun, hended, hW, hsame⟩ := X7.leave (v := some (.ref r)) (fun h => by rw [Bd.returns] at h; cases h)
  refine ⟨_, _, k7 _ ?_, hrun, hended, _, _, rfl, ?_, ⟨_, rfl⟩, hW, hsame.mono (by decide) (by decide)⟩
  · show Steps p.tables e below (T7.setTop (mkF m 8 #[.val (.int p1)] [(.ref r)])) _
    jvm_step X7.here [X7.here.top, hx, (hb hby d12_8), X7.method', Bd.returns, Value.isRef, FieldType.isReference]
    first | (intro acts; rw [hr _ acts rfl rfl rfl]) | rw [hr _ _ rfl rfl rfl]
    exact Steps.refl _
  · show Q12 Z p1 h0 n0 _ T7.heap _
    rw [e7]
    exact ⟨r, _, rfl, N7, f9, sz_r, f10⟩
theorem d13_0 : decode jdk_42_method_151_code 0 = .ok (.aload_n 0, 1) := by decide +kernel
theorem d13_1 : decode jdk_42_method_151_code 1 = .ok (.invokespecial 1, 3) := by decide +kernel
theorem d13_4 : decode jdk_42_method_151_code 4 = .ok (.aload_n 0, 1) := by decide +kernel
theorem d13_5 : decode jdk_42_method_151_code 5 = .ok (.aload_n 1, 1) := by decide +kernel
theorem d13_6 : decode jdk_42_method_151_code 6 = .ok (.putfield 9, 3) := by decide +kernel
theorem d13_9 : decode jdk_42_method_151_code 9 = .ok (.aload_n 0, 1) := by decide +kernel
theorem d13_10 : decode jdk_42_method_151_code 10 = .ok (.iload_n 2, 1) := by decide +kernel
theorem d13_11 : decode jdk_42_method_151_code 11 = .ok (.putfield 15, 3) := by decide +kernel
theorem d13_14 : decode jdk_42_method_151_code 14 = .ok (.return_, 1) := by decide +kernel
theorem pn13 : plainName "java/lang/String" = true := by first | (simp [plainName, overriddenIn]; done) | decide +kernel
theorem ef13 (m : MethodId) (a : Addr) (b : Addr) : entryFrame m #[(.ref a), (.ref b), (.int (0 : Int32))] 3 = mkF m 0 #[.val (.ref a), .val (.ref b), .val (.int (0 : Int32))] [] := by first | (simp [entryFrame, mkF, argsToLocals, Value.category]; done) | rfl
def Q13 (Z : State) (a : Addr) (b : Addr) (h0 : Heap) (n0 : Nat) (v : Option Value) (h : Heap) (L : List Loc) : Prop := v = none ∧ Fr n0 L ∧ Keep h0 h [a] ∧ Fld Z h a "java/lang/String" "coder" "B" (.int (0 : Int32)) ∧ Fld Z h a "java/lang/String" "value" "[B" (.ref b)
set_option maxRecDepth 65536 in
set_option maxHeartbeats 40000000 in
theorem rm13 (l : Launch) (Z : State) (a0 : Array Value) (hw : ∀ d ∈ tables_1, d.before a0 Z = true) (ws : List Jvm.Cond) (a : Addr) (b : Addr) (h0 : Heap) (n0 : Nat) (Z0 : n0 ≤ h0.size) (E_a : Exa Z h0 a "java/lang/String") (F_value : Fld Z h0 a "java/lang/String" "value" "[B" .null) (F_coder : Fld Z h0 a "java/lang/String" "coder" "B" (.int (0 : Int32))) (g_a : n0 ≤ a) :
    MetFree l (⟨"java/lang/String", "<init>", "([BB)V"⟩ : MethodName) (head1 (Jvm.Cond.code (⟨"java/lang/String", "<init>", "([BB)V"⟩ : MethodName) jdk_42_method_151_code 3 none :: ws) ({ frames := 1, cells := 0, slots := 0, locals := 12 } : Room)) (fun gs' U => gs' = #[(.ref a), (.ref b), (.int (0 : Int32))] ∧ Z.Warmed39 U.vm ∧ U.heap = h0) (fun _ _ _ _ _ => True) (fun _ U o U' => ∃ v L, o = .returned v ∧ Q13 Z a b h0 n0 v U'.heap L ∧ FrameEnd U o U' L ({ frames := 1, cells := 0, slots := 0, locals := 12 } : Room).cells ({ frames := 1, cells := 0, slots := 0, locals := 12 } : Room).slots) := by
  refine MetFree.of_bodySF (plainFor_of_name pn13) hisR ?_
  intro p e s m args below meth c s₁ Bd hml0 hP hK
  obtain ⟨rfl, hZ, hh⟩ := hP
  have hx := Bd.exec
  have hby := Bd.bytes
  have hml : c.maxLocals = 3 := hml0
  have hown : s.vm.findClass "java/lang/String" = some m.cls := findClass_of_methodNamed Bd.named
  have hnm := (name_of_methodNamed Bd.named Bd.method).1
  have X0 : Stand p l e ({ frames := 1, cells := 0, slots := 0, locals := 12 } : Room) s m #[(.ref a), (.ref b), (.int (0 : Int32))] below meth c s₁ [] 0 0 := Stand.of_body Bd
  have e0 : s₁.heap = h0 := by rw [← hh, Bd.state]; rfl
  have N0 := Fr.nil n0
  have k0 : Kt p e below m (s₁.setTop (entryFrame m #[(.ref a), (.ref b), (.int (0 : Int32))] 3)) s₁ 0 #[.val (.ref a), .val (.ref b), .val (.int (0 : Int32))] [] := fun t ht => castTop (ef13 m a b) ht
  have K0 : Keep h0 h0 [a] := Keep.refl _ _
  have k11 : Kt p e below m (s₁.setTop (entryFrame m #[(.ref a), (.ref b), (.int (0 : Int32))] 3)) s₁ 1 #[.val (.ref a), .val (.ref b), .val (.int (0 : Int32))] [(.ref a)] := by
    intro t ht
    refine k0 t ?_
    show Steps p.tables e below (s₁.setTop (mkF m 0 #[.val (.ref a), .val (.ref b), .val (.int (0 : Int32))] [])) t
    refine XS.aloadN X0.here hx rfl (hb hby d13_0) rfl rfl ?_
    exact ht
  obtain ⟨T12, X12, e12, st12⟩ := initO X0 hx hZ hown (hw _ (List.mem_of_getElem? (i := 12) rfl)) (hw _ (List.mem_of_getElem? (i := 13) rfl)) (hw _ (List.mem_of_getElem? (i := 14) rfl)) e0 (g := (mkF m 1 #[.val (.ref a), .val (.ref b), .val (.int (0 : Int32))] [(.ref a)])) rfl (by rw [hml]; rfl) rfl (hb hby d13_1) (by decide) (W := 0) (by show 2 * 0 + _ ≤ _; exact Nat.le_of_eq rfl) (by decide)
  have k12 : Kt p e below m (s₁.setTop (entryFrame m #[(.ref a), (.ref b), (.int (0 : Int32))] 3)) T12 4 #[.val (.ref a), .val (.ref b), .val (.int (0 : Int32))] [] := fun t ht => k11 t (st12 t ht)
  have k13 : Kt p e below m (s₁.setTop (entryFrame m #[(.ref a), (.ref b), (.int (0 : Int32))] 3)) T12 6 #[.val (.ref a), .val (.ref b), .val (.int (0 : Int32))] [(.ref b), (.ref a)] := by
    intro t ht
    refine k12 t ?_
    show Steps p.tables e below (T12.setTop (mkF m 4 #[.val (.ref a), .val (.ref b), .val (.int (0 : Int32))] [])) t
    refine XS.aloadN X12.here hx rfl (hb hby d13_4) rfl rfl ?_
    show Steps p.tables e below (T12.setTop (mkF m 5 #[.val (.ref a), .val (.ref b), .val (.int (0 : Int32))] [(.ref a)])) t
    refine XS.aloadN X12.here hx rfl (hb hby d13_5) rfl rfl ?_
    exact ht
  obtain ⟨T14, h14, X14, e14, W14, st14⟩ := putF X12 hx hZ hown (host := "") (Or.inl (hw _ (List.mem_of_getElem? (i := 29) rfl))) Via.refl e12 F_value E_a (Or.inr ⟨(hw _ (List.mem_of_getElem? (i := 30) rfl)), rfl, hnm⟩) (hw _ (List.mem_of_getElem? (i := 3) rfl)) (ty := (.array .byte)) (by decide) rfl rfl (g := (mkF m 6 #[.val (.ref a), .val (.ref b), .val (.int (0 : Int32))] [(.ref b), (.ref a)])) rfl rfl (hb hby d13_6)
  have N14 := Fr.snoc X14 N0 g_a
  have f15 : n0 ≤ h14.size := Nat.le_trans Z0 (Keep.of_wr W14).1
  have f16 : Exa Z h14 a "java/lang/String" := E_a.wr W14
  have f17 : Fld Z h14 a "java/lang/String" "value" "[B" (.ref b) := F_value.same W14
  have f18 : Fld Z h14 a "java/lang/String" "coder" "B" (.int (0 : Int32)) := F_coder.other W14 (Or.inr (slot_ne (Or.inr (hw _ (List.mem_of_getElem? (i := 28) rfl))) (Or.inr (hw _ (List.mem_of_getElem? (i := 30) rfl))) (by decide) (t := .byte) (t' := (.array .byte)) (by decide) (by decide)))
  have f19 : Keep h0 h14 [a] := K0.wr W14 (Or.inl (List.mem_of_getElem? (i := 0) rfl))
  have k14 : Kt p e below m (s₁.setTop (entryFrame m #[(.ref a), (.ref b), (.int (0 : Int32))] 3)) T14 9 #[.val (.ref a), .val (.ref b), .val (.int (0 : Int32))] [] := fun t ht => k13 t (st14 t ht)
  have k20 : Kt p e below m (s₁.setTop (entryFrame m #[(.ref a), (.ref b), (.int (0 : Int32))] 3)) T14 11 #[.val (.ref a), .val (.ref b), .val (.int (0 : Int32))] [(.int (0 : Int32)), (.ref a)] := by
    intro t ht
    refine k14 t ?_
    show Steps p.tables e below (T14.setTop (mkF m 9 #[.val (.ref a), .val (.ref b), .val (.int (0 : Int32))] [])) t
    refine XS.aloadN X14.here hx rfl (hb hby d13_9) rfl rfl ?_
    show Steps p.tables e below (T14.setTop (mkF m 10 #[.val (.ref a), .val (.ref b), .val (.int (0 : Int32))] [(.ref a)])) t
    refine XS.iloadN X14.here hx rfl (hb hby d13_10) rfl ?_
    exact ht
  obtain ⟨T21, h21, X21, e21, W21, st21⟩ := putFN X14 hx hZ hown (hw _ (List.mem_of_getElem? (i := 27) rfl)) Via.refl e14 f18 f16 (Or.inr ⟨(hw _ (List.mem_of_getElem? (i := 28) rfl)), rfl, hnm⟩) (hw _ (List.mem_of_getElem? (i := 3) rfl)) (ty := .byte) (v' := (.int (0 : Int32))) (by decide) rfl rfl (g := (mkF m 11 #[.val (.ref a), .val (.ref b), .val (.int (0 : Int32))] [(.int (0 : Int32)), (.ref a)])) rfl rfl (hb hby d13_11)
  have N21 := Fr.snoc X21 N14 g_a
  have f22 : n0 ≤ h21.size := Nat.le_trans f15 (Keep.of_wr W21).1
  have f23 : Exa Z h21 a "java/lang/String" := f16.wr W21
  have f24 : Fld Z h21 a "java/lang/String" "value" "[B" (.ref b) := f17.other W21 (Or.inr (slot_ne (Or.inr (hw _ (List.mem_of_getElem? (i := 30) rfl))) (Or.inr (hw _ (List.mem_of_getElem? (i := 28) rfl))) (by decide) (t := (.array .byte)) (t' := .byte) (by decide) (by decide)))
  have f25 : Fld Z h21 a "java/lang/String" "coder" "B" (.int (0 : Int32)) := f18.same W21
  have f26 : Keep h0 h21 [a] := f19.wr W21 (Or.inl (List.mem_of_getElem? (i := 0) rfl))
  have k21 : Kt p e below m (s₁.setTop (entryFrame m #[(.ref a), (.ref b), (.int (0 : Int32))] 3)) T21 14 #[.val (.ref a), .val (.ref b), .val (.int (0 : Int32))] [] := fun t ht => k20 t (st21 t ht)
  obtain ⟨fs, hr, hrun, hended, hW, hsame⟩ := X21.leave (v := none) (fun _ => rfl)
  refine ⟨_, _, k21 _ ?_, hrun, hended, _, _, rfl, ?_, ⟨_, rfl⟩, hW, hsame.mono (by decide) (by decide)⟩
  · exact X21.returnOut hx Bd.returns (hb hby d13_14) hr
  · show Q13 Z a b h0 n0 _ T21.heap _
    rw [e21]
    exact ⟨rfl, N21, f26, f25, f24⟩
theorem d10_0 : decode jdk_42_method_139_code 0 = .ok (.getstatic 38, 3) := by decide +kernel
theorem d10_3 : decode jdk_42_method_139_code 3 = .ok (.ifCond .eq 23, 3) := by decide +kernel
theorem d10_6 : decode jdk_42_method_139_code 6 = .ok (.iload_n 0, 1) := by decide +kernel
theorem d10_7 : decode jdk_42_method_139_code 7 = .ok (.invokestatic 1015, 3) := by decide +kernel
theorem d10_10 : decode jdk_42_method_139_code 10 = .ok (.ifCond .eq 16, 3) := by decide +kernel
theorem d10_13 : decode jdk_42_method_139_code 13 = .ok (.new 10, 3) := by decide +kernel
theorem d10_16 : decode jdk_42_method_139_code 16 = .ok (.dup, 1) := by decide +kernel
theorem d10_17 : decode jdk_42_method_139_code 17 = .ok (.iload_n 0, 1) := by decide +kernel
theorem d10_18 : decode jdk_42_method_139_code 18 = .ok (.invokestatic 1018, 3) := by decide +kernel
theorem d10_21 : decode jdk_42_method_139_code 21 = .ok (.iconst 0, 1) := by decide +kernel
theorem d10_22 : decode jdk_42_method_139_code 22 = .ok (.invokespecial 209, 3) := by decide +kernel
theorem d10_25 : decode jdk_42_method_139_code 25 = .ok (.areturn, 1) := by decide +kernel
theorem d10_26 : decode jdk_42_method_139_code 26 = .ok (.new 10, 3) := by decide +kernel
theorem d10_29 : decode jdk_42_method_139_code 29 = .ok (.dup, 1) := by decide +kernel
theorem d10_30 : decode jdk_42_method_139_code 30 = .ok (.iload_n 0, 1) := by decide +kernel
theorem d10_31 : decode jdk_42_method_139_code 31 = .ok (.invokestatic 1021, 3) := by decide +kernel
theorem d10_34 : decode jdk_42_method_139_code 34 = .ok (.iconst 1, 1) := by decide +kernel
theorem d10_35 : decode jdk_42_method_139_code 35 = .ok (.invokespecial 209, 3) := by decide +kernel
theorem d10_38 : decode jdk_42_method_139_code 38 = .ok (.areturn, 1) := by decide +kernel
theorem pn10 : plainName "java/lang/String" = true := by first | (simp [plainName, overriddenIn]; done) | decide +kernel
theorem ef10 (m : MethodId) (p1 : Int32) : entryFrame m #[(.int p1)] 1 = mkF m 0 #[.val (.int p1)] [] := by first | (simp [entryFrame, mkF, argsToLocals, Value.category]; done) | rfl
def Q10 (Z : State) (p1 : Int32) (G1 : Int32) (h0 : Heap) (n0 : Nat) (v : Option Value) (h : Heap) (L : List Loc) : Prop := ∃ r t kb, v = some (.ref r) ∧ Fr n0 L ∧ Keep h0 h [] ∧ Exa Z h r "java/lang/String" ∧ Fld Z h r "java/lang/String" "coder" "B" (.int (0 : Int32)) ∧ Fld Z h r "java/lang/String" "value" "[B" (.ref t) ∧ Arv Z h t kb .byte (Int32.ofNat [p1].length) (own_by [p1]) (.int (0 : Int32))
set_option maxRecDepth 65536 in
set_option maxHeartbeats 40000000 in
theorem rm10 (l : Launch) (Z : State) (a0 : Array Value) (hw : ∀ d ∈ tables_1, d.before a0 Z = true) (ws : List Jvm.Cond) (p1 : Int32) (G1 : Int32) (h0 : Heap) (n0 : Nat) (Z0 : n0 ≤ h0.size) (S1 : Sta Z Z.heap "java/lang/String" "COMPACT_STRINGS" "Z" (.int G1)) (P5 : ¬ (G1 = (0 : Int32))) (O : Old Z n0 h0) (hp : ¬ (255 : Int32) < p1) :
    MetFree l (⟨"java/lang/String", "valueOf", "(C)Ljava/lang/String;"⟩ : MethodName) (head1 (Jvm.Cond.code (⟨"java/lang/String", "valueOf", "(C)Ljava/lang/String;"⟩ : MethodName) jdk_42_method_139_code 1 (some (.object "java/lang/String")) :: ws) ({ frames := 2, cells := 2, slots := 5, locals := 27 } : Room)) (fun gs' U => gs' = #[(.int p1)] ∧ Z.Warmed39 U.vm ∧ U.heap = h0) (fun _ _ _ _ _ => True) (fun _ U o U' => ∃ v L, o = .returned v ∧ Q10 Z p1 G1 h0 n0 v U'.heap L ∧ FrameEnd U o U' L ({ frames := 2, cells := 2, slots := 5, locals := 27 } : Room).cells ({ frames := 2, cells := 2, slots := 5, locals := 27 } : Room).slots) := by
  refine MetFree.of_bodySF (plainFor_of_name pn10) hisR ?_
  intro p e s m args below meth c s₁ Bd hml0 hP hK
  obtain ⟨rfl, hZ, hh⟩ := hP
  have hx := Bd.exec
  have hby := Bd.bytes
  have hml : c.maxLocals = 1 := hml0
  have hown : s.vm.findClass "java/lang/String" = some m.cls := findClass_of_methodNamed Bd.named
  have hnm := (name_of_methodNamed Bd.named Bd.method).1
  have X0 : Stand p l e ({ frames := 2, cells := 2, slots := 5, locals := 27 } : Room) s m #[(.int p1)] below meth c s₁ [] 0 0 := Stand.of_body Bd
  have e0 : s₁.heap = h0 := by rw [← hh, Bd.state]; rfl
  have N0 := Fr.nil n0
  have k0 : Kt p e below m (s₁.setTop (entryFrame m #[(.int p1)] 1)) s₁ 0 #[.val (.int p1)] [] := fun t ht => castTop (ef10 m p1) ht
  have K0 : Keep h0 h0 [] := Keep.refl _ _
  obtain ⟨T27, X27, e27, st27⟩ := getS2 X0 hx hZ hown (host := "") (Or.inl (hw _ (List.mem_of_getElem? (i := 15) rfl))) Via.refl e0 (S1.ext O.2) (g := (mkF m 0 #[.val (.int p1)] [])) rfl (hb hby d10_0)
  have k27 : Kt p e below m (s₁.setTop (entryFrame m #[(.int p1)] 1)) T27 3 #[.val (.int p1)] [(.int G1)] := fun t ht => k0 t (st27 t ht)
  have k28 : Kt p e below m (s₁.setTop (entryFrame m #[(.int p1)] 1)) T27 7 #[.val (.int p1)] [(.int p1)] := by
    intro t ht
    refine k27 t ?_
    show Steps p.tables e below (T27.setTop (mkF m 3 #[.val (.int p1)] [(.int G1)])) t
    refine XS.ifNo X27.here hx rfl (hb hby d10_3) rfl ((if0 _ _).trans (feq P5).1) ?_
    show Steps p.tables e below (T27.setTop (mkF m 6 #[.val (.int p1)] [])) t
    refine XS.iloadN X27.here hx rfl (hb hby d10_6) rfl ?_
    exact ht
  obtain ⟨_, _, ⟨T29, L29, c29, n29⟩, -, X29, ⟨Lc29, hQ29, l29, y29, z29⟩, st29⟩ := Jvm.LawKit.callS X27 hx (y := (⟨"java/lang/StringLatin1", "canEncode", "(C)Z"⟩ : MethodName)) hown (mvT hZ (hw _ (List.mem_of_getElem? (i := 55) rfl))) (mvT hZ (hw _ (List.mem_of_getElem? (i := 56) rfl))) (mvT hZ (hw _ (List.mem_of_getElem? (i := 46) rfl))) (mvT hZ (hw _ (List.mem_of_getElem? (i := 57) rfl))) (by decide) (backOf (W := 0) (rm11 l Z a0 hw [] p1 h0 n0 Z0 hp) hZ (hw _ (List.mem_of_getElem? (i := 57) rfl)) (hw _ (List.mem_of_getElem? (i := 46) rfl)) (by decide) (by decide)) (g := (mkF m 7 #[.val (.int p1)] [(.int p1)])) rfl (by rw [hml]; rfl) (argsL := [(.int p1)]) (rest := []) (lenOf pd_2 rfl) rfl (by show 2 * 0 + _ ≤ _; exact Nat.le_of_eq rfl) (hb hby d10_7) (fun _ _ => ⟨rfl, e27, (by decide : 0 + 0 ≤ _), (by decide : 0 + 0 ≤ _)⟩)
  dsimp only [Pt.U, Pt.locs, Pt.cells, Pt.slots] at X29 l29 y29 z29 st29 hQ29
  subst l29 y29 z29
  obtain ⟨rfl, Nq29, eq1⟩ := hQ29
  have N29 := Fr.app N0 Nq29
  have k29 : Kt p e below m (s₁.setTop (entryFrame m #[(.int p1)] 1)) T29 10 #[.val (.int p1)] [(.int (1 : Int32))] := fun t ht => k28 t (st29 t ht)
  have f30 : n0 ≤ T29.heap.size := by rw [eq1]; exact Z0
  have f31 : Keep h0 T29.heap [] := by rw [eq1]; exact K0
  have k32 : Kt p e below m (s₁.setTop (entryFrame m #[(.int p1)] 1)) T29 13 #[.val (.int p1)] [] := by
    intro t ht
    refine k29 t ?_
    show Steps p.tables e below (T29.setTop (mkF m 10 #[.val (.int p1)] [(.int (1 : Int32))])) t
    refine XS.ifNo X29.here hx rfl (hb hby d10_10) rfl ((if0 _ _).trans (feq (by decide)).1) ?_
    exact ht
  obtain ⟨T33, h33, X33, e33, E33, A33, D33, -, st33⟩ := newO X29 hx hZ hown (hw _ (List.mem_of_getElem? (i := 43) rfl)) (hw _ (List.mem_of_getElem? (i := 3) rfl)) (hw _ (List.mem_of_getElem? (i := 4) rfl)) rfl (g := (mkF m 13 #[.val (.int p1)] [])) rfl (hb hby d10_13) (by decide) (by decide)
  obtain ⟨r, q33⟩ : ∃ z, z = T29.heap.size := ⟨_, rfl⟩
  have g_r : n0 ≤ r := by rw [q33]; exact f30
  have sz_r : h0.size ≤ r := by rw [q33]; exact f31.1
  rw [← q33] at A33 D33 st33
  have f34 : n0 ≤ h33.size := Nat.le_trans f30 E33.1
  have f35 : Keep h0 h33 [] := f31.ext E33
  have f33 : Exa Z h33 r "java/lang/String" := A33
  have f36 : Fld Z h33 r "java/lang/String" "coder" "B" (.int (0 : Int32)) := D33 (Or.inr (hw _ (List.mem_of_getElem? (i := 28) rfl))) (ty := .byte) (by decide)
  have f37 : Fld Z h33 r "java/lang/String" "value" "[B" .null := D33 (Or.inr (hw _ (List.mem_of_getElem? (i := 30) rfl))) (ty := (.array .byte)) (by decide)
  have k33 : Kt p e below m (s₁.setTop (entryFrame m #[(.int p1)] 1)) T33 16 #[.val (.int p1)] [(.ref r)] := fun t ht => k32 t (st33 t ht)
  have k38 : Kt p e below m (s₁.setTop (entryFrame m #[(.int p1)] 1)) T33 18 #[.val (.int p1)] [(.int p1), (.ref r), (.ref r)] := by
    intro t ht
    refine k33 t ?_
    show Steps p.tables e below (T33.setTop (mkF m 16 #[.val (.int p1)] [(.ref r)])) t
    refine XS.dup X33.here hx rfl (hb hby d10_16) rfl rfl ?_
    show Steps p.tables e below (T33.setTop (mkF m 17 #[.val (.int p1)] [(.ref r), (.ref r)])) t
    refine XS.iloadN X33.here hx rfl (hb hby d10_17) rfl ?_
    exact ht
  obtain ⟨_, _, ⟨T39, L39, c39, n39⟩, -, X39, ⟨Lc39, hQ39, l39, y39, z39⟩, st39⟩ := Jvm.LawKit.callS X33 hx (y := (⟨"java/lang/StringLatin1", "toBytes", "(C)[B"⟩ : MethodName)) hown (mvT hZ (hw _ (List.mem_of_getElem? (i := 58) rfl))) (mvT hZ (hw _ (List.mem_of_getElem? (i := 59) rfl))) (mvT hZ (hw _ (List.mem_of_getElem? (i := 46) rfl))) (mvT hZ (hw _ (List.mem_of_getElem? (i := 60) rfl))) (by decide) (backOf (W := 2) (rm12 l Z a0 hw [] p1 h33 n0 f34 ) hZ (hw _ (List.mem_of_getElem? (i := 60) rfl)) (hw _ (List.mem_of_getElem? (i := 46) rfl)) (by decide) (by decide)) (g := (mkF m 18 #[.val (.int p1)] [(.int p1), (.ref r), (.ref r)])) rfl (by rw [hml]; rfl) (argsL := [(.int p1)]) (rest := [(.ref r), (.ref r)]) (lenOf pd_3 rfl) rfl (by show 2 * 0 + _ ≤ _; exact Nat.le_of_eq rfl) (hb hby d10_18) (fun _ _ => ⟨rfl, e33, (by decide : 1 + 1 ≤ _), (by decide : 4 + 1 ≤ _)⟩)
  dsimp only [Pt.U, Pt.locs, Pt.cells, Pt.slots] at X39 l39 y39 z39 st39 hQ39
  subst l39 y39 z39
  obtain ⟨bb, kb, rfl, Nq39, Kb, szb, Vb⟩ := hQ39
  have N39 := Fr.app N29 Nq39
  have k39 : Kt p e below m (s₁.setTop (entryFrame m #[(.int p1)] 1)) T39 21 #[.val (.int p1)] [(.ref bb), (.ref r), (.ref r)] := fun t ht => k38 t (st39 t ht)
  have ne_r_bb : r ≠ bb := Nat.ne_of_lt (Nat.lt_of_lt_of_le f33.lt szb)
  have g_bb : n0 ≤ bb := Nat.le_trans f34 szb
  have sz_bb : h0.size ≤ bb := Nat.le_trans f35.1 szb
  have f40 : n0 ≤ T39.heap.size := Nat.le_trans f34 Kb.1
  have f41 : Keep h0 T39.heap [] := f35.trans Kb all0
  have f42 : Exa Z T39.heap r "java/lang/String" := f33.keep Kb
  have f43 : Fld Z T39.heap r "java/lang/String" "coder" "B" (.int (0 : Int32)) := f36.keep Kb nin0
  have f44 : Fld Z T39.heap r "java/lang/String" "value" "[B" .null := f37.keep Kb nin0
  have k45 : Kt p e below m (s₁.setTop (entryFrame m #[(.int p1)] 1)) T39 22 #[.val (.int p1)] [(.int (0 : Int32)), (.ref bb), (.ref r), (.ref r)] := by
    intro t ht
    refine k39 t ?_
    show Steps p.tables e below (T39.setTop (mkF m 21 #[.val (.int p1)] [(.ref bb), (.ref r), (.ref r)])) t
    refine XS.iconst X39.here hx rfl (hb hby d10_21) ?_
    exact ht
  obtain ⟨_, _, ⟨T46, L46, c46, n46⟩, -, X46, ⟨Lc46, hQ46, l46, y46, z46⟩, st46⟩ := X39.specialBack hx (y := (⟨"java/lang/String", "<init>", "([BB)V"⟩ : MethodName)) rfl hown (mvT hZ (hw _ (List.mem_of_getElem? (i := 61) rfl))) (mvT hZ (hw _ (List.mem_of_getElem? (i := 62) rfl))) (mvT hZ (hw _ (List.mem_of_getElem? (i := 63) rfl))) (by decide) (backOf (W := 1) (rm13 l Z a0 hw [] r bb T39.heap n0 f40 f42 f44 f43 g_r) hZ (hw _ (List.mem_of_getElem? (i := 63) rfl)) (hw _ (List.mem_of_getElem? (i := 4) rfl)) (by decide) (by decide)) (g := (mkF m 22 #[.val (.int p1)] [(.int (0 : Int32)), (.ref bb), (.ref r), (.ref r)])) rfl (by rw [hml]; rfl) (Steps.refl _) (a := r) (argsL := [(.ref bb), (.int (0 : Int32))]) (rest := [(.ref r)]) (lenOf pd_6 rfl) rfl (by show 2 * 0 + _ ≤ _; exact Nat.le_of_eq rfl) (hb hby d10_22) (fun _ _ => ⟨rfl, rfl, (by decide : 2 + 0 ≤ _), (by decide : 5 + 0 ≤ _)⟩)
  dsimp only [Pt.U, Pt.locs, Pt.cells, Pt.slots] at X46 l46 y46 z46 st46 hQ46
  subst l46 y46 z46
  obtain ⟨rfl, Nq46, Kp, Fc, Fv⟩ := hQ46
  have N46 := Fr.app N39 Nq46
  have k46 : Kt p e below m (s₁.setTop (entryFrame m #[(.int p1)] 1)) T46 25 #[.val (.int p1)] [(.ref r)] := fun t ht => k45 t (st46.trans ht)
  have f47 : n0 ≤ T46.heap.size := Nat.le_trans f40 Kp.1
  have f48 : Keep h0 T46.heap [] := f41.trans Kp (allS (Or.inr sz_r) all0)
  have f49 : Exa Z T46.heap r "java/lang/String" := f42.keep Kp
  have f52 : Arv Z T46.heap bb kb .byte (1 : Int32) [(.int (p1.toInt8.toInt32))] (.int (0 : Int32)) := Vb.keep Kp (ninS ne_r_bb.symm nin0)
  obtain ⟨fs, hr, hrun, hended, hW, hsame⟩ := X46.leave (v := some (.ref r)) (fun h => by rw [Bd.returns] at h; cases h)
  refine ⟨_, _, k46 _ ?_, hrun, hended, _, _, rfl, ?_, ⟨_, rfl⟩, hW, hsame.mono (by decide) (by decide)⟩
  · show Steps p.tables e below (T46.setTop (mkF m 25 #[.val (.int p1)] [(.ref r)])) _
    jvm_step X46.here [X46.here.top, hx, (hb hby d10_25), X46.method', Bd.returns, Value.isRef, FieldType.isReference]
    first | (intro acts; rw [hr _ acts rfl rfl rfl]) | rw [hr _ _ rfl rfl rfl]
    exact Steps.refl _
  · show Q10 Z p1 G1 h0 n0 _ T46.heap _
    exact ⟨r, bb, kb, rfl, N46, f48, f49, Fc, Fv, f52⟩
theorem deqN_0 : decode jdk_42_method_66_code 0 = .ok (.aload_n 0, 1) := by decide +kernel
theorem deqN_1 : decode jdk_42_method_66_code 1 = .ok (.aload_n 1, 1) := by decide +kernel
theorem deqN_2 : decode jdk_42_method_66_code 2 = .ok (.if_acmp .ne 5, 3) := by decide +kernel
theorem deqN_5 : decode jdk_42_method_66_code 5 = .ok (.iconst 1, 1) := by decide +kernel
theorem deqN_6 : decode jdk_42_method_66_code 6 = .ok (.ireturn, 1) := by decide +kernel
theorem deqN_7 : decode jdk_42_method_66_code 7 = .ok (.aload_n 1, 1) := by decide +kernel
theorem deqN_8 : decode jdk_42_method_66_code 8 = .ok (.instanceof 10, 3) := by decide +kernel
theorem deqN_11 : decode jdk_42_method_66_code 11 = .ok (.ifCond .eq 43, 3) := by decide +kernel
theorem deqN_14 : decode jdk_42_method_66_code 14 = .ok (.aload_n 1, 1) := by decide +kernel
theorem deqN_15 : decode jdk_42_method_66_code 15 = .ok (.checkcast 10, 3) := by decide +kernel
theorem deqN_18 : decode jdk_42_method_66_code 18 = .ok (.astore_n 2, 1) := by decide +kernel
theorem deqN_19 : decode jdk_42_method_66_code 19 = .ok (.getstatic 38, 3) := by decide +kernel
theorem deqN_22 : decode jdk_42_method_66_code 22 = .ok (.ifCond .eq 14, 3) := by decide +kernel
theorem deqN_25 : decode jdk_42_method_66_code 25 = .ok (.aload_n 0, 1) := by decide +kernel
theorem deqN_26 : decode jdk_42_method_66_code 26 = .ok (.getfield 15, 3) := by decide +kernel
theorem deqN_29 : decode jdk_42_method_66_code 29 = .ok (.aload_n 2, 1) := by decide +kernel
theorem deqN_30 : decode jdk_42_method_66_code 30 = .ok (.getfield 15, 3) := by decide +kernel
theorem deqN_33 : decode jdk_42_method_66_code 33 = .ok (.if_icmp .ne 21, 3) := by decide +kernel
theorem deqN_36 : decode jdk_42_method_66_code 36 = .ok (.aload_n 0, 1) := by decide +kernel
theorem deqN_37 : decode jdk_42_method_66_code 37 = .ok (.getfield 9, 3) := by decide +kernel
theorem deqN_40 : decode jdk_42_method_66_code 40 = .ok (.aload_n 2, 1) := by decide +kernel
theorem deqN_41 : decode jdk_42_method_66_code 41 = .ok (.getfield 9, 3) := by decide +kernel
theorem deqN_44 : decode jdk_42_method_66_code 44 = .ok (.invokestatic 541, 3) := by decide +kernel
theorem deqN_47 : decode jdk_42_method_66_code 47 = .ok (.ifCond .eq 7, 3) := by decide +kernel
theorem deqN_50 : decode jdk_42_method_66_code 50 = .ok (.iconst 1, 1) := by decide +kernel
theorem deqN_51 : decode jdk_42_method_66_code 51 = .ok (.goto 4, 3) := by decide +kernel
theorem deqN_54 : decode jdk_42_method_66_code 54 = .ok (.iconst 0, 1) := by decide +kernel
theorem deqN_55 : decode jdk_42_method_66_code 55 = .ok (.ireturn, 1) := by decide +kernel
theorem pneqN : plainName "java/lang/String" = true := by first | (simp [plainName, overriddenIn]; done) | decide +kernel
theorem efeqN (m : MethodId) (a : Addr) : entryFrame m #[(.ref a), .null] 3 = mkF m 0 #[.val (.ref a), .val .null, .unset] [] := by first | (simp [entryFrame, mkF, argsToLocals, Value.category]; done) | rfl
def QeqN (Z : State) (a : Addr) (h0 : Heap) (n0 : Nat) (v : Option Value) (h : Heap) (L : List Loc) : Prop := v = some (.int 0) ∧ Fr n0 L ∧ h = h0
set_option maxRecDepth 65536 in
set_option maxHeartbeats 40000000 in
theorem rmeqN (l : Launch) (Z : State) (a0 : Array Value) (hw : ∀ d ∈ tables_1, d.before a0 Z = true) (ws : List Jvm.Cond) (a : Addr) (h0 : Heap) (n0 : Nat) (Z0 : n0 ≤ h0.size)  :
    MetFree l (⟨"java/lang/String", "equals", "(Ljava/lang/Object;)Z"⟩ : MethodName) (head1 (Jvm.Cond.code (⟨"java/lang/String", "equals", "(Ljava/lang/Object;)Z"⟩ : MethodName) jdk_42_method_66_code 3 (some .boolean) :: ws) ({ frames := 0, cells := 0, slots := 0, locals := 0 } : Room)) (fun gs' U => gs' = #[(.ref a), .null] ∧ Z.Warmed39 U.vm ∧ U.heap = h0) (fun _ _ _ _ _ => True) (fun _ U o U' => ∃ v L, o = .returned v ∧ QeqN Z a h0 n0 v U'.heap L ∧ FrameEnd U o U' L ({ frames := 0, cells := 0, slots := 0, locals := 0 } : Room).cells ({ frames := 0, cells := 0, slots := 0, locals := 0 } : Room).slots) := by
  refine MetFree.of_bodySF (plainFor_of_name pneqN) hisR ?_
  intro p e s m args below meth c s₁ Bd hml0 hP hK
  obtain ⟨rfl, hZ, hh⟩ := hP
  have hx := Bd.exec
  have hby := Bd.bytes
  have hml : c.maxLocals = 3 := hml0
  have hown : s.vm.findClass "java/lang/String" = some m.cls := findClass_of_methodNamed Bd.named
  have hnm := (name_of_methodNamed Bd.named Bd.method).1
  have X0 : Stand p l e ({ frames := 0, cells := 0, slots := 0, locals := 0 } : Room) s m #[(.ref a), .null] below meth c s₁ [] 0 0 := Stand.of_body Bd
  have e0 : s₁.heap = h0 := by rw [← hh, Bd.state]; rfl
  have N0 := Fr.nil n0
  have k0 : Kt p e below m (s₁.setTop (entryFrame m #[(.ref a), .null] 3)) s₁ 0 #[.val (.ref a), .val .null, .unset] [] := fun t ht => castTop (efeqN m a) ht
  have k53 : Kt p e below m (s₁.setTop (entryFrame m #[(.ref a), .null] 3)) s₁ 55 #[.val (.ref a), .val .null, .unset] [(.int (0 : Int32))] := by
    intro t ht
    refine k0 t ?_
    show Steps p.tables e below (s₁.setTop (mkF m 0 #[.val (.ref a), .val .null, .unset] [])) t
    refine XS.aloadN X0.here hx rfl (hb hby deqN_0) rfl rfl ?_
    show Steps p.tables e below (s₁.setTop (mkF m 1 #[.val (.ref a), .val .null, .unset] [(.ref a)])) t
    refine XS.aloadN X0.here hx rfl (hb hby deqN_1) rfl rfl ?_
    show Steps p.tables e below (s₁.setTop (mkF m 2 #[.val (.ref a), .val .null, .unset] [.null, (.ref a)])) t
    refine Jvm.RoadKit.acmp (g := (mkF m 2 #[.val (.ref a), .val .null, .unset] [.null, (.ref a)])) X0 hx rfl rfl rfl (pc0 := 2) (pc' := 7) (same := false) rfl (hb hby deqN_2) rfl (decide_eq_false nofun) (by decide) (by decide) ?_
    show Steps p.tables e below (s₁.setTop (mkF m 7 #[.val (.ref a), .val .null, .unset] [])) t
    refine XS.aloadN X0.here hx rfl (hb hby deqN_7) rfl rfl ?_
    show Steps p.tables e below (s₁.setTop (mkF m 8 #[.val (.ref a), .val .null, .unset] [.null])) t
    refine X0.instanceofNull hx (g := (mkF m 8 #[.val (.ref a), .val .null, .unset] [.null])) rfl rfl (hb hby deqN_8) _ ?_
    show Steps p.tables e below (s₁.setTop (mkF m 11 #[.val (.ref a), .val .null, .unset] [(.int (0 : Int32))])) t
    refine XS.ifYes X0.here hx rfl (pc0 := 11) (pc' := 54) rfl (hb hby deqN_11) rfl ((if0 _ _).trans (teq rfl).1) (by decide) (by decide) ?_
    show Steps p.tables e below (s₁.setTop (mkF m 54 #[.val (.ref a), .val .null, .unset] [])) t
    refine XS.iconst X0.here hx rfl (hb hby deqN_54) ?_
    exact ht
  obtain ⟨fs, hr, hrun, hended, hW, hsame⟩ := X0.leave (v := some (.int (0 : Int32))) (fun h => by rw [Bd.returns] at h; cases h)
  refine ⟨_, _, k53 _ ?_, hrun, hended, _, _, rfl, ?_, ⟨_, rfl⟩, hW, hsame.mono (by decide) (by decide)⟩
  · exact retN X0 hx (t := .boolean) Bd.returns (by simp) (hb hby deqN_55) hr
  · show QeqN Z a h0 n0 _ s₁.heap _
    rw [e0]
    exact ⟨rfl, N0, rfl⟩
theorem disrr_0 : decode prog_154_method_3_code 0 = .ok (.ldc 51, 2) := by decide +kernel
theorem disrr_2 : decode prog_154_method_3_code 2 = .ok (.aload_n 0, 1) := by decide +kernel
theorem disrr_3 : decode prog_154_method_3_code 3 = .ok (.invokevirtual 53, 3) := by decide +kernel
theorem disrr_6 : decode prog_154_method_3_code 6 = .ok (.ifCond .eq 16, 3) := by decide +kernel
theorem disrr_9 : decode prog_154_method_3_code 9 = .ok (.ldc 59, 2) := by decide +kernel
theorem disrr_11 : decode prog_154_method_3_code 11 = .ok (.aload_n 1, 1) := by decide +kernel
theorem disrr_12 : decode prog_154_method_3_code 12 = .ok (.invokevirtual 53, 3) := by decide +kernel
theorem disrr_15 : decode prog_154_method_3_code 15 = .ok (.ifCond .eq 7, 3) := by decide +kernel
theorem disrr_18 : decode prog_154_method_3_code 18 = .ok (.iconst 1, 1) := by decide +kernel
theorem disrr_19 : decode prog_154_method_3_code 19 = .ok (.goto 4, 3) := by decide +kernel
theorem disrr_22 : decode prog_154_method_3_code 22 = .ok (.iconst 0, 1) := by decide +kernel
theorem disrr_23 : decode prog_154_method_3_code 23 = .ok (.ireturn, 1) := by decide +kernel
theorem pnisrr : plainName "com/example/subscriptor/subscriptor/XmlSignature" = true := by first | (simp [plainName, overriddenIn]; done) | decide +kernel
theorem efisrr (m : MethodId) (x1 : Addr) (x2 : Addr) : entryFrame m #[(.ref x1), (.ref x2)] 2 = mkF m 0 #[.val (.ref x1), .val (.ref x2)] [] := by first | (simp [entryFrame, mkF, argsToLocals, Value.category]; done) | rfl
def Qisrr (Z : State) (x1 : Addr) (t1 : Addr) (k1 : ClassId) (cs : List Int32) (x2 : Addr) (t2 : Addr) (k2 : ClassId) (ds : List Int32) (G1 : Int32) (h0 : Heap) (n0 : Nat) (v : Option Value) (h : Heap) (L : List Loc) : Prop := v = some (.int (own_b (own_ns = cs ∧ own_ln = ds))) ∧ Fr n0 L
set_option maxRecDepth 65536 in
set_option maxHeartbeats 40000000 in
theorem rmisrr (l : Launch) (Z : State) (a0 : Array Value) (hw : ∀ d ∈ tables_1, d.before a0 Z = true) (ws : List Jvm.Cond) (x1 : Addr) (t1 : Addr) (k1 : ClassId) (cs : List Int32) (x2 : Addr) (t2 : Addr) (k2 : ClassId) (ds : List Int32) (G1 : Int32) (h0 : Heap) (n0 : Nat) (Z0 : n0 ≤ h0.size) (hEL : EW Z a0 consts_1) (S1 : Sta Z Z.heap "java/lang/String" "COMPACT_STRINGS" "Z" (.int G1)) (P5 : ¬ (G1 = (0 : Int32))) (O : Old Z n0 h0) (uE : Exa Z h0 x1 "java/lang/String") (uC : Fld Z h0 x1 "java/lang/String" "coder" "B" (.int (0 : Int32))) (uV : Fld Z h0 x1 "java/lang/String" "value" "[B" (.ref t1)) (uK : Arv Z h0 t1 k1 .byte (Int32.ofNat cs.length) (own_by cs) (.int (0 : Int32))) (ur : ∀ c ∈ cs, own_r c) (ul : cs.length ≤ 4000) (wE : Exa Z h0 x2 "java/lang/String") (wC : Fld Z h0 x2 "java/lang/String" "coder" "B" (.int (0 : Int32))) (wV : Fld Z h0 x2 "java/lang/String" "value" "[B" (.ref t2)) (wK : Arv Z h0 t2 k2 .byte (Int32.ofNat ds.length) (own_by ds) (.int (0 : Int32))) (wr : ∀ c ∈ ds, own_r c) (wl : ds.length ≤ 4000) :
    MetFree l (⟨"com/example/subscriptor/subscriptor/XmlSignature", "isSignature", "(Ljava/lang/String;Ljava/lang/String;)Z"⟩ : MethodName) (head1 (Jvm.Cond.code (⟨"com/example/subscriptor/subscriptor/XmlSignature", "isSignature", "(Ljava/lang/String;Ljava/lang/String;)Z"⟩ : MethodName) prog_154_method_3_code 2 (some .boolean) :: ws) ({ frames := 3, cells := 4, slots := 180, locals := 45 } : Room)) (fun gs' U => gs' = #[(.ref x1), (.ref x2)] ∧ Z.Warmed39 U.vm ∧ U.heap = h0 ∧ CHv Z consts_1 U.vm h0 ∧ ∀ x ∈ ([] : List Addr), Safe Z consts_1 U.vm h0 x) (fun _ _ _ _ _ => True) (fun _ U o U' => ∃ v L, o = .returned v ∧ Qisrr Z x1 t1 k1 cs x2 t2 k2 ds G1 h0 n0 v U'.heap L ∧ CHr Z consts_1 U.vm U.heap U'.vm U'.heap ∧ ReturnedEndW U o U' L ({ frames := 3, cells := 4, slots := 180, locals := 45 } : Room).cells ({ frames := 3, cells := 4, slots := 180, locals := 45 } : Room).slots) := by
  refine MetFree.of_bodySF (plainFor_of_name pnisrr) hisR ?_
  intro p e s m args below meth c s₁ Bd hml0 hP hK
  obtain ⟨rfl, hZ, hh, hCH, hSf⟩ := hP
  have hx := Bd.exec
  have hby := Bd.bytes
  have hml : c.maxLocals = 2 := hml0
  have hown : s.vm.findClass "com/example/subscriptor/subscriptor/XmlSignature" = some m.cls := findClass_of_methodNamed Bd.named
  have hnm := (name_of_methodNamed Bd.named Bd.method).1
  have X0 : Stand p l e ({ frames := 3, cells := 4, slots := 180, locals := 45 } : Room) (s.setVm s.vm) m #[(.ref x1), (.ref x2)] below meth c s₁ [] 0 0 := Stand.of_body Bd
  have e0 : s₁.heap = h0 := by rw [← hh, Bd.state]; rfl
  have N0 := Fr.nil n0
  have k0 : Kt p e below m (s₁.setTop (entryFrame m #[(.ref x1), (.ref x2)] 2)) s₁ 0 #[.val (.ref x1), .val (.ref x2)] [] := fun t ht => castTop (efisrr m x1 x2) ht
  have R0 : CHr Z consts_1 s.vm h0 s.vm h0 := CHr.refl hCH
  have wS : ∀ a ∈ Bundle.stringAtoms, a.before a0 Z = true := by
    intro a ha
    simp only [Bundle.stringAtoms, List.mem_cons, List.not_mem_nil, or_false] at ha
    rcases ha with rfl | rfl | rfl | rfl | rfl | rfl | rfl
    · exact (hw _ (List.mem_of_getElem? (i := 4) rfl))
    · exact (hw _ (List.mem_of_getElem? (i := 3) rfl))
    · exact (hw _ (List.mem_of_getElem? (i := 20) rfl))
    · exact (hw _ (List.mem_of_getElem? (i := 30) rfl))
    · exact (hw _ (List.mem_of_getElem? (i := 28) rfl))
    · exact (hw _ (List.mem_of_getElem? (i := 36) rfl))
    · exact (hw _ (List.mem_of_getElem? (i := 37) rfl))
  have heq : ∀ d ∈ StrChars.Road.wordsEq, d.before a0 Z = true := fun d hd => hw d ((by decide +kernel : ∀ d ∈ StrChars.Road.wordsEq, d ∈ tables_1) d hd)
  obtain ⟨s1, T54, h54, kb54, b1, ck54, X54, e54, E54, hS54, hk54, hZ54, hown54, Ex54, Fc54, Fv54, Va54, la54, lb54, hR54, -, hne54, st54⟩ := ldcCH (s := s) (vm0 := s.vm) X0 hx hZ hown (hw _ (List.mem_of_getElem? (i := 35) rfl)) wS e0 ((State.WarmedH.refl s).since 0) (Nat.zero_le _) hEL (EL := consts_1) (by decide) R0.1 (vs := (own_by own_ns)) (z := (Int32.ofNat own_ns.length)) (by decide +kernel) (by decide) (by decide) (g := (mkF m 0 #[.val (.ref x1), .val (.ref x2)] [])) rfl (hb hby disrr_0) (n := 136) (by decide +kernel) (by decide) (by decide) (by decide)
  have f55 : n0 ≤ h54.size := Nat.le_trans Z0 E54.1
  have f56 : CHr Z consts_1 s.vm h0 T54.vm h54 := R0.trans hR54
  have f57 : Old Z n0 h54 := O.ext E54
  have f58 : Exa Z h54 x1 "java/lang/String" := uE.ext E54
  have f59 : Fld Z h54 x1 "java/lang/String" "coder" "B" (.int (0 : Int32)) := uC.ext E54
  have f60 : Fld Z h54 x1 "java/lang/String" "value" "[B" (.ref t1) := uV.ext E54
  have f61 : Arv Z h54 t1 k1 .byte (Int32.ofNat cs.length) (own_by cs) (.int (0 : Int32)) := uK.ext E54
  have f62 : Exa Z h54 x2 "java/lang/String" := wE.ext E54
  have f63 : Fld Z h54 x2 "java/lang/String" "coder" "B" (.int (0 : Int32)) := wC.ext E54
  have f64 : Fld Z h54 x2 "java/lang/String" "value" "[B" (.ref t2) := wV.ext E54
  have f65 : Arv Z h54 t2 k2 .byte (Int32.ofNat ds.length) (own_by ds) (.int (0 : Int32)) := wK.ext E54
  have k54 : Kt p e below m (s₁.setTop (entryFrame m #[(.ref x1), (.ref x2)] 2)) T54 2 #[.val (.ref x1), .val (.ref x2)] [(.ref s1)] := fun t ht => k0 t (st54 t ht)
  have k66 : Kt p e below m (s₁.setTop (entryFrame m #[(.ref x1), (.ref x2)] 2)) T54 3 #[.val (.ref x1), .val (.ref x2)] [(.ref x1), (.ref s1)] := by
    intro t ht
    refine k54 t ?_
    show Steps p.tables e below (T54.setTop (mkF m 2 #[.val (.ref x1), .val (.ref x2)] [(.ref s1)])) t
    refine XS.aloadN X54.here hx rfl (hb hby disrr_2) rfl rfl ?_
    exact ht
  obtain ⟨cq67, kq67, q67a, q67b, q67c⟩ := isOf hZ54 e54 Ex54
  obtain ⟨_, _, ⟨T67, L67, c67, n67⟩, -, X67, ⟨Lc67, hQ67, l67, y67, z67⟩, st67⟩ := X54.virtualBack hx (y := (⟨"java/lang/String", "equals", "(Ljava/lang/Object;)Z"⟩ : MethodName)) (z := (⟨"java/lang/String", "equals", "(Ljava/lang/Object;)Z"⟩ : MethodName)) hown54 (mvT hZ54 (hw _ (List.mem_of_getElem? (i := 38) rfl))) (mvT hZ54 (hw _ (List.mem_of_getElem? (i := 39) rfl))) (notFace_of_selects (args := #[]) (mvT hZ54 (hw _ (List.mem_of_getElem? (i := 41) rfl)))) (mvT hZ54 (hw _ (List.mem_of_getElem? (i := 41) rfl))) (mvT hZ54 (hw _ (List.mem_of_getElem? (i := 40) rfl))) (by decide) (StrChars.Road.eqW (W := 0) hZ54 heq (kI := 4) (hw _ (List.mem_of_getElem? (i := 3) rfl)) Ex54 Fv54 Fc54 Va54 (own_cod own_ns_r) (own_up own_ns_r) (by decide) f58 f60 f59 f61 (own_cod ur) (own_up ur) ul (S1.ext f57.2) P5 (by decide) (by decide)) q67a q67c (g := (mkF m 3 #[.val (.ref x1), .val (.ref x2)] [(.ref x1), (.ref s1)])) rfl (by rw [hml]; rfl) (Steps.refl _) (argsL := [(.ref x1)]) (rest := []) (lenOf pd_4 rfl) rfl (by show 2 * 0 + _ ≤ _; exact Nat.le_of_eq rfl) (hb hby disrr_3) (fun _ _ => ⟨rfl, e54, (by decide : 2 + 0 ≤ _), (by decide : 140 + 0 ≤ _)⟩)
  dsimp only [Pt.U, Pt.locs, Pt.cells, Pt.slots] at X67 l67 y67 z67 st67 hQ67
  subst l67 y67 z67
  obtain ⟨hz67, hL67, eq67⟩ := hQ67
  obtain rfl := own_eq2 hz67
  subst hL67
  have Nq67 := Fr.nil n0
  have N67 := Fr.app N0 Nq67
  have k67 : Kt p e below m (s₁.setTop (entryFrame m #[(.ref x1), (.ref x2)] 2)) T67 6 #[.val (.ref x1), .val (.ref x2)] [(.int (own_b (own_ns = cs)))] := fun t ht => k66 t (st67.trans ht)
  have f68 : n0 ≤ T67.heap.size := by rw [eq67]; exact f55
  have f69 : CHr Z consts_1 s.vm h0 T54.vm T67.heap := by rw [eq67]; exact f56
  have f70 : Old Z n0 T67.heap := by rw [eq67]; exact f57
  have f71 : Exa Z T67.heap x1 "java/lang/String" := by rw [eq67]; exact f58
  have f72 : Fld Z T67.heap x1 "java/lang/String" "coder" "B" (.int (0 : Int32)) := by rw [eq67]; exact f59
  have f73 : Fld Z T67.heap x1 "java/lang/String" "value" "[B" (.ref t1) := by rw [eq67]; exact f60
  have f74 : Arv Z T67.heap t1 k1 .byte (Int32.ofNat cs.length) (own_by cs) (.int (0 : Int32)) := by rw [eq67]; exact f61
  have f75 : Exa Z T67.heap x2 "java/lang/String" := by rw [eq67]; exact f62
  have f76 : Fld Z T67.heap x2 "java/lang/String" "coder" "B" (.int (0 : Int32)) := by rw [eq67]; exact f63
  have f77 : Fld Z T67.heap x2 "java/lang/String" "value" "[B" (.ref t2) := by rw [eq67]; exact f64
  have f78 : Arv Z T67.heap t2 k2 .byte (Int32.ofNat ds.length) (own_by ds) (.int (0 : Int32)) := by rw [eq67]; exact f65
  have f79 : kb54 ≤ T67.heap.size := by rw [eq67]; exact hk54
  have f80 : Exa Z T67.heap s1 "java/lang/String" := by rw [eq67]; exact Ex54
  have f81 : Fld Z T67.heap s1 "java/lang/String" "coder" "B" (.int (0 : Int32)) := by rw [eq67]; exact Fc54
  have f82 : Fld Z T67.heap s1 "java/lang/String" "value" "[B" (.ref b1) := by rw [eq67]; exact Fv54
  have f83 : Arv Z T67.heap b1 ck54 .byte (Int32.ofNat own_ns.length) (own_by own_ns) (.int (0 : Int32)) := by rw [eq67]; exact Va54
  by_cases h1 : (own_b (own_ns = cs)) = (0 : Int32)
  · have k84 : Kt p e below m (s₁.setTop (entryFrame m #[(.ref x1), (.ref x2)] 2)) T67 23 #[.val (.ref x1), .val (.ref x2)] [(.int (0 : Int32))] := by
      intro t ht
      refine k67 t ?_
      show Steps p.tables e below (T67.setTop (mkF m 6 #[.val (.ref x1), .val (.ref x2)] [(.int (own_b (own_ns = cs)))])) t
      refine XS.ifYes X67.here hx rfl (pc0 := 6) (pc' := 22) rfl (hb hby disrr_6) rfl ((if0 _ _).trans (teq h1).1) (by decide) (by decide) ?_
      show Steps p.tables e below (T67.setTop (mkF m 22 #[.val (.ref x1), .val (.ref x2)] [])) t
      refine XS.iconst X67.here hx rfl (hb hby disrr_22) ?_
      exact ht
    obtain ⟨fs, hr, hrun, hended, -, hW, hbk, hsame⟩ := Stand.leaveW (s := s) (vm₁ := T54.vm) X67 (hS54) (by exact f79) (v := some (.int (0 : Int32))) (fun h => by rw [Bd.returns] at h; cases h)
    refine ⟨_, _, k84 _ ?_, hrun, hended, _, _, rfl, ?_, ?_, ⟨_, rfl⟩, hW, hbk, hsame.mono (by decide) (by decide)⟩
    · exact retN X67 hx (t := .boolean) Bd.returns (by simp) (hb hby disrr_23) hr
    · show Qisrr Z x1 t1 k1 cs x2 t2 k2 ds G1 h0 n0 _ T67.heap _
      exact ⟨congrArg (fun z => some (Value.int z)) (own_b0 (fun q => own_bz.mp h1 q.1)), N67⟩
    · show CHr Z consts_1 s.vm s.heap T67.vm T67.heap
      rw [hh]
      exact f69.trans (CHv.at (s := s) (vm0 := T54.vm) X67 hZ54 hEL f69.1)
  · have k85 : Kt p e below m (s₁.setTop (entryFrame m #[(.ref x1), (.ref x2)] 2)) T67 9 #[.val (.ref x1), .val (.ref x2)] [] := by
      intro t ht
      refine k67 t ?_
      show Steps p.tables e below (T67.setTop (mkF m 6 #[.val (.ref x1), .val (.ref x2)] [(.int (own_b (own_ns = cs)))])) t
      refine XS.ifNo X67.here hx rfl (hb hby disrr_6) rfl ((if0 _ _).trans (feq h1).1) ?_
      exact ht
    obtain ⟨s2, T86, h86, kb86, b2, ck86, X86, e86, E86, hS86, hk86, hZ86, hown86, Ex86, Fc86, Fv86, Va86, la86, lb86, hR86, -, hne86, st86⟩ := ldcCH (s := s) (vm0 := T54.vm) X67 hx hZ54 hown54 (hw _ (List.mem_of_getElem? (i := 50) rfl)) wS rfl hS54 f79 hEL (EL := consts_1) (by decide) f69.1 (vs := (own_by own_ln)) (z := (Int32.ofNat own_ln.length)) (by decide +kernel) (by decide) (by decide) (g := (mkF m 9 #[.val (.ref x1), .val (.ref x2)] [])) rfl (hb hby disrr_9) (n := 36) (by decide +kernel) (by decide) (by decide) (by decide)
    have f87 : n0 ≤ h86.size := Nat.le_trans f68 E86.1
    have f88 : CHr Z consts_1 s.vm h0 T86.vm h86 := f69.trans hR86
    have f89 : Old Z n0 h86 := f70.ext E86
    have f90 : Exa Z h86 x1 "java/lang/String" := f71.ext E86
    have f91 : Fld Z h86 x1 "java/lang/String" "coder" "B" (.int (0 : Int32)) := f72.ext E86
    have f92 : Fld Z h86 x1 "java/lang/String" "value" "[B" (.ref t1) := f73.ext E86
    have f93 : Arv Z h86 t1 k1 .byte (Int32.ofNat cs.length) (own_by cs) (.int (0 : Int32)) := f74.ext E86
    have f94 : Exa Z h86 x2 "java/lang/String" := f75.ext E86
    have f95 : Fld Z h86 x2 "java/lang/String" "coder" "B" (.int (0 : Int32)) := f76.ext E86
    have f96 : Fld Z h86 x2 "java/lang/String" "value" "[B" (.ref t2) := f77.ext E86
    have f97 : Arv Z h86 t2 k2 .byte (Int32.ofNat ds.length) (own_by ds) (.int (0 : Int32)) := f78.ext E86
    have f98 : kb54 ≤ h86.size := Nat.le_trans f79 E86.1
    have f99 : Exa Z h86 s1 "java/lang/String" := f80.ext E86
    have f100 : Fld Z h86 s1 "java/lang/String" "coder" "B" (.int (0 : Int32)) := f81.ext E86
    have f101 : Fld Z h86 s1 "java/lang/String" "value" "[B" (.ref b1) := f82.ext E86
    have f102 : Arv Z h86 b1 ck54 .byte (Int32.ofNat own_ns.length) (own_by own_ns) (.int (0 : Int32)) := f83.ext E86
    have k86 : Kt p e below m (s₁.setTop (entryFrame m #[(.ref x1), (.ref x2)] 2)) T86 11 #[.val (.ref x1), .val (.ref x2)] [(.ref s2)] := fun t ht => k85 t (st86 t ht)
    have k103 : Kt p e below m (s₁.setTop (entryFrame m #[(.ref x1), (.ref x2)] 2)) T86 12 #[.val (.ref x1), .val (.ref x2)] [(.ref x2), (.ref s2)] := by
      intro t ht
      refine k86 t ?_
      show Steps p.tables e below (T86.setTop (mkF m 11 #[.val (.ref x1), .val (.ref x2)] [(.ref s2)])) t
      refine XS.aloadN X86.here hx rfl (hb hby disrr_11) rfl rfl ?_
      exact ht
    obtain ⟨cq104, kq104, q104a, q104b, q104c⟩ := isOf hZ86 e86 Ex86
    obtain ⟨_, _, ⟨T104, L104, c104, n104⟩, -, X104, ⟨Lc104, hQ104, l104, y104, z104⟩, st104⟩ := X86.virtualBack hx (y := (⟨"java/lang/String", "equals", "(Ljava/lang/Object;)Z"⟩ : MethodName)) (z := (⟨"java/lang/String", "equals", "(Ljava/lang/Object;)Z"⟩ : MethodName)) hown86 (mvT hZ86 (hw _ (List.mem_of_getElem? (i := 38) rfl))) (mvT hZ86 (hw _ (List.mem_of_getElem? (i := 39) rfl))) (notFace_of_selects (args := #[]) (mvT hZ86 (hw _ (List.mem_of_getElem? (i := 41) rfl)))) (mvT hZ86 (hw _ (List.mem_of_getElem? (i := 41) rfl))) (mvT hZ86 (hw _ (List.mem_of_getElem? (i := 40) rfl))) (by decide) (StrChars.Road.eqW (W := 0) hZ86 heq (kI := 4) (hw _ (List.mem_of_getElem? (i := 3) rfl)) Ex86 Fv86 Fc86 Va86 (own_cod own_ln_r) (own_up own_ln_r) (by decide) f94 f96 f95 f97 (own_cod wr) (own_up wr) wl (S1.ext f89.2) P5 (by decide) (by decide)) q104a q104c (g := (mkF m 12 #[.val (.ref x1), .val (.ref x2)] [(.ref x2), (.ref s2)])) rfl (by rw [hml]; rfl) (Steps.refl _) (argsL := [(.ref x2)]) (rest := []) (lenOf pd_4 rfl) rfl (by show 2 * 0 + _ ≤ _; exact Nat.le_of_eq rfl) (hb hby disrr_12) (fun _ _ => ⟨rfl, e86, (by decide : 4 + 0 ≤ _), (by decide : 180 + 0 ≤ _)⟩)
    dsimp only [Pt.U, Pt.locs, Pt.cells, Pt.slots] at X104 l104 y104 z104 st104 hQ104
    subst l104 y104 z104
    obtain ⟨hz104, hL104, eq104⟩ := hQ104
    obtain rfl := own_eq2 hz104
    subst hL104
    have Nq104 := Fr.nil n0
    have N104 := Fr.app N67 Nq104
    have k104 : Kt p e below m (s₁.setTop (entryFrame m #[(.ref x1), (.ref x2)] 2)) T104 15 #[.val (.ref x1), .val (.ref x2)] [(.int (own_b (own_ln = ds)))] := fun t ht => k103 t (st104.trans ht)
    have f105 : n0 ≤ T104.heap.size := by rw [eq104]; exact f87
    have f106 : CHr Z consts_1 s.vm h0 T86.vm T104.heap := by rw [eq104]; exact f88
    have f107 : Old Z n0 T104.heap := by rw [eq104]; exact f89
    have f108 : Exa Z T104.heap x1 "java/lang/String" := by rw [eq104]; exact f90
    have f109 : Fld Z T104.heap x1 "java/lang/String" "coder" "B" (.int (0 : Int32)) := by rw [eq104]; exact f91
    have f110 : Fld Z T104.heap x1 "java/lang/String" "value" "[B" (.ref t1) := by rw [eq104]; exact f92
    have f111 : Arv Z T104.heap t1 k1 .byte (Int32.ofNat cs.length) (own_by cs) (.int (0 : Int32)) := by rw [eq104]; exact f93
    have f112 : Exa Z T104.heap x2 "java/lang/String" := by rw [eq104]; exact f94
    have f113 : Fld Z T104.heap x2 "java/lang/String" "coder" "B" (.int (0 : Int32)) := by rw [eq104]; exact f95
    have f114 : Fld Z T104.heap x2 "java/lang/String" "value" "[B" (.ref t2) := by rw [eq104]; exact f96
    have f115 : Arv Z T104.heap t2 k2 .byte (Int32.ofNat ds.length) (own_by ds) (.int (0 : Int32)) := by rw [eq104]; exact f97
    have f116 : kb86 ≤ T104.heap.size := by rw [eq104]; exact hk86
    have f117 : Exa Z T104.heap s1 "java/lang/String" := by rw [eq104]; exact f99
    have f118 : Fld Z T104.heap s1 "java/lang/String" "coder" "B" (.int (0 : Int32)) := by rw [eq104]; exact f100
    have f119 : Fld Z T104.heap s1 "java/lang/String" "value" "[B" (.ref b1) := by rw [eq104]; exact f101
    have f120 : Arv Z T104.heap b1 ck54 .byte (Int32.ofNat own_ns.length) (own_by own_ns) (.int (0 : Int32)) := by rw [eq104]; exact f102
    have f121 : Exa Z T104.heap s2 "java/lang/String" := by rw [eq104]; exact Ex86
    have f122 : Fld Z T104.heap s2 "java/lang/String" "coder" "B" (.int (0 : Int32)) := by rw [eq104]; exact Fc86
    have f123 : Fld Z T104.heap s2 "java/lang/String" "value" "[B" (.ref b2) := by rw [eq104]; exact Fv86
    have f124 : Arv Z T104.heap b2 ck86 .byte (Int32.ofNat own_ln.length) (own_by own_ln) (.int (0 : Int32)) := by rw [eq104]; exact Va86
    by_cases h2 : (own_b (own_ln = ds)) = (0 : Int32)
    · have k125 : Kt p e below m (s₁.setTop (entryFrame m #[(.ref x1), (.ref x2)] 2)) T104 23 #[.val (.ref x1), .val (.ref x2)] [(.int (0 : Int32))] := by
        intro t ht
        refine k104 t ?_
        show Steps p.tables e below (T104.setTop (mkF m 15 #[.val (.ref x1), .val (.ref x2)] [(.int (own_b (own_ln = ds)))])) t
        refine XS.ifYes X104.here hx rfl (pc0 := 15) (pc' := 22) rfl (hb hby disrr_15) rfl ((if0 _ _).trans (teq h2).1) (by decide) (by decide) ?_
        show Steps p.tables e below (T104.setTop (mkF m 22 #[.val (.ref x1), .val (.ref x2)] [])) t
        refine XS.iconst X104.here hx rfl (hb hby disrr_22) ?_
        exact ht
      obtain ⟨fs, hr, hrun, hended, -, hW, hbk, hsame⟩ := Stand.leaveW (s := s) (vm₁ := T86.vm) X104 (hS86) (by exact f116) (v := some (.int (0 : Int32))) (fun h => by rw [Bd.returns] at h; cases h)
      refine ⟨_, _, k125 _ ?_, hrun, hended, _, _, rfl, ?_, ?_, ⟨_, rfl⟩, hW, hbk, hsame.mono (by decide) (by decide)⟩
      · exact retN X104 hx (t := .boolean) Bd.returns (by simp) (hb hby disrr_23) hr
      · show Qisrr Z x1 t1 k1 cs x2 t2 k2 ds G1 h0 n0 _ T104.heap _
        exact ⟨congrArg (fun z => some (Value.int z)) (own_b0 (fun q => own_bz.mp h2 q.2)), N104⟩
      · show CHr Z consts_1 s.vm s.heap T104.vm T104.heap
        rw [hh]
        exact f106.trans (CHv.at (s := s) (vm0 := T86.vm) X104 hZ86 hEL f106.1)
    · have k126 : Kt p e below m (s₁.setTop (entryFrame m #[(.ref x1), (.ref x2)] 2)) T104 23 #[.val (.ref x1), .val (.ref x2)] [(.int (1 : Int32))] := by
        intro t ht
        refine k104 t ?_
        show Steps p.tables e below (T104.setTop (mkF m 15 #[.val (.ref x1), .val (.ref x2)] [(.int (own_b (own_ln = ds)))])) t
        refine XS.ifNo X104.here hx rfl (hb hby disrr_15) rfl ((if0 _ _).trans (feq h2).1) ?_
        show Steps p.tables e below (T104.setTop (mkF m 18 #[.val (.ref x1), .val (.ref x2)] [])) t
        refine XS.iconst X104.here hx rfl (hb hby disrr_18) ?_
        show Steps p.tables e below (T104.setTop (mkF m 19 #[.val (.ref x1), .val (.ref x2)] [(.int (1 : Int32))])) t
        refine XS.goto X104.here hx rfl (pc0 := 19) (pc' := 23) rfl (hb hby disrr_19) (by decide) (by decide) ?_
        exact ht
      obtain ⟨fs, hr, hrun, hended, -, hW, hbk, hsame⟩ := Stand.leaveW (s := s) (vm₁ := T86.vm) X104 (hS86) (by exact f116) (v := some (.int (1 : Int32))) (fun h => by rw [Bd.returns] at h; cases h)
      refine ⟨_, _, k126 _ ?_, hrun, hended, _, _, rfl, ?_, ?_, ⟨_, rfl⟩, hW, hbk, hsame.mono (by decide) (by decide)⟩
      · exact retN X104 hx (t := .boolean) Bd.returns (by simp) (hb hby disrr_23) hr
      · show Qisrr Z x1 t1 k1 cs x2 t2 k2 ds G1 h0 n0 _ T104.heap _
        exact ⟨congrArg (fun z => some (Value.int z)) (own_b1 ⟨Classical.not_not.mp fun q => h1 (own_bz.mpr q), Classical.not_not.mp fun q => h2 (own_bz.mpr q)⟩), N104⟩
      · show CHr Z consts_1 s.vm s.heap T104.vm T104.heap
        rw [hh]
        exact f106.trans (CHv.at (s := s) (vm0 := T86.vm) X104 hZ86 hEL f106.1)
theorem disrn_0 : decode prog_154_method_3_code 0 = .ok (.ldc 51, 2) := by decide +kernel
theorem disrn_2 : decode prog_154_method_3_code 2 = .ok (.aload_n 0, 1) := by decide +kernel
theorem disrn_3 : decode prog_154_method_3_code 3 = .ok (.invokevirtual 53, 3) := by decide +kernel
theorem disrn_6 : decode prog_154_method_3_code 6 = .ok (.ifCond .eq 16, 3) := by decide +kernel
theorem disrn_9 : decode prog_154_method_3_code 9 = .ok (.ldc 59, 2) := by decide +kernel
theorem disrn_11 : decode prog_154_method_3_code 11 = .ok (.aload_n 1, 1) := by decide +kernel
theorem disrn_12 : decode prog_154_method_3_code 12 = .ok (.invokevirtual 53, 3) := by decide +kernel
theorem disrn_15 : decode prog_154_method_3_code 15 = .ok (.ifCond .eq 7, 3) := by decide +kernel
theorem disrn_18 : decode prog_154_method_3_code 18 = .ok (.iconst 1, 1) := by decide +kernel
theorem disrn_19 : decode prog_154_method_3_code 19 = .ok (.goto 4, 3) := by decide +kernel
theorem disrn_22 : decode prog_154_method_3_code 22 = .ok (.iconst 0, 1) := by decide +kernel
theorem disrn_23 : decode prog_154_method_3_code 23 = .ok (.ireturn, 1) := by decide +kernel
theorem pnisrn : plainName "com/example/subscriptor/subscriptor/XmlSignature" = true := by first | (simp [plainName, overriddenIn]; done) | decide +kernel
theorem efisrn (m : MethodId) (x1 : Addr) : entryFrame m #[(.ref x1), .null] 2 = mkF m 0 #[.val (.ref x1), .val .null] [] := by first | (simp [entryFrame, mkF, argsToLocals, Value.category]; done) | rfl
def Qisrn (Z : State) (x1 : Addr) (t1 : Addr) (k1 : ClassId) (cs : List Int32) (G1 : Int32) (h0 : Heap) (n0 : Nat) (v : Option Value) (h : Heap) (L : List Loc) : Prop := v = some (.int 0) ∧ Fr n0 L
set_option maxRecDepth 65536 in
set_option maxHeartbeats 40000000 in
theorem rmisrn (l : Launch) (Z : State) (a0 : Array Value) (hw : ∀ d ∈ tables_1, d.before a0 Z = true) (ws : List Jvm.Cond) (x1 : Addr) (t1 : Addr) (k1 : ClassId) (cs : List Int32) (G1 : Int32) (h0 : Heap) (n0 : Nat) (Z0 : n0 ≤ h0.size) (hEL : EW Z a0 consts_1) (S1 : Sta Z Z.heap "java/lang/String" "COMPACT_STRINGS" "Z" (.int G1)) (P5 : ¬ (G1 = (0 : Int32))) (O : Old Z n0 h0) (uE : Exa Z h0 x1 "java/lang/String") (uC : Fld Z h0 x1 "java/lang/String" "coder" "B" (.int (0 : Int32))) (uV : Fld Z h0 x1 "java/lang/String" "value" "[B" (.ref t1)) (uK : Arv Z h0 t1 k1 .byte (Int32.ofNat cs.length) (own_by cs) (.int (0 : Int32))) (ur : ∀ c ∈ cs, own_r c) (ul : cs.length ≤ 4000) :
    MetFree l (⟨"com/example/subscriptor/subscriptor/XmlSignature", "isSignature", "(Ljava/lang/String;Ljava/lang/String;)Z"⟩ : MethodName) (head1 (Jvm.Cond.code (⟨"com/example/subscriptor/subscriptor/XmlSignature", "isSignature", "(Ljava/lang/String;Ljava/lang/String;)Z"⟩ : MethodName) prog_154_method_3_code 2 (some .boolean) :: ws) ({ frames := 3, cells := 4, slots := 180, locals := 45 } : Room)) (fun gs' U => gs' = #[(.ref x1), .null] ∧ Z.Warmed39 U.vm ∧ U.heap = h0 ∧ CHv Z consts_1 U.vm h0 ∧ ∀ x ∈ ([] : List Addr), Safe Z consts_1 U.vm h0 x) (fun _ _ _ _ _ => True) (fun _ U o U' => ∃ v L, o = .returned v ∧ Qisrn Z x1 t1 k1 cs G1 h0 n0 v U'.heap L ∧ CHr Z consts_1 U.vm U.heap U'.vm U'.heap ∧ ReturnedEndW U o U' L ({ frames := 3, cells := 4, slots := 180, locals := 45 } : Room).cells ({ frames := 3, cells := 4, slots := 180, locals := 45 } : Room).slots) := by
  refine MetFree.of_bodySF (plainFor_of_name pnisrn) hisR ?_
  intro p e s m args below meth c s₁ Bd hml0 hP hK
  obtain ⟨rfl, hZ, hh, hCH, hSf⟩ := hP
  have hx := Bd.exec
  have hby := Bd.bytes
  have hml : c.maxLocals = 2 := hml0
  have hown : s.vm.findClass "com/example/subscriptor/subscriptor/XmlSignature" = some m.cls := findClass_of_methodNamed Bd.named
  have hnm := (name_of_methodNamed Bd.named Bd.method).1
  have X0 : Stand p l e ({ frames := 3, cells := 4, slots := 180, locals := 45 } : Room) (s.setVm s.vm) m #[(.ref x1), .null] below meth c s₁ [] 0 0 := Stand.of_body Bd
  have e0 : s₁.heap = h0 := by rw [← hh, Bd.state]; rfl
  have N0 := Fr.nil n0
  have k0 : Kt p e below m (s₁.setTop (entryFrame m #[(.ref x1), .null] 2)) s₁ 0 #[.val (.ref x1), .val .null] [] := fun t ht => castTop (efisrn m x1) ht
  have R0 : CHr Z consts_1 s.vm h0 s.vm h0 := CHr.refl hCH
  have wS : ∀ a ∈ Bundle.stringAtoms, a.before a0 Z = true := by
    intro a ha
    simp only [Bundle.stringAtoms, List.mem_cons, List.not_mem_nil, or_false] at ha
    rcases ha with rfl | rfl | rfl | rfl | rfl | rfl | rfl
    · exact (hw _ (List.mem_of_getElem? (i := 4) rfl))
    · exact (hw _ (List.mem_of_getElem? (i := 3) rfl))
    · exact (hw _ (List.mem_of_getElem? (i := 20) rfl))
    · exact (hw _ (List.mem_of_getElem? (i := 30) rfl))
    · exact (hw _ (List.mem_of_getElem? (i := 28) rfl))
    · exact (hw _ (List.mem_of_getElem? (i := 36) rfl))
    · exact (hw _ (List.mem_of_getElem? (i := 37) rfl))
  have heq : ∀ d ∈ StrChars.Road.wordsEq, d.before a0 Z = true := fun d hd => hw d ((by decide +kernel : ∀ d ∈ StrChars.Road.wordsEq, d ∈ tables_1) d hd)
  obtain ⟨s1, T127, h127, kb127, b1, ck127, X127, e127, E127, hS127, hk127, hZ127, hown127, Ex127, Fc127, Fv127, Va127, la127, lb127, hR127, -, hne127, st127⟩ := ldcCH (s := s) (vm0 := s.vm) X0 hx hZ hown (hw _ (List.mem_of_getElem? (i := 35) rfl)) wS e0 ((State.WarmedH.refl s).since 0) (Nat.zero_le _) hEL (EL := consts_1) (by decide) R0.1 (vs := (own_by own_ns)) (z := (Int32.ofNat own_ns.length)) (by decide +kernel) (by decide) (by decide) (g := (mkF m 0 #[.val (.ref x1), .val .null] [])) rfl (hb hby disrn_0) (n := 136) (by decide +kernel) (by decide) (by decide) (by decide)
  have f128 : n0 ≤ h127.size := Nat.le_trans Z0 E127.1
  have f129 : CHr Z consts_1 s.vm h0 T127.vm h127 := R0.trans hR127
  have f130 : Old Z n0 h127 := O.ext E127
  have f131 : Exa Z h127 x1 "java/lang/String" := uE.ext E127
  have f132 : Fld Z h127 x1 "java/lang/String" "coder" "B" (.int (0 : Int32)) := uC.ext E127
  have f133 : Fld Z h127 x1 "java/lang/String" "value" "[B" (.ref t1) := uV.ext E127
  have f134 : Arv Z h127 t1 k1 .byte (Int32.ofNat cs.length) (own_by cs) (.int (0 : Int32)) := uK.ext E127
  have k127 : Kt p e below m (s₁.setTop (entryFrame m #[(.ref x1), .null] 2)) T127 2 #[.val (.ref x1), .val .null] [(.ref s1)] := fun t ht => k0 t (st127 t ht)
  have k135 : Kt p e below m (s₁.setTop (entryFrame m #[(.ref x1), .null] 2)) T127 3 #[.val (.ref x1), .val .null] [(.ref x1), (.ref s1)] := by
    intro t ht
    refine k127 t ?_
    show Steps p.tables e below (T127.setTop (mkF m 2 #[.val (.ref x1), .val .null] [(.ref s1)])) t
    refine XS.aloadN X127.here hx rfl (hb hby disrn_2) rfl rfl ?_
    exact ht
  obtain ⟨cq136, kq136, q136a, q136b, q136c⟩ := isOf hZ127 e127 Ex127
  obtain ⟨_, _, ⟨T136, L136, c136, n136⟩, -, X136, ⟨Lc136, hQ136, l136, y136, z136⟩, st136⟩ := X127.virtualBack hx (y := (⟨"java/lang/String", "equals", "(Ljava/lang/Object;)Z"⟩ : MethodName)) (z := (⟨"java/lang/String", "equals", "(Ljava/lang/Object;)Z"⟩ : MethodName)) hown127 (mvT hZ127 (hw _ (List.mem_of_getElem? (i := 38) rfl))) (mvT hZ127 (hw _ (List.mem_of_getElem? (i := 39) rfl))) (notFace_of_selects (args := #[]) (mvT hZ127 (hw _ (List.mem_of_getElem? (i := 41) rfl)))) (mvT hZ127 (hw _ (List.mem_of_getElem? (i := 41) rfl))) (mvT hZ127 (hw _ (List.mem_of_getElem? (i := 40) rfl))) (by decide) (StrChars.Road.eqW (W := 0) hZ127 heq (kI := 4) (hw _ (List.mem_of_getElem? (i := 3) rfl)) Ex127 Fv127 Fc127 Va127 (own_cod own_ns_r) (own_up own_ns_r) (by decide) f131 f133 f132 f134 (own_cod ur) (own_up ur) ul (S1.ext f130.2) P5 (by decide) (by decide)) q136a q136c (g := (mkF m 3 #[.val (.ref x1), .val .null] [(.ref x1), (.ref s1)])) rfl (by rw [hml]; rfl) (Steps.refl _) (argsL := [(.ref x1)]) (rest := []) (lenOf pd_4 rfl) rfl (by show 2 * 0 + _ ≤ _; exact Nat.le_of_eq rfl) (hb hby disrn_3) (fun _ _ => ⟨rfl, e127, (by decide : 2 + 0 ≤ _), (by decide : 140 + 0 ≤ _)⟩)
  dsimp only [Pt.U, Pt.locs, Pt.cells, Pt.slots] at X136 l136 y136 z136 st136 hQ136
  subst l136 y136 z136
  obtain ⟨hz136, hL136, eq136⟩ := hQ136
  obtain rfl := own_eq2 hz136
  subst hL136
  have Nq136 := Fr.nil n0
  have N136 := Fr.app N0 Nq136
  have k136 : Kt p e below m (s₁.setTop (entryFrame m #[(.ref x1), .null] 2)) T136 6 #[.val (.ref x1), .val .null] [(.int (own_b (own_ns = cs)))] := fun t ht => k135 t (st136.trans ht)
  have f137 : n0 ≤ T136.heap.size := by rw [eq136]; exact f128
  have f138 : CHr Z consts_1 s.vm h0 T127.vm T136.heap := by rw [eq136]; exact f129
  have f139 : Old Z n0 T136.heap := by rw [eq136]; exact f130
  have f140 : Exa Z T136.heap x1 "java/lang/String" := by rw [eq136]; exact f131
  have f141 : Fld Z T136.heap x1 "java/lang/String" "coder" "B" (.int (0 : Int32)) := by rw [eq136]; exact f132
  have f142 : Fld Z T136.heap x1 "java/lang/String" "value" "[B" (.ref t1) := by rw [eq136]; exact f133
  have f143 : Arv Z T136.heap t1 k1 .byte (Int32.ofNat cs.length) (own_by cs) (.int (0 : Int32)) := by rw [eq136]; exact f134
  have f144 : kb127 ≤ T136.heap.size := by rw [eq136]; exact hk127
  have f145 : Exa Z T136.heap s1 "java/lang/String" := by rw [eq136]; exact Ex127
  have f146 : Fld Z T136.heap s1 "java/lang/String" "coder" "B" (.int (0 : Int32)) := by rw [eq136]; exact Fc127
  have f147 : Fld Z T136.heap s1 "java/lang/String" "value" "[B" (.ref b1) := by rw [eq136]; exact Fv127
  have f148 : Arv Z T136.heap b1 ck127 .byte (Int32.ofNat own_ns.length) (own_by own_ns) (.int (0 : Int32)) := by rw [eq136]; exact Va127
  by_cases h1 : (own_b (own_ns = cs)) = (0 : Int32)
  · have k149 : Kt p e below m (s₁.setTop (entryFrame m #[(.ref x1), .null] 2)) T136 23 #[.val (.ref x1), .val .null] [(.int (0 : Int32))] := by
      intro t ht
      refine k136 t ?_
      show Steps p.tables e below (T136.setTop (mkF m 6 #[.val (.ref x1), .val .null] [(.int (own_b (own_ns = cs)))])) t
      refine XS.ifYes X136.here hx rfl (pc0 := 6) (pc' := 22) rfl (hb hby disrn_6) rfl ((if0 _ _).trans (teq h1).1) (by decide) (by decide) ?_
      show Steps p.tables e below (T136.setTop (mkF m 22 #[.val (.ref x1), .val .null] [])) t
      refine XS.iconst X136.here hx rfl (hb hby disrn_22) ?_
      exact ht
    obtain ⟨fs, hr, hrun, hended, -, hW, hbk, hsame⟩ := Stand.leaveW (s := s) (vm₁ := T127.vm) X136 (hS127) (by exact f144) (v := some (.int (0 : Int32))) (fun h => by rw [Bd.returns] at h; cases h)
    refine ⟨_, _, k149 _ ?_, hrun, hended, _, _, rfl, ?_, ?_, ⟨_, rfl⟩, hW, hbk, hsame.mono (by decide) (by decide)⟩
    · exact retN X136 hx (t := .boolean) Bd.returns (by simp) (hb hby disrn_23) hr
    · show Qisrn Z x1 t1 k1 cs G1 h0 n0 _ T136.heap _
      exact ⟨rfl, N136⟩
    · show CHr Z consts_1 s.vm s.heap T136.vm T136.heap
      rw [hh]
      exact f138.trans (CHv.at (s := s) (vm0 := T127.vm) X136 hZ127 hEL f138.1)
  · have k150 : Kt p e below m (s₁.setTop (entryFrame m #[(.ref x1), .null] 2)) T136 9 #[.val (.ref x1), .val .null] [] := by
      intro t ht
      refine k136 t ?_
      show Steps p.tables e below (T136.setTop (mkF m 6 #[.val (.ref x1), .val .null] [(.int (own_b (own_ns = cs)))])) t
      refine XS.ifNo X136.here hx rfl (hb hby disrn_6) rfl ((if0 _ _).trans (feq h1).1) ?_
      exact ht
    obtain ⟨s2, T151, h151, kb151, b2, ck151, X151, e151, E151, hS151, hk151, hZ151, hown151, Ex151, Fc151, Fv151, Va151, la151, lb151, hR151, -, hne151, st151⟩ := ldcCH (s := s) (vm0 := T127.vm) X136 hx hZ127 hown127 (hw _ (List.mem_of_getElem? (i := 50) rfl)) wS rfl hS127 f144 hEL (EL := consts_1) (by decide) f138.1 (vs := (own_by own_ln)) (z := (Int32.ofNat own_ln.length)) (by decide +kernel) (by decide) (by decide) (g := (mkF m 9 #[.val (.ref x1), .val .null] [])) rfl (hb hby disrn_9) (n := 36) (by decide +kernel) (by decide) (by decide) (by decide)
    have f152 : n0 ≤ h151.size := Nat.le_trans f137 E151.1
    have f153 : CHr Z consts_1 s.vm h0 T151.vm h151 := f138.trans hR151
    have f154 : Old Z n0 h151 := f139.ext E151
    have f155 : Exa Z h151 x1 "java/lang/String" := f140.ext E151
    have f156 : Fld Z h151 x1 "java/lang/String" "coder" "B" (.int (0 : Int32)) := f141.ext E151
    have f157 : Fld Z h151 x1 "java/lang/String" "value" "[B" (.ref t1) := f142.ext E151
    have f158 : Arv Z h151 t1 k1 .byte (Int32.ofNat cs.length) (own_by cs) (.int (0 : Int32)) := f143.ext E151
    have f159 : kb127 ≤ h151.size := Nat.le_trans f144 E151.1
    have f160 : Exa Z h151 s1 "java/lang/String" := f145.ext E151
    have f161 : Fld Z h151 s1 "java/lang/String" "coder" "B" (.int (0 : Int32)) := f146.ext E151
    have f162 : Fld Z h151 s1 "java/lang/String" "value" "[B" (.ref b1) := f147.ext E151
    have f163 : Arv Z h151 b1 ck127 .byte (Int32.ofNat own_ns.length) (own_by own_ns) (.int (0 : Int32)) := f148.ext E151
    have k151 : Kt p e below m (s₁.setTop (entryFrame m #[(.ref x1), .null] 2)) T151 11 #[.val (.ref x1), .val .null] [(.ref s2)] := fun t ht => k150 t (st151 t ht)
    have k164 : Kt p e below m (s₁.setTop (entryFrame m #[(.ref x1), .null] 2)) T151 12 #[.val (.ref x1), .val .null] [.null, (.ref s2)] := by
      intro t ht
      refine k151 t ?_
      show Steps p.tables e below (T151.setTop (mkF m 11 #[.val (.ref x1), .val .null] [(.ref s2)])) t
      refine XS.aloadN X151.here hx rfl (hb hby disrn_11) rfl rfl ?_
      exact ht
    obtain ⟨cq165, kq165, q165a, q165b, q165c⟩ := isOf hZ151 e151 Ex151
    obtain ⟨_, _, ⟨T165, L165, c165, n165⟩, -, X165, ⟨Lc165, hQ165, l165, y165, z165⟩, st165⟩ := X151.virtualBack hx (y := (⟨"java/lang/String", "equals", "(Ljava/lang/Object;)Z"⟩ : MethodName)) (z := (⟨"java/lang/String", "equals", "(Ljava/lang/Object;)Z"⟩ : MethodName)) hown151 (mvT hZ151 (hw _ (List.mem_of_getElem? (i := 38) rfl))) (mvT hZ151 (hw _ (List.mem_of_getElem? (i := 39) rfl))) (notFace_of_selects (args := #[]) (mvT hZ151 (hw _ (List.mem_of_getElem? (i := 41) rfl)))) (mvT hZ151 (hw _ (List.mem_of_getElem? (i := 41) rfl))) (mvT hZ151 (hw _ (List.mem_of_getElem? (i := 40) rfl))) (by decide) (backOf (W := 0) (rmeqN l Z a0 hw [] s2 h151 n0 f152 ) hZ151 (hw _ (List.mem_of_getElem? (i := 42) rfl)) (hw _ (List.mem_of_getElem? (i := 4) rfl)) (by decide) (by decide)) q165a q165c (g := (mkF m 12 #[.val (.ref x1), .val .null] [.null, (.ref s2)])) rfl (by rw [hml]; rfl) (Steps.refl _) (argsL := [.null]) (rest := []) (lenOf pd_4 rfl) rfl (by show 2 * 0 + _ ≤ _; exact Nat.le_of_eq rfl) (hb hby disrn_12) (fun _ _ => ⟨rfl, e151, (by decide : 4 + 0 ≤ _), (by decide : 180 + 0 ≤ _)⟩)
    dsimp only [Pt.U, Pt.locs, Pt.cells, Pt.slots] at X165 l165 y165 z165 st165 hQ165
    subst l165 y165 z165
    obtain ⟨rfl, Nq165, eq165⟩ := hQ165
    have N165 := Fr.app N136 Nq165
    have k165 : Kt p e below m (s₁.setTop (entryFrame m #[(.ref x1), .null] 2)) T165 15 #[.val (.ref x1), .val .null] [(.int (0 : Int32))] := fun t ht => k164 t (st165.trans ht)
    have f166 : n0 ≤ T165.heap.size := by rw [eq165]; exact f152
    have f167 : CHr Z consts_1 s.vm h0 T151.vm T165.heap := by rw [eq165]; exact f153
    have f168 : Old Z n0 T165.heap := by rw [eq165]; exact f154
    have f169 : Exa Z T165.heap x1 "java/lang/String" := by rw [eq165]; exact f155
    have f170 : Fld Z T165.heap x1 "java/lang/String" "coder" "B" (.int (0 : Int32)) := by rw [eq165]; exact f156
    have f171 : Fld Z T165.heap x1 "java/lang/String" "value" "[B" (.ref t1) := by rw [eq165]; exact f157
    have f172 : Arv Z T165.heap t1 k1 .byte (Int32.ofNat cs.length) (own_by cs) (.int (0 : Int32)) := by rw [eq165]; exact f158
    have f173 : kb151 ≤ T165.heap.size := by rw [eq165]; exact hk151
    have f174 : Exa Z T165.heap s1 "java/lang/String" := by rw [eq165]; exact f160
    have f175 : Fld Z T165.heap s1 "java/lang/String" "coder" "B" (.int (0 : Int32)) := by rw [eq165]; exact f161
    have f176 : Fld Z T165.heap s1 "java/lang/String" "value" "[B" (.ref b1) := by rw [eq165]; exact f162
    have f177 : Arv Z T165.heap b1 ck127 .byte (Int32.ofNat own_ns.length) (own_by own_ns) (.int (0 : Int32)) := by rw [eq165]; exact f163
    have f178 : Exa Z T165.heap s2 "java/lang/String" := by rw [eq165]; exact Ex151
    have f179 : Fld Z T165.heap s2 "java/lang/String" "coder" "B" (.int (0 : Int32)) := by rw [eq165]; exact Fc151
    have f180 : Fld Z T165.heap s2 "java/lang/String" "value" "[B" (.ref b2) := by rw [eq165]; exact Fv151
    have f181 : Arv Z T165.heap b2 ck151 .byte (Int32.ofNat own_ln.length) (own_by own_ln) (.int (0 : Int32)) := by rw [eq165]; exact Va151
    have k182 : Kt p e below m (s₁.setTop (entryFrame m #[(.ref x1), .null] 2)) T165 23 #[.val (.ref x1), .val .null] [(.int (0 : Int32))] := by
      intro t ht
      refine k165 t ?_
      show Steps p.tables e below (T165.setTop (mkF m 15 #[.val (.ref x1), .val .null] [(.int (0 : Int32))])) t
      refine XS.ifYes X165.here hx rfl (pc0 := 15) (pc' := 22) rfl (hb hby disrn_15) rfl ((if0 _ _).trans (teq rfl).1) (by decide) (by decide) ?_
      show Steps p.tables e below (T165.setTop (mkF m 22 #[.val (.ref x1), .val .null] [])) t
      refine XS.iconst X165.here hx rfl (hb hby disrn_22) ?_
      exact ht
    obtain ⟨fs, hr, hrun, hended, -, hW, hbk, hsame⟩ := Stand.leaveW (s := s) (vm₁ := T151.vm) X165 (hS151) (by exact f173) (v := some (.int (0 : Int32))) (fun h => by rw [Bd.returns] at h; cases h)
    refine ⟨_, _, k182 _ ?_, hrun, hended, _, _, rfl, ?_, ?_, ⟨_, rfl⟩, hW, hbk, hsame.mono (by decide) (by decide)⟩
    · exact retN X165 hx (t := .boolean) Bd.returns (by simp) (hb hby disrn_23) hr
    · show Qisrn Z x1 t1 k1 cs G1 h0 n0 _ T165.heap _
      exact ⟨rfl, N165⟩
    · show CHr Z consts_1 s.vm s.heap T165.vm T165.heap
      rw [hh]
      exact f167.trans (CHv.at (s := s) (vm0 := T151.vm) X165 hZ151 hEL f167.1)
theorem disnr_0 : decode prog_154_method_3_code 0 = .ok (.ldc 51, 2) := by decide +kernel
theorem disnr_2 : decode prog_154_method_3_code 2 = .ok (.aload_n 0, 1) := by decide +kernel
theorem disnr_3 : decode prog_154_method_3_code 3 = .ok (.invokevirtual 53, 3) := by decide +kernel
theorem disnr_6 : decode prog_154_method_3_code 6 = .ok (.ifCond .eq 16, 3) := by decide +kernel
theorem disnr_9 : decode prog_154_method_3_code 9 = .ok (.ldc 59, 2) := by decide +kernel
theorem disnr_11 : decode prog_154_method_3_code 11 = .ok (.aload_n 1, 1) := by decide +kernel
theorem disnr_12 : decode prog_154_method_3_code 12 = .ok (.invokevirtual 53, 3) := by decide +kernel
theorem disnr_15 : decode prog_154_method_3_code 15 = .ok (.ifCond .eq 7, 3) := by decide +kernel
theorem disnr_18 : decode prog_154_method_3_code 18 = .ok (.iconst 1, 1) := by decide +kernel
theorem disnr_19 : decode prog_154_method_3_code 19 = .ok (.goto 4, 3) := by decide +kernel
theorem disnr_22 : decode prog_154_method_3_code 22 = .ok (.iconst 0, 1) := by decide +kernel
theorem disnr_23 : decode prog_154_method_3_code 23 = .ok (.ireturn, 1) := by decide +kernel
theorem pnisnr : plainName "com/example/subscriptor/subscriptor/XmlSignature" = true := by first | (simp [plainName, overriddenIn]; done) | decide +kernel
theorem efisnr (m : MethodId) (x2 : Addr) : entryFrame m #[.null, (.ref x2)] 2 = mkF m 0 #[.val .null, .val (.ref x2)] [] := by first | (simp [entryFrame, mkF, argsToLocals, Value.category]; done) | rfl
def Qisnr (Z : State) (x2 : Addr) (t2 : Addr) (k2 : ClassId) (ds : List Int32) (G1 : Int32) (h0 : Heap) (n0 : Nat) (v : Option Value) (h : Heap) (L : List Loc) : Prop := v = some (.int 0) ∧ Fr n0 L
set_option maxRecDepth 65536 in
set_option maxHeartbeats 40000000 in
theorem rmisnr (l : Launch) (Z : State) (a0 : Array Value) (hw : ∀ d ∈ tables_1, d.before a0 Z = true) (ws : List Jvm.Cond) (x2 : Addr) (t2 : Addr) (k2 : ClassId) (ds : List Int32) (G1 : Int32) (h0 : Heap) (n0 : Nat) (Z0 : n0 ≤ h0.size) (hEL : EW Z a0 consts_1) (S1 : Sta Z Z.heap "java/lang/String" "COMPACT_STRINGS" "Z" (.int G1)) (P5 : ¬ (G1 = (0 : Int32))) (O : Old Z n0 h0) (wE : Exa Z h0 x2 "java/lang/String") (wC : Fld Z h0 x2 "java/lang/String" "coder" "B" (.int (0 : Int32))) (wV : Fld Z h0 x2 "java/lang/String" "value" "[B" (.ref t2)) (wK : Arv Z h0 t2 k2 .byte (Int32.ofNat ds.length) (own_by ds) (.int (0 : Int32))) (wr : ∀ c ∈ ds, own_r c) (wl : ds.length ≤ 4000) :
    MetFree l (⟨"com/example/subscriptor/subscriptor/XmlSignature", "isSignature", "(Ljava/lang/String;Ljava/lang/String;)Z"⟩ : MethodName) (head1 (Jvm.Cond.code (⟨"com/example/subscriptor/subscriptor/XmlSignature", "isSignature", "(Ljava/lang/String;Ljava/lang/String;)Z"⟩ : MethodName) prog_154_method_3_code 2 (some .boolean) :: ws) ({ frames := 3, cells := 4, slots := 180, locals := 45 } : Room)) (fun gs' U => gs' = #[.null, (.ref x2)] ∧ Z.Warmed39 U.vm ∧ U.heap = h0 ∧ CHv Z consts_1 U.vm h0 ∧ ∀ x ∈ ([] : List Addr), Safe Z consts_1 U.vm h0 x) (fun _ _ _ _ _ => True) (fun _ U o U' => ∃ v L, o = .returned v ∧ Qisnr Z x2 t2 k2 ds G1 h0 n0 v U'.heap L ∧ CHr Z consts_1 U.vm U.heap U'.vm U'.heap ∧ ReturnedEndW U o U' L ({ frames := 3, cells := 4, slots := 180, locals := 45 } : Room).cells ({ frames := 3, cells := 4, slots := 180, locals := 45 } : Room).slots) := by
  refine MetFree.of_bodySF (plainFor_of_name pnisnr) hisR ?_
  intro p e s m args below meth c s₁ Bd hml0 hP hK
  obtain ⟨rfl, hZ, hh, hCH, hSf⟩ := hP
  have hx := Bd.exec
  have hby := Bd.bytes
  have hml : c.maxLocals = 2 := hml0
  have hown : s.vm.findClass "com/example/subscriptor/subscriptor/XmlSignature" = some m.cls := findClass_of_methodNamed Bd.named
  have hnm := (name_of_methodNamed Bd.named Bd.method).1
  have X0 : Stand p l e ({ frames := 3, cells := 4, slots := 180, locals := 45 } : Room) (s.setVm s.vm) m #[.null, (.ref x2)] below meth c s₁ [] 0 0 := Stand.of_body Bd
  have e0 : s₁.heap = h0 := by rw [← hh, Bd.state]; rfl
  have N0 := Fr.nil n0
  have k0 : Kt p e below m (s₁.setTop (entryFrame m #[.null, (.ref x2)] 2)) s₁ 0 #[.val .null, .val (.ref x2)] [] := fun t ht => castTop (efisnr m x2) ht
  have R0 : CHr Z consts_1 s.vm h0 s.vm h0 := CHr.refl hCH
  have wS : ∀ a ∈ Bundle.stringAtoms, a.before a0 Z = true := by
    intro a ha
    simp only [Bundle.stringAtoms, List.mem_cons, List.not_mem_nil, or_false] at ha
    rcases ha with rfl | rfl | rfl | rfl | rfl | rfl | rfl
    · exact (hw _ (List.mem_of_getElem? (i := 4) rfl))
    · exact (hw _ (List.mem_of_getElem? (i := 3) rfl))
    · exact (hw _ (List.mem_of_getElem? (i := 20) rfl))
    · exact (hw _ (List.mem_of_getElem? (i := 30) rfl))
    · exact (hw _ (List.mem_of_getElem? (i := 28) rfl))
    · exact (hw _ (List.mem_of_getElem? (i := 36) rfl))
    · exact (hw _ (List.mem_of_getElem? (i := 37) rfl))
  have heq : ∀ d ∈ StrChars.Road.wordsEq, d.before a0 Z = true := fun d hd => hw d ((by decide +kernel : ∀ d ∈ StrChars.Road.wordsEq, d ∈ tables_1) d hd)
  obtain ⟨s1, T183, h183, kb183, b1, ck183, X183, e183, E183, hS183, hk183, hZ183, hown183, Ex183, Fc183, Fv183, Va183, la183, lb183, hR183, -, hne183, st183⟩ := ldcCH (s := s) (vm0 := s.vm) X0 hx hZ hown (hw _ (List.mem_of_getElem? (i := 35) rfl)) wS e0 ((State.WarmedH.refl s).since 0) (Nat.zero_le _) hEL (EL := consts_1) (by decide) R0.1 (vs := (own_by own_ns)) (z := (Int32.ofNat own_ns.length)) (by decide +kernel) (by decide) (by decide) (g := (mkF m 0 #[.val .null, .val (.ref x2)] [])) rfl (hb hby disnr_0) (n := 136) (by decide +kernel) (by decide) (by decide) (by decide)
  have f184 : n0 ≤ h183.size := Nat.le_trans Z0 E183.1
  have f185 : CHr Z consts_1 s.vm h0 T183.vm h183 := R0.trans hR183
  have f186 : Old Z n0 h183 := O.ext E183
  have f187 : Exa Z h183 x2 "java/lang/String" := wE.ext E183
  have f188 : Fld Z h183 x2 "java/lang/String" "coder" "B" (.int (0 : Int32)) := wC.ext E183
  have f189 : Fld Z h183 x2 "java/lang/String" "value" "[B" (.ref t2) := wV.ext E183
  have f190 : Arv Z h183 t2 k2 .byte (Int32.ofNat ds.length) (own_by ds) (.int (0 : Int32)) := wK.ext E183
  have k183 : Kt p e below m (s₁.setTop (entryFrame m #[.null, (.ref x2)] 2)) T183 2 #[.val .null, .val (.ref x2)] [(.ref s1)] := fun t ht => k0 t (st183 t ht)
  have k191 : Kt p e below m (s₁.setTop (entryFrame m #[.null, (.ref x2)] 2)) T183 3 #[.val .null, .val (.ref x2)] [.null, (.ref s1)] := by
    intro t ht
    refine k183 t ?_
    show Steps p.tables e below (T183.setTop (mkF m 2 #[.val .null, .val (.ref x2)] [(.ref s1)])) t
    refine XS.aloadN X183.here hx rfl (hb hby disnr_2) rfl rfl ?_
    exact ht
  obtain ⟨cq192, kq192, q192a, q192b, q192c⟩ := isOf hZ183 e183 Ex183
  obtain ⟨_, _, ⟨T192, L192, c192, n192⟩, -, X192, ⟨Lc192, hQ192, l192, y192, z192⟩, st192⟩ := X183.virtualBack hx (y := (⟨"java/lang/String", "equals", "(Ljava/lang/Object;)Z"⟩ : MethodName)) (z := (⟨"java/lang/String", "equals", "(Ljava/lang/Object;)Z"⟩ : MethodName)) hown183 (mvT hZ183 (hw _ (List.mem_of_getElem? (i := 38) rfl))) (mvT hZ183 (hw _ (List.mem_of_getElem? (i := 39) rfl))) (notFace_of_selects (args := #[]) (mvT hZ183 (hw _ (List.mem_of_getElem? (i := 41) rfl)))) (mvT hZ183 (hw _ (List.mem_of_getElem? (i := 41) rfl))) (mvT hZ183 (hw _ (List.mem_of_getElem? (i := 40) rfl))) (by decide) (backOf (W := 0) (rmeqN l Z a0 hw [] s1 h183 n0 f184 ) hZ183 (hw _ (List.mem_of_getElem? (i := 42) rfl)) (hw _ (List.mem_of_getElem? (i := 4) rfl)) (by decide) (by decide)) q192a q192c (g := (mkF m 3 #[.val .null, .val (.ref x2)] [.null, (.ref s1)])) rfl (by rw [hml]; rfl) (Steps.refl _) (argsL := [.null]) (rest := []) (lenOf pd_4 rfl) rfl (by show 2 * 0 + _ ≤ _; exact Nat.le_of_eq rfl) (hb hby disnr_3) (fun _ _ => ⟨rfl, e183, (by decide : 2 + 0 ≤ _), (by decide : 140 + 0 ≤ _)⟩)
  dsimp only [Pt.U, Pt.locs, Pt.cells, Pt.slots] at X192 l192 y192 z192 st192 hQ192
  subst l192 y192 z192
  obtain ⟨rfl, Nq192, eq192⟩ := hQ192
  have N192 := Fr.app N0 Nq192
  have k192 : Kt p e below m (s₁.setTop (entryFrame m #[.null, (.ref x2)] 2)) T192 6 #[.val .null, .val (.ref x2)] [(.int (0 : Int32))] := fun t ht => k191 t (st192.trans ht)
  have f193 : n0 ≤ T192.heap.size := by rw [eq192]; exact f184
  have f194 : CHr Z consts_1 s.vm h0 T183.vm T192.heap := by rw [eq192]; exact f185
  have f195 : Old Z n0 T192.heap := by rw [eq192]; exact f186
  have f196 : Exa Z T192.heap x2 "java/lang/String" := by rw [eq192]; exact f187
  have f197 : Fld Z T192.heap x2 "java/lang/String" "coder" "B" (.int (0 : Int32)) := by rw [eq192]; exact f188
  have f198 : Fld Z T192.heap x2 "java/lang/String" "value" "[B" (.ref t2) := by rw [eq192]; exact f189
  have f199 : Arv Z T192.heap t2 k2 .byte (Int32.ofNat ds.length) (own_by ds) (.int (0 : Int32)) := by rw [eq192]; exact f190
  have f200 : kb183 ≤ T192.heap.size := by rw [eq192]; exact hk183
  have f201 : Exa Z T192.heap s1 "java/lang/String" := by rw [eq192]; exact Ex183
  have f202 : Fld Z T192.heap s1 "java/lang/String" "coder" "B" (.int (0 : Int32)) := by rw [eq192]; exact Fc183
  have f203 : Fld Z T192.heap s1 "java/lang/String" "value" "[B" (.ref b1) := by rw [eq192]; exact Fv183
  have f204 : Arv Z T192.heap b1 ck183 .byte (Int32.ofNat own_ns.length) (own_by own_ns) (.int (0 : Int32)) := by rw [eq192]; exact Va183
  have k205 : Kt p e below m (s₁.setTop (entryFrame m #[.null, (.ref x2)] 2)) T192 23 #[.val .null, .val (.ref x2)] [(.int (0 : Int32))] := by
    intro t ht
    refine k192 t ?_
    show Steps p.tables e below (T192.setTop (mkF m 6 #[.val .null, .val (.ref x2)] [(.int (0 : Int32))])) t
    refine XS.ifYes X192.here hx rfl (pc0 := 6) (pc' := 22) rfl (hb hby disnr_6) rfl ((if0 _ _).trans (teq rfl).1) (by decide) (by decide) ?_
    show Steps p.tables e below (T192.setTop (mkF m 22 #[.val .null, .val (.ref x2)] [])) t
    refine XS.iconst X192.here hx rfl (hb hby disnr_22) ?_
    exact ht
  obtain ⟨fs, hr, hrun, hended, -, hW, hbk, hsame⟩ := Stand.leaveW (s := s) (vm₁ := T183.vm) X192 (hS183) (by exact f200) (v := some (.int (0 : Int32))) (fun h => by rw [Bd.returns] at h; cases h)
  refine ⟨_, _, k205 _ ?_, hrun, hended, _, _, rfl, ?_, ?_, ⟨_, rfl⟩, hW, hbk, hsame.mono (by decide) (by decide)⟩
  · exact retN X192 hx (t := .boolean) Bd.returns (by simp) (hb hby disnr_23) hr
  · show Qisnr Z x2 t2 k2 ds G1 h0 n0 _ T192.heap _
    exact ⟨rfl, N192⟩
  · show CHr Z consts_1 s.vm s.heap T192.vm T192.heap
    rw [hh]
    exact f194.trans (CHv.at (s := s) (vm0 := T183.vm) X192 hZ183 hEL f194.1)
theorem disnn_0 : decode prog_154_method_3_code 0 = .ok (.ldc 51, 2) := by decide +kernel
theorem disnn_2 : decode prog_154_method_3_code 2 = .ok (.aload_n 0, 1) := by decide +kernel
theorem disnn_3 : decode prog_154_method_3_code 3 = .ok (.invokevirtual 53, 3) := by decide +kernel
theorem disnn_6 : decode prog_154_method_3_code 6 = .ok (.ifCond .eq 16, 3) := by decide +kernel
theorem disnn_9 : decode prog_154_method_3_code 9 = .ok (.ldc 59, 2) := by decide +kernel
theorem disnn_11 : decode prog_154_method_3_code 11 = .ok (.aload_n 1, 1) := by decide +kernel
theorem disnn_12 : decode prog_154_method_3_code 12 = .ok (.invokevirtual 53, 3) := by decide +kernel
theorem disnn_15 : decode prog_154_method_3_code 15 = .ok (.ifCond .eq 7, 3) := by decide +kernel
theorem disnn_18 : decode prog_154_method_3_code 18 = .ok (.iconst 1, 1) := by decide +kernel
theorem disnn_19 : decode prog_154_method_3_code 19 = .ok (.goto 4, 3) := by decide +kernel
theorem disnn_22 : decode prog_154_method_3_code 22 = .ok (.iconst 0, 1) := by decide +kernel
theorem disnn_23 : decode prog_154_method_3_code 23 = .ok (.ireturn, 1) := by decide +kernel
theorem pnisnn : plainName "com/example/subscriptor/subscriptor/XmlSignature" = true := by first | (simp [plainName, overriddenIn]; done) | decide +kernel
theorem efisnn (m : MethodId)  : entryFrame m #[.null, .null] 2 = mkF m 0 #[.val .null, .val .null] [] := by first | (simp [entryFrame, mkF, argsToLocals, Value.category]; done) | rfl
def Qisnn (Z : State) (G1 : Int32) (h0 : Heap) (n0 : Nat) (v : Option Value) (h : Heap) (L : List Loc) : Prop := v = some (.int 0) ∧ Fr n0 L
set_option maxRecDepth 65536 in
set_option maxHeartbeats 40000000 in
theorem rmisnn (l : Launch) (Z : State) (a0 : Array Value) (hw : ∀ d ∈ tables_1, d.before a0 Z = true) (ws : List Jvm.Cond) (G1 : Int32) (h0 : Heap) (n0 : Nat) (Z0 : n0 ≤ h0.size) (hEL : EW Z a0 consts_1) (S1 : Sta Z Z.heap "java/lang/String" "COMPACT_STRINGS" "Z" (.int G1)) (P5 : ¬ (G1 = (0 : Int32))) (O : Old Z n0 h0) :
    MetFree l (⟨"com/example/subscriptor/subscriptor/XmlSignature", "isSignature", "(Ljava/lang/String;Ljava/lang/String;)Z"⟩ : MethodName) (head1 (Jvm.Cond.code (⟨"com/example/subscriptor/subscriptor/XmlSignature", "isSignature", "(Ljava/lang/String;Ljava/lang/String;)Z"⟩ : MethodName) prog_154_method_3_code 2 (some .boolean) :: ws) ({ frames := 3, cells := 4, slots := 180, locals := 45 } : Room)) (fun gs' U => gs' = #[.null, .null] ∧ Z.Warmed39 U.vm ∧ U.heap = h0 ∧ CHv Z consts_1 U.vm h0 ∧ ∀ x ∈ ([] : List Addr), Safe Z consts_1 U.vm h0 x) (fun _ _ _ _ _ => True) (fun _ U o U' => ∃ v L, o = .returned v ∧ Qisnn Z G1 h0 n0 v U'.heap L ∧ CHr Z consts_1 U.vm U.heap U'.vm U'.heap ∧ ReturnedEndW U o U' L ({ frames := 3, cells := 4, slots := 180, locals := 45 } : Room).cells ({ frames := 3, cells := 4, slots := 180, locals := 45 } : Room).slots) := by
  refine MetFree.of_bodySF (plainFor_of_name pnisnn) hisR ?_
  intro p e s m args below meth c s₁ Bd hml0 hP hK
  obtain ⟨rfl, hZ, hh, hCH, hSf⟩ := hP
  have hx := Bd.exec
  have hby := Bd.bytes
  have hml : c.maxLocals = 2 := hml0
  have hown : s.vm.findClass "com/example/subscriptor/subscriptor/XmlSignature" = some m.cls := findClass_of_methodNamed Bd.named
  have hnm := (name_of_methodNamed Bd.named Bd.method).1
  have X0 : Stand p l e ({ frames := 3, cells := 4, slots := 180, locals := 45 } : Room) (s.setVm s.vm) m #[.null, .null] below meth c s₁ [] 0 0 := Stand.of_body Bd
  have e0 : s₁.heap = h0 := by rw [← hh, Bd.state]; rfl
  have N0 := Fr.nil n0
  have k0 : Kt p e below m (s₁.setTop (entryFrame m #[.null, .null] 2)) s₁ 0 #[.val .null, .val .null] [] := fun t ht => castTop (efisnn m ) ht
  have R0 : CHr Z consts_1 s.vm h0 s.vm h0 := CHr.refl hCH
  have wS : ∀ a ∈ Bundle.stringAtoms, a.before a0 Z = true := by
    intro a ha
    simp only [Bundle.stringAtoms, List.mem_cons, List.not_mem_nil, or_false] at ha
    rcases ha with rfl | rfl | rfl | rfl | rfl | rfl | rfl
    · exact (hw _ (List.mem_of_getElem? (i := 4) rfl))
    · exact (hw _ (List.mem_of_getElem? (i := 3) rfl))
    · exact (hw _ (List.mem_of_getElem? (i := 20) rfl))
    · exact (hw _ (List.mem_of_getElem? (i := 30) rfl))
    · exact (hw _ (List.mem_of_getElem? (i := 28) rfl))
    · exact (hw _ (List.mem_of_getElem? (i := 36) rfl))
    · exact (hw _ (List.mem_of_getElem? (i := 37) rfl))
  have heq : ∀ d ∈ StrChars.Road.wordsEq, d.before a0 Z = true := fun d hd => hw d ((by decide +kernel : ∀ d ∈ StrChars.Road.wordsEq, d ∈ tables_1) d hd)
  obtain ⟨s1, T206, h206, kb206, b1, ck206, X206, e206, E206, hS206, hk206, hZ206, hown206, Ex206, Fc206, Fv206, Va206, la206, lb206, hR206, -, hne206, st206⟩ := ldcCH (s := s) (vm0 := s.vm) X0 hx hZ hown (hw _ (List.mem_of_getElem? (i := 35) rfl)) wS e0 ((State.WarmedH.refl s).since 0) (Nat.zero_le _) hEL (EL := consts_1) (by decide) R0.1 (vs := (own_by own_ns)) (z := (Int32.ofNat own_ns.length)) (by decide +kernel) (by decide) (by decide) (g := (mkF m 0 #[.val .null, .val .null] [])) rfl (hb hby disnn_0) (n := 136) (by decide +kernel) (by decide) (by decide) (by decide)
  have f207 : n0 ≤ h206.size := Nat.le_trans Z0 E206.1
  have f208 : CHr Z consts_1 s.vm h0 T206.vm h206 := R0.trans hR206
  have f209 : Old Z n0 h206 := O.ext E206
  have k206 : Kt p e below m (s₁.setTop (entryFrame m #[.null, .null] 2)) T206 2 #[.val .null, .val .null] [(.ref s1)] := fun t ht => k0 t (st206 t ht)
  have k210 : Kt p e below m (s₁.setTop (entryFrame m #[.null, .null] 2)) T206 3 #[.val .null, .val .null] [.null, (.ref s1)] := by
    intro t ht
    refine k206 t ?_
    show Steps p.tables e below (T206.setTop (mkF m 2 #[.val .null, .val .null] [(.ref s1)])) t
    refine XS.aloadN X206.here hx rfl (hb hby disnn_2) rfl rfl ?_
    exact ht
  obtain ⟨cq211, kq211, q211a, q211b, q211c⟩ := isOf hZ206 e206 Ex206
  obtain ⟨_, _, ⟨T211, L211, c211, n211⟩, -, X211, ⟨Lc211, hQ211, l211, y211, z211⟩, st211⟩ := X206.virtualBack hx (y := (⟨"java/lang/String", "equals", "(Ljava/lang/Object;)Z"⟩ : MethodName)) (z := (⟨"java/lang/String", "equals", "(Ljava/lang/Object;)Z"⟩ : MethodName)) hown206 (mvT hZ206 (hw _ (List.mem_of_getElem? (i := 38) rfl))) (mvT hZ206 (hw _ (List.mem_of_getElem? (i := 39) rfl))) (notFace_of_selects (args := #[]) (mvT hZ206 (hw _ (List.mem_of_getElem? (i := 41) rfl)))) (mvT hZ206 (hw _ (List.mem_of_getElem? (i := 41) rfl))) (mvT hZ206 (hw _ (List.mem_of_getElem? (i := 40) rfl))) (by decide) (backOf (W := 0) (rmeqN l Z a0 hw [] s1 h206 n0 f207 ) hZ206 (hw _ (List.mem_of_getElem? (i := 42) rfl)) (hw _ (List.mem_of_getElem? (i := 4) rfl)) (by decide) (by decide)) q211a q211c (g := (mkF m 3 #[.val .null, .val .null] [.null, (.ref s1)])) rfl (by rw [hml]; rfl) (Steps.refl _) (argsL := [.null]) (rest := []) (lenOf pd_4 rfl) rfl (by show 2 * 0 + _ ≤ _; exact Nat.le_of_eq rfl) (hb hby disnn_3) (fun _ _ => ⟨rfl, e206, (by decide : 2 + 0 ≤ _), (by decide : 140 + 0 ≤ _)⟩)
  dsimp only [Pt.U, Pt.locs, Pt.cells, Pt.slots] at X211 l211 y211 z211 st211 hQ211
  subst l211 y211 z211
  obtain ⟨rfl, Nq211, eq211⟩ := hQ211
  have N211 := Fr.app N0 Nq211
  have k211 : Kt p e below m (s₁.setTop (entryFrame m #[.null, .null] 2)) T211 6 #[.val .null, .val .null] [(.int (0 : Int32))] := fun t ht => k210 t (st211.trans ht)
  have f212 : n0 ≤ T211.heap.size := by rw [eq211]; exact f207
  have f213 : CHr Z consts_1 s.vm h0 T206.vm T211.heap := by rw [eq211]; exact f208
  have f214 : Old Z n0 T211.heap := by rw [eq211]; exact f209
  have f215 : kb206 ≤ T211.heap.size := by rw [eq211]; exact hk206
  have f216 : Exa Z T211.heap s1 "java/lang/String" := by rw [eq211]; exact Ex206
  have f217 : Fld Z T211.heap s1 "java/lang/String" "coder" "B" (.int (0 : Int32)) := by rw [eq211]; exact Fc206
  have f218 : Fld Z T211.heap s1 "java/lang/String" "value" "[B" (.ref b1) := by rw [eq211]; exact Fv206
  have f219 : Arv Z T211.heap b1 ck206 .byte (Int32.ofNat own_ns.length) (own_by own_ns) (.int (0 : Int32)) := by rw [eq211]; exact Va206
  have k220 : Kt p e below m (s₁.setTop (entryFrame m #[.null, .null] 2)) T211 23 #[.val .null, .val .null] [(.int (0 : Int32))] := by
    intro t ht
    refine k211 t ?_
    show Steps p.tables e below (T211.setTop (mkF m 6 #[.val .null, .val .null] [(.int (0 : Int32))])) t
    refine XS.ifYes X211.here hx rfl (pc0 := 6) (pc' := 22) rfl (hb hby disnn_6) rfl ((if0 _ _).trans (teq rfl).1) (by decide) (by decide) ?_
    show Steps p.tables e below (T211.setTop (mkF m 22 #[.val .null, .val .null] [])) t
    refine XS.iconst X211.here hx rfl (hb hby disnn_22) ?_
    exact ht
  obtain ⟨fs, hr, hrun, hended, -, hW, hbk, hsame⟩ := Stand.leaveW (s := s) (vm₁ := T206.vm) X211 (hS206) (by exact f215) (v := some (.int (0 : Int32))) (fun h => by rw [Bd.returns] at h; cases h)
  refine ⟨_, _, k220 _ ?_, hrun, hended, _, _, rfl, ?_, ?_, ⟨_, rfl⟩, hW, hbk, hsame.mono (by decide) (by decide)⟩
  · exact retN X211 hx (t := .boolean) Bd.returns (by simp) (hb hby disnn_23) hr
  · show Qisnn Z G1 h0 n0 _ T211.heap _
    exact ⟨rfl, N211⟩
  · show CHr Z consts_1 s.vm s.heap T211.vm T211.heap
    rw [hh]
    exact f213.trans (CHv.at (s := s) (vm0 := T206.vm) X211 hZ206 hEL f213.1)
theorem pn0 : plainName "com/example/subscriptor/subscriptor/XmlSignatureIsSignaturePinLaw" = true := by first | (simp [plainName, overriddenIn]; done) | decide +kernel
theorem ef0 (m : MethodId) (p1 : Int32) (p2 : Int32) (p3 : Int32) (p4 : Int32) (p5 : Int32) (p6 : Int32) : entryFrame m #[(.int p1), (.int p2), (.int p3), (.int p4), (.int p5), (.int p6)] maxLocals = mkF m 0 #[.val (.int p1), .val (.int p2), .val (.int p3), .val (.int p4), .val (.int p5), .val (.int p6), .unset, .unset, .unset, .unset, .unset, .unset, .unset, .unset, .unset, .unset, .unset, .unset] [] := by first | (simp [entryFrame, mkF, argsToLocals, Value.category, maxLocals]; done) | rfl
def Q0 (Z : State) (p1 : Int32) (p2 : Int32) (p3 : Int32) (p4 : Int32) (p5 : Int32) (p6 : Int32) (G1 : Int32) (h0 : Heap) (n0 : Nat) (v : Option Value) (h : Heap) (L : List Loc) : Prop := v = some (.int 1) ∧ Fr n0 L
set_option maxRecDepth 65536 in
set_option maxHeartbeats 40000000 in
theorem rm0 (l : Launch) (Z : State) (a0 : Array Value) (hw : ∀ d ∈ tables_1, d.before a0 Z = true) (ws : List Jvm.Cond) (p1 : Int32) (p2 : Int32) (p3 : Int32) (p4 : Int32) (p5 : Int32) (p6 : Int32) (G1 : Int32) (h0 : Heap) (n0 : Nat) (Z0 : n0 ≤ h0.size) (hEL : EW Z a0 consts_1) (S1 : Sta Z Z.heap "java/lang/String" "COMPACT_STRINGS" "Z" (.int G1)) (P5 : ¬ (G1 = (0 : Int32))) (O : Old Z n0 h0) :
    MetFree l x (head1 (Jvm.Cond.code x code maxLocals ret :: ws) room_1) (fun gs' U => gs' = #[(.int p1), (.int p2), (.int p3), (.int p4), (.int p5), (.int p6)] ∧ Z.Warmed39 U.vm ∧ U.heap = h0 ∧ CHv Z consts_1 U.vm h0 ∧ ∀ x ∈ ([] : List Addr), Safe Z consts_1 U.vm h0 x) (fun _ _ _ _ _ => True) (fun _ U o U' => ∃ v L, o = .returned v ∧ Q0 Z p1 p2 p3 p4 p5 p6 G1 h0 n0 v U'.heap L ∧ CHr Z consts_1 U.vm U.heap U'.vm U'.heap ∧ ReturnedEndW U o U' L room_1.cells room_1.slots) := by
  refine MetFree.of_bodySF (plainFor_of_name pn0) hisR ?_
  intro p e s m args below meth c s₁ Bd hml0 hP hK
  obtain ⟨rfl, hZ, hh, hCH, hSf⟩ := hP
  have hx := Bd.exec
  have hby := Bd.bytes
  have hml : c.maxLocals = 18 := hml0
  have hown : s.vm.findClass "com/example/subscriptor/subscriptor/XmlSignatureIsSignaturePinLaw" = some m.cls := findClass_of_methodNamed Bd.named
  have hnm := (name_of_methodNamed Bd.named Bd.method).1
  have X0 : Stand p l e room_1 (s.setVm s.vm) m #[(.int p1), (.int p2), (.int p3), (.int p4), (.int p5), (.int p6)] below meth c s₁ [] 0 0 := Stand.of_body Bd
  have e0 : s₁.heap = h0 := by rw [← hh, Bd.state]; rfl
  have N0 := Fr.nil n0
  have k0 : Kt p e below m (s₁.setTop (entryFrame m #[(.int p1), (.int p2), (.int p3), (.int p4), (.int p5), (.int p6)] maxLocals)) s₁ 0 #[.val (.int p1), .val (.int p2), .val (.int p3), .val (.int p4), .val (.int p5), .val (.int p6), .unset, .unset, .unset, .unset, .unset, .unset, .unset, .unset, .unset, .unset, .unset, .unset] [] := fun t ht => castTop (ef0 m p1 p2 p3 p4 p5 p6) ht
  have R0 : CHr Z consts_1 s.vm h0 s.vm h0 := CHr.refl hCH
  have wS : ∀ a ∈ Bundle.stringAtoms, a.before a0 Z = true := by
    intro a ha
    simp only [Bundle.stringAtoms, List.mem_cons, List.not_mem_nil, or_false] at ha
    rcases ha with rfl | rfl | rfl | rfl | rfl | rfl | rfl
    · exact (hw _ (List.mem_of_getElem? (i := 4) rfl))
    · exact (hw _ (List.mem_of_getElem? (i := 3) rfl))
    · exact (hw _ (List.mem_of_getElem? (i := 20) rfl))
    · exact (hw _ (List.mem_of_getElem? (i := 30) rfl))
    · exact (hw _ (List.mem_of_getElem? (i := 28) rfl))
    · exact (hw _ (List.mem_of_getElem? (i := 36) rfl))
    · exact (hw _ (List.mem_of_getElem? (i := 37) rfl))
  have hws : ∀ d ∈ StrChars.Road.words, d.before a0 Z = true := fun d hd => hw d ((by decide +kernel : ∀ d ∈ StrChars.Road.words, d ∈ tables_1) d hd)
  have k221 : Kt p e below m (s₁.setTop (entryFrame m #[(.int p1), (.int p2), (.int p3), (.int p4), (.int p5), (.int p6)] maxLocals)) s₁ 2 #[.val (.int p1), .val (.int p2), .val (.int p3), .val (.int p4), .val (.int p5), .val (.int p6), .unset, .unset, .unset, .unset, .unset, .unset, .unset, .unset, .unset, .unset, .unset, .unset] [(.int (34 : Int32))] := by
    intro t ht
    refine k0 t ?_
    show Steps p.tables e below (s₁.setTop (mkF m 0 #[.val (.int p1), .val (.int p2), .val (.int p3), .val (.int p4), .val (.int p5), .val (.int p6), .unset, .unset, .unset, .unset, .unset, .unset, .unset, .unset, .unset, .unset, .unset, .unset] [])) t
    refine XS.bipush X0.here hx rfl (hb hby at_0) ?_
    exact ht
  obtain ⟨T222, h222, ak222, X222, e222, E222, A222, st222⟩ := newP X0 hx hZ (hw _ (List.mem_of_getElem? (i := 0) rfl)) e0 (g := (mkF m 2 #[.val (.int p1), .val (.int p2), .val (.int p3), .val (.int p4), .val (.int p5), .val (.int p6), .unset, .unset, .unset, .unset, .unset, .unset, .unset, .unset, .unset, .unset, .unset, .unset] [(.int (34 : Int32))])) rfl (hb hby at_2) rfl (by decide) (cap := 34) (by decide) (by decide) (by decide) (by decide)
  obtain ⟨na, q222⟩ : ∃ z, z = h0.size := ⟨_, rfl⟩
  have g_na : n0 ≤ na := by rw [q222]; exact Z0
  rw [← q222] at A222 st222
  have f223 : n0 ≤ h222.size := Nat.le_trans Z0 E222.1
  have f224 : CHr Z consts_1 s.vm h0 s.vm h222 := R0.trans (CHr.ext E222 R0.1)
  have f225 : Old Z n0 h222 := O.ext E222
  have Sf222 : Safe Z consts_1 s.vm h222 na := Safe.ext E222 R0.1 (Safe.new (by rw [q222]; exact Nat.le_refl _))
  have f222 : Arv Z h222 na ak222 .char (34 : Int32) [(.int (0 : Int32)), (.int (0 : Int32)), (.int (0 : Int32)), (.int (0 : Int32)), (.int (0 : Int32)), (.int (0 : Int32)), (.int (0 : Int32)), (.int (0 : Int32)), (.int (0 : Int32)), (.int (0 : Int32)), (.int (0 : Int32)), (.int (0 : Int32)), (.int (0 : Int32)), (.int (0 : Int32)), (.int (0 : Int32)), (.int (0 : Int32)), (.int (0 : Int32)), (.int (0 : Int32)), (.int (0 : Int32)), (.int (0 : Int32)), (.int (0 : Int32)), (.int (0 : Int32)), (.int (0 : Int32)), (.int (0 : Int32)), (.int (0 : Int32)), (.int (0 : Int32)), (.int (0 : Int32)), (.int (0 : Int32)), (.int (0 : Int32)), (.int (0 : Int32)), (.int (0 : Int32)), (.int (0 : Int32)), (.int (0 : Int32)), (.int (0 : Int32))] (.int (0 : Int32)) := (Arv.new A222 (by decide)).pad (pad_rep [] (.int (0 : Int32)) 34)
  have k222 : Kt p e below m (s₁.setTop (entryFrame m #[(.int p1), (.int p2), (.int p3), (.int p4), (.int p5), (.int p6)] maxLocals)) T222 4 #[.val (.int p1), .val (.int p2), .val (.int p3), .val (.int p4), .val (.int p5), .val (.int p6), .unset, .unset, .unset, .unset, .unset, .unset, .unset, .unset, .unset, .unset, .unset, .unset] [(.ref na)] := fun t ht => k221 t (st222 t ht)
  have f226 : Arv Z h222 na ak222 .char (34 : Int32) (own_fill own_ns 34 0) (.int (0 : Int32)) := by rw [own_fill0]; exact (Arv.new A222 (by decide)).pad (pad_rep [] _ 34)
  obtain ⟨Tj227, hj227, locsj227, Xj227, ej227, Nj227, fj227_0, fj227_1, fj227_2, fj227_3, fj227_4, kj227⟩ : ∃ (Tj227 : State) (hj227 : Heap) (locsj227 : List Loc), Stand p l e room_1 (s.setVm s.vm) m #[(.int p1), (.int p2), (.int p3), (.int p4), (.int p5), (.int p6)] below meth c Tj227 locsj227 1 34 ∧ Tj227.heap = hj227 ∧ Fr n0 locsj227 ∧ n0 ≤ hj227.size ∧ CHr Z consts_1 s.vm h0 s.vm hj227 ∧ Old Z n0 hj227 ∧ Safe Z consts_1 s.vm hj227 na ∧ Arv Z hj227 na ak222 .char (34 : Int32) (own_ns.map Value.int) (.int (0 : Int32)) ∧ Kt p e below m (s₁.setTop (entryFrame m #[(.int p1), (.int p2), (.int p3), (.int p4), (.int p5), (.int p6)] maxLocals)) Tj227 202 #[.val (.int p1), .val (.int p2), .val (.int p3), .val (.int p4), .val (.int p5), .val (.int p6), .unset, .unset, .unset, .unset, .unset, .unset, .unset, .unset, .unset, .unset, .unset, .unset] [(.ref na)] := by
    have k228 : Kt p e below m (s₁.setTop (entryFrame m #[(.int p1), (.int p2), (.int p3), (.int p4), (.int p5), (.int p6)] maxLocals)) T222 8 #[.val (.int p1), .val (.int p2), .val (.int p3), .val (.int p4), .val (.int p5), .val (.int p6), .unset, .unset, .unset, .unset, .unset, .unset, .unset, .unset, .unset, .unset, .unset, .unset] [(.int (104 : Int32)), (.int (0 : Int32)), (.ref na), (.ref na)] := by
      intro t ht
      refine k222 t ?_
      show Steps p.tables e below (T222.setTop (mkF m 4 #[.val (.int p1), .val (.int p2), .val (.int p3), .val (.int p4), .val (.int p5), .val (.int p6), .unset, .unset, .unset, .unset, .unset, .unset, .unset, .unset, .unset, .unset, .unset, .unset] [(.ref na)])) t
      refine XS.dup X222.here hx rfl (hb hby at_4) rfl rfl ?_
      show Steps p.tables e below (T222.setTop (mkF m 5 #[.val (.int p1), .val (.int p2), .val (.int p3), .val (.int p4), .val (.int p5), .val (.int p6), .unset, .unset, .unset, .unset, .unset, .unset, .unset, .unset, .unset, .unset, .unset, .unset] [(.ref na), (.ref na)])) t
      refine XS.iconst X222.here hx rfl (hb hby at_5) ?_
      show Steps p.tables e below (T222.setTop (mkF m 6 #[.val (.int p1), .val (.int p2), .val (.int p3), .val (.int p4), .val (.int p5), .val (.int p6), .unset, .unset, .unset, .unset, .unset, .unset, .unset, .unset, .unset, .unset, .unset, .unset] [(.int (0 : Int32)), (.ref na), (.ref na)])) t
      refine XS.bipush X222.here hx rfl (hb hby at_6) ?_
      exact ht
    obtain ⟨T229, h229, locs229, sl229, v229, X229, e229, N229, W229, A229, st229⟩ := own_fs X222 hx hZ e222 f226 N0 g_na (j := (0 : Int32)) (i := 0) rfl ⟨by decide, by decide⟩ (x := (104 : Int32)) rfl rfl (by decide) (g := (mkF m 8 #[.val (.int p1), .val (.int p2), .val (.int p3), .val (.int p4), .val (.int p5), .val (.int p6), .unset, .unset, .unset, .unset, .unset, .unset, .unset, .unset, .unset, .unset, .unset, .unset] [(.int (104 : Int32)), (.int (0 : Int32)), (.ref na), (.ref na)])) rfl rfl (hb hby at_8)
    have f230 : n0 ≤ h229.size := Nat.le_trans f223 (Keep.of_wr W229).1
    have f231 : CHr Z consts_1 s.vm h0 s.vm h229 := f224.trans (CHr.wr W229 Sf222 f224.1)
    have f232 : Old Z n0 h229 := f225.wr W229 g_na
    have f233 : Safe Z consts_1 s.vm h229 na := Safe.wr W229 Sf222 f224.1 Sf222
    have f234 : Arv Z h229 na ak222 .char (34 : Int32) (own_fill own_ns 34 1) (.int (0 : Int32)) := A229
    have k229 : Kt p e below m (s₁.setTop (entryFrame m #[(.int p1), (.int p2), (.int p3), (.int p4), (.int p5), (.int p6)] maxLocals)) T229 9 #[.val (.int p1), .val (.int p2), .val (.int p3), .val (.int p4), .val (.int p5), .val (.int p6), .unset, .unset, .unset, .unset, .unset, .unset, .unset, .unset, .unset, .unset, .unset, .unset] [(.ref na)] := fun t ht => k228 t (st229 t ht)
    have k235 : Kt p e below m (s₁.setTop (entryFrame m #[(.int p1), (.int p2), (.int p3), (.int p4), (.int p5), (.int p6)] maxLocals)) T229 13 #[.val (.int p1), .val (.int p2), .val (.int p3), .val (.int p4), .val (.int p5), .val (.int p6), .unset, .unset, .unset, .unset, .unset, .unset, .unset, .unset, .unset, .unset, .unset, .unset] [(.int (116 : Int32)), (.int (1 : Int32)), (.ref na), (.ref na)] := by
      intro t ht
      refine k229 t ?_
      show Steps p.tables e below (T229.setTop (mkF m 9 #[.val (.int p1), .val (.int p2), .val (.int p3), .val (.int p4), .val (.int p5), .val (.int p6), .unset, .unset, .unset, .unset, .unset, .unset, .unset, .unset, .unset, .unset, .unset, .unset] [(.ref na)])) t
      refine XS.dup X229.here hx rfl (hb hby at_9) rfl rfl ?_
      show Steps p.tables e below (T229.setTop (mkF m 10 #[.val (.int p1), .val (.int p2), .val (.int p3), .val (.int p4), .val (.int p5), .val (.int p6), .unset, .unset, .unset, .unset, .unset, .unset, .unset, .unset, .unset, .unset, .unset, .unset] [(.ref na), (.ref na)])) t
      refine XS.iconst X229.here hx rfl (hb hby at_10) ?_
      show Steps p.tables e below (T229.setTop (mkF m 11 #[.val (.int p1), .val (.int p2), .val (.int p3), .val (.int p4), .val (.int p5), .val (.int p6), .unset, .unset, .unset, .unset, .unset, .unset, .unset, .unset, .unset, .unset, .unset, .unset] [(.int (1 : Int32)), (.ref na), (.ref na)])) t
      refine XS.bipush X229.here hx rfl (hb hby at_11) ?_
      exact ht
    obtain ⟨T236, h236, locs236, sl236, v236, X236, e236, N236, W236, A236, st236⟩ := own_fs X229 hx hZ e229 f234 N229 g_na (j := (1 : Int32)) (i := 1) rfl ⟨by decide, by decide⟩ (x := (116 : Int32)) rfl rfl (by decide) (g := (mkF m 13 #[.val (.int p1), .val (.int p2), .val (.int p3), .val (.int p4), .val (.int p5), .val (.int p6), .unset, .unset, .unset, .unset, .unset, .unset, .unset, .unset, .unset, .unset, .unset, .unset] [(.int (116 : Int32)), (.int (1 : Int32)), (.ref na), (.ref na)])) rfl rfl (hb hby at_13)
    have f237 : n0 ≤ h236.size := Nat.le_trans f230 (Keep.of_wr W236).1
    have f238 : CHr Z consts_1 s.vm h0 s.vm h236 := f231.trans (CHr.wr W236 f233 f231.1)
    have f239 : Old Z n0 h236 := f232.wr W236 g_na
    have f240 : Safe Z consts_1 s.vm h236 na := Safe.wr W236 f233 f231.1 f233
    have f241 : Arv Z h236 na ak222 .char (34 : Int32) (own_fill own_ns 34 2) (.int (0 : Int32)) := A236
    have k236 : Kt p e below m (s₁.setTop (entryFrame m #[(.int p1), (.int p2), (.int p3), (.int p4), (.int p5), (.int p6)] maxLocals)) T236 14 #[.val (.int p1), .val (.int p2), .val (.int p3), .val (.int p4), .val (.int p5), .val (.int p6), .unset, .unset, .unset, .unset, .unset, .unset, .unset, .unset, .unset, .unset, .unset, .unset] [(.ref na)] := fun t ht => k235 t (st236 t ht)
    have k242 : Kt p e below m (s₁.setTop (entryFrame m #[(.int p1), (.int p2), (.int p3), (.int p4), (.int p5), (.int p6)] maxLocals)) T236 18 #[.val (.int p1), .val (.int p2), .val (.int p3), .val (.int p4), .val (.int p5), .val (.int p6), .unset, .unset, .unset, .unset, .unset, .unset, .unset, .unset, .unset, .unset, .unset, .unset] [(.int (116 : Int32)), (.int (2 : Int32)), (.ref na), (.ref na)] := by
      intro t ht
      refine k236 t ?_
      show Steps p.tables e below (T236.setTop (mkF m 14 #[.val (.int p1), .val (.int p2), .val (.int p3), .val (.int p4), .val (.int p5), .val (.int p6), .unset, .unset, .unset, .unset, .unset, .unset, .unset, .unset, .unset, .unset, .unset, .unset] [(.ref na)])) t
      refine XS.dup X236.here hx rfl (hb hby at_14) rfl rfl ?_
      show Steps p.tables e below (T236.setTop (mkF m 15 #[.val (.int p1), .val (.int p2), .val (.int p3), .val (.int p4), .val (.int p5), .val (.int p6), .unset, .unset, .unset, .unset, .unset, .unset, .unset, .unset, .unset, .unset, .unset, .unset] [(.ref na), (.ref na)])) t
      refine XS.iconst X236.here hx rfl (hb hby at_15) ?_
      show Steps p.tables e below (T236.setTop (mkF m 16 #[.val (.int p1), .val (.int p2), .val (.int p3), .val (.int p4), .val (.int p5), .val (.int p6), .unset, .unset, .unset, .unset, .unset, .unset, .unset, .unset, .unset, .unset, .unset, .unset] [(.int (2 : Int32)), (.ref na), (.ref na)])) t
      refine XS.bipush X236.here hx rfl (hb hby at_16) ?_
      exact ht
    obtain ⟨T243, h243, locs243, sl243, v243, X243, e243, N243, W243, A243, st243⟩ := own_fs X236 hx hZ e236 f241 N236 g_na (j := (2 : Int32)) (i := 2) rfl ⟨by decide, by decide⟩ (x := (116 : Int32)) rfl rfl (by decide) (g := (mkF m 18 #[.val (.int p1), .val (.int p2), .val (.int p3), .val (.int p4), .val (.int p5), .val (.int p6), .unset, .unset, .unset, .unset, .unset, .unset, .unset, .unset, .unset, .unset, .unset, .unset] [(.int (116 : Int32)), (.int (2 : Int32)), (.ref na), (.ref na)])) rfl rfl (hb hby at_18)
    have f244 : n0 ≤ h243.size := Nat.le_trans f237 (Keep.of_wr W243).1
    have f245 : CHr Z consts_1 s.vm h0 s.vm h243 := f238.trans (CHr.wr W243 f240 f238.1)
    have f246 : Old Z n0 h243 := f239.wr W243 g_na
    have f247 : Safe Z consts_1 s.vm h243 na := Safe.wr W243 f240 f238.1 f240
    have f248 : Arv Z h243 na ak222 .char (34 : Int32) (own_fill own_ns 34 3) (.int (0 : Int32)) := A243
    have k243 : Kt p e below m (s₁.setTop (entryFrame m #[(.int p1), (.int p2), (.int p3), (.int p4), (.int p5), (.int p6)] maxLocals)) T243 19 #[.val (.int p1), .val (.int p2), .val (.int p3), .val (.int p4), .val (.int p5), .val (.int p6), .unset, .unset, .unset, .unset, .unset, .unset, .unset, .unset, .unset, .unset, .unset, .unset] [(.ref na)] := fun t ht => k242 t (st243 t ht)
    have k249 : Kt p e below m (s₁.setTop (entryFrame m #[(.int p1), (.int p2), (.int p3), (.int p4), (.int p5), (.int p6)] maxLocals)) T243 23 #[.val (.int p1), .val (.int p2), .val (.int p3), .val (.int p4), .val (.int p5), .val (.int p6), .unset, .unset, .unset, .unset, .unset, .unset, .unset, .unset, .unset, .unset, .unset, .unset] [(.int (112 : Int32)), (.int (3 : Int32)), (.ref na), (.ref na)] := by
      intro t ht
      refine k243 t ?_
      show Steps p.tables e below (T243.setTop (mkF m 19 #[.val (.int p1), .val (.int p2), .val (.int p3), .val (.int p4), .val (.int p5), .val (.int p6), .unset, .unset, .unset, .unset, .unset, .unset, .unset, .unset, .unset, .unset, .unset, .unset] [(.ref na)])) t
      refine XS.dup X243.here hx rfl (hb hby at_19) rfl rfl ?_
      show Steps p.tables e below (T243.setTop (mkF m 20 #[.val (.int p1), .val (.int p2), .val (.int p3), .val (.int p4), .val (.int p5), .val (.int p6), .unset, .unset, .unset, .unset, .unset, .unset, .unset, .unset, .unset, .unset, .unset, .unset] [(.ref na), (.ref na)])) t
      refine XS.iconst X243.here hx rfl (hb hby at_20) ?_
      show Steps p.tables e below (T243.setTop (mkF m 21 #[.val (.int p1), .val (.int p2), .val (.int p3), .val (.int p4), .val (.int p5), .val (.int p6), .unset, .unset, .unset, .unset, .unset, .unset, .unset, .unset, .unset, .unset, .unset, .unset] [(.int (3 : Int32)), (.ref na), (.ref na)])) t
      refine XS.bipush X243.here hx rfl (hb hby at_21) ?_
      exact ht
    obtain ⟨T250, h250, locs250, sl250, v250, X250, e250, N250, W250, A250, st250⟩ := own_fs X243 hx hZ e243 f248 N243 g_na (j := (3 : Int32)) (i := 3) rfl ⟨by decide, by decide⟩ (x := (112 : Int32)) rfl rfl (by decide) (g := (mkF m 23 #[.val (.int p1), .val (.int p2), .val (.int p3), .val (.int p4), .val (.int p5), .val (.int p6), .unset, .unset, .unset, .unset, .unset, .unset, .unset, .unset, .unset, .unset, .unset, .unset] [(.int (112 : Int32)), (.int (3 : Int32)), (.ref na), (.ref na)])) rfl rfl (hb hby at_23)
    have f251 : n0 ≤ h250.size := Nat.le_trans f244 (Keep.of_wr W250).1
    have f252 : CHr Z consts_1 s.vm h0 s.vm h250 := f245.trans (CHr.wr W250 f247 f245.1)
    have f253 : Old Z n0 h250 := f246.wr W250 g_na
    have f254 : Safe Z consts_1 s.vm h250 na := Safe.wr W250 f247 f245.1 f247
    have f255 : Arv Z h250 na ak222 .char (34 : Int32) (own_fill own_ns 34 4) (.int (0 : Int32)) := A250
    have k250 : Kt p e below m (s₁.setTop (entryFrame m #[(.int p1), (.int p2), (.int p3), (.int p4), (.int p5), (.int p6)] maxLocals)) T250 24 #[.val (.int p1), .val (.int p2), .val (.int p3), .val (.int p4), .val (.int p5), .val (.int p6), .unset, .unset, .unset, .unset, .unset, .unset, .unset, .unset, .unset, .unset, .unset, .unset] [(.ref na)] := fun t ht => k249 t (st250 t ht)
    have k256 : Kt p e below m (s₁.setTop (entryFrame m #[(.int p1), (.int p2), (.int p3), (.int p4), (.int p5), (.int p6)] maxLocals)) T250 28 #[.val (.int p1), .val (.int p2), .val (.int p3), .val (.int p4), .val (.int p5), .val (.int p6), .unset, .unset, .unset, .unset, .unset, .unset, .unset, .unset, .unset, .unset, .unset, .unset] [(.int (58 : Int32)), (.int (4 : Int32)), (.ref na), (.ref na)] := by
      intro t ht
      refine k250 t ?_
      show Steps p.tables e below (T250.setTop (mkF m 24 #[.val (.int p1), .val (.int p2), .val (.int p3), .val (.int p4), .val (.int p5), .val (.int p6), .unset, .unset, .unset, .unset, .unset, .unset, .unset, .unset, .unset, .unset, .unset, .unset] [(.ref na)])) t
      refine XS.dup X250.here hx rfl (hb hby at_24) rfl rfl ?_
      show Steps p.tables e below (T250.setTop (mkF m 25 #[.val (.int p1), .val (.int p2), .val (.int p3), .val (.int p4), .val (.int p5), .val (.int p6), .unset, .unset, .unset, .unset, .unset, .unset, .unset, .unset, .unset, .unset, .unset, .unset] [(.ref na), (.ref na)])) t
      refine XS.iconst X250.here hx rfl (hb hby at_25) ?_
      show Steps p.tables e below (T250.setTop (mkF m 26 #[.val (.int p1), .val (.int p2), .val (.int p3), .val (.int p4), .val (.int p5), .val (.int p6), .unset, .unset, .unset, .unset, .unset, .unset, .unset, .unset, .unset, .unset, .unset, .unset] [(.int (4 : Int32)), (.ref na), (.ref na)])) t
      refine XS.bipush X250.here hx rfl (hb hby at_26) ?_
      exact ht
    obtain ⟨T257, h257, locs257, sl257, v257, X257, e257, N257, W257, A257, st257⟩ := own_fs X250 hx hZ e250 f255 N250 g_na (j := (4 : Int32)) (i := 4) rfl ⟨by decide, by decide⟩ (x := (58 : Int32)) rfl rfl (by decide) (g := (mkF m 28 #[.val (.int p1), .val (.int p2), .val (.int p3), .val (.int p4), .val (.int p5), .val (.int p6), .unset, .unset, .unset, .unset, .unset, .unset, .unset, .unset, .unset, .unset, .unset, .unset] [(.int (58 : Int32)), (.int (4 : Int32)), (.ref na), (.ref na)])) rfl rfl (hb hby at_28)
    have f258 : n0 ≤ h257.size := Nat.le_trans f251 (Keep.of_wr W257).1
    have f259 : CHr Z consts_1 s.vm h0 s.vm h257 := f252.trans (CHr.wr W257 f254 f252.1)
    have f260 : Old Z n0 h257 := f253.wr W257 g_na
    have f261 : Safe Z consts_1 s.vm h257 na := Safe.wr W257 f254 f252.1 f254
    have f262 : Arv Z h257 na ak222 .char (34 : Int32) (own_fill own_ns 34 5) (.int (0 : Int32)) := A257
    have k257 : Kt p e below m (s₁.setTop (entryFrame m #[(.int p1), (.int p2), (.int p3), (.int p4), (.int p5), (.int p6)] maxLocals)) T257 29 #[.val (.int p1), .val (.int p2), .val (.int p3), .val (.int p4), .val (.int p5), .val (.int p6), .unset, .unset, .unset, .unset, .unset, .unset, .unset, .unset, .unset, .unset, .unset, .unset] [(.ref na)] := fun t ht => k256 t (st257 t ht)
    have k263 : Kt p e below m (s₁.setTop (entryFrame m #[(.int p1), (.int p2), (.int p3), (.int p4), (.int p5), (.int p6)] maxLocals)) T257 33 #[.val (.int p1), .val (.int p2), .val (.int p3), .val (.int p4), .val (.int p5), .val (.int p6), .unset, .unset, .unset, .unset, .unset, .unset, .unset, .unset, .unset, .unset, .unset, .unset] [(.int (47 : Int32)), (.int (5 : Int32)), (.ref na), (.ref na)] := by
      intro t ht
      refine k257 t ?_
      show Steps p.tables e below (T257.setTop (mkF m 29 #[.val (.int p1), .val (.int p2), .val (.int p3), .val (.int p4), .val (.int p5), .val (.int p6), .unset, .unset, .unset, .unset, .unset, .unset, .unset, .unset, .unset, .unset, .unset, .unset] [(.ref na)])) t
      refine XS.dup X257.here hx rfl (hb hby at_29) rfl rfl ?_
      show Steps p.tables e below (T257.setTop (mkF m 30 #[.val (.int p1), .val (.int p2), .val (.int p3), .val (.int p4), .val (.int p5), .val (.int p6), .unset, .unset, .unset, .unset, .unset, .unset, .unset, .unset, .unset, .unset, .unset, .unset] [(.ref na), (.ref na)])) t
      refine XS.iconst X257.here hx rfl (hb hby at_30) ?_
      show Steps p.tables e below (T257.setTop (mkF m 31 #[.val (.int p1), .val (.int p2), .val (.int p3), .val (.int p4), .val (.int p5), .val (.int p6), .unset, .unset, .unset, .unset, .unset, .unset, .unset, .unset, .unset, .unset, .unset, .unset] [(.int (5 : Int32)), (.ref na), (.ref na)])) t
      refine XS.bipush X257.here hx rfl (hb hby at_31) ?_
      exact ht
    obtain ⟨T264, h264, locs264, sl264, v264, X264, e264, N264, W264, A264, st264⟩ := own_fs X257 hx hZ e257 f262 N257 g_na (j := (5 : Int32)) (i := 5) rfl ⟨by decide, by decide⟩ (x := (47 : Int32)) rfl rfl (by decide) (g := (mkF m 33 #[.val (.int p1), .val (.int p2), .val (.int p3), .val (.int p4), .val (.int p5), .val (.int p6), .unset, .unset, .unset, .unset, .unset, .unset, .unset, .unset, .unset, .unset, .unset, .unset] [(.int (47 : Int32)), (.int (5 : Int32)), (.ref na), (.ref na)])) rfl rfl (hb hby at_33)
    have f265 : n0 ≤ h264.size := Nat.le_trans f258 (Keep.of_wr W264).1
    have f266 : CHr Z consts_1 s.vm h0 s.vm h264 := f259.trans (CHr.wr W264 f261 f259.1)
    have f267 : Old Z n0 h264 := f260.wr W264 g_na
    have f268 : Safe Z consts_1 s.vm h264 na := Safe.wr W264 f261 f259.1 f261
    have f269 : Arv Z h264 na ak222 .char (34 : Int32) (own_fill own_ns 34 6) (.int (0 : Int32)) := A264
    have k264 : Kt p e below m (s₁.setTop (entryFrame m #[(.int p1), (.int p2), (.int p3), (.int p4), (.int p5), (.int p6)] maxLocals)) T264 34 #[.val (.int p1), .val (.int p2), .val (.int p3), .val (.int p4), .val (.int p5), .val (.int p6), .unset, .unset, .unset, .unset, .unset, .unset, .unset, .unset, .unset, .unset, .unset, .unset] [(.ref na)] := fun t ht => k263 t (st264 t ht)
    have k270 : Kt p e below m (s₁.setTop (entryFrame m #[(.int p1), (.int p2), (.int p3), (.int p4), (.int p5), (.int p6)] maxLocals)) T264 39 #[.val (.int p1), .val (.int p2), .val (.int p3), .val (.int p4), .val (.int p5), .val (.int p6), .unset, .unset, .unset, .unset, .unset, .unset, .unset, .unset, .unset, .unset, .unset, .unset] [(.int (47 : Int32)), (.int (6 : Int32)), (.ref na), (.ref na)] := by
      intro t ht
      refine k264 t ?_
      show Steps p.tables e below (T264.setTop (mkF m 34 #[.val (.int p1), .val (.int p2), .val (.int p3), .val (.int p4), .val (.int p5), .val (.int p6), .unset, .unset, .unset, .unset, .unset, .unset, .unset, .unset, .unset, .unset, .unset, .unset] [(.ref na)])) t
      refine XS.dup X264.here hx rfl (hb hby at_34) rfl rfl ?_
      show Steps p.tables e below (T264.setTop (mkF m 35 #[.val (.int p1), .val (.int p2), .val (.int p3), .val (.int p4), .val (.int p5), .val (.int p6), .unset, .unset, .unset, .unset, .unset, .unset, .unset, .unset, .unset, .unset, .unset, .unset] [(.ref na), (.ref na)])) t
      refine XS.bipush X264.here hx rfl (hb hby at_35) ?_
      show Steps p.tables e below (T264.setTop (mkF m 37 #[.val (.int p1), .val (.int p2), .val (.int p3), .val (.int p4), .val (.int p5), .val (.int p6), .unset, .unset, .unset, .unset, .unset, .unset, .unset, .unset, .unset, .unset, .unset, .unset] [(.int (6 : Int32)), (.ref na), (.ref na)])) t
      refine XS.bipush X264.here hx rfl (hb hby at_37) ?_
      exact ht
    obtain ⟨T271, h271, locs271, sl271, v271, X271, e271, N271, W271, A271, st271⟩ := own_fs X264 hx hZ e264 f269 N264 g_na (j := (6 : Int32)) (i := 6) rfl ⟨by decide, by decide⟩ (x := (47 : Int32)) rfl rfl (by decide) (g := (mkF m 39 #[.val (.int p1), .val (.int p2), .val (.int p3), .val (.int p4), .val (.int p5), .val (.int p6), .unset, .unset, .unset, .unset, .unset, .unset, .unset, .unset, .unset, .unset, .unset, .unset] [(.int (47 : Int32)), (.int (6 : Int32)), (.ref na), (.ref na)])) rfl rfl (hb hby at_39)
    have f272 : n0 ≤ h271.size := Nat.le_trans f265 (Keep.of_wr W271).1
    have f273 : CHr Z consts_1 s.vm h0 s.vm h271 := f266.trans (CHr.wr W271 f268 f266.1)
    have f274 : Old Z n0 h271 := f267.wr W271 g_na
    have f275 : Safe Z consts_1 s.vm h271 na := Safe.wr W271 f268 f266.1 f268
    have f276 : Arv Z h271 na ak222 .char (34 : Int32) (own_fill own_ns 34 7) (.int (0 : Int32)) := A271
    have k271 : Kt p e below m (s₁.setTop (entryFrame m #[(.int p1), (.int p2), (.int p3), (.int p4), (.int p5), (.int p6)] maxLocals)) T271 40 #[.val (.int p1), .val (.int p2), .val (.int p3), .val (.int p4), .val (.int p5), .val (.int p6), .unset, .unset, .unset, .unset, .unset, .unset, .unset, .unset, .unset, .unset, .unset, .unset] [(.ref na)] := fun t ht => k270 t (st271 t ht)
    have k277 : Kt p e below m (s₁.setTop (entryFrame m #[(.int p1), (.int p2), (.int p3), (.int p4), (.int p5), (.int p6)] maxLocals)) T271 45 #[.val (.int p1), .val (.int p2), .val (.int p3), .val (.int p4), .val (.int p5), .val (.int p6), .unset, .unset, .unset, .unset, .unset, .unset, .unset, .unset, .unset, .unset, .unset, .unset] [(.int (119 : Int32)), (.int (7 : Int32)), (.ref na), (.ref na)] := by
      intro t ht
      refine k271 t ?_
      show Steps p.tables e below (T271.setTop (mkF m 40 #[.val (.int p1), .val (.int p2), .val (.int p3), .val (.int p4), .val (.int p5), .val (.int p6), .unset, .unset, .unset, .unset, .unset, .unset, .unset, .unset, .unset, .unset, .unset, .unset] [(.ref na)])) t
      refine XS.dup X271.here hx rfl (hb hby at_40) rfl rfl ?_
      show Steps p.tables e below (T271.setTop (mkF m 41 #[.val (.int p1), .val (.int p2), .val (.int p3), .val (.int p4), .val (.int p5), .val (.int p6), .unset, .unset, .unset, .unset, .unset, .unset, .unset, .unset, .unset, .unset, .unset, .unset] [(.ref na), (.ref na)])) t
      refine XS.bipush X271.here hx rfl (hb hby at_41) ?_
      show Steps p.tables e below (T271.setTop (mkF m 43 #[.val (.int p1), .val (.int p2), .val (.int p3), .val (.int p4), .val (.int p5), .val (.int p6), .unset, .unset, .unset, .unset, .unset, .unset, .unset, .unset, .unset, .unset, .unset, .unset] [(.int (7 : Int32)), (.ref na), (.ref na)])) t
      refine XS.bipush X271.here hx rfl (hb hby at_43) ?_
      exact ht
    obtain ⟨T278, h278, locs278, sl278, v278, X278, e278, N278, W278, A278, st278⟩ := own_fs X271 hx hZ e271 f276 N271 g_na (j := (7 : Int32)) (i := 7) rfl ⟨by decide, by decide⟩ (x := (119 : Int32)) rfl rfl (by decide) (g := (mkF m 45 #[.val (.int p1), .val (.int p2), .val (.int p3), .val (.int p4), .val (.int p5), .val (.int p6), .unset, .unset, .unset, .unset, .unset, .unset, .unset, .unset, .unset, .unset, .unset, .unset] [(.int (119 : Int32)), (.int (7 : Int32)), (.ref na), (.ref na)])) rfl rfl (hb hby at_45)
    have f279 : n0 ≤ h278.size := Nat.le_trans f272 (Keep.of_wr W278).1
    have f280 : CHr Z consts_1 s.vm h0 s.vm h278 := f273.trans (CHr.wr W278 f275 f273.1)
    have f281 : Old Z n0 h278 := f274.wr W278 g_na
    have f282 : Safe Z consts_1 s.vm h278 na := Safe.wr W278 f275 f273.1 f275
    have f283 : Arv Z h278 na ak222 .char (34 : Int32) (own_fill own_ns 34 8) (.int (0 : Int32)) := A278
    have k278 : Kt p e below m (s₁.setTop (entryFrame m #[(.int p1), (.int p2), (.int p3), (.int p4), (.int p5), (.int p6)] maxLocals)) T278 46 #[.val (.int p1), .val (.int p2), .val (.int p3), .val (.int p4), .val (.int p5), .val (.int p6), .unset, .unset, .unset, .unset, .unset, .unset, .unset, .unset, .unset, .unset, .unset, .unset] [(.ref na)] := fun t ht => k277 t (st278 t ht)
    have k284 : Kt p e below m (s₁.setTop (entryFrame m #[(.int p1), (.int p2), (.int p3), (.int p4), (.int p5), (.int p6)] maxLocals)) T278 51 #[.val (.int p1), .val (.int p2), .val (.int p3), .val (.int p4), .val (.int p5), .val (.int p6), .unset, .unset, .unset, .unset, .unset, .unset, .unset, .unset, .unset, .unset, .unset, .unset] [(.int (119 : Int32)), (.int (8 : Int32)), (.ref na), (.ref na)] := by
      intro t ht
      refine k278 t ?_
      show Steps p.tables e below (T278.setTop (mkF m 46 #[.val (.int p1), .val (.int p2), .val (.int p3), .val (.int p4), .val (.int p5), .val (.int p6), .unset, .unset, .unset, .unset, .unset, .unset, .unset, .unset, .unset, .unset, .unset, .unset] [(.ref na)])) t
      refine XS.dup X278.here hx rfl (hb hby at_46) rfl rfl ?_
      show Steps p.tables e below (T278.setTop (mkF m 47 #[.val (.int p1), .val (.int p2), .val (.int p3), .val (.int p4), .val (.int p5), .val (.int p6), .unset, .unset, .unset, .unset, .unset, .unset, .unset, .unset, .unset, .unset, .unset, .unset] [(.ref na), (.ref na)])) t
      refine XS.bipush X278.here hx rfl (hb hby at_47) ?_
      show Steps p.tables e below (T278.setTop (mkF m 49 #[.val (.int p1), .val (.int p2), .val (.int p3), .val (.int p4), .val (.int p5), .val (.int p6), .unset, .unset, .unset, .unset, .unset, .unset, .unset, .unset, .unset, .unset, .unset, .unset] [(.int (8 : Int32)), (.ref na), (.ref na)])) t
      refine XS.bipush X278.here hx rfl (hb hby at_49) ?_
      exact ht
    obtain ⟨T285, h285, locs285, sl285, v285, X285, e285, N285, W285, A285, st285⟩ := own_fs X278 hx hZ e278 f283 N278 g_na (j := (8 : Int32)) (i := 8) rfl ⟨by decide, by decide⟩ (x := (119 : Int32)) rfl rfl (by decide) (g := (mkF m 51 #[.val (.int p1), .val (.int p2), .val (.int p3), .val (.int p4), .val (.int p5), .val (.int p6), .unset, .unset, .unset, .unset, .unset, .unset, .unset, .unset, .unset, .unset, .unset, .unset] [(.int (119 : Int32)), (.int (8 : Int32)), (.ref na), (.ref na)])) rfl rfl (hb hby at_51)
    have f286 : n0 ≤ h285.size := Nat.le_trans f279 (Keep.of_wr W285).1
    have f287 : CHr Z consts_1 s.vm h0 s.vm h285 := f280.trans (CHr.wr W285 f282 f280.1)
    have f288 : Old Z n0 h285 := f281.wr W285 g_na
    have f289 : Safe Z consts_1 s.vm h285 na := Safe.wr W285 f282 f280.1 f282
    have f290 : Arv Z h285 na ak222 .char (34 : Int32) (own_fill own_ns 34 9) (.int (0 : Int32)) := A285
    have k285 : Kt p e below m (s₁.setTop (entryFrame m #[(.int p1), (.int p2), (.int p3), (.int p4), (.int p5), (.int p6)] maxLocals)) T285 52 #[.val (.int p1), .val (.int p2), .val (.int p3), .val (.int p4), .val (.int p5), .val (.int p6), .unset, .unset, .unset, .unset, .unset, .unset, .unset, .unset, .unset, .unset, .unset, .unset] [(.ref na)] := fun t ht => k284 t (st285 t ht)
    have k291 : Kt p e below m (s₁.setTop (entryFrame m #[(.int p1), (.int p2), (.int p3), (.int p4), (.int p5), (.int p6)] maxLocals)) T285 57 #[.val (.int p1), .val (.int p2), .val (.int p3), .val (.int p4), .val (.int p5), .val (.int p6), .unset, .unset, .unset, .unset, .unset, .unset, .unset, .unset, .unset, .unset, .unset, .unset] [(.int (119 : Int32)), (.int (9 : Int32)), (.ref na), (.ref na)] := by
      intro t ht
      refine k285 t ?_
      show Steps p.tables e below (T285.setTop (mkF m 52 #[.val (.int p1), .val (.int p2), .val (.int p3), .val (.int p4), .val (.int p5), .val (.int p6), .unset, .unset, .unset, .unset, .unset, .unset, .unset, .unset, .unset, .unset, .unset, .unset] [(.ref na)])) t
      refine XS.dup X285.here hx rfl (hb hby at_52) rfl rfl ?_
      show Steps p.tables e below (T285.setTop (mkF m 53 #[.val (.int p1), .val (.int p2), .val (.int p3), .val (.int p4), .val (.int p5), .val (.int p6), .unset, .unset, .unset, .unset, .unset, .unset, .unset, .unset, .unset, .unset, .unset, .unset] [(.ref na), (.ref na)])) t
      refine XS.bipush X285.here hx rfl (hb hby at_53) ?_
      show Steps p.tables e below (T285.setTop (mkF m 55 #[.val (.int p1), .val (.int p2), .val (.int p3), .val (.int p4), .val (.int p5), .val (.int p6), .unset, .unset, .unset, .unset, .unset, .unset, .unset, .unset, .unset, .unset, .unset, .unset] [(.int (9 : Int32)), (.ref na), (.ref na)])) t
      refine XS.bipush X285.here hx rfl (hb hby at_55) ?_
      exact ht
    obtain ⟨T292, h292, locs292, sl292, v292, X292, e292, N292, W292, A292, st292⟩ := own_fs X285 hx hZ e285 f290 N285 g_na (j := (9 : Int32)) (i := 9) rfl ⟨by decide, by decide⟩ (x := (119 : Int32)) rfl rfl (by decide) (g := (mkF m 57 #[.val (.int p1), .val (.int p2), .val (.int p3), .val (.int p4), .val (.int p5), .val (.int p6), .unset, .unset, .unset, .unset, .unset, .unset, .unset, .unset, .unset, .unset, .unset, .unset] [(.int (119 : Int32)), (.int (9 : Int32)), (.ref na), (.ref na)])) rfl rfl (hb hby at_57)
    have f293 : n0 ≤ h292.size := Nat.le_trans f286 (Keep.of_wr W292).1
    have f294 : CHr Z consts_1 s.vm h0 s.vm h292 := f287.trans (CHr.wr W292 f289 f287.1)
    have f295 : Old Z n0 h292 := f288.wr W292 g_na
    have f296 : Safe Z consts_1 s.vm h292 na := Safe.wr W292 f289 f287.1 f289
    have f297 : Arv Z h292 na ak222 .char (34 : Int32) (own_fill own_ns 34 10) (.int (0 : Int32)) := A292
    have k292 : Kt p e below m (s₁.setTop (entryFrame m #[(.int p1), (.int p2), (.int p3), (.int p4), (.int p5), (.int p6)] maxLocals)) T292 58 #[.val (.int p1), .val (.int p2), .val (.int p3), .val (.int p4), .val (.int p5), .val (.int p6), .unset, .unset, .unset, .unset, .unset, .unset, .unset, .unset, .unset, .unset, .unset, .unset] [(.ref na)] := fun t ht => k291 t (st292 t ht)
    have k298 : Kt p e below m (s₁.setTop (entryFrame m #[(.int p1), (.int p2), (.int p3), (.int p4), (.int p5), (.int p6)] maxLocals)) T292 63 #[.val (.int p1), .val (.int p2), .val (.int p3), .val (.int p4), .val (.int p5), .val (.int p6), .unset, .unset, .unset, .unset, .unset, .unset, .unset, .unset, .unset, .unset, .unset, .unset] [(.int (46 : Int32)), (.int (10 : Int32)), (.ref na), (.ref na)] := by
      intro t ht
      refine k292 t ?_
      show Steps p.tables e below (T292.setTop (mkF m 58 #[.val (.int p1), .val (.int p2), .val (.int p3), .val (.int p4), .val (.int p5), .val (.int p6), .unset, .unset, .unset, .unset, .unset, .unset, .unset, .unset, .unset, .unset, .unset, .unset] [(.ref na)])) t
      refine XS.dup X292.here hx rfl (hb hby at_58) rfl rfl ?_
      show Steps p.tables e below (T292.setTop (mkF m 59 #[.val (.int p1), .val (.int p2), .val (.int p3), .val (.int p4), .val (.int p5), .val (.int p6), .unset, .unset, .unset, .unset, .unset, .unset, .unset, .unset, .unset, .unset, .unset, .unset] [(.ref na), (.ref na)])) t
      refine XS.bipush X292.here hx rfl (hb hby at_59) ?_
      show Steps p.tables e below (T292.setTop (mkF m 61 #[.val (.int p1), .val (.int p2), .val (.int p3), .val (.int p4), .val (.int p5), .val (.int p6), .unset, .unset, .unset, .unset, .unset, .unset, .unset, .unset, .unset, .unset, .unset, .unset] [(.int (10 : Int32)), (.ref na), (.ref na)])) t
      refine XS.bipush X292.here hx rfl (hb hby at_61) ?_
      exact ht
    obtain ⟨T299, h299, locs299, sl299, v299, X299, e299, N299, W299, A299, st299⟩ := own_fs X292 hx hZ e292 f297 N292 g_na (j := (10 : Int32)) (i := 10) rfl ⟨by decide, by decide⟩ (x := (46 : Int32)) rfl rfl (by decide) (g := (mkF m 63 #[.val (.int p1), .val (.int p2), .val (.int p3), .val (.int p4), .val (.int p5), .val (.int p6), .unset, .unset, .unset, .unset, .unset, .unset, .unset, .unset, .unset, .unset, .unset, .unset] [(.int (46 : Int32)), (.int (10 : Int32)), (.ref na), (.ref na)])) rfl rfl (hb hby at_63)
    have f300 : n0 ≤ h299.size := Nat.le_trans f293 (Keep.of_wr W299).1
    have f301 : CHr Z consts_1 s.vm h0 s.vm h299 := f294.trans (CHr.wr W299 f296 f294.1)
    have f302 : Old Z n0 h299 := f295.wr W299 g_na
    have f303 : Safe Z consts_1 s.vm h299 na := Safe.wr W299 f296 f294.1 f296
    have f304 : Arv Z h299 na ak222 .char (34 : Int32) (own_fill own_ns 34 11) (.int (0 : Int32)) := A299
    have k299 : Kt p e below m (s₁.setTop (entryFrame m #[(.int p1), (.int p2), (.int p3), (.int p4), (.int p5), (.int p6)] maxLocals)) T299 64 #[.val (.int p1), .val (.int p2), .val (.int p3), .val (.int p4), .val (.int p5), .val (.int p6), .unset, .unset, .unset, .unset, .unset, .unset, .unset, .unset, .unset, .unset, .unset, .unset] [(.ref na)] := fun t ht => k298 t (st299 t ht)
    have k305 : Kt p e below m (s₁.setTop (entryFrame m #[(.int p1), (.int p2), (.int p3), (.int p4), (.int p5), (.int p6)] maxLocals)) T299 69 #[.val (.int p1), .val (.int p2), .val (.int p3), .val (.int p4), .val (.int p5), .val (.int p6), .unset, .unset, .unset, .unset, .unset, .unset, .unset, .unset, .unset, .unset, .unset, .unset] [(.int (119 : Int32)), (.int (11 : Int32)), (.ref na), (.ref na)] := by
      intro t ht
      refine k299 t ?_
      show Steps p.tables e below (T299.setTop (mkF m 64 #[.val (.int p1), .val (.int p2), .val (.int p3), .val (.int p4), .val (.int p5), .val (.int p6), .unset, .unset, .unset, .unset, .unset, .unset, .unset, .unset, .unset, .unset, .unset, .unset] [(.ref na)])) t
      refine XS.dup X299.here hx rfl (hb hby at_64) rfl rfl ?_
      show Steps p.tables e below (T299.setTop (mkF m 65 #[.val (.int p1), .val (.int p2), .val (.int p3), .val (.int p4), .val (.int p5), .val (.int p6), .unset, .unset, .unset, .unset, .unset, .unset, .unset, .unset, .unset, .unset, .unset, .unset] [(.ref na), (.ref na)])) t
      refine XS.bipush X299.here hx rfl (hb hby at_65) ?_
      show Steps p.tables e below (T299.setTop (mkF m 67 #[.val (.int p1), .val (.int p2), .val (.int p3), .val (.int p4), .val (.int p5), .val (.int p6), .unset, .unset, .unset, .unset, .unset, .unset, .unset, .unset, .unset, .unset, .unset, .unset] [(.int (11 : Int32)), (.ref na), (.ref na)])) t
      refine XS.bipush X299.here hx rfl (hb hby at_67) ?_
      exact ht
    obtain ⟨T306, h306, locs306, sl306, v306, X306, e306, N306, W306, A306, st306⟩ := own_fs X299 hx hZ e299 f304 N299 g_na (j := (11 : Int32)) (i := 11) rfl ⟨by decide, by decide⟩ (x := (119 : Int32)) rfl rfl (by decide) (g := (mkF m 69 #[.val (.int p1), .val (.int p2), .val (.int p3), .val (.int p4), .val (.int p5), .val (.int p6), .unset, .unset, .unset, .unset, .unset, .unset, .unset, .unset, .unset, .unset, .unset, .unset] [(.int (119 : Int32)), (.int (11 : Int32)), (.ref na), (.ref na)])) rfl rfl (hb hby at_69)
    have f307 : n0 ≤ h306.size := Nat.le_trans f300 (Keep.of_wr W306).1
    have f308 : CHr Z consts_1 s.vm h0 s.vm h306 := f301.trans (CHr.wr W306 f303 f301.1)
    have f309 : Old Z n0 h306 := f302.wr W306 g_na
    have f310 : Safe Z consts_1 s.vm h306 na := Safe.wr W306 f303 f301.1 f303
    have f311 : Arv Z h306 na ak222 .char (34 : Int32) (own_fill own_ns 34 12) (.int (0 : Int32)) := A306
    have k306 : Kt p e below m (s₁.setTop (entryFrame m #[(.int p1), (.int p2), (.int p3), (.int p4), (.int p5), (.int p6)] maxLocals)) T306 70 #[.val (.int p1), .val (.int p2), .val (.int p3), .val (.int p4), .val (.int p5), .val (.int p6), .unset, .unset, .unset, .unset, .unset, .unset, .unset, .unset, .unset, .unset, .unset, .unset] [(.ref na)] := fun t ht => k305 t (st306 t ht)
    have k312 : Kt p e below m (s₁.setTop (entryFrame m #[(.int p1), (.int p2), (.int p3), (.int p4), (.int p5), (.int p6)] maxLocals)) T306 75 #[.val (.int p1), .val (.int p2), .val (.int p3), .val (.int p4), .val (.int p5), .val (.int p6), .unset, .unset, .unset, .unset, .unset, .unset, .unset, .unset, .unset, .unset, .unset, .unset] [(.int (51 : Int32)), (.int (12 : Int32)), (.ref na), (.ref na)] := by
      intro t ht
      refine k306 t ?_
      show Steps p.tables e below (T306.setTop (mkF m 70 #[.val (.int p1), .val (.int p2), .val (.int p3), .val (.int p4), .val (.int p5), .val (.int p6), .unset, .unset, .unset, .unset, .unset, .unset, .unset, .unset, .unset, .unset, .unset, .unset] [(.ref na)])) t
      refine XS.dup X306.here hx rfl (hb hby at_70) rfl rfl ?_
      show Steps p.tables e below (T306.setTop (mkF m 71 #[.val (.int p1), .val (.int p2), .val (.int p3), .val (.int p4), .val (.int p5), .val (.int p6), .unset, .unset, .unset, .unset, .unset, .unset, .unset, .unset, .unset, .unset, .unset, .unset] [(.ref na), (.ref na)])) t
      refine XS.bipush X306.here hx rfl (hb hby at_71) ?_
      show Steps p.tables e below (T306.setTop (mkF m 73 #[.val (.int p1), .val (.int p2), .val (.int p3), .val (.int p4), .val (.int p5), .val (.int p6), .unset, .unset, .unset, .unset, .unset, .unset, .unset, .unset, .unset, .unset, .unset, .unset] [(.int (12 : Int32)), (.ref na), (.ref na)])) t
      refine XS.bipush X306.here hx rfl (hb hby at_73) ?_
      exact ht
    obtain ⟨T313, h313, locs313, sl313, v313, X313, e313, N313, W313, A313, st313⟩ := own_fs X306 hx hZ e306 f311 N306 g_na (j := (12 : Int32)) (i := 12) rfl ⟨by decide, by decide⟩ (x := (51 : Int32)) rfl rfl (by decide) (g := (mkF m 75 #[.val (.int p1), .val (.int p2), .val (.int p3), .val (.int p4), .val (.int p5), .val (.int p6), .unset, .unset, .unset, .unset, .unset, .unset, .unset, .unset, .unset, .unset, .unset, .unset] [(.int (51 : Int32)), (.int (12 : Int32)), (.ref na), (.ref na)])) rfl rfl (hb hby at_75)
    have f314 : n0 ≤ h313.size := Nat.le_trans f307 (Keep.of_wr W313).1
    have f315 : CHr Z consts_1 s.vm h0 s.vm h313 := f308.trans (CHr.wr W313 f310 f308.1)
    have f316 : Old Z n0 h313 := f309.wr W313 g_na
    have f317 : Safe Z consts_1 s.vm h313 na := Safe.wr W313 f310 f308.1 f310
    have f318 : Arv Z h313 na ak222 .char (34 : Int32) (own_fill own_ns 34 13) (.int (0 : Int32)) := A313
    have k313 : Kt p e below m (s₁.setTop (entryFrame m #[(.int p1), (.int p2), (.int p3), (.int p4), (.int p5), (.int p6)] maxLocals)) T313 76 #[.val (.int p1), .val (.int p2), .val (.int p3), .val (.int p4), .val (.int p5), .val (.int p6), .unset, .unset, .unset, .unset, .unset, .unset, .unset, .unset, .unset, .unset, .unset, .unset] [(.ref na)] := fun t ht => k312 t (st313 t ht)
    have k319 : Kt p e below m (s₁.setTop (entryFrame m #[(.int p1), (.int p2), (.int p3), (.int p4), (.int p5), (.int p6)] maxLocals)) T313 81 #[.val (.int p1), .val (.int p2), .val (.int p3), .val (.int p4), .val (.int p5), .val (.int p6), .unset, .unset, .unset, .unset, .unset, .unset, .unset, .unset, .unset, .unset, .unset, .unset] [(.int (46 : Int32)), (.int (13 : Int32)), (.ref na), (.ref na)] := by
      intro t ht
      refine k313 t ?_
      show Steps p.tables e below (T313.setTop (mkF m 76 #[.val (.int p1), .val (.int p2), .val (.int p3), .val (.int p4), .val (.int p5), .val (.int p6), .unset, .unset, .unset, .unset, .unset, .unset, .unset, .unset, .unset, .unset, .unset, .unset] [(.ref na)])) t
      refine XS.dup X313.here hx rfl (hb hby at_76) rfl rfl ?_
      show Steps p.tables e below (T313.setTop (mkF m 77 #[.val (.int p1), .val (.int p2), .val (.int p3), .val (.int p4), .val (.int p5), .val (.int p6), .unset, .unset, .unset, .unset, .unset, .unset, .unset, .unset, .unset, .unset, .unset, .unset] [(.ref na), (.ref na)])) t
      refine XS.bipush X313.here hx rfl (hb hby at_77) ?_
      show Steps p.tables e below (T313.setTop (mkF m 79 #[.val (.int p1), .val (.int p2), .val (.int p3), .val (.int p4), .val (.int p5), .val (.int p6), .unset, .unset, .unset, .unset, .unset, .unset, .unset, .unset, .unset, .unset, .unset, .unset] [(.int (13 : Int32)), (.ref na), (.ref na)])) t
      refine XS.bipush X313.here hx rfl (hb hby at_79) ?_
      exact ht
    obtain ⟨T320, h320, locs320, sl320, v320, X320, e320, N320, W320, A320, st320⟩ := own_fs X313 hx hZ e313 f318 N313 g_na (j := (13 : Int32)) (i := 13) rfl ⟨by decide, by decide⟩ (x := (46 : Int32)) rfl rfl (by decide) (g := (mkF m 81 #[.val (.int p1), .val (.int p2), .val (.int p3), .val (.int p4), .val (.int p5), .val (.int p6), .unset, .unset, .unset, .unset, .unset, .unset, .unset, .unset, .unset, .unset, .unset, .unset] [(.int (46 : Int32)), (.int (13 : Int32)), (.ref na), (.ref na)])) rfl rfl (hb hby at_81)
    have f321 : n0 ≤ h320.size := Nat.le_trans f314 (Keep.of_wr W320).1
    have f322 : CHr Z consts_1 s.vm h0 s.vm h320 := f315.trans (CHr.wr W320 f317 f315.1)
    have f323 : Old Z n0 h320 := f316.wr W320 g_na
    have f324 : Safe Z consts_1 s.vm h320 na := Safe.wr W320 f317 f315.1 f317
    have f325 : Arv Z h320 na ak222 .char (34 : Int32) (own_fill own_ns 34 14) (.int (0 : Int32)) := A320
    have k320 : Kt p e below m (s₁.setTop (entryFrame m #[(.int p1), (.int p2), (.int p3), (.int p4), (.int p5), (.int p6)] maxLocals)) T320 82 #[.val (.int p1), .val (.int p2), .val (.int p3), .val (.int p4), .val (.int p5), .val (.int p6), .unset, .unset, .unset, .unset, .unset, .unset, .unset, .unset, .unset, .unset, .unset, .unset] [(.ref na)] := fun t ht => k319 t (st320 t ht)
    have k326 : Kt p e below m (s₁.setTop (entryFrame m #[(.int p1), (.int p2), (.int p3), (.int p4), (.int p5), (.int p6)] maxLocals)) T320 87 #[.val (.int p1), .val (.int p2), .val (.int p3), .val (.int p4), .val (.int p5), .val (.int p6), .unset, .unset, .unset, .unset, .unset, .unset, .unset, .unset, .unset, .unset, .unset, .unset] [(.int (111 : Int32)), (.int (14 : Int32)), (.ref na), (.ref na)] := by
      intro t ht
      refine k320 t ?_
      show Steps p.tables e below (T320.setTop (mkF m 82 #[.val (.int p1), .val (.int p2), .val (.int p3), .val (.int p4), .val (.int p5), .val (.int p6), .unset, .unset, .unset, .unset, .unset, .unset, .unset, .unset, .unset, .unset, .unset, .unset] [(.ref na)])) t
      refine XS.dup X320.here hx rfl (hb hby at_82) rfl rfl ?_
      show Steps p.tables e below (T320.setTop (mkF m 83 #[.val (.int p1), .val (.int p2), .val (.int p3), .val (.int p4), .val (.int p5), .val (.int p6), .unset, .unset, .unset, .unset, .unset, .unset, .unset, .unset, .unset, .unset, .unset, .unset] [(.ref na), (.ref na)])) t
      refine XS.bipush X320.here hx rfl (hb hby at_83) ?_
      show Steps p.tables e below (T320.setTop (mkF m 85 #[.val (.int p1), .val (.int p2), .val (.int p3), .val (.int p4), .val (.int p5), .val (.int p6), .unset, .unset, .unset, .unset, .unset, .unset, .unset, .unset, .unset, .unset, .unset, .unset] [(.int (14 : Int32)), (.ref na), (.ref na)])) t
      refine XS.bipush X320.here hx rfl (hb hby at_85) ?_
      exact ht
    obtain ⟨T327, h327, locs327, sl327, v327, X327, e327, N327, W327, A327, st327⟩ := own_fs X320 hx hZ e320 f325 N320 g_na (j := (14 : Int32)) (i := 14) rfl ⟨by decide, by decide⟩ (x := (111 : Int32)) rfl rfl (by decide) (g := (mkF m 87 #[.val (.int p1), .val (.int p2), .val (.int p3), .val (.int p4), .val (.int p5), .val (.int p6), .unset, .unset, .unset, .unset, .unset, .unset, .unset, .unset, .unset, .unset, .unset, .unset] [(.int (111 : Int32)), (.int (14 : Int32)), (.ref na), (.ref na)])) rfl rfl (hb hby at_87)
    have f328 : n0 ≤ h327.size := Nat.le_trans f321 (Keep.of_wr W327).1
    have f329 : CHr Z consts_1 s.vm h0 s.vm h327 := f322.trans (CHr.wr W327 f324 f322.1)
    have f330 : Old Z n0 h327 := f323.wr W327 g_na
    have f331 : Safe Z consts_1 s.vm h327 na := Safe.wr W327 f324 f322.1 f324
    have f332 : Arv Z h327 na ak222 .char (34 : Int32) (own_fill own_ns 34 15) (.int (0 : Int32)) := A327
    have k327 : Kt p e below m (s₁.setTop (entryFrame m #[(.int p1), (.int p2), (.int p3), (.int p4), (.int p5), (.int p6)] maxLocals)) T327 88 #[.val (.int p1), .val (.int p2), .val (.int p3), .val (.int p4), .val (.int p5), .val (.int p6), .unset, .unset, .unset, .unset, .unset, .unset, .unset, .unset, .unset, .unset, .unset, .unset] [(.ref na)] := fun t ht => k326 t (st327 t ht)
    have k333 : Kt p e below m (s₁.setTop (entryFrame m #[(.int p1), (.int p2), (.int p3), (.int p4), (.int p5), (.int p6)] maxLocals)) T327 93 #[.val (.int p1), .val (.int p2), .val (.int p3), .val (.int p4), .val (.int p5), .val (.int p6), .unset, .unset, .unset, .unset, .unset, .unset, .unset, .unset, .unset, .unset, .unset, .unset] [(.int (114 : Int32)), (.int (15 : Int32)), (.ref na), (.ref na)] := by
      intro t ht
      refine k327 t ?_
      show Steps p.tables e below (T327.setTop (mkF m 88 #[.val (.int p1), .val (.int p2), .val (.int p3), .val (.int p4), .val (.int p5), .val (.int p6), .unset, .unset, .unset, .unset, .unset, .unset, .unset, .unset, .unset, .unset, .unset, .unset] [(.ref na)])) t
      refine XS.dup X327.here hx rfl (hb hby at_88) rfl rfl ?_
      show Steps p.tables e below (T327.setTop (mkF m 89 #[.val (.int p1), .val (.int p2), .val (.int p3), .val (.int p4), .val (.int p5), .val (.int p6), .unset, .unset, .unset, .unset, .unset, .unset, .unset, .unset, .unset, .unset, .unset, .unset] [(.ref na), (.ref na)])) t
      refine XS.bipush X327.here hx rfl (hb hby at_89) ?_
      show Steps p.tables e below (T327.setTop (mkF m 91 #[.val (.int p1), .val (.int p2), .val (.int p3), .val (.int p4), .val (.int p5), .val (.int p6), .unset, .unset, .unset, .unset, .unset, .unset, .unset, .unset, .unset, .unset, .unset, .unset] [(.int (15 : Int32)), (.ref na), (.ref na)])) t
      refine XS.bipush X327.here hx rfl (hb hby at_91) ?_
      exact ht
    obtain ⟨T334, h334, locs334, sl334, v334, X334, e334, N334, W334, A334, st334⟩ := own_fs X327 hx hZ e327 f332 N327 g_na (j := (15 : Int32)) (i := 15) rfl ⟨by decide, by decide⟩ (x := (114 : Int32)) rfl rfl (by decide) (g := (mkF m 93 #[.val (.int p1), .val (.int p2), .val (.int p3), .val (.int p4), .val (.int p5), .val (.int p6), .unset, .unset, .unset, .unset, .unset, .unset, .unset, .unset, .unset, .unset, .unset, .unset] [(.int (114 : Int32)), (.int (15 : Int32)), (.ref na), (.ref na)])) rfl rfl (hb hby at_93)
    have f335 : n0 ≤ h334.size := Nat.le_trans f328 (Keep.of_wr W334).1
    have f336 : CHr Z consts_1 s.vm h0 s.vm h334 := f329.trans (CHr.wr W334 f331 f329.1)
    have f337 : Old Z n0 h334 := f330.wr W334 g_na
    have f338 : Safe Z consts_1 s.vm h334 na := Safe.wr W334 f331 f329.1 f331
    have f339 : Arv Z h334 na ak222 .char (34 : Int32) (own_fill own_ns 34 16) (.int (0 : Int32)) := A334
    have k334 : Kt p e below m (s₁.setTop (entryFrame m #[(.int p1), (.int p2), (.int p3), (.int p4), (.int p5), (.int p6)] maxLocals)) T334 94 #[.val (.int p1), .val (.int p2), .val (.int p3), .val (.int p4), .val (.int p5), .val (.int p6), .unset, .unset, .unset, .unset, .unset, .unset, .unset, .unset, .unset, .unset, .unset, .unset] [(.ref na)] := fun t ht => k333 t (st334 t ht)
    have k340 : Kt p e below m (s₁.setTop (entryFrame m #[(.int p1), (.int p2), (.int p3), (.int p4), (.int p5), (.int p6)] maxLocals)) T334 99 #[.val (.int p1), .val (.int p2), .val (.int p3), .val (.int p4), .val (.int p5), .val (.int p6), .unset, .unset, .unset, .unset, .unset, .unset, .unset, .unset, .unset, .unset, .unset, .unset] [(.int (103 : Int32)), (.int (16 : Int32)), (.ref na), (.ref na)] := by
      intro t ht
      refine k334 t ?_
      show Steps p.tables e below (T334.setTop (mkF m 94 #[.val (.int p1), .val (.int p2), .val (.int p3), .val (.int p4), .val (.int p5), .val (.int p6), .unset, .unset, .unset, .unset, .unset, .unset, .unset, .unset, .unset, .unset, .unset, .unset] [(.ref na)])) t
      refine XS.dup X334.here hx rfl (hb hby at_94) rfl rfl ?_
      show Steps p.tables e below (T334.setTop (mkF m 95 #[.val (.int p1), .val (.int p2), .val (.int p3), .val (.int p4), .val (.int p5), .val (.int p6), .unset, .unset, .unset, .unset, .unset, .unset, .unset, .unset, .unset, .unset, .unset, .unset] [(.ref na), (.ref na)])) t
      refine XS.bipush X334.here hx rfl (hb hby at_95) ?_
      show Steps p.tables e below (T334.setTop (mkF m 97 #[.val (.int p1), .val (.int p2), .val (.int p3), .val (.int p4), .val (.int p5), .val (.int p6), .unset, .unset, .unset, .unset, .unset, .unset, .unset, .unset, .unset, .unset, .unset, .unset] [(.int (16 : Int32)), (.ref na), (.ref na)])) t
      refine XS.bipush X334.here hx rfl (hb hby at_97) ?_
      exact ht
    obtain ⟨T341, h341, locs341, sl341, v341, X341, e341, N341, W341, A341, st341⟩ := own_fs X334 hx hZ e334 f339 N334 g_na (j := (16 : Int32)) (i := 16) rfl ⟨by decide, by decide⟩ (x := (103 : Int32)) rfl rfl (by decide) (g := (mkF m 99 #[.val (.int p1), .val (.int p2), .val (.int p3), .val (.int p4), .val (.int p5), .val (.int p6), .unset, .unset, .unset, .unset, .unset, .unset, .unset, .unset, .unset, .unset, .unset, .unset] [(.int (103 : Int32)), (.int (16 : Int32)), (.ref na), (.ref na)])) rfl rfl (hb hby at_99)
    have f342 : n0 ≤ h341.size := Nat.le_trans f335 (Keep.of_wr W341).1
    have f343 : CHr Z consts_1 s.vm h0 s.vm h341 := f336.trans (CHr.wr W341 f338 f336.1)
    have f344 : Old Z n0 h341 := f337.wr W341 g_na
    have f345 : Safe Z consts_1 s.vm h341 na := Safe.wr W341 f338 f336.1 f338
    have f346 : Arv Z h341 na ak222 .char (34 : Int32) (own_fill own_ns 34 17) (.int (0 : Int32)) := A341
    have k341 : Kt p e below m (s₁.setTop (entryFrame m #[(.int p1), (.int p2), (.int p3), (.int p4), (.int p5), (.int p6)] maxLocals)) T341 100 #[.val (.int p1), .val (.int p2), .val (.int p3), .val (.int p4), .val (.int p5), .val (.int p6), .unset, .unset, .unset, .unset, .unset, .unset, .unset, .unset, .unset, .unset, .unset, .unset] [(.ref na)] := fun t ht => k340 t (st341 t ht)
    have k347 : Kt p e below m (s₁.setTop (entryFrame m #[(.int p1), (.int p2), (.int p3), (.int p4), (.int p5), (.int p6)] maxLocals)) T341 105 #[.val (.int p1), .val (.int p2), .val (.int p3), .val (.int p4), .val (.int p5), .val (.int p6), .unset, .unset, .unset, .unset, .unset, .unset, .unset, .unset, .unset, .unset, .unset, .unset] [(.int (47 : Int32)), (.int (17 : Int32)), (.ref na), (.ref na)] := by
      intro t ht
      refine k341 t ?_
      show Steps p.tables e below (T341.setTop (mkF m 100 #[.val (.int p1), .val (.int p2), .val (.int p3), .val (.int p4), .val (.int p5), .val (.int p6), .unset, .unset, .unset, .unset, .unset, .unset, .unset, .unset, .unset, .unset, .unset, .unset] [(.ref na)])) t
      refine XS.dup X341.here hx rfl (hb hby at_100) rfl rfl ?_
      show Steps p.tables e below (T341.setTop (mkF m 101 #[.val (.int p1), .val (.int p2), .val (.int p3), .val (.int p4), .val (.int p5), .val (.int p6), .unset, .unset, .unset, .unset, .unset, .unset, .unset, .unset, .unset, .unset, .unset, .unset] [(.ref na), (.ref na)])) t
      refine XS.bipush X341.here hx rfl (hb hby at_101) ?_
      show Steps p.tables e below (T341.setTop (mkF m 103 #[.val (.int p1), .val (.int p2), .val (.int p3), .val (.int p4), .val (.int p5), .val (.int p6), .unset, .unset, .unset, .unset, .unset, .unset, .unset, .unset, .unset, .unset, .unset, .unset] [(.int (17 : Int32)), (.ref na), (.ref na)])) t
      refine XS.bipush X341.here hx rfl (hb hby at_103) ?_
      exact ht
    obtain ⟨T348, h348, locs348, sl348, v348, X348, e348, N348, W348, A348, st348⟩ := own_fs X341 hx hZ e341 f346 N341 g_na (j := (17 : Int32)) (i := 17) rfl ⟨by decide, by decide⟩ (x := (47 : Int32)) rfl rfl (by decide) (g := (mkF m 105 #[.val (.int p1), .val (.int p2), .val (.int p3), .val (.int p4), .val (.int p5), .val (.int p6), .unset, .unset, .unset, .unset, .unset, .unset, .unset, .unset, .unset, .unset, .unset, .unset] [(.int (47 : Int32)), (.int (17 : Int32)), (.ref na), (.ref na)])) rfl rfl (hb hby at_105)
    have f349 : n0 ≤ h348.size := Nat.le_trans f342 (Keep.of_wr W348).1
    have f350 : CHr Z consts_1 s.vm h0 s.vm h348 := f343.trans (CHr.wr W348 f345 f343.1)
    have f351 : Old Z n0 h348 := f344.wr W348 g_na
    have f352 : Safe Z consts_1 s.vm h348 na := Safe.wr W348 f345 f343.1 f345
    have f353 : Arv Z h348 na ak222 .char (34 : Int32) (own_fill own_ns 34 18) (.int (0 : Int32)) := A348
    have k348 : Kt p e below m (s₁.setTop (entryFrame m #[(.int p1), (.int p2), (.int p3), (.int p4), (.int p5), (.int p6)] maxLocals)) T348 106 #[.val (.int p1), .val (.int p2), .val (.int p3), .val (.int p4), .val (.int p5), .val (.int p6), .unset, .unset, .unset, .unset, .unset, .unset, .unset, .unset, .unset, .unset, .unset, .unset] [(.ref na)] := fun t ht => k347 t (st348 t ht)
    have k354 : Kt p e below m (s₁.setTop (entryFrame m #[(.int p1), (.int p2), (.int p3), (.int p4), (.int p5), (.int p6)] maxLocals)) T348 111 #[.val (.int p1), .val (.int p2), .val (.int p3), .val (.int p4), .val (.int p5), .val (.int p6), .unset, .unset, .unset, .unset, .unset, .unset, .unset, .unset, .unset, .unset, .unset, .unset] [(.int (50 : Int32)), (.int (18 : Int32)), (.ref na), (.ref na)] := by
      intro t ht
      refine k348 t ?_
      show Steps p.tables e below (T348.setTop (mkF m 106 #[.val (.int p1), .val (.int p2), .val (.int p3), .val (.int p4), .val (.int p5), .val (.int p6), .unset, .unset, .unset, .unset, .unset, .unset, .unset, .unset, .unset, .unset, .unset, .unset] [(.ref na)])) t
      refine XS.dup X348.here hx rfl (hb hby at_106) rfl rfl ?_
      show Steps p.tables e below (T348.setTop (mkF m 107 #[.val (.int p1), .val (.int p2), .val (.int p3), .val (.int p4), .val (.int p5), .val (.int p6), .unset, .unset, .unset, .unset, .unset, .unset, .unset, .unset, .unset, .unset, .unset, .unset] [(.ref na), (.ref na)])) t
      refine XS.bipush X348.here hx rfl (hb hby at_107) ?_
      show Steps p.tables e below (T348.setTop (mkF m 109 #[.val (.int p1), .val (.int p2), .val (.int p3), .val (.int p4), .val (.int p5), .val (.int p6), .unset, .unset, .unset, .unset, .unset, .unset, .unset, .unset, .unset, .unset, .unset, .unset] [(.int (18 : Int32)), (.ref na), (.ref na)])) t
      refine XS.bipush X348.here hx rfl (hb hby at_109) ?_
      exact ht
    obtain ⟨T355, h355, locs355, sl355, v355, X355, e355, N355, W355, A355, st355⟩ := own_fs X348 hx hZ e348 f353 N348 g_na (j := (18 : Int32)) (i := 18) rfl ⟨by decide, by decide⟩ (x := (50 : Int32)) rfl rfl (by decide) (g := (mkF m 111 #[.val (.int p1), .val (.int p2), .val (.int p3), .val (.int p4), .val (.int p5), .val (.int p6), .unset, .unset, .unset, .unset, .unset, .unset, .unset, .unset, .unset, .unset, .unset, .unset] [(.int (50 : Int32)), (.int (18 : Int32)), (.ref na), (.ref na)])) rfl rfl (hb hby at_111)
    have f356 : n0 ≤ h355.size := Nat.le_trans f349 (Keep.of_wr W355).1
    have f357 : CHr Z consts_1 s.vm h0 s.vm h355 := f350.trans (CHr.wr W355 f352 f350.1)
    have f358 : Old Z n0 h355 := f351.wr W355 g_na
    have f359 : Safe Z consts_1 s.vm h355 na := Safe.wr W355 f352 f350.1 f352
    have f360 : Arv Z h355 na ak222 .char (34 : Int32) (own_fill own_ns 34 19) (.int (0 : Int32)) := A355
    have k355 : Kt p e below m (s₁.setTop (entryFrame m #[(.int p1), (.int p2), (.int p3), (.int p4), (.int p5), (.int p6)] maxLocals)) T355 112 #[.val (.int p1), .val (.int p2), .val (.int p3), .val (.int p4), .val (.int p5), .val (.int p6), .unset, .unset, .unset, .unset, .unset, .unset, .unset, .unset, .unset, .unset, .unset, .unset] [(.ref na)] := fun t ht => k354 t (st355 t ht)
    have k361 : Kt p e below m (s₁.setTop (entryFrame m #[(.int p1), (.int p2), (.int p3), (.int p4), (.int p5), (.int p6)] maxLocals)) T355 117 #[.val (.int p1), .val (.int p2), .val (.int p3), .val (.int p4), .val (.int p5), .val (.int p6), .unset, .unset, .unset, .unset, .unset, .unset, .unset, .unset, .unset, .unset, .unset, .unset] [(.int (48 : Int32)), (.int (19 : Int32)), (.ref na), (.ref na)] := by
      intro t ht
      refine k355 t ?_
      show Steps p.tables e below (T355.setTop (mkF m 112 #[.val (.int p1), .val (.int p2), .val (.int p3), .val (.int p4), .val (.int p5), .val (.int p6), .unset, .unset, .unset, .unset, .unset, .unset, .unset, .unset, .unset, .unset, .unset, .unset] [(.ref na)])) t
      refine XS.dup X355.here hx rfl (hb hby at_112) rfl rfl ?_
      show Steps p.tables e below (T355.setTop (mkF m 113 #[.val (.int p1), .val (.int p2), .val (.int p3), .val (.int p4), .val (.int p5), .val (.int p6), .unset, .unset, .unset, .unset, .unset, .unset, .unset, .unset, .unset, .unset, .unset, .unset] [(.ref na), (.ref na)])) t
      refine XS.bipush X355.here hx rfl (hb hby at_113) ?_
      show Steps p.tables e below (T355.setTop (mkF m 115 #[.val (.int p1), .val (.int p2), .val (.int p3), .val (.int p4), .val (.int p5), .val (.int p6), .unset, .unset, .unset, .unset, .unset, .unset, .unset, .unset, .unset, .unset, .unset, .unset] [(.int (19 : Int32)), (.ref na), (.ref na)])) t
      refine XS.bipush X355.here hx rfl (hb hby at_115) ?_
      exact ht
    obtain ⟨T362, h362, locs362, sl362, v362, X362, e362, N362, W362, A362, st362⟩ := own_fs X355 hx hZ e355 f360 N355 g_na (j := (19 : Int32)) (i := 19) rfl ⟨by decide, by decide⟩ (x := (48 : Int32)) rfl rfl (by decide) (g := (mkF m 117 #[.val (.int p1), .val (.int p2), .val (.int p3), .val (.int p4), .val (.int p5), .val (.int p6), .unset, .unset, .unset, .unset, .unset, .unset, .unset, .unset, .unset, .unset, .unset, .unset] [(.int (48 : Int32)), (.int (19 : Int32)), (.ref na), (.ref na)])) rfl rfl (hb hby at_117)
    have f363 : n0 ≤ h362.size := Nat.le_trans f356 (Keep.of_wr W362).1
    have f364 : CHr Z consts_1 s.vm h0 s.vm h362 := f357.trans (CHr.wr W362 f359 f357.1)
    have f365 : Old Z n0 h362 := f358.wr W362 g_na
    have f366 : Safe Z consts_1 s.vm h362 na := Safe.wr W362 f359 f357.1 f359
    have f367 : Arv Z h362 na ak222 .char (34 : Int32) (own_fill own_ns 34 20) (.int (0 : Int32)) := A362
    have k362 : Kt p e below m (s₁.setTop (entryFrame m #[(.int p1), (.int p2), (.int p3), (.int p4), (.int p5), (.int p6)] maxLocals)) T362 118 #[.val (.int p1), .val (.int p2), .val (.int p3), .val (.int p4), .val (.int p5), .val (.int p6), .unset, .unset, .unset, .unset, .unset, .unset, .unset, .unset, .unset, .unset, .unset, .unset] [(.ref na)] := fun t ht => k361 t (st362 t ht)
    have k368 : Kt p e below m (s₁.setTop (entryFrame m #[(.int p1), (.int p2), (.int p3), (.int p4), (.int p5), (.int p6)] maxLocals)) T362 123 #[.val (.int p1), .val (.int p2), .val (.int p3), .val (.int p4), .val (.int p5), .val (.int p6), .unset, .unset, .unset, .unset, .unset, .unset, .unset, .unset, .unset, .unset, .unset, .unset] [(.int (48 : Int32)), (.int (20 : Int32)), (.ref na), (.ref na)] := by
      intro t ht
      refine k362 t ?_
      show Steps p.tables e below (T362.setTop (mkF m 118 #[.val (.int p1), .val (.int p2), .val (.int p3), .val (.int p4), .val (.int p5), .val (.int p6), .unset, .unset, .unset, .unset, .unset, .unset, .unset, .unset, .unset, .unset, .unset, .unset] [(.ref na)])) t
      refine XS.dup X362.here hx rfl (hb hby at_118) rfl rfl ?_
      show Steps p.tables e below (T362.setTop (mkF m 119 #[.val (.int p1), .val (.int p2), .val (.int p3), .val (.int p4), .val (.int p5), .val (.int p6), .unset, .unset, .unset, .unset, .unset, .unset, .unset, .unset, .unset, .unset, .unset, .unset] [(.ref na), (.ref na)])) t
      refine XS.bipush X362.here hx rfl (hb hby at_119) ?_
      show Steps p.tables e below (T362.setTop (mkF m 121 #[.val (.int p1), .val (.int p2), .val (.int p3), .val (.int p4), .val (.int p5), .val (.int p6), .unset, .unset, .unset, .unset, .unset, .unset, .unset, .unset, .unset, .unset, .unset, .unset] [(.int (20 : Int32)), (.ref na), (.ref na)])) t
      refine XS.bipush X362.here hx rfl (hb hby at_121) ?_
      exact ht
    obtain ⟨T369, h369, locs369, sl369, v369, X369, e369, N369, W369, A369, st369⟩ := own_fs X362 hx hZ e362 f367 N362 g_na (j := (20 : Int32)) (i := 20) rfl ⟨by decide, by decide⟩ (x := (48 : Int32)) rfl rfl (by decide) (g := (mkF m 123 #[.val (.int p1), .val (.int p2), .val (.int p3), .val (.int p4), .val (.int p5), .val (.int p6), .unset, .unset, .unset, .unset, .unset, .unset, .unset, .unset, .unset, .unset, .unset, .unset] [(.int (48 : Int32)), (.int (20 : Int32)), (.ref na), (.ref na)])) rfl rfl (hb hby at_123)
    have f370 : n0 ≤ h369.size := Nat.le_trans f363 (Keep.of_wr W369).1
    have f371 : CHr Z consts_1 s.vm h0 s.vm h369 := f364.trans (CHr.wr W369 f366 f364.1)
    have f372 : Old Z n0 h369 := f365.wr W369 g_na
    have f373 : Safe Z consts_1 s.vm h369 na := Safe.wr W369 f366 f364.1 f366
    have f374 : Arv Z h369 na ak222 .char (34 : Int32) (own_fill own_ns 34 21) (.int (0 : Int32)) := A369
    have k369 : Kt p e below m (s₁.setTop (entryFrame m #[(.int p1), (.int p2), (.int p3), (.int p4), (.int p5), (.int p6)] maxLocals)) T369 124 #[.val (.int p1), .val (.int p2), .val (.int p3), .val (.int p4), .val (.int p5), .val (.int p6), .unset, .unset, .unset, .unset, .unset, .unset, .unset, .unset, .unset, .unset, .unset, .unset] [(.ref na)] := fun t ht => k368 t (st369 t ht)
    have k375 : Kt p e below m (s₁.setTop (entryFrame m #[(.int p1), (.int p2), (.int p3), (.int p4), (.int p5), (.int p6)] maxLocals)) T369 129 #[.val (.int p1), .val (.int p2), .val (.int p3), .val (.int p4), .val (.int p5), .val (.int p6), .unset, .unset, .unset, .unset, .unset, .unset, .unset, .unset, .unset, .unset, .unset, .unset] [(.int (48 : Int32)), (.int (21 : Int32)), (.ref na), (.ref na)] := by
      intro t ht
      refine k369 t ?_
      show Steps p.tables e below (T369.setTop (mkF m 124 #[.val (.int p1), .val (.int p2), .val (.int p3), .val (.int p4), .val (.int p5), .val (.int p6), .unset, .unset, .unset, .unset, .unset, .unset, .unset, .unset, .unset, .unset, .unset, .unset] [(.ref na)])) t
      refine XS.dup X369.here hx rfl (hb hby at_124) rfl rfl ?_
      show Steps p.tables e below (T369.setTop (mkF m 125 #[.val (.int p1), .val (.int p2), .val (.int p3), .val (.int p4), .val (.int p5), .val (.int p6), .unset, .unset, .unset, .unset, .unset, .unset, .unset, .unset, .unset, .unset, .unset, .unset] [(.ref na), (.ref na)])) t
      refine XS.bipush X369.here hx rfl (hb hby at_125) ?_
      show Steps p.tables e below (T369.setTop (mkF m 127 #[.val (.int p1), .val (.int p2), .val (.int p3), .val (.int p4), .val (.int p5), .val (.int p6), .unset, .unset, .unset, .unset, .unset, .unset, .unset, .unset, .unset, .unset, .unset, .unset] [(.int (21 : Int32)), (.ref na), (.ref na)])) t
      refine XS.bipush X369.here hx rfl (hb hby at_127) ?_
      exact ht
    obtain ⟨T376, h376, locs376, sl376, v376, X376, e376, N376, W376, A376, st376⟩ := own_fs X369 hx hZ e369 f374 N369 g_na (j := (21 : Int32)) (i := 21) rfl ⟨by decide, by decide⟩ (x := (48 : Int32)) rfl rfl (by decide) (g := (mkF m 129 #[.val (.int p1), .val (.int p2), .val (.int p3), .val (.int p4), .val (.int p5), .val (.int p6), .unset, .unset, .unset, .unset, .unset, .unset, .unset, .unset, .unset, .unset, .unset, .unset] [(.int (48 : Int32)), (.int (21 : Int32)), (.ref na), (.ref na)])) rfl rfl (hb hby at_129)
    have f377 : n0 ≤ h376.size := Nat.le_trans f370 (Keep.of_wr W376).1
    have f378 : CHr Z consts_1 s.vm h0 s.vm h376 := f371.trans (CHr.wr W376 f373 f371.1)
    have f379 : Old Z n0 h376 := f372.wr W376 g_na
    have f380 : Safe Z consts_1 s.vm h376 na := Safe.wr W376 f373 f371.1 f373
    have f381 : Arv Z h376 na ak222 .char (34 : Int32) (own_fill own_ns 34 22) (.int (0 : Int32)) := A376
    have k376 : Kt p e below m (s₁.setTop (entryFrame m #[(.int p1), (.int p2), (.int p3), (.int p4), (.int p5), (.int p6)] maxLocals)) T376 130 #[.val (.int p1), .val (.int p2), .val (.int p3), .val (.int p4), .val (.int p5), .val (.int p6), .unset, .unset, .unset, .unset, .unset, .unset, .unset, .unset, .unset, .unset, .unset, .unset] [(.ref na)] := fun t ht => k375 t (st376 t ht)
    have k382 : Kt p e below m (s₁.setTop (entryFrame m #[(.int p1), (.int p2), (.int p3), (.int p4), (.int p5), (.int p6)] maxLocals)) T376 135 #[.val (.int p1), .val (.int p2), .val (.int p3), .val (.int p4), .val (.int p5), .val (.int p6), .unset, .unset, .unset, .unset, .unset, .unset, .unset, .unset, .unset, .unset, .unset, .unset] [(.int (47 : Int32)), (.int (22 : Int32)), (.ref na), (.ref na)] := by
      intro t ht
      refine k376 t ?_
      show Steps p.tables e below (T376.setTop (mkF m 130 #[.val (.int p1), .val (.int p2), .val (.int p3), .val (.int p4), .val (.int p5), .val (.int p6), .unset, .unset, .unset, .unset, .unset, .unset, .unset, .unset, .unset, .unset, .unset, .unset] [(.ref na)])) t
      refine XS.dup X376.here hx rfl (hb hby at_130) rfl rfl ?_
      show Steps p.tables e below (T376.setTop (mkF m 131 #[.val (.int p1), .val (.int p2), .val (.int p3), .val (.int p4), .val (.int p5), .val (.int p6), .unset, .unset, .unset, .unset, .unset, .unset, .unset, .unset, .unset, .unset, .unset, .unset] [(.ref na), (.ref na)])) t
      refine XS.bipush X376.here hx rfl (hb hby at_131) ?_
      show Steps p.tables e below (T376.setTop (mkF m 133 #[.val (.int p1), .val (.int p2), .val (.int p3), .val (.int p4), .val (.int p5), .val (.int p6), .unset, .unset, .unset, .unset, .unset, .unset, .unset, .unset, .unset, .unset, .unset, .unset] [(.int (22 : Int32)), (.ref na), (.ref na)])) t
      refine XS.bipush X376.here hx rfl (hb hby at_133) ?_
      exact ht
    obtain ⟨T383, h383, locs383, sl383, v383, X383, e383, N383, W383, A383, st383⟩ := own_fs X376 hx hZ e376 f381 N376 g_na (j := (22 : Int32)) (i := 22) rfl ⟨by decide, by decide⟩ (x := (47 : Int32)) rfl rfl (by decide) (g := (mkF m 135 #[.val (.int p1), .val (.int p2), .val (.int p3), .val (.int p4), .val (.int p5), .val (.int p6), .unset, .unset, .unset, .unset, .unset, .unset, .unset, .unset, .unset, .unset, .unset, .unset] [(.int (47 : Int32)), (.int (22 : Int32)), (.ref na), (.ref na)])) rfl rfl (hb hby at_135)
    have f384 : n0 ≤ h383.size := Nat.le_trans f377 (Keep.of_wr W383).1
    have f385 : CHr Z consts_1 s.vm h0 s.vm h383 := f378.trans (CHr.wr W383 f380 f378.1)
    have f386 : Old Z n0 h383 := f379.wr W383 g_na
    have f387 : Safe Z consts_1 s.vm h383 na := Safe.wr W383 f380 f378.1 f380
    have f388 : Arv Z h383 na ak222 .char (34 : Int32) (own_fill own_ns 34 23) (.int (0 : Int32)) := A383
    have k383 : Kt p e below m (s₁.setTop (entryFrame m #[(.int p1), (.int p2), (.int p3), (.int p4), (.int p5), (.int p6)] maxLocals)) T383 136 #[.val (.int p1), .val (.int p2), .val (.int p3), .val (.int p4), .val (.int p5), .val (.int p6), .unset, .unset, .unset, .unset, .unset, .unset, .unset, .unset, .unset, .unset, .unset, .unset] [(.ref na)] := fun t ht => k382 t (st383 t ht)
    have k389 : Kt p e below m (s₁.setTop (entryFrame m #[(.int p1), (.int p2), (.int p3), (.int p4), (.int p5), (.int p6)] maxLocals)) T383 141 #[.val (.int p1), .val (.int p2), .val (.int p3), .val (.int p4), .val (.int p5), .val (.int p6), .unset, .unset, .unset, .unset, .unset, .unset, .unset, .unset, .unset, .unset, .unset, .unset] [(.int (48 : Int32)), (.int (23 : Int32)), (.ref na), (.ref na)] := by
      intro t ht
      refine k383 t ?_
      show Steps p.tables e below (T383.setTop (mkF m 136 #[.val (.int p1), .val (.int p2), .val (.int p3), .val (.int p4), .val (.int p5), .val (.int p6), .unset, .unset, .unset, .unset, .unset, .unset, .unset, .unset, .unset, .unset, .unset, .unset] [(.ref na)])) t
      refine XS.dup X383.here hx rfl (hb hby at_136) rfl rfl ?_
      show Steps p.tables e below (T383.setTop (mkF m 137 #[.val (.int p1), .val (.int p2), .val (.int p3), .val (.int p4), .val (.int p5), .val (.int p6), .unset, .unset, .unset, .unset, .unset, .unset, .unset, .unset, .unset, .unset, .unset, .unset] [(.ref na), (.ref na)])) t
      refine XS.bipush X383.here hx rfl (hb hby at_137) ?_
      show Steps p.tables e below (T383.setTop (mkF m 139 #[.val (.int p1), .val (.int p2), .val (.int p3), .val (.int p4), .val (.int p5), .val (.int p6), .unset, .unset, .unset, .unset, .unset, .unset, .unset, .unset, .unset, .unset, .unset, .unset] [(.int (23 : Int32)), (.ref na), (.ref na)])) t
      refine XS.bipush X383.here hx rfl (hb hby at_139) ?_
      exact ht
    obtain ⟨T390, h390, locs390, sl390, v390, X390, e390, N390, W390, A390, st390⟩ := own_fs X383 hx hZ e383 f388 N383 g_na (j := (23 : Int32)) (i := 23) rfl ⟨by decide, by decide⟩ (x := (48 : Int32)) rfl rfl (by decide) (g := (mkF m 141 #[.val (.int p1), .val (.int p2), .val (.int p3), .val (.int p4), .val (.int p5), .val (.int p6), .unset, .unset, .unset, .unset, .unset, .unset, .unset, .unset, .unset, .unset, .unset, .unset] [(.int (48 : Int32)), (.int (23 : Int32)), (.ref na), (.ref na)])) rfl rfl (hb hby at_141)
    have f391 : n0 ≤ h390.size := Nat.le_trans f384 (Keep.of_wr W390).1
    have f392 : CHr Z consts_1 s.vm h0 s.vm h390 := f385.trans (CHr.wr W390 f387 f385.1)
    have f393 : Old Z n0 h390 := f386.wr W390 g_na
    have f394 : Safe Z consts_1 s.vm h390 na := Safe.wr W390 f387 f385.1 f387
    have f395 : Arv Z h390 na ak222 .char (34 : Int32) (own_fill own_ns 34 24) (.int (0 : Int32)) := A390
    have k390 : Kt p e below m (s₁.setTop (entryFrame m #[(.int p1), (.int p2), (.int p3), (.int p4), (.int p5), (.int p6)] maxLocals)) T390 142 #[.val (.int p1), .val (.int p2), .val (.int p3), .val (.int p4), .val (.int p5), .val (.int p6), .unset, .unset, .unset, .unset, .unset, .unset, .unset, .unset, .unset, .unset, .unset, .unset] [(.ref na)] := fun t ht => k389 t (st390 t ht)
    have k396 : Kt p e below m (s₁.setTop (entryFrame m #[(.int p1), (.int p2), (.int p3), (.int p4), (.int p5), (.int p6)] maxLocals)) T390 147 #[.val (.int p1), .val (.int p2), .val (.int p3), .val (.int p4), .val (.int p5), .val (.int p6), .unset, .unset, .unset, .unset, .unset, .unset, .unset, .unset, .unset, .unset, .unset, .unset] [(.int (57 : Int32)), (.int (24 : Int32)), (.ref na), (.ref na)] := by
      intro t ht
      refine k390 t ?_
      show Steps p.tables e below (T390.setTop (mkF m 142 #[.val (.int p1), .val (.int p2), .val (.int p3), .val (.int p4), .val (.int p5), .val (.int p6), .unset, .unset, .unset, .unset, .unset, .unset, .unset, .unset, .unset, .unset, .unset, .unset] [(.ref na)])) t
      refine XS.dup X390.here hx rfl (hb hby at_142) rfl rfl ?_
      show Steps p.tables e below (T390.setTop (mkF m 143 #[.val (.int p1), .val (.int p2), .val (.int p3), .val (.int p4), .val (.int p5), .val (.int p6), .unset, .unset, .unset, .unset, .unset, .unset, .unset, .unset, .unset, .unset, .unset, .unset] [(.ref na), (.ref na)])) t
      refine XS.bipush X390.here hx rfl (hb hby at_143) ?_
      show Steps p.tables e below (T390.setTop (mkF m 145 #[.val (.int p1), .val (.int p2), .val (.int p3), .val (.int p4), .val (.int p5), .val (.int p6), .unset, .unset, .unset, .unset, .unset, .unset, .unset, .unset, .unset, .unset, .unset, .unset] [(.int (24 : Int32)), (.ref na), (.ref na)])) t
      refine XS.bipush X390.here hx rfl (hb hby at_145) ?_
      exact ht
    obtain ⟨T397, h397, locs397, sl397, v397, X397, e397, N397, W397, A397, st397⟩ := own_fs X390 hx hZ e390 f395 N390 g_na (j := (24 : Int32)) (i := 24) rfl ⟨by decide, by decide⟩ (x := (57 : Int32)) rfl rfl (by decide) (g := (mkF m 147 #[.val (.int p1), .val (.int p2), .val (.int p3), .val (.int p4), .val (.int p5), .val (.int p6), .unset, .unset, .unset, .unset, .unset, .unset, .unset, .unset, .unset, .unset, .unset, .unset] [(.int (57 : Int32)), (.int (24 : Int32)), (.ref na), (.ref na)])) rfl rfl (hb hby at_147)
    have f398 : n0 ≤ h397.size := Nat.le_trans f391 (Keep.of_wr W397).1
    have f399 : CHr Z consts_1 s.vm h0 s.vm h397 := f392.trans (CHr.wr W397 f394 f392.1)
    have f400 : Old Z n0 h397 := f393.wr W397 g_na
    have f401 : Safe Z consts_1 s.vm h397 na := Safe.wr W397 f394 f392.1 f394
    have f402 : Arv Z h397 na ak222 .char (34 : Int32) (own_fill own_ns 34 25) (.int (0 : Int32)) := A397
    have k397 : Kt p e below m (s₁.setTop (entryFrame m #[(.int p1), (.int p2), (.int p3), (.int p4), (.int p5), (.int p6)] maxLocals)) T397 148 #[.val (.int p1), .val (.int p2), .val (.int p3), .val (.int p4), .val (.int p5), .val (.int p6), .unset, .unset, .unset, .unset, .unset, .unset, .unset, .unset, .unset, .unset, .unset, .unset] [(.ref na)] := fun t ht => k396 t (st397 t ht)
    have k403 : Kt p e below m (s₁.setTop (entryFrame m #[(.int p1), (.int p2), (.int p3), (.int p4), (.int p5), (.int p6)] maxLocals)) T397 153 #[.val (.int p1), .val (.int p2), .val (.int p3), .val (.int p4), .val (.int p5), .val (.int p6), .unset, .unset, .unset, .unset, .unset, .unset, .unset, .unset, .unset, .unset, .unset, .unset] [(.int (47 : Int32)), (.int (25 : Int32)), (.ref na), (.ref na)] := by
      intro t ht
      refine k397 t ?_
      show Steps p.tables e below (T397.setTop (mkF m 148 #[.val (.int p1), .val (.int p2), .val (.int p3), .val (.int p4), .val (.int p5), .val (.int p6), .unset, .unset, .unset, .unset, .unset, .unset, .unset, .unset, .unset, .unset, .unset, .unset] [(.ref na)])) t
      refine XS.dup X397.here hx rfl (hb hby at_148) rfl rfl ?_
      show Steps p.tables e below (T397.setTop (mkF m 149 #[.val (.int p1), .val (.int p2), .val (.int p3), .val (.int p4), .val (.int p5), .val (.int p6), .unset, .unset, .unset, .unset, .unset, .unset, .unset, .unset, .unset, .unset, .unset, .unset] [(.ref na), (.ref na)])) t
      refine XS.bipush X397.here hx rfl (hb hby at_149) ?_
      show Steps p.tables e below (T397.setTop (mkF m 151 #[.val (.int p1), .val (.int p2), .val (.int p3), .val (.int p4), .val (.int p5), .val (.int p6), .unset, .unset, .unset, .unset, .unset, .unset, .unset, .unset, .unset, .unset, .unset, .unset] [(.int (25 : Int32)), (.ref na), (.ref na)])) t
      refine XS.bipush X397.here hx rfl (hb hby at_151) ?_
      exact ht
    obtain ⟨T404, h404, locs404, sl404, v404, X404, e404, N404, W404, A404, st404⟩ := own_fs X397 hx hZ e397 f402 N397 g_na (j := (25 : Int32)) (i := 25) rfl ⟨by decide, by decide⟩ (x := (47 : Int32)) rfl rfl (by decide) (g := (mkF m 153 #[.val (.int p1), .val (.int p2), .val (.int p3), .val (.int p4), .val (.int p5), .val (.int p6), .unset, .unset, .unset, .unset, .unset, .unset, .unset, .unset, .unset, .unset, .unset, .unset] [(.int (47 : Int32)), (.int (25 : Int32)), (.ref na), (.ref na)])) rfl rfl (hb hby at_153)
    have f405 : n0 ≤ h404.size := Nat.le_trans f398 (Keep.of_wr W404).1
    have f406 : CHr Z consts_1 s.vm h0 s.vm h404 := f399.trans (CHr.wr W404 f401 f399.1)
    have f407 : Old Z n0 h404 := f400.wr W404 g_na
    have f408 : Safe Z consts_1 s.vm h404 na := Safe.wr W404 f401 f399.1 f401
    have f409 : Arv Z h404 na ak222 .char (34 : Int32) (own_fill own_ns 34 26) (.int (0 : Int32)) := A404
    have k404 : Kt p e below m (s₁.setTop (entryFrame m #[(.int p1), (.int p2), (.int p3), (.int p4), (.int p5), (.int p6)] maxLocals)) T404 154 #[.val (.int p1), .val (.int p2), .val (.int p3), .val (.int p4), .val (.int p5), .val (.int p6), .unset, .unset, .unset, .unset, .unset, .unset, .unset, .unset, .unset, .unset, .unset, .unset] [(.ref na)] := fun t ht => k403 t (st404 t ht)
    have k410 : Kt p e below m (s₁.setTop (entryFrame m #[(.int p1), (.int p2), (.int p3), (.int p4), (.int p5), (.int p6)] maxLocals)) T404 159 #[.val (.int p1), .val (.int p2), .val (.int p3), .val (.int p4), .val (.int p5), .val (.int p6), .unset, .unset, .unset, .unset, .unset, .unset, .unset, .unset, .unset, .unset, .unset, .unset] [(.int (120 : Int32)), (.int (26 : Int32)), (.ref na), (.ref na)] := by
      intro t ht
      refine k404 t ?_
      show Steps p.tables e below (T404.setTop (mkF m 154 #[.val (.int p1), .val (.int p2), .val (.int p3), .val (.int p4), .val (.int p5), .val (.int p6), .unset, .unset, .unset, .unset, .unset, .unset, .unset, .unset, .unset, .unset, .unset, .unset] [(.ref na)])) t
      refine XS.dup X404.here hx rfl (hb hby at_154) rfl rfl ?_
      show Steps p.tables e below (T404.setTop (mkF m 155 #[.val (.int p1), .val (.int p2), .val (.int p3), .val (.int p4), .val (.int p5), .val (.int p6), .unset, .unset, .unset, .unset, .unset, .unset, .unset, .unset, .unset, .unset, .unset, .unset] [(.ref na), (.ref na)])) t
      refine XS.bipush X404.here hx rfl (hb hby at_155) ?_
      show Steps p.tables e below (T404.setTop (mkF m 157 #[.val (.int p1), .val (.int p2), .val (.int p3), .val (.int p4), .val (.int p5), .val (.int p6), .unset, .unset, .unset, .unset, .unset, .unset, .unset, .unset, .unset, .unset, .unset, .unset] [(.int (26 : Int32)), (.ref na), (.ref na)])) t
      refine XS.bipush X404.here hx rfl (hb hby at_157) ?_
      exact ht
    obtain ⟨T411, h411, locs411, sl411, v411, X411, e411, N411, W411, A411, st411⟩ := own_fs X404 hx hZ e404 f409 N404 g_na (j := (26 : Int32)) (i := 26) rfl ⟨by decide, by decide⟩ (x := (120 : Int32)) rfl rfl (by decide) (g := (mkF m 159 #[.val (.int p1), .val (.int p2), .val (.int p3), .val (.int p4), .val (.int p5), .val (.int p6), .unset, .unset, .unset, .unset, .unset, .unset, .unset, .unset, .unset, .unset, .unset, .unset] [(.int (120 : Int32)), (.int (26 : Int32)), (.ref na), (.ref na)])) rfl rfl (hb hby at_159)
    have f412 : n0 ≤ h411.size := Nat.le_trans f405 (Keep.of_wr W411).1
    have f413 : CHr Z consts_1 s.vm h0 s.vm h411 := f406.trans (CHr.wr W411 f408 f406.1)
    have f414 : Old Z n0 h411 := f407.wr W411 g_na
    have f415 : Safe Z consts_1 s.vm h411 na := Safe.wr W411 f408 f406.1 f408
    have f416 : Arv Z h411 na ak222 .char (34 : Int32) (own_fill own_ns 34 27) (.int (0 : Int32)) := A411
    have k411 : Kt p e below m (s₁.setTop (entryFrame m #[(.int p1), (.int p2), (.int p3), (.int p4), (.int p5), (.int p6)] maxLocals)) T411 160 #[.val (.int p1), .val (.int p2), .val (.int p3), .val (.int p4), .val (.int p5), .val (.int p6), .unset, .unset, .unset, .unset, .unset, .unset, .unset, .unset, .unset, .unset, .unset, .unset] [(.ref na)] := fun t ht => k410 t (st411 t ht)
    have k417 : Kt p e below m (s₁.setTop (entryFrame m #[(.int p1), (.int p2), (.int p3), (.int p4), (.int p5), (.int p6)] maxLocals)) T411 165 #[.val (.int p1), .val (.int p2), .val (.int p3), .val (.int p4), .val (.int p5), .val (.int p6), .unset, .unset, .unset, .unset, .unset, .unset, .unset, .unset, .unset, .unset, .unset, .unset] [(.int (109 : Int32)), (.int (27 : Int32)), (.ref na), (.ref na)] := by
      intro t ht
      refine k411 t ?_
      show Steps p.tables e below (T411.setTop (mkF m 160 #[.val (.int p1), .val (.int p2), .val (.int p3), .val (.int p4), .val (.int p5), .val (.int p6), .unset, .unset, .unset, .unset, .unset, .unset, .unset, .unset, .unset, .unset, .unset, .unset] [(.ref na)])) t
      refine XS.dup X411.here hx rfl (hb hby at_160) rfl rfl ?_
      show Steps p.tables e below (T411.setTop (mkF m 161 #[.val (.int p1), .val (.int p2), .val (.int p3), .val (.int p4), .val (.int p5), .val (.int p6), .unset, .unset, .unset, .unset, .unset, .unset, .unset, .unset, .unset, .unset, .unset, .unset] [(.ref na), (.ref na)])) t
      refine XS.bipush X411.here hx rfl (hb hby at_161) ?_
      show Steps p.tables e below (T411.setTop (mkF m 163 #[.val (.int p1), .val (.int p2), .val (.int p3), .val (.int p4), .val (.int p5), .val (.int p6), .unset, .unset, .unset, .unset, .unset, .unset, .unset, .unset, .unset, .unset, .unset, .unset] [(.int (27 : Int32)), (.ref na), (.ref na)])) t
      refine XS.bipush X411.here hx rfl (hb hby at_163) ?_
      exact ht
    obtain ⟨T418, h418, locs418, sl418, v418, X418, e418, N418, W418, A418, st418⟩ := own_fs X411 hx hZ e411 f416 N411 g_na (j := (27 : Int32)) (i := 27) rfl ⟨by decide, by decide⟩ (x := (109 : Int32)) rfl rfl (by decide) (g := (mkF m 165 #[.val (.int p1), .val (.int p2), .val (.int p3), .val (.int p4), .val (.int p5), .val (.int p6), .unset, .unset, .unset, .unset, .unset, .unset, .unset, .unset, .unset, .unset, .unset, .unset] [(.int (109 : Int32)), (.int (27 : Int32)), (.ref na), (.ref na)])) rfl rfl (hb hby at_165)
    have f419 : n0 ≤ h418.size := Nat.le_trans f412 (Keep.of_wr W418).1
    have f420 : CHr Z consts_1 s.vm h0 s.vm h418 := f413.trans (CHr.wr W418 f415 f413.1)
    have f421 : Old Z n0 h418 := f414.wr W418 g_na
    have f422 : Safe Z consts_1 s.vm h418 na := Safe.wr W418 f415 f413.1 f415
    have f423 : Arv Z h418 na ak222 .char (34 : Int32) (own_fill own_ns 34 28) (.int (0 : Int32)) := A418
    have k418 : Kt p e below m (s₁.setTop (entryFrame m #[(.int p1), (.int p2), (.int p3), (.int p4), (.int p5), (.int p6)] maxLocals)) T418 166 #[.val (.int p1), .val (.int p2), .val (.int p3), .val (.int p4), .val (.int p5), .val (.int p6), .unset, .unset, .unset, .unset, .unset, .unset, .unset, .unset, .unset, .unset, .unset, .unset] [(.ref na)] := fun t ht => k417 t (st418 t ht)
    have k424 : Kt p e below m (s₁.setTop (entryFrame m #[(.int p1), (.int p2), (.int p3), (.int p4), (.int p5), (.int p6)] maxLocals)) T418 171 #[.val (.int p1), .val (.int p2), .val (.int p3), .val (.int p4), .val (.int p5), .val (.int p6), .unset, .unset, .unset, .unset, .unset, .unset, .unset, .unset, .unset, .unset, .unset, .unset] [(.int (108 : Int32)), (.int (28 : Int32)), (.ref na), (.ref na)] := by
      intro t ht
      refine k418 t ?_
      show Steps p.tables e below (T418.setTop (mkF m 166 #[.val (.int p1), .val (.int p2), .val (.int p3), .val (.int p4), .val (.int p5), .val (.int p6), .unset, .unset, .unset, .unset, .unset, .unset, .unset, .unset, .unset, .unset, .unset, .unset] [(.ref na)])) t
      refine XS.dup X418.here hx rfl (hb hby at_166) rfl rfl ?_
      show Steps p.tables e below (T418.setTop (mkF m 167 #[.val (.int p1), .val (.int p2), .val (.int p3), .val (.int p4), .val (.int p5), .val (.int p6), .unset, .unset, .unset, .unset, .unset, .unset, .unset, .unset, .unset, .unset, .unset, .unset] [(.ref na), (.ref na)])) t
      refine XS.bipush X418.here hx rfl (hb hby at_167) ?_
      show Steps p.tables e below (T418.setTop (mkF m 169 #[.val (.int p1), .val (.int p2), .val (.int p3), .val (.int p4), .val (.int p5), .val (.int p6), .unset, .unset, .unset, .unset, .unset, .unset, .unset, .unset, .unset, .unset, .unset, .unset] [(.int (28 : Int32)), (.ref na), (.ref na)])) t
      refine XS.bipush X418.here hx rfl (hb hby at_169) ?_
      exact ht
    obtain ⟨T425, h425, locs425, sl425, v425, X425, e425, N425, W425, A425, st425⟩ := own_fs X418 hx hZ e418 f423 N418 g_na (j := (28 : Int32)) (i := 28) rfl ⟨by decide, by decide⟩ (x := (108 : Int32)) rfl rfl (by decide) (g := (mkF m 171 #[.val (.int p1), .val (.int p2), .val (.int p3), .val (.int p4), .val (.int p5), .val (.int p6), .unset, .unset, .unset, .unset, .unset, .unset, .unset, .unset, .unset, .unset, .unset, .unset] [(.int (108 : Int32)), (.int (28 : Int32)), (.ref na), (.ref na)])) rfl rfl (hb hby at_171)
    have f426 : n0 ≤ h425.size := Nat.le_trans f419 (Keep.of_wr W425).1
    have f427 : CHr Z consts_1 s.vm h0 s.vm h425 := f420.trans (CHr.wr W425 f422 f420.1)
    have f428 : Old Z n0 h425 := f421.wr W425 g_na
    have f429 : Safe Z consts_1 s.vm h425 na := Safe.wr W425 f422 f420.1 f422
    have f430 : Arv Z h425 na ak222 .char (34 : Int32) (own_fill own_ns 34 29) (.int (0 : Int32)) := A425
    have k425 : Kt p e below m (s₁.setTop (entryFrame m #[(.int p1), (.int p2), (.int p3), (.int p4), (.int p5), (.int p6)] maxLocals)) T425 172 #[.val (.int p1), .val (.int p2), .val (.int p3), .val (.int p4), .val (.int p5), .val (.int p6), .unset, .unset, .unset, .unset, .unset, .unset, .unset, .unset, .unset, .unset, .unset, .unset] [(.ref na)] := fun t ht => k424 t (st425 t ht)
    have k431 : Kt p e below m (s₁.setTop (entryFrame m #[(.int p1), (.int p2), (.int p3), (.int p4), (.int p5), (.int p6)] maxLocals)) T425 177 #[.val (.int p1), .val (.int p2), .val (.int p3), .val (.int p4), .val (.int p5), .val (.int p6), .unset, .unset, .unset, .unset, .unset, .unset, .unset, .unset, .unset, .unset, .unset, .unset] [(.int (100 : Int32)), (.int (29 : Int32)), (.ref na), (.ref na)] := by
      intro t ht
      refine k425 t ?_
      show Steps p.tables e below (T425.setTop (mkF m 172 #[.val (.int p1), .val (.int p2), .val (.int p3), .val (.int p4), .val (.int p5), .val (.int p6), .unset, .unset, .unset, .unset, .unset, .unset, .unset, .unset, .unset, .unset, .unset, .unset] [(.ref na)])) t
      refine XS.dup X425.here hx rfl (hb hby at_172) rfl rfl ?_
      show Steps p.tables e below (T425.setTop (mkF m 173 #[.val (.int p1), .val (.int p2), .val (.int p3), .val (.int p4), .val (.int p5), .val (.int p6), .unset, .unset, .unset, .unset, .unset, .unset, .unset, .unset, .unset, .unset, .unset, .unset] [(.ref na), (.ref na)])) t
      refine XS.bipush X425.here hx rfl (hb hby at_173) ?_
      show Steps p.tables e below (T425.setTop (mkF m 175 #[.val (.int p1), .val (.int p2), .val (.int p3), .val (.int p4), .val (.int p5), .val (.int p6), .unset, .unset, .unset, .unset, .unset, .unset, .unset, .unset, .unset, .unset, .unset, .unset] [(.int (29 : Int32)), (.ref na), (.ref na)])) t
      refine XS.bipush X425.here hx rfl (hb hby at_175) ?_
      exact ht
    obtain ⟨T432, h432, locs432, sl432, v432, X432, e432, N432, W432, A432, st432⟩ := own_fs X425 hx hZ e425 f430 N425 g_na (j := (29 : Int32)) (i := 29) rfl ⟨by decide, by decide⟩ (x := (100 : Int32)) rfl rfl (by decide) (g := (mkF m 177 #[.val (.int p1), .val (.int p2), .val (.int p3), .val (.int p4), .val (.int p5), .val (.int p6), .unset, .unset, .unset, .unset, .unset, .unset, .unset, .unset, .unset, .unset, .unset, .unset] [(.int (100 : Int32)), (.int (29 : Int32)), (.ref na), (.ref na)])) rfl rfl (hb hby at_177)
    have f433 : n0 ≤ h432.size := Nat.le_trans f426 (Keep.of_wr W432).1
    have f434 : CHr Z consts_1 s.vm h0 s.vm h432 := f427.trans (CHr.wr W432 f429 f427.1)
    have f435 : Old Z n0 h432 := f428.wr W432 g_na
    have f436 : Safe Z consts_1 s.vm h432 na := Safe.wr W432 f429 f427.1 f429
    have f437 : Arv Z h432 na ak222 .char (34 : Int32) (own_fill own_ns 34 30) (.int (0 : Int32)) := A432
    have k432 : Kt p e below m (s₁.setTop (entryFrame m #[(.int p1), (.int p2), (.int p3), (.int p4), (.int p5), (.int p6)] maxLocals)) T432 178 #[.val (.int p1), .val (.int p2), .val (.int p3), .val (.int p4), .val (.int p5), .val (.int p6), .unset, .unset, .unset, .unset, .unset, .unset, .unset, .unset, .unset, .unset, .unset, .unset] [(.ref na)] := fun t ht => k431 t (st432 t ht)
    have k438 : Kt p e below m (s₁.setTop (entryFrame m #[(.int p1), (.int p2), (.int p3), (.int p4), (.int p5), (.int p6)] maxLocals)) T432 183 #[.val (.int p1), .val (.int p2), .val (.int p3), .val (.int p4), .val (.int p5), .val (.int p6), .unset, .unset, .unset, .unset, .unset, .unset, .unset, .unset, .unset, .unset, .unset, .unset] [(.int (115 : Int32)), (.int (30 : Int32)), (.ref na), (.ref na)] := by
      intro t ht
      refine k432 t ?_
      show Steps p.tables e below (T432.setTop (mkF m 178 #[.val (.int p1), .val (.int p2), .val (.int p3), .val (.int p4), .val (.int p5), .val (.int p6), .unset, .unset, .unset, .unset, .unset, .unset, .unset, .unset, .unset, .unset, .unset, .unset] [(.ref na)])) t
      refine XS.dup X432.here hx rfl (hb hby at_178) rfl rfl ?_
      show Steps p.tables e below (T432.setTop (mkF m 179 #[.val (.int p1), .val (.int p2), .val (.int p3), .val (.int p4), .val (.int p5), .val (.int p6), .unset, .unset, .unset, .unset, .unset, .unset, .unset, .unset, .unset, .unset, .unset, .unset] [(.ref na), (.ref na)])) t
      refine XS.bipush X432.here hx rfl (hb hby at_179) ?_
      show Steps p.tables e below (T432.setTop (mkF m 181 #[.val (.int p1), .val (.int p2), .val (.int p3), .val (.int p4), .val (.int p5), .val (.int p6), .unset, .unset, .unset, .unset, .unset, .unset, .unset, .unset, .unset, .unset, .unset, .unset] [(.int (30 : Int32)), (.ref na), (.ref na)])) t
      refine XS.bipush X432.here hx rfl (hb hby at_181) ?_
      exact ht
    obtain ⟨T439, h439, locs439, sl439, v439, X439, e439, N439, W439, A439, st439⟩ := own_fs X432 hx hZ e432 f437 N432 g_na (j := (30 : Int32)) (i := 30) rfl ⟨by decide, by decide⟩ (x := (115 : Int32)) rfl rfl (by decide) (g := (mkF m 183 #[.val (.int p1), .val (.int p2), .val (.int p3), .val (.int p4), .val (.int p5), .val (.int p6), .unset, .unset, .unset, .unset, .unset, .unset, .unset, .unset, .unset, .unset, .unset, .unset] [(.int (115 : Int32)), (.int (30 : Int32)), (.ref na), (.ref na)])) rfl rfl (hb hby at_183)
    have f440 : n0 ≤ h439.size := Nat.le_trans f433 (Keep.of_wr W439).1
    have f441 : CHr Z consts_1 s.vm h0 s.vm h439 := f434.trans (CHr.wr W439 f436 f434.1)
    have f442 : Old Z n0 h439 := f435.wr W439 g_na
    have f443 : Safe Z consts_1 s.vm h439 na := Safe.wr W439 f436 f434.1 f436
    have f444 : Arv Z h439 na ak222 .char (34 : Int32) (own_fill own_ns 34 31) (.int (0 : Int32)) := A439
    have k439 : Kt p e below m (s₁.setTop (entryFrame m #[(.int p1), (.int p2), (.int p3), (.int p4), (.int p5), (.int p6)] maxLocals)) T439 184 #[.val (.int p1), .val (.int p2), .val (.int p3), .val (.int p4), .val (.int p5), .val (.int p6), .unset, .unset, .unset, .unset, .unset, .unset, .unset, .unset, .unset, .unset, .unset, .unset] [(.ref na)] := fun t ht => k438 t (st439 t ht)
    have k445 : Kt p e below m (s₁.setTop (entryFrame m #[(.int p1), (.int p2), (.int p3), (.int p4), (.int p5), (.int p6)] maxLocals)) T439 189 #[.val (.int p1), .val (.int p2), .val (.int p3), .val (.int p4), .val (.int p5), .val (.int p6), .unset, .unset, .unset, .unset, .unset, .unset, .unset, .unset, .unset, .unset, .unset, .unset] [(.int (105 : Int32)), (.int (31 : Int32)), (.ref na), (.ref na)] := by
      intro t ht
      refine k439 t ?_
      show Steps p.tables e below (T439.setTop (mkF m 184 #[.val (.int p1), .val (.int p2), .val (.int p3), .val (.int p4), .val (.int p5), .val (.int p6), .unset, .unset, .unset, .unset, .unset, .unset, .unset, .unset, .unset, .unset, .unset, .unset] [(.ref na)])) t
      refine XS.dup X439.here hx rfl (hb hby at_184) rfl rfl ?_
      show Steps p.tables e below (T439.setTop (mkF m 185 #[.val (.int p1), .val (.int p2), .val (.int p3), .val (.int p4), .val (.int p5), .val (.int p6), .unset, .unset, .unset, .unset, .unset, .unset, .unset, .unset, .unset, .unset, .unset, .unset] [(.ref na), (.ref na)])) t
      refine XS.bipush X439.here hx rfl (hb hby at_185) ?_
      show Steps p.tables e below (T439.setTop (mkF m 187 #[.val (.int p1), .val (.int p2), .val (.int p3), .val (.int p4), .val (.int p5), .val (.int p6), .unset, .unset, .unset, .unset, .unset, .unset, .unset, .unset, .unset, .unset, .unset, .unset] [(.int (31 : Int32)), (.ref na), (.ref na)])) t
      refine XS.bipush X439.here hx rfl (hb hby at_187) ?_
      exact ht
    obtain ⟨T446, h446, locs446, sl446, v446, X446, e446, N446, W446, A446, st446⟩ := own_fs X439 hx hZ e439 f444 N439 g_na (j := (31 : Int32)) (i := 31) rfl ⟨by decide, by decide⟩ (x := (105 : Int32)) rfl rfl (by decide) (g := (mkF m 189 #[.val (.int p1), .val (.int p2), .val (.int p3), .val (.int p4), .val (.int p5), .val (.int p6), .unset, .unset, .unset, .unset, .unset, .unset, .unset, .unset, .unset, .unset, .unset, .unset] [(.int (105 : Int32)), (.int (31 : Int32)), (.ref na), (.ref na)])) rfl rfl (hb hby at_189)
    have f447 : n0 ≤ h446.size := Nat.le_trans f440 (Keep.of_wr W446).1
    have f448 : CHr Z consts_1 s.vm h0 s.vm h446 := f441.trans (CHr.wr W446 f443 f441.1)
    have f449 : Old Z n0 h446 := f442.wr W446 g_na
    have f450 : Safe Z consts_1 s.vm h446 na := Safe.wr W446 f443 f441.1 f443
    have f451 : Arv Z h446 na ak222 .char (34 : Int32) (own_fill own_ns 34 32) (.int (0 : Int32)) := A446
    have k446 : Kt p e below m (s₁.setTop (entryFrame m #[(.int p1), (.int p2), (.int p3), (.int p4), (.int p5), (.int p6)] maxLocals)) T446 190 #[.val (.int p1), .val (.int p2), .val (.int p3), .val (.int p4), .val (.int p5), .val (.int p6), .unset, .unset, .unset, .unset, .unset, .unset, .unset, .unset, .unset, .unset, .unset, .unset] [(.ref na)] := fun t ht => k445 t (st446 t ht)
    have k452 : Kt p e below m (s₁.setTop (entryFrame m #[(.int p1), (.int p2), (.int p3), (.int p4), (.int p5), (.int p6)] maxLocals)) T446 195 #[.val (.int p1), .val (.int p2), .val (.int p3), .val (.int p4), .val (.int p5), .val (.int p6), .unset, .unset, .unset, .unset, .unset, .unset, .unset, .unset, .unset, .unset, .unset, .unset] [(.int (103 : Int32)), (.int (32 : Int32)), (.ref na), (.ref na)] := by
      intro t ht
      refine k446 t ?_
      show Steps p.tables e below (T446.setTop (mkF m 190 #[.val (.int p1), .val (.int p2), .val (.int p3), .val (.int p4), .val (.int p5), .val (.int p6), .unset, .unset, .unset, .unset, .unset, .unset, .unset, .unset, .unset, .unset, .unset, .unset] [(.ref na)])) t
      refine XS.dup X446.here hx rfl (hb hby at_190) rfl rfl ?_
      show Steps p.tables e below (T446.setTop (mkF m 191 #[.val (.int p1), .val (.int p2), .val (.int p3), .val (.int p4), .val (.int p5), .val (.int p6), .unset, .unset, .unset, .unset, .unset, .unset, .unset, .unset, .unset, .unset, .unset, .unset] [(.ref na), (.ref na)])) t
      refine XS.bipush X446.here hx rfl (hb hby at_191) ?_
      show Steps p.tables e below (T446.setTop (mkF m 193 #[.val (.int p1), .val (.int p2), .val (.int p3), .val (.int p4), .val (.int p5), .val (.int p6), .unset, .unset, .unset, .unset, .unset, .unset, .unset, .unset, .unset, .unset, .unset, .unset] [(.int (32 : Int32)), (.ref na), (.ref na)])) t
      refine XS.bipush X446.here hx rfl (hb hby at_193) ?_
      exact ht
    obtain ⟨T453, h453, locs453, sl453, v453, X453, e453, N453, W453, A453, st453⟩ := own_fs X446 hx hZ e446 f451 N446 g_na (j := (32 : Int32)) (i := 32) rfl ⟨by decide, by decide⟩ (x := (103 : Int32)) rfl rfl (by decide) (g := (mkF m 195 #[.val (.int p1), .val (.int p2), .val (.int p3), .val (.int p4), .val (.int p5), .val (.int p6), .unset, .unset, .unset, .unset, .unset, .unset, .unset, .unset, .unset, .unset, .unset, .unset] [(.int (103 : Int32)), (.int (32 : Int32)), (.ref na), (.ref na)])) rfl rfl (hb hby at_195)
    have f454 : n0 ≤ h453.size := Nat.le_trans f447 (Keep.of_wr W453).1
    have f455 : CHr Z consts_1 s.vm h0 s.vm h453 := f448.trans (CHr.wr W453 f450 f448.1)
    have f456 : Old Z n0 h453 := f449.wr W453 g_na
    have f457 : Safe Z consts_1 s.vm h453 na := Safe.wr W453 f450 f448.1 f450
    have f458 : Arv Z h453 na ak222 .char (34 : Int32) (own_fill own_ns 34 33) (.int (0 : Int32)) := A453
    have k453 : Kt p e below m (s₁.setTop (entryFrame m #[(.int p1), (.int p2), (.int p3), (.int p4), (.int p5), (.int p6)] maxLocals)) T453 196 #[.val (.int p1), .val (.int p2), .val (.int p3), .val (.int p4), .val (.int p5), .val (.int p6), .unset, .unset, .unset, .unset, .unset, .unset, .unset, .unset, .unset, .unset, .unset, .unset] [(.ref na)] := fun t ht => k452 t (st453 t ht)
    have k459 : Kt p e below m (s₁.setTop (entryFrame m #[(.int p1), (.int p2), (.int p3), (.int p4), (.int p5), (.int p6)] maxLocals)) T453 201 #[.val (.int p1), .val (.int p2), .val (.int p3), .val (.int p4), .val (.int p5), .val (.int p6), .unset, .unset, .unset, .unset, .unset, .unset, .unset, .unset, .unset, .unset, .unset, .unset] [(.int (35 : Int32)), (.int (33 : Int32)), (.ref na), (.ref na)] := by
      intro t ht
      refine k453 t ?_
      show Steps p.tables e below (T453.setTop (mkF m 196 #[.val (.int p1), .val (.int p2), .val (.int p3), .val (.int p4), .val (.int p5), .val (.int p6), .unset, .unset, .unset, .unset, .unset, .unset, .unset, .unset, .unset, .unset, .unset, .unset] [(.ref na)])) t
      refine XS.dup X453.here hx rfl (hb hby at_196) rfl rfl ?_
      show Steps p.tables e below (T453.setTop (mkF m 197 #[.val (.int p1), .val (.int p2), .val (.int p3), .val (.int p4), .val (.int p5), .val (.int p6), .unset, .unset, .unset, .unset, .unset, .unset, .unset, .unset, .unset, .unset, .unset, .unset] [(.ref na), (.ref na)])) t
      refine XS.bipush X453.here hx rfl (hb hby at_197) ?_
      show Steps p.tables e below (T453.setTop (mkF m 199 #[.val (.int p1), .val (.int p2), .val (.int p3), .val (.int p4), .val (.int p5), .val (.int p6), .unset, .unset, .unset, .unset, .unset, .unset, .unset, .unset, .unset, .unset, .unset, .unset] [(.int (33 : Int32)), (.ref na), (.ref na)])) t
      refine XS.bipush X453.here hx rfl (hb hby at_199) ?_
      exact ht
    obtain ⟨T460, h460, locs460, sl460, v460, X460, e460, N460, W460, A460, st460⟩ := own_fs X453 hx hZ e453 f458 N453 g_na (j := (33 : Int32)) (i := 33) rfl ⟨by decide, by decide⟩ (x := (35 : Int32)) rfl rfl (by decide) (g := (mkF m 201 #[.val (.int p1), .val (.int p2), .val (.int p3), .val (.int p4), .val (.int p5), .val (.int p6), .unset, .unset, .unset, .unset, .unset, .unset, .unset, .unset, .unset, .unset, .unset, .unset] [(.int (35 : Int32)), (.int (33 : Int32)), (.ref na), (.ref na)])) rfl rfl (hb hby at_201)
    have f461 : n0 ≤ h460.size := Nat.le_trans f454 (Keep.of_wr W460).1
    have f462 : CHr Z consts_1 s.vm h0 s.vm h460 := f455.trans (CHr.wr W460 f457 f455.1)
    have f463 : Old Z n0 h460 := f456.wr W460 g_na
    have f464 : Safe Z consts_1 s.vm h460 na := Safe.wr W460 f457 f455.1 f457
    have f465 : Arv Z h460 na ak222 .char (34 : Int32) (own_fill own_ns 34 34) (.int (0 : Int32)) := A460
    have k460 : Kt p e below m (s₁.setTop (entryFrame m #[(.int p1), (.int p2), (.int p3), (.int p4), (.int p5), (.int p6)] maxLocals)) T460 202 #[.val (.int p1), .val (.int p2), .val (.int p3), .val (.int p4), .val (.int p5), .val (.int p6), .unset, .unset, .unset, .unset, .unset, .unset, .unset, .unset, .unset, .unset, .unset, .unset] [(.ref na)] := fun t ht => k459 t (st460 t ht)
    have f466 : Arv Z h460 na ak222 .char (34 : Int32) (own_ns.map Value.int) (.int (0 : Int32)) := by rw [← own_fillN (cs := own_ns) (n := 34) rfl]; exact f465
    exact ⟨T460, h460, _, X460, e460, N460, f461, f462, f463, f464, f466, k460⟩
  have k467 : Kt p e below m (s₁.setTop (entryFrame m #[(.int p1), (.int p2), (.int p3), (.int p4), (.int p5), (.int p6)] maxLocals)) Tj227 206 #[.val (.int p1), .val (.int p2), .val (.int p3), .val (.int p4), .val (.int p5), .val (.int p6), .val (.ref na), .unset, .unset, .unset, .unset, .unset, .unset, .unset, .unset, .unset, .unset, .unset] [(.int (9 : Int32))] := by
    intro t ht
    refine kj227 t ?_
    show Steps p.tables e below (Tj227.setTop (mkF m 202 #[.val (.int p1), .val (.int p2), .val (.int p3), .val (.int p4), .val (.int p5), .val (.int p6), .unset, .unset, .unset, .unset, .unset, .unset, .unset, .unset, .unset, .unset, .unset, .unset] [(.ref na)])) t
    refine XS.astore Xj227.here hx rfl (hb hby at_202) rfl rfl (l' := #[.val (.int p1), .val (.int p2), .val (.int p3), .val (.int p4), .val (.int p5), .val (.int p6), .val (.ref na), .unset, .unset, .unset, .unset, .unset, .unset, .unset, .unset, .unset, .unset, .unset]) rfl ?_
    show Steps p.tables e below (Tj227.setTop (mkF m 204 #[.val (.int p1), .val (.int p2), .val (.int p3), .val (.int p4), .val (.int p5), .val (.int p6), .val (.ref na), .unset, .unset, .unset, .unset, .unset, .unset, .unset, .unset, .unset, .unset, .unset] [])) t
    refine XS.bipush Xj227.here hx rfl (hb hby at_204) ?_
    exact ht
  obtain ⟨T468, h468, ak468, X468, e468, E468, A468, st468⟩ := newP Xj227 hx hZ (hw _ (List.mem_of_getElem? (i := 0) rfl)) ej227 (g := (mkF m 206 #[.val (.int p1), .val (.int p2), .val (.int p3), .val (.int p4), .val (.int p5), .val (.int p6), .val (.ref na), .unset, .unset, .unset, .unset, .unset, .unset, .unset, .unset, .unset, .unset, .unset] [(.int (9 : Int32))])) rfl (hb hby at_206) rfl (by decide) (cap := 9) (by decide) (by decide) (by decide) (by decide)
  obtain ⟨la, q468⟩ : ∃ z, z = hj227.size := ⟨_, rfl⟩
  have ne_na_la : na ≠ la := by rw [q468]; exact Nat.ne_of_lt fj227_4.lt
  have g_la : n0 ≤ la := by rw [q468]; exact fj227_0
  rw [← q468] at A468 st468
  have f469 : n0 ≤ h468.size := Nat.le_trans fj227_0 E468.1
  have f470 : CHr Z consts_1 s.vm h0 s.vm h468 := fj227_1.trans (CHr.ext E468 fj227_1.1)
  have f471 : Old Z n0 h468 := fj227_2.ext E468
  have f472 : Safe Z consts_1 s.vm h468 na := fj227_3.ext E468 fj227_1.1
  have f473 : Arv Z h468 na ak222 .char (34 : Int32) (own_ns.map Value.int) (.int (0 : Int32)) := fj227_4.ext E468
  have Sf468 : Safe Z consts_1 s.vm h468 la := Safe.ext E468 fj227_1.1 (Safe.new (by rw [q468]; exact Nat.le_refl _))
  have f468 : Arv Z h468 la ak468 .char (9 : Int32) [(.int (0 : Int32)), (.int (0 : Int32)), (.int (0 : Int32)), (.int (0 : Int32)), (.int (0 : Int32)), (.int (0 : Int32)), (.int (0 : Int32)), (.int (0 : Int32)), (.int (0 : Int32))] (.int (0 : Int32)) := (Arv.new A468 (by decide)).pad (pad_rep [] (.int (0 : Int32)) 9)
  have k468 : Kt p e below m (s₁.setTop (entryFrame m #[(.int p1), (.int p2), (.int p3), (.int p4), (.int p5), (.int p6)] maxLocals)) T468 208 #[.val (.int p1), .val (.int p2), .val (.int p3), .val (.int p4), .val (.int p5), .val (.int p6), .val (.ref na), .unset, .unset, .unset, .unset, .unset, .unset, .unset, .unset, .unset, .unset, .unset] [(.ref la)] := fun t ht => k467 t (st468 t ht)
  have f474 : Arv Z h468 la ak468 .char (9 : Int32) (own_fill own_ln 9 0) (.int (0 : Int32)) := by rw [own_fill0]; exact (Arv.new A468 (by decide)).pad (pad_rep [] _ 9)
  obtain ⟨Tj475, hj475, locsj475, Xj475, ej475, Nj475, fj475_0, fj475_1, fj475_2, fj475_3, fj475_4, fj475_5, fj475_6, kj475⟩ : ∃ (Tj475 : State) (hj475 : Heap) (locsj475 : List Loc), Stand p l e room_1 (s.setVm s.vm) m #[(.int p1), (.int p2), (.int p3), (.int p4), (.int p5), (.int p6)] below meth c Tj475 locsj475 2 43 ∧ Tj475.heap = hj475 ∧ Fr n0 locsj475 ∧ n0 ≤ hj475.size ∧ CHr Z consts_1 s.vm h0 s.vm hj475 ∧ Old Z n0 hj475 ∧ Safe Z consts_1 s.vm hj475 na ∧ Arv Z hj475 na ak222 .char (34 : Int32) (own_ns.map Value.int) (.int (0 : Int32)) ∧ Safe Z consts_1 s.vm hj475 la ∧ Arv Z hj475 la ak468 .char (9 : Int32) (own_ln.map Value.int) (.int (0 : Int32)) ∧ Kt p e below m (s₁.setTop (entryFrame m #[(.int p1), (.int p2), (.int p3), (.int p4), (.int p5), (.int p6)] maxLocals)) Tj475 256 #[.val (.int p1), .val (.int p2), .val (.int p3), .val (.int p4), .val (.int p5), .val (.int p6), .val (.ref na), .unset, .unset, .unset, .unset, .unset, .unset, .unset, .unset, .unset, .unset, .unset] [(.ref la)] := by
    have k476 : Kt p e below m (s₁.setTop (entryFrame m #[(.int p1), (.int p2), (.int p3), (.int p4), (.int p5), (.int p6)] maxLocals)) T468 212 #[.val (.int p1), .val (.int p2), .val (.int p3), .val (.int p4), .val (.int p5), .val (.int p6), .val (.ref na), .unset, .unset, .unset, .unset, .unset, .unset, .unset, .unset, .unset, .unset, .unset] [(.int (83 : Int32)), (.int (0 : Int32)), (.ref la), (.ref la)] := by
      intro t ht
      refine k468 t ?_
      show Steps p.tables e below (T468.setTop (mkF m 208 #[.val (.int p1), .val (.int p2), .val (.int p3), .val (.int p4), .val (.int p5), .val (.int p6), .val (.ref na), .unset, .unset, .unset, .unset, .unset, .unset, .unset, .unset, .unset, .unset, .unset] [(.ref la)])) t
      refine XS.dup X468.here hx rfl (hb hby at_208) rfl rfl ?_
      show Steps p.tables e below (T468.setTop (mkF m 209 #[.val (.int p1), .val (.int p2), .val (.int p3), .val (.int p4), .val (.int p5), .val (.int p6), .val (.ref na), .unset, .unset, .unset, .unset, .unset, .unset, .unset, .unset, .unset, .unset, .unset] [(.ref la), (.ref la)])) t
      refine XS.iconst X468.here hx rfl (hb hby at_209) ?_
      show Steps p.tables e below (T468.setTop (mkF m 210 #[.val (.int p1), .val (.int p2), .val (.int p3), .val (.int p4), .val (.int p5), .val (.int p6), .val (.ref na), .unset, .unset, .unset, .unset, .unset, .unset, .unset, .unset, .unset, .unset, .unset] [(.int (0 : Int32)), (.ref la), (.ref la)])) t
      refine XS.bipush X468.here hx rfl (hb hby at_210) ?_
      exact ht
    obtain ⟨T477, h477, locs477, sl477, v477, X477, e477, N477, W477, A477, st477⟩ := own_fs X468 hx hZ e468 f474 Nj227 g_la (j := (0 : Int32)) (i := 0) rfl ⟨by decide, by decide⟩ (x := (83 : Int32)) rfl rfl (by decide) (g := (mkF m 212 #[.val (.int p1), .val (.int p2), .val (.int p3), .val (.int p4), .val (.int p5), .val (.int p6), .val (.ref na), .unset, .unset, .unset, .unset, .unset, .unset, .unset, .unset, .unset, .unset, .unset] [(.int (83 : Int32)), (.int (0 : Int32)), (.ref la), (.ref la)])) rfl rfl (hb hby at_212)
    have f478 : n0 ≤ h477.size := Nat.le_trans f469 (Keep.of_wr W477).1
    have f479 : CHr Z consts_1 s.vm h0 s.vm h477 := f470.trans (CHr.wr W477 Sf468 f470.1)
    have f480 : Old Z n0 h477 := f471.wr W477 g_la
    have f481 : Safe Z consts_1 s.vm h477 na := Safe.wr W477 Sf468 f470.1 f472
    have f482 : Arv Z h477 na ak222 .char (34 : Int32) (own_ns.map Value.int) (.int (0 : Int32)) := f473.other W477 ne_na_la
    have f483 : Safe Z consts_1 s.vm h477 la := Safe.wr W477 Sf468 f470.1 Sf468
    have f484 : Arv Z h477 la ak468 .char (9 : Int32) (own_fill own_ln 9 1) (.int (0 : Int32)) := A477
    have k477 : Kt p e below m (s₁.setTop (entryFrame m #[(.int p1), (.int p2), (.int p3), (.int p4), (.int p5), (.int p6)] maxLocals)) T477 213 #[.val (.int p1), .val (.int p2), .val (.int p3), .val (.int p4), .val (.int p5), .val (.int p6), .val (.ref na), .unset, .unset, .unset, .unset, .unset, .unset, .unset, .unset, .unset, .unset, .unset] [(.ref la)] := fun t ht => k476 t (st477 t ht)
    have k485 : Kt p e below m (s₁.setTop (entryFrame m #[(.int p1), (.int p2), (.int p3), (.int p4), (.int p5), (.int p6)] maxLocals)) T477 217 #[.val (.int p1), .val (.int p2), .val (.int p3), .val (.int p4), .val (.int p5), .val (.int p6), .val (.ref na), .unset, .unset, .unset, .unset, .unset, .unset, .unset, .unset, .unset, .unset, .unset] [(.int (105 : Int32)), (.int (1 : Int32)), (.ref la), (.ref la)] := by
      intro t ht
      refine k477 t ?_
      show Steps p.tables e below (T477.setTop (mkF m 213 #[.val (.int p1), .val (.int p2), .val (.int p3), .val (.int p4), .val (.int p5), .val (.int p6), .val (.ref na), .unset, .unset, .unset, .unset, .unset, .unset, .unset, .unset, .unset, .unset, .unset] [(.ref la)])) t
      refine XS.dup X477.here hx rfl (hb hby at_213) rfl rfl ?_
      show Steps p.tables e below (T477.setTop (mkF m 214 #[.val (.int p1), .val (.int p2), .val (.int p3), .val (.int p4), .val (.int p5), .val (.int p6), .val (.ref na), .unset, .unset, .unset, .unset, .unset, .unset, .unset, .unset, .unset, .unset, .unset] [(.ref la), (.ref la)])) t
      refine XS.iconst X477.here hx rfl (hb hby at_214) ?_
      show Steps p.tables e below (T477.setTop (mkF m 215 #[.val (.int p1), .val (.int p2), .val (.int p3), .val (.int p4), .val (.int p5), .val (.int p6), .val (.ref na), .unset, .unset, .unset, .unset, .unset, .unset, .unset, .unset, .unset, .unset, .unset] [(.int (1 : Int32)), (.ref la), (.ref la)])) t
      refine XS.bipush X477.here hx rfl (hb hby at_215) ?_
      exact ht
    obtain ⟨T486, h486, locs486, sl486, v486, X486, e486, N486, W486, A486, st486⟩ := own_fs X477 hx hZ e477 f484 N477 g_la (j := (1 : Int32)) (i := 1) rfl ⟨by decide, by decide⟩ (x := (105 : Int32)) rfl rfl (by decide) (g := (mkF m 217 #[.val (.int p1), .val (.int p2), .val (.int p3), .val (.int p4), .val (.int p5), .val (.int p6), .val (.ref na), .unset, .unset, .unset, .unset, .unset, .unset, .unset, .unset, .unset, .unset, .unset] [(.int (105 : Int32)), (.int (1 : Int32)), (.ref la), (.ref la)])) rfl rfl (hb hby at_217)
    have f487 : n0 ≤ h486.size := Nat.le_trans f478 (Keep.of_wr W486).1
    have f488 : CHr Z consts_1 s.vm h0 s.vm h486 := f479.trans (CHr.wr W486 f483 f479.1)
    have f489 : Old Z n0 h486 := f480.wr W486 g_la
    have f490 : Safe Z consts_1 s.vm h486 na := Safe.wr W486 f483 f479.1 f481
    have f491 : Arv Z h486 na ak222 .char (34 : Int32) (own_ns.map Value.int) (.int (0 : Int32)) := f482.other W486 ne_na_la
    have f492 : Safe Z consts_1 s.vm h486 la := Safe.wr W486 f483 f479.1 f483
    have f493 : Arv Z h486 la ak468 .char (9 : Int32) (own_fill own_ln 9 2) (.int (0 : Int32)) := A486
    have k486 : Kt p e below m (s₁.setTop (entryFrame m #[(.int p1), (.int p2), (.int p3), (.int p4), (.int p5), (.int p6)] maxLocals)) T486 218 #[.val (.int p1), .val (.int p2), .val (.int p3), .val (.int p4), .val (.int p5), .val (.int p6), .val (.ref na), .unset, .unset, .unset, .unset, .unset, .unset, .unset, .unset, .unset, .unset, .unset] [(.ref la)] := fun t ht => k485 t (st486 t ht)
    have k494 : Kt p e below m (s₁.setTop (entryFrame m #[(.int p1), (.int p2), (.int p3), (.int p4), (.int p5), (.int p6)] maxLocals)) T486 222 #[.val (.int p1), .val (.int p2), .val (.int p3), .val (.int p4), .val (.int p5), .val (.int p6), .val (.ref na), .unset, .unset, .unset, .unset, .unset, .unset, .unset, .unset, .unset, .unset, .unset] [(.int (103 : Int32)), (.int (2 : Int32)), (.ref la), (.ref la)] := by
      intro t ht
      refine k486 t ?_
      show Steps p.tables e below (T486.setTop (mkF m 218 #[.val (.int p1), .val (.int p2), .val (.int p3), .val (.int p4), .val (.int p5), .val (.int p6), .val (.ref na), .unset, .unset, .unset, .unset, .unset, .unset, .unset, .unset, .unset, .unset, .unset] [(.ref la)])) t
      refine XS.dup X486.here hx rfl (hb hby at_218) rfl rfl ?_
      show Steps p.tables e below (T486.setTop (mkF m 219 #[.val (.int p1), .val (.int p2), .val (.int p3), .val (.int p4), .val (.int p5), .val (.int p6), .val (.ref na), .unset, .unset, .unset, .unset, .unset, .unset, .unset, .unset, .unset, .unset, .unset] [(.ref la), (.ref la)])) t
      refine XS.iconst X486.here hx rfl (hb hby at_219) ?_
      show Steps p.tables e below (T486.setTop (mkF m 220 #[.val (.int p1), .val (.int p2), .val (.int p3), .val (.int p4), .val (.int p5), .val (.int p6), .val (.ref na), .unset, .unset, .unset, .unset, .unset, .unset, .unset, .unset, .unset, .unset, .unset] [(.int (2 : Int32)), (.ref la), (.ref la)])) t
      refine XS.bipush X486.here hx rfl (hb hby at_220) ?_
      exact ht
    obtain ⟨T495, h495, locs495, sl495, v495, X495, e495, N495, W495, A495, st495⟩ := own_fs X486 hx hZ e486 f493 N486 g_la (j := (2 : Int32)) (i := 2) rfl ⟨by decide, by decide⟩ (x := (103 : Int32)) rfl rfl (by decide) (g := (mkF m 222 #[.val (.int p1), .val (.int p2), .val (.int p3), .val (.int p4), .val (.int p5), .val (.int p6), .val (.ref na), .unset, .unset, .unset, .unset, .unset, .unset, .unset, .unset, .unset, .unset, .unset] [(.int (103 : Int32)), (.int (2 : Int32)), (.ref la), (.ref la)])) rfl rfl (hb hby at_222)
    have f496 : n0 ≤ h495.size := Nat.le_trans f487 (Keep.of_wr W495).1
    have f497 : CHr Z consts_1 s.vm h0 s.vm h495 := f488.trans (CHr.wr W495 f492 f488.1)
    have f498 : Old Z n0 h495 := f489.wr W495 g_la
    have f499 : Safe Z consts_1 s.vm h495 na := Safe.wr W495 f492 f488.1 f490
    have f500 : Arv Z h495 na ak222 .char (34 : Int32) (own_ns.map Value.int) (.int (0 : Int32)) := f491.other W495 ne_na_la
    have f501 : Safe Z consts_1 s.vm h495 la := Safe.wr W495 f492 f488.1 f492
    have f502 : Arv Z h495 la ak468 .char (9 : Int32) (own_fill own_ln 9 3) (.int (0 : Int32)) := A495
    have k495 : Kt p e below m (s₁.setTop (entryFrame m #[(.int p1), (.int p2), (.int p3), (.int p4), (.int p5), (.int p6)] maxLocals)) T495 223 #[.val (.int p1), .val (.int p2), .val (.int p3), .val (.int p4), .val (.int p5), .val (.int p6), .val (.ref na), .unset, .unset, .unset, .unset, .unset, .unset, .unset, .unset, .unset, .unset, .unset] [(.ref la)] := fun t ht => k494 t (st495 t ht)
    have k503 : Kt p e below m (s₁.setTop (entryFrame m #[(.int p1), (.int p2), (.int p3), (.int p4), (.int p5), (.int p6)] maxLocals)) T495 227 #[.val (.int p1), .val (.int p2), .val (.int p3), .val (.int p4), .val (.int p5), .val (.int p6), .val (.ref na), .unset, .unset, .unset, .unset, .unset, .unset, .unset, .unset, .unset, .unset, .unset] [(.int (110 : Int32)), (.int (3 : Int32)), (.ref la), (.ref la)] := by
      intro t ht
      refine k495 t ?_
      show Steps p.tables e below (T495.setTop (mkF m 223 #[.val (.int p1), .val (.int p2), .val (.int p3), .val (.int p4), .val (.int p5), .val (.int p6), .val (.ref na), .unset, .unset, .unset, .unset, .unset, .unset, .unset, .unset, .unset, .unset, .unset] [(.ref la)])) t
      refine XS.dup X495.here hx rfl (hb hby at_223) rfl rfl ?_
      show Steps p.tables e below (T495.setTop (mkF m 224 #[.val (.int p1), .val (.int p2), .val (.int p3), .val (.int p4), .val (.int p5), .val (.int p6), .val (.ref na), .unset, .unset, .unset, .unset, .unset, .unset, .unset, .unset, .unset, .unset, .unset] [(.ref la), (.ref la)])) t
      refine XS.iconst X495.here hx rfl (hb hby at_224) ?_
      show Steps p.tables e below (T495.setTop (mkF m 225 #[.val (.int p1), .val (.int p2), .val (.int p3), .val (.int p4), .val (.int p5), .val (.int p6), .val (.ref na), .unset, .unset, .unset, .unset, .unset, .unset, .unset, .unset, .unset, .unset, .unset] [(.int (3 : Int32)), (.ref la), (.ref la)])) t
      refine XS.bipush X495.here hx rfl (hb hby at_225) ?_
      exact ht
    obtain ⟨T504, h504, locs504, sl504, v504, X504, e504, N504, W504, A504, st504⟩ := own_fs X495 hx hZ e495 f502 N495 g_la (j := (3 : Int32)) (i := 3) rfl ⟨by decide, by decide⟩ (x := (110 : Int32)) rfl rfl (by decide) (g := (mkF m 227 #[.val (.int p1), .val (.int p2), .val (.int p3), .val (.int p4), .val (.int p5), .val (.int p6), .val (.ref na), .unset, .unset, .unset, .unset, .unset, .unset, .unset, .unset, .unset, .unset, .unset] [(.int (110 : Int32)), (.int (3 : Int32)), (.ref la), (.ref la)])) rfl rfl (hb hby at_227)
    have f505 : n0 ≤ h504.size := Nat.le_trans f496 (Keep.of_wr W504).1
    have f506 : CHr Z consts_1 s.vm h0 s.vm h504 := f497.trans (CHr.wr W504 f501 f497.1)
    have f507 : Old Z n0 h504 := f498.wr W504 g_la
    have f508 : Safe Z consts_1 s.vm h504 na := Safe.wr W504 f501 f497.1 f499
    have f509 : Arv Z h504 na ak222 .char (34 : Int32) (own_ns.map Value.int) (.int (0 : Int32)) := f500.other W504 ne_na_la
    have f510 : Safe Z consts_1 s.vm h504 la := Safe.wr W504 f501 f497.1 f501
    have f511 : Arv Z h504 la ak468 .char (9 : Int32) (own_fill own_ln 9 4) (.int (0 : Int32)) := A504
    have k504 : Kt p e below m (s₁.setTop (entryFrame m #[(.int p1), (.int p2), (.int p3), (.int p4), (.int p5), (.int p6)] maxLocals)) T504 228 #[.val (.int p1), .val (.int p2), .val (.int p3), .val (.int p4), .val (.int p5), .val (.int p6), .val (.ref na), .unset, .unset, .unset, .unset, .unset, .unset, .unset, .unset, .unset, .unset, .unset] [(.ref la)] := fun t ht => k503 t (st504 t ht)
    have k512 : Kt p e below m (s₁.setTop (entryFrame m #[(.int p1), (.int p2), (.int p3), (.int p4), (.int p5), (.int p6)] maxLocals)) T504 232 #[.val (.int p1), .val (.int p2), .val (.int p3), .val (.int p4), .val (.int p5), .val (.int p6), .val (.ref na), .unset, .unset, .unset, .unset, .unset, .unset, .unset, .unset, .unset, .unset, .unset] [(.int (97 : Int32)), (.int (4 : Int32)), (.ref la), (.ref la)] := by
      intro t ht
      refine k504 t ?_
      show Steps p.tables e below (T504.setTop (mkF m 228 #[.val (.int p1), .val (.int p2), .val (.int p3), .val (.int p4), .val (.int p5), .val (.int p6), .val (.ref na), .unset, .unset, .unset, .unset, .unset, .unset, .unset, .unset, .unset, .unset, .unset] [(.ref la)])) t
      refine XS.dup X504.here hx rfl (hb hby at_228) rfl rfl ?_
      show Steps p.tables e below (T504.setTop (mkF m 229 #[.val (.int p1), .val (.int p2), .val (.int p3), .val (.int p4), .val (.int p5), .val (.int p6), .val (.ref na), .unset, .unset, .unset, .unset, .unset, .unset, .unset, .unset, .unset, .unset, .unset] [(.ref la), (.ref la)])) t
      refine XS.iconst X504.here hx rfl (hb hby at_229) ?_
      show Steps p.tables e below (T504.setTop (mkF m 230 #[.val (.int p1), .val (.int p2), .val (.int p3), .val (.int p4), .val (.int p5), .val (.int p6), .val (.ref na), .unset, .unset, .unset, .unset, .unset, .unset, .unset, .unset, .unset, .unset, .unset] [(.int (4 : Int32)), (.ref la), (.ref la)])) t
      refine XS.bipush X504.here hx rfl (hb hby at_230) ?_
      exact ht
    obtain ⟨T513, h513, locs513, sl513, v513, X513, e513, N513, W513, A513, st513⟩ := own_fs X504 hx hZ e504 f511 N504 g_la (j := (4 : Int32)) (i := 4) rfl ⟨by decide, by decide⟩ (x := (97 : Int32)) rfl rfl (by decide) (g := (mkF m 232 #[.val (.int p1), .val (.int p2), .val (.int p3), .val (.int p4), .val (.int p5), .val (.int p6), .val (.ref na), .unset, .unset, .unset, .unset, .unset, .unset, .unset, .unset, .unset, .unset, .unset] [(.int (97 : Int32)), (.int (4 : Int32)), (.ref la), (.ref la)])) rfl rfl (hb hby at_232)
    have f514 : n0 ≤ h513.size := Nat.le_trans f505 (Keep.of_wr W513).1
    have f515 : CHr Z consts_1 s.vm h0 s.vm h513 := f506.trans (CHr.wr W513 f510 f506.1)
    have f516 : Old Z n0 h513 := f507.wr W513 g_la
    have f517 : Safe Z consts_1 s.vm h513 na := Safe.wr W513 f510 f506.1 f508
    have f518 : Arv Z h513 na ak222 .char (34 : Int32) (own_ns.map Value.int) (.int (0 : Int32)) := f509.other W513 ne_na_la
    have f519 : Safe Z consts_1 s.vm h513 la := Safe.wr W513 f510 f506.1 f510
    have f520 : Arv Z h513 la ak468 .char (9 : Int32) (own_fill own_ln 9 5) (.int (0 : Int32)) := A513
    have k513 : Kt p e below m (s₁.setTop (entryFrame m #[(.int p1), (.int p2), (.int p3), (.int p4), (.int p5), (.int p6)] maxLocals)) T513 233 #[.val (.int p1), .val (.int p2), .val (.int p3), .val (.int p4), .val (.int p5), .val (.int p6), .val (.ref na), .unset, .unset, .unset, .unset, .unset, .unset, .unset, .unset, .unset, .unset, .unset] [(.ref la)] := fun t ht => k512 t (st513 t ht)
    have k521 : Kt p e below m (s₁.setTop (entryFrame m #[(.int p1), (.int p2), (.int p3), (.int p4), (.int p5), (.int p6)] maxLocals)) T513 237 #[.val (.int p1), .val (.int p2), .val (.int p3), .val (.int p4), .val (.int p5), .val (.int p6), .val (.ref na), .unset, .unset, .unset, .unset, .unset, .unset, .unset, .unset, .unset, .unset, .unset] [(.int (116 : Int32)), (.int (5 : Int32)), (.ref la), (.ref la)] := by
      intro t ht
      refine k513 t ?_
      show Steps p.tables e below (T513.setTop (mkF m 233 #[.val (.int p1), .val (.int p2), .val (.int p3), .val (.int p4), .val (.int p5), .val (.int p6), .val (.ref na), .unset, .unset, .unset, .unset, .unset, .unset, .unset, .unset, .unset, .unset, .unset] [(.ref la)])) t
      refine XS.dup X513.here hx rfl (hb hby at_233) rfl rfl ?_
      show Steps p.tables e below (T513.setTop (mkF m 234 #[.val (.int p1), .val (.int p2), .val (.int p3), .val (.int p4), .val (.int p5), .val (.int p6), .val (.ref na), .unset, .unset, .unset, .unset, .unset, .unset, .unset, .unset, .unset, .unset, .unset] [(.ref la), (.ref la)])) t
      refine XS.iconst X513.here hx rfl (hb hby at_234) ?_
      show Steps p.tables e below (T513.setTop (mkF m 235 #[.val (.int p1), .val (.int p2), .val (.int p3), .val (.int p4), .val (.int p5), .val (.int p6), .val (.ref na), .unset, .unset, .unset, .unset, .unset, .unset, .unset, .unset, .unset, .unset, .unset] [(.int (5 : Int32)), (.ref la), (.ref la)])) t
      refine XS.bipush X513.here hx rfl (hb hby at_235) ?_
      exact ht
    obtain ⟨T522, h522, locs522, sl522, v522, X522, e522, N522, W522, A522, st522⟩ := own_fs X513 hx hZ e513 f520 N513 g_la (j := (5 : Int32)) (i := 5) rfl ⟨by decide, by decide⟩ (x := (116 : Int32)) rfl rfl (by decide) (g := (mkF m 237 #[.val (.int p1), .val (.int p2), .val (.int p3), .val (.int p4), .val (.int p5), .val (.int p6), .val (.ref na), .unset, .unset, .unset, .unset, .unset, .unset, .unset, .unset, .unset, .unset, .unset] [(.int (116 : Int32)), (.int (5 : Int32)), (.ref la), (.ref la)])) rfl rfl (hb hby at_237)
    have f523 : n0 ≤ h522.size := Nat.le_trans f514 (Keep.of_wr W522).1
    have f524 : CHr Z consts_1 s.vm h0 s.vm h522 := f515.trans (CHr.wr W522 f519 f515.1)
    have f525 : Old Z n0 h522 := f516.wr W522 g_la
    have f526 : Safe Z consts_1 s.vm h522 na := Safe.wr W522 f519 f515.1 f517
    have f527 : Arv Z h522 na ak222 .char (34 : Int32) (own_ns.map Value.int) (.int (0 : Int32)) := f518.other W522 ne_na_la
    have f528 : Safe Z consts_1 s.vm h522 la := Safe.wr W522 f519 f515.1 f519
    have f529 : Arv Z h522 la ak468 .char (9 : Int32) (own_fill own_ln 9 6) (.int (0 : Int32)) := A522
    have k522 : Kt p e below m (s₁.setTop (entryFrame m #[(.int p1), (.int p2), (.int p3), (.int p4), (.int p5), (.int p6)] maxLocals)) T522 238 #[.val (.int p1), .val (.int p2), .val (.int p3), .val (.int p4), .val (.int p5), .val (.int p6), .val (.ref na), .unset, .unset, .unset, .unset, .unset, .unset, .unset, .unset, .unset, .unset, .unset] [(.ref la)] := fun t ht => k521 t (st522 t ht)
    have k530 : Kt p e below m (s₁.setTop (entryFrame m #[(.int p1), (.int p2), (.int p3), (.int p4), (.int p5), (.int p6)] maxLocals)) T522 243 #[.val (.int p1), .val (.int p2), .val (.int p3), .val (.int p4), .val (.int p5), .val (.int p6), .val (.ref na), .unset, .unset, .unset, .unset, .unset, .unset, .unset, .unset, .unset, .unset, .unset] [(.int (117 : Int32)), (.int (6 : Int32)), (.ref la), (.ref la)] := by
      intro t ht
      refine k522 t ?_
      show Steps p.tables e below (T522.setTop (mkF m 238 #[.val (.int p1), .val (.int p2), .val (.int p3), .val (.int p4), .val (.int p5), .val (.int p6), .val (.ref na), .unset, .unset, .unset, .unset, .unset, .unset, .unset, .unset, .unset, .unset, .unset] [(.ref la)])) t
      refine XS.dup X522.here hx rfl (hb hby at_238) rfl rfl ?_
      show Steps p.tables e below (T522.setTop (mkF m 239 #[.val (.int p1), .val (.int p2), .val (.int p3), .val (.int p4), .val (.int p5), .val (.int p6), .val (.ref na), .unset, .unset, .unset, .unset, .unset, .unset, .unset, .unset, .unset, .unset, .unset] [(.ref la), (.ref la)])) t
      refine XS.bipush X522.here hx rfl (hb hby at_239) ?_
      show Steps p.tables e below (T522.setTop (mkF m 241 #[.val (.int p1), .val (.int p2), .val (.int p3), .val (.int p4), .val (.int p5), .val (.int p6), .val (.ref na), .unset, .unset, .unset, .unset, .unset, .unset, .unset, .unset, .unset, .unset, .unset] [(.int (6 : Int32)), (.ref la), (.ref la)])) t
      refine XS.bipush X522.here hx rfl (hb hby at_241) ?_
      exact ht
    obtain ⟨T531, h531, locs531, sl531, v531, X531, e531, N531, W531, A531, st531⟩ := own_fs X522 hx hZ e522 f529 N522 g_la (j := (6 : Int32)) (i := 6) rfl ⟨by decide, by decide⟩ (x := (117 : Int32)) rfl rfl (by decide) (g := (mkF m 243 #[.val (.int p1), .val (.int p2), .val (.int p3), .val (.int p4), .val (.int p5), .val (.int p6), .val (.ref na), .unset, .unset, .unset, .unset, .unset, .unset, .unset, .unset, .unset, .unset, .unset] [(.int (117 : Int32)), (.int (6 : Int32)), (.ref la), (.ref la)])) rfl rfl (hb hby at_243)
    have f532 : n0 ≤ h531.size := Nat.le_trans f523 (Keep.of_wr W531).1
    have f533 : CHr Z consts_1 s.vm h0 s.vm h531 := f524.trans (CHr.wr W531 f528 f524.1)
    have f534 : Old Z n0 h531 := f525.wr W531 g_la
    have f535 : Safe Z consts_1 s.vm h531 na := Safe.wr W531 f528 f524.1 f526
    have f536 : Arv Z h531 na ak222 .char (34 : Int32) (own_ns.map Value.int) (.int (0 : Int32)) := f527.other W531 ne_na_la
    have f537 : Safe Z consts_1 s.vm h531 la := Safe.wr W531 f528 f524.1 f528
    have f538 : Arv Z h531 la ak468 .char (9 : Int32) (own_fill own_ln 9 7) (.int (0 : Int32)) := A531
    have k531 : Kt p e below m (s₁.setTop (entryFrame m #[(.int p1), (.int p2), (.int p3), (.int p4), (.int p5), (.int p6)] maxLocals)) T531 244 #[.val (.int p1), .val (.int p2), .val (.int p3), .val (.int p4), .val (.int p5), .val (.int p6), .val (.ref na), .unset, .unset, .unset, .unset, .unset, .unset, .unset, .unset, .unset, .unset, .unset] [(.ref la)] := fun t ht => k530 t (st531 t ht)
    have k539 : Kt p e below m (s₁.setTop (entryFrame m #[(.int p1), (.int p2), (.int p3), (.int p4), (.int p5), (.int p6)] maxLocals)) T531 249 #[.val (.int p1), .val (.int p2), .val (.int p3), .val (.int p4), .val (.int p5), .val (.int p6), .val (.ref na), .unset, .unset, .unset, .unset, .unset, .unset, .unset, .unset, .unset, .unset, .unset] [(.int (114 : Int32)), (.int (7 : Int32)), (.ref la), (.ref la)] := by
      intro t ht
      refine k531 t ?_
      show Steps p.tables e below (T531.setTop (mkF m 244 #[.val (.int p1), .val (.int p2), .val (.int p3), .val (.int p4), .val (.int p5), .val (.int p6), .val (.ref na), .unset, .unset, .unset, .unset, .unset, .unset, .unset, .unset, .unset, .unset, .unset] [(.ref la)])) t
      refine XS.dup X531.here hx rfl (hb hby at_244) rfl rfl ?_
      show Steps p.tables e below (T531.setTop (mkF m 245 #[.val (.int p1), .val (.int p2), .val (.int p3), .val (.int p4), .val (.int p5), .val (.int p6), .val (.ref na), .unset, .unset, .unset, .unset, .unset, .unset, .unset, .unset, .unset, .unset, .unset] [(.ref la), (.ref la)])) t
      refine XS.bipush X531.here hx rfl (hb hby at_245) ?_
      show Steps p.tables e below (T531.setTop (mkF m 247 #[.val (.int p1), .val (.int p2), .val (.int p3), .val (.int p4), .val (.int p5), .val (.int p6), .val (.ref na), .unset, .unset, .unset, .unset, .unset, .unset, .unset, .unset, .unset, .unset, .unset] [(.int (7 : Int32)), (.ref la), (.ref la)])) t
      refine XS.bipush X531.here hx rfl (hb hby at_247) ?_
      exact ht
    obtain ⟨T540, h540, locs540, sl540, v540, X540, e540, N540, W540, A540, st540⟩ := own_fs X531 hx hZ e531 f538 N531 g_la (j := (7 : Int32)) (i := 7) rfl ⟨by decide, by decide⟩ (x := (114 : Int32)) rfl rfl (by decide) (g := (mkF m 249 #[.val (.int p1), .val (.int p2), .val (.int p3), .val (.int p4), .val (.int p5), .val (.int p6), .val (.ref na), .unset, .unset, .unset, .unset, .unset, .unset, .unset, .unset, .unset, .unset, .unset] [(.int (114 : Int32)), (.int (7 : Int32)), (.ref la), (.ref la)])) rfl rfl (hb hby at_249)
    have f541 : n0 ≤ h540.size := Nat.le_trans f532 (Keep.of_wr W540).1
    have f542 : CHr Z consts_1 s.vm h0 s.vm h540 := f533.trans (CHr.wr W540 f537 f533.1)
    have f543 : Old Z n0 h540 := f534.wr W540 g_la
    have f544 : Safe Z consts_1 s.vm h540 na := Safe.wr W540 f537 f533.1 f535
    have f545 : Arv Z h540 na ak222 .char (34 : Int32) (own_ns.map Value.int) (.int (0 : Int32)) := f536.other W540 ne_na_la
    have f546 : Safe Z consts_1 s.vm h540 la := Safe.wr W540 f537 f533.1 f537
    have f547 : Arv Z h540 la ak468 .char (9 : Int32) (own_fill own_ln 9 8) (.int (0 : Int32)) := A540
    have k540 : Kt p e below m (s₁.setTop (entryFrame m #[(.int p1), (.int p2), (.int p3), (.int p4), (.int p5), (.int p6)] maxLocals)) T540 250 #[.val (.int p1), .val (.int p2), .val (.int p3), .val (.int p4), .val (.int p5), .val (.int p6), .val (.ref na), .unset, .unset, .unset, .unset, .unset, .unset, .unset, .unset, .unset, .unset, .unset] [(.ref la)] := fun t ht => k539 t (st540 t ht)
    have k548 : Kt p e below m (s₁.setTop (entryFrame m #[(.int p1), (.int p2), (.int p3), (.int p4), (.int p5), (.int p6)] maxLocals)) T540 255 #[.val (.int p1), .val (.int p2), .val (.int p3), .val (.int p4), .val (.int p5), .val (.int p6), .val (.ref na), .unset, .unset, .unset, .unset, .unset, .unset, .unset, .unset, .unset, .unset, .unset] [(.int (101 : Int32)), (.int (8 : Int32)), (.ref la), (.ref la)] := by
      intro t ht
      refine k540 t ?_
      show Steps p.tables e below (T540.setTop (mkF m 250 #[.val (.int p1), .val (.int p2), .val (.int p3), .val (.int p4), .val (.int p5), .val (.int p6), .val (.ref na), .unset, .unset, .unset, .unset, .unset, .unset, .unset, .unset, .unset, .unset, .unset] [(.ref la)])) t
      refine XS.dup X540.here hx rfl (hb hby at_250) rfl rfl ?_
      show Steps p.tables e below (T540.setTop (mkF m 251 #[.val (.int p1), .val (.int p2), .val (.int p3), .val (.int p4), .val (.int p5), .val (.int p6), .val (.ref na), .unset, .unset, .unset, .unset, .unset, .unset, .unset, .unset, .unset, .unset, .unset] [(.ref la), (.ref la)])) t
      refine XS.bipush X540.here hx rfl (hb hby at_251) ?_
      show Steps p.tables e below (T540.setTop (mkF m 253 #[.val (.int p1), .val (.int p2), .val (.int p3), .val (.int p4), .val (.int p5), .val (.int p6), .val (.ref na), .unset, .unset, .unset, .unset, .unset, .unset, .unset, .unset, .unset, .unset, .unset] [(.int (8 : Int32)), (.ref la), (.ref la)])) t
      refine XS.bipush X540.here hx rfl (hb hby at_253) ?_
      exact ht
    obtain ⟨T549, h549, locs549, sl549, v549, X549, e549, N549, W549, A549, st549⟩ := own_fs X540 hx hZ e540 f547 N540 g_la (j := (8 : Int32)) (i := 8) rfl ⟨by decide, by decide⟩ (x := (101 : Int32)) rfl rfl (by decide) (g := (mkF m 255 #[.val (.int p1), .val (.int p2), .val (.int p3), .val (.int p4), .val (.int p5), .val (.int p6), .val (.ref na), .unset, .unset, .unset, .unset, .unset, .unset, .unset, .unset, .unset, .unset, .unset] [(.int (101 : Int32)), (.int (8 : Int32)), (.ref la), (.ref la)])) rfl rfl (hb hby at_255)
    have f550 : n0 ≤ h549.size := Nat.le_trans f541 (Keep.of_wr W549).1
    have f551 : CHr Z consts_1 s.vm h0 s.vm h549 := f542.trans (CHr.wr W549 f546 f542.1)
    have f552 : Old Z n0 h549 := f543.wr W549 g_la
    have f553 : Safe Z consts_1 s.vm h549 na := Safe.wr W549 f546 f542.1 f544
    have f554 : Arv Z h549 na ak222 .char (34 : Int32) (own_ns.map Value.int) (.int (0 : Int32)) := f545.other W549 ne_na_la
    have f555 : Safe Z consts_1 s.vm h549 la := Safe.wr W549 f546 f542.1 f546
    have f556 : Arv Z h549 la ak468 .char (9 : Int32) (own_fill own_ln 9 9) (.int (0 : Int32)) := A549
    have k549 : Kt p e below m (s₁.setTop (entryFrame m #[(.int p1), (.int p2), (.int p3), (.int p4), (.int p5), (.int p6)] maxLocals)) T549 256 #[.val (.int p1), .val (.int p2), .val (.int p3), .val (.int p4), .val (.int p5), .val (.int p6), .val (.ref na), .unset, .unset, .unset, .unset, .unset, .unset, .unset, .unset, .unset, .unset, .unset] [(.ref la)] := fun t ht => k548 t (st549 t ht)
    have f557 : Arv Z h549 la ak468 .char (9 : Int32) (own_ln.map Value.int) (.int (0 : Int32)) := by rw [← own_fillN (cs := own_ln) (n := 9) rfl]; exact f556
    exact ⟨T549, h549, _, X549, e549, N549, f550, f551, f552, f553, f554, f555, f557, k549⟩
  have k558 : Kt p e below m (s₁.setTop (entryFrame m #[(.int p1), (.int p2), (.int p3), (.int p4), (.int p5), (.int p6)] maxLocals)) Tj475 265 #[.val (.int p1), .val (.int p2), .val (.int p3), .val (.int p4), .val (.int p5), .val (.int p6), .val (.ref na), .val (.ref la), .unset, .unset, .unset, .unset, .unset, .unset, .unset, .unset, .unset, .unset] [(.int ((p1 &&& (2147483647 : Int32)) % (6 : Int32)))] := by
    intro t ht
    refine kj475 t ?_
    show Steps p.tables e below (Tj475.setTop (mkF m 256 #[.val (.int p1), .val (.int p2), .val (.int p3), .val (.int p4), .val (.int p5), .val (.int p6), .val (.ref na), .unset, .unset, .unset, .unset, .unset, .unset, .unset, .unset, .unset, .unset, .unset] [(.ref la)])) t
    refine XS.astore Xj475.here hx rfl (hb hby at_256) rfl rfl (l' := #[.val (.int p1), .val (.int p2), .val (.int p3), .val (.int p4), .val (.int p5), .val (.int p6), .val (.ref na), .val (.ref la), .unset, .unset, .unset, .unset, .unset, .unset, .unset, .unset, .unset, .unset]) rfl ?_
    show Steps p.tables e below (Tj475.setTop (mkF m 258 #[.val (.int p1), .val (.int p2), .val (.int p3), .val (.int p4), .val (.int p5), .val (.int p6), .val (.ref na), .val (.ref la), .unset, .unset, .unset, .unset, .unset, .unset, .unset, .unset, .unset, .unset] [])) t
    refine XS.iloadN Xj475.here hx rfl (hb hby at_258) rfl ?_
    show Steps p.tables e below (Tj475.setTop (mkF m 259 #[.val (.int p1), .val (.int p2), .val (.int p3), .val (.int p4), .val (.int p5), .val (.int p6), .val (.ref na), .val (.ref la), .unset, .unset, .unset, .unset, .unset, .unset, .unset, .unset, .unset, .unset] [(.int p1)])) t
    refine Xj475.ldcInt hx hown (mvT hZ (hw _ (List.mem_of_getElem? (i := 1) rfl))) (g := (mkF m 259 #[.val (.int p1), .val (.int p2), .val (.int p3), .val (.int p4), .val (.int p5), .val (.int p6), .val (.ref na), .val (.ref la), .unset, .unset, .unset, .unset, .unset, .unset, .unset, .unset, .unset, .unset] [(.int p1)])) rfl (hb hby at_259) _ ?_
    show Steps p.tables e below (Tj475.setTop (mkF m 261 #[.val (.int p1), .val (.int p2), .val (.int p3), .val (.int p4), .val (.int p5), .val (.int p6), .val (.ref na), .val (.ref la), .unset, .unset, .unset, .unset, .unset, .unset, .unset, .unset, .unset, .unset] [(.int (2147483647 : Int32)), (.int p1)])) t
    refine XS.iand Xj475.here hx rfl (hb hby at_261) rfl ?_
    show Steps p.tables e below (Tj475.setTop (mkF m 262 #[.val (.int p1), .val (.int p2), .val (.int p3), .val (.int p4), .val (.int p5), .val (.int p6), .val (.ref na), .val (.ref la), .unset, .unset, .unset, .unset, .unset, .unset, .unset, .unset, .unset, .unset] [(.int (p1 &&& (2147483647 : Int32)))])) t
    refine XS.bipush Xj475.here hx rfl (hb hby at_262) ?_
    show Steps p.tables e below (Tj475.setTop (mkF m 264 #[.val (.int p1), .val (.int p2), .val (.int p3), .val (.int p4), .val (.int p5), .val (.int p6), .val (.ref na), .val (.ref la), .unset, .unset, .unset, .unset, .unset, .unset, .unset, .unset, .unset, .unset] [(.int (6 : Int32)), (.int (p1 &&& (2147483647 : Int32)))])) t
    refine iremM Xj475 hx rfl (hb hby at_264) rfl (by decide) ?_
    exact ht
  obtain ⟨nk, hnk, k559⟩ : ∃ nk : Int32, nk = ((p1 &&& (2147483647 : Int32)) % (6 : Int32)) ∧ Kt p e below m (s₁.setTop (entryFrame m #[(.int p1), (.int p2), (.int p3), (.int p4), (.int p5), (.int p6)] maxLocals)) Tj475 265 #[.val (.int p1), .val (.int p2), .val (.int p3), .val (.int p4), .val (.int p5), .val (.int p6), .val (.ref na), .val (.ref la), .unset, .unset, .unset, .unset, .unset, .unset, .unset, .unset, .unset, .unset] [(.int nk)] := ⟨_, rfl, k558⟩
  have rnp := own_mod34 p2
  have k560 : Kt p e below m (s₁.setTop (entryFrame m #[(.int p1), (.int p2), (.int p3), (.int p4), (.int p5), (.int p6)] maxLocals)) Tj475 274 #[.val (.int p1), .val (.int p2), .val (.int p3), .val (.int p4), .val (.int p5), .val (.int p6), .val (.ref na), .val (.ref la), .val (.int nk), .unset, .unset, .unset, .unset, .unset, .unset, .unset, .unset, .unset] [(.int ((p2 &&& (2147483647 : Int32)) % (34 : Int32)))] := by
    intro t ht
    refine k559 t ?_
    show Steps p.tables e below (Tj475.setTop (mkF m 265 #[.val (.int p1), .val (.int p2), .val (.int p3), .val (.int p4), .val (.int p5), .val (.int p6), .val (.ref na), .val (.ref la), .unset, .unset, .unset, .unset, .unset, .unset, .unset, .unset, .unset, .unset] [(.int nk)])) t
    refine XS.istore Xj475.here hx rfl (hb hby at_265) rfl (l' := #[.val (.int p1), .val (.int p2), .val (.int p3), .val (.int p4), .val (.int p5), .val (.int p6), .val (.ref na), .val (.ref la), .val (.int nk), .unset, .unset, .unset, .unset, .unset, .unset, .unset, .unset, .unset]) rfl ?_
    show Steps p.tables e below (Tj475.setTop (mkF m 267 #[.val (.int p1), .val (.int p2), .val (.int p3), .val (.int p4), .val (.int p5), .val (.int p6), .val (.ref na), .val (.ref la), .val (.int nk), .unset, .unset, .unset, .unset, .unset, .unset, .unset, .unset, .unset] [])) t
    refine XS.iloadN Xj475.here hx rfl (hb hby at_267) rfl ?_
    show Steps p.tables e below (Tj475.setTop (mkF m 268 #[.val (.int p1), .val (.int p2), .val (.int p3), .val (.int p4), .val (.int p5), .val (.int p6), .val (.ref na), .val (.ref la), .val (.int nk), .unset, .unset, .unset, .unset, .unset, .unset, .unset, .unset, .unset] [(.int p2)])) t
    refine Xj475.ldcInt hx hown (mvT hZ (hw _ (List.mem_of_getElem? (i := 1) rfl))) (g := (mkF m 268 #[.val (.int p1), .val (.int p2), .val (.int p3), .val (.int p4), .val (.int p5), .val (.int p6), .val (.ref na), .val (.ref la), .val (.int nk), .unset, .unset, .unset, .unset, .unset, .unset, .unset, .unset, .unset] [(.int p2)])) rfl (hb hby at_268) _ ?_
    show Steps p.tables e below (Tj475.setTop (mkF m 270 #[.val (.int p1), .val (.int p2), .val (.int p3), .val (.int p4), .val (.int p5), .val (.int p6), .val (.ref na), .val (.ref la), .val (.int nk), .unset, .unset, .unset, .unset, .unset, .unset, .unset, .unset, .unset] [(.int (2147483647 : Int32)), (.int p2)])) t
    refine XS.iand Xj475.here hx rfl (hb hby at_270) rfl ?_
    show Steps p.tables e below (Tj475.setTop (mkF m 271 #[.val (.int p1), .val (.int p2), .val (.int p3), .val (.int p4), .val (.int p5), .val (.int p6), .val (.ref na), .val (.ref la), .val (.int nk), .unset, .unset, .unset, .unset, .unset, .unset, .unset, .unset, .unset] [(.int (p2 &&& (2147483647 : Int32)))])) t
    refine XS.bipush Xj475.here hx rfl (hb hby at_271) ?_
    show Steps p.tables e below (Tj475.setTop (mkF m 273 #[.val (.int p1), .val (.int p2), .val (.int p3), .val (.int p4), .val (.int p5), .val (.int p6), .val (.ref na), .val (.ref la), .val (.int nk), .unset, .unset, .unset, .unset, .unset, .unset, .unset, .unset, .unset] [(.int (34 : Int32)), (.int (p2 &&& (2147483647 : Int32)))])) t
    refine iremM Xj475 hx rfl (hb hby at_273) rfl (by decide) ?_
    exact ht
  obtain ⟨np, hnp, k561⟩ : ∃ np : Int32, np = ((p2 &&& (2147483647 : Int32)) % (34 : Int32)) ∧ Kt p e below m (s₁.setTop (entryFrame m #[(.int p1), (.int p2), (.int p3), (.int p4), (.int p5), (.int p6)] maxLocals)) Tj475 274 #[.val (.int p1), .val (.int p2), .val (.int p3), .val (.int p4), .val (.int p5), .val (.int p6), .val (.ref na), .val (.ref la), .val (.int nk), .unset, .unset, .unset, .unset, .unset, .unset, .unset, .unset, .unset] [(.int np)] := ⟨_, rfl, k560⟩
  rw [← hnp] at rnp
  have rnc := own_m p3
  have k562 : Kt p e below m (s₁.setTop (entryFrame m #[(.int p1), (.int p2), (.int p3), (.int p4), (.int p5), (.int p6)] maxLocals)) Tj475 282 #[.val (.int p1), .val (.int p2), .val (.int p3), .val (.int p4), .val (.int p5), .val (.int p6), .val (.ref na), .val (.ref la), .val (.int nk), .val (.int np), .unset, .unset, .unset, .unset, .unset, .unset, .unset, .unset] [(.int ((p3 &&& (255 : Int32)).toUInt32.toUInt16.toUInt32.toInt32))] := by
    intro t ht
    refine k561 t ?_
    show Steps p.tables e below (Tj475.setTop (mkF m 274 #[.val (.int p1), .val (.int p2), .val (.int p3), .val (.int p4), .val (.int p5), .val (.int p6), .val (.ref na), .val (.ref la), .val (.int nk), .unset, .unset, .unset, .unset, .unset, .unset, .unset, .unset, .unset] [(.int np)])) t
    refine XS.istore Xj475.here hx rfl (hb hby at_274) rfl (l' := #[.val (.int p1), .val (.int p2), .val (.int p3), .val (.int p4), .val (.int p5), .val (.int p6), .val (.ref na), .val (.ref la), .val (.int nk), .val (.int np), .unset, .unset, .unset, .unset, .unset, .unset, .unset, .unset]) rfl ?_
    show Steps p.tables e below (Tj475.setTop (mkF m 276 #[.val (.int p1), .val (.int p2), .val (.int p3), .val (.int p4), .val (.int p5), .val (.int p6), .val (.ref na), .val (.ref la), .val (.int nk), .val (.int np), .unset, .unset, .unset, .unset, .unset, .unset, .unset, .unset] [])) t
    refine XS.iloadN Xj475.here hx rfl (hb hby at_276) rfl ?_
    show Steps p.tables e below (Tj475.setTop (mkF m 277 #[.val (.int p1), .val (.int p2), .val (.int p3), .val (.int p4), .val (.int p5), .val (.int p6), .val (.ref na), .val (.ref la), .val (.int nk), .val (.int np), .unset, .unset, .unset, .unset, .unset, .unset, .unset, .unset] [(.int p3)])) t
    refine XS.sipush Xj475.here hx rfl (hb hby at_277) ?_
    show Steps p.tables e below (Tj475.setTop (mkF m 280 #[.val (.int p1), .val (.int p2), .val (.int p3), .val (.int p4), .val (.int p5), .val (.int p6), .val (.ref na), .val (.ref la), .val (.int nk), .val (.int np), .unset, .unset, .unset, .unset, .unset, .unset, .unset, .unset] [(.int (255 : Int32)), (.int p3)])) t
    refine XS.iand Xj475.here hx rfl (hb hby at_280) rfl ?_
    show Steps p.tables e below (Tj475.setTop (mkF m 281 #[.val (.int p1), .val (.int p2), .val (.int p3), .val (.int p4), .val (.int p5), .val (.int p6), .val (.ref na), .val (.ref la), .val (.int nk), .val (.int np), .unset, .unset, .unset, .unset, .unset, .unset, .unset, .unset] [(.int (p3 &&& (255 : Int32)))])) t
    refine XS.i2c Xj475.here hx rfl (hb hby at_281) rfl ?_
    exact ht
  obtain ⟨nc, hnc, k563⟩ : ∃ nc : Int32, nc = ((p3 &&& (255 : Int32)).toUInt32.toUInt16.toUInt32.toInt32) ∧ Kt p e below m (s₁.setTop (entryFrame m #[(.int p1), (.int p2), (.int p3), (.int p4), (.int p5), (.int p6)] maxLocals)) Tj475 282 #[.val (.int p1), .val (.int p2), .val (.int p3), .val (.int p4), .val (.int p5), .val (.int p6), .val (.ref na), .val (.ref la), .val (.int nk), .val (.int np), .unset, .unset, .unset, .unset, .unset, .unset, .unset, .unset] [(.int nc)] := ⟨_, rfl, k562⟩
  rw [← hnc] at rnc
  have k564 : Kt p e below m (s₁.setTop (entryFrame m #[(.int p1), (.int p2), (.int p3), (.int p4), (.int p5), (.int p6)] maxLocals)) Tj475 286 #[.val (.int p1), .val (.int p2), .val (.int p3), .val (.int p4), .val (.int p5), .val (.int p6), .val (.ref na), .val (.ref la), .val (.int nk), .val (.int np), .val (.int nc), .unset, .unset, .unset, .unset, .unset, .unset, .unset] [(.int nk)] := by
    intro t ht
    refine k563 t ?_
    show Steps p.tables e below (Tj475.setTop (mkF m 282 #[.val (.int p1), .val (.int p2), .val (.int p3), .val (.int p4), .val (.int p5), .val (.int p6), .val (.ref na), .val (.ref la), .val (.int nk), .val (.int np), .unset, .unset, .unset, .unset, .unset, .unset, .unset, .unset] [(.int nc)])) t
    refine XS.istore Xj475.here hx rfl (hb hby at_282) rfl (l' := #[.val (.int p1), .val (.int p2), .val (.int p3), .val (.int p4), .val (.int p5), .val (.int p6), .val (.ref na), .val (.ref la), .val (.int nk), .val (.int np), .val (.int nc), .unset, .unset, .unset, .unset, .unset, .unset, .unset]) rfl ?_
    show Steps p.tables e below (Tj475.setTop (mkF m 284 #[.val (.int p1), .val (.int p2), .val (.int p3), .val (.int p4), .val (.int p5), .val (.int p6), .val (.ref na), .val (.ref la), .val (.int nk), .val (.int np), .val (.int nc), .unset, .unset, .unset, .unset, .unset, .unset, .unset] [])) t
    refine XS.iload Xj475.here hx rfl (hb hby at_284) rfl ?_
    exact ht
  obtain ⟨vmj565, Tj565, hj565, locsj565, kbj565, ok1, nv, Xj565, ej565, Nj565, zj565, fj565_0, fj565_1, fj565_2, Rj565, hSj565, hkj565, hZj565, hownj565, hpj565, kj565⟩ : ∃ (vmj565 : Vm) (Tj565 : State) (hj565 : Heap) (locsj565 : List Loc) (kbj565 : Nat) (ok1 : Int32) (nv : Value), Stand p l e room_1 (s.setVm vmj565) m #[(.int p1), (.int p2), (.int p3), (.int p4), (.int p5), (.int p6)] below meth c Tj565 locsj565 6 221 ∧ Tj565.heap = hj565 ∧ Fr n0 locsj565 ∧ n0 ≤ hj565.size ∧ Old Z n0 hj565 ∧ Arv Z hj565 la ak468 .char (9 : Int32) (own_ln.map Value.int) (.int (0 : Int32)) ∧ Safe Z consts_1 vmj565 hj565 la ∧ CHr Z consts_1 s.vm h0 vmj565 hj565 ∧ s.Since vmj565 kbj565 ∧ kbj565 ≤ hj565.size ∧ Z.Warmed39 (s.setVm vmj565).vm ∧ (s.setVm vmj565).vm.findClass "com/example/subscriptor/subscriptor/XmlSignatureIsSignaturePinLaw" = some m.cls ∧ ((nv = .null ∧ ok1 = 0) ∨ (∃ x t kb cs, nv = .ref x ∧ Exa Z hj565 x "java/lang/String" ∧ Fld Z hj565 x "java/lang/String" "coder" "B" (.int (0 : Int32)) ∧ Fld Z hj565 x "java/lang/String" "value" "[B" (.ref t) ∧ Arv Z hj565 t kb .byte (Int32.ofNat cs.length) (own_by cs) (.int (0 : Int32)) ∧ (∀ c ∈ cs, own_r c) ∧ cs.length ≤ 4000 ∧ ok1 = own_b (own_ns = cs))) ∧ Kt p e below m (s₁.setTop (entryFrame m #[(.int p1), (.int p2), (.int p3), (.int p4), (.int p5), (.int p6)] maxLocals)) Tj565 400 #[.val (.int p1), .val (.int p2), .val (.int p3), .val (.int p4), .val (.int p5), .val (.int p6), .val (.ref na), .val (.ref la), .val (.int nk), .val (.int np), .val (.int nc), .val (.int ok1), .val nv, .unset, .unset, .unset, .unset, .unset] [] := by
    by_cases hk0 : nk = (0 : Int32)
    · have k567 : Kt p e below m (s₁.setTop (entryFrame m #[(.int p1), (.int p2), (.int p3), (.int p4), (.int p5), (.int p6)] maxLocals)) Tj475 293 #[.val (.int p1), .val (.int p2), .val (.int p3), .val (.int p4), .val (.int p5), .val (.int p6), .val (.ref na), .val (.ref la), .val (.int nk), .val (.int np), .val (.int nc), .unset, .unset, .unset, .unset, .unset, .unset, .unset] [(.int np), (.ref na)] := by
        intro t ht
        refine k564 t ?_
        show Steps p.tables e below (Tj475.setTop (mkF m 286 #[.val (.int p1), .val (.int p2), .val (.int p3), .val (.int p4), .val (.int p5), .val (.int p6), .val (.ref na), .val (.ref la), .val (.int nk), .val (.int np), .val (.int nc), .unset, .unset, .unset, .unset, .unset, .unset, .unset] [(.int nk)])) t
        refine XS.ifNo Xj475.here hx rfl (hb hby at_286) rfl ((if0 _ _).trans (teq hk0).2) ?_
        show Steps p.tables e below (Tj475.setTop (mkF m 289 #[.val (.int p1), .val (.int p2), .val (.int p3), .val (.int p4), .val (.int p5), .val (.int p6), .val (.ref na), .val (.ref la), .val (.int nk), .val (.int np), .val (.int nc), .unset, .unset, .unset, .unset, .unset, .unset, .unset] [])) t
        refine XS.aload Xj475.here hx rfl (hb hby at_289) rfl rfl ?_
        show Steps p.tables e below (Tj475.setTop (mkF m 291 #[.val (.int p1), .val (.int p2), .val (.int p3), .val (.int p4), .val (.int p5), .val (.int p6), .val (.ref na), .val (.ref la), .val (.int nk), .val (.int np), .val (.int nc), .unset, .unset, .unset, .unset, .unset, .unset, .unset] [(.ref na)])) t
        refine XS.iload Xj475.here hx rfl (hb hby at_291) rfl ?_
        exact ht
      obtain ⟨cl566, Ar566, qc566, Sz566, Nn566, Hh566, Gg566⟩ := id fj475_4
      have hi566 : np.toNatClampNeg < 34 := own_nat rnp own_34
      have hin566 : ¬ (np < 0 ∨ cl566.slots.size ≤ (np).toNatClampNeg) := inb_of Sz566 rnp
      have hat566 : cl566.slots[(np).toNatClampNeg]? = some (.int (own_ns.getD np.toNatClampNeg 0)) := Hh566.at hin566 (own_get own_ns _)
      have k568 : Kt p e below m (s₁.setTop (entryFrame m #[(.int p1), (.int p2), (.int p3), (.int p4), (.int p5), (.int p6)] maxLocals)) Tj475 296 #[.val (.int p1), .val (.int p2), .val (.int p3), .val (.int p4), .val (.int p5), .val (.int p6), .val (.ref na), .val (.ref la), .val (.int nk), .val (.int np), .val (.int nc), .unset, .unset, .unset, .unset, .unset, .unset, .unset] [(.int nc), (.int (own_ns.getD np.toNatClampNeg 0))] := by
        intro t ht
        refine k567 t ?_
        show Steps p.tables e below (Tj475.setTop (mkF m 293 #[.val (.int p1), .val (.int p2), .val (.int p3), .val (.int p4), .val (.int p5), .val (.int p6), .val (.ref na), .val (.ref la), .val (.int nk), .val (.int np), .val (.int nc), .unset, .unset, .unset, .unset, .unset, .unset, .unset] [(.int np), (.ref na)])) t
        refine Xj475.caload hx (j := np) (v := (.int (own_ns.getD np.toNatClampNeg 0))) (by rw [ej475]; exact Ar566.1) (State.isArrayOf_alike hZ.alike Ar566.2.1) Ar566.2.2 hin566 hat566 (g := (mkF m 293 #[.val (.int p1), .val (.int p2), .val (.int p3), .val (.int p4), .val (.int p5), .val (.int p6), .val (.ref na), .val (.ref la), .val (.int nk), .val (.int np), .val (.int nc), .unset, .unset, .unset, .unset, .unset, .unset, .unset] [(.int np), (.ref na)])) rfl rfl (hb hby at_293) _ ?_
        show Steps p.tables e below (Tj475.setTop (mkF m 294 #[.val (.int p1), .val (.int p2), .val (.int p3), .val (.int p4), .val (.int p5), .val (.int p6), .val (.ref na), .val (.ref la), .val (.int nk), .val (.int np), .val (.int nc), .unset, .unset, .unset, .unset, .unset, .unset, .unset] [(.int (own_ns.getD np.toNatClampNeg 0))])) t
        refine XS.iload Xj475.here hx rfl (hb hby at_294) rfl ?_
        exact ht
      obtain ⟨zb, hp569, k569⟩ : ∃ zb : Int32, (zb = own_b (own_ns.getD np.toNatClampNeg 0 = nc)) ∧ Kt p e below m (s₁.setTop (entryFrame m #[(.int p1), (.int p2), (.int p3), (.int p4), (.int p5), (.int p6)] maxLocals)) Tj475 304 #[.val (.int p1), .val (.int p2), .val (.int p3), .val (.int p4), .val (.int p5), .val (.int p6), .val (.ref na), .val (.ref la), .val (.int nk), .val (.int np), .val (.int nc), .unset, .unset, .unset, .unset, .unset, .unset, .unset] [(.int zb)] := by
        by_cases hj570 : (own_ns.getD np.toNatClampNeg 0) = nc
        · have k571 : Kt p e below m (s₁.setTop (entryFrame m #[(.int p1), (.int p2), (.int p3), (.int p4), (.int p5), (.int p6)] maxLocals)) Tj475 304 #[.val (.int p1), .val (.int p2), .val (.int p3), .val (.int p4), .val (.int p5), .val (.int p6), .val (.ref na), .val (.ref la), .val (.int nk), .val (.int np), .val (.int nc), .unset, .unset, .unset, .unset, .unset, .unset, .unset] [(.int (1 : Int32))] := by
            intro t ht
            refine k568 t ?_
            show Steps p.tables e below (Tj475.setTop (mkF m 296 #[.val (.int p1), .val (.int p2), .val (.int p3), .val (.int p4), .val (.int p5), .val (.int p6), .val (.ref na), .val (.ref la), .val (.int nk), .val (.int np), .val (.int nc), .unset, .unset, .unset, .unset, .unset, .unset, .unset] [(.int nc), (.int (own_ns.getD np.toNatClampNeg 0))])) t
            refine XS.icmpNo Xj475.here hx rfl (hb hby at_296) rfl (teq hj570).2 ?_
            show Steps p.tables e below (Tj475.setTop (mkF m 299 #[.val (.int p1), .val (.int p2), .val (.int p3), .val (.int p4), .val (.int p5), .val (.int p6), .val (.ref na), .val (.ref la), .val (.int nk), .val (.int np), .val (.int nc), .unset, .unset, .unset, .unset, .unset, .unset, .unset] [])) t
            refine XS.iconst Xj475.here hx rfl (hb hby at_299) ?_
            show Steps p.tables e below (Tj475.setTop (mkF m 300 #[.val (.int p1), .val (.int p2), .val (.int p3), .val (.int p4), .val (.int p5), .val (.int p6), .val (.ref na), .val (.ref la), .val (.int nk), .val (.int np), .val (.int nc), .unset, .unset, .unset, .unset, .unset, .unset, .unset] [(.int (1 : Int32))])) t
            refine XS.goto Xj475.here hx rfl (pc0 := 300) (pc' := 304) rfl (hb hby at_300) (by decide) (by decide) ?_
            exact ht
          exact ⟨(1 : Int32), (own_b1 hj570), k571⟩
        · have k572 : Kt p e below m (s₁.setTop (entryFrame m #[(.int p1), (.int p2), (.int p3), (.int p4), (.int p5), (.int p6)] maxLocals)) Tj475 304 #[.val (.int p1), .val (.int p2), .val (.int p3), .val (.int p4), .val (.int p5), .val (.int p6), .val (.ref na), .val (.ref la), .val (.int nk), .val (.int np), .val (.int nc), .unset, .unset, .unset, .unset, .unset, .unset, .unset] [(.int (0 : Int32))] := by
            intro t ht
            refine k568 t ?_
            show Steps p.tables e below (Tj475.setTop (mkF m 296 #[.val (.int p1), .val (.int p2), .val (.int p3), .val (.int p4), .val (.int p5), .val (.int p6), .val (.ref na), .val (.ref la), .val (.int nk), .val (.int np), .val (.int nc), .unset, .unset, .unset, .unset, .unset, .unset, .unset] [(.int nc), (.int (own_ns.getD np.toNatClampNeg 0))])) t
            refine XS.icmpYes Xj475.here hx rfl (pc0 := 296) (pc' := 303) rfl (hb hby at_296) rfl (feq hj570).2 (by decide) (by decide) ?_
            show Steps p.tables e below (Tj475.setTop (mkF m 303 #[.val (.int p1), .val (.int p2), .val (.int p3), .val (.int p4), .val (.int p5), .val (.int p6), .val (.ref na), .val (.ref la), .val (.int nk), .val (.int np), .val (.int nc), .unset, .unset, .unset, .unset, .unset, .unset, .unset] [])) t
            refine XS.iconst Xj475.here hx rfl (hb hby at_303) ?_
            exact ht
          exact ⟨(0 : Int32), (own_b0 hj570), k572⟩
      have k573 : Kt p e below m (s₁.setTop (entryFrame m #[(.int p1), (.int p2), (.int p3), (.int p4), (.int p5), (.int p6)] maxLocals)) Tj475 312 #[.val (.int p1), .val (.int p2), .val (.int p3), .val (.int p4), .val (.int p5), .val (.int p6), .val (.ref na), .val (.ref la), .val (.int nk), .val (.int np), .val (.int nc), .val (.int zb), .unset, .unset, .unset, .unset, .unset, .unset] [(.int nc), (.int np), (.ref na)] := by
        intro t ht
        refine k569 t ?_
        show Steps p.tables e below (Tj475.setTop (mkF m 304 #[.val (.int p1), .val (.int p2), .val (.int p3), .val (.int p4), .val (.int p5), .val (.int p6), .val (.ref na), .val (.ref la), .val (.int nk), .val (.int np), .val (.int nc), .unset, .unset, .unset, .unset, .unset, .unset, .unset] [(.int zb)])) t
        refine XS.istore Xj475.here hx rfl (hb hby at_304) rfl (l' := #[.val (.int p1), .val (.int p2), .val (.int p3), .val (.int p4), .val (.int p5), .val (.int p6), .val (.ref na), .val (.ref la), .val (.int nk), .val (.int np), .val (.int nc), .val (.int zb), .unset, .unset, .unset, .unset, .unset, .unset]) rfl ?_
        show Steps p.tables e below (Tj475.setTop (mkF m 306 #[.val (.int p1), .val (.int p2), .val (.int p3), .val (.int p4), .val (.int p5), .val (.int p6), .val (.ref na), .val (.ref la), .val (.int nk), .val (.int np), .val (.int nc), .val (.int zb), .unset, .unset, .unset, .unset, .unset, .unset] [])) t
        refine XS.aload Xj475.here hx rfl (hb hby at_306) rfl rfl ?_
        show Steps p.tables e below (Tj475.setTop (mkF m 308 #[.val (.int p1), .val (.int p2), .val (.int p3), .val (.int p4), .val (.int p5), .val (.int p6), .val (.ref na), .val (.ref la), .val (.int nk), .val (.int np), .val (.int nc), .val (.int zb), .unset, .unset, .unset, .unset, .unset, .unset] [(.ref na)])) t
        refine XS.iload Xj475.here hx rfl (hb hby at_308) rfl ?_
        show Steps p.tables e below (Tj475.setTop (mkF m 310 #[.val (.int p1), .val (.int p2), .val (.int p3), .val (.int p4), .val (.int p5), .val (.int p6), .val (.ref na), .val (.ref la), .val (.int nk), .val (.int np), .val (.int nc), .val (.int zb), .unset, .unset, .unset, .unset, .unset, .unset] [(.int np), (.ref na)])) t
        refine XS.iload Xj475.here hx rfl (hb hby at_310) rfl ?_
        exact ht
      obtain ⟨T574, h574, X574, e574, W574, st574⟩ := stC Xj475 hx hZ ej475 Ar566 (j := np) hin566 (g := (mkF m 312 #[.val (.int p1), .val (.int p2), .val (.int p3), .val (.int p4), .val (.int p5), .val (.int p6), .val (.ref na), .val (.ref la), .val (.int nk), .val (.int np), .val (.int nc), .val (.int zb), .unset, .unset, .unset, .unset, .unset, .unset] [(.int nc), (.int np), (.ref na)])) rfl rfl (hb hby at_312)
      have N574 := Fr.snoc X574 Nj475 g_na
      have f575 : n0 ≤ h574.size := Nat.le_trans fj475_0 (Keep.of_wr W574).1
      have f576 : CHr Z consts_1 s.vm h0 s.vm h574 := fj475_1.trans (CHr.wr W574 fj475_3 fj475_1.1)
      have f577 : Old Z n0 h574 := fj475_2.wr W574 g_na
      have f578 : Safe Z consts_1 s.vm h574 na := Safe.wr W574 fj475_3 fj475_1.1 fj475_3
      have f579 : Arv Z h574 na ak222 .char (34 : Int32) ((own_ns.set np.toNatClampNeg nc).map Value.int) (.int (0 : Int32)) := by rw [← own_set]; have q := Arv.set Ar566 qc566 Sz566 Nn566 Hh566 Gg566 (fits_nar_char _) W574 _ rfl (by rw [List.length_map]; exact hi566); rw [own_nar rnc] at q; exact q
      have f580 : Safe Z consts_1 s.vm h574 la := Safe.wr W574 fj475_3 fj475_1.1 fj475_5
      have f581 : Arv Z h574 la ak468 .char (9 : Int32) (own_ln.map Value.int) (.int (0 : Int32)) := fj475_6.other W574 ne_na_la.symm
      have k574 : Kt p e below m (s₁.setTop (entryFrame m #[(.int p1), (.int p2), (.int p3), (.int p4), (.int p5), (.int p6)] maxLocals)) T574 313 #[.val (.int p1), .val (.int p2), .val (.int p3), .val (.int p4), .val (.int p5), .val (.int p6), .val (.ref na), .val (.ref la), .val (.int nk), .val (.int np), .val (.int nc), .val (.int zb), .unset, .unset, .unset, .unset, .unset, .unset] [] := fun t ht => k573 t (st574 t ht)
      obtain ⟨T582, h582, X582, e582, E582, A582, D582, -, st582⟩ := newO X574 hx hZ hown (hw _ (List.mem_of_getElem? (i := 2) rfl)) (hw _ (List.mem_of_getElem? (i := 3) rfl)) (hw _ (List.mem_of_getElem? (i := 4) rfl)) e574 (g := (mkF m 313 #[.val (.int p1), .val (.int p2), .val (.int p3), .val (.int p4), .val (.int p5), .val (.int p6), .val (.ref na), .val (.ref la), .val (.int nk), .val (.int np), .val (.int nc), .val (.int zb), .unset, .unset, .unset, .unset, .unset, .unset] [])) rfl (hb hby at_313) (by decide) (by decide)
      obtain ⟨sx, q582⟩ : ∃ z, z = h574.size := ⟨_, rfl⟩
      have ne_na_sx : na ≠ sx := by rw [q582]; exact Nat.ne_of_lt f579.lt
      have ne_la_sx : la ≠ sx := by rw [q582]; exact Nat.ne_of_lt f581.lt
      have g_sx : n0 ≤ sx := by rw [q582]; exact f575
      rw [← q582] at A582 D582 st582
      have f583 : n0 ≤ h582.size := Nat.le_trans f575 E582.1
      have f584 : CHr Z consts_1 s.vm h0 s.vm h582 := f576.trans (CHr.ext E582 f576.1)
      have f585 : Old Z n0 h582 := f577.ext E582
      have f586 : Safe Z consts_1 s.vm h582 na := f578.ext E582 f576.1
      have f587 : Arv Z h582 na ak222 .char (34 : Int32) ((own_ns.set np.toNatClampNeg nc).map Value.int) (.int (0 : Int32)) := f579.ext E582
      have f588 : Safe Z consts_1 s.vm h582 la := f580.ext E582 f576.1
      have f589 : Arv Z h582 la ak468 .char (9 : Int32) (own_ln.map Value.int) (.int (0 : Int32)) := f581.ext E582
      have Sf582 : Safe Z consts_1 s.vm h582 sx := Safe.ext E582 f576.1 (Safe.new (by rw [q582]; exact Nat.le_refl _))
      have f582 : Exa Z h582 sx "java/lang/String" := A582
      have f590 : Fld Z h582 sx "java/lang/String" "coder" "B" (.int (0 : Int32)) := D582 (Or.inr (hw _ (List.mem_of_getElem? (i := 28) rfl))) (ty := .byte) (by decide)
      have f591 : Fld Z h582 sx "java/lang/String" "value" "[B" .null := D582 (Or.inr (hw _ (List.mem_of_getElem? (i := 30) rfl))) (ty := (.array .byte)) (by decide)
      have k582 : Kt p e below m (s₁.setTop (entryFrame m #[(.int p1), (.int p2), (.int p3), (.int p4), (.int p5), (.int p6)] maxLocals)) T582 316 #[.val (.int p1), .val (.int p2), .val (.int p3), .val (.int p4), .val (.int p5), .val (.int p6), .val (.ref na), .val (.ref la), .val (.int nk), .val (.int np), .val (.int nc), .val (.int zb), .unset, .unset, .unset, .unset, .unset, .unset] [(.ref sx)] := fun t ht => k574 t (st582 t ht)
      have hp574 : ∀ c ∈ (own_ns.set np.toNatClampNeg nc), ¬ c < 0 ∧ ¬ (255 : Int32) < c := own_setr own_ns_r rnc
      have k592 : Kt p e below m (s₁.setTop (entryFrame m #[(.int p1), (.int p2), (.int p3), (.int p4), (.int p5), (.int p6)] maxLocals)) T582 319 #[.val (.int p1), .val (.int p2), .val (.int p3), .val (.int p4), .val (.int p5), .val (.int p6), .val (.ref na), .val (.ref la), .val (.int nk), .val (.int np), .val (.int nc), .val (.int zb), .unset, .unset, .unset, .unset, .unset, .unset] [(.ref na), (.ref sx), (.ref sx)] := by
        intro t ht
        refine k582 t ?_
        show Steps p.tables e below (T582.setTop (mkF m 316 #[.val (.int p1), .val (.int p2), .val (.int p3), .val (.int p4), .val (.int p5), .val (.int p6), .val (.ref na), .val (.ref la), .val (.int nk), .val (.int np), .val (.int nc), .val (.int zb), .unset, .unset, .unset, .unset, .unset, .unset] [(.ref sx)])) t
        refine XS.dup X582.here hx rfl (hb hby at_316) rfl rfl ?_
        show Steps p.tables e below (T582.setTop (mkF m 317 #[.val (.int p1), .val (.int p2), .val (.int p3), .val (.int p4), .val (.int p5), .val (.int p6), .val (.ref na), .val (.ref la), .val (.int nk), .val (.int np), .val (.int nc), .val (.int zb), .unset, .unset, .unset, .unset, .unset, .unset] [(.ref sx), (.ref sx)])) t
        refine XS.aload X582.here hx rfl (hb hby at_317) rfl rfl ?_
        exact ht
      obtain ⟨_, _, ⟨T593, L593, c593, n593⟩, -, X593, ⟨Lc593, hQ593, l593, y593, z593⟩, st593⟩ := X582.specialBack hx (y := (⟨"java/lang/String", "<init>", "([C)V"⟩ : MethodName)) rfl hown (mvT hZ (hw _ (List.mem_of_getElem? (i := 5) rfl))) (mvT hZ (hw _ (List.mem_of_getElem? (i := 6) rfl))) (mvT hZ (hw _ (List.mem_of_getElem? (i := 7) rfl))) (by decide) (StrChars.Road.backV (W := 1) hZ hws (kI := 4) (hw _ (List.mem_of_getElem? (i := 3) rfl)) (cs := (own_ns.set np.toNatClampNeg nc)) (bs := (own_ns.set np.toNatClampNeg nc).map (fun c => c.toInt8.toInt32)) (n := 34) g_sx f583 f582 f591 f590 f587 (S1.ext f585.2) P5 (by rw [List.length_set]; rfl) rfl (by decide) (by decide) hp574 rfl (by decide) (by decide)) (g := (mkF m 319 #[.val (.int p1), .val (.int p2), .val (.int p3), .val (.int p4), .val (.int p5), .val (.int p6), .val (.ref na), .val (.ref la), .val (.int nk), .val (.int np), .val (.int nc), .val (.int zb), .unset, .unset, .unset, .unset, .unset, .unset] [(.ref na), (.ref sx), (.ref sx)])) rfl (by rw [hml]; rfl) (Steps.refl _) (a := sx) (argsL := [(.ref na)]) (rest := [(.ref sx)]) (lenOf pd_9 rfl) rfl (by show 2 * 0 + _ ≤ _; exact Nat.le_of_eq rfl) (hb hby at_319) (fun _ _ => ⟨rfl, e582, (by decide : 3 + 1 ≤ _), (by decide : 47 + 34 ≤ _)⟩)
      dsimp only [Pt.U, Pt.locs, Pt.cells, Pt.slots] at X593 l593 y593 z593 st593 hQ593
      subst l593 y593 z593
      obtain ⟨rfl, Nq593, Kp593, Ev593, Fc593, t593, kb593, -, -, -, Fv593, Va593⟩ := hQ593
      have N593 := Fr.app N574 Nq593
      have k593 : Kt p e below m (s₁.setTop (entryFrame m #[(.int p1), (.int p2), (.int p3), (.int p4), (.int p5), (.int p6)] maxLocals)) T593 322 #[.val (.int p1), .val (.int p2), .val (.int p3), .val (.int p4), .val (.int p5), .val (.int p6), .val (.ref na), .val (.ref la), .val (.int nk), .val (.int np), .val (.int nc), .val (.int zb), .unset, .unset, .unset, .unset, .unset, .unset] [(.ref sx)] := fun t ht => k592 t (st593.trans ht)
      have f594 : n0 ≤ T593.heap.size := Nat.le_trans f583 Kp593.1
      have f595 : CHr Z consts_1 s.vm h0 s.vm T593.heap := f584.trans (CHr.keep Kp593 (sfS Sf582 sf0) f584.1)
      have f596 : Old Z n0 T593.heap := f585.keep Kp593 (allS g_sx all0)
      have f597 : Safe Z consts_1 s.vm T593.heap na := Safe.keep Kp593 (sfS Sf582 sf0) f584.1 f586
      have f598 : Arv Z T593.heap na ak222 .char (34 : Int32) ((own_ns.set np.toNatClampNeg nc).map Value.int) (.int (0 : Int32)) := f587.keep Kp593 (ninS ne_na_sx nin0)
      have f599 : Safe Z consts_1 s.vm T593.heap la := Safe.keep Kp593 (sfS Sf582 sf0) f584.1 f588
      have f600 : Arv Z T593.heap la ak468 .char (9 : Int32) (own_ln.map Value.int) (.int (0 : Int32)) := f589.keep Kp593 (ninS ne_la_sx nin0)
      have f601 : Safe Z consts_1 s.vm T593.heap sx := Safe.keep Kp593 (sfS Sf582 sf0) f584.1 Sf582
      have f602 : Exa Z T593.heap sx "java/lang/String" := f582.keep Kp593
      have hl593 : (own_ns.set np.toNatClampNeg nc).length = 34 := by rw [List.length_set]; rfl
      have k605 : Kt p e below m (s₁.setTop (entryFrame m #[(.int p1), (.int p2), (.int p3), (.int p4), (.int p5), (.int p6)] maxLocals)) T593 400 #[.val (.int p1), .val (.int p2), .val (.int p3), .val (.int p4), .val (.int p5), .val (.int p6), .val (.ref na), .val (.ref la), .val (.int nk), .val (.int np), .val (.int nc), .val (.int zb), .val (.ref sx), .unset, .unset, .unset, .unset, .unset] [] := by
        intro t ht
        refine k593 t ?_
        show Steps p.tables e below (T593.setTop (mkF m 322 #[.val (.int p1), .val (.int p2), .val (.int p3), .val (.int p4), .val (.int p5), .val (.int p6), .val (.ref na), .val (.ref la), .val (.int nk), .val (.int np), .val (.int nc), .val (.int zb), .unset, .unset, .unset, .unset, .unset, .unset] [(.ref sx)])) t
        refine XS.astore X593.here hx rfl (hb hby at_322) rfl rfl (l' := #[.val (.int p1), .val (.int p2), .val (.int p3), .val (.int p4), .val (.int p5), .val (.int p6), .val (.ref na), .val (.ref la), .val (.int nk), .val (.int np), .val (.int nc), .val (.int zb), .val (.ref sx), .unset, .unset, .unset, .unset, .unset]) rfl ?_
        show Steps p.tables e below (T593.setTop (mkF m 324 #[.val (.int p1), .val (.int p2), .val (.int p3), .val (.int p4), .val (.int p5), .val (.int p6), .val (.ref na), .val (.ref la), .val (.int nk), .val (.int np), .val (.int nc), .val (.int zb), .val (.ref sx), .unset, .unset, .unset, .unset, .unset] [])) t
        refine XS.goto X593.here hx rfl (pc0 := 324) (pc' := 400) rfl (hb hby at_324) (by decide) (by decide) ?_
        exact ht
      exact ⟨s.vm, T593, T593.heap, _, 0, zb, (.ref sx), X593.mono (by decide) (by decide), rfl, N593, f594, f596, f600, f599, f595, ((State.WarmedH.refl s).since 0), (Nat.zero_le _), hZ, hown, Or.inr ⟨sx, t593, kb593, (own_ns.set np.toNatClampNeg nc), rfl, Ev593, Fc593, Fv593, by rw [hl593]; exact Va593, hp574, by rw [hl593]; decide, hp569.trans (own_bn (own_sete hi566).symm)⟩, k605⟩
    · have k606 : Kt p e below m (s₁.setTop (entryFrame m #[(.int p1), (.int p2), (.int p3), (.int p4), (.int p5), (.int p6)] maxLocals)) Tj475 330 #[.val (.int p1), .val (.int p2), .val (.int p3), .val (.int p4), .val (.int p5), .val (.int p6), .val (.ref na), .val (.ref la), .val (.int nk), .val (.int np), .val (.int nc), .unset, .unset, .unset, .unset, .unset, .unset, .unset] [(.int (1 : Int32)), (.int nk)] := by
        intro t ht
        refine k564 t ?_
        show Steps p.tables e below (Tj475.setTop (mkF m 286 #[.val (.int p1), .val (.int p2), .val (.int p3), .val (.int p4), .val (.int p5), .val (.int p6), .val (.ref na), .val (.ref la), .val (.int nk), .val (.int np), .val (.int nc), .unset, .unset, .unset, .unset, .unset, .unset, .unset] [(.int nk)])) t
        refine XS.ifYes Xj475.here hx rfl (pc0 := 286) (pc' := 327) rfl (hb hby at_286) rfl ((if0 _ _).trans (feq hk0).2) (by decide) (by decide) ?_
        show Steps p.tables e below (Tj475.setTop (mkF m 327 #[.val (.int p1), .val (.int p2), .val (.int p3), .val (.int p4), .val (.int p5), .val (.int p6), .val (.ref na), .val (.ref la), .val (.int nk), .val (.int np), .val (.int nc), .unset, .unset, .unset, .unset, .unset, .unset, .unset] [])) t
        refine XS.iload Xj475.here hx rfl (hb hby at_327) rfl ?_
        show Steps p.tables e below (Tj475.setTop (mkF m 329 #[.val (.int p1), .val (.int p2), .val (.int p3), .val (.int p4), .val (.int p5), .val (.int p6), .val (.ref na), .val (.ref la), .val (.int nk), .val (.int np), .val (.int nc), .unset, .unset, .unset, .unset, .unset, .unset, .unset] [(.int nk)])) t
        refine XS.iconst Xj475.here hx rfl (hb hby at_329) ?_
        exact ht
      by_cases hk1 : nk = (1 : Int32)
      · have k607 : Kt p e below m (s₁.setTop (entryFrame m #[(.int p1), (.int p2), (.int p3), (.int p4), (.int p5), (.int p6)] maxLocals)) Tj475 400 #[.val (.int p1), .val (.int p2), .val (.int p3), .val (.int p4), .val (.int p5), .val (.int p6), .val (.ref na), .val (.ref la), .val (.int nk), .val (.int np), .val (.int nc), .val (.int (0 : Int32)), .val .null, .unset, .unset, .unset, .unset, .unset] [] := by
          intro t ht
          refine k606 t ?_
          show Steps p.tables e below (Tj475.setTop (mkF m 330 #[.val (.int p1), .val (.int p2), .val (.int p3), .val (.int p4), .val (.int p5), .val (.int p6), .val (.ref na), .val (.ref la), .val (.int nk), .val (.int np), .val (.int nc), .unset, .unset, .unset, .unset, .unset, .unset, .unset] [(.int (1 : Int32)), (.int nk)])) t
          refine XS.icmpNo Xj475.here hx rfl (hb hby at_330) rfl (teq hk1).2 ?_
          show Steps p.tables e below (Tj475.setTop (mkF m 333 #[.val (.int p1), .val (.int p2), .val (.int p3), .val (.int p4), .val (.int p5), .val (.int p6), .val (.ref na), .val (.ref la), .val (.int nk), .val (.int np), .val (.int nc), .unset, .unset, .unset, .unset, .unset, .unset, .unset] [])) t
          refine XS.iconst Xj475.here hx rfl (hb hby at_333) ?_
          show Steps p.tables e below (Tj475.setTop (mkF m 334 #[.val (.int p1), .val (.int p2), .val (.int p3), .val (.int p4), .val (.int p5), .val (.int p6), .val (.ref na), .val (.ref la), .val (.int nk), .val (.int np), .val (.int nc), .unset, .unset, .unset, .unset, .unset, .unset, .unset] [(.int (0 : Int32))])) t
          refine XS.istore Xj475.here hx rfl (hb hby at_334) rfl (l' := #[.val (.int p1), .val (.int p2), .val (.int p3), .val (.int p4), .val (.int p5), .val (.int p6), .val (.ref na), .val (.ref la), .val (.int nk), .val (.int np), .val (.int nc), .val (.int (0 : Int32)), .unset, .unset, .unset, .unset, .unset, .unset]) rfl ?_
          show Steps p.tables e below (Tj475.setTop (mkF m 336 #[.val (.int p1), .val (.int p2), .val (.int p3), .val (.int p4), .val (.int p5), .val (.int p6), .val (.ref na), .val (.ref la), .val (.int nk), .val (.int np), .val (.int nc), .val (.int (0 : Int32)), .unset, .unset, .unset, .unset, .unset, .unset] [])) t
          refine XS.aconstNull Xj475.here hx rfl (hb hby at_336) ?_
          show Steps p.tables e below (Tj475.setTop (mkF m 337 #[.val (.int p1), .val (.int p2), .val (.int p3), .val (.int p4), .val (.int p5), .val (.int p6), .val (.ref na), .val (.ref la), .val (.int nk), .val (.int np), .val (.int nc), .val (.int (0 : Int32)), .unset, .unset, .unset, .unset, .unset, .unset] [.null])) t
          refine XS.astore Xj475.here hx rfl (hb hby at_337) rfl rfl (l' := #[.val (.int p1), .val (.int p2), .val (.int p3), .val (.int p4), .val (.int p5), .val (.int p6), .val (.ref na), .val (.ref la), .val (.int nk), .val (.int np), .val (.int nc), .val (.int (0 : Int32)), .val .null, .unset, .unset, .unset, .unset, .unset]) rfl ?_
          show Steps p.tables e below (Tj475.setTop (mkF m 339 #[.val (.int p1), .val (.int p2), .val (.int p3), .val (.int p4), .val (.int p5), .val (.int p6), .val (.ref na), .val (.ref la), .val (.int nk), .val (.int np), .val (.int nc), .val (.int (0 : Int32)), .val .null, .unset, .unset, .unset, .unset, .unset] [])) t
          refine XS.goto Xj475.here hx rfl (pc0 := 339) (pc' := 400) rfl (hb hby at_339) (by decide) (by decide) ?_
          exact ht
        exact ⟨s.vm, Tj475, hj475, _, 0, (0 : Int32), .null, Xj475.mono (by decide) (by decide), ej475, Nj475, fj475_0, fj475_2, fj475_6, fj475_5, fj475_1, ((State.WarmedH.refl s).since 0), (Nat.zero_le _), hZ, hown, Or.inl ⟨rfl, rfl⟩, k607⟩
      · have k608 : Kt p e below m (s₁.setTop (entryFrame m #[(.int p1), (.int p2), (.int p3), (.int p4), (.int p5), (.int p6)] maxLocals)) Tj475 345 #[.val (.int p1), .val (.int p2), .val (.int p3), .val (.int p4), .val (.int p5), .val (.int p6), .val (.ref na), .val (.ref la), .val (.int nk), .val (.int np), .val (.int nc), .unset, .unset, .unset, .unset, .unset, .unset, .unset] [(.int (2 : Int32)), (.int nk)] := by
          intro t ht
          refine k606 t ?_
          show Steps p.tables e below (Tj475.setTop (mkF m 330 #[.val (.int p1), .val (.int p2), .val (.int p3), .val (.int p4), .val (.int p5), .val (.int p6), .val (.ref na), .val (.ref la), .val (.int nk), .val (.int np), .val (.int nc), .unset, .unset, .unset, .unset, .unset, .unset, .unset] [(.int (1 : Int32)), (.int nk)])) t
          refine XS.icmpYes Xj475.here hx rfl (pc0 := 330) (pc' := 342) rfl (hb hby at_330) rfl (feq hk1).2 (by decide) (by decide) ?_
          show Steps p.tables e below (Tj475.setTop (mkF m 342 #[.val (.int p1), .val (.int p2), .val (.int p3), .val (.int p4), .val (.int p5), .val (.int p6), .val (.ref na), .val (.ref la), .val (.int nk), .val (.int np), .val (.int nc), .unset, .unset, .unset, .unset, .unset, .unset, .unset] [])) t
          refine XS.iload Xj475.here hx rfl (hb hby at_342) rfl ?_
          show Steps p.tables e below (Tj475.setTop (mkF m 344 #[.val (.int p1), .val (.int p2), .val (.int p3), .val (.int p4), .val (.int p5), .val (.int p6), .val (.ref na), .val (.ref la), .val (.int nk), .val (.int np), .val (.int nc), .unset, .unset, .unset, .unset, .unset, .unset, .unset] [(.int nk)])) t
          refine XS.iconst Xj475.here hx rfl (hb hby at_344) ?_
          exact ht
        by_cases hk2 : nk = (2 : Int32)
        · have k609 : Kt p e below m (s₁.setTop (entryFrame m #[(.int p1), (.int p2), (.int p3), (.int p4), (.int p5), (.int p6)] maxLocals)) Tj475 353 #[.val (.int p1), .val (.int p2), .val (.int p3), .val (.int p4), .val (.int p5), .val (.int p6), .val (.ref na), .val (.ref la), .val (.int nk), .val (.int np), .val (.int nc), .val (.int (0 : Int32)), .unset, .unset, .unset, .unset, .unset, .unset] [(.int nc)] := by
            intro t ht
            refine k608 t ?_
            show Steps p.tables e below (Tj475.setTop (mkF m 345 #[.val (.int p1), .val (.int p2), .val (.int p3), .val (.int p4), .val (.int p5), .val (.int p6), .val (.ref na), .val (.ref la), .val (.int nk), .val (.int np), .val (.int nc), .unset, .unset, .unset, .unset, .unset, .unset, .unset] [(.int (2 : Int32)), (.int nk)])) t
            refine XS.icmpNo Xj475.here hx rfl (hb hby at_345) rfl (teq hk2).2 ?_
            show Steps p.tables e below (Tj475.setTop (mkF m 348 #[.val (.int p1), .val (.int p2), .val (.int p3), .val (.int p4), .val (.int p5), .val (.int p6), .val (.ref na), .val (.ref la), .val (.int nk), .val (.int np), .val (.int nc), .unset, .unset, .unset, .unset, .unset, .unset, .unset] [])) t
            refine XS.iconst Xj475.here hx rfl (hb hby at_348) ?_
            show Steps p.tables e below (Tj475.setTop (mkF m 349 #[.val (.int p1), .val (.int p2), .val (.int p3), .val (.int p4), .val (.int p5), .val (.int p6), .val (.ref na), .val (.ref la), .val (.int nk), .val (.int np), .val (.int nc), .unset, .unset, .unset, .unset, .unset, .unset, .unset] [(.int (0 : Int32))])) t
            refine XS.istore Xj475.here hx rfl (hb hby at_349) rfl (l' := #[.val (.int p1), .val (.int p2), .val (.int p3), .val (.int p4), .val (.int p5), .val (.int p6), .val (.ref na), .val (.ref la), .val (.int nk), .val (.int np), .val (.int nc), .val (.int (0 : Int32)), .unset, .unset, .unset, .unset, .unset, .unset]) rfl ?_
            show Steps p.tables e below (Tj475.setTop (mkF m 351 #[.val (.int p1), .val (.int p2), .val (.int p3), .val (.int p4), .val (.int p5), .val (.int p6), .val (.ref na), .val (.ref la), .val (.int nk), .val (.int np), .val (.int nc), .val (.int (0 : Int32)), .unset, .unset, .unset, .unset, .unset, .unset] [])) t
            refine XS.iload Xj475.here hx rfl (hb hby at_351) rfl ?_
            exact ht
          obtain ⟨_, _, ⟨T610, L610, c610, n610⟩, -, X610, ⟨Lc610, hQ610, l610, y610, z610⟩, st610⟩ := Jvm.LawKit.callS Xj475 hx (y := (⟨"java/lang/String", "valueOf", "(C)Ljava/lang/String;"⟩ : MethodName)) hown (mvT hZ (hw _ (List.mem_of_getElem? (i := 52) rfl))) (mvT hZ (hw _ (List.mem_of_getElem? (i := 53) rfl))) (mvT hZ (hw _ (List.mem_of_getElem? (i := 4) rfl))) (mvT hZ (hw _ (List.mem_of_getElem? (i := 54) rfl))) (by decide) (backOf (W := 0) (rm10 l Z a0 hw [] nc G1 hj475 n0 fj475_0 S1 P5 fj475_2 rnc.2) hZ (hw _ (List.mem_of_getElem? (i := 54) rfl)) (hw _ (List.mem_of_getElem? (i := 4) rfl)) (by decide) (by decide)) (g := (mkF m 353 #[.val (.int p1), .val (.int p2), .val (.int p3), .val (.int p4), .val (.int p5), .val (.int p6), .val (.ref na), .val (.ref la), .val (.int nk), .val (.int np), .val (.int nc), .val (.int (0 : Int32)), .unset, .unset, .unset, .unset, .unset, .unset] [(.int nc)])) rfl (by rw [hml]; rfl) (argsL := [(.int nc)]) (rest := []) (lenOf pd_1 rfl) rfl (by show 2 * 0 + _ ≤ _; exact Nat.le_of_eq rfl) (hb hby at_353) (fun _ _ => ⟨rfl, ej475, (by decide : 2 + 2 ≤ _), (by decide : 43 + 5 ≤ _)⟩)
          dsimp only [Pt.U, Pt.locs, Pt.cells, Pt.slots] at X610 l610 y610 z610 st610 hQ610
          subst l610 y610 z610
          obtain ⟨sx, tx, kx, rfl, Nq610, Kp610, Ev610, Fc610, Fv610, Va610⟩ := hQ610
          have N610 := Fr.app Nj475 Nq610
          have k610 : Kt p e below m (s₁.setTop (entryFrame m #[(.int p1), (.int p2), (.int p3), (.int p4), (.int p5), (.int p6)] maxLocals)) T610 356 #[.val (.int p1), .val (.int p2), .val (.int p3), .val (.int p4), .val (.int p5), .val (.int p6), .val (.ref na), .val (.ref la), .val (.int nk), .val (.int np), .val (.int nc), .val (.int (0 : Int32)), .unset, .unset, .unset, .unset, .unset, .unset] [(.ref sx)] := fun t ht => k609 t (st610 t ht)
          have f611 : n0 ≤ T610.heap.size := Nat.le_trans fj475_0 Kp610.1
          have f612 : CHr Z consts_1 s.vm h0 s.vm T610.heap := fj475_1.trans (CHr.keep Kp610 sf0 fj475_1.1)
          have f613 : Old Z n0 T610.heap := fj475_2.keep Kp610 all0
          have f614 : Safe Z consts_1 s.vm T610.heap na := Safe.keep Kp610 sf0 fj475_1.1 fj475_3
          have f615 : Arv Z T610.heap na ak222 .char (34 : Int32) (own_ns.map Value.int) (.int (0 : Int32)) := fj475_4.keep Kp610 nin0
          have f616 : Safe Z consts_1 s.vm T610.heap la := Safe.keep Kp610 sf0 fj475_1.1 fj475_5
          have f617 : Arv Z T610.heap la ak468 .char (9 : Int32) (own_ln.map Value.int) (.int (0 : Int32)) := fj475_6.keep Kp610 nin0
          have rv : ∀ c ∈ ([nc] : List Int32), own_r c := by intro c hc; simp at hc; subst hc; exact rnc
          have k618 : Kt p e below m (s₁.setTop (entryFrame m #[(.int p1), (.int p2), (.int p3), (.int p4), (.int p5), (.int p6)] maxLocals)) T610 400 #[.val (.int p1), .val (.int p2), .val (.int p3), .val (.int p4), .val (.int p5), .val (.int p6), .val (.ref na), .val (.ref la), .val (.int nk), .val (.int np), .val (.int nc), .val (.int (0 : Int32)), .val (.ref sx), .unset, .unset, .unset, .unset, .unset] [] := by
            intro t ht
            refine k610 t ?_
            show Steps p.tables e below (T610.setTop (mkF m 356 #[.val (.int p1), .val (.int p2), .val (.int p3), .val (.int p4), .val (.int p5), .val (.int p6), .val (.ref na), .val (.ref la), .val (.int nk), .val (.int np), .val (.int nc), .val (.int (0 : Int32)), .unset, .unset, .unset, .unset, .unset, .unset] [(.ref sx)])) t
            refine XS.astore X610.here hx rfl (hb hby at_356) rfl rfl (l' := #[.val (.int p1), .val (.int p2), .val (.int p3), .val (.int p4), .val (.int p5), .val (.int p6), .val (.ref na), .val (.ref la), .val (.int nk), .val (.int np), .val (.int nc), .val (.int (0 : Int32)), .val (.ref sx), .unset, .unset, .unset, .unset, .unset]) rfl ?_
            show Steps p.tables e below (T610.setTop (mkF m 358 #[.val (.int p1), .val (.int p2), .val (.int p3), .val (.int p4), .val (.int p5), .val (.int p6), .val (.ref na), .val (.ref la), .val (.int nk), .val (.int np), .val (.int nc), .val (.int (0 : Int32)), .val (.ref sx), .unset, .unset, .unset, .unset, .unset] [])) t
            refine XS.goto X610.here hx rfl (pc0 := 358) (pc' := 400) rfl (hb hby at_358) (by decide) (by decide) ?_
            exact ht
          exact ⟨s.vm, T610, T610.heap, _, 0, (0 : Int32), (.ref sx), X610.mono (by decide) (by decide), rfl, N610, f611, f613, f617, f616, f612, ((State.WarmedH.refl s).since 0), (Nat.zero_le _), hZ, hown, Or.inr ⟨sx, tx, kx, [nc], rfl, Ev610, Fc610, Fv610, Va610, rv, by show 1 ≤ 4000; decide, own_b0 (fun q => absurd (congrArg List.length q) (by show ¬ (own_ns.length = 1); decide))⟩, k618⟩
        · have k619 : Kt p e below m (s₁.setTop (entryFrame m #[(.int p1), (.int p2), (.int p3), (.int p4), (.int p5), (.int p6)] maxLocals)) Tj475 364 #[.val (.int p1), .val (.int p2), .val (.int p3), .val (.int p4), .val (.int p5), .val (.int p6), .val (.ref na), .val (.ref la), .val (.int nk), .val (.int np), .val (.int nc), .unset, .unset, .unset, .unset, .unset, .unset, .unset] [(.int (3 : Int32)), (.int nk)] := by
            intro t ht
            refine k608 t ?_
            show Steps p.tables e below (Tj475.setTop (mkF m 345 #[.val (.int p1), .val (.int p2), .val (.int p3), .val (.int p4), .val (.int p5), .val (.int p6), .val (.ref na), .val (.ref la), .val (.int nk), .val (.int np), .val (.int nc), .unset, .unset, .unset, .unset, .unset, .unset, .unset] [(.int (2 : Int32)), (.int nk)])) t
            refine XS.icmpYes Xj475.here hx rfl (pc0 := 345) (pc' := 361) rfl (hb hby at_345) rfl (feq hk2).2 (by decide) (by decide) ?_
            show Steps p.tables e below (Tj475.setTop (mkF m 361 #[.val (.int p1), .val (.int p2), .val (.int p3), .val (.int p4), .val (.int p5), .val (.int p6), .val (.ref na), .val (.ref la), .val (.int nk), .val (.int np), .val (.int nc), .unset, .unset, .unset, .unset, .unset, .unset, .unset] [])) t
            refine XS.iload Xj475.here hx rfl (hb hby at_361) rfl ?_
            show Steps p.tables e below (Tj475.setTop (mkF m 363 #[.val (.int p1), .val (.int p2), .val (.int p3), .val (.int p4), .val (.int p5), .val (.int p6), .val (.ref na), .val (.ref la), .val (.int nk), .val (.int np), .val (.int nc), .unset, .unset, .unset, .unset, .unset, .unset, .unset] [(.int nk)])) t
            refine XS.iconst Xj475.here hx rfl (hb hby at_363) ?_
            exact ht
          by_cases hk3 : nk = (3 : Int32)
          · have k620 : Kt p e below m (s₁.setTop (entryFrame m #[(.int p1), (.int p2), (.int p3), (.int p4), (.int p5), (.int p6)] maxLocals)) Tj475 370 #[.val (.int p1), .val (.int p2), .val (.int p3), .val (.int p4), .val (.int p5), .val (.int p6), .val (.ref na), .val (.ref la), .val (.int nk), .val (.int np), .val (.int nc), .val (.int (1 : Int32)), .unset, .unset, .unset, .unset, .unset, .unset] [] := by
              intro t ht
              refine k619 t ?_
              show Steps p.tables e below (Tj475.setTop (mkF m 364 #[.val (.int p1), .val (.int p2), .val (.int p3), .val (.int p4), .val (.int p5), .val (.int p6), .val (.ref na), .val (.ref la), .val (.int nk), .val (.int np), .val (.int nc), .unset, .unset, .unset, .unset, .unset, .unset, .unset] [(.int (3 : Int32)), (.int nk)])) t
              refine XS.icmpNo Xj475.here hx rfl (hb hby at_364) rfl (teq hk3).2 ?_
              show Steps p.tables e below (Tj475.setTop (mkF m 367 #[.val (.int p1), .val (.int p2), .val (.int p3), .val (.int p4), .val (.int p5), .val (.int p6), .val (.ref na), .val (.ref la), .val (.int nk), .val (.int np), .val (.int nc), .unset, .unset, .unset, .unset, .unset, .unset, .unset] [])) t
              refine XS.iconst Xj475.here hx rfl (hb hby at_367) ?_
              show Steps p.tables e below (Tj475.setTop (mkF m 368 #[.val (.int p1), .val (.int p2), .val (.int p3), .val (.int p4), .val (.int p5), .val (.int p6), .val (.ref na), .val (.ref la), .val (.int nk), .val (.int np), .val (.int nc), .unset, .unset, .unset, .unset, .unset, .unset, .unset] [(.int (1 : Int32))])) t
              refine XS.istore Xj475.here hx rfl (hb hby at_368) rfl (l' := #[.val (.int p1), .val (.int p2), .val (.int p3), .val (.int p4), .val (.int p5), .val (.int p6), .val (.ref na), .val (.ref la), .val (.int nk), .val (.int np), .val (.int nc), .val (.int (1 : Int32)), .unset, .unset, .unset, .unset, .unset, .unset]) rfl ?_
              exact ht
            obtain ⟨sx, T621, h621, kb621, tx, ck621, X621, e621, E621, hS621, hk621, hZ621, hown621, Ex621, Fc621, Fv621, Va621, la621, lb621, hR621, -, hne621, st621⟩ := ldcCH (s := s) (vm0 := s.vm) Xj475 hx hZ hown (hw _ (List.mem_of_getElem? (i := 49) rfl)) wS ej475 ((State.WarmedH.refl s).since 0) (Nat.zero_le _) hEL (EL := consts_1) (by decide) fj475_1.1 (vs := (own_by own_ns)) (z := (Int32.ofNat own_ns.length)) (by decide +kernel) (by decide) (by decide) (g := (mkF m 370 #[.val (.int p1), .val (.int p2), .val (.int p3), .val (.int p4), .val (.int p5), .val (.int p6), .val (.ref na), .val (.ref la), .val (.int nk), .val (.int np), .val (.int nc), .val (.int (1 : Int32)), .unset, .unset, .unset, .unset, .unset, .unset] [])) rfl (hb hby at_370) (n := 136) (by decide +kernel) (by decide) (by decide) (by decide)
            have f622 : n0 ≤ h621.size := Nat.le_trans fj475_0 E621.1
            have f623 : CHr Z consts_1 s.vm h0 T621.vm h621 := fj475_1.trans hR621
            have f624 : Old Z n0 h621 := fj475_2.ext E621
            have f625 : Safe Z consts_1 T621.vm h621 na := hR621.safe fj475_4.lt fj475_3
            have f626 : Arv Z h621 na ak222 .char (34 : Int32) (own_ns.map Value.int) (.int (0 : Int32)) := fj475_4.ext E621
            have f627 : Safe Z consts_1 T621.vm h621 la := hR621.safe fj475_6.lt fj475_5
            have f628 : Arv Z h621 la ak468 .char (9 : Int32) (own_ln.map Value.int) (.int (0 : Int32)) := fj475_6.ext E621
            obtain ⟨ne_na_sx, ne_na_tx⟩ := hne621 _ f625
            obtain ⟨ne_la_sx, ne_la_tx⟩ := hne621 _ f627
            have k621 : Kt p e below m (s₁.setTop (entryFrame m #[(.int p1), (.int p2), (.int p3), (.int p4), (.int p5), (.int p6)] maxLocals)) T621 372 #[.val (.int p1), .val (.int p2), .val (.int p3), .val (.int p4), .val (.int p5), .val (.int p6), .val (.ref na), .val (.ref la), .val (.int nk), .val (.int np), .val (.int nc), .val (.int (1 : Int32)), .unset, .unset, .unset, .unset, .unset, .unset] [(.ref sx)] := fun t ht => k620 t (st621 t ht)
            have k629 : Kt p e below m (s₁.setTop (entryFrame m #[(.int p1), (.int p2), (.int p3), (.int p4), (.int p5), (.int p6)] maxLocals)) T621 400 #[.val (.int p1), .val (.int p2), .val (.int p3), .val (.int p4), .val (.int p5), .val (.int p6), .val (.ref na), .val (.ref la), .val (.int nk), .val (.int np), .val (.int nc), .val (.int (1 : Int32)), .val (.ref sx), .unset, .unset, .unset, .unset, .unset] [] := by
              intro t ht
              refine k621 t ?_
              show Steps p.tables e below (T621.setTop (mkF m 372 #[.val (.int p1), .val (.int p2), .val (.int p3), .val (.int p4), .val (.int p5), .val (.int p6), .val (.ref na), .val (.ref la), .val (.int nk), .val (.int np), .val (.int nc), .val (.int (1 : Int32)), .unset, .unset, .unset, .unset, .unset, .unset] [(.ref sx)])) t
              refine XS.astore X621.here hx rfl (hb hby at_372) rfl rfl (l' := #[.val (.int p1), .val (.int p2), .val (.int p3), .val (.int p4), .val (.int p5), .val (.int p6), .val (.ref na), .val (.ref la), .val (.int nk), .val (.int np), .val (.int nc), .val (.int (1 : Int32)), .val (.ref sx), .unset, .unset, .unset, .unset, .unset]) rfl ?_
              show Steps p.tables e below (T621.setTop (mkF m 374 #[.val (.int p1), .val (.int p2), .val (.int p3), .val (.int p4), .val (.int p5), .val (.int p6), .val (.ref na), .val (.ref la), .val (.int nk), .val (.int np), .val (.int nc), .val (.int (1 : Int32)), .val (.ref sx), .unset, .unset, .unset, .unset, .unset] [])) t
              refine XS.goto X621.here hx rfl (pc0 := 374) (pc' := 400) rfl (hb hby at_374) (by decide) (by decide) ?_
              exact ht
            exact ⟨T621.vm, T621, h621, _, kb621, (1 : Int32), (.ref sx), X621.mono (by decide) (by decide), e621, Nj475, f622, f624, f628, f627, f623, hS621, hk621, hZ621, hown621, Or.inr ⟨sx, tx, _, own_ns, rfl, Ex621, Fc621, Fv621, Va621, own_ns_r, by decide, own_b1 rfl⟩, k629⟩
          · have k630 : Kt p e below m (s₁.setTop (entryFrame m #[(.int p1), (.int p2), (.int p3), (.int p4), (.int p5), (.int p6)] maxLocals)) Tj475 380 #[.val (.int p1), .val (.int p2), .val (.int p3), .val (.int p4), .val (.int p5), .val (.int p6), .val (.ref na), .val (.ref la), .val (.int nk), .val (.int np), .val (.int nc), .unset, .unset, .unset, .unset, .unset, .unset, .unset] [(.int (4 : Int32)), (.int nk)] := by
              intro t ht
              refine k619 t ?_
              show Steps p.tables e below (Tj475.setTop (mkF m 364 #[.val (.int p1), .val (.int p2), .val (.int p3), .val (.int p4), .val (.int p5), .val (.int p6), .val (.ref na), .val (.ref la), .val (.int nk), .val (.int np), .val (.int nc), .unset, .unset, .unset, .unset, .unset, .unset, .unset] [(.int (3 : Int32)), (.int nk)])) t
              refine XS.icmpYes Xj475.here hx rfl (pc0 := 364) (pc' := 377) rfl (hb hby at_364) rfl (feq hk3).2 (by decide) (by decide) ?_
              show Steps p.tables e below (Tj475.setTop (mkF m 377 #[.val (.int p1), .val (.int p2), .val (.int p3), .val (.int p4), .val (.int p5), .val (.int p6), .val (.ref na), .val (.ref la), .val (.int nk), .val (.int np), .val (.int nc), .unset, .unset, .unset, .unset, .unset, .unset, .unset] [])) t
              refine XS.iload Xj475.here hx rfl (hb hby at_377) rfl ?_
              show Steps p.tables e below (Tj475.setTop (mkF m 379 #[.val (.int p1), .val (.int p2), .val (.int p3), .val (.int p4), .val (.int p5), .val (.int p6), .val (.ref na), .val (.ref la), .val (.int nk), .val (.int np), .val (.int nc), .unset, .unset, .unset, .unset, .unset, .unset, .unset] [(.int nk)])) t
              refine XS.iconst Xj475.here hx rfl (hb hby at_379) ?_
              exact ht
            by_cases hk4 : nk = (4 : Int32)
            · have k631 : Kt p e below m (s₁.setTop (entryFrame m #[(.int p1), (.int p2), (.int p3), (.int p4), (.int p5), (.int p6)] maxLocals)) Tj475 386 #[.val (.int p1), .val (.int p2), .val (.int p3), .val (.int p4), .val (.int p5), .val (.int p6), .val (.ref na), .val (.ref la), .val (.int nk), .val (.int np), .val (.int nc), .val (.int (0 : Int32)), .unset, .unset, .unset, .unset, .unset, .unset] [] := by
                intro t ht
                refine k630 t ?_
                show Steps p.tables e below (Tj475.setTop (mkF m 380 #[.val (.int p1), .val (.int p2), .val (.int p3), .val (.int p4), .val (.int p5), .val (.int p6), .val (.ref na), .val (.ref la), .val (.int nk), .val (.int np), .val (.int nc), .unset, .unset, .unset, .unset, .unset, .unset, .unset] [(.int (4 : Int32)), (.int nk)])) t
                refine XS.icmpNo Xj475.here hx rfl (hb hby at_380) rfl (teq hk4).2 ?_
                show Steps p.tables e below (Tj475.setTop (mkF m 383 #[.val (.int p1), .val (.int p2), .val (.int p3), .val (.int p4), .val (.int p5), .val (.int p6), .val (.ref na), .val (.ref la), .val (.int nk), .val (.int np), .val (.int nc), .unset, .unset, .unset, .unset, .unset, .unset, .unset] [])) t
                refine XS.iconst Xj475.here hx rfl (hb hby at_383) ?_
                show Steps p.tables e below (Tj475.setTop (mkF m 384 #[.val (.int p1), .val (.int p2), .val (.int p3), .val (.int p4), .val (.int p5), .val (.int p6), .val (.ref na), .val (.ref la), .val (.int nk), .val (.int np), .val (.int nc), .unset, .unset, .unset, .unset, .unset, .unset, .unset] [(.int (0 : Int32))])) t
                refine XS.istore Xj475.here hx rfl (hb hby at_384) rfl (l' := #[.val (.int p1), .val (.int p2), .val (.int p3), .val (.int p4), .val (.int p5), .val (.int p6), .val (.ref na), .val (.ref la), .val (.int nk), .val (.int np), .val (.int nc), .val (.int (0 : Int32)), .unset, .unset, .unset, .unset, .unset, .unset]) rfl ?_
                exact ht
              obtain ⟨sx, T632, h632, kb632, tx, ck632, X632, e632, E632, hS632, hk632, hZ632, hown632, Ex632, Fc632, Fv632, Va632, la632, lb632, hR632, -, hne632, st632⟩ := ldcCH (s := s) (vm0 := s.vm) Xj475 hx hZ hown (hw _ (List.mem_of_getElem? (i := 48) rfl)) wS ej475 ((State.WarmedH.refl s).since 0) (Nat.zero_le _) hEL (EL := consts_1) (by decide) fj475_1.1 (vs := (own_by own_nt)) (z := (Int32.ofNat own_nt.length)) (by decide +kernel) (by decide) (by decide) (g := (mkF m 386 #[.val (.int p1), .val (.int p2), .val (.int p3), .val (.int p4), .val (.int p5), .val (.int p6), .val (.ref na), .val (.ref la), .val (.int nk), .val (.int np), .val (.int nc), .val (.int (0 : Int32)), .unset, .unset, .unset, .unset, .unset, .unset] [])) rfl (hb hby at_386) (n := 132) (by decide +kernel) (by decide) (by decide) (by decide)
              have f633 : n0 ≤ h632.size := Nat.le_trans fj475_0 E632.1
              have f634 : CHr Z consts_1 s.vm h0 T632.vm h632 := fj475_1.trans hR632
              have f635 : Old Z n0 h632 := fj475_2.ext E632
              have f636 : Safe Z consts_1 T632.vm h632 na := hR632.safe fj475_4.lt fj475_3
              have f637 : Arv Z h632 na ak222 .char (34 : Int32) (own_ns.map Value.int) (.int (0 : Int32)) := fj475_4.ext E632
              have f638 : Safe Z consts_1 T632.vm h632 la := hR632.safe fj475_6.lt fj475_5
              have f639 : Arv Z h632 la ak468 .char (9 : Int32) (own_ln.map Value.int) (.int (0 : Int32)) := fj475_6.ext E632
              obtain ⟨ne_na_sx, ne_na_tx⟩ := hne632 _ f636
              obtain ⟨ne_la_sx, ne_la_tx⟩ := hne632 _ f638
              have k632 : Kt p e below m (s₁.setTop (entryFrame m #[(.int p1), (.int p2), (.int p3), (.int p4), (.int p5), (.int p6)] maxLocals)) T632 388 #[.val (.int p1), .val (.int p2), .val (.int p3), .val (.int p4), .val (.int p5), .val (.int p6), .val (.ref na), .val (.ref la), .val (.int nk), .val (.int np), .val (.int nc), .val (.int (0 : Int32)), .unset, .unset, .unset, .unset, .unset, .unset] [(.ref sx)] := fun t ht => k631 t (st632 t ht)
              have k640 : Kt p e below m (s₁.setTop (entryFrame m #[(.int p1), (.int p2), (.int p3), (.int p4), (.int p5), (.int p6)] maxLocals)) T632 400 #[.val (.int p1), .val (.int p2), .val (.int p3), .val (.int p4), .val (.int p5), .val (.int p6), .val (.ref na), .val (.ref la), .val (.int nk), .val (.int np), .val (.int nc), .val (.int (0 : Int32)), .val (.ref sx), .unset, .unset, .unset, .unset, .unset] [] := by
                intro t ht
                refine k632 t ?_
                show Steps p.tables e below (T632.setTop (mkF m 388 #[.val (.int p1), .val (.int p2), .val (.int p3), .val (.int p4), .val (.int p5), .val (.int p6), .val (.ref na), .val (.ref la), .val (.int nk), .val (.int np), .val (.int nc), .val (.int (0 : Int32)), .unset, .unset, .unset, .unset, .unset, .unset] [(.ref sx)])) t
                refine XS.astore X632.here hx rfl (hb hby at_388) rfl rfl (l' := #[.val (.int p1), .val (.int p2), .val (.int p3), .val (.int p4), .val (.int p5), .val (.int p6), .val (.ref na), .val (.ref la), .val (.int nk), .val (.int np), .val (.int nc), .val (.int (0 : Int32)), .val (.ref sx), .unset, .unset, .unset, .unset, .unset]) rfl ?_
                show Steps p.tables e below (T632.setTop (mkF m 390 #[.val (.int p1), .val (.int p2), .val (.int p3), .val (.int p4), .val (.int p5), .val (.int p6), .val (.ref na), .val (.ref la), .val (.int nk), .val (.int np), .val (.int nc), .val (.int (0 : Int32)), .val (.ref sx), .unset, .unset, .unset, .unset, .unset] [])) t
                refine XS.goto X632.here hx rfl (pc0 := 390) (pc' := 400) rfl (hb hby at_390) (by decide) (by decide) ?_
                exact ht
              exact ⟨T632.vm, T632, h632, _, kb632, (0 : Int32), (.ref sx), X632.mono (by decide) (by decide), e632, Nj475, f633, f635, f639, f638, f634, hS632, hk632, hZ632, hown632, Or.inr ⟨sx, tx, _, own_nt, rfl, Ex632, Fc632, Fv632, Va632, own_nt_r, by decide, own_b0 (by decide)⟩, k640⟩
            · have k641 : Kt p e below m (s₁.setTop (entryFrame m #[(.int p1), (.int p2), (.int p3), (.int p4), (.int p5), (.int p6)] maxLocals)) Tj475 396 #[.val (.int p1), .val (.int p2), .val (.int p3), .val (.int p4), .val (.int p5), .val (.int p6), .val (.ref na), .val (.ref la), .val (.int nk), .val (.int np), .val (.int nc), .val (.int (0 : Int32)), .unset, .unset, .unset, .unset, .unset, .unset] [] := by
                intro t ht
                refine k630 t ?_
                show Steps p.tables e below (Tj475.setTop (mkF m 380 #[.val (.int p1), .val (.int p2), .val (.int p3), .val (.int p4), .val (.int p5), .val (.int p6), .val (.ref na), .val (.ref la), .val (.int nk), .val (.int np), .val (.int nc), .unset, .unset, .unset, .unset, .unset, .unset, .unset] [(.int (4 : Int32)), (.int nk)])) t
                refine XS.icmpYes Xj475.here hx rfl (pc0 := 380) (pc' := 393) rfl (hb hby at_380) rfl (feq hk4).2 (by decide) (by decide) ?_
                show Steps p.tables e below (Tj475.setTop (mkF m 393 #[.val (.int p1), .val (.int p2), .val (.int p3), .val (.int p4), .val (.int p5), .val (.int p6), .val (.ref na), .val (.ref la), .val (.int nk), .val (.int np), .val (.int nc), .unset, .unset, .unset, .unset, .unset, .unset, .unset] [])) t
                refine XS.iconst Xj475.here hx rfl (hb hby at_393) ?_
                show Steps p.tables e below (Tj475.setTop (mkF m 394 #[.val (.int p1), .val (.int p2), .val (.int p3), .val (.int p4), .val (.int p5), .val (.int p6), .val (.ref na), .val (.ref la), .val (.int nk), .val (.int np), .val (.int nc), .unset, .unset, .unset, .unset, .unset, .unset, .unset] [(.int (0 : Int32))])) t
                refine XS.istore Xj475.here hx rfl (hb hby at_394) rfl (l' := #[.val (.int p1), .val (.int p2), .val (.int p3), .val (.int p4), .val (.int p5), .val (.int p6), .val (.ref na), .val (.ref la), .val (.int nk), .val (.int np), .val (.int nc), .val (.int (0 : Int32)), .unset, .unset, .unset, .unset, .unset, .unset]) rfl ?_
                exact ht
              obtain ⟨sx, T642, h642, kb642, tx, ck642, X642, e642, E642, hS642, hk642, hZ642, hown642, Ex642, Fc642, Fv642, Va642, la642, lb642, hR642, -, hne642, st642⟩ := ldcCH (s := s) (vm0 := s.vm) Xj475 hx hZ hown (hw _ (List.mem_of_getElem? (i := 65) rfl)) wS ej475 ((State.WarmedH.refl s).since 0) (Nat.zero_le _) hEL (EL := consts_1) (by decide) fj475_1.1 (vs := (own_by own_em)) (z := (Int32.ofNat own_em.length)) (by decide +kernel) (by decide) (by decide) (g := (mkF m 396 #[.val (.int p1), .val (.int p2), .val (.int p3), .val (.int p4), .val (.int p5), .val (.int p6), .val (.ref na), .val (.ref la), .val (.int nk), .val (.int np), .val (.int nc), .val (.int (0 : Int32)), .unset, .unset, .unset, .unset, .unset, .unset] [])) rfl (hb hby at_396) (n := 0) (by decide +kernel) (by decide) (by decide) (by decide)
              have f643 : n0 ≤ h642.size := Nat.le_trans fj475_0 E642.1
              have f644 : CHr Z consts_1 s.vm h0 T642.vm h642 := fj475_1.trans hR642
              have f645 : Old Z n0 h642 := fj475_2.ext E642
              have f646 : Safe Z consts_1 T642.vm h642 na := hR642.safe fj475_4.lt fj475_3
              have f647 : Arv Z h642 na ak222 .char (34 : Int32) (own_ns.map Value.int) (.int (0 : Int32)) := fj475_4.ext E642
              have f648 : Safe Z consts_1 T642.vm h642 la := hR642.safe fj475_6.lt fj475_5
              have f649 : Arv Z h642 la ak468 .char (9 : Int32) (own_ln.map Value.int) (.int (0 : Int32)) := fj475_6.ext E642
              obtain ⟨ne_na_sx, ne_na_tx⟩ := hne642 _ f646
              obtain ⟨ne_la_sx, ne_la_tx⟩ := hne642 _ f648
              have k642 : Kt p e below m (s₁.setTop (entryFrame m #[(.int p1), (.int p2), (.int p3), (.int p4), (.int p5), (.int p6)] maxLocals)) T642 398 #[.val (.int p1), .val (.int p2), .val (.int p3), .val (.int p4), .val (.int p5), .val (.int p6), .val (.ref na), .val (.ref la), .val (.int nk), .val (.int np), .val (.int nc), .val (.int (0 : Int32)), .unset, .unset, .unset, .unset, .unset, .unset] [(.ref sx)] := fun t ht => k641 t (st642 t ht)
              have k650 : Kt p e below m (s₁.setTop (entryFrame m #[(.int p1), (.int p2), (.int p3), (.int p4), (.int p5), (.int p6)] maxLocals)) T642 400 #[.val (.int p1), .val (.int p2), .val (.int p3), .val (.int p4), .val (.int p5), .val (.int p6), .val (.ref na), .val (.ref la), .val (.int nk), .val (.int np), .val (.int nc), .val (.int (0 : Int32)), .val (.ref sx), .unset, .unset, .unset, .unset, .unset] [] := by
                intro t ht
                refine k642 t ?_
                show Steps p.tables e below (T642.setTop (mkF m 398 #[.val (.int p1), .val (.int p2), .val (.int p3), .val (.int p4), .val (.int p5), .val (.int p6), .val (.ref na), .val (.ref la), .val (.int nk), .val (.int np), .val (.int nc), .val (.int (0 : Int32)), .unset, .unset, .unset, .unset, .unset, .unset] [(.ref sx)])) t
                refine XS.astore X642.here hx rfl (hb hby at_398) rfl rfl (l' := #[.val (.int p1), .val (.int p2), .val (.int p3), .val (.int p4), .val (.int p5), .val (.int p6), .val (.ref na), .val (.ref la), .val (.int nk), .val (.int np), .val (.int nc), .val (.int (0 : Int32)), .val (.ref sx), .unset, .unset, .unset, .unset, .unset]) rfl ?_
                exact ht
              exact ⟨T642.vm, T642, h642, _, kb642, (0 : Int32), (.ref sx), X642.mono (by decide) (by decide), e642, Nj475, f643, f645, f649, f648, f644, hS642, hk642, hZ642, hown642, Or.inr ⟨sx, tx, _, own_em, rfl, Ex642, Fc642, Fv642, Va642, own_em_r, by decide, own_b0 (by decide)⟩, k650⟩
  have g_la' := g_la
  have k651 : Kt p e below m (s₁.setTop (entryFrame m #[(.int p1), (.int p2), (.int p3), (.int p4), (.int p5), (.int p6)] maxLocals)) Tj565 407 #[.val (.int p1), .val (.int p2), .val (.int p3), .val (.int p4), .val (.int p5), .val (.int p6), .val (.ref na), .val (.ref la), .val (.int nk), .val (.int np), .val (.int nc), .val (.int ok1), .val nv, .unset, .unset, .unset, .unset, .unset] [(.int ((p4 &&& (2147483647 : Int32)) % (7 : Int32)))] := by
    intro t ht
    refine kj565 t ?_
    show Steps p.tables e below (Tj565.setTop (mkF m 400 #[.val (.int p1), .val (.int p2), .val (.int p3), .val (.int p4), .val (.int p5), .val (.int p6), .val (.ref na), .val (.ref la), .val (.int nk), .val (.int np), .val (.int nc), .val (.int ok1), .val nv, .unset, .unset, .unset, .unset, .unset] [])) t
    refine XS.iloadN Xj565.here hx rfl (hb hby at_400) rfl ?_
    show Steps p.tables e below (Tj565.setTop (mkF m 401 #[.val (.int p1), .val (.int p2), .val (.int p3), .val (.int p4), .val (.int p5), .val (.int p6), .val (.ref na), .val (.ref la), .val (.int nk), .val (.int np), .val (.int nc), .val (.int ok1), .val nv, .unset, .unset, .unset, .unset, .unset] [(.int p4)])) t
    refine Xj565.ldcInt hx hownj565 (mvT hZj565 (hw _ (List.mem_of_getElem? (i := 1) rfl))) (g := (mkF m 401 #[.val (.int p1), .val (.int p2), .val (.int p3), .val (.int p4), .val (.int p5), .val (.int p6), .val (.ref na), .val (.ref la), .val (.int nk), .val (.int np), .val (.int nc), .val (.int ok1), .val nv, .unset, .unset, .unset, .unset, .unset] [(.int p4)])) rfl (hb hby at_401) _ ?_
    show Steps p.tables e below (Tj565.setTop (mkF m 403 #[.val (.int p1), .val (.int p2), .val (.int p3), .val (.int p4), .val (.int p5), .val (.int p6), .val (.ref na), .val (.ref la), .val (.int nk), .val (.int np), .val (.int nc), .val (.int ok1), .val nv, .unset, .unset, .unset, .unset, .unset] [(.int (2147483647 : Int32)), (.int p4)])) t
    refine XS.iand Xj565.here hx rfl (hb hby at_403) rfl ?_
    show Steps p.tables e below (Tj565.setTop (mkF m 404 #[.val (.int p1), .val (.int p2), .val (.int p3), .val (.int p4), .val (.int p5), .val (.int p6), .val (.ref na), .val (.ref la), .val (.int nk), .val (.int np), .val (.int nc), .val (.int ok1), .val nv, .unset, .unset, .unset, .unset, .unset] [(.int (p4 &&& (2147483647 : Int32)))])) t
    refine XS.bipush Xj565.here hx rfl (hb hby at_404) ?_
    show Steps p.tables e below (Tj565.setTop (mkF m 406 #[.val (.int p1), .val (.int p2), .val (.int p3), .val (.int p4), .val (.int p5), .val (.int p6), .val (.ref na), .val (.ref la), .val (.int nk), .val (.int np), .val (.int nc), .val (.int ok1), .val nv, .unset, .unset, .unset, .unset, .unset] [(.int (7 : Int32)), (.int (p4 &&& (2147483647 : Int32)))])) t
    refine iremM Xj565 hx rfl (hb hby at_406) rfl (by decide) ?_
    exact ht
  obtain ⟨lk, hlk, k652⟩ : ∃ lk : Int32, lk = ((p4 &&& (2147483647 : Int32)) % (7 : Int32)) ∧ Kt p e below m (s₁.setTop (entryFrame m #[(.int p1), (.int p2), (.int p3), (.int p4), (.int p5), (.int p6)] maxLocals)) Tj565 407 #[.val (.int p1), .val (.int p2), .val (.int p3), .val (.int p4), .val (.int p5), .val (.int p6), .val (.ref na), .val (.ref la), .val (.int nk), .val (.int np), .val (.int nc), .val (.int ok1), .val nv, .unset, .unset, .unset, .unset, .unset] [(.int lk)] := ⟨_, rfl, k651⟩
  have rlp := own_mod9 p5
  have k653 : Kt p e below m (s₁.setTop (entryFrame m #[(.int p1), (.int p2), (.int p3), (.int p4), (.int p5), (.int p6)] maxLocals)) Tj565 417 #[.val (.int p1), .val (.int p2), .val (.int p3), .val (.int p4), .val (.int p5), .val (.int p6), .val (.ref na), .val (.ref la), .val (.int nk), .val (.int np), .val (.int nc), .val (.int ok1), .val nv, .val (.int lk), .unset, .unset, .unset, .unset] [(.int ((p5 &&& (2147483647 : Int32)) % (9 : Int32)))] := by
    intro t ht
    refine k652 t ?_
    show Steps p.tables e below (Tj565.setTop (mkF m 407 #[.val (.int p1), .val (.int p2), .val (.int p3), .val (.int p4), .val (.int p5), .val (.int p6), .val (.ref na), .val (.ref la), .val (.int nk), .val (.int np), .val (.int nc), .val (.int ok1), .val nv, .unset, .unset, .unset, .unset, .unset] [(.int lk)])) t
    refine XS.istore Xj565.here hx rfl (hb hby at_407) rfl (l' := #[.val (.int p1), .val (.int p2), .val (.int p3), .val (.int p4), .val (.int p5), .val (.int p6), .val (.ref na), .val (.ref la), .val (.int nk), .val (.int np), .val (.int nc), .val (.int ok1), .val nv, .val (.int lk), .unset, .unset, .unset, .unset]) rfl ?_
    show Steps p.tables e below (Tj565.setTop (mkF m 409 #[.val (.int p1), .val (.int p2), .val (.int p3), .val (.int p4), .val (.int p5), .val (.int p6), .val (.ref na), .val (.ref la), .val (.int nk), .val (.int np), .val (.int nc), .val (.int ok1), .val nv, .val (.int lk), .unset, .unset, .unset, .unset] [])) t
    refine XS.iload Xj565.here hx rfl (hb hby at_409) rfl ?_
    show Steps p.tables e below (Tj565.setTop (mkF m 411 #[.val (.int p1), .val (.int p2), .val (.int p3), .val (.int p4), .val (.int p5), .val (.int p6), .val (.ref na), .val (.ref la), .val (.int nk), .val (.int np), .val (.int nc), .val (.int ok1), .val nv, .val (.int lk), .unset, .unset, .unset, .unset] [(.int p5)])) t
    refine Xj565.ldcInt hx hownj565 (mvT hZj565 (hw _ (List.mem_of_getElem? (i := 1) rfl))) (g := (mkF m 411 #[.val (.int p1), .val (.int p2), .val (.int p3), .val (.int p4), .val (.int p5), .val (.int p6), .val (.ref na), .val (.ref la), .val (.int nk), .val (.int np), .val (.int nc), .val (.int ok1), .val nv, .val (.int lk), .unset, .unset, .unset, .unset] [(.int p5)])) rfl (hb hby at_411) _ ?_
    show Steps p.tables e below (Tj565.setTop (mkF m 413 #[.val (.int p1), .val (.int p2), .val (.int p3), .val (.int p4), .val (.int p5), .val (.int p6), .val (.ref na), .val (.ref la), .val (.int nk), .val (.int np), .val (.int nc), .val (.int ok1), .val nv, .val (.int lk), .unset, .unset, .unset, .unset] [(.int (2147483647 : Int32)), (.int p5)])) t
    refine XS.iand Xj565.here hx rfl (hb hby at_413) rfl ?_
    show Steps p.tables e below (Tj565.setTop (mkF m 414 #[.val (.int p1), .val (.int p2), .val (.int p3), .val (.int p4), .val (.int p5), .val (.int p6), .val (.ref na), .val (.ref la), .val (.int nk), .val (.int np), .val (.int nc), .val (.int ok1), .val nv, .val (.int lk), .unset, .unset, .unset, .unset] [(.int (p5 &&& (2147483647 : Int32)))])) t
    refine XS.bipush Xj565.here hx rfl (hb hby at_414) ?_
    show Steps p.tables e below (Tj565.setTop (mkF m 416 #[.val (.int p1), .val (.int p2), .val (.int p3), .val (.int p4), .val (.int p5), .val (.int p6), .val (.ref na), .val (.ref la), .val (.int nk), .val (.int np), .val (.int nc), .val (.int ok1), .val nv, .val (.int lk), .unset, .unset, .unset, .unset] [(.int (9 : Int32)), (.int (p5 &&& (2147483647 : Int32)))])) t
    refine iremM Xj565 hx rfl (hb hby at_416) rfl (by decide) ?_
    exact ht
  obtain ⟨lp, hlp, k654⟩ : ∃ lp : Int32, lp = ((p5 &&& (2147483647 : Int32)) % (9 : Int32)) ∧ Kt p e below m (s₁.setTop (entryFrame m #[(.int p1), (.int p2), (.int p3), (.int p4), (.int p5), (.int p6)] maxLocals)) Tj565 417 #[.val (.int p1), .val (.int p2), .val (.int p3), .val (.int p4), .val (.int p5), .val (.int p6), .val (.ref na), .val (.ref la), .val (.int nk), .val (.int np), .val (.int nc), .val (.int ok1), .val nv, .val (.int lk), .unset, .unset, .unset, .unset] [(.int lp)] := ⟨_, rfl, k653⟩
  rw [← hlp] at rlp
  have rlc := own_m p6
  have k655 : Kt p e below m (s₁.setTop (entryFrame m #[(.int p1), (.int p2), (.int p3), (.int p4), (.int p5), (.int p6)] maxLocals)) Tj565 426 #[.val (.int p1), .val (.int p2), .val (.int p3), .val (.int p4), .val (.int p5), .val (.int p6), .val (.ref na), .val (.ref la), .val (.int nk), .val (.int np), .val (.int nc), .val (.int ok1), .val nv, .val (.int lk), .val (.int lp), .unset, .unset, .unset] [(.int ((p6 &&& (255 : Int32)).toUInt32.toUInt16.toUInt32.toInt32))] := by
    intro t ht
    refine k654 t ?_
    show Steps p.tables e below (Tj565.setTop (mkF m 417 #[.val (.int p1), .val (.int p2), .val (.int p3), .val (.int p4), .val (.int p5), .val (.int p6), .val (.ref na), .val (.ref la), .val (.int nk), .val (.int np), .val (.int nc), .val (.int ok1), .val nv, .val (.int lk), .unset, .unset, .unset, .unset] [(.int lp)])) t
    refine XS.istore Xj565.here hx rfl (hb hby at_417) rfl (l' := #[.val (.int p1), .val (.int p2), .val (.int p3), .val (.int p4), .val (.int p5), .val (.int p6), .val (.ref na), .val (.ref la), .val (.int nk), .val (.int np), .val (.int nc), .val (.int ok1), .val nv, .val (.int lk), .val (.int lp), .unset, .unset, .unset]) rfl ?_
    show Steps p.tables e below (Tj565.setTop (mkF m 419 #[.val (.int p1), .val (.int p2), .val (.int p3), .val (.int p4), .val (.int p5), .val (.int p6), .val (.ref na), .val (.ref la), .val (.int nk), .val (.int np), .val (.int nc), .val (.int ok1), .val nv, .val (.int lk), .val (.int lp), .unset, .unset, .unset] [])) t
    refine XS.iload Xj565.here hx rfl (hb hby at_419) rfl ?_
    show Steps p.tables e below (Tj565.setTop (mkF m 421 #[.val (.int p1), .val (.int p2), .val (.int p3), .val (.int p4), .val (.int p5), .val (.int p6), .val (.ref na), .val (.ref la), .val (.int nk), .val (.int np), .val (.int nc), .val (.int ok1), .val nv, .val (.int lk), .val (.int lp), .unset, .unset, .unset] [(.int p6)])) t
    refine XS.sipush Xj565.here hx rfl (hb hby at_421) ?_
    show Steps p.tables e below (Tj565.setTop (mkF m 424 #[.val (.int p1), .val (.int p2), .val (.int p3), .val (.int p4), .val (.int p5), .val (.int p6), .val (.ref na), .val (.ref la), .val (.int nk), .val (.int np), .val (.int nc), .val (.int ok1), .val nv, .val (.int lk), .val (.int lp), .unset, .unset, .unset] [(.int (255 : Int32)), (.int p6)])) t
    refine XS.iand Xj565.here hx rfl (hb hby at_424) rfl ?_
    show Steps p.tables e below (Tj565.setTop (mkF m 425 #[.val (.int p1), .val (.int p2), .val (.int p3), .val (.int p4), .val (.int p5), .val (.int p6), .val (.ref na), .val (.ref la), .val (.int nk), .val (.int np), .val (.int nc), .val (.int ok1), .val nv, .val (.int lk), .val (.int lp), .unset, .unset, .unset] [(.int (p6 &&& (255 : Int32)))])) t
    refine XS.i2c Xj565.here hx rfl (hb hby at_425) rfl ?_
    exact ht
  obtain ⟨lc, hlc, k656⟩ : ∃ lc : Int32, lc = ((p6 &&& (255 : Int32)).toUInt32.toUInt16.toUInt32.toInt32) ∧ Kt p e below m (s₁.setTop (entryFrame m #[(.int p1), (.int p2), (.int p3), (.int p4), (.int p5), (.int p6)] maxLocals)) Tj565 426 #[.val (.int p1), .val (.int p2), .val (.int p3), .val (.int p4), .val (.int p5), .val (.int p6), .val (.ref na), .val (.ref la), .val (.int nk), .val (.int np), .val (.int nc), .val (.int ok1), .val nv, .val (.int lk), .val (.int lp), .unset, .unset, .unset] [(.int lc)] := ⟨_, rfl, k655⟩
  rw [← hlc] at rlc
  have k657 : Kt p e below m (s₁.setTop (entryFrame m #[(.int p1), (.int p2), (.int p3), (.int p4), (.int p5), (.int p6)] maxLocals)) Tj565 430 #[.val (.int p1), .val (.int p2), .val (.int p3), .val (.int p4), .val (.int p5), .val (.int p6), .val (.ref na), .val (.ref la), .val (.int nk), .val (.int np), .val (.int nc), .val (.int ok1), .val nv, .val (.int lk), .val (.int lp), .val (.int lc), .unset, .unset] [(.int lk)] := by
    intro t ht
    refine k656 t ?_
    show Steps p.tables e below (Tj565.setTop (mkF m 426 #[.val (.int p1), .val (.int p2), .val (.int p3), .val (.int p4), .val (.int p5), .val (.int p6), .val (.ref na), .val (.ref la), .val (.int nk), .val (.int np), .val (.int nc), .val (.int ok1), .val nv, .val (.int lk), .val (.int lp), .unset, .unset, .unset] [(.int lc)])) t
    refine XS.istore Xj565.here hx rfl (hb hby at_426) rfl (l' := #[.val (.int p1), .val (.int p2), .val (.int p3), .val (.int p4), .val (.int p5), .val (.int p6), .val (.ref na), .val (.ref la), .val (.int nk), .val (.int np), .val (.int nc), .val (.int ok1), .val nv, .val (.int lk), .val (.int lp), .val (.int lc), .unset, .unset]) rfl ?_
    show Steps p.tables e below (Tj565.setTop (mkF m 428 #[.val (.int p1), .val (.int p2), .val (.int p3), .val (.int p4), .val (.int p5), .val (.int p6), .val (.ref na), .val (.ref la), .val (.int nk), .val (.int np), .val (.int nc), .val (.int ok1), .val nv, .val (.int lk), .val (.int lp), .val (.int lc), .unset, .unset] [])) t
    refine XS.iload Xj565.here hx rfl (hb hby at_428) rfl ?_
    exact ht
  rcases hpj565 with ⟨hnv, hok1⟩ | ⟨x1, t1, k1, cs, hnv, uE, uC, uV, uK, ur, ul, hok1⟩
  · rw [hnv] at k657
    obtain ⟨vmj658, Tj658, hj658, locsj658, kbj658, ok2, lv, Xj658, ej658, Nj658, zj658, fj658_0, Rj658, hSj658, hkj658, hZj658, hownj658, hpj658, kj658⟩ : ∃ (vmj658 : Vm) (Tj658 : State) (hj658 : Heap) (locsj658 : List Loc) (kbj658 : Nat) (ok2 : Int32) (lv : Value), Stand p l e room_1 (s.setVm vmj658) m #[(.int p1), (.int p2), (.int p3), (.int p4), (.int p5), (.int p6)] below meth c Tj658 locsj658 10 292 ∧ Tj658.heap = hj658 ∧ Fr n0 locsj658 ∧ n0 ≤ hj658.size ∧ Old Z n0 hj658 ∧ CHr Z consts_1 s.vm h0 vmj658 hj658 ∧ s.Since vmj658 kbj658 ∧ kbj658 ≤ hj658.size ∧ Z.Warmed39 (s.setVm vmj658).vm ∧ (s.setVm vmj658).vm.findClass "com/example/subscriptor/subscriptor/XmlSignatureIsSignaturePinLaw" = some m.cls ∧ ((lv = .null ∧ ok2 = 0) ∨ (∃ x t kb cs, lv = .ref x ∧ Exa Z hj658 x "java/lang/String" ∧ Fld Z hj658 x "java/lang/String" "coder" "B" (.int (0 : Int32)) ∧ Fld Z hj658 x "java/lang/String" "value" "[B" (.ref t) ∧ Arv Z hj658 t kb .byte (Int32.ofNat cs.length) (own_by cs) (.int (0 : Int32)) ∧ (∀ c ∈ cs, own_r c) ∧ cs.length ≤ 4000 ∧ ok2 = own_b (own_ln = cs))) ∧ Kt p e below m (s₁.setTop (entryFrame m #[(.int p1), (.int p2), (.int p3), (.int p4), (.int p5), (.int p6)] maxLocals)) Tj658 560 #[.val (.int p1), .val (.int p2), .val (.int p3), .val (.int p4), .val (.int p5), .val (.int p6), .val (.ref na), .val (.ref la), .val (.int nk), .val (.int np), .val (.int nc), .val (.int ok1), .val .null, .val (.int lk), .val (.int lp), .val (.int lc), .val (.int ok2), .val lv] [] := by
      by_cases hk0 : lk = (0 : Int32)
      · have k660 : Kt p e below m (s₁.setTop (entryFrame m #[(.int p1), (.int p2), (.int p3), (.int p4), (.int p5), (.int p6)] maxLocals)) Tj565 437 #[.val (.int p1), .val (.int p2), .val (.int p3), .val (.int p4), .val (.int p5), .val (.int p6), .val (.ref na), .val (.ref la), .val (.int nk), .val (.int np), .val (.int nc), .val (.int ok1), .val .null, .val (.int lk), .val (.int lp), .val (.int lc), .unset, .unset] [(.int lp), (.ref la)] := by
          intro t ht
          refine k657 t ?_
          show Steps p.tables e below (Tj565.setTop (mkF m 430 #[.val (.int p1), .val (.int p2), .val (.int p3), .val (.int p4), .val (.int p5), .val (.int p6), .val (.ref na), .val (.ref la), .val (.int nk), .val (.int np), .val (.int nc), .val (.int ok1), .val .null, .val (.int lk), .val (.int lp), .val (.int lc), .unset, .unset] [(.int lk)])) t
          refine XS.ifNo Xj565.here hx rfl (hb hby at_430) rfl ((if0 _ _).trans (teq hk0).2) ?_
          show Steps p.tables e below (Tj565.setTop (mkF m 433 #[.val (.int p1), .val (.int p2), .val (.int p3), .val (.int p4), .val (.int p5), .val (.int p6), .val (.ref na), .val (.ref la), .val (.int nk), .val (.int np), .val (.int nc), .val (.int ok1), .val .null, .val (.int lk), .val (.int lp), .val (.int lc), .unset, .unset] [])) t
          refine XS.aload Xj565.here hx rfl (hb hby at_433) rfl rfl ?_
          show Steps p.tables e below (Tj565.setTop (mkF m 435 #[.val (.int p1), .val (.int p2), .val (.int p3), .val (.int p4), .val (.int p5), .val (.int p6), .val (.ref na), .val (.ref la), .val (.int nk), .val (.int np), .val (.int nc), .val (.int ok1), .val .null, .val (.int lk), .val (.int lp), .val (.int lc), .unset, .unset] [(.ref la)])) t
          refine XS.iload Xj565.here hx rfl (hb hby at_435) rfl ?_
          exact ht
        obtain ⟨cl659, Ar659, qc659, Sz659, Nn659, Hh659, Gg659⟩ := id fj565_1
        have hi659 : lp.toNatClampNeg < 9 := own_nat rlp own_9
        have hin659 : ¬ (lp < 0 ∨ cl659.slots.size ≤ (lp).toNatClampNeg) := inb_of Sz659 rlp
        have hat659 : cl659.slots[(lp).toNatClampNeg]? = some (.int (own_ln.getD lp.toNatClampNeg 0)) := Hh659.at hin659 (own_get own_ln _)
        have k661 : Kt p e below m (s₁.setTop (entryFrame m #[(.int p1), (.int p2), (.int p3), (.int p4), (.int p5), (.int p6)] maxLocals)) Tj565 440 #[.val (.int p1), .val (.int p2), .val (.int p3), .val (.int p4), .val (.int p5), .val (.int p6), .val (.ref na), .val (.ref la), .val (.int nk), .val (.int np), .val (.int nc), .val (.int ok1), .val .null, .val (.int lk), .val (.int lp), .val (.int lc), .unset, .unset] [(.int lc), (.int (own_ln.getD lp.toNatClampNeg 0))] := by
          intro t ht
          refine k660 t ?_
          show Steps p.tables e below (Tj565.setTop (mkF m 437 #[.val (.int p1), .val (.int p2), .val (.int p3), .val (.int p4), .val (.int p5), .val (.int p6), .val (.ref na), .val (.ref la), .val (.int nk), .val (.int np), .val (.int nc), .val (.int ok1), .val .null, .val (.int lk), .val (.int lp), .val (.int lc), .unset, .unset] [(.int lp), (.ref la)])) t
          refine Xj565.caload hx (j := lp) (v := (.int (own_ln.getD lp.toNatClampNeg 0))) (by rw [ej565]; exact Ar659.1) (State.isArrayOf_alike hZj565.alike Ar659.2.1) Ar659.2.2 hin659 hat659 (g := (mkF m 437 #[.val (.int p1), .val (.int p2), .val (.int p3), .val (.int p4), .val (.int p5), .val (.int p6), .val (.ref na), .val (.ref la), .val (.int nk), .val (.int np), .val (.int nc), .val (.int ok1), .val .null, .val (.int lk), .val (.int lp), .val (.int lc), .unset, .unset] [(.int lp), (.ref la)])) rfl rfl (hb hby at_437) _ ?_
          show Steps p.tables e below (Tj565.setTop (mkF m 438 #[.val (.int p1), .val (.int p2), .val (.int p3), .val (.int p4), .val (.int p5), .val (.int p6), .val (.ref na), .val (.ref la), .val (.int nk), .val (.int np), .val (.int nc), .val (.int ok1), .val .null, .val (.int lk), .val (.int lp), .val (.int lc), .unset, .unset] [(.int (own_ln.getD lp.toNatClampNeg 0))])) t
          refine XS.iload Xj565.here hx rfl (hb hby at_438) rfl ?_
          exact ht
        obtain ⟨zb, hp662, k662⟩ : ∃ zb : Int32, (zb = own_b (own_ln.getD lp.toNatClampNeg 0 = lc)) ∧ Kt p e below m (s₁.setTop (entryFrame m #[(.int p1), (.int p2), (.int p3), (.int p4), (.int p5), (.int p6)] maxLocals)) Tj565 448 #[.val (.int p1), .val (.int p2), .val (.int p3), .val (.int p4), .val (.int p5), .val (.int p6), .val (.ref na), .val (.ref la), .val (.int nk), .val (.int np), .val (.int nc), .val (.int ok1), .val .null, .val (.int lk), .val (.int lp), .val (.int lc), .unset, .unset] [(.int zb)] := by
          by_cases hj663 : (own_ln.getD lp.toNatClampNeg 0) = lc
          · have k664 : Kt p e below m (s₁.setTop (entryFrame m #[(.int p1), (.int p2), (.int p3), (.int p4), (.int p5), (.int p6)] maxLocals)) Tj565 448 #[.val (.int p1), .val (.int p2), .val (.int p3), .val (.int p4), .val (.int p5), .val (.int p6), .val (.ref na), .val (.ref la), .val (.int nk), .val (.int np), .val (.int nc), .val (.int ok1), .val .null, .val (.int lk), .val (.int lp), .val (.int lc), .unset, .unset] [(.int (1 : Int32))] := by
              intro t ht
              refine k661 t ?_
              show Steps p.tables e below (Tj565.setTop (mkF m 440 #[.val (.int p1), .val (.int p2), .val (.int p3), .val (.int p4), .val (.int p5), .val (.int p6), .val (.ref na), .val (.ref la), .val (.int nk), .val (.int np), .val (.int nc), .val (.int ok1), .val .null, .val (.int lk), .val (.int lp), .val (.int lc), .unset, .unset] [(.int lc), (.int (own_ln.getD lp.toNatClampNeg 0))])) t
              refine XS.icmpNo Xj565.here hx rfl (hb hby at_440) rfl (teq hj663).2 ?_
              show Steps p.tables e below (Tj565.setTop (mkF m 443 #[.val (.int p1), .val (.int p2), .val (.int p3), .val (.int p4), .val (.int p5), .val (.int p6), .val (.ref na), .val (.ref la), .val (.int nk), .val (.int np), .val (.int nc), .val (.int ok1), .val .null, .val (.int lk), .val (.int lp), .val (.int lc), .unset, .unset] [])) t
              refine XS.iconst Xj565.here hx rfl (hb hby at_443) ?_
              show Steps p.tables e below (Tj565.setTop (mkF m 444 #[.val (.int p1), .val (.int p2), .val (.int p3), .val (.int p4), .val (.int p5), .val (.int p6), .val (.ref na), .val (.ref la), .val (.int nk), .val (.int np), .val (.int nc), .val (.int ok1), .val .null, .val (.int lk), .val (.int lp), .val (.int lc), .unset, .unset] [(.int (1 : Int32))])) t
              refine XS.goto Xj565.here hx rfl (pc0 := 444) (pc' := 448) rfl (hb hby at_444) (by decide) (by decide) ?_
              exact ht
            exact ⟨(1 : Int32), (own_b1 hj663), k664⟩
          · have k665 : Kt p e below m (s₁.setTop (entryFrame m #[(.int p1), (.int p2), (.int p3), (.int p4), (.int p5), (.int p6)] maxLocals)) Tj565 448 #[.val (.int p1), .val (.int p2), .val (.int p3), .val (.int p4), .val (.int p5), .val (.int p6), .val (.ref na), .val (.ref la), .val (.int nk), .val (.int np), .val (.int nc), .val (.int ok1), .val .null, .val (.int lk), .val (.int lp), .val (.int lc), .unset, .unset] [(.int (0 : Int32))] := by
              intro t ht
              refine k661 t ?_
              show Steps p.tables e below (Tj565.setTop (mkF m 440 #[.val (.int p1), .val (.int p2), .val (.int p3), .val (.int p4), .val (.int p5), .val (.int p6), .val (.ref na), .val (.ref la), .val (.int nk), .val (.int np), .val (.int nc), .val (.int ok1), .val .null, .val (.int lk), .val (.int lp), .val (.int lc), .unset, .unset] [(.int lc), (.int (own_ln.getD lp.toNatClampNeg 0))])) t
              refine XS.icmpYes Xj565.here hx rfl (pc0 := 440) (pc' := 447) rfl (hb hby at_440) rfl (feq hj663).2 (by decide) (by decide) ?_
              show Steps p.tables e below (Tj565.setTop (mkF m 447 #[.val (.int p1), .val (.int p2), .val (.int p3), .val (.int p4), .val (.int p5), .val (.int p6), .val (.ref na), .val (.ref la), .val (.int nk), .val (.int np), .val (.int nc), .val (.int ok1), .val .null, .val (.int lk), .val (.int lp), .val (.int lc), .unset, .unset] [])) t
              refine XS.iconst Xj565.here hx rfl (hb hby at_447) ?_
              exact ht
            exact ⟨(0 : Int32), (own_b0 hj663), k665⟩
        have k666 : Kt p e below m (s₁.setTop (entryFrame m #[(.int p1), (.int p2), (.int p3), (.int p4), (.int p5), (.int p6)] maxLocals)) Tj565 456 #[.val (.int p1), .val (.int p2), .val (.int p3), .val (.int p4), .val (.int p5), .val (.int p6), .val (.ref na), .val (.ref la), .val (.int nk), .val (.int np), .val (.int nc), .val (.int ok1), .val .null, .val (.int lk), .val (.int lp), .val (.int lc), .val (.int zb), .unset] [(.int lc), (.int lp), (.ref la)] := by
          intro t ht
          refine k662 t ?_
          show Steps p.tables e below (Tj565.setTop (mkF m 448 #[.val (.int p1), .val (.int p2), .val (.int p3), .val (.int p4), .val (.int p5), .val (.int p6), .val (.ref na), .val (.ref la), .val (.int nk), .val (.int np), .val (.int nc), .val (.int ok1), .val .null, .val (.int lk), .val (.int lp), .val (.int lc), .unset, .unset] [(.int zb)])) t
          refine XS.istore Xj565.here hx rfl (hb hby at_448) rfl (l' := #[.val (.int p1), .val (.int p2), .val (.int p3), .val (.int p4), .val (.int p5), .val (.int p6), .val (.ref na), .val (.ref la), .val (.int nk), .val (.int np), .val (.int nc), .val (.int ok1), .val .null, .val (.int lk), .val (.int lp), .val (.int lc), .val (.int zb), .unset]) rfl ?_
          show Steps p.tables e below (Tj565.setTop (mkF m 450 #[.val (.int p1), .val (.int p2), .val (.int p3), .val (.int p4), .val (.int p5), .val (.int p6), .val (.ref na), .val (.ref la), .val (.int nk), .val (.int np), .val (.int nc), .val (.int ok1), .val .null, .val (.int lk), .val (.int lp), .val (.int lc), .val (.int zb), .unset] [])) t
          refine XS.aload Xj565.here hx rfl (hb hby at_450) rfl rfl ?_
          show Steps p.tables e below (Tj565.setTop (mkF m 452 #[.val (.int p1), .val (.int p2), .val (.int p3), .val (.int p4), .val (.int p5), .val (.int p6), .val (.ref na), .val (.ref la), .val (.int nk), .val (.int np), .val (.int nc), .val (.int ok1), .val .null, .val (.int lk), .val (.int lp), .val (.int lc), .val (.int zb), .unset] [(.ref la)])) t
          refine XS.iload Xj565.here hx rfl (hb hby at_452) rfl ?_
          show Steps p.tables e below (Tj565.setTop (mkF m 454 #[.val (.int p1), .val (.int p2), .val (.int p3), .val (.int p4), .val (.int p5), .val (.int p6), .val (.ref na), .val (.ref la), .val (.int nk), .val (.int np), .val (.int nc), .val (.int ok1), .val .null, .val (.int lk), .val (.int lp), .val (.int lc), .val (.int zb), .unset] [(.int lp), (.ref la)])) t
          refine XS.iload Xj565.here hx rfl (hb hby at_454) rfl ?_
          exact ht
        obtain ⟨T667, h667, X667, e667, W667, st667⟩ := stC Xj565 hx hZj565 ej565 Ar659 (j := lp) hin659 (g := (mkF m 456 #[.val (.int p1), .val (.int p2), .val (.int p3), .val (.int p4), .val (.int p5), .val (.int p6), .val (.ref na), .val (.ref la), .val (.int nk), .val (.int np), .val (.int nc), .val (.int ok1), .val .null, .val (.int lk), .val (.int lp), .val (.int lc), .val (.int zb), .unset] [(.int lc), (.int lp), (.ref la)])) rfl rfl (hb hby at_456)
        have N667 := Fr.snoc X667 Nj565 g_la
        have f668 : n0 ≤ h667.size := Nat.le_trans zj565 (Keep.of_wr W667).1
        have f669 : Old Z n0 h667 := fj565_0.wr W667 g_la
        have f670 : Arv Z h667 la ak468 .char (9 : Int32) ((own_ln.set lp.toNatClampNeg lc).map Value.int) (.int (0 : Int32)) := by rw [← own_set]; have q := Arv.set Ar659 qc659 Sz659 Nn659 Hh659 Gg659 (fits_nar_char _) W667 _ rfl (by rw [List.length_map]; exact hi659); rw [own_nar rlc] at q; exact q
        have f671 : Safe Z consts_1 vmj565 h667 la := Safe.wr W667 fj565_2 Rj565.1 fj565_2
        have f672 : CHr Z consts_1 s.vm h0 vmj565 h667 := Rj565.trans (CHr.wr W667 fj565_2 Rj565.1)
        have f673 : kbj565 ≤ h667.size := Nat.le_trans hkj565 (Keep.of_wr W667).1
        have k667 : Kt p e below m (s₁.setTop (entryFrame m #[(.int p1), (.int p2), (.int p3), (.int p4), (.int p5), (.int p6)] maxLocals)) T667 457 #[.val (.int p1), .val (.int p2), .val (.int p3), .val (.int p4), .val (.int p5), .val (.int p6), .val (.ref na), .val (.ref la), .val (.int nk), .val (.int np), .val (.int nc), .val (.int ok1), .val .null, .val (.int lk), .val (.int lp), .val (.int lc), .val (.int zb), .unset] [] := fun t ht => k666 t (st667 t ht)
        obtain ⟨T674, h674, X674, e674, E674, A674, D674, -, st674⟩ := newO X667 hx hZj565 hownj565 (hw _ (List.mem_of_getElem? (i := 2) rfl)) (hw _ (List.mem_of_getElem? (i := 3) rfl)) (hw _ (List.mem_of_getElem? (i := 4) rfl)) e667 (g := (mkF m 457 #[.val (.int p1), .val (.int p2), .val (.int p3), .val (.int p4), .val (.int p5), .val (.int p6), .val (.ref na), .val (.ref la), .val (.int nk), .val (.int np), .val (.int nc), .val (.int ok1), .val .null, .val (.int lk), .val (.int lp), .val (.int lc), .val (.int zb), .unset] [])) rfl (hb hby at_457) (by decide) (by decide)
        obtain ⟨sx, q674⟩ : ∃ z, z = h667.size := ⟨_, rfl⟩
        have ne_la_sx : la ≠ sx := by rw [q674]; exact Nat.ne_of_lt f670.lt
        have g_sx : n0 ≤ sx := by rw [q674]; exact f668
        rw [← q674] at A674 D674 st674
        have f675 : n0 ≤ h674.size := Nat.le_trans f668 E674.1
        have f676 : Old Z n0 h674 := f669.ext E674
        have f677 : Arv Z h674 la ak468 .char (9 : Int32) ((own_ln.set lp.toNatClampNeg lc).map Value.int) (.int (0 : Int32)) := f670.ext E674
        have f678 : Safe Z consts_1 vmj565 h674 la := f671.ext E674 f672.1
        have f679 : CHr Z consts_1 s.vm h0 vmj565 h674 := f672.trans (CHr.ext E674 f672.1)
        have f680 : kbj565 ≤ h674.size := Nat.le_trans f673 E674.1
        have Sf674 : Safe Z consts_1 vmj565 h674 sx := Safe.ext E674 f672.1 (Safe.new (by rw [q674]; exact Nat.le_refl _))
        have f674 : Exa Z h674 sx "java/lang/String" := A674
        have f681 : Fld Z h674 sx "java/lang/String" "coder" "B" (.int (0 : Int32)) := D674 (Or.inr (hw _ (List.mem_of_getElem? (i := 28) rfl))) (ty := .byte) (by decide)
        have f682 : Fld Z h674 sx "java/lang/String" "value" "[B" .null := D674 (Or.inr (hw _ (List.mem_of_getElem? (i := 30) rfl))) (ty := (.array .byte)) (by decide)
        have k674 : Kt p e below m (s₁.setTop (entryFrame m #[(.int p1), (.int p2), (.int p3), (.int p4), (.int p5), (.int p6)] maxLocals)) T674 460 #[.val (.int p1), .val (.int p2), .val (.int p3), .val (.int p4), .val (.int p5), .val (.int p6), .val (.ref na), .val (.ref la), .val (.int nk), .val (.int np), .val (.int nc), .val (.int ok1), .val .null, .val (.int lk), .val (.int lp), .val (.int lc), .val (.int zb), .unset] [(.ref sx)] := fun t ht => k667 t (st674 t ht)
        have hp667 : ∀ c ∈ (own_ln.set lp.toNatClampNeg lc), ¬ c < 0 ∧ ¬ (255 : Int32) < c := own_setr own_ln_r rlc
        have k683 : Kt p e below m (s₁.setTop (entryFrame m #[(.int p1), (.int p2), (.int p3), (.int p4), (.int p5), (.int p6)] maxLocals)) T674 463 #[.val (.int p1), .val (.int p2), .val (.int p3), .val (.int p4), .val (.int p5), .val (.int p6), .val (.ref na), .val (.ref la), .val (.int nk), .val (.int np), .val (.int nc), .val (.int ok1), .val .null, .val (.int lk), .val (.int lp), .val (.int lc), .val (.int zb), .unset] [(.ref la), (.ref sx), (.ref sx)] := by
          intro t ht
          refine k674 t ?_
          show Steps p.tables e below (T674.setTop (mkF m 460 #[.val (.int p1), .val (.int p2), .val (.int p3), .val (.int p4), .val (.int p5), .val (.int p6), .val (.ref na), .val (.ref la), .val (.int nk), .val (.int np), .val (.int nc), .val (.int ok1), .val .null, .val (.int lk), .val (.int lp), .val (.int lc), .val (.int zb), .unset] [(.ref sx)])) t
          refine XS.dup X674.here hx rfl (hb hby at_460) rfl rfl ?_
          show Steps p.tables e below (T674.setTop (mkF m 461 #[.val (.int p1), .val (.int p2), .val (.int p3), .val (.int p4), .val (.int p5), .val (.int p6), .val (.ref na), .val (.ref la), .val (.int nk), .val (.int np), .val (.int nc), .val (.int ok1), .val .null, .val (.int lk), .val (.int lp), .val (.int lc), .val (.int zb), .unset] [(.ref sx), (.ref sx)])) t
          refine XS.aload X674.here hx rfl (hb hby at_461) rfl rfl ?_
          exact ht
        obtain ⟨_, _, ⟨T684, L684, c684, n684⟩, -, X684, ⟨Lc684, hQ684, l684, y684, z684⟩, st684⟩ := X674.specialBack hx (y := (⟨"java/lang/String", "<init>", "([C)V"⟩ : MethodName)) rfl hownj565 (mvT hZj565 (hw _ (List.mem_of_getElem? (i := 5) rfl))) (mvT hZj565 (hw _ (List.mem_of_getElem? (i := 6) rfl))) (mvT hZj565 (hw _ (List.mem_of_getElem? (i := 7) rfl))) (by decide) (StrChars.Road.backV (W := 1) hZj565 hws (kI := 4) (hw _ (List.mem_of_getElem? (i := 3) rfl)) (cs := (own_ln.set lp.toNatClampNeg lc)) (bs := (own_ln.set lp.toNatClampNeg lc).map (fun c => c.toInt8.toInt32)) (n := 9) g_sx f675 f674 f682 f681 f677 (S1.ext f676.2) P5 (by rw [List.length_set]; rfl) rfl (by decide) (by decide) hp667 rfl (by decide) (by decide)) (g := (mkF m 463 #[.val (.int p1), .val (.int p2), .val (.int p3), .val (.int p4), .val (.int p5), .val (.int p6), .val (.ref na), .val (.ref la), .val (.int nk), .val (.int np), .val (.int nc), .val (.int ok1), .val .null, .val (.int lk), .val (.int lp), .val (.int lc), .val (.int zb), .unset] [(.ref la), (.ref sx), (.ref sx)])) rfl (by rw [hml]; rfl) (Steps.refl _) (a := sx) (argsL := [(.ref la)]) (rest := [(.ref sx)]) (lenOf pd_9 rfl) rfl (by show 2 * 0 + _ ≤ _; exact Nat.le_of_eq rfl) (hb hby at_463) (fun _ _ => ⟨rfl, e674, (by decide : 7 + 1 ≤ _), (by decide : 225 + 9 ≤ _)⟩)
        dsimp only [Pt.U, Pt.locs, Pt.cells, Pt.slots] at X684 l684 y684 z684 st684 hQ684
        subst l684 y684 z684
        obtain ⟨rfl, Nq684, Kp684, Ev684, Fc684, t684, kb684, -, -, -, Fv684, Va684⟩ := hQ684
        have N684 := Fr.app N667 Nq684
        have k684 : Kt p e below m (s₁.setTop (entryFrame m #[(.int p1), (.int p2), (.int p3), (.int p4), (.int p5), (.int p6)] maxLocals)) T684 466 #[.val (.int p1), .val (.int p2), .val (.int p3), .val (.int p4), .val (.int p5), .val (.int p6), .val (.ref na), .val (.ref la), .val (.int nk), .val (.int np), .val (.int nc), .val (.int ok1), .val .null, .val (.int lk), .val (.int lp), .val (.int lc), .val (.int zb), .unset] [(.ref sx)] := fun t ht => k683 t (st684.trans ht)
        have f685 : n0 ≤ T684.heap.size := Nat.le_trans f675 Kp684.1
        have f686 : Old Z n0 T684.heap := f676.keep Kp684 (allS g_sx all0)
        have f687 : Arv Z T684.heap la ak468 .char (9 : Int32) ((own_ln.set lp.toNatClampNeg lc).map Value.int) (.int (0 : Int32)) := f677.keep Kp684 (ninS ne_la_sx nin0)
        have f688 : Safe Z consts_1 vmj565 T684.heap la := Safe.keep Kp684 (sfS Sf674 sf0) f679.1 f678
        have f689 : CHr Z consts_1 s.vm h0 vmj565 T684.heap := f679.trans (CHr.keep Kp684 (sfS Sf674 sf0) f679.1)
        have f690 : kbj565 ≤ T684.heap.size := Nat.le_trans f680 Kp684.1
        have f691 : Safe Z consts_1 vmj565 T684.heap sx := Safe.keep Kp684 (sfS Sf674 sf0) f679.1 Sf674
        have f692 : Exa Z T684.heap sx "java/lang/String" := f674.keep Kp684
        have hl684 : (own_ln.set lp.toNatClampNeg lc).length = 9 := by rw [List.length_set]; rfl
        have k695 : Kt p e below m (s₁.setTop (entryFrame m #[(.int p1), (.int p2), (.int p3), (.int p4), (.int p5), (.int p6)] maxLocals)) T684 560 #[.val (.int p1), .val (.int p2), .val (.int p3), .val (.int p4), .val (.int p5), .val (.int p6), .val (.ref na), .val (.ref la), .val (.int nk), .val (.int np), .val (.int nc), .val (.int ok1), .val .null, .val (.int lk), .val (.int lp), .val (.int lc), .val (.int zb), .val (.ref sx)] [] := by
          intro t ht
          refine k684 t ?_
          show Steps p.tables e below (T684.setTop (mkF m 466 #[.val (.int p1), .val (.int p2), .val (.int p3), .val (.int p4), .val (.int p5), .val (.int p6), .val (.ref na), .val (.ref la), .val (.int nk), .val (.int np), .val (.int nc), .val (.int ok1), .val .null, .val (.int lk), .val (.int lp), .val (.int lc), .val (.int zb), .unset] [(.ref sx)])) t
          refine XS.astore X684.here hx rfl (hb hby at_466) rfl rfl (l' := #[.val (.int p1), .val (.int p2), .val (.int p3), .val (.int p4), .val (.int p5), .val (.int p6), .val (.ref na), .val (.ref la), .val (.int nk), .val (.int np), .val (.int nc), .val (.int ok1), .val .null, .val (.int lk), .val (.int lp), .val (.int lc), .val (.int zb), .val (.ref sx)]) rfl ?_
          show Steps p.tables e below (T684.setTop (mkF m 468 #[.val (.int p1), .val (.int p2), .val (.int p3), .val (.int p4), .val (.int p5), .val (.int p6), .val (.ref na), .val (.ref la), .val (.int nk), .val (.int np), .val (.int nc), .val (.int ok1), .val .null, .val (.int lk), .val (.int lp), .val (.int lc), .val (.int zb), .val (.ref sx)] [])) t
          refine XS.goto X684.here hx rfl (pc0 := 468) (pc' := 560) rfl (hb hby at_468) (by decide) (by decide) ?_
          exact ht
        exact ⟨vmj565, T684, T684.heap, _, kbj565, zb, (.ref sx), X684.mono (by decide) (by decide), rfl, N684, f685, f686, f689, hSj565, f690, hZj565, hownj565, Or.inr ⟨sx, t684, kb684, (own_ln.set lp.toNatClampNeg lc), rfl, Ev684, Fc684, Fv684, by rw [hl684]; exact Va684, hp667, by rw [hl684]; decide, hp662.trans (own_bn (own_sete hi659).symm)⟩, k695⟩
      · have k696 : Kt p e below m (s₁.setTop (entryFrame m #[(.int p1), (.int p2), (.int p3), (.int p4), (.int p5), (.int p6)] maxLocals)) Tj565 474 #[.val (.int p1), .val (.int p2), .val (.int p3), .val (.int p4), .val (.int p5), .val (.int p6), .val (.ref na), .val (.ref la), .val (.int nk), .val (.int np), .val (.int nc), .val (.int ok1), .val .null, .val (.int lk), .val (.int lp), .val (.int lc), .unset, .unset] [(.int (1 : Int32)), (.int lk)] := by
          intro t ht
          refine k657 t ?_
          show Steps p.tables e below (Tj565.setTop (mkF m 430 #[.val (.int p1), .val (.int p2), .val (.int p3), .val (.int p4), .val (.int p5), .val (.int p6), .val (.ref na), .val (.ref la), .val (.int nk), .val (.int np), .val (.int nc), .val (.int ok1), .val .null, .val (.int lk), .val (.int lp), .val (.int lc), .unset, .unset] [(.int lk)])) t
          refine XS.ifYes Xj565.here hx rfl (pc0 := 430) (pc' := 471) rfl (hb hby at_430) rfl ((if0 _ _).trans (feq hk0).2) (by decide) (by decide) ?_
          show Steps p.tables e below (Tj565.setTop (mkF m 471 #[.val (.int p1), .val (.int p2), .val (.int p3), .val (.int p4), .val (.int p5), .val (.int p6), .val (.ref na), .val (.ref la), .val (.int nk), .val (.int np), .val (.int nc), .val (.int ok1), .val .null, .val (.int lk), .val (.int lp), .val (.int lc), .unset, .unset] [])) t
          refine XS.iload Xj565.here hx rfl (hb hby at_471) rfl ?_
          show Steps p.tables e below (Tj565.setTop (mkF m 473 #[.val (.int p1), .val (.int p2), .val (.int p3), .val (.int p4), .val (.int p5), .val (.int p6), .val (.ref na), .val (.ref la), .val (.int nk), .val (.int np), .val (.int nc), .val (.int ok1), .val .null, .val (.int lk), .val (.int lp), .val (.int lc), .unset, .unset] [(.int lk)])) t
          refine XS.iconst Xj565.here hx rfl (hb hby at_473) ?_
          exact ht
        by_cases hk1 : lk = (1 : Int32)
        · have k697 : Kt p e below m (s₁.setTop (entryFrame m #[(.int p1), (.int p2), (.int p3), (.int p4), (.int p5), (.int p6)] maxLocals)) Tj565 560 #[.val (.int p1), .val (.int p2), .val (.int p3), .val (.int p4), .val (.int p5), .val (.int p6), .val (.ref na), .val (.ref la), .val (.int nk), .val (.int np), .val (.int nc), .val (.int ok1), .val .null, .val (.int lk), .val (.int lp), .val (.int lc), .val (.int (0 : Int32)), .val .null] [] := by
            intro t ht
            refine k696 t ?_
            show Steps p.tables e below (Tj565.setTop (mkF m 474 #[.val (.int p1), .val (.int p2), .val (.int p3), .val (.int p4), .val (.int p5), .val (.int p6), .val (.ref na), .val (.ref la), .val (.int nk), .val (.int np), .val (.int nc), .val (.int ok1), .val .null, .val (.int lk), .val (.int lp), .val (.int lc), .unset, .unset] [(.int (1 : Int32)), (.int lk)])) t
            refine XS.icmpNo Xj565.here hx rfl (hb hby at_474) rfl (teq hk1).2 ?_
            show Steps p.tables e below (Tj565.setTop (mkF m 477 #[.val (.int p1), .val (.int p2), .val (.int p3), .val (.int p4), .val (.int p5), .val (.int p6), .val (.ref na), .val (.ref la), .val (.int nk), .val (.int np), .val (.int nc), .val (.int ok1), .val .null, .val (.int lk), .val (.int lp), .val (.int lc), .unset, .unset] [])) t
            refine XS.iconst Xj565.here hx rfl (hb hby at_477) ?_
            show Steps p.tables e below (Tj565.setTop (mkF m 478 #[.val (.int p1), .val (.int p2), .val (.int p3), .val (.int p4), .val (.int p5), .val (.int p6), .val (.ref na), .val (.ref la), .val (.int nk), .val (.int np), .val (.int nc), .val (.int ok1), .val .null, .val (.int lk), .val (.int lp), .val (.int lc), .unset, .unset] [(.int (0 : Int32))])) t
            refine XS.istore Xj565.here hx rfl (hb hby at_478) rfl (l' := #[.val (.int p1), .val (.int p2), .val (.int p3), .val (.int p4), .val (.int p5), .val (.int p6), .val (.ref na), .val (.ref la), .val (.int nk), .val (.int np), .val (.int nc), .val (.int ok1), .val .null, .val (.int lk), .val (.int lp), .val (.int lc), .val (.int (0 : Int32)), .unset]) rfl ?_
            show Steps p.tables e below (Tj565.setTop (mkF m 480 #[.val (.int p1), .val (.int p2), .val (.int p3), .val (.int p4), .val (.int p5), .val (.int p6), .val (.ref na), .val (.ref la), .val (.int nk), .val (.int np), .val (.int nc), .val (.int ok1), .val .null, .val (.int lk), .val (.int lp), .val (.int lc), .val (.int (0 : Int32)), .unset] [])) t
            refine XS.aconstNull Xj565.here hx rfl (hb hby at_480) ?_
            show Steps p.tables e below (Tj565.setTop (mkF m 481 #[.val (.int p1), .val (.int p2), .val (.int p3), .val (.int p4), .val (.int p5), .val (.int p6), .val (.ref na), .val (.ref la), .val (.int nk), .val (.int np), .val (.int nc), .val (.int ok1), .val .null, .val (.int lk), .val (.int lp), .val (.int lc), .val (.int (0 : Int32)), .unset] [.null])) t
            refine XS.astore Xj565.here hx rfl (hb hby at_481) rfl rfl (l' := #[.val (.int p1), .val (.int p2), .val (.int p3), .val (.int p4), .val (.int p5), .val (.int p6), .val (.ref na), .val (.ref la), .val (.int nk), .val (.int np), .val (.int nc), .val (.int ok1), .val .null, .val (.int lk), .val (.int lp), .val (.int lc), .val (.int (0 : Int32)), .val .null]) rfl ?_
            show Steps p.tables e below (Tj565.setTop (mkF m 483 #[.val (.int p1), .val (.int p2), .val (.int p3), .val (.int p4), .val (.int p5), .val (.int p6), .val (.ref na), .val (.ref la), .val (.int nk), .val (.int np), .val (.int nc), .val (.int ok1), .val .null, .val (.int lk), .val (.int lp), .val (.int lc), .val (.int (0 : Int32)), .val .null] [])) t
            refine XS.goto Xj565.here hx rfl (pc0 := 483) (pc' := 560) rfl (hb hby at_483) (by decide) (by decide) ?_
            exact ht
          exact ⟨vmj565, Tj565, hj565, _, kbj565, (0 : Int32), .null, Xj565.mono (by decide) (by decide), ej565, Nj565, zj565, fj565_0, Rj565, hSj565, hkj565, hZj565, hownj565, Or.inl ⟨rfl, rfl⟩, k697⟩
        · have k698 : Kt p e below m (s₁.setTop (entryFrame m #[(.int p1), (.int p2), (.int p3), (.int p4), (.int p5), (.int p6)] maxLocals)) Tj565 489 #[.val (.int p1), .val (.int p2), .val (.int p3), .val (.int p4), .val (.int p5), .val (.int p6), .val (.ref na), .val (.ref la), .val (.int nk), .val (.int np), .val (.int nc), .val (.int ok1), .val .null, .val (.int lk), .val (.int lp), .val (.int lc), .unset, .unset] [(.int (2 : Int32)), (.int lk)] := by
            intro t ht
            refine k696 t ?_
            show Steps p.tables e below (Tj565.setTop (mkF m 474 #[.val (.int p1), .val (.int p2), .val (.int p3), .val (.int p4), .val (.int p5), .val (.int p6), .val (.ref na), .val (.ref la), .val (.int nk), .val (.int np), .val (.int nc), .val (.int ok1), .val .null, .val (.int lk), .val (.int lp), .val (.int lc), .unset, .unset] [(.int (1 : Int32)), (.int lk)])) t
            refine XS.icmpYes Xj565.here hx rfl (pc0 := 474) (pc' := 486) rfl (hb hby at_474) rfl (feq hk1).2 (by decide) (by decide) ?_
            show Steps p.tables e below (Tj565.setTop (mkF m 486 #[.val (.int p1), .val (.int p2), .val (.int p3), .val (.int p4), .val (.int p5), .val (.int p6), .val (.ref na), .val (.ref la), .val (.int nk), .val (.int np), .val (.int nc), .val (.int ok1), .val .null, .val (.int lk), .val (.int lp), .val (.int lc), .unset, .unset] [])) t
            refine XS.iload Xj565.here hx rfl (hb hby at_486) rfl ?_
            show Steps p.tables e below (Tj565.setTop (mkF m 488 #[.val (.int p1), .val (.int p2), .val (.int p3), .val (.int p4), .val (.int p5), .val (.int p6), .val (.ref na), .val (.ref la), .val (.int nk), .val (.int np), .val (.int nc), .val (.int ok1), .val .null, .val (.int lk), .val (.int lp), .val (.int lc), .unset, .unset] [(.int lk)])) t
            refine XS.iconst Xj565.here hx rfl (hb hby at_488) ?_
            exact ht
          by_cases hk2 : lk = (2 : Int32)
          · have k699 : Kt p e below m (s₁.setTop (entryFrame m #[(.int p1), (.int p2), (.int p3), (.int p4), (.int p5), (.int p6)] maxLocals)) Tj565 497 #[.val (.int p1), .val (.int p2), .val (.int p3), .val (.int p4), .val (.int p5), .val (.int p6), .val (.ref na), .val (.ref la), .val (.int nk), .val (.int np), .val (.int nc), .val (.int ok1), .val .null, .val (.int lk), .val (.int lp), .val (.int lc), .val (.int (0 : Int32)), .unset] [(.int lc)] := by
              intro t ht
              refine k698 t ?_
              show Steps p.tables e below (Tj565.setTop (mkF m 489 #[.val (.int p1), .val (.int p2), .val (.int p3), .val (.int p4), .val (.int p5), .val (.int p6), .val (.ref na), .val (.ref la), .val (.int nk), .val (.int np), .val (.int nc), .val (.int ok1), .val .null, .val (.int lk), .val (.int lp), .val (.int lc), .unset, .unset] [(.int (2 : Int32)), (.int lk)])) t
              refine XS.icmpNo Xj565.here hx rfl (hb hby at_489) rfl (teq hk2).2 ?_
              show Steps p.tables e below (Tj565.setTop (mkF m 492 #[.val (.int p1), .val (.int p2), .val (.int p3), .val (.int p4), .val (.int p5), .val (.int p6), .val (.ref na), .val (.ref la), .val (.int nk), .val (.int np), .val (.int nc), .val (.int ok1), .val .null, .val (.int lk), .val (.int lp), .val (.int lc), .unset, .unset] [])) t
              refine XS.iconst Xj565.here hx rfl (hb hby at_492) ?_
              show Steps p.tables e below (Tj565.setTop (mkF m 493 #[.val (.int p1), .val (.int p2), .val (.int p3), .val (.int p4), .val (.int p5), .val (.int p6), .val (.ref na), .val (.ref la), .val (.int nk), .val (.int np), .val (.int nc), .val (.int ok1), .val .null, .val (.int lk), .val (.int lp), .val (.int lc), .unset, .unset] [(.int (0 : Int32))])) t
              refine XS.istore Xj565.here hx rfl (hb hby at_493) rfl (l' := #[.val (.int p1), .val (.int p2), .val (.int p3), .val (.int p4), .val (.int p5), .val (.int p6), .val (.ref na), .val (.ref la), .val (.int nk), .val (.int np), .val (.int nc), .val (.int ok1), .val .null, .val (.int lk), .val (.int lp), .val (.int lc), .val (.int (0 : Int32)), .unset]) rfl ?_
              show Steps p.tables e below (Tj565.setTop (mkF m 495 #[.val (.int p1), .val (.int p2), .val (.int p3), .val (.int p4), .val (.int p5), .val (.int p6), .val (.ref na), .val (.ref la), .val (.int nk), .val (.int np), .val (.int nc), .val (.int ok1), .val .null, .val (.int lk), .val (.int lp), .val (.int lc), .val (.int (0 : Int32)), .unset] [])) t
              refine XS.iload Xj565.here hx rfl (hb hby at_495) rfl ?_
              exact ht
            obtain ⟨_, _, ⟨T700, L700, c700, n700⟩, -, X700, ⟨Lc700, hQ700, l700, y700, z700⟩, st700⟩ := Jvm.LawKit.callS Xj565 hx (y := (⟨"java/lang/String", "valueOf", "(C)Ljava/lang/String;"⟩ : MethodName)) hownj565 (mvT hZj565 (hw _ (List.mem_of_getElem? (i := 52) rfl))) (mvT hZj565 (hw _ (List.mem_of_getElem? (i := 53) rfl))) (mvT hZj565 (hw _ (List.mem_of_getElem? (i := 4) rfl))) (mvT hZj565 (hw _ (List.mem_of_getElem? (i := 54) rfl))) (by decide) (backOf (W := 0) (rm10 l Z a0 hw [] lc G1 hj565 n0 zj565 S1 P5 fj565_0 rlc.2) hZj565 (hw _ (List.mem_of_getElem? (i := 54) rfl)) (hw _ (List.mem_of_getElem? (i := 4) rfl)) (by decide) (by decide)) (g := (mkF m 497 #[.val (.int p1), .val (.int p2), .val (.int p3), .val (.int p4), .val (.int p5), .val (.int p6), .val (.ref na), .val (.ref la), .val (.int nk), .val (.int np), .val (.int nc), .val (.int ok1), .val .null, .val (.int lk), .val (.int lp), .val (.int lc), .val (.int (0 : Int32)), .unset] [(.int lc)])) rfl (by rw [hml]; rfl) (argsL := [(.int lc)]) (rest := []) (lenOf pd_1 rfl) rfl (by show 2 * 0 + _ ≤ _; exact Nat.le_of_eq rfl) (hb hby at_497) (fun _ _ => ⟨rfl, ej565, (by decide : 6 + 2 ≤ _), (by decide : 221 + 5 ≤ _)⟩)
            dsimp only [Pt.U, Pt.locs, Pt.cells, Pt.slots] at X700 l700 y700 z700 st700 hQ700
            subst l700 y700 z700
            obtain ⟨sx, tx, kx, rfl, Nq700, Kp700, Ev700, Fc700, Fv700, Va700⟩ := hQ700
            have N700 := Fr.app Nj565 Nq700
            have k700 : Kt p e below m (s₁.setTop (entryFrame m #[(.int p1), (.int p2), (.int p3), (.int p4), (.int p5), (.int p6)] maxLocals)) T700 500 #[.val (.int p1), .val (.int p2), .val (.int p3), .val (.int p4), .val (.int p5), .val (.int p6), .val (.ref na), .val (.ref la), .val (.int nk), .val (.int np), .val (.int nc), .val (.int ok1), .val .null, .val (.int lk), .val (.int lp), .val (.int lc), .val (.int (0 : Int32)), .unset] [(.ref sx)] := fun t ht => k699 t (st700 t ht)
            have f701 : n0 ≤ T700.heap.size := Nat.le_trans zj565 Kp700.1
            have f702 : Old Z n0 T700.heap := fj565_0.keep Kp700 all0
            have f703 : Arv Z T700.heap la ak468 .char (9 : Int32) (own_ln.map Value.int) (.int (0 : Int32)) := fj565_1.keep Kp700 nin0
            have f704 : Safe Z consts_1 vmj565 T700.heap la := Safe.keep Kp700 sf0 Rj565.1 fj565_2
            have f705 : CHr Z consts_1 s.vm h0 vmj565 T700.heap := Rj565.trans (CHr.keep Kp700 sf0 Rj565.1)
            have f706 : kbj565 ≤ T700.heap.size := Nat.le_trans hkj565 Kp700.1
            have rv : ∀ c ∈ ([lc] : List Int32), own_r c := by intro c hc; simp at hc; subst hc; exact rlc
            have k707 : Kt p e below m (s₁.setTop (entryFrame m #[(.int p1), (.int p2), (.int p3), (.int p4), (.int p5), (.int p6)] maxLocals)) T700 560 #[.val (.int p1), .val (.int p2), .val (.int p3), .val (.int p4), .val (.int p5), .val (.int p6), .val (.ref na), .val (.ref la), .val (.int nk), .val (.int np), .val (.int nc), .val (.int ok1), .val .null, .val (.int lk), .val (.int lp), .val (.int lc), .val (.int (0 : Int32)), .val (.ref sx)] [] := by
              intro t ht
              refine k700 t ?_
              show Steps p.tables e below (T700.setTop (mkF m 500 #[.val (.int p1), .val (.int p2), .val (.int p3), .val (.int p4), .val (.int p5), .val (.int p6), .val (.ref na), .val (.ref la), .val (.int nk), .val (.int np), .val (.int nc), .val (.int ok1), .val .null, .val (.int lk), .val (.int lp), .val (.int lc), .val (.int (0 : Int32)), .unset] [(.ref sx)])) t
              refine XS.astore X700.here hx rfl (hb hby at_500) rfl rfl (l' := #[.val (.int p1), .val (.int p2), .val (.int p3), .val (.int p4), .val (.int p5), .val (.int p6), .val (.ref na), .val (.ref la), .val (.int nk), .val (.int np), .val (.int nc), .val (.int ok1), .val .null, .val (.int lk), .val (.int lp), .val (.int lc), .val (.int (0 : Int32)), .val (.ref sx)]) rfl ?_
              show Steps p.tables e below (T700.setTop (mkF m 502 #[.val (.int p1), .val (.int p2), .val (.int p3), .val (.int p4), .val (.int p5), .val (.int p6), .val (.ref na), .val (.ref la), .val (.int nk), .val (.int np), .val (.int nc), .val (.int ok1), .val .null, .val (.int lk), .val (.int lp), .val (.int lc), .val (.int (0 : Int32)), .val (.ref sx)] [])) t
              refine XS.goto X700.here hx rfl (pc0 := 502) (pc' := 560) rfl (hb hby at_502) (by decide) (by decide) ?_
              exact ht
            exact ⟨vmj565, T700, T700.heap, _, kbj565, (0 : Int32), (.ref sx), X700.mono (by decide) (by decide), rfl, N700, f701, f702, f705, hSj565, f706, hZj565, hownj565, Or.inr ⟨sx, tx, kx, [lc], rfl, Ev700, Fc700, Fv700, Va700, rv, by show 1 ≤ 4000; decide, own_b0 (fun q => absurd (congrArg List.length q) (by show ¬ (own_ln.length = 1); decide))⟩, k707⟩
          · have k708 : Kt p e below m (s₁.setTop (entryFrame m #[(.int p1), (.int p2), (.int p3), (.int p4), (.int p5), (.int p6)] maxLocals)) Tj565 508 #[.val (.int p1), .val (.int p2), .val (.int p3), .val (.int p4), .val (.int p5), .val (.int p6), .val (.ref na), .val (.ref la), .val (.int nk), .val (.int np), .val (.int nc), .val (.int ok1), .val .null, .val (.int lk), .val (.int lp), .val (.int lc), .unset, .unset] [(.int (3 : Int32)), (.int lk)] := by
              intro t ht
              refine k698 t ?_
              show Steps p.tables e below (Tj565.setTop (mkF m 489 #[.val (.int p1), .val (.int p2), .val (.int p3), .val (.int p4), .val (.int p5), .val (.int p6), .val (.ref na), .val (.ref la), .val (.int nk), .val (.int np), .val (.int nc), .val (.int ok1), .val .null, .val (.int lk), .val (.int lp), .val (.int lc), .unset, .unset] [(.int (2 : Int32)), (.int lk)])) t
              refine XS.icmpYes Xj565.here hx rfl (pc0 := 489) (pc' := 505) rfl (hb hby at_489) rfl (feq hk2).2 (by decide) (by decide) ?_
              show Steps p.tables e below (Tj565.setTop (mkF m 505 #[.val (.int p1), .val (.int p2), .val (.int p3), .val (.int p4), .val (.int p5), .val (.int p6), .val (.ref na), .val (.ref la), .val (.int nk), .val (.int np), .val (.int nc), .val (.int ok1), .val .null, .val (.int lk), .val (.int lp), .val (.int lc), .unset, .unset] [])) t
              refine XS.iload Xj565.here hx rfl (hb hby at_505) rfl ?_
              show Steps p.tables e below (Tj565.setTop (mkF m 507 #[.val (.int p1), .val (.int p2), .val (.int p3), .val (.int p4), .val (.int p5), .val (.int p6), .val (.ref na), .val (.ref la), .val (.int nk), .val (.int np), .val (.int nc), .val (.int ok1), .val .null, .val (.int lk), .val (.int lp), .val (.int lc), .unset, .unset] [(.int lk)])) t
              refine XS.iconst Xj565.here hx rfl (hb hby at_507) ?_
              exact ht
            by_cases hk3 : lk = (3 : Int32)
            · have k709 : Kt p e below m (s₁.setTop (entryFrame m #[(.int p1), (.int p2), (.int p3), (.int p4), (.int p5), (.int p6)] maxLocals)) Tj565 514 #[.val (.int p1), .val (.int p2), .val (.int p3), .val (.int p4), .val (.int p5), .val (.int p6), .val (.ref na), .val (.ref la), .val (.int nk), .val (.int np), .val (.int nc), .val (.int ok1), .val .null, .val (.int lk), .val (.int lp), .val (.int lc), .val (.int (1 : Int32)), .unset] [] := by
                intro t ht
                refine k708 t ?_
                show Steps p.tables e below (Tj565.setTop (mkF m 508 #[.val (.int p1), .val (.int p2), .val (.int p3), .val (.int p4), .val (.int p5), .val (.int p6), .val (.ref na), .val (.ref la), .val (.int nk), .val (.int np), .val (.int nc), .val (.int ok1), .val .null, .val (.int lk), .val (.int lp), .val (.int lc), .unset, .unset] [(.int (3 : Int32)), (.int lk)])) t
                refine XS.icmpNo Xj565.here hx rfl (hb hby at_508) rfl (teq hk3).2 ?_
                show Steps p.tables e below (Tj565.setTop (mkF m 511 #[.val (.int p1), .val (.int p2), .val (.int p3), .val (.int p4), .val (.int p5), .val (.int p6), .val (.ref na), .val (.ref la), .val (.int nk), .val (.int np), .val (.int nc), .val (.int ok1), .val .null, .val (.int lk), .val (.int lp), .val (.int lc), .unset, .unset] [])) t
                refine XS.iconst Xj565.here hx rfl (hb hby at_511) ?_
                show Steps p.tables e below (Tj565.setTop (mkF m 512 #[.val (.int p1), .val (.int p2), .val (.int p3), .val (.int p4), .val (.int p5), .val (.int p6), .val (.ref na), .val (.ref la), .val (.int nk), .val (.int np), .val (.int nc), .val (.int ok1), .val .null, .val (.int lk), .val (.int lp), .val (.int lc), .unset, .unset] [(.int (1 : Int32))])) t
                refine XS.istore Xj565.here hx rfl (hb hby at_512) rfl (l' := #[.val (.int p1), .val (.int p2), .val (.int p3), .val (.int p4), .val (.int p5), .val (.int p6), .val (.ref na), .val (.ref la), .val (.int nk), .val (.int np), .val (.int nc), .val (.int ok1), .val .null, .val (.int lk), .val (.int lp), .val (.int lc), .val (.int (1 : Int32)), .unset]) rfl ?_
                exact ht
              obtain ⟨sx, T710, h710, kb710, tx, ck710, X710, e710, E710, hS710, hk710, hZ710, hown710, Ex710, Fc710, Fv710, Va710, la710, lb710, hR710, -, hne710, st710⟩ := ldcCH (s := s) (vm0 := vmj565) Xj565 hx hZj565 hownj565 (hw _ (List.mem_of_getElem? (i := 51) rfl)) wS ej565 hSj565 hkj565 hEL (EL := consts_1) (by decide) Rj565.1 (vs := (own_by own_ln)) (z := (Int32.ofNat own_ln.length)) (by decide +kernel) (by decide) (by decide) (g := (mkF m 514 #[.val (.int p1), .val (.int p2), .val (.int p3), .val (.int p4), .val (.int p5), .val (.int p6), .val (.ref na), .val (.ref la), .val (.int nk), .val (.int np), .val (.int nc), .val (.int ok1), .val .null, .val (.int lk), .val (.int lp), .val (.int lc), .val (.int (1 : Int32)), .unset] [])) rfl (hb hby at_514) (n := 36) (by decide +kernel) (by decide) (by decide) (by decide)
              have f711 : n0 ≤ h710.size := Nat.le_trans zj565 E710.1
              have f712 : Old Z n0 h710 := fj565_0.ext E710
              have f713 : Arv Z h710 la ak468 .char (9 : Int32) (own_ln.map Value.int) (.int (0 : Int32)) := fj565_1.ext E710
              have f714 : Safe Z consts_1 T710.vm h710 la := hR710.safe fj565_1.lt fj565_2
              have f715 : CHr Z consts_1 s.vm h0 T710.vm h710 := Rj565.trans hR710
              have f716 : kbj565 ≤ h710.size := Nat.le_trans hkj565 E710.1
              obtain ⟨ne_la_sx, ne_la_tx⟩ := hne710 _ f714
              have k710 : Kt p e below m (s₁.setTop (entryFrame m #[(.int p1), (.int p2), (.int p3), (.int p4), (.int p5), (.int p6)] maxLocals)) T710 516 #[.val (.int p1), .val (.int p2), .val (.int p3), .val (.int p4), .val (.int p5), .val (.int p6), .val (.ref na), .val (.ref la), .val (.int nk), .val (.int np), .val (.int nc), .val (.int ok1), .val .null, .val (.int lk), .val (.int lp), .val (.int lc), .val (.int (1 : Int32)), .unset] [(.ref sx)] := fun t ht => k709 t (st710 t ht)
              have k717 : Kt p e below m (s₁.setTop (entryFrame m #[(.int p1), (.int p2), (.int p3), (.int p4), (.int p5), (.int p6)] maxLocals)) T710 560 #[.val (.int p1), .val (.int p2), .val (.int p3), .val (.int p4), .val (.int p5), .val (.int p6), .val (.ref na), .val (.ref la), .val (.int nk), .val (.int np), .val (.int nc), .val (.int ok1), .val .null, .val (.int lk), .val (.int lp), .val (.int lc), .val (.int (1 : Int32)), .val (.ref sx)] [] := by
                intro t ht
                refine k710 t ?_
                show Steps p.tables e below (T710.setTop (mkF m 516 #[.val (.int p1), .val (.int p2), .val (.int p3), .val (.int p4), .val (.int p5), .val (.int p6), .val (.ref na), .val (.ref la), .val (.int nk), .val (.int np), .val (.int nc), .val (.int ok1), .val .null, .val (.int lk), .val (.int lp), .val (.int lc), .val (.int (1 : Int32)), .unset] [(.ref sx)])) t
                refine XS.astore X710.here hx rfl (hb hby at_516) rfl rfl (l' := #[.val (.int p1), .val (.int p2), .val (.int p3), .val (.int p4), .val (.int p5), .val (.int p6), .val (.ref na), .val (.ref la), .val (.int nk), .val (.int np), .val (.int nc), .val (.int ok1), .val .null, .val (.int lk), .val (.int lp), .val (.int lc), .val (.int (1 : Int32)), .val (.ref sx)]) rfl ?_
                show Steps p.tables e below (T710.setTop (mkF m 518 #[.val (.int p1), .val (.int p2), .val (.int p3), .val (.int p4), .val (.int p5), .val (.int p6), .val (.ref na), .val (.ref la), .val (.int nk), .val (.int np), .val (.int nc), .val (.int ok1), .val .null, .val (.int lk), .val (.int lp), .val (.int lc), .val (.int (1 : Int32)), .val (.ref sx)] [])) t
                refine XS.goto X710.here hx rfl (pc0 := 518) (pc' := 560) rfl (hb hby at_518) (by decide) (by decide) ?_
                exact ht
              exact ⟨T710.vm, T710, h710, _, kb710, (1 : Int32), (.ref sx), X710.mono (by decide) (by decide), e710, Nj565, f711, f712, f715, hS710, hk710, hZ710, hown710, Or.inr ⟨sx, tx, _, own_ln, rfl, Ex710, Fc710, Fv710, Va710, own_ln_r, by decide, own_b1 rfl⟩, k717⟩
            · have k718 : Kt p e below m (s₁.setTop (entryFrame m #[(.int p1), (.int p2), (.int p3), (.int p4), (.int p5), (.int p6)] maxLocals)) Tj565 524 #[.val (.int p1), .val (.int p2), .val (.int p3), .val (.int p4), .val (.int p5), .val (.int p6), .val (.ref na), .val (.ref la), .val (.int nk), .val (.int np), .val (.int nc), .val (.int ok1), .val .null, .val (.int lk), .val (.int lp), .val (.int lc), .unset, .unset] [(.int (4 : Int32)), (.int lk)] := by
                intro t ht
                refine k708 t ?_
                show Steps p.tables e below (Tj565.setTop (mkF m 508 #[.val (.int p1), .val (.int p2), .val (.int p3), .val (.int p4), .val (.int p5), .val (.int p6), .val (.ref na), .val (.ref la), .val (.int nk), .val (.int np), .val (.int nc), .val (.int ok1), .val .null, .val (.int lk), .val (.int lp), .val (.int lc), .unset, .unset] [(.int (3 : Int32)), (.int lk)])) t
                refine XS.icmpYes Xj565.here hx rfl (pc0 := 508) (pc' := 521) rfl (hb hby at_508) rfl (feq hk3).2 (by decide) (by decide) ?_
                show Steps p.tables e below (Tj565.setTop (mkF m 521 #[.val (.int p1), .val (.int p2), .val (.int p3), .val (.int p4), .val (.int p5), .val (.int p6), .val (.ref na), .val (.ref la), .val (.int nk), .val (.int np), .val (.int nc), .val (.int ok1), .val .null, .val (.int lk), .val (.int lp), .val (.int lc), .unset, .unset] [])) t
                refine XS.iload Xj565.here hx rfl (hb hby at_521) rfl ?_
                show Steps p.tables e below (Tj565.setTop (mkF m 523 #[.val (.int p1), .val (.int p2), .val (.int p3), .val (.int p4), .val (.int p5), .val (.int p6), .val (.ref na), .val (.ref la), .val (.int nk), .val (.int np), .val (.int nc), .val (.int ok1), .val .null, .val (.int lk), .val (.int lp), .val (.int lc), .unset, .unset] [(.int lk)])) t
                refine XS.iconst Xj565.here hx rfl (hb hby at_523) ?_
                exact ht
              by_cases hk4 : lk = (4 : Int32)
              · have k719 : Kt p e below m (s₁.setTop (entryFrame m #[(.int p1), (.int p2), (.int p3), (.int p4), (.int p5), (.int p6)] maxLocals)) Tj565 530 #[.val (.int p1), .val (.int p2), .val (.int p3), .val (.int p4), .val (.int p5), .val (.int p6), .val (.ref na), .val (.ref la), .val (.int nk), .val (.int np), .val (.int nc), .val (.int ok1), .val .null, .val (.int lk), .val (.int lp), .val (.int lc), .val (.int (0 : Int32)), .unset] [] := by
                  intro t ht
                  refine k718 t ?_
                  show Steps p.tables e below (Tj565.setTop (mkF m 524 #[.val (.int p1), .val (.int p2), .val (.int p3), .val (.int p4), .val (.int p5), .val (.int p6), .val (.ref na), .val (.ref la), .val (.int nk), .val (.int np), .val (.int nc), .val (.int ok1), .val .null, .val (.int lk), .val (.int lp), .val (.int lc), .unset, .unset] [(.int (4 : Int32)), (.int lk)])) t
                  refine XS.icmpNo Xj565.here hx rfl (hb hby at_524) rfl (teq hk4).2 ?_
                  show Steps p.tables e below (Tj565.setTop (mkF m 527 #[.val (.int p1), .val (.int p2), .val (.int p3), .val (.int p4), .val (.int p5), .val (.int p6), .val (.ref na), .val (.ref la), .val (.int nk), .val (.int np), .val (.int nc), .val (.int ok1), .val .null, .val (.int lk), .val (.int lp), .val (.int lc), .unset, .unset] [])) t
                  refine XS.iconst Xj565.here hx rfl (hb hby at_527) ?_
                  show Steps p.tables e below (Tj565.setTop (mkF m 528 #[.val (.int p1), .val (.int p2), .val (.int p3), .val (.int p4), .val (.int p5), .val (.int p6), .val (.ref na), .val (.ref la), .val (.int nk), .val (.int np), .val (.int nc), .val (.int ok1), .val .null, .val (.int lk), .val (.int lp), .val (.int lc), .unset, .unset] [(.int (0 : Int32))])) t
                  refine XS.istore Xj565.here hx rfl (hb hby at_528) rfl (l' := #[.val (.int p1), .val (.int p2), .val (.int p3), .val (.int p4), .val (.int p5), .val (.int p6), .val (.ref na), .val (.ref la), .val (.int nk), .val (.int np), .val (.int nc), .val (.int ok1), .val .null, .val (.int lk), .val (.int lp), .val (.int lc), .val (.int (0 : Int32)), .unset]) rfl ?_
                  exact ht
                obtain ⟨sx, T720, h720, kb720, tx, ck720, X720, e720, E720, hS720, hk720, hZ720, hown720, Ex720, Fc720, Fv720, Va720, la720, lb720, hR720, -, hne720, st720⟩ := ldcCH (s := s) (vm0 := vmj565) Xj565 hx hZj565 hownj565 (hw _ (List.mem_of_getElem? (i := 64) rfl)) wS ej565 hSj565 hkj565 hEL (EL := consts_1) (by decide) Rj565.1 (vs := (own_by own_lt2)) (z := (Int32.ofNat own_lt2.length)) (by decide +kernel) (by decide) (by decide) (g := (mkF m 530 #[.val (.int p1), .val (.int p2), .val (.int p3), .val (.int p4), .val (.int p5), .val (.int p6), .val (.ref na), .val (.ref la), .val (.int nk), .val (.int np), .val (.int nc), .val (.int ok1), .val .null, .val (.int lk), .val (.int lp), .val (.int lc), .val (.int (0 : Int32)), .unset] [])) rfl (hb hby at_530) (n := 48) (by decide +kernel) (by decide) (by decide) (by decide)
                have f721 : n0 ≤ h720.size := Nat.le_trans zj565 E720.1
                have f722 : Old Z n0 h720 := fj565_0.ext E720
                have f723 : Arv Z h720 la ak468 .char (9 : Int32) (own_ln.map Value.int) (.int (0 : Int32)) := fj565_1.ext E720
                have f724 : Safe Z consts_1 T720.vm h720 la := hR720.safe fj565_1.lt fj565_2
                have f725 : CHr Z consts_1 s.vm h0 T720.vm h720 := Rj565.trans hR720
                have f726 : kbj565 ≤ h720.size := Nat.le_trans hkj565 E720.1
                obtain ⟨ne_la_sx, ne_la_tx⟩ := hne720 _ f724
                have k720 : Kt p e below m (s₁.setTop (entryFrame m #[(.int p1), (.int p2), (.int p3), (.int p4), (.int p5), (.int p6)] maxLocals)) T720 532 #[.val (.int p1), .val (.int p2), .val (.int p3), .val (.int p4), .val (.int p5), .val (.int p6), .val (.ref na), .val (.ref la), .val (.int nk), .val (.int np), .val (.int nc), .val (.int ok1), .val .null, .val (.int lk), .val (.int lp), .val (.int lc), .val (.int (0 : Int32)), .unset] [(.ref sx)] := fun t ht => k719 t (st720 t ht)
                have k727 : Kt p e below m (s₁.setTop (entryFrame m #[(.int p1), (.int p2), (.int p3), (.int p4), (.int p5), (.int p6)] maxLocals)) T720 560 #[.val (.int p1), .val (.int p2), .val (.int p3), .val (.int p4), .val (.int p5), .val (.int p6), .val (.ref na), .val (.ref la), .val (.int nk), .val (.int np), .val (.int nc), .val (.int ok1), .val .null, .val (.int lk), .val (.int lp), .val (.int lc), .val (.int (0 : Int32)), .val (.ref sx)] [] := by
                  intro t ht
                  refine k720 t ?_
                  show Steps p.tables e below (T720.setTop (mkF m 532 #[.val (.int p1), .val (.int p2), .val (.int p3), .val (.int p4), .val (.int p5), .val (.int p6), .val (.ref na), .val (.ref la), .val (.int nk), .val (.int np), .val (.int nc), .val (.int ok1), .val .null, .val (.int lk), .val (.int lp), .val (.int lc), .val (.int (0 : Int32)), .unset] [(.ref sx)])) t
                  refine XS.astore X720.here hx rfl (hb hby at_532) rfl rfl (l' := #[.val (.int p1), .val (.int p2), .val (.int p3), .val (.int p4), .val (.int p5), .val (.int p6), .val (.ref na), .val (.ref la), .val (.int nk), .val (.int np), .val (.int nc), .val (.int ok1), .val .null, .val (.int lk), .val (.int lp), .val (.int lc), .val (.int (0 : Int32)), .val (.ref sx)]) rfl ?_
                  show Steps p.tables e below (T720.setTop (mkF m 534 #[.val (.int p1), .val (.int p2), .val (.int p3), .val (.int p4), .val (.int p5), .val (.int p6), .val (.ref na), .val (.ref la), .val (.int nk), .val (.int np), .val (.int nc), .val (.int ok1), .val .null, .val (.int lk), .val (.int lp), .val (.int lc), .val (.int (0 : Int32)), .val (.ref sx)] [])) t
                  refine XS.goto X720.here hx rfl (pc0 := 534) (pc' := 560) rfl (hb hby at_534) (by decide) (by decide) ?_
                  exact ht
                exact ⟨T720.vm, T720, h720, _, kb720, (0 : Int32), (.ref sx), X720.mono (by decide) (by decide), e720, Nj565, f721, f722, f725, hS720, hk720, hZ720, hown720, Or.inr ⟨sx, tx, _, own_lt2, rfl, Ex720, Fc720, Fv720, Va720, own_lt2_r, by decide, own_b0 (by decide)⟩, k727⟩
              · have k728 : Kt p e below m (s₁.setTop (entryFrame m #[(.int p1), (.int p2), (.int p3), (.int p4), (.int p5), (.int p6)] maxLocals)) Tj565 540 #[.val (.int p1), .val (.int p2), .val (.int p3), .val (.int p4), .val (.int p5), .val (.int p6), .val (.ref na), .val (.ref la), .val (.int nk), .val (.int np), .val (.int nc), .val (.int ok1), .val .null, .val (.int lk), .val (.int lp), .val (.int lc), .unset, .unset] [(.int (5 : Int32)), (.int lk)] := by
                  intro t ht
                  refine k718 t ?_
                  show Steps p.tables e below (Tj565.setTop (mkF m 524 #[.val (.int p1), .val (.int p2), .val (.int p3), .val (.int p4), .val (.int p5), .val (.int p6), .val (.ref na), .val (.ref la), .val (.int nk), .val (.int np), .val (.int nc), .val (.int ok1), .val .null, .val (.int lk), .val (.int lp), .val (.int lc), .unset, .unset] [(.int (4 : Int32)), (.int lk)])) t
                  refine XS.icmpYes Xj565.here hx rfl (pc0 := 524) (pc' := 537) rfl (hb hby at_524) rfl (feq hk4).2 (by decide) (by decide) ?_
                  show Steps p.tables e below (Tj565.setTop (mkF m 537 #[.val (.int p1), .val (.int p2), .val (.int p3), .val (.int p4), .val (.int p5), .val (.int p6), .val (.ref na), .val (.ref la), .val (.int nk), .val (.int np), .val (.int nc), .val (.int ok1), .val .null, .val (.int lk), .val (.int lp), .val (.int lc), .unset, .unset] [])) t
                  refine XS.iload Xj565.here hx rfl (hb hby at_537) rfl ?_
                  show Steps p.tables e below (Tj565.setTop (mkF m 539 #[.val (.int p1), .val (.int p2), .val (.int p3), .val (.int p4), .val (.int p5), .val (.int p6), .val (.ref na), .val (.ref la), .val (.int nk), .val (.int np), .val (.int nc), .val (.int ok1), .val .null, .val (.int lk), .val (.int lp), .val (.int lc), .unset, .unset] [(.int lk)])) t
                  refine XS.iconst Xj565.here hx rfl (hb hby at_539) ?_
                  exact ht
                by_cases hk5 : lk = (5 : Int32)
                · have k729 : Kt p e below m (s₁.setTop (entryFrame m #[(.int p1), (.int p2), (.int p3), (.int p4), (.int p5), (.int p6)] maxLocals)) Tj565 546 #[.val (.int p1), .val (.int p2), .val (.int p3), .val (.int p4), .val (.int p5), .val (.int p6), .val (.ref na), .val (.ref la), .val (.int nk), .val (.int np), .val (.int nc), .val (.int ok1), .val .null, .val (.int lk), .val (.int lp), .val (.int lc), .val (.int (0 : Int32)), .unset] [] := by
                    intro t ht
                    refine k728 t ?_
                    show Steps p.tables e below (Tj565.setTop (mkF m 540 #[.val (.int p1), .val (.int p2), .val (.int p3), .val (.int p4), .val (.int p5), .val (.int p6), .val (.ref na), .val (.ref la), .val (.int nk), .val (.int np), .val (.int nc), .val (.int ok1), .val .null, .val (.int lk), .val (.int lp), .val (.int lc), .unset, .unset] [(.int (5 : Int32)), (.int lk)])) t
                    refine XS.icmpNo Xj565.here hx rfl (hb hby at_540) rfl (teq hk5).2 ?_
                    show Steps p.tables e below (Tj565.setTop (mkF m 543 #[.val (.int p1), .val (.int p2), .val (.int p3), .val (.int p4), .val (.int p5), .val (.int p6), .val (.ref na), .val (.ref la), .val (.int nk), .val (.int np), .val (.int nc), .val (.int ok1), .val .null, .val (.int lk), .val (.int lp), .val (.int lc), .unset, .unset] [])) t
                    refine XS.iconst Xj565.here hx rfl (hb hby at_543) ?_
                    show Steps p.tables e below (Tj565.setTop (mkF m 544 #[.val (.int p1), .val (.int p2), .val (.int p3), .val (.int p4), .val (.int p5), .val (.int p6), .val (.ref na), .val (.ref la), .val (.int nk), .val (.int np), .val (.int nc), .val (.int ok1), .val .null, .val (.int lk), .val (.int lp), .val (.int lc), .unset, .unset] [(.int (0 : Int32))])) t
                    refine XS.istore Xj565.here hx rfl (hb hby at_544) rfl (l' := #[.val (.int p1), .val (.int p2), .val (.int p3), .val (.int p4), .val (.int p5), .val (.int p6), .val (.ref na), .val (.ref la), .val (.int nk), .val (.int np), .val (.int nc), .val (.int ok1), .val .null, .val (.int lk), .val (.int lp), .val (.int lc), .val (.int (0 : Int32)), .unset]) rfl ?_
                    exact ht
                  obtain ⟨sx, T730, h730, kb730, tx, ck730, X730, e730, E730, hS730, hk730, hZ730, hown730, Ex730, Fc730, Fv730, Va730, la730, lb730, hR730, -, hne730, st730⟩ := ldcCH (s := s) (vm0 := vmj565) Xj565 hx hZj565 hownj565 (hw _ (List.mem_of_getElem? (i := 66) rfl)) wS ej565 hSj565 hkj565 hEL (EL := consts_1) (by decide) Rj565.1 (vs := (own_by own_lt3)) (z := (Int32.ofNat own_lt3.length)) (by decide +kernel) (by decide) (by decide) (g := (mkF m 546 #[.val (.int p1), .val (.int p2), .val (.int p3), .val (.int p4), .val (.int p5), .val (.int p6), .val (.ref na), .val (.ref la), .val (.int nk), .val (.int np), .val (.int nc), .val (.int ok1), .val .null, .val (.int lk), .val (.int lp), .val (.int lc), .val (.int (0 : Int32)), .unset] [])) rfl (hb hby at_546) (n := 32) (by decide +kernel) (by decide) (by decide) (by decide)
                  have f731 : n0 ≤ h730.size := Nat.le_trans zj565 E730.1
                  have f732 : Old Z n0 h730 := fj565_0.ext E730
                  have f733 : Arv Z h730 la ak468 .char (9 : Int32) (own_ln.map Value.int) (.int (0 : Int32)) := fj565_1.ext E730
                  have f734 : Safe Z consts_1 T730.vm h730 la := hR730.safe fj565_1.lt fj565_2
                  have f735 : CHr Z consts_1 s.vm h0 T730.vm h730 := Rj565.trans hR730
                  have f736 : kbj565 ≤ h730.size := Nat.le_trans hkj565 E730.1
                  obtain ⟨ne_la_sx, ne_la_tx⟩ := hne730 _ f734
                  have k730 : Kt p e below m (s₁.setTop (entryFrame m #[(.int p1), (.int p2), (.int p3), (.int p4), (.int p5), (.int p6)] maxLocals)) T730 548 #[.val (.int p1), .val (.int p2), .val (.int p3), .val (.int p4), .val (.int p5), .val (.int p6), .val (.ref na), .val (.ref la), .val (.int nk), .val (.int np), .val (.int nc), .val (.int ok1), .val .null, .val (.int lk), .val (.int lp), .val (.int lc), .val (.int (0 : Int32)), .unset] [(.ref sx)] := fun t ht => k729 t (st730 t ht)
                  have k737 : Kt p e below m (s₁.setTop (entryFrame m #[(.int p1), (.int p2), (.int p3), (.int p4), (.int p5), (.int p6)] maxLocals)) T730 560 #[.val (.int p1), .val (.int p2), .val (.int p3), .val (.int p4), .val (.int p5), .val (.int p6), .val (.ref na), .val (.ref la), .val (.int nk), .val (.int np), .val (.int nc), .val (.int ok1), .val .null, .val (.int lk), .val (.int lp), .val (.int lc), .val (.int (0 : Int32)), .val (.ref sx)] [] := by
                    intro t ht
                    refine k730 t ?_
                    show Steps p.tables e below (T730.setTop (mkF m 548 #[.val (.int p1), .val (.int p2), .val (.int p3), .val (.int p4), .val (.int p5), .val (.int p6), .val (.ref na), .val (.ref la), .val (.int nk), .val (.int np), .val (.int nc), .val (.int ok1), .val .null, .val (.int lk), .val (.int lp), .val (.int lc), .val (.int (0 : Int32)), .unset] [(.ref sx)])) t
                    refine XS.astore X730.here hx rfl (hb hby at_548) rfl rfl (l' := #[.val (.int p1), .val (.int p2), .val (.int p3), .val (.int p4), .val (.int p5), .val (.int p6), .val (.ref na), .val (.ref la), .val (.int nk), .val (.int np), .val (.int nc), .val (.int ok1), .val .null, .val (.int lk), .val (.int lp), .val (.int lc), .val (.int (0 : Int32)), .val (.ref sx)]) rfl ?_
                    show Steps p.tables e below (T730.setTop (mkF m 550 #[.val (.int p1), .val (.int p2), .val (.int p3), .val (.int p4), .val (.int p5), .val (.int p6), .val (.ref na), .val (.ref la), .val (.int nk), .val (.int np), .val (.int nc), .val (.int ok1), .val .null, .val (.int lk), .val (.int lp), .val (.int lc), .val (.int (0 : Int32)), .val (.ref sx)] [])) t
                    refine XS.goto X730.here hx rfl (pc0 := 550) (pc' := 560) rfl (hb hby at_550) (by decide) (by decide) ?_
                    exact ht
                  exact ⟨T730.vm, T730, h730, _, kb730, (0 : Int32), (.ref sx), X730.mono (by decide) (by decide), e730, Nj565, f731, f732, f735, hS730, hk730, hZ730, hown730, Or.inr ⟨sx, tx, _, own_lt3, rfl, Ex730, Fc730, Fv730, Va730, own_lt3_r, by decide, own_b0 (by decide)⟩, k737⟩
                · have k738 : Kt p e below m (s₁.setTop (entryFrame m #[(.int p1), (.int p2), (.int p3), (.int p4), (.int p5), (.int p6)] maxLocals)) Tj565 556 #[.val (.int p1), .val (.int p2), .val (.int p3), .val (.int p4), .val (.int p5), .val (.int p6), .val (.ref na), .val (.ref la), .val (.int nk), .val (.int np), .val (.int nc), .val (.int ok1), .val .null, .val (.int lk), .val (.int lp), .val (.int lc), .val (.int (0 : Int32)), .unset] [] := by
                    intro t ht
                    refine k728 t ?_
                    show Steps p.tables e below (Tj565.setTop (mkF m 540 #[.val (.int p1), .val (.int p2), .val (.int p3), .val (.int p4), .val (.int p5), .val (.int p6), .val (.ref na), .val (.ref la), .val (.int nk), .val (.int np), .val (.int nc), .val (.int ok1), .val .null, .val (.int lk), .val (.int lp), .val (.int lc), .unset, .unset] [(.int (5 : Int32)), (.int lk)])) t
                    refine XS.icmpYes Xj565.here hx rfl (pc0 := 540) (pc' := 553) rfl (hb hby at_540) rfl (feq hk5).2 (by decide) (by decide) ?_
                    show Steps p.tables e below (Tj565.setTop (mkF m 553 #[.val (.int p1), .val (.int p2), .val (.int p3), .val (.int p4), .val (.int p5), .val (.int p6), .val (.ref na), .val (.ref la), .val (.int nk), .val (.int np), .val (.int nc), .val (.int ok1), .val .null, .val (.int lk), .val (.int lp), .val (.int lc), .unset, .unset] [])) t
                    refine XS.iconst Xj565.here hx rfl (hb hby at_553) ?_
                    show Steps p.tables e below (Tj565.setTop (mkF m 554 #[.val (.int p1), .val (.int p2), .val (.int p3), .val (.int p4), .val (.int p5), .val (.int p6), .val (.ref na), .val (.ref la), .val (.int nk), .val (.int np), .val (.int nc), .val (.int ok1), .val .null, .val (.int lk), .val (.int lp), .val (.int lc), .unset, .unset] [(.int (0 : Int32))])) t
                    refine XS.istore Xj565.here hx rfl (hb hby at_554) rfl (l' := #[.val (.int p1), .val (.int p2), .val (.int p3), .val (.int p4), .val (.int p5), .val (.int p6), .val (.ref na), .val (.ref la), .val (.int nk), .val (.int np), .val (.int nc), .val (.int ok1), .val .null, .val (.int lk), .val (.int lp), .val (.int lc), .val (.int (0 : Int32)), .unset]) rfl ?_
                    exact ht
                  obtain ⟨sx, T739, h739, kb739, tx, ck739, X739, e739, E739, hS739, hk739, hZ739, hown739, Ex739, Fc739, Fv739, Va739, la739, lb739, hR739, -, hne739, st739⟩ := ldcCH (s := s) (vm0 := vmj565) Xj565 hx hZj565 hownj565 (hw _ (List.mem_of_getElem? (i := 65) rfl)) wS ej565 hSj565 hkj565 hEL (EL := consts_1) (by decide) Rj565.1 (vs := (own_by own_em)) (z := (Int32.ofNat own_em.length)) (by decide +kernel) (by decide) (by decide) (g := (mkF m 556 #[.val (.int p1), .val (.int p2), .val (.int p3), .val (.int p4), .val (.int p5), .val (.int p6), .val (.ref na), .val (.ref la), .val (.int nk), .val (.int np), .val (.int nc), .val (.int ok1), .val .null, .val (.int lk), .val (.int lp), .val (.int lc), .val (.int (0 : Int32)), .unset] [])) rfl (hb hby at_556) (n := 0) (by decide +kernel) (by decide) (by decide) (by decide)
                  have f740 : n0 ≤ h739.size := Nat.le_trans zj565 E739.1
                  have f741 : Old Z n0 h739 := fj565_0.ext E739
                  have f742 : Arv Z h739 la ak468 .char (9 : Int32) (own_ln.map Value.int) (.int (0 : Int32)) := fj565_1.ext E739
                  have f743 : Safe Z consts_1 T739.vm h739 la := hR739.safe fj565_1.lt fj565_2
                  have f744 : CHr Z consts_1 s.vm h0 T739.vm h739 := Rj565.trans hR739
                  have f745 : kbj565 ≤ h739.size := Nat.le_trans hkj565 E739.1
                  obtain ⟨ne_la_sx, ne_la_tx⟩ := hne739 _ f743
                  have k739 : Kt p e below m (s₁.setTop (entryFrame m #[(.int p1), (.int p2), (.int p3), (.int p4), (.int p5), (.int p6)] maxLocals)) T739 558 #[.val (.int p1), .val (.int p2), .val (.int p3), .val (.int p4), .val (.int p5), .val (.int p6), .val (.ref na), .val (.ref la), .val (.int nk), .val (.int np), .val (.int nc), .val (.int ok1), .val .null, .val (.int lk), .val (.int lp), .val (.int lc), .val (.int (0 : Int32)), .unset] [(.ref sx)] := fun t ht => k738 t (st739 t ht)
                  have k746 : Kt p e below m (s₁.setTop (entryFrame m #[(.int p1), (.int p2), (.int p3), (.int p4), (.int p5), (.int p6)] maxLocals)) T739 560 #[.val (.int p1), .val (.int p2), .val (.int p3), .val (.int p4), .val (.int p5), .val (.int p6), .val (.ref na), .val (.ref la), .val (.int nk), .val (.int np), .val (.int nc), .val (.int ok1), .val .null, .val (.int lk), .val (.int lp), .val (.int lc), .val (.int (0 : Int32)), .val (.ref sx)] [] := by
                    intro t ht
                    refine k739 t ?_
                    show Steps p.tables e below (T739.setTop (mkF m 558 #[.val (.int p1), .val (.int p2), .val (.int p3), .val (.int p4), .val (.int p5), .val (.int p6), .val (.ref na), .val (.ref la), .val (.int nk), .val (.int np), .val (.int nc), .val (.int ok1), .val .null, .val (.int lk), .val (.int lp), .val (.int lc), .val (.int (0 : Int32)), .unset] [(.ref sx)])) t
                    refine XS.astore X739.here hx rfl (hb hby at_558) rfl rfl (l' := #[.val (.int p1), .val (.int p2), .val (.int p3), .val (.int p4), .val (.int p5), .val (.int p6), .val (.ref na), .val (.ref la), .val (.int nk), .val (.int np), .val (.int nc), .val (.int ok1), .val .null, .val (.int lk), .val (.int lp), .val (.int lc), .val (.int (0 : Int32)), .val (.ref sx)]) rfl ?_
                    exact ht
                  exact ⟨T739.vm, T739, h739, _, kb739, (0 : Int32), (.ref sx), X739.mono (by decide) (by decide), e739, Nj565, f740, f741, f744, hS739, hk739, hZ739, hown739, Or.inr ⟨sx, tx, _, own_em, rfl, Ex739, Fc739, Fv739, Va739, own_em_r, by decide, own_b0 (by decide)⟩, k746⟩
    rcases hpj658 with ⟨hlv, hok2⟩ | ⟨x2, t2, k2, ds, hlv, wE, wC, wV, wK, wr, wl, hok2⟩
    · rw [hlv] at kj658
      have k747 : Kt p e below m (s₁.setTop (entryFrame m #[(.int p1), (.int p2), (.int p3), (.int p4), (.int p5), (.int p6)] maxLocals)) Tj658 564 #[.val (.int p1), .val (.int p2), .val (.int p3), .val (.int p4), .val (.int p5), .val (.int p6), .val (.ref na), .val (.ref la), .val (.int nk), .val (.int np), .val (.int nc), .val (.int ok1), .val .null, .val (.int lk), .val (.int lp), .val (.int lc), .val (.int ok2), .val .null] [.null, .null] := by
        intro t ht
        refine kj658 t ?_
        show Steps p.tables e below (Tj658.setTop (mkF m 560 #[.val (.int p1), .val (.int p2), .val (.int p3), .val (.int p4), .val (.int p5), .val (.int p6), .val (.ref na), .val (.ref la), .val (.int nk), .val (.int np), .val (.int nc), .val (.int ok1), .val .null, .val (.int lk), .val (.int lp), .val (.int lc), .val (.int ok2), .val .null] [])) t
        refine XS.aload Xj658.here hx rfl (hb hby at_560) rfl rfl ?_
        show Steps p.tables e below (Tj658.setTop (mkF m 562 #[.val (.int p1), .val (.int p2), .val (.int p3), .val (.int p4), .val (.int p5), .val (.int p6), .val (.ref na), .val (.ref la), .val (.int nk), .val (.int np), .val (.int nc), .val (.int ok1), .val .null, .val (.int lk), .val (.int lp), .val (.int lc), .val (.int ok2), .val .null] [.null])) t
        refine XS.aload Xj658.here hx rfl (hb hby at_562) rfl rfl ?_
        exact ht
      obtain ⟨_, _, ⟨T748, L748, c748, n748⟩, -, X748, hs748, hg748, ⟨Lc748, hQ748, l748, y748, z748, hR748⟩, st748⟩ := callSS (s := s.setVm vmj658) Xj658 hx (y := (⟨"com/example/subscriptor/subscriptor/XmlSignature", "isSignature", "(Ljava/lang/String;Ljava/lang/String;)Z"⟩ : MethodName)) hownj658 (mvT hZj658 (hw _ (List.mem_of_getElem? (i := 31) rfl))) (mvT hZj658 (hw _ (List.mem_of_getElem? (i := 32) rfl))) (mvT hZj658 (hw _ (List.mem_of_getElem? (i := 33) rfl))) (mvT hZj658 (hw _ (List.mem_of_getElem? (i := 34) rfl))) (by decide) (own_backH (s := s) (vm0 := vmj658) (W := 0) (rmisnn l Z a0 hw [] G1 hj658 n0 zj658 hEL S1 P5 fj658_0 ) hZj658 (hw _ (List.mem_of_getElem? (i := 34) rfl)) (hw _ (List.mem_of_getElem? (i := 33) rfl)) (by decide) (by decide) hEL Rj658.1 all0) (g := (mkF m 564 #[.val (.int p1), .val (.int p2), .val (.int p3), .val (.int p4), .val (.int p5), .val (.int p6), .val (.ref na), .val (.ref la), .val (.int nk), .val (.int np), .val (.int nc), .val (.int ok1), .val .null, .val (.int lk), .val (.int lp), .val (.int lc), .val (.int ok2), .val .null] [.null, .null])) rfl (by rw [hml]; rfl) (argsL := [.null, .null]) (rest := []) (lenOf pd_5 rfl) rfl (by show 2 * 0 + _ ≤ _; exact Nat.le_of_eq rfl) (hb hby at_564) (fun _ _ => ⟨rfl, ej658, (by decide : 10 + 4 ≤ _), (by decide : 292 + 180 ≤ _)⟩)
      dsimp only [Pt.U, Pt.locs, Pt.cells, Pt.slots] at X748 hs748 hg748 l748 y748 z748 st748 hQ748 hR748
      subst l748 y748 z748
      have hS748 : s.Since T748.vm T748.heap.size := foldS hSj658 (by rw [ej658]; exact hkj658) hs748 hg748
      have hZ748 : Z.Warmed39 (s.setVm T748.vm).vm := State.Warmed39.trans (t := s.setVm vmj658) hZj658 hs748.1
      have hown748 : (s.setVm T748.vm).vm.findClass "com/example/subscriptor/subscriptor/XmlSignatureIsSignaturePinLaw" = some m.cls := by show T748.vm.findClass _ = _; rw [hs748.1.alike.findClass]; exact hownj658
      obtain ⟨rfl, Nq748⟩ := hQ748
      have N748 := Fr.app Nj658 Nq748
      have k748 : Kt p e below m (s₁.setTop (entryFrame m #[(.int p1), (.int p2), (.int p3), (.int p4), (.int p5), (.int p6)] maxLocals)) T748 567 #[.val (.int p1), .val (.int p2), .val (.int p3), .val (.int p4), .val (.int p5), .val (.int p6), .val (.ref na), .val (.ref la), .val (.int nk), .val (.int np), .val (.int nc), .val (.int ok1), .val .null, .val (.int lk), .val (.int lp), .val (.int lc), .val (.int ok2), .val .null] [(.int (0 : Int32))] := fun t ht => k747 t (st748.trans ht)
      have f749 : CHr Z consts_1 s.vm h0 T748.vm T748.heap := Rj658.trans hR748
      have hk748 : T748.heap.size ≤ T748.heap.size := Nat.le_refl _
      have k750 : Kt p e below m (s₁.setTop (entryFrame m #[(.int p1), (.int p2), (.int p3), (.int p4), (.int p5), (.int p6)] maxLocals)) T748 569 #[.val (.int p1), .val (.int p2), .val (.int p3), .val (.int p4), .val (.int p5), .val (.int p6), .val (.ref na), .val (.ref la), .val (.int nk), .val (.int np), .val (.int nc), .val (.int ok1), .val .null, .val (.int lk), .val (.int lp), .val (.int lc), .val (.int ok2), .val .null] [(.int ok1), (.int (0 : Int32))] := by
        intro t ht
        refine k748 t ?_
        show Steps p.tables e below (T748.setTop (mkF m 567 #[.val (.int p1), .val (.int p2), .val (.int p3), .val (.int p4), .val (.int p5), .val (.int p6), .val (.ref na), .val (.ref la), .val (.int nk), .val (.int np), .val (.int nc), .val (.int ok1), .val .null, .val (.int lk), .val (.int lp), .val (.int lc), .val (.int ok2), .val .null] [(.int (0 : Int32))])) t
        refine XS.iload X748.here hx rfl (hb hby at_567) rfl ?_
        exact ht
      obtain ⟨zf, hp751, k751⟩ : ∃ zf : Int32, (zf = own_b (¬ ok1 = 0 ∧ ¬ ok2 = 0)) ∧ Kt p e below m (s₁.setTop (entryFrame m #[(.int p1), (.int p2), (.int p3), (.int p4), (.int p5), (.int p6)] maxLocals)) T748 582 #[.val (.int p1), .val (.int p2), .val (.int p3), .val (.int p4), .val (.int p5), .val (.int p6), .val (.ref na), .val (.ref la), .val (.int nk), .val (.int np), .val (.int nc), .val (.int ok1), .val .null, .val (.int lk), .val (.int lp), .val (.int lc), .val (.int ok2), .val .null] [(.int zf), (.int (0 : Int32))] := by
        by_cases hj752 : ok1 = (0 : Int32)
        · have k753 : Kt p e below m (s₁.setTop (entryFrame m #[(.int p1), (.int p2), (.int p3), (.int p4), (.int p5), (.int p6)] maxLocals)) T748 582 #[.val (.int p1), .val (.int p2), .val (.int p3), .val (.int p4), .val (.int p5), .val (.int p6), .val (.ref na), .val (.ref la), .val (.int nk), .val (.int np), .val (.int nc), .val (.int ok1), .val .null, .val (.int lk), .val (.int lp), .val (.int lc), .val (.int ok2), .val .null] [(.int (0 : Int32)), (.int (0 : Int32))] := by
            intro t ht
            refine k750 t ?_
            show Steps p.tables e below (T748.setTop (mkF m 569 #[.val (.int p1), .val (.int p2), .val (.int p3), .val (.int p4), .val (.int p5), .val (.int p6), .val (.ref na), .val (.ref la), .val (.int nk), .val (.int np), .val (.int nc), .val (.int ok1), .val .null, .val (.int lk), .val (.int lp), .val (.int lc), .val (.int ok2), .val .null] [(.int ok1), (.int (0 : Int32))])) t
            refine XS.ifYes X748.here hx rfl (pc0 := 569) (pc' := 581) rfl (hb hby at_569) rfl ((if0 _ _).trans (teq hj752).1) (by decide) (by decide) ?_
            show Steps p.tables e below (T748.setTop (mkF m 581 #[.val (.int p1), .val (.int p2), .val (.int p3), .val (.int p4), .val (.int p5), .val (.int p6), .val (.ref na), .val (.ref la), .val (.int nk), .val (.int np), .val (.int nc), .val (.int ok1), .val .null, .val (.int lk), .val (.int lp), .val (.int lc), .val (.int ok2), .val .null] [(.int (0 : Int32))])) t
            refine XS.iconst X748.here hx rfl (hb hby at_581) ?_
            exact ht
          exact ⟨(0 : Int32), (by unfold own_b; simp [eq_true hj752]), k753⟩
        · have k754 : Kt p e below m (s₁.setTop (entryFrame m #[(.int p1), (.int p2), (.int p3), (.int p4), (.int p5), (.int p6)] maxLocals)) T748 574 #[.val (.int p1), .val (.int p2), .val (.int p3), .val (.int p4), .val (.int p5), .val (.int p6), .val (.ref na), .val (.ref la), .val (.int nk), .val (.int np), .val (.int nc), .val (.int ok1), .val .null, .val (.int lk), .val (.int lp), .val (.int lc), .val (.int ok2), .val .null] [(.int ok2), (.int (0 : Int32))] := by
            intro t ht
            refine k750 t ?_
            show Steps p.tables e below (T748.setTop (mkF m 569 #[.val (.int p1), .val (.int p2), .val (.int p3), .val (.int p4), .val (.int p5), .val (.int p6), .val (.ref na), .val (.ref la), .val (.int nk), .val (.int np), .val (.int nc), .val (.int ok1), .val .null, .val (.int lk), .val (.int lp), .val (.int lc), .val (.int ok2), .val .null] [(.int ok1), (.int (0 : Int32))])) t
            refine XS.ifNo X748.here hx rfl (hb hby at_569) rfl ((if0 _ _).trans (feq hj752).1) ?_
            show Steps p.tables e below (T748.setTop (mkF m 572 #[.val (.int p1), .val (.int p2), .val (.int p3), .val (.int p4), .val (.int p5), .val (.int p6), .val (.ref na), .val (.ref la), .val (.int nk), .val (.int np), .val (.int nc), .val (.int ok1), .val .null, .val (.int lk), .val (.int lp), .val (.int lc), .val (.int ok2), .val .null] [(.int (0 : Int32))])) t
            refine XS.iload X748.here hx rfl (hb hby at_572) rfl ?_
            exact ht
          by_cases hj755 : ok2 = (0 : Int32)
          · have k756 : Kt p e below m (s₁.setTop (entryFrame m #[(.int p1), (.int p2), (.int p3), (.int p4), (.int p5), (.int p6)] maxLocals)) T748 582 #[.val (.int p1), .val (.int p2), .val (.int p3), .val (.int p4), .val (.int p5), .val (.int p6), .val (.ref na), .val (.ref la), .val (.int nk), .val (.int np), .val (.int nc), .val (.int ok1), .val .null, .val (.int lk), .val (.int lp), .val (.int lc), .val (.int ok2), .val .null] [(.int (0 : Int32)), (.int (0 : Int32))] := by
              intro t ht
              refine k754 t ?_
              show Steps p.tables e below (T748.setTop (mkF m 574 #[.val (.int p1), .val (.int p2), .val (.int p3), .val (.int p4), .val (.int p5), .val (.int p6), .val (.ref na), .val (.ref la), .val (.int nk), .val (.int np), .val (.int nc), .val (.int ok1), .val .null, .val (.int lk), .val (.int lp), .val (.int lc), .val (.int ok2), .val .null] [(.int ok2), (.int (0 : Int32))])) t
              refine XS.ifYes X748.here hx rfl (pc0 := 574) (pc' := 581) rfl (hb hby at_574) rfl ((if0 _ _).trans (teq hj755).1) (by decide) (by decide) ?_
              show Steps p.tables e below (T748.setTop (mkF m 581 #[.val (.int p1), .val (.int p2), .val (.int p3), .val (.int p4), .val (.int p5), .val (.int p6), .val (.ref na), .val (.ref la), .val (.int nk), .val (.int np), .val (.int nc), .val (.int ok1), .val .null, .val (.int lk), .val (.int lp), .val (.int lc), .val (.int ok2), .val .null] [(.int (0 : Int32))])) t
              refine XS.iconst X748.here hx rfl (hb hby at_581) ?_
              exact ht
            exact ⟨(0 : Int32), (by unfold own_b; simp [eq_false hj752, eq_true hj755]), k756⟩
          · have k757 : Kt p e below m (s₁.setTop (entryFrame m #[(.int p1), (.int p2), (.int p3), (.int p4), (.int p5), (.int p6)] maxLocals)) T748 582 #[.val (.int p1), .val (.int p2), .val (.int p3), .val (.int p4), .val (.int p5), .val (.int p6), .val (.ref na), .val (.ref la), .val (.int nk), .val (.int np), .val (.int nc), .val (.int ok1), .val .null, .val (.int lk), .val (.int lp), .val (.int lc), .val (.int ok2), .val .null] [(.int (1 : Int32)), (.int (0 : Int32))] := by
              intro t ht
              refine k754 t ?_
              show Steps p.tables e below (T748.setTop (mkF m 574 #[.val (.int p1), .val (.int p2), .val (.int p3), .val (.int p4), .val (.int p5), .val (.int p6), .val (.ref na), .val (.ref la), .val (.int nk), .val (.int np), .val (.int nc), .val (.int ok1), .val .null, .val (.int lk), .val (.int lp), .val (.int lc), .val (.int ok2), .val .null] [(.int ok2), (.int (0 : Int32))])) t
              refine XS.ifNo X748.here hx rfl (hb hby at_574) rfl ((if0 _ _).trans (feq hj755).1) ?_
              show Steps p.tables e below (T748.setTop (mkF m 577 #[.val (.int p1), .val (.int p2), .val (.int p3), .val (.int p4), .val (.int p5), .val (.int p6), .val (.ref na), .val (.ref la), .val (.int nk), .val (.int np), .val (.int nc), .val (.int ok1), .val .null, .val (.int lk), .val (.int lp), .val (.int lc), .val (.int ok2), .val .null] [(.int (0 : Int32))])) t
              refine XS.iconst X748.here hx rfl (hb hby at_577) ?_
              show Steps p.tables e below (T748.setTop (mkF m 578 #[.val (.int p1), .val (.int p2), .val (.int p3), .val (.int p4), .val (.int p5), .val (.int p6), .val (.ref na), .val (.ref la), .val (.int nk), .val (.int np), .val (.int nc), .val (.int ok1), .val .null, .val (.int lk), .val (.int lp), .val (.int lc), .val (.int ok2), .val .null] [(.int (1 : Int32)), (.int (0 : Int32))])) t
              refine XS.goto X748.here hx rfl (pc0 := 578) (pc' := 582) rfl (hb hby at_578) (by decide) (by decide) ?_
              exact ht
            exact ⟨(1 : Int32), (by unfold own_b; simp [eq_false hj752, eq_false hj755]), k757⟩
      have k758 : Kt p e below m (s₁.setTop (entryFrame m #[(.int p1), (.int p2), (.int p3), (.int p4), (.int p5), (.int p6)] maxLocals)) T748 590 #[.val (.int p1), .val (.int p2), .val (.int p3), .val (.int p4), .val (.int p5), .val (.int p6), .val (.ref na), .val (.ref la), .val (.int nk), .val (.int np), .val (.int nc), .val (.int ok1), .val .null, .val (.int lk), .val (.int lp), .val (.int lc), .val (.int ok2), .val .null] [(.int (1 : Int32))] := by
        intro t ht
        refine k751 t ?_
        show Steps p.tables e below (T748.setTop (mkF m 582 #[.val (.int p1), .val (.int p2), .val (.int p3), .val (.int p4), .val (.int p5), .val (.int p6), .val (.ref na), .val (.ref la), .val (.int nk), .val (.int np), .val (.int nc), .val (.int ok1), .val .null, .val (.int lk), .val (.int lp), .val (.int lc), .val (.int ok2), .val .null] [(.int zf), (.int (0 : Int32))])) t
        refine XS.icmpNo X748.here hx rfl (hb hby at_582) rfl (teq ((own_b0 (fun q => q.1 hok1)).trans hp751.symm)).2 ?_
        show Steps p.tables e below (T748.setTop (mkF m 585 #[.val (.int p1), .val (.int p2), .val (.int p3), .val (.int p4), .val (.int p5), .val (.int p6), .val (.ref na), .val (.ref la), .val (.int nk), .val (.int np), .val (.int nc), .val (.int ok1), .val .null, .val (.int lk), .val (.int lp), .val (.int lc), .val (.int ok2), .val .null] [])) t
        refine XS.iconst X748.here hx rfl (hb hby at_585) ?_
        show Steps p.tables e below (T748.setTop (mkF m 586 #[.val (.int p1), .val (.int p2), .val (.int p3), .val (.int p4), .val (.int p5), .val (.int p6), .val (.ref na), .val (.ref la), .val (.int nk), .val (.int np), .val (.int nc), .val (.int ok1), .val .null, .val (.int lk), .val (.int lp), .val (.int lc), .val (.int ok2), .val .null] [(.int (1 : Int32))])) t
        refine XS.goto X748.here hx rfl (pc0 := 586) (pc' := 590) rfl (hb hby at_586) (by decide) (by decide) ?_
        exact ht
      obtain ⟨fs, hr, hrun, hended, -, hW, hbk, hsame⟩ := Stand.leaveW (s := s) (vm₁ := T748.vm) X748 (hS748) (by exact hk748) (v := some (.int (1 : Int32))) (fun h => by rw [Bd.returns] at h; cases h)
      refine ⟨_, _, k758 _ ?_, hrun, hended, _, _, rfl, ?_, ?_, ⟨_, rfl⟩, hW, hbk, hsame.mono (by decide) (by decide)⟩
      · exact retN X748 hx (t := .boolean) Bd.returns (by simp) (hb hby at_590) hr
      · show Q0 Z p1 p2 p3 p4 p5 p6 G1 h0 n0 _ T748.heap _
        exact ⟨rfl, N748⟩
      · show CHr Z consts_1 s.vm s.heap T748.vm T748.heap
        rw [hh]
        exact f749.trans (CHv.at (s := s) (vm0 := T748.vm) X748 hZ748 hEL f749.1)
    · rw [hlv] at kj658
      have k759 : Kt p e below m (s₁.setTop (entryFrame m #[(.int p1), (.int p2), (.int p3), (.int p4), (.int p5), (.int p6)] maxLocals)) Tj658 564 #[.val (.int p1), .val (.int p2), .val (.int p3), .val (.int p4), .val (.int p5), .val (.int p6), .val (.ref na), .val (.ref la), .val (.int nk), .val (.int np), .val (.int nc), .val (.int ok1), .val .null, .val (.int lk), .val (.int lp), .val (.int lc), .val (.int ok2), .val (.ref x2)] [(.ref x2), .null] := by
        intro t ht
        refine kj658 t ?_
        show Steps p.tables e below (Tj658.setTop (mkF m 560 #[.val (.int p1), .val (.int p2), .val (.int p3), .val (.int p4), .val (.int p5), .val (.int p6), .val (.ref na), .val (.ref la), .val (.int nk), .val (.int np), .val (.int nc), .val (.int ok1), .val .null, .val (.int lk), .val (.int lp), .val (.int lc), .val (.int ok2), .val (.ref x2)] [])) t
        refine XS.aload Xj658.here hx rfl (hb hby at_560) rfl rfl ?_
        show Steps p.tables e below (Tj658.setTop (mkF m 562 #[.val (.int p1), .val (.int p2), .val (.int p3), .val (.int p4), .val (.int p5), .val (.int p6), .val (.ref na), .val (.ref la), .val (.int nk), .val (.int np), .val (.int nc), .val (.int ok1), .val .null, .val (.int lk), .val (.int lp), .val (.int lc), .val (.int ok2), .val (.ref x2)] [.null])) t
        refine XS.aload Xj658.here hx rfl (hb hby at_562) rfl rfl ?_
        exact ht
      obtain ⟨_, _, ⟨T760, L760, c760, n760⟩, -, X760, hs760, hg760, ⟨Lc760, hQ760, l760, y760, z760, hR760⟩, st760⟩ := callSS (s := s.setVm vmj658) Xj658 hx (y := (⟨"com/example/subscriptor/subscriptor/XmlSignature", "isSignature", "(Ljava/lang/String;Ljava/lang/String;)Z"⟩ : MethodName)) hownj658 (mvT hZj658 (hw _ (List.mem_of_getElem? (i := 31) rfl))) (mvT hZj658 (hw _ (List.mem_of_getElem? (i := 32) rfl))) (mvT hZj658 (hw _ (List.mem_of_getElem? (i := 33) rfl))) (mvT hZj658 (hw _ (List.mem_of_getElem? (i := 34) rfl))) (by decide) (own_backH (s := s) (vm0 := vmj658) (W := 0) (rmisnr l Z a0 hw [] x2 t2 k2 ds G1 hj658 n0 zj658 hEL S1 P5 fj658_0 wE wC wV wK wr wl) hZj658 (hw _ (List.mem_of_getElem? (i := 34) rfl)) (hw _ (List.mem_of_getElem? (i := 33) rfl)) (by decide) (by decide) hEL Rj658.1 all0) (g := (mkF m 564 #[.val (.int p1), .val (.int p2), .val (.int p3), .val (.int p4), .val (.int p5), .val (.int p6), .val (.ref na), .val (.ref la), .val (.int nk), .val (.int np), .val (.int nc), .val (.int ok1), .val .null, .val (.int lk), .val (.int lp), .val (.int lc), .val (.int ok2), .val (.ref x2)] [(.ref x2), .null])) rfl (by rw [hml]; rfl) (argsL := [.null, (.ref x2)]) (rest := []) (lenOf pd_5 rfl) rfl (by show 2 * 0 + _ ≤ _; exact Nat.le_of_eq rfl) (hb hby at_564) (fun _ _ => ⟨rfl, ej658, (by decide : 10 + 4 ≤ _), (by decide : 292 + 180 ≤ _)⟩)
      dsimp only [Pt.U, Pt.locs, Pt.cells, Pt.slots] at X760 hs760 hg760 l760 y760 z760 st760 hQ760 hR760
      subst l760 y760 z760
      have hS760 : s.Since T760.vm T760.heap.size := foldS hSj658 (by rw [ej658]; exact hkj658) hs760 hg760
      have hZ760 : Z.Warmed39 (s.setVm T760.vm).vm := State.Warmed39.trans (t := s.setVm vmj658) hZj658 hs760.1
      have hown760 : (s.setVm T760.vm).vm.findClass "com/example/subscriptor/subscriptor/XmlSignatureIsSignaturePinLaw" = some m.cls := by show T760.vm.findClass _ = _; rw [hs760.1.alike.findClass]; exact hownj658
      obtain ⟨rfl, Nq760⟩ := hQ760
      have N760 := Fr.app Nj658 Nq760
      have k760 : Kt p e below m (s₁.setTop (entryFrame m #[(.int p1), (.int p2), (.int p3), (.int p4), (.int p5), (.int p6)] maxLocals)) T760 567 #[.val (.int p1), .val (.int p2), .val (.int p3), .val (.int p4), .val (.int p5), .val (.int p6), .val (.ref na), .val (.ref la), .val (.int nk), .val (.int np), .val (.int nc), .val (.int ok1), .val .null, .val (.int lk), .val (.int lp), .val (.int lc), .val (.int ok2), .val (.ref x2)] [(.int (0 : Int32))] := fun t ht => k759 t (st760.trans ht)
      have f761 : CHr Z consts_1 s.vm h0 T760.vm T760.heap := Rj658.trans hR760
      have hk760 : T760.heap.size ≤ T760.heap.size := Nat.le_refl _
      have k762 : Kt p e below m (s₁.setTop (entryFrame m #[(.int p1), (.int p2), (.int p3), (.int p4), (.int p5), (.int p6)] maxLocals)) T760 569 #[.val (.int p1), .val (.int p2), .val (.int p3), .val (.int p4), .val (.int p5), .val (.int p6), .val (.ref na), .val (.ref la), .val (.int nk), .val (.int np), .val (.int nc), .val (.int ok1), .val .null, .val (.int lk), .val (.int lp), .val (.int lc), .val (.int ok2), .val (.ref x2)] [(.int ok1), (.int (0 : Int32))] := by
        intro t ht
        refine k760 t ?_
        show Steps p.tables e below (T760.setTop (mkF m 567 #[.val (.int p1), .val (.int p2), .val (.int p3), .val (.int p4), .val (.int p5), .val (.int p6), .val (.ref na), .val (.ref la), .val (.int nk), .val (.int np), .val (.int nc), .val (.int ok1), .val .null, .val (.int lk), .val (.int lp), .val (.int lc), .val (.int ok2), .val (.ref x2)] [(.int (0 : Int32))])) t
        refine XS.iload X760.here hx rfl (hb hby at_567) rfl ?_
        exact ht
      obtain ⟨zf, hp763, k763⟩ : ∃ zf : Int32, (zf = own_b (¬ ok1 = 0 ∧ ¬ ok2 = 0)) ∧ Kt p e below m (s₁.setTop (entryFrame m #[(.int p1), (.int p2), (.int p3), (.int p4), (.int p5), (.int p6)] maxLocals)) T760 582 #[.val (.int p1), .val (.int p2), .val (.int p3), .val (.int p4), .val (.int p5), .val (.int p6), .val (.ref na), .val (.ref la), .val (.int nk), .val (.int np), .val (.int nc), .val (.int ok1), .val .null, .val (.int lk), .val (.int lp), .val (.int lc), .val (.int ok2), .val (.ref x2)] [(.int zf), (.int (0 : Int32))] := by
        by_cases hj764 : ok1 = (0 : Int32)
        · have k765 : Kt p e below m (s₁.setTop (entryFrame m #[(.int p1), (.int p2), (.int p3), (.int p4), (.int p5), (.int p6)] maxLocals)) T760 582 #[.val (.int p1), .val (.int p2), .val (.int p3), .val (.int p4), .val (.int p5), .val (.int p6), .val (.ref na), .val (.ref la), .val (.int nk), .val (.int np), .val (.int nc), .val (.int ok1), .val .null, .val (.int lk), .val (.int lp), .val (.int lc), .val (.int ok2), .val (.ref x2)] [(.int (0 : Int32)), (.int (0 : Int32))] := by
            intro t ht
            refine k762 t ?_
            show Steps p.tables e below (T760.setTop (mkF m 569 #[.val (.int p1), .val (.int p2), .val (.int p3), .val (.int p4), .val (.int p5), .val (.int p6), .val (.ref na), .val (.ref la), .val (.int nk), .val (.int np), .val (.int nc), .val (.int ok1), .val .null, .val (.int lk), .val (.int lp), .val (.int lc), .val (.int ok2), .val (.ref x2)] [(.int ok1), (.int (0 : Int32))])) t
            refine XS.ifYes X760.here hx rfl (pc0 := 569) (pc' := 581) rfl (hb hby at_569) rfl ((if0 _ _).trans (teq hj764).1) (by decide) (by decide) ?_
            show Steps p.tables e below (T760.setTop (mkF m 581 #[.val (.int p1), .val (.int p2), .val (.int p3), .val (.int p4), .val (.int p5), .val (.int p6), .val (.ref na), .val (.ref la), .val (.int nk), .val (.int np), .val (.int nc), .val (.int ok1), .val .null, .val (.int lk), .val (.int lp), .val (.int lc), .val (.int ok2), .val (.ref x2)] [(.int (0 : Int32))])) t
            refine XS.iconst X760.here hx rfl (hb hby at_581) ?_
            exact ht
          exact ⟨(0 : Int32), (by unfold own_b; simp [eq_true hj764]), k765⟩
        · have k766 : Kt p e below m (s₁.setTop (entryFrame m #[(.int p1), (.int p2), (.int p3), (.int p4), (.int p5), (.int p6)] maxLocals)) T760 574 #[.val (.int p1), .val (.int p2), .val (.int p3), .val (.int p4), .val (.int p5), .val (.int p6), .val (.ref na), .val (.ref la), .val (.int nk), .val (.int np), .val (.int nc), .val (.int ok1), .val .null, .val (.int lk), .val (.int lp), .val (.int lc), .val (.int ok2), .val (.ref x2)] [(.int ok2), (.int (0 : Int32))] := by
            intro t ht
            refine k762 t ?_
            show Steps p.tables e below (T760.setTop (mkF m 569 #[.val (.int p1), .val (.int p2), .val (.int p3), .val (.int p4), .val (.int p5), .val (.int p6), .val (.ref na), .val (.ref la), .val (.int nk), .val (.int np), .val (.int nc), .val (.int ok1), .val .null, .val (.int lk), .val (.int lp), .val (.int lc), .val (.int ok2), .val (.ref x2)] [(.int ok1), (.int (0 : Int32))])) t
            refine XS.ifNo X760.here hx rfl (hb hby at_569) rfl ((if0 _ _).trans (feq hj764).1) ?_
            show Steps p.tables e below (T760.setTop (mkF m 572 #[.val (.int p1), .val (.int p2), .val (.int p3), .val (.int p4), .val (.int p5), .val (.int p6), .val (.ref na), .val (.ref la), .val (.int nk), .val (.int np), .val (.int nc), .val (.int ok1), .val .null, .val (.int lk), .val (.int lp), .val (.int lc), .val (.int ok2), .val (.ref x2)] [(.int (0 : Int32))])) t
            refine XS.iload X760.here hx rfl (hb hby at_572) rfl ?_
            exact ht
          by_cases hj767 : ok2 = (0 : Int32)
          · have k768 : Kt p e below m (s₁.setTop (entryFrame m #[(.int p1), (.int p2), (.int p3), (.int p4), (.int p5), (.int p6)] maxLocals)) T760 582 #[.val (.int p1), .val (.int p2), .val (.int p3), .val (.int p4), .val (.int p5), .val (.int p6), .val (.ref na), .val (.ref la), .val (.int nk), .val (.int np), .val (.int nc), .val (.int ok1), .val .null, .val (.int lk), .val (.int lp), .val (.int lc), .val (.int ok2), .val (.ref x2)] [(.int (0 : Int32)), (.int (0 : Int32))] := by
              intro t ht
              refine k766 t ?_
              show Steps p.tables e below (T760.setTop (mkF m 574 #[.val (.int p1), .val (.int p2), .val (.int p3), .val (.int p4), .val (.int p5), .val (.int p6), .val (.ref na), .val (.ref la), .val (.int nk), .val (.int np), .val (.int nc), .val (.int ok1), .val .null, .val (.int lk), .val (.int lp), .val (.int lc), .val (.int ok2), .val (.ref x2)] [(.int ok2), (.int (0 : Int32))])) t
              refine XS.ifYes X760.here hx rfl (pc0 := 574) (pc' := 581) rfl (hb hby at_574) rfl ((if0 _ _).trans (teq hj767).1) (by decide) (by decide) ?_
              show Steps p.tables e below (T760.setTop (mkF m 581 #[.val (.int p1), .val (.int p2), .val (.int p3), .val (.int p4), .val (.int p5), .val (.int p6), .val (.ref na), .val (.ref la), .val (.int nk), .val (.int np), .val (.int nc), .val (.int ok1), .val .null, .val (.int lk), .val (.int lp), .val (.int lc), .val (.int ok2), .val (.ref x2)] [(.int (0 : Int32))])) t
              refine XS.iconst X760.here hx rfl (hb hby at_581) ?_
              exact ht
            exact ⟨(0 : Int32), (by unfold own_b; simp [eq_false hj764, eq_true hj767]), k768⟩
          · have k769 : Kt p e below m (s₁.setTop (entryFrame m #[(.int p1), (.int p2), (.int p3), (.int p4), (.int p5), (.int p6)] maxLocals)) T760 582 #[.val (.int p1), .val (.int p2), .val (.int p3), .val (.int p4), .val (.int p5), .val (.int p6), .val (.ref na), .val (.ref la), .val (.int nk), .val (.int np), .val (.int nc), .val (.int ok1), .val .null, .val (.int lk), .val (.int lp), .val (.int lc), .val (.int ok2), .val (.ref x2)] [(.int (1 : Int32)), (.int (0 : Int32))] := by
              intro t ht
              refine k766 t ?_
              show Steps p.tables e below (T760.setTop (mkF m 574 #[.val (.int p1), .val (.int p2), .val (.int p3), .val (.int p4), .val (.int p5), .val (.int p6), .val (.ref na), .val (.ref la), .val (.int nk), .val (.int np), .val (.int nc), .val (.int ok1), .val .null, .val (.int lk), .val (.int lp), .val (.int lc), .val (.int ok2), .val (.ref x2)] [(.int ok2), (.int (0 : Int32))])) t
              refine XS.ifNo X760.here hx rfl (hb hby at_574) rfl ((if0 _ _).trans (feq hj767).1) ?_
              show Steps p.tables e below (T760.setTop (mkF m 577 #[.val (.int p1), .val (.int p2), .val (.int p3), .val (.int p4), .val (.int p5), .val (.int p6), .val (.ref na), .val (.ref la), .val (.int nk), .val (.int np), .val (.int nc), .val (.int ok1), .val .null, .val (.int lk), .val (.int lp), .val (.int lc), .val (.int ok2), .val (.ref x2)] [(.int (0 : Int32))])) t
              refine XS.iconst X760.here hx rfl (hb hby at_577) ?_
              show Steps p.tables e below (T760.setTop (mkF m 578 #[.val (.int p1), .val (.int p2), .val (.int p3), .val (.int p4), .val (.int p5), .val (.int p6), .val (.ref na), .val (.ref la), .val (.int nk), .val (.int np), .val (.int nc), .val (.int ok1), .val .null, .val (.int lk), .val (.int lp), .val (.int lc), .val (.int ok2), .val (.ref x2)] [(.int (1 : Int32)), (.int (0 : Int32))])) t
              refine XS.goto X760.here hx rfl (pc0 := 578) (pc' := 582) rfl (hb hby at_578) (by decide) (by decide) ?_
              exact ht
            exact ⟨(1 : Int32), (by unfold own_b; simp [eq_false hj764, eq_false hj767]), k769⟩
      have k770 : Kt p e below m (s₁.setTop (entryFrame m #[(.int p1), (.int p2), (.int p3), (.int p4), (.int p5), (.int p6)] maxLocals)) T760 590 #[.val (.int p1), .val (.int p2), .val (.int p3), .val (.int p4), .val (.int p5), .val (.int p6), .val (.ref na), .val (.ref la), .val (.int nk), .val (.int np), .val (.int nc), .val (.int ok1), .val .null, .val (.int lk), .val (.int lp), .val (.int lc), .val (.int ok2), .val (.ref x2)] [(.int (1 : Int32))] := by
        intro t ht
        refine k763 t ?_
        show Steps p.tables e below (T760.setTop (mkF m 582 #[.val (.int p1), .val (.int p2), .val (.int p3), .val (.int p4), .val (.int p5), .val (.int p6), .val (.ref na), .val (.ref la), .val (.int nk), .val (.int np), .val (.int nc), .val (.int ok1), .val .null, .val (.int lk), .val (.int lp), .val (.int lc), .val (.int ok2), .val (.ref x2)] [(.int zf), (.int (0 : Int32))])) t
        refine XS.icmpNo X760.here hx rfl (hb hby at_582) rfl (teq ((own_b0 (fun q => q.1 hok1)).trans hp763.symm)).2 ?_
        show Steps p.tables e below (T760.setTop (mkF m 585 #[.val (.int p1), .val (.int p2), .val (.int p3), .val (.int p4), .val (.int p5), .val (.int p6), .val (.ref na), .val (.ref la), .val (.int nk), .val (.int np), .val (.int nc), .val (.int ok1), .val .null, .val (.int lk), .val (.int lp), .val (.int lc), .val (.int ok2), .val (.ref x2)] [])) t
        refine XS.iconst X760.here hx rfl (hb hby at_585) ?_
        show Steps p.tables e below (T760.setTop (mkF m 586 #[.val (.int p1), .val (.int p2), .val (.int p3), .val (.int p4), .val (.int p5), .val (.int p6), .val (.ref na), .val (.ref la), .val (.int nk), .val (.int np), .val (.int nc), .val (.int ok1), .val .null, .val (.int lk), .val (.int lp), .val (.int lc), .val (.int ok2), .val (.ref x2)] [(.int (1 : Int32))])) t
        refine XS.goto X760.here hx rfl (pc0 := 586) (pc' := 590) rfl (hb hby at_586) (by decide) (by decide) ?_
        exact ht
      obtain ⟨fs, hr, hrun, hended, -, hW, hbk, hsame⟩ := Stand.leaveW (s := s) (vm₁ := T760.vm) X760 (hS760) (by exact hk760) (v := some (.int (1 : Int32))) (fun h => by rw [Bd.returns] at h; cases h)
      refine ⟨_, _, k770 _ ?_, hrun, hended, _, _, rfl, ?_, ?_, ⟨_, rfl⟩, hW, hbk, hsame.mono (by decide) (by decide)⟩
      · exact retN X760 hx (t := .boolean) Bd.returns (by simp) (hb hby at_590) hr
      · show Q0 Z p1 p2 p3 p4 p5 p6 G1 h0 n0 _ T760.heap _
        exact ⟨rfl, N760⟩
      · show CHr Z consts_1 s.vm s.heap T760.vm T760.heap
        rw [hh]
        exact f761.trans (CHv.at (s := s) (vm0 := T760.vm) X760 hZ760 hEL f761.1)
  · rw [hnv] at k657
    have ne_x1_la : x1 ≠ la := fun q => by subst q; exact own_nea uE (hw _ (List.mem_of_getElem? (i := 3) rfl)) fj565_1
    have ne_t1_la : t1 ≠ la := fun q => by subst q; exact own_neb uK fj565_1
    obtain ⟨vmj771, Tj771, hj771, locsj771, kbj771, ok2, lv, Xj771, ej771, Nj771, zj771, fj771_0, fj771_1, fj771_2, fj771_3, fj771_4, Rj771, hSj771, hkj771, hZj771, hownj771, hpj771, kj771⟩ : ∃ (vmj771 : Vm) (Tj771 : State) (hj771 : Heap) (locsj771 : List Loc) (kbj771 : Nat) (ok2 : Int32) (lv : Value), Stand p l e room_1 (s.setVm vmj771) m #[(.int p1), (.int p2), (.int p3), (.int p4), (.int p5), (.int p6)] below meth c Tj771 locsj771 10 292 ∧ Tj771.heap = hj771 ∧ Fr n0 locsj771 ∧ n0 ≤ hj771.size ∧ Old Z n0 hj771 ∧ Exa Z hj771 x1 "java/lang/String" ∧ Fld Z hj771 x1 "java/lang/String" "coder" "B" (.int (0 : Int32)) ∧ Fld Z hj771 x1 "java/lang/String" "value" "[B" (.ref t1) ∧ Arv Z hj771 t1 k1 .byte (Int32.ofNat cs.length) (own_by cs) (.int (0 : Int32)) ∧ CHr Z consts_1 s.vm h0 vmj771 hj771 ∧ s.Since vmj771 kbj771 ∧ kbj771 ≤ hj771.size ∧ Z.Warmed39 (s.setVm vmj771).vm ∧ (s.setVm vmj771).vm.findClass "com/example/subscriptor/subscriptor/XmlSignatureIsSignaturePinLaw" = some m.cls ∧ ((lv = .null ∧ ok2 = 0) ∨ (∃ x t kb cs, lv = .ref x ∧ Exa Z hj771 x "java/lang/String" ∧ Fld Z hj771 x "java/lang/String" "coder" "B" (.int (0 : Int32)) ∧ Fld Z hj771 x "java/lang/String" "value" "[B" (.ref t) ∧ Arv Z hj771 t kb .byte (Int32.ofNat cs.length) (own_by cs) (.int (0 : Int32)) ∧ (∀ c ∈ cs, own_r c) ∧ cs.length ≤ 4000 ∧ ok2 = own_b (own_ln = cs))) ∧ Kt p e below m (s₁.setTop (entryFrame m #[(.int p1), (.int p2), (.int p3), (.int p4), (.int p5), (.int p6)] maxLocals)) Tj771 560 #[.val (.int p1), .val (.int p2), .val (.int p3), .val (.int p4), .val (.int p5), .val (.int p6), .val (.ref na), .val (.ref la), .val (.int nk), .val (.int np), .val (.int nc), .val (.int ok1), .val (.ref x1), .val (.int lk), .val (.int lp), .val (.int lc), .val (.int ok2), .val lv] [] := by
      by_cases hk0 : lk = (0 : Int32)
      · have k773 : Kt p e below m (s₁.setTop (entryFrame m #[(.int p1), (.int p2), (.int p3), (.int p4), (.int p5), (.int p6)] maxLocals)) Tj565 437 #[.val (.int p1), .val (.int p2), .val (.int p3), .val (.int p4), .val (.int p5), .val (.int p6), .val (.ref na), .val (.ref la), .val (.int nk), .val (.int np), .val (.int nc), .val (.int ok1), .val (.ref x1), .val (.int lk), .val (.int lp), .val (.int lc), .unset, .unset] [(.int lp), (.ref la)] := by
          intro t ht
          refine k657 t ?_
          show Steps p.tables e below (Tj565.setTop (mkF m 430 #[.val (.int p1), .val (.int p2), .val (.int p3), .val (.int p4), .val (.int p5), .val (.int p6), .val (.ref na), .val (.ref la), .val (.int nk), .val (.int np), .val (.int nc), .val (.int ok1), .val (.ref x1), .val (.int lk), .val (.int lp), .val (.int lc), .unset, .unset] [(.int lk)])) t
          refine XS.ifNo Xj565.here hx rfl (hb hby at_430) rfl ((if0 _ _).trans (teq hk0).2) ?_
          show Steps p.tables e below (Tj565.setTop (mkF m 433 #[.val (.int p1), .val (.int p2), .val (.int p3), .val (.int p4), .val (.int p5), .val (.int p6), .val (.ref na), .val (.ref la), .val (.int nk), .val (.int np), .val (.int nc), .val (.int ok1), .val (.ref x1), .val (.int lk), .val (.int lp), .val (.int lc), .unset, .unset] [])) t
          refine XS.aload Xj565.here hx rfl (hb hby at_433) rfl rfl ?_
          show Steps p.tables e below (Tj565.setTop (mkF m 435 #[.val (.int p1), .val (.int p2), .val (.int p3), .val (.int p4), .val (.int p5), .val (.int p6), .val (.ref na), .val (.ref la), .val (.int nk), .val (.int np), .val (.int nc), .val (.int ok1), .val (.ref x1), .val (.int lk), .val (.int lp), .val (.int lc), .unset, .unset] [(.ref la)])) t
          refine XS.iload Xj565.here hx rfl (hb hby at_435) rfl ?_
          exact ht
        obtain ⟨cl772, Ar772, qc772, Sz772, Nn772, Hh772, Gg772⟩ := id fj565_1
        have hi772 : lp.toNatClampNeg < 9 := own_nat rlp own_9
        have hin772 : ¬ (lp < 0 ∨ cl772.slots.size ≤ (lp).toNatClampNeg) := inb_of Sz772 rlp
        have hat772 : cl772.slots[(lp).toNatClampNeg]? = some (.int (own_ln.getD lp.toNatClampNeg 0)) := Hh772.at hin772 (own_get own_ln _)
        have k774 : Kt p e below m (s₁.setTop (entryFrame m #[(.int p1), (.int p2), (.int p3), (.int p4), (.int p5), (.int p6)] maxLocals)) Tj565 440 #[.val (.int p1), .val (.int p2), .val (.int p3), .val (.int p4), .val (.int p5), .val (.int p6), .val (.ref na), .val (.ref la), .val (.int nk), .val (.int np), .val (.int nc), .val (.int ok1), .val (.ref x1), .val (.int lk), .val (.int lp), .val (.int lc), .unset, .unset] [(.int lc), (.int (own_ln.getD lp.toNatClampNeg 0))] := by
          intro t ht
          refine k773 t ?_
          show Steps p.tables e below (Tj565.setTop (mkF m 437 #[.val (.int p1), .val (.int p2), .val (.int p3), .val (.int p4), .val (.int p5), .val (.int p6), .val (.ref na), .val (.ref la), .val (.int nk), .val (.int np), .val (.int nc), .val (.int ok1), .val (.ref x1), .val (.int lk), .val (.int lp), .val (.int lc), .unset, .unset] [(.int lp), (.ref la)])) t
          refine Xj565.caload hx (j := lp) (v := (.int (own_ln.getD lp.toNatClampNeg 0))) (by rw [ej565]; exact Ar772.1) (State.isArrayOf_alike hZj565.alike Ar772.2.1) Ar772.2.2 hin772 hat772 (g := (mkF m 437 #[.val (.int p1), .val (.int p2), .val (.int p3), .val (.int p4), .val (.int p5), .val (.int p6), .val (.ref na), .val (.ref la), .val (.int nk), .val (.int np), .val (.int nc), .val (.int ok1), .val (.ref x1), .val (.int lk), .val (.int lp), .val (.int lc), .unset, .unset] [(.int lp), (.ref la)])) rfl rfl (hb hby at_437) _ ?_
          show Steps p.tables e below (Tj565.setTop (mkF m 438 #[.val (.int p1), .val (.int p2), .val (.int p3), .val (.int p4), .val (.int p5), .val (.int p6), .val (.ref na), .val (.ref la), .val (.int nk), .val (.int np), .val (.int nc), .val (.int ok1), .val (.ref x1), .val (.int lk), .val (.int lp), .val (.int lc), .unset, .unset] [(.int (own_ln.getD lp.toNatClampNeg 0))])) t
          refine XS.iload Xj565.here hx rfl (hb hby at_438) rfl ?_
          exact ht
        obtain ⟨zb, hp775, k775⟩ : ∃ zb : Int32, (zb = own_b (own_ln.getD lp.toNatClampNeg 0 = lc)) ∧ Kt p e below m (s₁.setTop (entryFrame m #[(.int p1), (.int p2), (.int p3), (.int p4), (.int p5), (.int p6)] maxLocals)) Tj565 448 #[.val (.int p1), .val (.int p2), .val (.int p3), .val (.int p4), .val (.int p5), .val (.int p6), .val (.ref na), .val (.ref la), .val (.int nk), .val (.int np), .val (.int nc), .val (.int ok1), .val (.ref x1), .val (.int lk), .val (.int lp), .val (.int lc), .unset, .unset] [(.int zb)] := by
          by_cases hj776 : (own_ln.getD lp.toNatClampNeg 0) = lc
          · have k777 : Kt p e below m (s₁.setTop (entryFrame m #[(.int p1), (.int p2), (.int p3), (.int p4), (.int p5), (.int p6)] maxLocals)) Tj565 448 #[.val (.int p1), .val (.int p2), .val (.int p3), .val (.int p4), .val (.int p5), .val (.int p6), .val (.ref na), .val (.ref la), .val (.int nk), .val (.int np), .val (.int nc), .val (.int ok1), .val (.ref x1), .val (.int lk), .val (.int lp), .val (.int lc), .unset, .unset] [(.int (1 : Int32))] := by
              intro t ht
              refine k774 t ?_
              show Steps p.tables e below (Tj565.setTop (mkF m 440 #[.val (.int p1), .val (.int p2), .val (.int p3), .val (.int p4), .val (.int p5), .val (.int p6), .val (.ref na), .val (.ref la), .val (.int nk), .val (.int np), .val (.int nc), .val (.int ok1), .val (.ref x1), .val (.int lk), .val (.int lp), .val (.int lc), .unset, .unset] [(.int lc), (.int (own_ln.getD lp.toNatClampNeg 0))])) t
              refine XS.icmpNo Xj565.here hx rfl (hb hby at_440) rfl (teq hj776).2 ?_
              show Steps p.tables e below (Tj565.setTop (mkF m 443 #[.val (.int p1), .val (.int p2), .val (.int p3), .val (.int p4), .val (.int p5), .val (.int p6), .val (.ref na), .val (.ref la), .val (.int nk), .val (.int np), .val (.int nc), .val (.int ok1), .val (.ref x1), .val (.int lk), .val (.int lp), .val (.int lc), .unset, .unset] [])) t
              refine XS.iconst Xj565.here hx rfl (hb hby at_443) ?_
              show Steps p.tables e below (Tj565.setTop (mkF m 444 #[.val (.int p1), .val (.int p2), .val (.int p3), .val (.int p4), .val (.int p5), .val (.int p6), .val (.ref na), .val (.ref la), .val (.int nk), .val (.int np), .val (.int nc), .val (.int ok1), .val (.ref x1), .val (.int lk), .val (.int lp), .val (.int lc), .unset, .unset] [(.int (1 : Int32))])) t
              refine XS.goto Xj565.here hx rfl (pc0 := 444) (pc' := 448) rfl (hb hby at_444) (by decide) (by decide) ?_
              exact ht
            exact ⟨(1 : Int32), (own_b1 hj776), k777⟩
          · have k778 : Kt p e below m (s₁.setTop (entryFrame m #[(.int p1), (.int p2), (.int p3), (.int p4), (.int p5), (.int p6)] maxLocals)) Tj565 448 #[.val (.int p1), .val (.int p2), .val (.int p3), .val (.int p4), .val (.int p5), .val (.int p6), .val (.ref na), .val (.ref la), .val (.int nk), .val (.int np), .val (.int nc), .val (.int ok1), .val (.ref x1), .val (.int lk), .val (.int lp), .val (.int lc), .unset, .unset] [(.int (0 : Int32))] := by
              intro t ht
              refine k774 t ?_
              show Steps p.tables e below (Tj565.setTop (mkF m 440 #[.val (.int p1), .val (.int p2), .val (.int p3), .val (.int p4), .val (.int p5), .val (.int p6), .val (.ref na), .val (.ref la), .val (.int nk), .val (.int np), .val (.int nc), .val (.int ok1), .val (.ref x1), .val (.int lk), .val (.int lp), .val (.int lc), .unset, .unset] [(.int lc), (.int (own_ln.getD lp.toNatClampNeg 0))])) t
              refine XS.icmpYes Xj565.here hx rfl (pc0 := 440) (pc' := 447) rfl (hb hby at_440) rfl (feq hj776).2 (by decide) (by decide) ?_
              show Steps p.tables e below (Tj565.setTop (mkF m 447 #[.val (.int p1), .val (.int p2), .val (.int p3), .val (.int p4), .val (.int p5), .val (.int p6), .val (.ref na), .val (.ref la), .val (.int nk), .val (.int np), .val (.int nc), .val (.int ok1), .val (.ref x1), .val (.int lk), .val (.int lp), .val (.int lc), .unset, .unset] [])) t
              refine XS.iconst Xj565.here hx rfl (hb hby at_447) ?_
              exact ht
            exact ⟨(0 : Int32), (own_b0 hj776), k778⟩
        have k779 : Kt p e below m (s₁.setTop (entryFrame m #[(.int p1), (.int p2), (.int p3), (.int p4), (.int p5), (.int p6)] maxLocals)) Tj565 456 #[.val (.int p1), .val (.int p2), .val (.int p3), .val (.int p4), .val (.int p5), .val (.int p6), .val (.ref na), .val (.ref la), .val (.int nk), .val (.int np), .val (.int nc), .val (.int ok1), .val (.ref x1), .val (.int lk), .val (.int lp), .val (.int lc), .val (.int zb), .unset] [(.int lc), (.int lp), (.ref la)] := by
          intro t ht
          refine k775 t ?_
          show Steps p.tables e below (Tj565.setTop (mkF m 448 #[.val (.int p1), .val (.int p2), .val (.int p3), .val (.int p4), .val (.int p5), .val (.int p6), .val (.ref na), .val (.ref la), .val (.int nk), .val (.int np), .val (.int nc), .val (.int ok1), .val (.ref x1), .val (.int lk), .val (.int lp), .val (.int lc), .unset, .unset] [(.int zb)])) t
          refine XS.istore Xj565.here hx rfl (hb hby at_448) rfl (l' := #[.val (.int p1), .val (.int p2), .val (.int p3), .val (.int p4), .val (.int p5), .val (.int p6), .val (.ref na), .val (.ref la), .val (.int nk), .val (.int np), .val (.int nc), .val (.int ok1), .val (.ref x1), .val (.int lk), .val (.int lp), .val (.int lc), .val (.int zb), .unset]) rfl ?_
          show Steps p.tables e below (Tj565.setTop (mkF m 450 #[.val (.int p1), .val (.int p2), .val (.int p3), .val (.int p4), .val (.int p5), .val (.int p6), .val (.ref na), .val (.ref la), .val (.int nk), .val (.int np), .val (.int nc), .val (.int ok1), .val (.ref x1), .val (.int lk), .val (.int lp), .val (.int lc), .val (.int zb), .unset] [])) t
          refine XS.aload Xj565.here hx rfl (hb hby at_450) rfl rfl ?_
          show Steps p.tables e below (Tj565.setTop (mkF m 452 #[.val (.int p1), .val (.int p2), .val (.int p3), .val (.int p4), .val (.int p5), .val (.int p6), .val (.ref na), .val (.ref la), .val (.int nk), .val (.int np), .val (.int nc), .val (.int ok1), .val (.ref x1), .val (.int lk), .val (.int lp), .val (.int lc), .val (.int zb), .unset] [(.ref la)])) t
          refine XS.iload Xj565.here hx rfl (hb hby at_452) rfl ?_
          show Steps p.tables e below (Tj565.setTop (mkF m 454 #[.val (.int p1), .val (.int p2), .val (.int p3), .val (.int p4), .val (.int p5), .val (.int p6), .val (.ref na), .val (.ref la), .val (.int nk), .val (.int np), .val (.int nc), .val (.int ok1), .val (.ref x1), .val (.int lk), .val (.int lp), .val (.int lc), .val (.int zb), .unset] [(.int lp), (.ref la)])) t
          refine XS.iload Xj565.here hx rfl (hb hby at_454) rfl ?_
          exact ht
        obtain ⟨T780, h780, X780, e780, W780, st780⟩ := stC Xj565 hx hZj565 ej565 Ar772 (j := lp) hin772 (g := (mkF m 456 #[.val (.int p1), .val (.int p2), .val (.int p3), .val (.int p4), .val (.int p5), .val (.int p6), .val (.ref na), .val (.ref la), .val (.int nk), .val (.int np), .val (.int nc), .val (.int ok1), .val (.ref x1), .val (.int lk), .val (.int lp), .val (.int lc), .val (.int zb), .unset] [(.int lc), (.int lp), (.ref la)])) rfl rfl (hb hby at_456)
        have N780 := Fr.snoc X780 Nj565 g_la
        have f781 : n0 ≤ h780.size := Nat.le_trans zj565 (Keep.of_wr W780).1
        have f782 : Old Z n0 h780 := fj565_0.wr W780 g_la
        have f783 : Arv Z h780 la ak468 .char (9 : Int32) ((own_ln.set lp.toNatClampNeg lc).map Value.int) (.int (0 : Int32)) := by rw [← own_set]; have q := Arv.set Ar772 qc772 Sz772 Nn772 Hh772 Gg772 (fits_nar_char _) W780 _ rfl (by rw [List.length_map]; exact hi772); rw [own_nar rlc] at q; exact q
        have f784 : Safe Z consts_1 vmj565 h780 la := Safe.wr W780 fj565_2 Rj565.1 fj565_2
        have f785 : CHr Z consts_1 s.vm h0 vmj565 h780 := Rj565.trans (CHr.wr W780 fj565_2 Rj565.1)
        have f786 : kbj565 ≤ h780.size := Nat.le_trans hkj565 (Keep.of_wr W780).1
        have f787 : Exa Z h780 x1 "java/lang/String" := uE.wr W780
        have f788 : Fld Z h780 x1 "java/lang/String" "coder" "B" (.int (0 : Int32)) := uC.other W780 (Or.inl ne_x1_la)
        have f789 : Fld Z h780 x1 "java/lang/String" "value" "[B" (.ref t1) := uV.other W780 (Or.inl ne_x1_la)
        have f790 : Arv Z h780 t1 k1 .byte (Int32.ofNat cs.length) (own_by cs) (.int (0 : Int32)) := uK.other W780 ne_t1_la
        have k780 : Kt p e below m (s₁.setTop (entryFrame m #[(.int p1), (.int p2), (.int p3), (.int p4), (.int p5), (.int p6)] maxLocals)) T780 457 #[.val (.int p1), .val (.int p2), .val (.int p3), .val (.int p4), .val (.int p5), .val (.int p6), .val (.ref na), .val (.ref la), .val (.int nk), .val (.int np), .val (.int nc), .val (.int ok1), .val (.ref x1), .val (.int lk), .val (.int lp), .val (.int lc), .val (.int zb), .unset] [] := fun t ht => k779 t (st780 t ht)
        obtain ⟨T791, h791, X791, e791, E791, A791, D791, -, st791⟩ := newO X780 hx hZj565 hownj565 (hw _ (List.mem_of_getElem? (i := 2) rfl)) (hw _ (List.mem_of_getElem? (i := 3) rfl)) (hw _ (List.mem_of_getElem? (i := 4) rfl)) e780 (g := (mkF m 457 #[.val (.int p1), .val (.int p2), .val (.int p3), .val (.int p4), .val (.int p5), .val (.int p6), .val (.ref na), .val (.ref la), .val (.int nk), .val (.int np), .val (.int nc), .val (.int ok1), .val (.ref x1), .val (.int lk), .val (.int lp), .val (.int lc), .val (.int zb), .unset] [])) rfl (hb hby at_457) (by decide) (by decide)
        obtain ⟨sx, q791⟩ : ∃ z, z = h780.size := ⟨_, rfl⟩
        have ne_la_sx : la ≠ sx := by rw [q791]; exact Nat.ne_of_lt f783.lt
        have ne_x1_sx : x1 ≠ sx := by rw [q791]; exact Nat.ne_of_lt f787.lt
        have ne_t1_sx : t1 ≠ sx := by rw [q791]; exact Nat.ne_of_lt f790.lt
        have g_sx : n0 ≤ sx := by rw [q791]; exact f781
        rw [← q791] at A791 D791 st791
        have f792 : n0 ≤ h791.size := Nat.le_trans f781 E791.1
        have f793 : Old Z n0 h791 := f782.ext E791
        have f794 : Arv Z h791 la ak468 .char (9 : Int32) ((own_ln.set lp.toNatClampNeg lc).map Value.int) (.int (0 : Int32)) := f783.ext E791
        have f795 : Safe Z consts_1 vmj565 h791 la := f784.ext E791 f785.1
        have f796 : CHr Z consts_1 s.vm h0 vmj565 h791 := f785.trans (CHr.ext E791 f785.1)
        have f797 : kbj565 ≤ h791.size := Nat.le_trans f786 E791.1
        have f798 : Exa Z h791 x1 "java/lang/String" := f787.ext E791
        have f799 : Fld Z h791 x1 "java/lang/String" "coder" "B" (.int (0 : Int32)) := f788.ext E791
        have f800 : Fld Z h791 x1 "java/lang/String" "value" "[B" (.ref t1) := f789.ext E791
        have f801 : Arv Z h791 t1 k1 .byte (Int32.ofNat cs.length) (own_by cs) (.int (0 : Int32)) := f790.ext E791
        have Sf791 : Safe Z consts_1 vmj565 h791 sx := Safe.ext E791 f785.1 (Safe.new (by rw [q791]; exact Nat.le_refl _))
        have f791 : Exa Z h791 sx "java/lang/String" := A791
        have f802 : Fld Z h791 sx "java/lang/String" "coder" "B" (.int (0 : Int32)) := D791 (Or.inr (hw _ (List.mem_of_getElem? (i := 28) rfl))) (ty := .byte) (by decide)
        have f803 : Fld Z h791 sx "java/lang/String" "value" "[B" .null := D791 (Or.inr (hw _ (List.mem_of_getElem? (i := 30) rfl))) (ty := (.array .byte)) (by decide)
        have k791 : Kt p e below m (s₁.setTop (entryFrame m #[(.int p1), (.int p2), (.int p3), (.int p4), (.int p5), (.int p6)] maxLocals)) T791 460 #[.val (.int p1), .val (.int p2), .val (.int p3), .val (.int p4), .val (.int p5), .val (.int p6), .val (.ref na), .val (.ref la), .val (.int nk), .val (.int np), .val (.int nc), .val (.int ok1), .val (.ref x1), .val (.int lk), .val (.int lp), .val (.int lc), .val (.int zb), .unset] [(.ref sx)] := fun t ht => k780 t (st791 t ht)
        have hp780 : ∀ c ∈ (own_ln.set lp.toNatClampNeg lc), ¬ c < 0 ∧ ¬ (255 : Int32) < c := own_setr own_ln_r rlc
        have k804 : Kt p e below m (s₁.setTop (entryFrame m #[(.int p1), (.int p2), (.int p3), (.int p4), (.int p5), (.int p6)] maxLocals)) T791 463 #[.val (.int p1), .val (.int p2), .val (.int p3), .val (.int p4), .val (.int p5), .val (.int p6), .val (.ref na), .val (.ref la), .val (.int nk), .val (.int np), .val (.int nc), .val (.int ok1), .val (.ref x1), .val (.int lk), .val (.int lp), .val (.int lc), .val (.int zb), .unset] [(.ref la), (.ref sx), (.ref sx)] := by
          intro t ht
          refine k791 t ?_
          show Steps p.tables e below (T791.setTop (mkF m 460 #[.val (.int p1), .val (.int p2), .val (.int p3), .val (.int p4), .val (.int p5), .val (.int p6), .val (.ref na), .val (.ref la), .val (.int nk), .val (.int np), .val (.int nc), .val (.int ok1), .val (.ref x1), .val (.int lk), .val (.int lp), .val (.int lc), .val (.int zb), .unset] [(.ref sx)])) t
          refine XS.dup X791.here hx rfl (hb hby at_460) rfl rfl ?_
          show Steps p.tables e below (T791.setTop (mkF m 461 #[.val (.int p1), .val (.int p2), .val (.int p3), .val (.int p4), .val (.int p5), .val (.int p6), .val (.ref na), .val (.ref la), .val (.int nk), .val (.int np), .val (.int nc), .val (.int ok1), .val (.ref x1), .val (.int lk), .val (.int lp), .val (.int lc), .val (.int zb), .unset] [(.ref sx), (.ref sx)])) t
          refine XS.aload X791.here hx rfl (hb hby at_461) rfl rfl ?_
          exact ht
        obtain ⟨_, _, ⟨T805, L805, c805, n805⟩, -, X805, ⟨Lc805, hQ805, l805, y805, z805⟩, st805⟩ := X791.specialBack hx (y := (⟨"java/lang/String", "<init>", "([C)V"⟩ : MethodName)) rfl hownj565 (mvT hZj565 (hw _ (List.mem_of_getElem? (i := 5) rfl))) (mvT hZj565 (hw _ (List.mem_of_getElem? (i := 6) rfl))) (mvT hZj565 (hw _ (List.mem_of_getElem? (i := 7) rfl))) (by decide) (StrChars.Road.backV (W := 1) hZj565 hws (kI := 4) (hw _ (List.mem_of_getElem? (i := 3) rfl)) (cs := (own_ln.set lp.toNatClampNeg lc)) (bs := (own_ln.set lp.toNatClampNeg lc).map (fun c => c.toInt8.toInt32)) (n := 9) g_sx f792 f791 f803 f802 f794 (S1.ext f793.2) P5 (by rw [List.length_set]; rfl) rfl (by decide) (by decide) hp780 rfl (by decide) (by decide)) (g := (mkF m 463 #[.val (.int p1), .val (.int p2), .val (.int p3), .val (.int p4), .val (.int p5), .val (.int p6), .val (.ref na), .val (.ref la), .val (.int nk), .val (.int np), .val (.int nc), .val (.int ok1), .val (.ref x1), .val (.int lk), .val (.int lp), .val (.int lc), .val (.int zb), .unset] [(.ref la), (.ref sx), (.ref sx)])) rfl (by rw [hml]; rfl) (Steps.refl _) (a := sx) (argsL := [(.ref la)]) (rest := [(.ref sx)]) (lenOf pd_9 rfl) rfl (by show 2 * 0 + _ ≤ _; exact Nat.le_of_eq rfl) (hb hby at_463) (fun _ _ => ⟨rfl, e791, (by decide : 7 + 1 ≤ _), (by decide : 225 + 9 ≤ _)⟩)
        dsimp only [Pt.U, Pt.locs, Pt.cells, Pt.slots] at X805 l805 y805 z805 st805 hQ805
        subst l805 y805 z805
        obtain ⟨rfl, Nq805, Kp805, Ev805, Fc805, t805, kb805, -, -, -, Fv805, Va805⟩ := hQ805
        have N805 := Fr.app N780 Nq805
        have k805 : Kt p e below m (s₁.setTop (entryFrame m #[(.int p1), (.int p2), (.int p3), (.int p4), (.int p5), (.int p6)] maxLocals)) T805 466 #[.val (.int p1), .val (.int p2), .val (.int p3), .val (.int p4), .val (.int p5), .val (.int p6), .val (.ref na), .val (.ref la), .val (.int nk), .val (.int np), .val (.int nc), .val (.int ok1), .val (.ref x1), .val (.int lk), .val (.int lp), .val (.int lc), .val (.int zb), .unset] [(.ref sx)] := fun t ht => k804 t (st805.trans ht)
        have f806 : n0 ≤ T805.heap.size := Nat.le_trans f792 Kp805.1
        have f807 : Old Z n0 T805.heap := f793.keep Kp805 (allS g_sx all0)
        have f808 : Arv Z T805.heap la ak468 .char (9 : Int32) ((own_ln.set lp.toNatClampNeg lc).map Value.int) (.int (0 : Int32)) := f794.keep Kp805 (ninS ne_la_sx nin0)
        have f809 : Safe Z consts_1 vmj565 T805.heap la := Safe.keep Kp805 (sfS Sf791 sf0) f796.1 f795
        have f810 : CHr Z consts_1 s.vm h0 vmj565 T805.heap := f796.trans (CHr.keep Kp805 (sfS Sf791 sf0) f796.1)
        have f811 : kbj565 ≤ T805.heap.size := Nat.le_trans f797 Kp805.1
        have f812 : Exa Z T805.heap x1 "java/lang/String" := f798.keep Kp805
        have f813 : Fld Z T805.heap x1 "java/lang/String" "coder" "B" (.int (0 : Int32)) := f799.keep Kp805 (ninS ne_x1_sx nin0)
        have f814 : Fld Z T805.heap x1 "java/lang/String" "value" "[B" (.ref t1) := f800.keep Kp805 (ninS ne_x1_sx nin0)
        have f815 : Arv Z T805.heap t1 k1 .byte (Int32.ofNat cs.length) (own_by cs) (.int (0 : Int32)) := f801.keep Kp805 (ninS ne_t1_sx nin0)
        have f816 : Safe Z consts_1 vmj565 T805.heap sx := Safe.keep Kp805 (sfS Sf791 sf0) f796.1 Sf791
        have f817 : Exa Z T805.heap sx "java/lang/String" := f791.keep Kp805
        have hl805 : (own_ln.set lp.toNatClampNeg lc).length = 9 := by rw [List.length_set]; rfl
        have k820 : Kt p e below m (s₁.setTop (entryFrame m #[(.int p1), (.int p2), (.int p3), (.int p4), (.int p5), (.int p6)] maxLocals)) T805 560 #[.val (.int p1), .val (.int p2), .val (.int p3), .val (.int p4), .val (.int p5), .val (.int p6), .val (.ref na), .val (.ref la), .val (.int nk), .val (.int np), .val (.int nc), .val (.int ok1), .val (.ref x1), .val (.int lk), .val (.int lp), .val (.int lc), .val (.int zb), .val (.ref sx)] [] := by
          intro t ht
          refine k805 t ?_
          show Steps p.tables e below (T805.setTop (mkF m 466 #[.val (.int p1), .val (.int p2), .val (.int p3), .val (.int p4), .val (.int p5), .val (.int p6), .val (.ref na), .val (.ref la), .val (.int nk), .val (.int np), .val (.int nc), .val (.int ok1), .val (.ref x1), .val (.int lk), .val (.int lp), .val (.int lc), .val (.int zb), .unset] [(.ref sx)])) t
          refine XS.astore X805.here hx rfl (hb hby at_466) rfl rfl (l' := #[.val (.int p1), .val (.int p2), .val (.int p3), .val (.int p4), .val (.int p5), .val (.int p6), .val (.ref na), .val (.ref la), .val (.int nk), .val (.int np), .val (.int nc), .val (.int ok1), .val (.ref x1), .val (.int lk), .val (.int lp), .val (.int lc), .val (.int zb), .val (.ref sx)]) rfl ?_
          show Steps p.tables e below (T805.setTop (mkF m 468 #[.val (.int p1), .val (.int p2), .val (.int p3), .val (.int p4), .val (.int p5), .val (.int p6), .val (.ref na), .val (.ref la), .val (.int nk), .val (.int np), .val (.int nc), .val (.int ok1), .val (.ref x1), .val (.int lk), .val (.int lp), .val (.int lc), .val (.int zb), .val (.ref sx)] [])) t
          refine XS.goto X805.here hx rfl (pc0 := 468) (pc' := 560) rfl (hb hby at_468) (by decide) (by decide) ?_
          exact ht
        exact ⟨vmj565, T805, T805.heap, _, kbj565, zb, (.ref sx), X805.mono (by decide) (by decide), rfl, N805, f806, f807, f812, f813, f814, f815, f810, hSj565, f811, hZj565, hownj565, Or.inr ⟨sx, t805, kb805, (own_ln.set lp.toNatClampNeg lc), rfl, Ev805, Fc805, Fv805, by rw [hl805]; exact Va805, hp780, by rw [hl805]; decide, hp775.trans (own_bn (own_sete hi772).symm)⟩, k820⟩
      · have k821 : Kt p e below m (s₁.setTop (entryFrame m #[(.int p1), (.int p2), (.int p3), (.int p4), (.int p5), (.int p6)] maxLocals)) Tj565 474 #[.val (.int p1), .val (.int p2), .val (.int p3), .val (.int p4), .val (.int p5), .val (.int p6), .val (.ref na), .val (.ref la), .val (.int nk), .val (.int np), .val (.int nc), .val (.int ok1), .val (.ref x1), .val (.int lk), .val (.int lp), .val (.int lc), .unset, .unset] [(.int (1 : Int32)), (.int lk)] := by
          intro t ht
          refine k657 t ?_
          show Steps p.tables e below (Tj565.setTop (mkF m 430 #[.val (.int p1), .val (.int p2), .val (.int p3), .val (.int p4), .val (.int p5), .val (.int p6), .val (.ref na), .val (.ref la), .val (.int nk), .val (.int np), .val (.int nc), .val (.int ok1), .val (.ref x1), .val (.int lk), .val (.int lp), .val (.int lc), .unset, .unset] [(.int lk)])) t
          refine XS.ifYes Xj565.here hx rfl (pc0 := 430) (pc' := 471) rfl (hb hby at_430) rfl ((if0 _ _).trans (feq hk0).2) (by decide) (by decide) ?_
          show Steps p.tables e below (Tj565.setTop (mkF m 471 #[.val (.int p1), .val (.int p2), .val (.int p3), .val (.int p4), .val (.int p5), .val (.int p6), .val (.ref na), .val (.ref la), .val (.int nk), .val (.int np), .val (.int nc), .val (.int ok1), .val (.ref x1), .val (.int lk), .val (.int lp), .val (.int lc), .unset, .unset] [])) t
          refine XS.iload Xj565.here hx rfl (hb hby at_471) rfl ?_
          show Steps p.tables e below (Tj565.setTop (mkF m 473 #[.val (.int p1), .val (.int p2), .val (.int p3), .val (.int p4), .val (.int p5), .val (.int p6), .val (.ref na), .val (.ref la), .val (.int nk), .val (.int np), .val (.int nc), .val (.int ok1), .val (.ref x1), .val (.int lk), .val (.int lp), .val (.int lc), .unset, .unset] [(.int lk)])) t
          refine XS.iconst Xj565.here hx rfl (hb hby at_473) ?_
          exact ht
        by_cases hk1 : lk = (1 : Int32)
        · have k822 : Kt p e below m (s₁.setTop (entryFrame m #[(.int p1), (.int p2), (.int p3), (.int p4), (.int p5), (.int p6)] maxLocals)) Tj565 560 #[.val (.int p1), .val (.int p2), .val (.int p3), .val (.int p4), .val (.int p5), .val (.int p6), .val (.ref na), .val (.ref la), .val (.int nk), .val (.int np), .val (.int nc), .val (.int ok1), .val (.ref x1), .val (.int lk), .val (.int lp), .val (.int lc), .val (.int (0 : Int32)), .val .null] [] := by
            intro t ht
            refine k821 t ?_
            show Steps p.tables e below (Tj565.setTop (mkF m 474 #[.val (.int p1), .val (.int p2), .val (.int p3), .val (.int p4), .val (.int p5), .val (.int p6), .val (.ref na), .val (.ref la), .val (.int nk), .val (.int np), .val (.int nc), .val (.int ok1), .val (.ref x1), .val (.int lk), .val (.int lp), .val (.int lc), .unset, .unset] [(.int (1 : Int32)), (.int lk)])) t
            refine XS.icmpNo Xj565.here hx rfl (hb hby at_474) rfl (teq hk1).2 ?_
            show Steps p.tables e below (Tj565.setTop (mkF m 477 #[.val (.int p1), .val (.int p2), .val (.int p3), .val (.int p4), .val (.int p5), .val (.int p6), .val (.ref na), .val (.ref la), .val (.int nk), .val (.int np), .val (.int nc), .val (.int ok1), .val (.ref x1), .val (.int lk), .val (.int lp), .val (.int lc), .unset, .unset] [])) t
            refine XS.iconst Xj565.here hx rfl (hb hby at_477) ?_
            show Steps p.tables e below (Tj565.setTop (mkF m 478 #[.val (.int p1), .val (.int p2), .val (.int p3), .val (.int p4), .val (.int p5), .val (.int p6), .val (.ref na), .val (.ref la), .val (.int nk), .val (.int np), .val (.int nc), .val (.int ok1), .val (.ref x1), .val (.int lk), .val (.int lp), .val (.int lc), .unset, .unset] [(.int (0 : Int32))])) t
            refine XS.istore Xj565.here hx rfl (hb hby at_478) rfl (l' := #[.val (.int p1), .val (.int p2), .val (.int p3), .val (.int p4), .val (.int p5), .val (.int p6), .val (.ref na), .val (.ref la), .val (.int nk), .val (.int np), .val (.int nc), .val (.int ok1), .val (.ref x1), .val (.int lk), .val (.int lp), .val (.int lc), .val (.int (0 : Int32)), .unset]) rfl ?_
            show Steps p.tables e below (Tj565.setTop (mkF m 480 #[.val (.int p1), .val (.int p2), .val (.int p3), .val (.int p4), .val (.int p5), .val (.int p6), .val (.ref na), .val (.ref la), .val (.int nk), .val (.int np), .val (.int nc), .val (.int ok1), .val (.ref x1), .val (.int lk), .val (.int lp), .val (.int lc), .val (.int (0 : Int32)), .unset] [])) t
            refine XS.aconstNull Xj565.here hx rfl (hb hby at_480) ?_
            show Steps p.tables e below (Tj565.setTop (mkF m 481 #[.val (.int p1), .val (.int p2), .val (.int p3), .val (.int p4), .val (.int p5), .val (.int p6), .val (.ref na), .val (.ref la), .val (.int nk), .val (.int np), .val (.int nc), .val (.int ok1), .val (.ref x1), .val (.int lk), .val (.int lp), .val (.int lc), .val (.int (0 : Int32)), .unset] [.null])) t
            refine XS.astore Xj565.here hx rfl (hb hby at_481) rfl rfl (l' := #[.val (.int p1), .val (.int p2), .val (.int p3), .val (.int p4), .val (.int p5), .val (.int p6), .val (.ref na), .val (.ref la), .val (.int nk), .val (.int np), .val (.int nc), .val (.int ok1), .val (.ref x1), .val (.int lk), .val (.int lp), .val (.int lc), .val (.int (0 : Int32)), .val .null]) rfl ?_
            show Steps p.tables e below (Tj565.setTop (mkF m 483 #[.val (.int p1), .val (.int p2), .val (.int p3), .val (.int p4), .val (.int p5), .val (.int p6), .val (.ref na), .val (.ref la), .val (.int nk), .val (.int np), .val (.int nc), .val (.int ok1), .val (.ref x1), .val (.int lk), .val (.int lp), .val (.int lc), .val (.int (0 : Int32)), .val .null] [])) t
            refine XS.goto Xj565.here hx rfl (pc0 := 483) (pc' := 560) rfl (hb hby at_483) (by decide) (by decide) ?_
            exact ht
          exact ⟨vmj565, Tj565, hj565, _, kbj565, (0 : Int32), .null, Xj565.mono (by decide) (by decide), ej565, Nj565, zj565, fj565_0, uE, uC, uV, uK, Rj565, hSj565, hkj565, hZj565, hownj565, Or.inl ⟨rfl, rfl⟩, k822⟩
        · have k823 : Kt p e below m (s₁.setTop (entryFrame m #[(.int p1), (.int p2), (.int p3), (.int p4), (.int p5), (.int p6)] maxLocals)) Tj565 489 #[.val (.int p1), .val (.int p2), .val (.int p3), .val (.int p4), .val (.int p5), .val (.int p6), .val (.ref na), .val (.ref la), .val (.int nk), .val (.int np), .val (.int nc), .val (.int ok1), .val (.ref x1), .val (.int lk), .val (.int lp), .val (.int lc), .unset, .unset] [(.int (2 : Int32)), (.int lk)] := by
            intro t ht
            refine k821 t ?_
            show Steps p.tables e below (Tj565.setTop (mkF m 474 #[.val (.int p1), .val (.int p2), .val (.int p3), .val (.int p4), .val (.int p5), .val (.int p6), .val (.ref na), .val (.ref la), .val (.int nk), .val (.int np), .val (.int nc), .val (.int ok1), .val (.ref x1), .val (.int lk), .val (.int lp), .val (.int lc), .unset, .unset] [(.int (1 : Int32)), (.int lk)])) t
            refine XS.icmpYes Xj565.here hx rfl (pc0 := 474) (pc' := 486) rfl (hb hby at_474) rfl (feq hk1).2 (by decide) (by decide) ?_
            show Steps p.tables e below (Tj565.setTop (mkF m 486 #[.val (.int p1), .val (.int p2), .val (.int p3), .val (.int p4), .val (.int p5), .val (.int p6), .val (.ref na), .val (.ref la), .val (.int nk), .val (.int np), .val (.int nc), .val (.int ok1), .val (.ref x1), .val (.int lk), .val (.int lp), .val (.int lc), .unset, .unset] [])) t
            refine XS.iload Xj565.here hx rfl (hb hby at_486) rfl ?_
            show Steps p.tables e below (Tj565.setTop (mkF m 488 #[.val (.int p1), .val (.int p2), .val (.int p3), .val (.int p4), .val (.int p5), .val (.int p6), .val (.ref na), .val (.ref la), .val (.int nk), .val (.int np), .val (.int nc), .val (.int ok1), .val (.ref x1), .val (.int lk), .val (.int lp), .val (.int lc), .unset, .unset] [(.int lk)])) t
            refine XS.iconst Xj565.here hx rfl (hb hby at_488) ?_
            exact ht
          by_cases hk2 : lk = (2 : Int32)
          · have k824 : Kt p e below m (s₁.setTop (entryFrame m #[(.int p1), (.int p2), (.int p3), (.int p4), (.int p5), (.int p6)] maxLocals)) Tj565 497 #[.val (.int p1), .val (.int p2), .val (.int p3), .val (.int p4), .val (.int p5), .val (.int p6), .val (.ref na), .val (.ref la), .val (.int nk), .val (.int np), .val (.int nc), .val (.int ok1), .val (.ref x1), .val (.int lk), .val (.int lp), .val (.int lc), .val (.int (0 : Int32)), .unset] [(.int lc)] := by
              intro t ht
              refine k823 t ?_
              show Steps p.tables e below (Tj565.setTop (mkF m 489 #[.val (.int p1), .val (.int p2), .val (.int p3), .val (.int p4), .val (.int p5), .val (.int p6), .val (.ref na), .val (.ref la), .val (.int nk), .val (.int np), .val (.int nc), .val (.int ok1), .val (.ref x1), .val (.int lk), .val (.int lp), .val (.int lc), .unset, .unset] [(.int (2 : Int32)), (.int lk)])) t
              refine XS.icmpNo Xj565.here hx rfl (hb hby at_489) rfl (teq hk2).2 ?_
              show Steps p.tables e below (Tj565.setTop (mkF m 492 #[.val (.int p1), .val (.int p2), .val (.int p3), .val (.int p4), .val (.int p5), .val (.int p6), .val (.ref na), .val (.ref la), .val (.int nk), .val (.int np), .val (.int nc), .val (.int ok1), .val (.ref x1), .val (.int lk), .val (.int lp), .val (.int lc), .unset, .unset] [])) t
              refine XS.iconst Xj565.here hx rfl (hb hby at_492) ?_
              show Steps p.tables e below (Tj565.setTop (mkF m 493 #[.val (.int p1), .val (.int p2), .val (.int p3), .val (.int p4), .val (.int p5), .val (.int p6), .val (.ref na), .val (.ref la), .val (.int nk), .val (.int np), .val (.int nc), .val (.int ok1), .val (.ref x1), .val (.int lk), .val (.int lp), .val (.int lc), .unset, .unset] [(.int (0 : Int32))])) t
              refine XS.istore Xj565.here hx rfl (hb hby at_493) rfl (l' := #[.val (.int p1), .val (.int p2), .val (.int p3), .val (.int p4), .val (.int p5), .val (.int p6), .val (.ref na), .val (.ref la), .val (.int nk), .val (.int np), .val (.int nc), .val (.int ok1), .val (.ref x1), .val (.int lk), .val (.int lp), .val (.int lc), .val (.int (0 : Int32)), .unset]) rfl ?_
              show Steps p.tables e below (Tj565.setTop (mkF m 495 #[.val (.int p1), .val (.int p2), .val (.int p3), .val (.int p4), .val (.int p5), .val (.int p6), .val (.ref na), .val (.ref la), .val (.int nk), .val (.int np), .val (.int nc), .val (.int ok1), .val (.ref x1), .val (.int lk), .val (.int lp), .val (.int lc), .val (.int (0 : Int32)), .unset] [])) t
              refine XS.iload Xj565.here hx rfl (hb hby at_495) rfl ?_
              exact ht
            obtain ⟨_, _, ⟨T825, L825, c825, n825⟩, -, X825, ⟨Lc825, hQ825, l825, y825, z825⟩, st825⟩ := Jvm.LawKit.callS Xj565 hx (y := (⟨"java/lang/String", "valueOf", "(C)Ljava/lang/String;"⟩ : MethodName)) hownj565 (mvT hZj565 (hw _ (List.mem_of_getElem? (i := 52) rfl))) (mvT hZj565 (hw _ (List.mem_of_getElem? (i := 53) rfl))) (mvT hZj565 (hw _ (List.mem_of_getElem? (i := 4) rfl))) (mvT hZj565 (hw _ (List.mem_of_getElem? (i := 54) rfl))) (by decide) (backOf (W := 0) (rm10 l Z a0 hw [] lc G1 hj565 n0 zj565 S1 P5 fj565_0 rlc.2) hZj565 (hw _ (List.mem_of_getElem? (i := 54) rfl)) (hw _ (List.mem_of_getElem? (i := 4) rfl)) (by decide) (by decide)) (g := (mkF m 497 #[.val (.int p1), .val (.int p2), .val (.int p3), .val (.int p4), .val (.int p5), .val (.int p6), .val (.ref na), .val (.ref la), .val (.int nk), .val (.int np), .val (.int nc), .val (.int ok1), .val (.ref x1), .val (.int lk), .val (.int lp), .val (.int lc), .val (.int (0 : Int32)), .unset] [(.int lc)])) rfl (by rw [hml]; rfl) (argsL := [(.int lc)]) (rest := []) (lenOf pd_1 rfl) rfl (by show 2 * 0 + _ ≤ _; exact Nat.le_of_eq rfl) (hb hby at_497) (fun _ _ => ⟨rfl, ej565, (by decide : 6 + 2 ≤ _), (by decide : 221 + 5 ≤ _)⟩)
            dsimp only [Pt.U, Pt.locs, Pt.cells, Pt.slots] at X825 l825 y825 z825 st825 hQ825
            subst l825 y825 z825
            obtain ⟨sx, tx, kx, rfl, Nq825, Kp825, Ev825, Fc825, Fv825, Va825⟩ := hQ825
            have N825 := Fr.app Nj565 Nq825
            have k825 : Kt p e below m (s₁.setTop (entryFrame m #[(.int p1), (.int p2), (.int p3), (.int p4), (.int p5), (.int p6)] maxLocals)) T825 500 #[.val (.int p1), .val (.int p2), .val (.int p3), .val (.int p4), .val (.int p5), .val (.int p6), .val (.ref na), .val (.ref la), .val (.int nk), .val (.int np), .val (.int nc), .val (.int ok1), .val (.ref x1), .val (.int lk), .val (.int lp), .val (.int lc), .val (.int (0 : Int32)), .unset] [(.ref sx)] := fun t ht => k824 t (st825 t ht)
            have f826 : n0 ≤ T825.heap.size := Nat.le_trans zj565 Kp825.1
            have f827 : Old Z n0 T825.heap := fj565_0.keep Kp825 all0
            have f828 : Arv Z T825.heap la ak468 .char (9 : Int32) (own_ln.map Value.int) (.int (0 : Int32)) := fj565_1.keep Kp825 nin0
            have f829 : Safe Z consts_1 vmj565 T825.heap la := Safe.keep Kp825 sf0 Rj565.1 fj565_2
            have f830 : CHr Z consts_1 s.vm h0 vmj565 T825.heap := Rj565.trans (CHr.keep Kp825 sf0 Rj565.1)
            have f831 : kbj565 ≤ T825.heap.size := Nat.le_trans hkj565 Kp825.1
            have f832 : Exa Z T825.heap x1 "java/lang/String" := uE.keep Kp825
            have f833 : Fld Z T825.heap x1 "java/lang/String" "coder" "B" (.int (0 : Int32)) := uC.keep Kp825 nin0
            have f834 : Fld Z T825.heap x1 "java/lang/String" "value" "[B" (.ref t1) := uV.keep Kp825 nin0
            have f835 : Arv Z T825.heap t1 k1 .byte (Int32.ofNat cs.length) (own_by cs) (.int (0 : Int32)) := uK.keep Kp825 nin0
            have rv : ∀ c ∈ ([lc] : List Int32), own_r c := by intro c hc; simp at hc; subst hc; exact rlc
            have k836 : Kt p e below m (s₁.setTop (entryFrame m #[(.int p1), (.int p2), (.int p3), (.int p4), (.int p5), (.int p6)] maxLocals)) T825 560 #[.val (.int p1), .val (.int p2), .val (.int p3), .val (.int p4), .val (.int p5), .val (.int p6), .val (.ref na), .val (.ref la), .val (.int nk), .val (.int np), .val (.int nc), .val (.int ok1), .val (.ref x1), .val (.int lk), .val (.int lp), .val (.int lc), .val (.int (0 : Int32)), .val (.ref sx)] [] := by
              intro t ht
              refine k825 t ?_
              show Steps p.tables e below (T825.setTop (mkF m 500 #[.val (.int p1), .val (.int p2), .val (.int p3), .val (.int p4), .val (.int p5), .val (.int p6), .val (.ref na), .val (.ref la), .val (.int nk), .val (.int np), .val (.int nc), .val (.int ok1), .val (.ref x1), .val (.int lk), .val (.int lp), .val (.int lc), .val (.int (0 : Int32)), .unset] [(.ref sx)])) t
              refine XS.astore X825.here hx rfl (hb hby at_500) rfl rfl (l' := #[.val (.int p1), .val (.int p2), .val (.int p3), .val (.int p4), .val (.int p5), .val (.int p6), .val (.ref na), .val (.ref la), .val (.int nk), .val (.int np), .val (.int nc), .val (.int ok1), .val (.ref x1), .val (.int lk), .val (.int lp), .val (.int lc), .val (.int (0 : Int32)), .val (.ref sx)]) rfl ?_
              show Steps p.tables e below (T825.setTop (mkF m 502 #[.val (.int p1), .val (.int p2), .val (.int p3), .val (.int p4), .val (.int p5), .val (.int p6), .val (.ref na), .val (.ref la), .val (.int nk), .val (.int np), .val (.int nc), .val (.int ok1), .val (.ref x1), .val (.int lk), .val (.int lp), .val (.int lc), .val (.int (0 : Int32)), .val (.ref sx)] [])) t
              refine XS.goto X825.here hx rfl (pc0 := 502) (pc' := 560) rfl (hb hby at_502) (by decide) (by decide) ?_
              exact ht
            exact ⟨vmj565, T825, T825.heap, _, kbj565, (0 : Int32), (.ref sx), X825.mono (by decide) (by decide), rfl, N825, f826, f827, f832, f833, f834, f835, f830, hSj565, f831, hZj565, hownj565, Or.inr ⟨sx, tx, kx, [lc], rfl, Ev825, Fc825, Fv825, Va825, rv, by show 1 ≤ 4000; decide, own_b0 (fun q => absurd (congrArg List.length q) (by show ¬ (own_ln.length = 1); decide))⟩, k836⟩
          · have k837 : Kt p e below m (s₁.setTop (entryFrame m #[(.int p1), (.int p2), (.int p3), (.int p4), (.int p5), (.int p6)] maxLocals)) Tj565 508 #[.val (.int p1), .val (.int p2), .val (.int p3), .val (.int p4), .val (.int p5), .val (.int p6), .val (.ref na), .val (.ref la), .val (.int nk), .val (.int np), .val (.int nc), .val (.int ok1), .val (.ref x1), .val (.int lk), .val (.int lp), .val (.int lc), .unset, .unset] [(.int (3 : Int32)), (.int lk)] := by
              intro t ht
              refine k823 t ?_
              show Steps p.tables e below (Tj565.setTop (mkF m 489 #[.val (.int p1), .val (.int p2), .val (.int p3), .val (.int p4), .val (.int p5), .val (.int p6), .val (.ref na), .val (.ref la), .val (.int nk), .val (.int np), .val (.int nc), .val (.int ok1), .val (.ref x1), .val (.int lk), .val (.int lp), .val (.int lc), .unset, .unset] [(.int (2 : Int32)), (.int lk)])) t
              refine XS.icmpYes Xj565.here hx rfl (pc0 := 489) (pc' := 505) rfl (hb hby at_489) rfl (feq hk2).2 (by decide) (by decide) ?_
              show Steps p.tables e below (Tj565.setTop (mkF m 505 #[.val (.int p1), .val (.int p2), .val (.int p3), .val (.int p4), .val (.int p5), .val (.int p6), .val (.ref na), .val (.ref la), .val (.int nk), .val (.int np), .val (.int nc), .val (.int ok1), .val (.ref x1), .val (.int lk), .val (.int lp), .val (.int lc), .unset, .unset] [])) t
              refine XS.iload Xj565.here hx rfl (hb hby at_505) rfl ?_
              show Steps p.tables e below (Tj565.setTop (mkF m 507 #[.val (.int p1), .val (.int p2), .val (.int p3), .val (.int p4), .val (.int p5), .val (.int p6), .val (.ref na), .val (.ref la), .val (.int nk), .val (.int np), .val (.int nc), .val (.int ok1), .val (.ref x1), .val (.int lk), .val (.int lp), .val (.int lc), .unset, .unset] [(.int lk)])) t
              refine XS.iconst Xj565.here hx rfl (hb hby at_507) ?_
              exact ht
            by_cases hk3 : lk = (3 : Int32)
            · have k838 : Kt p e below m (s₁.setTop (entryFrame m #[(.int p1), (.int p2), (.int p3), (.int p4), (.int p5), (.int p6)] maxLocals)) Tj565 514 #[.val (.int p1), .val (.int p2), .val (.int p3), .val (.int p4), .val (.int p5), .val (.int p6), .val (.ref na), .val (.ref la), .val (.int nk), .val (.int np), .val (.int nc), .val (.int ok1), .val (.ref x1), .val (.int lk), .val (.int lp), .val (.int lc), .val (.int (1 : Int32)), .unset] [] := by
                intro t ht
                refine k837 t ?_
                show Steps p.tables e below (Tj565.setTop (mkF m 508 #[.val (.int p1), .val (.int p2), .val (.int p3), .val (.int p4), .val (.int p5), .val (.int p6), .val (.ref na), .val (.ref la), .val (.int nk), .val (.int np), .val (.int nc), .val (.int ok1), .val (.ref x1), .val (.int lk), .val (.int lp), .val (.int lc), .unset, .unset] [(.int (3 : Int32)), (.int lk)])) t
                refine XS.icmpNo Xj565.here hx rfl (hb hby at_508) rfl (teq hk3).2 ?_
                show Steps p.tables e below (Tj565.setTop (mkF m 511 #[.val (.int p1), .val (.int p2), .val (.int p3), .val (.int p4), .val (.int p5), .val (.int p6), .val (.ref na), .val (.ref la), .val (.int nk), .val (.int np), .val (.int nc), .val (.int ok1), .val (.ref x1), .val (.int lk), .val (.int lp), .val (.int lc), .unset, .unset] [])) t
                refine XS.iconst Xj565.here hx rfl (hb hby at_511) ?_
                show Steps p.tables e below (Tj565.setTop (mkF m 512 #[.val (.int p1), .val (.int p2), .val (.int p3), .val (.int p4), .val (.int p5), .val (.int p6), .val (.ref na), .val (.ref la), .val (.int nk), .val (.int np), .val (.int nc), .val (.int ok1), .val (.ref x1), .val (.int lk), .val (.int lp), .val (.int lc), .unset, .unset] [(.int (1 : Int32))])) t
                refine XS.istore Xj565.here hx rfl (hb hby at_512) rfl (l' := #[.val (.int p1), .val (.int p2), .val (.int p3), .val (.int p4), .val (.int p5), .val (.int p6), .val (.ref na), .val (.ref la), .val (.int nk), .val (.int np), .val (.int nc), .val (.int ok1), .val (.ref x1), .val (.int lk), .val (.int lp), .val (.int lc), .val (.int (1 : Int32)), .unset]) rfl ?_
                exact ht
              obtain ⟨sx, T839, h839, kb839, tx, ck839, X839, e839, E839, hS839, hk839, hZ839, hown839, Ex839, Fc839, Fv839, Va839, la839, lb839, hR839, -, hne839, st839⟩ := ldcCH (s := s) (vm0 := vmj565) Xj565 hx hZj565 hownj565 (hw _ (List.mem_of_getElem? (i := 51) rfl)) wS ej565 hSj565 hkj565 hEL (EL := consts_1) (by decide) Rj565.1 (vs := (own_by own_ln)) (z := (Int32.ofNat own_ln.length)) (by decide +kernel) (by decide) (by decide) (g := (mkF m 514 #[.val (.int p1), .val (.int p2), .val (.int p3), .val (.int p4), .val (.int p5), .val (.int p6), .val (.ref na), .val (.ref la), .val (.int nk), .val (.int np), .val (.int nc), .val (.int ok1), .val (.ref x1), .val (.int lk), .val (.int lp), .val (.int lc), .val (.int (1 : Int32)), .unset] [])) rfl (hb hby at_514) (n := 36) (by decide +kernel) (by decide) (by decide) (by decide)
              have f840 : n0 ≤ h839.size := Nat.le_trans zj565 E839.1
              have f841 : Old Z n0 h839 := fj565_0.ext E839
              have f842 : Arv Z h839 la ak468 .char (9 : Int32) (own_ln.map Value.int) (.int (0 : Int32)) := fj565_1.ext E839
              have f843 : Safe Z consts_1 T839.vm h839 la := hR839.safe fj565_1.lt fj565_2
              have f844 : CHr Z consts_1 s.vm h0 T839.vm h839 := Rj565.trans hR839
              have f845 : kbj565 ≤ h839.size := Nat.le_trans hkj565 E839.1
              have f846 : Exa Z h839 x1 "java/lang/String" := uE.ext E839
              have f847 : Fld Z h839 x1 "java/lang/String" "coder" "B" (.int (0 : Int32)) := uC.ext E839
              have f848 : Fld Z h839 x1 "java/lang/String" "value" "[B" (.ref t1) := uV.ext E839
              have f849 : Arv Z h839 t1 k1 .byte (Int32.ofNat cs.length) (own_by cs) (.int (0 : Int32)) := uK.ext E839
              obtain ⟨ne_la_sx, ne_la_tx⟩ := hne839 _ f843
              have k839 : Kt p e below m (s₁.setTop (entryFrame m #[(.int p1), (.int p2), (.int p3), (.int p4), (.int p5), (.int p6)] maxLocals)) T839 516 #[.val (.int p1), .val (.int p2), .val (.int p3), .val (.int p4), .val (.int p5), .val (.int p6), .val (.ref na), .val (.ref la), .val (.int nk), .val (.int np), .val (.int nc), .val (.int ok1), .val (.ref x1), .val (.int lk), .val (.int lp), .val (.int lc), .val (.int (1 : Int32)), .unset] [(.ref sx)] := fun t ht => k838 t (st839 t ht)
              have k850 : Kt p e below m (s₁.setTop (entryFrame m #[(.int p1), (.int p2), (.int p3), (.int p4), (.int p5), (.int p6)] maxLocals)) T839 560 #[.val (.int p1), .val (.int p2), .val (.int p3), .val (.int p4), .val (.int p5), .val (.int p6), .val (.ref na), .val (.ref la), .val (.int nk), .val (.int np), .val (.int nc), .val (.int ok1), .val (.ref x1), .val (.int lk), .val (.int lp), .val (.int lc), .val (.int (1 : Int32)), .val (.ref sx)] [] := by
                intro t ht
                refine k839 t ?_
                show Steps p.tables e below (T839.setTop (mkF m 516 #[.val (.int p1), .val (.int p2), .val (.int p3), .val (.int p4), .val (.int p5), .val (.int p6), .val (.ref na), .val (.ref la), .val (.int nk), .val (.int np), .val (.int nc), .val (.int ok1), .val (.ref x1), .val (.int lk), .val (.int lp), .val (.int lc), .val (.int (1 : Int32)), .unset] [(.ref sx)])) t
                refine XS.astore X839.here hx rfl (hb hby at_516) rfl rfl (l' := #[.val (.int p1), .val (.int p2), .val (.int p3), .val (.int p4), .val (.int p5), .val (.int p6), .val (.ref na), .val (.ref la), .val (.int nk), .val (.int np), .val (.int nc), .val (.int ok1), .val (.ref x1), .val (.int lk), .val (.int lp), .val (.int lc), .val (.int (1 : Int32)), .val (.ref sx)]) rfl ?_
                show Steps p.tables e below (T839.setTop (mkF m 518 #[.val (.int p1), .val (.int p2), .val (.int p3), .val (.int p4), .val (.int p5), .val (.int p6), .val (.ref na), .val (.ref la), .val (.int nk), .val (.int np), .val (.int nc), .val (.int ok1), .val (.ref x1), .val (.int lk), .val (.int lp), .val (.int lc), .val (.int (1 : Int32)), .val (.ref sx)] [])) t
                refine XS.goto X839.here hx rfl (pc0 := 518) (pc' := 560) rfl (hb hby at_518) (by decide) (by decide) ?_
                exact ht
              exact ⟨T839.vm, T839, h839, _, kb839, (1 : Int32), (.ref sx), X839.mono (by decide) (by decide), e839, Nj565, f840, f841, f846, f847, f848, f849, f844, hS839, hk839, hZ839, hown839, Or.inr ⟨sx, tx, _, own_ln, rfl, Ex839, Fc839, Fv839, Va839, own_ln_r, by decide, own_b1 rfl⟩, k850⟩
            · have k851 : Kt p e below m (s₁.setTop (entryFrame m #[(.int p1), (.int p2), (.int p3), (.int p4), (.int p5), (.int p6)] maxLocals)) Tj565 524 #[.val (.int p1), .val (.int p2), .val (.int p3), .val (.int p4), .val (.int p5), .val (.int p6), .val (.ref na), .val (.ref la), .val (.int nk), .val (.int np), .val (.int nc), .val (.int ok1), .val (.ref x1), .val (.int lk), .val (.int lp), .val (.int lc), .unset, .unset] [(.int (4 : Int32)), (.int lk)] := by
                intro t ht
                refine k837 t ?_
                show Steps p.tables e below (Tj565.setTop (mkF m 508 #[.val (.int p1), .val (.int p2), .val (.int p3), .val (.int p4), .val (.int p5), .val (.int p6), .val (.ref na), .val (.ref la), .val (.int nk), .val (.int np), .val (.int nc), .val (.int ok1), .val (.ref x1), .val (.int lk), .val (.int lp), .val (.int lc), .unset, .unset] [(.int (3 : Int32)), (.int lk)])) t
                refine XS.icmpYes Xj565.here hx rfl (pc0 := 508) (pc' := 521) rfl (hb hby at_508) rfl (feq hk3).2 (by decide) (by decide) ?_
                show Steps p.tables e below (Tj565.setTop (mkF m 521 #[.val (.int p1), .val (.int p2), .val (.int p3), .val (.int p4), .val (.int p5), .val (.int p6), .val (.ref na), .val (.ref la), .val (.int nk), .val (.int np), .val (.int nc), .val (.int ok1), .val (.ref x1), .val (.int lk), .val (.int lp), .val (.int lc), .unset, .unset] [])) t
                refine XS.iload Xj565.here hx rfl (hb hby at_521) rfl ?_
                show Steps p.tables e below (Tj565.setTop (mkF m 523 #[.val (.int p1), .val (.int p2), .val (.int p3), .val (.int p4), .val (.int p5), .val (.int p6), .val (.ref na), .val (.ref la), .val (.int nk), .val (.int np), .val (.int nc), .val (.int ok1), .val (.ref x1), .val (.int lk), .val (.int lp), .val (.int lc), .unset, .unset] [(.int lk)])) t
                refine XS.iconst Xj565.here hx rfl (hb hby at_523) ?_
                exact ht
              by_cases hk4 : lk = (4 : Int32)
              · have k852 : Kt p e below m (s₁.setTop (entryFrame m #[(.int p1), (.int p2), (.int p3), (.int p4), (.int p5), (.int p6)] maxLocals)) Tj565 530 #[.val (.int p1), .val (.int p2), .val (.int p3), .val (.int p4), .val (.int p5), .val (.int p6), .val (.ref na), .val (.ref la), .val (.int nk), .val (.int np), .val (.int nc), .val (.int ok1), .val (.ref x1), .val (.int lk), .val (.int lp), .val (.int lc), .val (.int (0 : Int32)), .unset] [] := by
                  intro t ht
                  refine k851 t ?_
                  show Steps p.tables e below (Tj565.setTop (mkF m 524 #[.val (.int p1), .val (.int p2), .val (.int p3), .val (.int p4), .val (.int p5), .val (.int p6), .val (.ref na), .val (.ref la), .val (.int nk), .val (.int np), .val (.int nc), .val (.int ok1), .val (.ref x1), .val (.int lk), .val (.int lp), .val (.int lc), .unset, .unset] [(.int (4 : Int32)), (.int lk)])) t
                  refine XS.icmpNo Xj565.here hx rfl (hb hby at_524) rfl (teq hk4).2 ?_
                  show Steps p.tables e below (Tj565.setTop (mkF m 527 #[.val (.int p1), .val (.int p2), .val (.int p3), .val (.int p4), .val (.int p5), .val (.int p6), .val (.ref na), .val (.ref la), .val (.int nk), .val (.int np), .val (.int nc), .val (.int ok1), .val (.ref x1), .val (.int lk), .val (.int lp), .val (.int lc), .unset, .unset] [])) t
                  refine XS.iconst Xj565.here hx rfl (hb hby at_527) ?_
                  show Steps p.tables e below (Tj565.setTop (mkF m 528 #[.val (.int p1), .val (.int p2), .val (.int p3), .val (.int p4), .val (.int p5), .val (.int p6), .val (.ref na), .val (.ref la), .val (.int nk), .val (.int np), .val (.int nc), .val (.int ok1), .val (.ref x1), .val (.int lk), .val (.int lp), .val (.int lc), .unset, .unset] [(.int (0 : Int32))])) t
                  refine XS.istore Xj565.here hx rfl (hb hby at_528) rfl (l' := #[.val (.int p1), .val (.int p2), .val (.int p3), .val (.int p4), .val (.int p5), .val (.int p6), .val (.ref na), .val (.ref la), .val (.int nk), .val (.int np), .val (.int nc), .val (.int ok1), .val (.ref x1), .val (.int lk), .val (.int lp), .val (.int lc), .val (.int (0 : Int32)), .unset]) rfl ?_
                  exact ht
                obtain ⟨sx, T853, h853, kb853, tx, ck853, X853, e853, E853, hS853, hk853, hZ853, hown853, Ex853, Fc853, Fv853, Va853, la853, lb853, hR853, -, hne853, st853⟩ := ldcCH (s := s) (vm0 := vmj565) Xj565 hx hZj565 hownj565 (hw _ (List.mem_of_getElem? (i := 64) rfl)) wS ej565 hSj565 hkj565 hEL (EL := consts_1) (by decide) Rj565.1 (vs := (own_by own_lt2)) (z := (Int32.ofNat own_lt2.length)) (by decide +kernel) (by decide) (by decide) (g := (mkF m 530 #[.val (.int p1), .val (.int p2), .val (.int p3), .val (.int p4), .val (.int p5), .val (.int p6), .val (.ref na), .val (.ref la), .val (.int nk), .val (.int np), .val (.int nc), .val (.int ok1), .val (.ref x1), .val (.int lk), .val (.int lp), .val (.int lc), .val (.int (0 : Int32)), .unset] [])) rfl (hb hby at_530) (n := 48) (by decide +kernel) (by decide) (by decide) (by decide)
                have f854 : n0 ≤ h853.size := Nat.le_trans zj565 E853.1
                have f855 : Old Z n0 h853 := fj565_0.ext E853
                have f856 : Arv Z h853 la ak468 .char (9 : Int32) (own_ln.map Value.int) (.int (0 : Int32)) := fj565_1.ext E853
                have f857 : Safe Z consts_1 T853.vm h853 la := hR853.safe fj565_1.lt fj565_2
                have f858 : CHr Z consts_1 s.vm h0 T853.vm h853 := Rj565.trans hR853
                have f859 : kbj565 ≤ h853.size := Nat.le_trans hkj565 E853.1
                have f860 : Exa Z h853 x1 "java/lang/String" := uE.ext E853
                have f861 : Fld Z h853 x1 "java/lang/String" "coder" "B" (.int (0 : Int32)) := uC.ext E853
                have f862 : Fld Z h853 x1 "java/lang/String" "value" "[B" (.ref t1) := uV.ext E853
                have f863 : Arv Z h853 t1 k1 .byte (Int32.ofNat cs.length) (own_by cs) (.int (0 : Int32)) := uK.ext E853
                obtain ⟨ne_la_sx, ne_la_tx⟩ := hne853 _ f857
                have k853 : Kt p e below m (s₁.setTop (entryFrame m #[(.int p1), (.int p2), (.int p3), (.int p4), (.int p5), (.int p6)] maxLocals)) T853 532 #[.val (.int p1), .val (.int p2), .val (.int p3), .val (.int p4), .val (.int p5), .val (.int p6), .val (.ref na), .val (.ref la), .val (.int nk), .val (.int np), .val (.int nc), .val (.int ok1), .val (.ref x1), .val (.int lk), .val (.int lp), .val (.int lc), .val (.int (0 : Int32)), .unset] [(.ref sx)] := fun t ht => k852 t (st853 t ht)
                have k864 : Kt p e below m (s₁.setTop (entryFrame m #[(.int p1), (.int p2), (.int p3), (.int p4), (.int p5), (.int p6)] maxLocals)) T853 560 #[.val (.int p1), .val (.int p2), .val (.int p3), .val (.int p4), .val (.int p5), .val (.int p6), .val (.ref na), .val (.ref la), .val (.int nk), .val (.int np), .val (.int nc), .val (.int ok1), .val (.ref x1), .val (.int lk), .val (.int lp), .val (.int lc), .val (.int (0 : Int32)), .val (.ref sx)] [] := by
                  intro t ht
                  refine k853 t ?_
                  show Steps p.tables e below (T853.setTop (mkF m 532 #[.val (.int p1), .val (.int p2), .val (.int p3), .val (.int p4), .val (.int p5), .val (.int p6), .val (.ref na), .val (.ref la), .val (.int nk), .val (.int np), .val (.int nc), .val (.int ok1), .val (.ref x1), .val (.int lk), .val (.int lp), .val (.int lc), .val (.int (0 : Int32)), .unset] [(.ref sx)])) t
                  refine XS.astore X853.here hx rfl (hb hby at_532) rfl rfl (l' := #[.val (.int p1), .val (.int p2), .val (.int p3), .val (.int p4), .val (.int p5), .val (.int p6), .val (.ref na), .val (.ref la), .val (.int nk), .val (.int np), .val (.int nc), .val (.int ok1), .val (.ref x1), .val (.int lk), .val (.int lp), .val (.int lc), .val (.int (0 : Int32)), .val (.ref sx)]) rfl ?_
                  show Steps p.tables e below (T853.setTop (mkF m 534 #[.val (.int p1), .val (.int p2), .val (.int p3), .val (.int p4), .val (.int p5), .val (.int p6), .val (.ref na), .val (.ref la), .val (.int nk), .val (.int np), .val (.int nc), .val (.int ok1), .val (.ref x1), .val (.int lk), .val (.int lp), .val (.int lc), .val (.int (0 : Int32)), .val (.ref sx)] [])) t
                  refine XS.goto X853.here hx rfl (pc0 := 534) (pc' := 560) rfl (hb hby at_534) (by decide) (by decide) ?_
                  exact ht
                exact ⟨T853.vm, T853, h853, _, kb853, (0 : Int32), (.ref sx), X853.mono (by decide) (by decide), e853, Nj565, f854, f855, f860, f861, f862, f863, f858, hS853, hk853, hZ853, hown853, Or.inr ⟨sx, tx, _, own_lt2, rfl, Ex853, Fc853, Fv853, Va853, own_lt2_r, by decide, own_b0 (by decide)⟩, k864⟩
              · have k865 : Kt p e below m (s₁.setTop (entryFrame m #[(.int p1), (.int p2), (.int p3), (.int p4), (.int p5), (.int p6)] maxLocals)) Tj565 540 #[.val (.int p1), .val (.int p2), .val (.int p3), .val (.int p4), .val (.int p5), .val (.int p6), .val (.ref na), .val (.ref la), .val (.int nk), .val (.int np), .val (.int nc), .val (.int ok1), .val (.ref x1), .val (.int lk), .val (.int lp), .val (.int lc), .unset, .unset] [(.int (5 : Int32)), (.int lk)] := by
                  intro t ht
                  refine k851 t ?_
                  show Steps p.tables e below (Tj565.setTop (mkF m 524 #[.val (.int p1), .val (.int p2), .val (.int p3), .val (.int p4), .val (.int p5), .val (.int p6), .val (.ref na), .val (.ref la), .val (.int nk), .val (.int np), .val (.int nc), .val (.int ok1), .val (.ref x1), .val (.int lk), .val (.int lp), .val (.int lc), .unset, .unset] [(.int (4 : Int32)), (.int lk)])) t
                  refine XS.icmpYes Xj565.here hx rfl (pc0 := 524) (pc' := 537) rfl (hb hby at_524) rfl (feq hk4).2 (by decide) (by decide) ?_
                  show Steps p.tables e below (Tj565.setTop (mkF m 537 #[.val (.int p1), .val (.int p2), .val (.int p3), .val (.int p4), .val (.int p5), .val (.int p6), .val (.ref na), .val (.ref la), .val (.int nk), .val (.int np), .val (.int nc), .val (.int ok1), .val (.ref x1), .val (.int lk), .val (.int lp), .val (.int lc), .unset, .unset] [])) t
                  refine XS.iload Xj565.here hx rfl (hb hby at_537) rfl ?_
                  show Steps p.tables e below (Tj565.setTop (mkF m 539 #[.val (.int p1), .val (.int p2), .val (.int p3), .val (.int p4), .val (.int p5), .val (.int p6), .val (.ref na), .val (.ref la), .val (.int nk), .val (.int np), .val (.int nc), .val (.int ok1), .val (.ref x1), .val (.int lk), .val (.int lp), .val (.int lc), .unset, .unset] [(.int lk)])) t
                  refine XS.iconst Xj565.here hx rfl (hb hby at_539) ?_
                  exact ht
                by_cases hk5 : lk = (5 : Int32)
                · have k866 : Kt p e below m (s₁.setTop (entryFrame m #[(.int p1), (.int p2), (.int p3), (.int p4), (.int p5), (.int p6)] maxLocals)) Tj565 546 #[.val (.int p1), .val (.int p2), .val (.int p3), .val (.int p4), .val (.int p5), .val (.int p6), .val (.ref na), .val (.ref la), .val (.int nk), .val (.int np), .val (.int nc), .val (.int ok1), .val (.ref x1), .val (.int lk), .val (.int lp), .val (.int lc), .val (.int (0 : Int32)), .unset] [] := by
                    intro t ht
                    refine k865 t ?_
                    show Steps p.tables e below (Tj565.setTop (mkF m 540 #[.val (.int p1), .val (.int p2), .val (.int p3), .val (.int p4), .val (.int p5), .val (.int p6), .val (.ref na), .val (.ref la), .val (.int nk), .val (.int np), .val (.int nc), .val (.int ok1), .val (.ref x1), .val (.int lk), .val (.int lp), .val (.int lc), .unset, .unset] [(.int (5 : Int32)), (.int lk)])) t
                    refine XS.icmpNo Xj565.here hx rfl (hb hby at_540) rfl (teq hk5).2 ?_
                    show Steps p.tables e below (Tj565.setTop (mkF m 543 #[.val (.int p1), .val (.int p2), .val (.int p3), .val (.int p4), .val (.int p5), .val (.int p6), .val (.ref na), .val (.ref la), .val (.int nk), .val (.int np), .val (.int nc), .val (.int ok1), .val (.ref x1), .val (.int lk), .val (.int lp), .val (.int lc), .unset, .unset] [])) t
                    refine XS.iconst Xj565.here hx rfl (hb hby at_543) ?_
                    show Steps p.tables e below (Tj565.setTop (mkF m 544 #[.val (.int p1), .val (.int p2), .val (.int p3), .val (.int p4), .val (.int p5), .val (.int p6), .val (.ref na), .val (.ref la), .val (.int nk), .val (.int np), .val (.int nc), .val (.int ok1), .val (.ref x1), .val (.int lk), .val (.int lp), .val (.int lc), .unset, .unset] [(.int (0 : Int32))])) t
                    refine XS.istore Xj565.here hx rfl (hb hby at_544) rfl (l' := #[.val (.int p1), .val (.int p2), .val (.int p3), .val (.int p4), .val (.int p5), .val (.int p6), .val (.ref na), .val (.ref la), .val (.int nk), .val (.int np), .val (.int nc), .val (.int ok1), .val (.ref x1), .val (.int lk), .val (.int lp), .val (.int lc), .val (.int (0 : Int32)), .unset]) rfl ?_
                    exact ht
                  obtain ⟨sx, T867, h867, kb867, tx, ck867, X867, e867, E867, hS867, hk867, hZ867, hown867, Ex867, Fc867, Fv867, Va867, la867, lb867, hR867, -, hne867, st867⟩ := ldcCH (s := s) (vm0 := vmj565) Xj565 hx hZj565 hownj565 (hw _ (List.mem_of_getElem? (i := 66) rfl)) wS ej565 hSj565 hkj565 hEL (EL := consts_1) (by decide) Rj565.1 (vs := (own_by own_lt3)) (z := (Int32.ofNat own_lt3.length)) (by decide +kernel) (by decide) (by decide) (g := (mkF m 546 #[.val (.int p1), .val (.int p2), .val (.int p3), .val (.int p4), .val (.int p5), .val (.int p6), .val (.ref na), .val (.ref la), .val (.int nk), .val (.int np), .val (.int nc), .val (.int ok1), .val (.ref x1), .val (.int lk), .val (.int lp), .val (.int lc), .val (.int (0 : Int32)), .unset] [])) rfl (hb hby at_546) (n := 32) (by decide +kernel) (by decide) (by decide) (by decide)
                  have f868 : n0 ≤ h867.size := Nat.le_trans zj565 E867.1
                  have f869 : Old Z n0 h867 := fj565_0.ext E867
                  have f870 : Arv Z h867 la ak468 .char (9 : Int32) (own_ln.map Value.int) (.int (0 : Int32)) := fj565_1.ext E867
                  have f871 : Safe Z consts_1 T867.vm h867 la := hR867.safe fj565_1.lt fj565_2
                  have f872 : CHr Z consts_1 s.vm h0 T867.vm h867 := Rj565.trans hR867
                  have f873 : kbj565 ≤ h867.size := Nat.le_trans hkj565 E867.1
                  have f874 : Exa Z h867 x1 "java/lang/String" := uE.ext E867
                  have f875 : Fld Z h867 x1 "java/lang/String" "coder" "B" (.int (0 : Int32)) := uC.ext E867
                  have f876 : Fld Z h867 x1 "java/lang/String" "value" "[B" (.ref t1) := uV.ext E867
                  have f877 : Arv Z h867 t1 k1 .byte (Int32.ofNat cs.length) (own_by cs) (.int (0 : Int32)) := uK.ext E867
                  obtain ⟨ne_la_sx, ne_la_tx⟩ := hne867 _ f871
                  have k867 : Kt p e below m (s₁.setTop (entryFrame m #[(.int p1), (.int p2), (.int p3), (.int p4), (.int p5), (.int p6)] maxLocals)) T867 548 #[.val (.int p1), .val (.int p2), .val (.int p3), .val (.int p4), .val (.int p5), .val (.int p6), .val (.ref na), .val (.ref la), .val (.int nk), .val (.int np), .val (.int nc), .val (.int ok1), .val (.ref x1), .val (.int lk), .val (.int lp), .val (.int lc), .val (.int (0 : Int32)), .unset] [(.ref sx)] := fun t ht => k866 t (st867 t ht)
                  have k878 : Kt p e below m (s₁.setTop (entryFrame m #[(.int p1), (.int p2), (.int p3), (.int p4), (.int p5), (.int p6)] maxLocals)) T867 560 #[.val (.int p1), .val (.int p2), .val (.int p3), .val (.int p4), .val (.int p5), .val (.int p6), .val (.ref na), .val (.ref la), .val (.int nk), .val (.int np), .val (.int nc), .val (.int ok1), .val (.ref x1), .val (.int lk), .val (.int lp), .val (.int lc), .val (.int (0 : Int32)), .val (.ref sx)] [] := by
                    intro t ht
                    refine k867 t ?_
                    show Steps p.tables e below (T867.setTop (mkF m 548 #[.val (.int p1), .val (.int p2), .val (.int p3), .val (.int p4), .val (.int p5), .val (.int p6), .val (.ref na), .val (.ref la), .val (.int nk), .val (.int np), .val (.int nc), .val (.int ok1), .val (.ref x1), .val (.int lk), .val (.int lp), .val (.int lc), .val (.int (0 : Int32)), .unset] [(.ref sx)])) t
                    refine XS.astore X867.here hx rfl (hb hby at_548) rfl rfl (l' := #[.val (.int p1), .val (.int p2), .val (.int p3), .val (.int p4), .val (.int p5), .val (.int p6), .val (.ref na), .val (.ref la), .val (.int nk), .val (.int np), .val (.int nc), .val (.int ok1), .val (.ref x1), .val (.int lk), .val (.int lp), .val (.int lc), .val (.int (0 : Int32)), .val (.ref sx)]) rfl ?_
                    show Steps p.tables e below (T867.setTop (mkF m 550 #[.val (.int p1), .val (.int p2), .val (.int p3), .val (.int p4), .val (.int p5), .val (.int p6), .val (.ref na), .val (.ref la), .val (.int nk), .val (.int np), .val (.int nc), .val (.int ok1), .val (.ref x1), .val (.int lk), .val (.int lp), .val (.int lc), .val (.int (0 : Int32)), .val (.ref sx)] [])) t
                    refine XS.goto X867.here hx rfl (pc0 := 550) (pc' := 560) rfl (hb hby at_550) (by decide) (by decide) ?_
                    exact ht
                  exact ⟨T867.vm, T867, h867, _, kb867, (0 : Int32), (.ref sx), X867.mono (by decide) (by decide), e867, Nj565, f868, f869, f874, f875, f876, f877, f872, hS867, hk867, hZ867, hown867, Or.inr ⟨sx, tx, _, own_lt3, rfl, Ex867, Fc867, Fv867, Va867, own_lt3_r, by decide, own_b0 (by decide)⟩, k878⟩
                · have k879 : Kt p e below m (s₁.setTop (entryFrame m #[(.int p1), (.int p2), (.int p3), (.int p4), (.int p5), (.int p6)] maxLocals)) Tj565 556 #[.val (.int p1), .val (.int p2), .val (.int p3), .val (.int p4), .val (.int p5), .val (.int p6), .val (.ref na), .val (.ref la), .val (.int nk), .val (.int np), .val (.int nc), .val (.int ok1), .val (.ref x1), .val (.int lk), .val (.int lp), .val (.int lc), .val (.int (0 : Int32)), .unset] [] := by
                    intro t ht
                    refine k865 t ?_
                    show Steps p.tables e below (Tj565.setTop (mkF m 540 #[.val (.int p1), .val (.int p2), .val (.int p3), .val (.int p4), .val (.int p5), .val (.int p6), .val (.ref na), .val (.ref la), .val (.int nk), .val (.int np), .val (.int nc), .val (.int ok1), .val (.ref x1), .val (.int lk), .val (.int lp), .val (.int lc), .unset, .unset] [(.int (5 : Int32)), (.int lk)])) t
                    refine XS.icmpYes Xj565.here hx rfl (pc0 := 540) (pc' := 553) rfl (hb hby at_540) rfl (feq hk5).2 (by decide) (by decide) ?_
                    show Steps p.tables e below (Tj565.setTop (mkF m 553 #[.val (.int p1), .val (.int p2), .val (.int p3), .val (.int p4), .val (.int p5), .val (.int p6), .val (.ref na), .val (.ref la), .val (.int nk), .val (.int np), .val (.int nc), .val (.int ok1), .val (.ref x1), .val (.int lk), .val (.int lp), .val (.int lc), .unset, .unset] [])) t
                    refine XS.iconst Xj565.here hx rfl (hb hby at_553) ?_
                    show Steps p.tables e below (Tj565.setTop (mkF m 554 #[.val (.int p1), .val (.int p2), .val (.int p3), .val (.int p4), .val (.int p5), .val (.int p6), .val (.ref na), .val (.ref la), .val (.int nk), .val (.int np), .val (.int nc), .val (.int ok1), .val (.ref x1), .val (.int lk), .val (.int lp), .val (.int lc), .unset, .unset] [(.int (0 : Int32))])) t
                    refine XS.istore Xj565.here hx rfl (hb hby at_554) rfl (l' := #[.val (.int p1), .val (.int p2), .val (.int p3), .val (.int p4), .val (.int p5), .val (.int p6), .val (.ref na), .val (.ref la), .val (.int nk), .val (.int np), .val (.int nc), .val (.int ok1), .val (.ref x1), .val (.int lk), .val (.int lp), .val (.int lc), .val (.int (0 : Int32)), .unset]) rfl ?_
                    exact ht
                  obtain ⟨sx, T880, h880, kb880, tx, ck880, X880, e880, E880, hS880, hk880, hZ880, hown880, Ex880, Fc880, Fv880, Va880, la880, lb880, hR880, -, hne880, st880⟩ := ldcCH (s := s) (vm0 := vmj565) Xj565 hx hZj565 hownj565 (hw _ (List.mem_of_getElem? (i := 65) rfl)) wS ej565 hSj565 hkj565 hEL (EL := consts_1) (by decide) Rj565.1 (vs := (own_by own_em)) (z := (Int32.ofNat own_em.length)) (by decide +kernel) (by decide) (by decide) (g := (mkF m 556 #[.val (.int p1), .val (.int p2), .val (.int p3), .val (.int p4), .val (.int p5), .val (.int p6), .val (.ref na), .val (.ref la), .val (.int nk), .val (.int np), .val (.int nc), .val (.int ok1), .val (.ref x1), .val (.int lk), .val (.int lp), .val (.int lc), .val (.int (0 : Int32)), .unset] [])) rfl (hb hby at_556) (n := 0) (by decide +kernel) (by decide) (by decide) (by decide)
                  have f881 : n0 ≤ h880.size := Nat.le_trans zj565 E880.1
                  have f882 : Old Z n0 h880 := fj565_0.ext E880
                  have f883 : Arv Z h880 la ak468 .char (9 : Int32) (own_ln.map Value.int) (.int (0 : Int32)) := fj565_1.ext E880
                  have f884 : Safe Z consts_1 T880.vm h880 la := hR880.safe fj565_1.lt fj565_2
                  have f885 : CHr Z consts_1 s.vm h0 T880.vm h880 := Rj565.trans hR880
                  have f886 : kbj565 ≤ h880.size := Nat.le_trans hkj565 E880.1
                  have f887 : Exa Z h880 x1 "java/lang/String" := uE.ext E880
                  have f888 : Fld Z h880 x1 "java/lang/String" "coder" "B" (.int (0 : Int32)) := uC.ext E880
                  have f889 : Fld Z h880 x1 "java/lang/String" "value" "[B" (.ref t1) := uV.ext E880
                  have f890 : Arv Z h880 t1 k1 .byte (Int32.ofNat cs.length) (own_by cs) (.int (0 : Int32)) := uK.ext E880
                  obtain ⟨ne_la_sx, ne_la_tx⟩ := hne880 _ f884
                  have k880 : Kt p e below m (s₁.setTop (entryFrame m #[(.int p1), (.int p2), (.int p3), (.int p4), (.int p5), (.int p6)] maxLocals)) T880 558 #[.val (.int p1), .val (.int p2), .val (.int p3), .val (.int p4), .val (.int p5), .val (.int p6), .val (.ref na), .val (.ref la), .val (.int nk), .val (.int np), .val (.int nc), .val (.int ok1), .val (.ref x1), .val (.int lk), .val (.int lp), .val (.int lc), .val (.int (0 : Int32)), .unset] [(.ref sx)] := fun t ht => k879 t (st880 t ht)
                  have k891 : Kt p e below m (s₁.setTop (entryFrame m #[(.int p1), (.int p2), (.int p3), (.int p4), (.int p5), (.int p6)] maxLocals)) T880 560 #[.val (.int p1), .val (.int p2), .val (.int p3), .val (.int p4), .val (.int p5), .val (.int p6), .val (.ref na), .val (.ref la), .val (.int nk), .val (.int np), .val (.int nc), .val (.int ok1), .val (.ref x1), .val (.int lk), .val (.int lp), .val (.int lc), .val (.int (0 : Int32)), .val (.ref sx)] [] := by
                    intro t ht
                    refine k880 t ?_
                    show Steps p.tables e below (T880.setTop (mkF m 558 #[.val (.int p1), .val (.int p2), .val (.int p3), .val (.int p4), .val (.int p5), .val (.int p6), .val (.ref na), .val (.ref la), .val (.int nk), .val (.int np), .val (.int nc), .val (.int ok1), .val (.ref x1), .val (.int lk), .val (.int lp), .val (.int lc), .val (.int (0 : Int32)), .unset] [(.ref sx)])) t
                    refine XS.astore X880.here hx rfl (hb hby at_558) rfl rfl (l' := #[.val (.int p1), .val (.int p2), .val (.int p3), .val (.int p4), .val (.int p5), .val (.int p6), .val (.ref na), .val (.ref la), .val (.int nk), .val (.int np), .val (.int nc), .val (.int ok1), .val (.ref x1), .val (.int lk), .val (.int lp), .val (.int lc), .val (.int (0 : Int32)), .val (.ref sx)]) rfl ?_
                    exact ht
                  exact ⟨T880.vm, T880, h880, _, kb880, (0 : Int32), (.ref sx), X880.mono (by decide) (by decide), e880, Nj565, f881, f882, f887, f888, f889, f890, f885, hS880, hk880, hZ880, hown880, Or.inr ⟨sx, tx, _, own_em, rfl, Ex880, Fc880, Fv880, Va880, own_em_r, by decide, own_b0 (by decide)⟩, k891⟩
    rcases hpj771 with ⟨hlv, hok2⟩ | ⟨x2, t2, k2, ds, hlv, wE, wC, wV, wK, wr, wl, hok2⟩
    · rw [hlv] at kj771
      have k892 : Kt p e below m (s₁.setTop (entryFrame m #[(.int p1), (.int p2), (.int p3), (.int p4), (.int p5), (.int p6)] maxLocals)) Tj771 564 #[.val (.int p1), .val (.int p2), .val (.int p3), .val (.int p4), .val (.int p5), .val (.int p6), .val (.ref na), .val (.ref la), .val (.int nk), .val (.int np), .val (.int nc), .val (.int ok1), .val (.ref x1), .val (.int lk), .val (.int lp), .val (.int lc), .val (.int ok2), .val .null] [.null, (.ref x1)] := by
        intro t ht
        refine kj771 t ?_
        show Steps p.tables e below (Tj771.setTop (mkF m 560 #[.val (.int p1), .val (.int p2), .val (.int p3), .val (.int p4), .val (.int p5), .val (.int p6), .val (.ref na), .val (.ref la), .val (.int nk), .val (.int np), .val (.int nc), .val (.int ok1), .val (.ref x1), .val (.int lk), .val (.int lp), .val (.int lc), .val (.int ok2), .val .null] [])) t
        refine XS.aload Xj771.here hx rfl (hb hby at_560) rfl rfl ?_
        show Steps p.tables e below (Tj771.setTop (mkF m 562 #[.val (.int p1), .val (.int p2), .val (.int p3), .val (.int p4), .val (.int p5), .val (.int p6), .val (.ref na), .val (.ref la), .val (.int nk), .val (.int np), .val (.int nc), .val (.int ok1), .val (.ref x1), .val (.int lk), .val (.int lp), .val (.int lc), .val (.int ok2), .val .null] [(.ref x1)])) t
        refine XS.aload Xj771.here hx rfl (hb hby at_562) rfl rfl ?_
        exact ht
      obtain ⟨_, _, ⟨T893, L893, c893, n893⟩, -, X893, hs893, hg893, ⟨Lc893, hQ893, l893, y893, z893, hR893⟩, st893⟩ := callSS (s := s.setVm vmj771) Xj771 hx (y := (⟨"com/example/subscriptor/subscriptor/XmlSignature", "isSignature", "(Ljava/lang/String;Ljava/lang/String;)Z"⟩ : MethodName)) hownj771 (mvT hZj771 (hw _ (List.mem_of_getElem? (i := 31) rfl))) (mvT hZj771 (hw _ (List.mem_of_getElem? (i := 32) rfl))) (mvT hZj771 (hw _ (List.mem_of_getElem? (i := 33) rfl))) (mvT hZj771 (hw _ (List.mem_of_getElem? (i := 34) rfl))) (by decide) (own_backH (s := s) (vm0 := vmj771) (W := 0) (rmisrn l Z a0 hw [] x1 t1 k1 cs G1 hj771 n0 zj771 hEL S1 P5 fj771_0 fj771_1 fj771_2 fj771_3 fj771_4 ur ul ) hZj771 (hw _ (List.mem_of_getElem? (i := 34) rfl)) (hw _ (List.mem_of_getElem? (i := 33) rfl)) (by decide) (by decide) hEL Rj771.1 all0) (g := (mkF m 564 #[.val (.int p1), .val (.int p2), .val (.int p3), .val (.int p4), .val (.int p5), .val (.int p6), .val (.ref na), .val (.ref la), .val (.int nk), .val (.int np), .val (.int nc), .val (.int ok1), .val (.ref x1), .val (.int lk), .val (.int lp), .val (.int lc), .val (.int ok2), .val .null] [.null, (.ref x1)])) rfl (by rw [hml]; rfl) (argsL := [(.ref x1), .null]) (rest := []) (lenOf pd_5 rfl) rfl (by show 2 * 0 + _ ≤ _; exact Nat.le_of_eq rfl) (hb hby at_564) (fun _ _ => ⟨rfl, ej771, (by decide : 10 + 4 ≤ _), (by decide : 292 + 180 ≤ _)⟩)
      dsimp only [Pt.U, Pt.locs, Pt.cells, Pt.slots] at X893 hs893 hg893 l893 y893 z893 st893 hQ893 hR893
      subst l893 y893 z893
      have hS893 : s.Since T893.vm T893.heap.size := foldS hSj771 (by rw [ej771]; exact hkj771) hs893 hg893
      have hZ893 : Z.Warmed39 (s.setVm T893.vm).vm := State.Warmed39.trans (t := s.setVm vmj771) hZj771 hs893.1
      have hown893 : (s.setVm T893.vm).vm.findClass "com/example/subscriptor/subscriptor/XmlSignatureIsSignaturePinLaw" = some m.cls := by show T893.vm.findClass _ = _; rw [hs893.1.alike.findClass]; exact hownj771
      obtain ⟨rfl, Nq893⟩ := hQ893
      have N893 := Fr.app Nj771 Nq893
      have k893 : Kt p e below m (s₁.setTop (entryFrame m #[(.int p1), (.int p2), (.int p3), (.int p4), (.int p5), (.int p6)] maxLocals)) T893 567 #[.val (.int p1), .val (.int p2), .val (.int p3), .val (.int p4), .val (.int p5), .val (.int p6), .val (.ref na), .val (.ref la), .val (.int nk), .val (.int np), .val (.int nc), .val (.int ok1), .val (.ref x1), .val (.int lk), .val (.int lp), .val (.int lc), .val (.int ok2), .val .null] [(.int (0 : Int32))] := fun t ht => k892 t (st893.trans ht)
      have f894 : CHr Z consts_1 s.vm h0 T893.vm T893.heap := Rj771.trans hR893
      have hk893 : T893.heap.size ≤ T893.heap.size := Nat.le_refl _
      have k895 : Kt p e below m (s₁.setTop (entryFrame m #[(.int p1), (.int p2), (.int p3), (.int p4), (.int p5), (.int p6)] maxLocals)) T893 569 #[.val (.int p1), .val (.int p2), .val (.int p3), .val (.int p4), .val (.int p5), .val (.int p6), .val (.ref na), .val (.ref la), .val (.int nk), .val (.int np), .val (.int nc), .val (.int ok1), .val (.ref x1), .val (.int lk), .val (.int lp), .val (.int lc), .val (.int ok2), .val .null] [(.int ok1), (.int (0 : Int32))] := by
        intro t ht
        refine k893 t ?_
        show Steps p.tables e below (T893.setTop (mkF m 567 #[.val (.int p1), .val (.int p2), .val (.int p3), .val (.int p4), .val (.int p5), .val (.int p6), .val (.ref na), .val (.ref la), .val (.int nk), .val (.int np), .val (.int nc), .val (.int ok1), .val (.ref x1), .val (.int lk), .val (.int lp), .val (.int lc), .val (.int ok2), .val .null] [(.int (0 : Int32))])) t
        refine XS.iload X893.here hx rfl (hb hby at_567) rfl ?_
        exact ht
      obtain ⟨zf, hp896, k896⟩ : ∃ zf : Int32, (zf = own_b (¬ ok1 = 0 ∧ ¬ ok2 = 0)) ∧ Kt p e below m (s₁.setTop (entryFrame m #[(.int p1), (.int p2), (.int p3), (.int p4), (.int p5), (.int p6)] maxLocals)) T893 582 #[.val (.int p1), .val (.int p2), .val (.int p3), .val (.int p4), .val (.int p5), .val (.int p6), .val (.ref na), .val (.ref la), .val (.int nk), .val (.int np), .val (.int nc), .val (.int ok1), .val (.ref x1), .val (.int lk), .val (.int lp), .val (.int lc), .val (.int ok2), .val .null] [(.int zf), (.int (0 : Int32))] := by
        by_cases hj897 : ok1 = (0 : Int32)
        · have k898 : Kt p e below m (s₁.setTop (entryFrame m #[(.int p1), (.int p2), (.int p3), (.int p4), (.int p5), (.int p6)] maxLocals)) T893 582 #[.val (.int p1), .val (.int p2), .val (.int p3), .val (.int p4), .val (.int p5), .val (.int p6), .val (.ref na), .val (.ref la), .val (.int nk), .val (.int np), .val (.int nc), .val (.int ok1), .val (.ref x1), .val (.int lk), .val (.int lp), .val (.int lc), .val (.int ok2), .val .null] [(.int (0 : Int32)), (.int (0 : Int32))] := by
            intro t ht
            refine k895 t ?_
            show Steps p.tables e below (T893.setTop (mkF m 569 #[.val (.int p1), .val (.int p2), .val (.int p3), .val (.int p4), .val (.int p5), .val (.int p6), .val (.ref na), .val (.ref la), .val (.int nk), .val (.int np), .val (.int nc), .val (.int ok1), .val (.ref x1), .val (.int lk), .val (.int lp), .val (.int lc), .val (.int ok2), .val .null] [(.int ok1), (.int (0 : Int32))])) t
            refine XS.ifYes X893.here hx rfl (pc0 := 569) (pc' := 581) rfl (hb hby at_569) rfl ((if0 _ _).trans (teq hj897).1) (by decide) (by decide) ?_
            show Steps p.tables e below (T893.setTop (mkF m 581 #[.val (.int p1), .val (.int p2), .val (.int p3), .val (.int p4), .val (.int p5), .val (.int p6), .val (.ref na), .val (.ref la), .val (.int nk), .val (.int np), .val (.int nc), .val (.int ok1), .val (.ref x1), .val (.int lk), .val (.int lp), .val (.int lc), .val (.int ok2), .val .null] [(.int (0 : Int32))])) t
            refine XS.iconst X893.here hx rfl (hb hby at_581) ?_
            exact ht
          exact ⟨(0 : Int32), (by unfold own_b; simp [eq_true hj897]), k898⟩
        · have k899 : Kt p e below m (s₁.setTop (entryFrame m #[(.int p1), (.int p2), (.int p3), (.int p4), (.int p5), (.int p6)] maxLocals)) T893 574 #[.val (.int p1), .val (.int p2), .val (.int p3), .val (.int p4), .val (.int p5), .val (.int p6), .val (.ref na), .val (.ref la), .val (.int nk), .val (.int np), .val (.int nc), .val (.int ok1), .val (.ref x1), .val (.int lk), .val (.int lp), .val (.int lc), .val (.int ok2), .val .null] [(.int ok2), (.int (0 : Int32))] := by
            intro t ht
            refine k895 t ?_
            show Steps p.tables e below (T893.setTop (mkF m 569 #[.val (.int p1), .val (.int p2), .val (.int p3), .val (.int p4), .val (.int p5), .val (.int p6), .val (.ref na), .val (.ref la), .val (.int nk), .val (.int np), .val (.int nc), .val (.int ok1), .val (.ref x1), .val (.int lk), .val (.int lp), .val (.int lc), .val (.int ok2), .val .null] [(.int ok1), (.int (0 : Int32))])) t
            refine XS.ifNo X893.here hx rfl (hb hby at_569) rfl ((if0 _ _).trans (feq hj897).1) ?_
            show Steps p.tables e below (T893.setTop (mkF m 572 #[.val (.int p1), .val (.int p2), .val (.int p3), .val (.int p4), .val (.int p5), .val (.int p6), .val (.ref na), .val (.ref la), .val (.int nk), .val (.int np), .val (.int nc), .val (.int ok1), .val (.ref x1), .val (.int lk), .val (.int lp), .val (.int lc), .val (.int ok2), .val .null] [(.int (0 : Int32))])) t
            refine XS.iload X893.here hx rfl (hb hby at_572) rfl ?_
            exact ht
          by_cases hj900 : ok2 = (0 : Int32)
          · have k901 : Kt p e below m (s₁.setTop (entryFrame m #[(.int p1), (.int p2), (.int p3), (.int p4), (.int p5), (.int p6)] maxLocals)) T893 582 #[.val (.int p1), .val (.int p2), .val (.int p3), .val (.int p4), .val (.int p5), .val (.int p6), .val (.ref na), .val (.ref la), .val (.int nk), .val (.int np), .val (.int nc), .val (.int ok1), .val (.ref x1), .val (.int lk), .val (.int lp), .val (.int lc), .val (.int ok2), .val .null] [(.int (0 : Int32)), (.int (0 : Int32))] := by
              intro t ht
              refine k899 t ?_
              show Steps p.tables e below (T893.setTop (mkF m 574 #[.val (.int p1), .val (.int p2), .val (.int p3), .val (.int p4), .val (.int p5), .val (.int p6), .val (.ref na), .val (.ref la), .val (.int nk), .val (.int np), .val (.int nc), .val (.int ok1), .val (.ref x1), .val (.int lk), .val (.int lp), .val (.int lc), .val (.int ok2), .val .null] [(.int ok2), (.int (0 : Int32))])) t
              refine XS.ifYes X893.here hx rfl (pc0 := 574) (pc' := 581) rfl (hb hby at_574) rfl ((if0 _ _).trans (teq hj900).1) (by decide) (by decide) ?_
              show Steps p.tables e below (T893.setTop (mkF m 581 #[.val (.int p1), .val (.int p2), .val (.int p3), .val (.int p4), .val (.int p5), .val (.int p6), .val (.ref na), .val (.ref la), .val (.int nk), .val (.int np), .val (.int nc), .val (.int ok1), .val (.ref x1), .val (.int lk), .val (.int lp), .val (.int lc), .val (.int ok2), .val .null] [(.int (0 : Int32))])) t
              refine XS.iconst X893.here hx rfl (hb hby at_581) ?_
              exact ht
            exact ⟨(0 : Int32), (by unfold own_b; simp [eq_false hj897, eq_true hj900]), k901⟩
          · have k902 : Kt p e below m (s₁.setTop (entryFrame m #[(.int p1), (.int p2), (.int p3), (.int p4), (.int p5), (.int p6)] maxLocals)) T893 582 #[.val (.int p1), .val (.int p2), .val (.int p3), .val (.int p4), .val (.int p5), .val (.int p6), .val (.ref na), .val (.ref la), .val (.int nk), .val (.int np), .val (.int nc), .val (.int ok1), .val (.ref x1), .val (.int lk), .val (.int lp), .val (.int lc), .val (.int ok2), .val .null] [(.int (1 : Int32)), (.int (0 : Int32))] := by
              intro t ht
              refine k899 t ?_
              show Steps p.tables e below (T893.setTop (mkF m 574 #[.val (.int p1), .val (.int p2), .val (.int p3), .val (.int p4), .val (.int p5), .val (.int p6), .val (.ref na), .val (.ref la), .val (.int nk), .val (.int np), .val (.int nc), .val (.int ok1), .val (.ref x1), .val (.int lk), .val (.int lp), .val (.int lc), .val (.int ok2), .val .null] [(.int ok2), (.int (0 : Int32))])) t
              refine XS.ifNo X893.here hx rfl (hb hby at_574) rfl ((if0 _ _).trans (feq hj900).1) ?_
              show Steps p.tables e below (T893.setTop (mkF m 577 #[.val (.int p1), .val (.int p2), .val (.int p3), .val (.int p4), .val (.int p5), .val (.int p6), .val (.ref na), .val (.ref la), .val (.int nk), .val (.int np), .val (.int nc), .val (.int ok1), .val (.ref x1), .val (.int lk), .val (.int lp), .val (.int lc), .val (.int ok2), .val .null] [(.int (0 : Int32))])) t
              refine XS.iconst X893.here hx rfl (hb hby at_577) ?_
              show Steps p.tables e below (T893.setTop (mkF m 578 #[.val (.int p1), .val (.int p2), .val (.int p3), .val (.int p4), .val (.int p5), .val (.int p6), .val (.ref na), .val (.ref la), .val (.int nk), .val (.int np), .val (.int nc), .val (.int ok1), .val (.ref x1), .val (.int lk), .val (.int lp), .val (.int lc), .val (.int ok2), .val .null] [(.int (1 : Int32)), (.int (0 : Int32))])) t
              refine XS.goto X893.here hx rfl (pc0 := 578) (pc' := 582) rfl (hb hby at_578) (by decide) (by decide) ?_
              exact ht
            exact ⟨(1 : Int32), (by unfold own_b; simp [eq_false hj897, eq_false hj900]), k902⟩
      have k903 : Kt p e below m (s₁.setTop (entryFrame m #[(.int p1), (.int p2), (.int p3), (.int p4), (.int p5), (.int p6)] maxLocals)) T893 590 #[.val (.int p1), .val (.int p2), .val (.int p3), .val (.int p4), .val (.int p5), .val (.int p6), .val (.ref na), .val (.ref la), .val (.int nk), .val (.int np), .val (.int nc), .val (.int ok1), .val (.ref x1), .val (.int lk), .val (.int lp), .val (.int lc), .val (.int ok2), .val .null] [(.int (1 : Int32))] := by
        intro t ht
        refine k896 t ?_
        show Steps p.tables e below (T893.setTop (mkF m 582 #[.val (.int p1), .val (.int p2), .val (.int p3), .val (.int p4), .val (.int p5), .val (.int p6), .val (.ref na), .val (.ref la), .val (.int nk), .val (.int np), .val (.int nc), .val (.int ok1), .val (.ref x1), .val (.int lk), .val (.int lp), .val (.int lc), .val (.int ok2), .val .null] [(.int zf), (.int (0 : Int32))])) t
        refine XS.icmpNo X893.here hx rfl (hb hby at_582) rfl (teq ((own_b0 (fun q => q.2 hok2)).trans hp896.symm)).2 ?_
        show Steps p.tables e below (T893.setTop (mkF m 585 #[.val (.int p1), .val (.int p2), .val (.int p3), .val (.int p4), .val (.int p5), .val (.int p6), .val (.ref na), .val (.ref la), .val (.int nk), .val (.int np), .val (.int nc), .val (.int ok1), .val (.ref x1), .val (.int lk), .val (.int lp), .val (.int lc), .val (.int ok2), .val .null] [])) t
        refine XS.iconst X893.here hx rfl (hb hby at_585) ?_
        show Steps p.tables e below (T893.setTop (mkF m 586 #[.val (.int p1), .val (.int p2), .val (.int p3), .val (.int p4), .val (.int p5), .val (.int p6), .val (.ref na), .val (.ref la), .val (.int nk), .val (.int np), .val (.int nc), .val (.int ok1), .val (.ref x1), .val (.int lk), .val (.int lp), .val (.int lc), .val (.int ok2), .val .null] [(.int (1 : Int32))])) t
        refine XS.goto X893.here hx rfl (pc0 := 586) (pc' := 590) rfl (hb hby at_586) (by decide) (by decide) ?_
        exact ht
      obtain ⟨fs, hr, hrun, hended, -, hW, hbk, hsame⟩ := Stand.leaveW (s := s) (vm₁ := T893.vm) X893 (hS893) (by exact hk893) (v := some (.int (1 : Int32))) (fun h => by rw [Bd.returns] at h; cases h)
      refine ⟨_, _, k903 _ ?_, hrun, hended, _, _, rfl, ?_, ?_, ⟨_, rfl⟩, hW, hbk, hsame.mono (by decide) (by decide)⟩
      · exact retN X893 hx (t := .boolean) Bd.returns (by simp) (hb hby at_590) hr
      · show Q0 Z p1 p2 p3 p4 p5 p6 G1 h0 n0 _ T893.heap _
        exact ⟨rfl, N893⟩
      · show CHr Z consts_1 s.vm s.heap T893.vm T893.heap
        rw [hh]
        exact f894.trans (CHv.at (s := s) (vm0 := T893.vm) X893 hZ893 hEL f894.1)
    · rw [hlv] at kj771
      have k904 : Kt p e below m (s₁.setTop (entryFrame m #[(.int p1), (.int p2), (.int p3), (.int p4), (.int p5), (.int p6)] maxLocals)) Tj771 564 #[.val (.int p1), .val (.int p2), .val (.int p3), .val (.int p4), .val (.int p5), .val (.int p6), .val (.ref na), .val (.ref la), .val (.int nk), .val (.int np), .val (.int nc), .val (.int ok1), .val (.ref x1), .val (.int lk), .val (.int lp), .val (.int lc), .val (.int ok2), .val (.ref x2)] [(.ref x2), (.ref x1)] := by
        intro t ht
        refine kj771 t ?_
        show Steps p.tables e below (Tj771.setTop (mkF m 560 #[.val (.int p1), .val (.int p2), .val (.int p3), .val (.int p4), .val (.int p5), .val (.int p6), .val (.ref na), .val (.ref la), .val (.int nk), .val (.int np), .val (.int nc), .val (.int ok1), .val (.ref x1), .val (.int lk), .val (.int lp), .val (.int lc), .val (.int ok2), .val (.ref x2)] [])) t
        refine XS.aload Xj771.here hx rfl (hb hby at_560) rfl rfl ?_
        show Steps p.tables e below (Tj771.setTop (mkF m 562 #[.val (.int p1), .val (.int p2), .val (.int p3), .val (.int p4), .val (.int p5), .val (.int p6), .val (.ref na), .val (.ref la), .val (.int nk), .val (.int np), .val (.int nc), .val (.int ok1), .val (.ref x1), .val (.int lk), .val (.int lp), .val (.int lc), .val (.int ok2), .val (.ref x2)] [(.ref x1)])) t
        refine XS.aload Xj771.here hx rfl (hb hby at_562) rfl rfl ?_
        exact ht
      obtain ⟨_, _, ⟨T905, L905, c905, n905⟩, -, X905, hs905, hg905, ⟨Lc905, hQ905, l905, y905, z905, hR905⟩, st905⟩ := callSS (s := s.setVm vmj771) Xj771 hx (y := (⟨"com/example/subscriptor/subscriptor/XmlSignature", "isSignature", "(Ljava/lang/String;Ljava/lang/String;)Z"⟩ : MethodName)) hownj771 (mvT hZj771 (hw _ (List.mem_of_getElem? (i := 31) rfl))) (mvT hZj771 (hw _ (List.mem_of_getElem? (i := 32) rfl))) (mvT hZj771 (hw _ (List.mem_of_getElem? (i := 33) rfl))) (mvT hZj771 (hw _ (List.mem_of_getElem? (i := 34) rfl))) (by decide) (own_backH (s := s) (vm0 := vmj771) (W := 0) (rmisrr l Z a0 hw [] x1 t1 k1 cs x2 t2 k2 ds G1 hj771 n0 zj771 hEL S1 P5 fj771_0 fj771_1 fj771_2 fj771_3 fj771_4 ur ul wE wC wV wK wr wl) hZj771 (hw _ (List.mem_of_getElem? (i := 34) rfl)) (hw _ (List.mem_of_getElem? (i := 33) rfl)) (by decide) (by decide) hEL Rj771.1 all0) (g := (mkF m 564 #[.val (.int p1), .val (.int p2), .val (.int p3), .val (.int p4), .val (.int p5), .val (.int p6), .val (.ref na), .val (.ref la), .val (.int nk), .val (.int np), .val (.int nc), .val (.int ok1), .val (.ref x1), .val (.int lk), .val (.int lp), .val (.int lc), .val (.int ok2), .val (.ref x2)] [(.ref x2), (.ref x1)])) rfl (by rw [hml]; rfl) (argsL := [(.ref x1), (.ref x2)]) (rest := []) (lenOf pd_5 rfl) rfl (by show 2 * 0 + _ ≤ _; exact Nat.le_of_eq rfl) (hb hby at_564) (fun _ _ => ⟨rfl, ej771, (by decide : 10 + 4 ≤ _), (by decide : 292 + 180 ≤ _)⟩)
      dsimp only [Pt.U, Pt.locs, Pt.cells, Pt.slots] at X905 hs905 hg905 l905 y905 z905 st905 hQ905 hR905
      subst l905 y905 z905
      have hS905 : s.Since T905.vm T905.heap.size := foldS hSj771 (by rw [ej771]; exact hkj771) hs905 hg905
      have hZ905 : Z.Warmed39 (s.setVm T905.vm).vm := State.Warmed39.trans (t := s.setVm vmj771) hZj771 hs905.1
      have hown905 : (s.setVm T905.vm).vm.findClass "com/example/subscriptor/subscriptor/XmlSignatureIsSignaturePinLaw" = some m.cls := by show T905.vm.findClass _ = _; rw [hs905.1.alike.findClass]; exact hownj771
      obtain ⟨rfl, Nq905⟩ := hQ905
      have N905 := Fr.app Nj771 Nq905
      have k905 : Kt p e below m (s₁.setTop (entryFrame m #[(.int p1), (.int p2), (.int p3), (.int p4), (.int p5), (.int p6)] maxLocals)) T905 567 #[.val (.int p1), .val (.int p2), .val (.int p3), .val (.int p4), .val (.int p5), .val (.int p6), .val (.ref na), .val (.ref la), .val (.int nk), .val (.int np), .val (.int nc), .val (.int ok1), .val (.ref x1), .val (.int lk), .val (.int lp), .val (.int lc), .val (.int ok2), .val (.ref x2)] [(.int (own_b (own_ns = cs ∧ own_ln = ds)))] := fun t ht => k904 t (st905.trans ht)
      have f906 : CHr Z consts_1 s.vm h0 T905.vm T905.heap := Rj771.trans hR905
      have hk905 : T905.heap.size ≤ T905.heap.size := Nat.le_refl _
      have k907 : Kt p e below m (s₁.setTop (entryFrame m #[(.int p1), (.int p2), (.int p3), (.int p4), (.int p5), (.int p6)] maxLocals)) T905 569 #[.val (.int p1), .val (.int p2), .val (.int p3), .val (.int p4), .val (.int p5), .val (.int p6), .val (.ref na), .val (.ref la), .val (.int nk), .val (.int np), .val (.int nc), .val (.int ok1), .val (.ref x1), .val (.int lk), .val (.int lp), .val (.int lc), .val (.int ok2), .val (.ref x2)] [(.int ok1), (.int (own_b (own_ns = cs ∧ own_ln = ds)))] := by
        intro t ht
        refine k905 t ?_
        show Steps p.tables e below (T905.setTop (mkF m 567 #[.val (.int p1), .val (.int p2), .val (.int p3), .val (.int p4), .val (.int p5), .val (.int p6), .val (.ref na), .val (.ref la), .val (.int nk), .val (.int np), .val (.int nc), .val (.int ok1), .val (.ref x1), .val (.int lk), .val (.int lp), .val (.int lc), .val (.int ok2), .val (.ref x2)] [(.int (own_b (own_ns = cs ∧ own_ln = ds)))])) t
        refine XS.iload X905.here hx rfl (hb hby at_567) rfl ?_
        exact ht
      obtain ⟨zf, hp908, k908⟩ : ∃ zf : Int32, (zf = own_b (¬ ok1 = 0 ∧ ¬ ok2 = 0)) ∧ Kt p e below m (s₁.setTop (entryFrame m #[(.int p1), (.int p2), (.int p3), (.int p4), (.int p5), (.int p6)] maxLocals)) T905 582 #[.val (.int p1), .val (.int p2), .val (.int p3), .val (.int p4), .val (.int p5), .val (.int p6), .val (.ref na), .val (.ref la), .val (.int nk), .val (.int np), .val (.int nc), .val (.int ok1), .val (.ref x1), .val (.int lk), .val (.int lp), .val (.int lc), .val (.int ok2), .val (.ref x2)] [(.int zf), (.int (own_b (own_ns = cs ∧ own_ln = ds)))] := by
        by_cases hj909 : ok1 = (0 : Int32)
        · have k910 : Kt p e below m (s₁.setTop (entryFrame m #[(.int p1), (.int p2), (.int p3), (.int p4), (.int p5), (.int p6)] maxLocals)) T905 582 #[.val (.int p1), .val (.int p2), .val (.int p3), .val (.int p4), .val (.int p5), .val (.int p6), .val (.ref na), .val (.ref la), .val (.int nk), .val (.int np), .val (.int nc), .val (.int ok1), .val (.ref x1), .val (.int lk), .val (.int lp), .val (.int lc), .val (.int ok2), .val (.ref x2)] [(.int (0 : Int32)), (.int (own_b (own_ns = cs ∧ own_ln = ds)))] := by
            intro t ht
            refine k907 t ?_
            show Steps p.tables e below (T905.setTop (mkF m 569 #[.val (.int p1), .val (.int p2), .val (.int p3), .val (.int p4), .val (.int p5), .val (.int p6), .val (.ref na), .val (.ref la), .val (.int nk), .val (.int np), .val (.int nc), .val (.int ok1), .val (.ref x1), .val (.int lk), .val (.int lp), .val (.int lc), .val (.int ok2), .val (.ref x2)] [(.int ok1), (.int (own_b (own_ns = cs ∧ own_ln = ds)))])) t
            refine XS.ifYes X905.here hx rfl (pc0 := 569) (pc' := 581) rfl (hb hby at_569) rfl ((if0 _ _).trans (teq hj909).1) (by decide) (by decide) ?_
            show Steps p.tables e below (T905.setTop (mkF m 581 #[.val (.int p1), .val (.int p2), .val (.int p3), .val (.int p4), .val (.int p5), .val (.int p6), .val (.ref na), .val (.ref la), .val (.int nk), .val (.int np), .val (.int nc), .val (.int ok1), .val (.ref x1), .val (.int lk), .val (.int lp), .val (.int lc), .val (.int ok2), .val (.ref x2)] [(.int (own_b (own_ns = cs ∧ own_ln = ds)))])) t
            refine XS.iconst X905.here hx rfl (hb hby at_581) ?_
            exact ht
          exact ⟨(0 : Int32), (by unfold own_b; simp [eq_true hj909]), k910⟩
        · have k911 : Kt p e below m (s₁.setTop (entryFrame m #[(.int p1), (.int p2), (.int p3), (.int p4), (.int p5), (.int p6)] maxLocals)) T905 574 #[.val (.int p1), .val (.int p2), .val (.int p3), .val (.int p4), .val (.int p5), .val (.int p6), .val (.ref na), .val (.ref la), .val (.int nk), .val (.int np), .val (.int nc), .val (.int ok1), .val (.ref x1), .val (.int lk), .val (.int lp), .val (.int lc), .val (.int ok2), .val (.ref x2)] [(.int ok2), (.int (own_b (own_ns = cs ∧ own_ln = ds)))] := by
            intro t ht
            refine k907 t ?_
            show Steps p.tables e below (T905.setTop (mkF m 569 #[.val (.int p1), .val (.int p2), .val (.int p3), .val (.int p4), .val (.int p5), .val (.int p6), .val (.ref na), .val (.ref la), .val (.int nk), .val (.int np), .val (.int nc), .val (.int ok1), .val (.ref x1), .val (.int lk), .val (.int lp), .val (.int lc), .val (.int ok2), .val (.ref x2)] [(.int ok1), (.int (own_b (own_ns = cs ∧ own_ln = ds)))])) t
            refine XS.ifNo X905.here hx rfl (hb hby at_569) rfl ((if0 _ _).trans (feq hj909).1) ?_
            show Steps p.tables e below (T905.setTop (mkF m 572 #[.val (.int p1), .val (.int p2), .val (.int p3), .val (.int p4), .val (.int p5), .val (.int p6), .val (.ref na), .val (.ref la), .val (.int nk), .val (.int np), .val (.int nc), .val (.int ok1), .val (.ref x1), .val (.int lk), .val (.int lp), .val (.int lc), .val (.int ok2), .val (.ref x2)] [(.int (own_b (own_ns = cs ∧ own_ln = ds)))])) t
            refine XS.iload X905.here hx rfl (hb hby at_572) rfl ?_
            exact ht
          by_cases hj912 : ok2 = (0 : Int32)
          · have k913 : Kt p e below m (s₁.setTop (entryFrame m #[(.int p1), (.int p2), (.int p3), (.int p4), (.int p5), (.int p6)] maxLocals)) T905 582 #[.val (.int p1), .val (.int p2), .val (.int p3), .val (.int p4), .val (.int p5), .val (.int p6), .val (.ref na), .val (.ref la), .val (.int nk), .val (.int np), .val (.int nc), .val (.int ok1), .val (.ref x1), .val (.int lk), .val (.int lp), .val (.int lc), .val (.int ok2), .val (.ref x2)] [(.int (0 : Int32)), (.int (own_b (own_ns = cs ∧ own_ln = ds)))] := by
              intro t ht
              refine k911 t ?_
              show Steps p.tables e below (T905.setTop (mkF m 574 #[.val (.int p1), .val (.int p2), .val (.int p3), .val (.int p4), .val (.int p5), .val (.int p6), .val (.ref na), .val (.ref la), .val (.int nk), .val (.int np), .val (.int nc), .val (.int ok1), .val (.ref x1), .val (.int lk), .val (.int lp), .val (.int lc), .val (.int ok2), .val (.ref x2)] [(.int ok2), (.int (own_b (own_ns = cs ∧ own_ln = ds)))])) t
              refine XS.ifYes X905.here hx rfl (pc0 := 574) (pc' := 581) rfl (hb hby at_574) rfl ((if0 _ _).trans (teq hj912).1) (by decide) (by decide) ?_
              show Steps p.tables e below (T905.setTop (mkF m 581 #[.val (.int p1), .val (.int p2), .val (.int p3), .val (.int p4), .val (.int p5), .val (.int p6), .val (.ref na), .val (.ref la), .val (.int nk), .val (.int np), .val (.int nc), .val (.int ok1), .val (.ref x1), .val (.int lk), .val (.int lp), .val (.int lc), .val (.int ok2), .val (.ref x2)] [(.int (own_b (own_ns = cs ∧ own_ln = ds)))])) t
              refine XS.iconst X905.here hx rfl (hb hby at_581) ?_
              exact ht
            exact ⟨(0 : Int32), (by unfold own_b; simp [eq_false hj909, eq_true hj912]), k913⟩
          · have k914 : Kt p e below m (s₁.setTop (entryFrame m #[(.int p1), (.int p2), (.int p3), (.int p4), (.int p5), (.int p6)] maxLocals)) T905 582 #[.val (.int p1), .val (.int p2), .val (.int p3), .val (.int p4), .val (.int p5), .val (.int p6), .val (.ref na), .val (.ref la), .val (.int nk), .val (.int np), .val (.int nc), .val (.int ok1), .val (.ref x1), .val (.int lk), .val (.int lp), .val (.int lc), .val (.int ok2), .val (.ref x2)] [(.int (1 : Int32)), (.int (own_b (own_ns = cs ∧ own_ln = ds)))] := by
              intro t ht
              refine k911 t ?_
              show Steps p.tables e below (T905.setTop (mkF m 574 #[.val (.int p1), .val (.int p2), .val (.int p3), .val (.int p4), .val (.int p5), .val (.int p6), .val (.ref na), .val (.ref la), .val (.int nk), .val (.int np), .val (.int nc), .val (.int ok1), .val (.ref x1), .val (.int lk), .val (.int lp), .val (.int lc), .val (.int ok2), .val (.ref x2)] [(.int ok2), (.int (own_b (own_ns = cs ∧ own_ln = ds)))])) t
              refine XS.ifNo X905.here hx rfl (hb hby at_574) rfl ((if0 _ _).trans (feq hj912).1) ?_
              show Steps p.tables e below (T905.setTop (mkF m 577 #[.val (.int p1), .val (.int p2), .val (.int p3), .val (.int p4), .val (.int p5), .val (.int p6), .val (.ref na), .val (.ref la), .val (.int nk), .val (.int np), .val (.int nc), .val (.int ok1), .val (.ref x1), .val (.int lk), .val (.int lp), .val (.int lc), .val (.int ok2), .val (.ref x2)] [(.int (own_b (own_ns = cs ∧ own_ln = ds)))])) t
              refine XS.iconst X905.here hx rfl (hb hby at_577) ?_
              show Steps p.tables e below (T905.setTop (mkF m 578 #[.val (.int p1), .val (.int p2), .val (.int p3), .val (.int p4), .val (.int p5), .val (.int p6), .val (.ref na), .val (.ref la), .val (.int nk), .val (.int np), .val (.int nc), .val (.int ok1), .val (.ref x1), .val (.int lk), .val (.int lp), .val (.int lc), .val (.int ok2), .val (.ref x2)] [(.int (1 : Int32)), (.int (own_b (own_ns = cs ∧ own_ln = ds)))])) t
              refine XS.goto X905.here hx rfl (pc0 := 578) (pc' := 582) rfl (hb hby at_578) (by decide) (by decide) ?_
              exact ht
            exact ⟨(1 : Int32), (by unfold own_b; simp [eq_false hj909, eq_false hj912]), k914⟩
      have k915 : Kt p e below m (s₁.setTop (entryFrame m #[(.int p1), (.int p2), (.int p3), (.int p4), (.int p5), (.int p6)] maxLocals)) T905 590 #[.val (.int p1), .val (.int p2), .val (.int p3), .val (.int p4), .val (.int p5), .val (.int p6), .val (.ref na), .val (.ref la), .val (.int nk), .val (.int np), .val (.int nc), .val (.int ok1), .val (.ref x1), .val (.int lk), .val (.int lp), .val (.int lc), .val (.int ok2), .val (.ref x2)] [(.int (1 : Int32))] := by
        intro t ht
        refine k908 t ?_
        show Steps p.tables e below (T905.setTop (mkF m 582 #[.val (.int p1), .val (.int p2), .val (.int p3), .val (.int p4), .val (.int p5), .val (.int p6), .val (.ref na), .val (.ref la), .val (.int nk), .val (.int np), .val (.int nc), .val (.int ok1), .val (.ref x1), .val (.int lk), .val (.int lp), .val (.int lc), .val (.int ok2), .val (.ref x2)] [(.int zf), (.int (own_b (own_ns = cs ∧ own_ln = ds)))])) t
        refine XS.icmpNo X905.here hx rfl (hb hby at_582) rfl (teq ((own_bn (by rw [hok1, hok2, own_bz, own_bz, Classical.not_not, Classical.not_not])).trans hp908.symm)).2 ?_
        show Steps p.tables e below (T905.setTop (mkF m 585 #[.val (.int p1), .val (.int p2), .val (.int p3), .val (.int p4), .val (.int p5), .val (.int p6), .val (.ref na), .val (.ref la), .val (.int nk), .val (.int np), .val (.int nc), .val (.int ok1), .val (.ref x1), .val (.int lk), .val (.int lp), .val (.int lc), .val (.int ok2), .val (.ref x2)] [])) t
        refine XS.iconst X905.here hx rfl (hb hby at_585) ?_
        show Steps p.tables e below (T905.setTop (mkF m 586 #[.val (.int p1), .val (.int p2), .val (.int p3), .val (.int p4), .val (.int p5), .val (.int p6), .val (.ref na), .val (.ref la), .val (.int nk), .val (.int np), .val (.int nc), .val (.int ok1), .val (.ref x1), .val (.int lk), .val (.int lp), .val (.int lc), .val (.int ok2), .val (.ref x2)] [(.int (1 : Int32))])) t
        refine XS.goto X905.here hx rfl (pc0 := 586) (pc' := 590) rfl (hb hby at_586) (by decide) (by decide) ?_
        exact ht
      obtain ⟨fs, hr, hrun, hended, -, hW, hbk, hsame⟩ := Stand.leaveW (s := s) (vm₁ := T905.vm) X905 (hS905) (by exact hk905) (v := some (.int (1 : Int32))) (fun h => by rw [Bd.returns] at h; cases h)
      refine ⟨_, _, k915 _ ?_, hrun, hended, _, _, rfl, ?_, ?_, ⟨_, rfl⟩, hW, hbk, hsame.mono (by decide) (by decide)⟩
      · exact retN X905 hx (t := .boolean) Bd.returns (by simp) (hb hby at_590) hr
      · show Q0 Z p1 p2 p3 p4 p5 p6 G1 h0 n0 _ T905.heap _
        exact ⟨rfl, N905⟩
      · show CHr Z consts_1 s.vm s.heap T905.vm T905.heap
        rw [hh]
        exact f906.trans (CHv.at (s := s) (vm0 := T905.vm) X905 hZ905 hEL f906.1)
set_option maxRecDepth 65536 in
set_option maxHeartbeats 40000000 in
theorem comes_1 {Post : Tables → Env → Array Value → State → Outcome → State → Prop} (hpost : ∀ tb e args s v u, (limb_1_1.after args s (.returned v) u = true ∧ limb_1_2.after args s (.returned v) u = true ∧ True) → ReturnedEndW s (.returned v) u (Jvm.fieldLocs frame_1_writes args s ++ Jvm.arrayLocs frame_1_arrays args s ++ Jvm.staticLocs frame_1_statics s) 40 8512 → Post tb e args s (.returned v) u) :
    ArmFor flags0 classFile x code maxLocals ret World_1 tables_1 room_1 Calls_1 rest_1 Pre_1 Post := by
  intro l hfl _ _ p e ha hc hk s m args below hf hA hF happ hP
  obtain ⟨hcalls, hrest, hpre⟩ := hP
  obtain ⟨-, -, -, hnamed, -, -, -, hat⟩ := (Spec.applies_iff hf).mp happ
  obtain ⟨hg, hn⟩ := and_e (Cond.before_iff.mp (show (Jvm.Cond.and given_1 narrow_1).before args s = true from hpre))
  obtain ⟨hcount, g0⟩ := and_e hg
  obtain ⟨ga0, g1⟩ := and_e g0
  obtain ⟨ga1, g2⟩ := and_e g1
  obtain ⟨ga2, g3⟩ := and_e g2
  obtain ⟨ga3, g4⟩ := and_e g3
  obtain ⟨ga4, g5⟩ := and_e g4
  obtain ⟨w0, w1, w2, w3, w4, w5, rfl⟩ : ∃ w0 w1 w2 w3 w4 w5 : Value, args = #[w0, w1, w2, w3, w4, w5] := by
    have hs : args.size = 6 := by simpa [Cond.value, given_1] using hcount
    obtain ⟨L⟩ := args
    match L, hs with
    | [w0, w1, w2, w3, w4, w5], _ => exact ⟨w0, w1, w2, w3, w4, w5, rfl⟩
  have hw := fun d (hd : d ∈ tables_1) => atoms_spec (ws := Jvm.Cond.code x code maxLocals ret :: tables_1) hat d (List.mem_cons_of_mem _ hd)
  have hfit : Fit s := fun {y c} hc i hi => by
    obtain ⟨ha, rfl⟩ := Array.getElem?_eq_some_iff.mp hc
    have q := List.all_eq_true.mp ((Array.all_eq_true_iff_forall_mem.mp hF) _ (Array.getElem_mem ha)) i (List.mem_range.mpr hi)
    simpa [Array.getElem?_eq_getElem hi] using q
  obtain ⟨i0, ei0⟩ := is_v ga0
  obtain rfl : w0 = (.int i0) := Option.some.inj ei0
  obtain ⟨i1, ei1⟩ := is_v ga1
  obtain rfl : w1 = (.int i1) := Option.some.inj ei1
  obtain ⟨i2, ei2⟩ := is_v ga2
  obtain rfl : w2 = (.int i2) := Option.some.inj ei2
  obtain ⟨i3, ei3⟩ := is_v ga3
  obtain rfl : w3 = (.int i3) := Option.some.inj ei3
  obtain ⟨i4, ei4⟩ := is_v ga4
  obtain rfl : w4 = (.int i4) := Option.some.inj ei4
  obtain ⟨i5, ei5⟩ := is_v g5
  obtain rfl : w5 = (.int i5) := Option.some.inj ei5
  obtain ⟨hsets, hown0⟩ := atoms_of _ (rest_1_c_eq ▸ (show rest_1_c.before _ s = true from hrest))
  obtain ⟨G1, eG⟩ := is_v (Cond.before_iff.mp (hsets _ (List.mem_of_getElem? (i := 1) rfl)))
  have S1 : Sta s s.heap "java/lang/String" "COMPACT_STRINGS" "Z" (.int G1) := Sta.start eG (Or.inl (hsets _ (List.mem_of_getElem? (i := 0) rfl)))
  have P5 : ¬ (G1 = (0 : Int32)) := gotF (Cond.eq_ints eG (Term.int_eval (0))) (not_v (Cond.before_iff.mp (hsets _ (List.mem_of_getElem? (i := 2) rfl))))
  have hEL : EW s _ consts_1 := (EW.cons (hw _ (List.mem_of_getElem? (i := 35) rfl)) (by decide +kernel) (EW.cons (hw _ (List.mem_of_getElem? (i := 50) rfl)) (by decide +kernel) (EW.cons (hw _ (List.mem_of_getElem? (i := 49) rfl)) (by decide +kernel) (EW.cons (hw _ (List.mem_of_getElem? (i := 48) rfl)) (by decide +kernel) (EW.cons (hw _ (List.mem_of_getElem? (i := 65) rfl)) (by decide +kernel) (EW.cons (hw _ (List.mem_of_getElem? (i := 51) rfl)) (by decide +kernel) (EW.cons (hw _ (List.mem_of_getElem? (i := 64) rfl)) (by decide +kernel) (EW.cons (hw _ (List.mem_of_getElem? (i := 66) rfl)) (by decide +kernel) EW.nil))))))))
  have hCV : CHv s consts_1 s.vm s.heap := CHv.start hEL (show ∀ p ∈ consts_1, Jvm.Lit.constHeld s p.1 p.2 from hcalls.1) (hsets _ (List.mem_of_getElem? (i := 2) rfl)) (hw _ (List.mem_of_getElem? (i := 20) rfl)) (hw _ (List.mem_of_getElem? (i := 3) rfl))
  obtain ⟨n, o, h1, h2, h3, _, L, rfl, ⟨rfl, N⟩, -, hq⟩ := rm0 l s _ hw tables_1 i0 i1 i2 i3 i4 i5 G1 s.heap s.heap.size (Nat.le_refl _) hEL S1 P5 (Old.start s) p e ha hc hk s m _ below hf ((Spec.applies_iff_loose hf).mp happ).1 ⟨rfl, State.Warmed39.refl s, rfl, hCV, all0⟩ trivial
  refine ⟨n, _, h1, h2, h3, hpost _ _ _ _ _ _ ⟨Cond.after_iff.mpr rfl, Cond.after_iff.mpr (eq_i res_at (Term.int_eval (1)) rfl), trivial⟩ ⟨hq.1, hq.2.1, hq.2.2.1, (hq.2.2.2.sift fun y hy => Or.inr (N y hy)).mono (by decide) (by decide)⟩⟩
theorem main_1_1 : Claimed_1_1 := comes_1 fun _ _ _ _ _ _ h hF => ⟨h.1, hF⟩
theorem main_1_2 : Claimed_1_2 := comes_1 fun _ _ _ _ _ _ h hF => ⟨h.2.1, hF⟩
end Jvm.Pilot.@@N@@
namespace Jvm.Pilot.@@N@@
open Jvm Jvm.ClassFile Sem Op Lib Jvm.Free Jvm.Stand Jvm.Pilot.@@N@@.Jvm.D
/-! MADE BY PROGRAM (witnessworld.py) out of the Statement's table words and the real class files: 21 classes; the members and pool entries that the words name. The judged class is class 1, her method 1. -/
namespace start1
open Jvm.ClassFile
def u (s : String) : CpInfo := .utf8 (stringToUtf16 s)
/-- a pool by its gaps: so many unusable entries, then the entry; so many at the end -/
def gap : Nat → List CpInfo → List CpInfo
  | 0, r => r
  | n + 1, r => .unusable :: gap n r
def poolList (es : List (Nat × CpInfo)) (last : Nat) : List CpInfo := es.foldr (fun e r => gap e.1 (e.2 :: r)) (gap last [])
def pool (es : List (Nat × CpInfo)) (last : Nat) : Array CpInfo := ⟨poolList es last⟩
def fileOf (pool : Array CpInfo) (this : Nat) (attrs : Array Attribute := #[]) (ms : Array MethodInfo := #[]) (fl : Nat := 33) (sup : Nat := 0) (ifs : Array Nat := #[]) (fds : Array FieldInfo := #[]) : ClassFile where
  minorVersion := 0
  majorVersion := 65
  constantPool := pool
  accessFlags := fl
  thisClass := this
  superClass := sup
  interfaces := ifs
  fields := fds
  methods := ms
  attributes := attrs
def plain (name : String) (sup : Option ClassId) : Class where
  name := name
  kind := .ordinary
  loader := none
  accessFlags := 33
  super := sup
  interfaces := #[]
  cf := none
  fields := #[]
  methods := #[]
  instanceTypes := #[]
  staticTypes := #[]
  resolved := #[]
  callSites := []
  init := .initialized
  statics := none
  mirror := none

def pool0 : Array CpInfo := pool [(5, u "<init>"), (0, u "()V"), (1, .class_ 10), (1, u "java/lang/Object")] 113

def k0c0 : Code := { maxStack := 0, maxLocals := 1, code := object_method_1_code, exceptionTable := #[], attributes := #[] }
def k0m0 : Method := { name := "<init>", desc := "()V", sig := { parameters := [], returnType := none }, accessFlags := 1, code := some k0c0 }
/-- java/lang/Object -/
def k0 : Class := { plain "java/lang/Object" none with
  accessFlags := 33
  interfaces := #[]
  cf := some (fileOf pool0 8 #[] #[{ accessFlags := 1, nameIndex := 5, descriptorIndex := 6, attributes := #[] }] 33 0 #[] #[])
  fields := #[]
  methods := #[k0m0]
  instanceTypes := #[]
  staticTypes := #[]
  resolved := Array.replicate 124 none
  statics := none }

def pool1 : Array CpInfo := pool [(2, .class_ 4), (1, u "java/lang/Object"), (0, u "<init>"), (0, u "()V"), (0, .integer 2147483647), (0, .class_ 9), (0, u "java/lang/String"), (0, .methodref 8 11), (0, .nameAndType 5 12), (0, u "([C)V"), (0, .methodref 8 14), (0, .nameAndType 15 16), (0, u "valueOf"), (0, u "(C)Ljava/lang/String;"), (0, .string 18), (0, u "http://www.w3.org/2000/09/xmldsig#"), (0, .string 20), (0, u "http://www.w3.org/2000/09/xmldsig"), (0, .string 22), (0, u ""), (0, .string 24), (0, u "Signature"), (0, .string 26), (0, u "ds:Signature"), (0, .string 28), (0, u "Signatur"), (0, .methodref 30 31), (0, .class_ 32), (0, .nameAndType 33 34), (0, u "com/example/subscriptor/subscriptor/XmlSignature"), (0, u "isSignature"), (0, u "(Ljava/lang/String;Ljava/lang/String;)Z"), (0, .class_ 36), (0, u "com/example/subscriptor/subscriptor/XmlSignatureIsSignaturePinLaw"), (2, u "law"), (0, u "(IIIIII)Z")] 5

def k1m0 : Method := { name := "<init>", desc := "()V", sig := { parameters := [], returnType := none }, accessFlags := 1, code := none }
def k1c1 : Code := { maxStack := 4, maxLocals := 18, code := code, exceptionTable := #[], attributes := #[] }
def k1m1 : Method := { name := "law", desc := "(IIIIII)Z", sig := { parameters := [.int, .int, .int, .int, .int, .int], returnType := some .boolean }, accessFlags := 9, code := some k1c1 }
/-- com/example/subscriptor/subscriptor/XmlSignatureIsSignaturePinLaw -/
def k1 : Class := { plain "com/example/subscriptor/subscriptor/XmlSignatureIsSignaturePinLaw" (some 0) with
  accessFlags := 49
  interfaces := #[]
  cf := some (fileOf pool1 35 #[] #[{ accessFlags := 1, nameIndex := 5, descriptorIndex := 6, attributes := #[] }, { accessFlags := 9, nameIndex := 39, descriptorIndex := 40, attributes := #[] }] 49 2 #[] #[])
  fields := #[]
  methods := #[k1m0, k1m1]
  instanceTypes := #[]
  staticTypes := #[]
  resolved := Array.replicate 46 none
  statics := none }

def pool2 : Array CpInfo := pool [(1, .class_ 2), (0, u "java/io/Serializable"), (0, .class_ 4), (0, u "java/lang/Object")] 2

/-- java/io/Serializable -/
def k2 : Class := { plain "java/io/Serializable" (some 0) with
  accessFlags := 1537
  interfaces := #[]
  cf := some (fileOf pool2 1 #[] #[] 1537 3 #[] #[])
  fields := #[]
  methods := #[]
  instanceTypes := #[]
  staticTypes := #[]
  resolved := Array.replicate 7 none
  statics := none }

def pool3 : Array CpInfo := pool [(1, .class_ 2), (0, u "java/lang/Comparable"), (0, .class_ 4), (0, u "java/lang/Object")] 7

/-- java/lang/Comparable -/
def k3 : Class := { plain "java/lang/Comparable" (some 0) with
  accessFlags := 1537
  interfaces := #[]
  cf := some (fileOf pool3 1 #[] #[] 1537 3 #[] #[])
  fields := #[]
  methods := #[]
  instanceTypes := #[]
  staticTypes := #[]
  resolved := Array.replicate 12 none
  statics := none }

def pool4 : Array CpInfo := pool [(2, .class_ 4), (1, u "java/lang/CharSequence"), (42, .class_ 48), (0, u "java/lang/CharSequence$1CodePointIterator"), (10, .class_ 60), (0, u "java/lang/CharSequence$1CharIterator"), (5, .class_ 67), (0, u "java/lang/Object")] 63

/-- java/lang/CharSequence -/
def k4 : Class := { plain "java/lang/CharSequence" (some 0) with
  accessFlags := 1537
  interfaces := #[]
  cf := some (fileOf pool4 2 #[.nestMembers #[47, 59]] #[] 1537 66 #[] #[])
  fields := #[]
  methods := #[]
  instanceTypes := #[]
  staticTypes := #[]
  resolved := Array.replicate 131 none
  statics := none }

def pool5 : Array CpInfo := pool [(1, .class_ 2), (0, u "java/lang/constant/Constable"), (0, .class_ 4), (0, u "java/lang/Object")] 6

/-- java/lang/constant/Constable -/
def k5 : Class := { plain "java/lang/constant/Constable" (some 0) with
  accessFlags := 1537
  interfaces := #[]
  cf := some (fileOf pool5 1 #[] #[] 1537 3 #[] #[])
  fields := #[]
  methods := #[]
  instanceTypes := #[]
  staticTypes := #[]
  resolved := Array.replicate 11 none
  statics := none }

def pool6 : Array CpInfo := pool [(1, .class_ 2), (0, u "java/lang/constant/ConstantDesc"), (0, .class_ 4), (0, u "java/lang/Object")] 32

/-- java/lang/constant/ConstantDesc -/
def k6 : Class := { plain "java/lang/constant/ConstantDesc" (some 0) with
  accessFlags := 1537
  interfaces := #[]
  cf := some (fileOf pool6 1 #[] #[] 1537 3 #[] #[])
  fields := #[]
  methods := #[]
  instanceTypes := #[]
  staticTypes := #[]
  resolved := Array.replicate 37 none
  statics := none }

def pool7 : Array CpInfo := pool [(1, .methodref 2 3), (0, .class_ 4), (0, .nameAndType 5 6), (0, u "java/lang/Object"), (0, u "<init>"), (0, u "()V"), (2, .fieldref 10 11), (0, .class_ 12), (0, .nameAndType 13 14), (0, u "java/lang/String"), (0, u "value"), (0, u "[B"), (0, .fieldref 10 16), (0, .nameAndType 17 18), (0, u "coder"), (0, u "B"), (2, u "hash"), (0, u "I"), (2, u "hashIsZero"), (0, u "Z"), (0, .methodref 10 28), (0, .nameAndType 5 29), (0, u "([CIILjava/lang/Void;)V"), (8, .fieldref 10 39), (0, .nameAndType 40 26), (0, u "COMPACT_STRINGS"), (1, .class_ 44), (1, u "java/lang/StringUTF16"), (0, u "compress"), (1, .methodref 42 48), (0, .nameAndType 49 50), (0, u "coderFromArrayLen"), (0, u "([BI)B"), (2, u "toBytes"), (53, .class_ 109), (1, u "java/lang/StringLatin1"), (67, .methodref 42 178), (0, .nameAndType 45 179), (0, u "([CII)[B"), (29, .methodref 10 210), (0, .nameAndType 5 211), (0, u "([BB)V"), (157, u "(C)Z"), (171, .methodref 107 542), (0, .nameAndType 543 544), (0, u "equals"), (0, u "([B[B)Z"), (28, u "(Ljava/lang/Object;)Z"), (1, .class_ 576), (0, u "java/lang/CharSequence"), (22, u "CASE_INSENSITIVE_ORDER"), (0, u "Ljava/util/Comparator;"), (181, u "valueOf"), (0, u "(C)Ljava/lang/String;"), (226, u "([C)V"), (4, .methodref 107 1016), (0, .nameAndType 1017 369), (0, u "canEncode"), (0, .methodref 107 1019), (0, .nameAndType 53 1020), (0, u "(C)[B"), (80, u "serialPersistentFields"), (0, u "[Ljava/io/ObjectStreamField;"), (0, .class_ 1104), (0, u "java/lang/String$CaseInsensitiveComparator"), (1, .class_ 1107), (0, u "java/io/Serializable"), (0, .class_ 1109), (0, u "java/lang/Comparable"), (0, .class_ 1111), (0, u "java/lang/constant/Constable"), (0, .class_ 1113), (0, u "java/lang/constant/ConstantDesc"), (2, u "serialVersionUID"), (0, u "J"), (3, u "REPL"), (0, u "C"), (2, u "LATIN1"), (1, u "UTF16")] 323

def k7m0 : Method := { name := "<init>", desc := "()V", sig := { parameters := [], returnType := none }, accessFlags := 1, code := none }
def k7c1 : Code := { maxStack := 5, maxLocals := 2, code := jdk_42_method_3_code, exceptionTable := #[], attributes := #[] }
def k7m1 : Method := { name := "<init>", desc := "([C)V", sig := { parameters := [(.array .char)], returnType := none }, accessFlags := 1, code := some k7c1 }
def k7c2 : Code := { maxStack := 2, maxLocals := 3, code := jdk_42_method_66_code, exceptionTable := #[], attributes := #[] }
def k7m2 : Method := { name := "equals", desc := "(Ljava/lang/Object;)Z", sig := { parameters := [(.object "java/lang/Object")], returnType := some .boolean }, accessFlags := 1, code := some k7c2 }
def k7c3 : Code := { maxStack := 4, maxLocals := 1, code := jdk_42_method_139_code, exceptionTable := #[], attributes := #[] }
def k7m3 : Method := { name := "valueOf", desc := "(C)Ljava/lang/String;", sig := { parameters := [.char], returnType := some (.object "java/lang/String") }, accessFlags := 9, code := some k7c3 }
def k7c4 : Code := { maxStack := 4, maxLocals := 6, code := jdk_42_method_149_code, exceptionTable := #[], attributes := #[] }
def k7m4 : Method := { name := "<init>", desc := "([CIILjava/lang/Void;)V", sig := { parameters := [(.array .char), .int, .int, (.object "java/lang/Void")], returnType := none }, accessFlags := 2, code := some k7c4 }
def k7c5 : Code := { maxStack := 2, maxLocals := 3, code := jdk_42_method_151_code, exceptionTable := #[], attributes := #[] }
def k7m5 : Method := { name := "<init>", desc := "([BB)V", sig := { parameters := [(.array .byte), .byte], returnType := none }, accessFlags := 0, code := some k7c5 }
/-- java/lang/String -/
def k7 : Class := { plain "java/lang/String" (some 0) with
  accessFlags := 49
  interfaces := #[2, 3, 4, 5, 6]
  cf := some (fileOf pool7 10 #[.nestMembers #[1103]] #[{ accessFlags := 1, nameIndex := 5, descriptorIndex := 6, attributes := #[] }, { accessFlags := 1, nameIndex := 5, descriptorIndex := 1010, attributes := #[] }, { accessFlags := 1, nameIndex := 543, descriptorIndex := 573, attributes := #[] }, { accessFlags := 9, nameIndex := 782, descriptorIndex := 783, attributes := #[] }, { accessFlags := 2, nameIndex := 5, descriptorIndex := 29, attributes := #[] }, { accessFlags := 0, nameIndex := 5, descriptorIndex := 211, attributes := #[] }] 49 2 #[1106, 1108, 575, 1110, 1112] #[{ accessFlags := 18, nameIndex := 13, descriptorIndex := 14, attributes := #[] }, { accessFlags := 18, nameIndex := 17, descriptorIndex := 18, attributes := #[] }, { accessFlags := 2, nameIndex := 21, descriptorIndex := 22, attributes := #[] }, { accessFlags := 2, nameIndex := 25, descriptorIndex := 26, attributes := #[] }, { accessFlags := 26, nameIndex := 1116, descriptorIndex := 1117, attributes := #[] }, { accessFlags := 24, nameIndex := 40, descriptorIndex := 26, attributes := #[] }, { accessFlags := 26, nameIndex := 1101, descriptorIndex := 1102, attributes := #[] }, { accessFlags := 26, nameIndex := 1121, descriptorIndex := 1122, attributes := #[] }, { accessFlags := 25, nameIndex := 599, descriptorIndex := 600, attributes := #[] }, { accessFlags := 24, nameIndex := 1125, descriptorIndex := 18, attributes := #[] }, { accessFlags := 24, nameIndex := 1127, descriptorIndex := 18, attributes := #[] }])
  fields := #[{ name := "value", type := (.array .byte), accessFlags := 18, slot := 0, constantValue := 0 }, { name := "coder", type := .byte, accessFlags := 18, slot := 1, constantValue := 0 }, { name := "hash", type := .int, accessFlags := 2, slot := 2, constantValue := 0 }, { name := "hashIsZero", type := .boolean, accessFlags := 2, slot := 3, constantValue := 0 }, { name := "serialVersionUID", type := .long, accessFlags := 26, slot := 0, constantValue := 0 }, { name := "COMPACT_STRINGS", type := .boolean, accessFlags := 24, slot := 1, constantValue := 0 }, { name := "serialPersistentFields", type := (.array (.object "java/io/ObjectStreamField")), accessFlags := 26, slot := 2, constantValue := 0 }, { name := "REPL", type := .char, accessFlags := 26, slot := 3, constantValue := 0 }, { name := "CASE_INSENSITIVE_ORDER", type := (.object "java/util/Comparator"), accessFlags := 25, slot := 4, constantValue := 0 }, { name := "LATIN1", type := .byte, accessFlags := 24, slot := 5, constantValue := 0 }, { name := "UTF16", type := .byte, accessFlags := 24, slot := 6, constantValue := 0 }]
  methods := #[k7m0, k7m1, k7m2, k7m3, k7m4, k7m5]
  instanceTypes := #[(.array .byte), .byte, .int, .boolean]
  staticTypes := #[.long, .boolean, (.array (.object "java/io/ObjectStreamField")), .char, (.object "java/util/Comparator"), .byte, .byte]
  resolved := Array.replicate 1451 none
  statics := some 0 }

def pool8 : Array CpInfo := pool [(6, .class_ 8), (1, u "java/lang/Object"), (0, u "<init>"), (0, u "()V"), (1, .class_ 14), (1, u "java/lang/StringUTF16"), (31, u "$assertionsDisabled"), (0, u "Z"), (13, u "HI_BYTE_SHIFT"), (0, u "I"), (2, u "LO_BYTE_SHIFT"), (49, .methodref 12 116), (0, .nameAndType 117 118), (0, u "compress"), (0, u "([CI[BII)I"), (3, u "([CII)[B"), (138, u "coderFromArrayLen"), (0, u "([BI)B"), (106, .class_ 371), (1, u "java/lang/StringUTF16$LinesSpliterator"), (58, u "MAX_LENGTH"), (196, .class_ 628), (0, u "java/lang/StringUTF16$CodePointsSpliterator"), (0, .class_ 630), (0, u "java/lang/StringUTF16$CharsSpliterator")] 4

def k8m0 : Method := { name := "<init>", desc := "()V", sig := { parameters := [], returnType := none }, accessFlags := 0, code := none }
def k8c1 : Code := { maxStack := 2, maxLocals := 2, code := jdk_52_method_15_code, exceptionTable := #[], attributes := #[] }
def k8m1 : Method := { name := "coderFromArrayLen", desc := "([BI)B", sig := { parameters := [(.array .byte), .int], returnType := some .byte }, accessFlags := 8, code := some k8c1 }
def k8c2 : Code := { maxStack := 5, maxLocals := 6, code := jdk_52_method_16_code, exceptionTable := #[], attributes := #[] }
def k8m2 : Method := { name := "compress", desc := "([CII)[B", sig := { parameters := [(.array .char), .int, .int], returnType := some (.array .byte) }, accessFlags := 9, code := some k8c2 }
def k8c3 : Code := { maxStack := 3, maxLocals := 7, code := jdk_52_method_21_code, exceptionTable := #[], attributes := #[] }
def k8m3 : Method := { name := "compress", desc := "([CI[BII)I", sig := { parameters := [(.array .char), .int, (.array .byte), .int, .int], returnType := some .int }, accessFlags := 9, code := some k8c3 }
/-- java/lang/StringUTF16 -/
def k8 : Class := { plain "java/lang/StringUTF16" (some 0) with
  accessFlags := 48
  interfaces := #[]
  cf := some (fileOf pool8 12 #[.nestMembers #[627, 629, 369]] #[{ accessFlags := 0, nameIndex := 9, descriptorIndex := 10, attributes := #[] }, { accessFlags := 8, nameIndex := 261, descriptorIndex := 262, attributes := #[] }, { accessFlags := 9, nameIndex := 117, descriptorIndex := 122, attributes := #[] }, { accessFlags := 9, nameIndex := 117, descriptorIndex := 118, attributes := #[] }] 48 6 #[] #[{ accessFlags := 26, nameIndex := 61, descriptorIndex := 62, attributes := #[] }, { accessFlags := 26, nameIndex := 65, descriptorIndex := 62, attributes := #[] }, { accessFlags := 24, nameIndex := 430, descriptorIndex := 62, attributes := #[] }, { accessFlags := 4120, nameIndex := 46, descriptorIndex := 47, attributes := #[] }])
  fields := #[{ name := "HI_BYTE_SHIFT", type := .int, accessFlags := 26, slot := 0, constantValue := 0 }, { name := "LO_BYTE_SHIFT", type := .int, accessFlags := 26, slot := 1, constantValue := 0 }, { name := "MAX_LENGTH", type := .int, accessFlags := 24, slot := 2, constantValue := 0 }, { name := "$assertionsDisabled", type := .boolean, accessFlags := 4120, slot := 3, constantValue := 0 }]
  methods := #[k8m0, k8m1, k8m2, k8m3]
  instanceTypes := #[]
  staticTypes := #[.int, .int, .int, .boolean]
  resolved := Array.replicate 635 none
  statics := none }

def pool9 : Array CpInfo := pool [(2, .class_ 4), (1, u "java/lang/Object"), (0, u "<init>"), (0, u "()V"), (0, .class_ 8), (0, u "java/lang/Record")] 13

def k9m0 : Method := { name := "<init>", desc := "()V", sig := { parameters := [], returnType := none }, accessFlags := 4, code := none }
/-- java/lang/Record -/
def k9 : Class := { plain "java/lang/Record" (some 0) with
  accessFlags := 1057
  interfaces := #[]
  cf := some (fileOf pool9 7 #[] #[{ accessFlags := 4, nameIndex := 5, descriptorIndex := 6, attributes := #[] }] 1057 2 #[] #[])
  fields := #[]
  methods := #[k9m0]
  instanceTypes := #[]
  staticTypes := #[]
  resolved := Array.replicate 22 none
  statics := none }

def pool10 : Array CpInfo := pool [(2, .class_ 4), (1, u "java/lang/Record"), (3, .class_ 10), (1, u "com/example/subscriptor/subscriptor/XmlSignature"), (0, u "element"), (0, u "Lorg/w3c/dom/Element;"), (2, u "signedInfo"), (2, u "canonicalizationMethod"), (0, u "Lcom/example/subscriptor/subscriptor/XmlSignature$Method;"), (2, u "signatureMethod"), (2, u "references"), (0, u "Ljava/util/List;"), (2, u "signatureValue"), (0, u "[B"), (2, u "keyInfo"), (0, u "Lcom/example/subscriptor/subscriptor/KeyInfo;"), (2, u "objects"), (13, .string 52), (0, u "http://www.w3.org/2000/09/xmldsig#"), (0, .methodref 54 55), (0, .class_ 56), (0, .nameAndType 57 58), (0, u "java/lang/String"), (0, u "equals"), (0, u "(Ljava/lang/Object;)Z"), (0, .string 60), (0, u "Signature"), (151, .class_ 213), (0, u "com/example/subscriptor/subscriptor/XmlSignature$Manifest"), (14, .class_ 230), (1, u "com/example/subscriptor/subscriptor/XmlSignature$Method"), (57, u "isSignature"), (0, u "(Ljava/lang/String;Ljava/lang/String;)Z"), (17, .class_ 309), (1, u "com/example/subscriptor/subscriptor/XmlSignature$Digest"), (1, .class_ 312), (0, u "com/example/subscriptor/subscriptor/XmlSignature$Reference"), (71, u "NAMESPACE"), (0, u "Ljava/lang/String;"), (1, u "MAX_REFERENCES"), (0, u "I"), (1, u "MAX_TRANSFORMS")] 91

def k10c0 : Code := { maxStack := 2, maxLocals := 2, code := prog_154_method_3_code, exceptionTable := #[], attributes := #[] }
def k10m0 : Method := { name := "isSignature", desc := "(Ljava/lang/String;Ljava/lang/String;)Z", sig := { parameters := [(.object "java/lang/String"), (.object "java/lang/String")], returnType := some .boolean }, accessFlags := 8, code := some k10c0 }
/-- com/example/subscriptor/subscriptor/XmlSignature -/
def k10 : Class := { plain "com/example/subscriptor/subscriptor/XmlSignature" (some 9) with
  accessFlags := 48
  interfaces := #[]
  cf := some (fileOf pool10 8 #[.nestMembers #[228, 307, 212, 311]] #[{ accessFlags := 8, nameIndex := 288, descriptorIndex := 289, attributes := #[] }] 48 2 #[] #[{ accessFlags := 18, nameIndex := 11, descriptorIndex := 12, attributes := #[] }, { accessFlags := 18, nameIndex := 15, descriptorIndex := 12, attributes := #[] }, { accessFlags := 18, nameIndex := 18, descriptorIndex := 19, attributes := #[] }, { accessFlags := 18, nameIndex := 22, descriptorIndex := 19, attributes := #[] }, { accessFlags := 18, nameIndex := 25, descriptorIndex := 26, attributes := #[] }, { accessFlags := 18, nameIndex := 29, descriptorIndex := 30, attributes := #[] }, { accessFlags := 18, nameIndex := 33, descriptorIndex := 34, attributes := #[] }, { accessFlags := 18, nameIndex := 37, descriptorIndex := 26, attributes := #[] }, { accessFlags := 24, nameIndex := 384, descriptorIndex := 385, attributes := #[] }, { accessFlags := 24, nameIndex := 387, descriptorIndex := 388, attributes := #[] }, { accessFlags := 24, nameIndex := 390, descriptorIndex := 388, attributes := #[] }])
  fields := #[{ name := "element", type := (.object "org/w3c/dom/Element"), accessFlags := 18, slot := 0, constantValue := 0 }, { name := "signedInfo", type := (.object "org/w3c/dom/Element"), accessFlags := 18, slot := 1, constantValue := 0 }, { name := "canonicalizationMethod", type := (.object "com/example/subscriptor/subscriptor/XmlSignature$Method"), accessFlags := 18, slot := 2, constantValue := 0 }, { name := "signatureMethod", type := (.object "com/example/subscriptor/subscriptor/XmlSignature$Method"), accessFlags := 18, slot := 3, constantValue := 0 }, { name := "references", type := (.object "java/util/List"), accessFlags := 18, slot := 4, constantValue := 0 }, { name := "signatureValue", type := (.array .byte), accessFlags := 18, slot := 5, constantValue := 0 }, { name := "keyInfo", type := (.object "com/example/subscriptor/subscriptor/KeyInfo"), accessFlags := 18, slot := 6, constantValue := 0 }, { name := "objects", type := (.object "java/util/List"), accessFlags := 18, slot := 7, constantValue := 0 }, { name := "NAMESPACE", type := (.object "java/lang/String"), accessFlags := 24, slot := 0, constantValue := 0 }, { name := "MAX_REFERENCES", type := .int, accessFlags := 24, slot := 1, constantValue := 0 }, { name := "MAX_TRANSFORMS", type := .int, accessFlags := 24, slot := 2, constantValue := 0 }]
  methods := #[k10m0]
  instanceTypes := #[(.object "org/w3c/dom/Element"), (.object "org/w3c/dom/Element"), (.object "com/example/subscriptor/subscriptor/XmlSignature$Method"), (.object "com/example/subscriptor/subscriptor/XmlSignature$Method"), (.object "java/util/List"), (.array .byte), (.object "com/example/subscriptor/subscriptor/KeyInfo"), (.object "java/util/List")]
  staticTypes := #[(.object "java/lang/String"), .int, .int]
  resolved := Array.replicate 482 none
  statics := none }

def pool11 : Array CpInfo := pool [(4, .class_ 6), (1, u "java/lang/Object"), (0, u "<init>"), (0, u "()V"), (5, .class_ 16), (1, u "java/lang/StringLatin1"), (73, u "canEncode"), (14, u "(C)Z"), (15, u "$assertionsDisabled"), (0, u "Z"), (98, .class_ 223), (1, u "java/lang/StringLatin1$LinesSpliterator"), (57, u "equals"), (0, u "([B[B)Z"), (97, u "toBytes"), (1, u "(C)[B"), (7, .class_ 391), (0, u "java/lang/StringLatin1$CharsSpliterator")] 3

def k11m0 : Method := { name := "<init>", desc := "()V", sig := { parameters := [], returnType := none }, accessFlags := 0, code := none }
def k11c1 : Code := { maxStack := 2, maxLocals := 1, code := jdk_43_method_3_code, exceptionTable := #[], attributes := #[] }
def k11m1 : Method := { name := "canEncode", desc := "(C)Z", sig := { parameters := [.char], returnType := some .boolean }, accessFlags := 9, code := some k11c1 }
def k11c2 : Code := { maxStack := 3, maxLocals := 3, code := jdk_43_method_13_code, exceptionTable := #[], attributes := #[] }
def k11m2 : Method := { name := "equals", desc := "([B[B)Z", sig := { parameters := [(.array .byte), (.array .byte)], returnType := some .boolean }, accessFlags := 9, code := some k11c2 }
def k11c3 : Code := { maxStack := 4, maxLocals := 1, code := jdk_43_method_46_code, exceptionTable := #[], attributes := #[] }
def k11m3 : Method := { name := "toBytes", desc := "(C)[B", sig := { parameters := [.char], returnType := some (.array .byte) }, accessFlags := 9, code := some k11c3 }
/-- java/lang/StringLatin1 -/
def k11 : Class := { plain "java/lang/StringLatin1" (some 0) with
  accessFlags := 48
  interfaces := #[]
  cf := some (fileOf pool11 14 #[.nestMembers #[390, 221]] #[{ accessFlags := 0, nameIndex := 7, descriptorIndex := 8, attributes := #[] }, { accessFlags := 9, nameIndex := 90, descriptorIndex := 105, attributes := #[] }, { accessFlags := 9, nameIndex := 281, descriptorIndex := 282, attributes := #[] }, { accessFlags := 9, nameIndex := 380, descriptorIndex := 382, attributes := #[] }] 48 4 #[] #[{ accessFlags := 4120, nameIndex := 121, descriptorIndex := 122, attributes := #[] }])
  fields := #[{ name := "$assertionsDisabled", type := .boolean, accessFlags := 4120, slot := 0, constantValue := 0 }]
  methods := #[k11m0, k11m1, k11m2, k11m3]
  instanceTypes := #[]
  staticTypes := #[.boolean]
  resolved := Array.replicate 395 none
  statics := none }

def pool12 : Array CpInfo := pool [(2, .class_ 4), (1, u "java/lang/Object"), (0, u "<init>"), (0, u "()V"), (17, .class_ 26), (1, u "jdk/internal/util/Preconditions"), (28, .class_ 56), (0, u "jdk/internal/util/Preconditions$4"), (57, .class_ 115), (0, u "jdk/internal/util/Preconditions$1"), (7, u "SIOOBE_FORMATTER"), (0, u "Ljava/util/function/BiFunction;"), (0, .class_ 126), (0, u "jdk/internal/util/Preconditions$2"), (3, u "AIOOBE_FORMATTER"), (0, .class_ 132), (0, u "jdk/internal/util/Preconditions$3"), (3, u "IOOBE_FORMATTER")] 57

def k12m0 : Method := { name := "<init>", desc := "()V", sig := { parameters := [], returnType := none }, accessFlags := 1, code := none }
/-- jdk/internal/util/Preconditions -/
def k12 : Class := { plain "jdk/internal/util/Preconditions" (some 0) with
  accessFlags := 33
  interfaces := #[]
  cf := some (fileOf pool12 24 #[.nestMembers #[55, 131, 125, 114]] #[{ accessFlags := 1, nameIndex := 5, descriptorIndex := 6, attributes := #[] }] 33 2 #[] #[{ accessFlags := 25, nameIndex := 123, descriptorIndex := 124, attributes := #[] }, { accessFlags := 25, nameIndex := 130, descriptorIndex := 124, attributes := #[] }, { accessFlags := 25, nameIndex := 136, descriptorIndex := 124, attributes := #[] }])
  fields := #[{ name := "SIOOBE_FORMATTER", type := (.object "java/util/function/BiFunction"), accessFlags := 25, slot := 0, constantValue := 0 }, { name := "AIOOBE_FORMATTER", type := (.object "java/util/function/BiFunction"), accessFlags := 25, slot := 1, constantValue := 0 }, { name := "IOOBE_FORMATTER", type := (.object "java/util/function/BiFunction"), accessFlags := 25, slot := 2, constantValue := 0 }]
  methods := #[k12m0]
  instanceTypes := #[]
  staticTypes := #[(.object "java/util/function/BiFunction"), (.object "java/util/function/BiFunction"), (.object "java/util/function/BiFunction")]
  resolved := Array.replicate 194 none
  statics := some 1 }

def pool13 : Array CpInfo := pool [(9, u "<init>"), (6, .class_ 18), (1, u "java/lang/Object"), (0, u "()V"), (1, .class_ 23), (1, u "jdk/internal/util/ArraysSupport"), (0, u "LOG2_ARRAY_LONG_INDEX_SCALE"), (0, u "I"), (2, u "U"), (0, u "Ljdk/internal/misc/Unsafe;"), (8, u "BIG_ENDIAN"), (0, u "Z"), (8, u "LOG2_BYTE_BIT_SIZE"), (4, u "LOG2_ARRAY_INT_INDEX_SCALE"), (54, u "JLA"), (0, u "Ljdk/internal/access/JavaLangAccess;"), (11, u "LOG2_ARRAY_BOOLEAN_INDEX_SCALE"), (9, u "LOG2_ARRAY_BYTE_INDEX_SCALE"), (5, u "LOG2_ARRAY_CHAR_INDEX_SCALE"), (5, u "LOG2_ARRAY_SHORT_INDEX_SCALE"), (18, u "LOG2_ARRAY_FLOAT_INDEX_SCALE"), (24, u "LOG2_ARRAY_DOUBLE_INDEX_SCALE"), (89, u "T_BOOLEAN"), (2, u "T_CHAR"), (1, u "T_FLOAT"), (1, u "T_DOUBLE"), (1, u "T_BYTE"), (1, u "T_SHORT"), (1, u "T_INT"), (1, u "T_LONG"), (1, u "SOFT_MAX_ARRAY_LENGTH")] 83

def k13m0 : Method := { name := "<init>", desc := "()V", sig := { parameters := [], returnType := none }, accessFlags := 2, code := none }
/-- jdk/internal/util/ArraysSupport -/
def k13 : Class := { plain "jdk/internal/util/ArraysSupport" (some 0) with
  accessFlags := 33
  interfaces := #[]
  cf := some (fileOf pool13 21 #[] #[{ accessFlags := 2, nameIndex := 9, descriptorIndex := 19, attributes := #[] }] 33 16 #[] #[{ accessFlags := 24, nameIndex := 28, descriptorIndex := 29, attributes := #[] }, { accessFlags := 26, nameIndex := 38, descriptorIndex := 39, attributes := #[] }, { accessFlags := 25, nameIndex := 121, descriptorIndex := 25, attributes := #[] }, { accessFlags := 25, nameIndex := 131, descriptorIndex := 25, attributes := #[] }, { accessFlags := 25, nameIndex := 137, descriptorIndex := 25, attributes := #[] }, { accessFlags := 25, nameIndex := 143, descriptorIndex := 25, attributes := #[] }, { accessFlags := 25, nameIndex := 53, descriptorIndex := 25, attributes := #[] }, { accessFlags := 25, nameIndex := 24, descriptorIndex := 25, attributes := #[] }, { accessFlags := 25, nameIndex := 162, descriptorIndex := 25, attributes := #[] }, { accessFlags := 25, nameIndex := 187, descriptorIndex := 25, attributes := #[] }, { accessFlags := 26, nameIndex := 48, descriptorIndex := 25, attributes := #[] }, { accessFlags := 25, nameIndex := 277, descriptorIndex := 25, attributes := #[] }, { accessFlags := 25, nameIndex := 280, descriptorIndex := 25, attributes := #[] }, { accessFlags := 25, nameIndex := 282, descriptorIndex := 25, attributes := #[] }, { accessFlags := 25, nameIndex := 284, descriptorIndex := 25, attributes := #[] }, { accessFlags := 25, nameIndex := 286, descriptorIndex := 25, attributes := #[] }, { accessFlags := 25, nameIndex := 288, descriptorIndex := 25, attributes := #[] }, { accessFlags := 25, nameIndex := 290, descriptorIndex := 25, attributes := #[] }, { accessFlags := 25, nameIndex := 292, descriptorIndex := 25, attributes := #[] }, { accessFlags := 26, nameIndex := 108, descriptorIndex := 109, attributes := #[] }, { accessFlags := 25, nameIndex := 294, descriptorIndex := 25, attributes := #[] }])
  fields := #[{ name := "U", type := (.object "jdk/internal/misc/Unsafe"), accessFlags := 24, slot := 0, constantValue := 0 }, { name := "BIG_ENDIAN", type := .boolean, accessFlags := 26, slot := 1, constantValue := 0 }, { name := "LOG2_ARRAY_BOOLEAN_INDEX_SCALE", type := .int, accessFlags := 25, slot := 2, constantValue := 0 }, { name := "LOG2_ARRAY_BYTE_INDEX_SCALE", type := .int, accessFlags := 25, slot := 3, constantValue := 0 }, { name := "LOG2_ARRAY_CHAR_INDEX_SCALE", type := .int, accessFlags := 25, slot := 4, constantValue := 0 }, { name := "LOG2_ARRAY_SHORT_INDEX_SCALE", type := .int, accessFlags := 25, slot := 5, constantValue := 0 }, { name := "LOG2_ARRAY_INT_INDEX_SCALE", type := .int, accessFlags := 25, slot := 6, constantValue := 0 }, { name := "LOG2_ARRAY_LONG_INDEX_SCALE", type := .int, accessFlags := 25, slot := 7, constantValue := 0 }, { name := "LOG2_ARRAY_FLOAT_INDEX_SCALE", type := .int, accessFlags := 25, slot := 8, constantValue := 0 }, { name := "LOG2_ARRAY_DOUBLE_INDEX_SCALE", type := .int, accessFlags := 25, slot := 9, constantValue := 0 }, { name := "LOG2_BYTE_BIT_SIZE", type := .int, accessFlags := 26, slot := 10, constantValue := 0 }, { name := "T_BOOLEAN", type := .int, accessFlags := 25, slot := 11, constantValue := 0 }, { name := "T_CHAR", type := .int, accessFlags := 25, slot := 12, constantValue := 0 }, { name := "T_FLOAT", type := .int, accessFlags := 25, slot := 13, constantValue := 0 }, { name := "T_DOUBLE", type := .int, accessFlags := 25, slot := 14, constantValue := 0 }, { name := "T_BYTE", type := .int, accessFlags := 25, slot := 15, constantValue := 0 }, { name := "T_SHORT", type := .int, accessFlags := 25, slot := 16, constantValue := 0 }, { name := "T_INT", type := .int, accessFlags := 25, slot := 17, constantValue := 0 }, { name := "T_LONG", type := .int, accessFlags := 25, slot := 18, constantValue := 0 }, { name := "JLA", type := (.object "jdk/internal/access/JavaLangAccess"), accessFlags := 26, slot := 19, constantValue := 0 }, { name := "SOFT_MAX_ARRAY_LENGTH", type := .int, accessFlags := 25, slot := 20, constantValue := 0 }]
  methods := #[k13m0]
  instanceTypes := #[]
  staticTypes := #[(.object "jdk/internal/misc/Unsafe"), .boolean, .int, .int, .int, .int, .int, .int, .int, .int, .int, .int, .int, .int, .int, .int, .int, .int, .int, (.object "jdk/internal/access/JavaLangAccess"), .int]
  resolved := Array.replicate 378 none
  statics := none }

def pool14 : Array CpInfo := pool [(1, u "java/lang/Cloneable"), (0, .class_ 1), (0, u "java/lang/Object"), (0, .class_ 3)] 3

/-- java/lang/Cloneable -/
def k14 : Class := { plain "java/lang/Cloneable" (some 0) with
  accessFlags := 1537
  interfaces := #[]
  cf := some (fileOf pool14 2 #[] #[] 1537 4 #[] #[])
  fields := #[]
  methods := #[]
  instanceTypes := #[]
  staticTypes := #[]
  resolved := Array.replicate 8 none
  statics := none }

/-- the primitive byte -/
def k15 : Class := { plain "byte" none with kind := .primitive 'B', accessFlags := 0x411 }
/-- [B -/
def k16 : Class := { plain "[B" (some 0) with kind := .array 15 .byte, interfaces := #[14, 2], accessFlags := 1041 }

/-- the primitive char -/
def k17 : Class := { plain "char" none with kind := .primitive 'C', accessFlags := 0x411 }
/-- [C -/
def k18 : Class := { plain "[C" (some 0) with kind := .array 17 .char, interfaces := #[14, 2], accessFlags := 1041 }

/-- the primitive int -/
def k19 : Class := { plain "int" none with kind := .primitive 'I', accessFlags := 0x411 }
/-- [I -/
def k20 : Class := { plain "[I" (some 0) with kind := .array 19 .int, interfaces := #[14, 2], accessFlags := 1041 }

def heap : Heap := #[{ cls := 7, slots := #[.long 0, .int 1, .null, .int 0, .null, .int 0, .int 0], vm := .statics 7 },
  { cls := 12, slots := #[.null, .null, .null], vm := .statics 12 }]
def classes : Array Class := #[k0, k1, k2, k3, k4, k5, k6, k7, k8, k9, k10, k11, k12, k13, k14, k15, k16, k17, k18, k19, k20]
def interned : List (Array UInt16 × Addr) := []
def slotsUsed : Nat := 10
def theMethod : MethodId := ⟨1, 1⟩
def args0 : Array Value := #[.int 5, .int 7, .int 1, .int 2, .int 3, .int 4]
def aboutOver (below : List Frame) : State where
  vm := { classes := classes, interned := interned.toArray }
  heap := heap
  slotsUsed := slotsUsed
  threads := #[{ frames := .invoking theMethod args0 :: below }]
def below0 : List Frame := [.native { method := ⟨0, 0⟩, args := #[] }]
def about1 : State := aboutOver below0
def p0 : Program := .bare "" "" ""
def e0 : Env := launch0.env 0 0 0
theorem w_frames : about1.frames = Frame.invoking theMethod args0 :: below0 := rfl
set_option maxRecDepth 65536 in
theorem w_args : argsFit about1.vm theMethod args0 = true := by decide +kernel
set_option maxRecDepth 65536 in
theorem w_heap : heapFits about1 = true := by decide +kernel
set_option maxRecDepth 65536 in
theorem w_runnable : about1.curStatus? = some .runnable := by decide +kernel
set_option maxRecDepth 65536 in
theorem w_alone : about1.alone = true := by decide +kernel
set_option maxRecDepth 65536 in
theorem w_named : about1.methodNamed? x = some theMethod := by decide +kernel
set_option maxRecDepth 65536 in
theorem w_hears : about1.hears theMethod below0 = true := by decide +kernel
set_option maxRecDepth 65536 in
theorem w_ripe : about1.ripe theMethod args0 below0 = true := by decide +kernel
theorem w_running : about1.status = .running := rfl
set_option maxRecDepth 65536 in
theorem w_room : about1.hasRoom e0.platform room_1 = true :=
  launch0.hasRoom_least _ room_1 (by decide +kernel) (by decide +kernel) (by decide +kernel) (by decide +kernel) (by decide +kernel) (by decide +kernel)
theorem allAtoms_all (ts : List Jvm.Cond) (a : Array Jvm.Value) (st : Jvm.State) : (allAtoms ts).before a st = ts.all (fun c => c.before a st) := by
  induction ts with
  | nil => rfl
  | cons c t ih =>
    show (Jvm.Cond.and c (allAtoms t)).before a st = _
    rw [Jvm.Cond.before_and, ih, List.all_cons]
def words1 : List Jvm.Cond := Jvm.Cond.code x code maxLocals ret :: tables_1
/-- a 'code' word, met by the world's own term for the bytes: nothing is compared byte by byte -/
theorem code_word {y : MethodName} {bytes : ByteArray} {mx : Nat} {rt : Option FieldType} {a : Array Value} {s : State} {m : MethodId} {meth : Method} {c : Code} (h1 : s.methodNamed? y = some m) (h2 : s.vm.method? m = some meth) (h3 : meth.code = some c) (h4 : c.code = bytes)
    (h5 : (c.maxLocals == mx && c.exceptionTable.isEmpty && decide (c.maxStack ≤ mostOperands) && decide (meth.sig.returnType = rt) && !meth.locks && decide (parseMethodDescriptor y.desc = some meth.sig)) = true) : (Jvm.Cond.code y bytes mx rt).before a s = true := by
  simp only [Bool.and_eq_true, beq_iff_eq, Bool.not_eq_true', decide_eq_true_eq] at h5
  obtain ⟨⟨⟨⟨⟨g1, g2⟩, g3⟩, g4⟩, g5⟩, g6⟩ := h5
  simp [Cond.before, Cond.holds, Cond.value, h1, h2, h3, h4, g1, g2, g3, g4, g5, g6]
def isCode : Jvm.Cond → Bool
  | .code _ _ _ _ => true
  | _ => false
theorem all_split {L : List Jvm.Cond} {P : Jvm.Cond → Bool} (h1 : L.all (fun c => isCode c || P c) = true) (h2 : ∀ c ∈ L.filter isCode, P c = true) : L.all P = true := by
  refine List.all_eq_true.mpr fun c hc => ?_
  have h := List.all_eq_true.mp h1 c hc
  rcases Bool.eq_false_or_eq_true (isCode c) with hi | hi
  · exact h2 c (List.mem_filter.mpr ⟨hc, hi⟩)
  · simpa [hi] using h
set_option maxRecDepth 65536 in
theorem w_c0 : (Jvm.Cond.code x code maxLocals ret).before args0 about1 = true := code_word (m := ⟨1, 1⟩) (meth := k1m1) (c := k1c1) (by decide +kernel) rfl rfl rfl (by decide +kernel)
set_option maxRecDepth 65536 in
theorem w_c1 : (Jvm.Cond.code ({ cls := "java/lang/String", name := "<init>", desc := "([C)V" } : Jvm.MethodName) jdk_42_method_3_code (2 : Nat) (Option.none : Option Jvm.ClassFile.FieldType)).before args0 about1 = true := code_word (m := ⟨7, 1⟩) (meth := k7m1) (c := k7c1) (by decide +kernel) rfl rfl rfl (by decide +kernel)
set_option maxRecDepth 65536 in
theorem w_c2 : (Jvm.Cond.code ({ cls := "java/lang/String", name := "<init>", desc := "([CIILjava/lang/Void;)V" } : Jvm.MethodName) jdk_42_method_149_code (6 : Nat) (Option.none : Option Jvm.ClassFile.FieldType)).before args0 about1 = true := code_word (m := ⟨7, 4⟩) (meth := k7m4) (c := k7c4) (by decide +kernel) rfl rfl rfl (by decide +kernel)
set_option maxRecDepth 65536 in
theorem w_c3 : (Jvm.Cond.code ({ cls := "java/lang/Object", name := "<init>", desc := "()V" } : Jvm.MethodName) object_method_1_code (1 : Nat) (Option.none : Option Jvm.ClassFile.FieldType)).before args0 about1 = true := code_word (m := ⟨0, 0⟩) (meth := k0m0) (c := k0c0) (by decide +kernel) rfl rfl rfl (by decide +kernel)
set_option maxRecDepth 65536 in
theorem w_c4 : (Jvm.Cond.code ({ cls := "java/lang/StringUTF16", name := "compress", desc := "([CII)[B" } : Jvm.MethodName) jdk_52_method_16_code (6 : Nat) (Option.some (Jvm.ClassFile.FieldType.array Jvm.ClassFile.FieldType.byte))).before args0 about1 = true := code_word (m := ⟨8, 2⟩) (meth := k8m2) (c := k8c2) (by decide +kernel) rfl rfl rfl (by decide +kernel)
set_option maxRecDepth 65536 in
theorem w_c5 : (Jvm.Cond.code ({ cls := "java/lang/StringUTF16", name := "compress", desc := "([CI[BII)I" } : Jvm.MethodName) jdk_52_method_21_code (7 : Nat) (Option.some Jvm.ClassFile.FieldType.int)).before args0 about1 = true := code_word (m := ⟨8, 3⟩) (meth := k8m3) (c := k8c3) (by decide +kernel) rfl rfl rfl (by decide +kernel)
set_option maxRecDepth 65536 in
theorem w_c6 : (Jvm.Cond.code ({ cls := "java/lang/StringUTF16", name := "coderFromArrayLen", desc := "([BI)B" } : Jvm.MethodName) jdk_52_method_15_code (2 : Nat) (Option.some Jvm.ClassFile.FieldType.byte)).before args0 about1 = true := code_word (m := ⟨8, 1⟩) (meth := k8m1) (c := k8c1) (by decide +kernel) rfl rfl rfl (by decide +kernel)
set_option maxRecDepth 65536 in
theorem w_c7 : (Jvm.Cond.code ({ cls := "com/example/subscriptor/subscriptor/XmlSignature", name := "isSignature", desc := "(Ljava/lang/String;Ljava/lang/String;)Z" } : Jvm.MethodName) prog_154_method_3_code (2 : Nat) (Option.some Jvm.ClassFile.FieldType.boolean)).before args0 about1 = true := code_word (m := ⟨10, 0⟩) (meth := k10m0) (c := k10c0) (by decide +kernel) rfl rfl rfl (by decide +kernel)
set_option maxRecDepth 65536 in
theorem w_c8 : (Jvm.Cond.code ({ cls := "java/lang/String", name := "equals", desc := "(Ljava/lang/Object;)Z" } : Jvm.MethodName) jdk_42_method_66_code (3 : Nat) (Option.some Jvm.ClassFile.FieldType.boolean)).before args0 about1 = true := code_word (m := ⟨7, 2⟩) (meth := k7m2) (c := k7c2) (by decide +kernel) rfl rfl rfl (by decide +kernel)
set_option maxRecDepth 65536 in
theorem w_c9 : (Jvm.Cond.code ({ cls := "java/lang/StringLatin1", name := "equals", desc := "([B[B)Z" } : Jvm.MethodName) jdk_43_method_13_code (3 : Nat) (Option.some Jvm.ClassFile.FieldType.boolean)).before args0 about1 = true := code_word (m := ⟨11, 2⟩) (meth := k11m2) (c := k11c2) (by decide +kernel) rfl rfl rfl (by decide +kernel)
set_option maxRecDepth 65536 in
theorem w_c10 : (Jvm.Cond.code ({ cls := "java/lang/String", name := "valueOf", desc := "(C)Ljava/lang/String;" } : Jvm.MethodName) jdk_42_method_139_code (1 : Nat) (Option.some (Jvm.ClassFile.FieldType.object "java/lang/String"))).before args0 about1 = true := code_word (m := ⟨7, 3⟩) (meth := k7m3) (c := k7c3) (by decide +kernel) rfl rfl rfl (by decide +kernel)
set_option maxRecDepth 65536 in
theorem w_c11 : (Jvm.Cond.code ({ cls := "java/lang/StringLatin1", name := "canEncode", desc := "(C)Z" } : Jvm.MethodName) jdk_43_method_3_code (1 : Nat) (Option.some Jvm.ClassFile.FieldType.boolean)).before args0 about1 = true := code_word (m := ⟨11, 1⟩) (meth := k11m1) (c := k11c1) (by decide +kernel) rfl rfl rfl (by decide +kernel)
set_option maxRecDepth 65536 in
theorem w_c12 : (Jvm.Cond.code ({ cls := "java/lang/StringLatin1", name := "toBytes", desc := "(C)[B" } : Jvm.MethodName) jdk_43_method_46_code (1 : Nat) (Option.some (Jvm.ClassFile.FieldType.array Jvm.ClassFile.FieldType.byte))).before args0 about1 = true := code_word (m := ⟨11, 3⟩) (meth := k11m3) (c := k11c3) (by decide +kernel) rfl rfl rfl (by decide +kernel)
set_option maxRecDepth 65536 in
theorem w_c13 : (Jvm.Cond.code ({ cls := "java/lang/String", name := "<init>", desc := "([BB)V" } : Jvm.MethodName) jdk_42_method_151_code (3 : Nat) (Option.none : Option Jvm.ClassFile.FieldType)).before args0 about1 = true := code_word (m := ⟨7, 5⟩) (meth := k7m5) (c := k7c5) (by decide +kernel) rfl rfl rfl (by decide +kernel)
def codes1 : List Jvm.Cond := [Jvm.Cond.code x code maxLocals ret, Jvm.Cond.code ({ cls := "java/lang/String", name := "<init>", desc := "([C)V" } : Jvm.MethodName) jdk_42_method_3_code (2 : Nat) (Option.none : Option Jvm.ClassFile.FieldType), Jvm.Cond.code ({ cls := "java/lang/String", name := "<init>", desc := "([CIILjava/lang/Void;)V" } : Jvm.MethodName) jdk_42_method_149_code (6 : Nat) (Option.none : Option Jvm.ClassFile.FieldType), Jvm.Cond.code ({ cls := "java/lang/Object", name := "<init>", desc := "()V" } : Jvm.MethodName) object_method_1_code (1 : Nat) (Option.none : Option Jvm.ClassFile.FieldType), Jvm.Cond.code ({ cls := "java/lang/StringUTF16", name := "compress", desc := "([CII)[B" } : Jvm.MethodName) jdk_52_method_16_code (6 : Nat) (Option.some (Jvm.ClassFile.FieldType.array Jvm.ClassFile.FieldType.byte)), Jvm.Cond.code ({ cls := "java/lang/StringUTF16", name := "compress", desc := "([CI[BII)I" } : Jvm.MethodName) jdk_52_method_21_code (7 : Nat) (Option.some Jvm.ClassFile.FieldType.int), Jvm.Cond.code ({ cls := "java/lang/StringUTF16", name := "coderFromArrayLen", desc := "([BI)B" } : Jvm.MethodName) jdk_52_method_15_code (2 : Nat) (Option.some Jvm.ClassFile.FieldType.byte), Jvm.Cond.code ({ cls := "com/example/subscriptor/subscriptor/XmlSignature", name := "isSignature", desc := "(Ljava/lang/String;Ljava/lang/String;)Z" } : Jvm.MethodName) prog_154_method_3_code (2 : Nat) (Option.some Jvm.ClassFile.FieldType.boolean), Jvm.Cond.code ({ cls := "java/lang/String", name := "equals", desc := "(Ljava/lang/Object;)Z" } : Jvm.MethodName) jdk_42_method_66_code (3 : Nat) (Option.some Jvm.ClassFile.FieldType.boolean), Jvm.Cond.code ({ cls := "java/lang/StringLatin1", name := "equals", desc := "([B[B)Z" } : Jvm.MethodName) jdk_43_method_13_code (3 : Nat) (Option.some Jvm.ClassFile.FieldType.boolean), Jvm.Cond.code ({ cls := "java/lang/String", name := "valueOf", desc := "(C)Ljava/lang/String;" } : Jvm.MethodName) jdk_42_method_139_code (1 : Nat) (Option.some (Jvm.ClassFile.FieldType.object "java/lang/String")), Jvm.Cond.code ({ cls := "java/lang/StringLatin1", name := "canEncode", desc := "(C)Z" } : Jvm.MethodName) jdk_43_method_3_code (1 : Nat) (Option.some Jvm.ClassFile.FieldType.boolean), Jvm.Cond.code ({ cls := "java/lang/StringLatin1", name := "toBytes", desc := "(C)[B" } : Jvm.MethodName) jdk_43_method_46_code (1 : Nat) (Option.some (Jvm.ClassFile.FieldType.array Jvm.ClassFile.FieldType.byte)), Jvm.Cond.code ({ cls := "java/lang/String", name := "<init>", desc := "([BB)V" } : Jvm.MethodName) jdk_42_method_151_code (3 : Nat) (Option.none : Option Jvm.ClassFile.FieldType)]
set_option maxRecDepth 65536 in
theorem codes_eq : words1.filter isCode = codes1 := rfl
theorem w_codes : ∀ c ∈ words1.filter isCode, c.before args0 about1 = true := by
  rw [codes_eq]
  intro c hc
  simp only [codes1, List.mem_cons, List.not_mem_nil, or_false] at hc
  rcases hc with rfl | rfl | rfl | rfl | rfl | rfl | rfl | rfl | rfl | rfl | rfl | rfl | rfl | rfl
  · exact w_c0
  · exact w_c1
  · exact w_c2
  · exact w_c3
  · exact w_c4
  · exact w_c5
  · exact w_c6
  · exact w_c7
  · exact w_c8
  · exact w_c9
  · exact w_c10
  · exact w_c11
  · exact w_c12
  · exact w_c13
set_option maxRecDepth 65536 in
theorem w_t1 : (words1.take 24).all (fun c => isCode c || c.before args0 about1) = true := by decide +kernel
set_option maxRecDepth 65536 in
theorem w_t2 : ((words1.drop 24).take 24).all (fun c => isCode c || c.before args0 about1) = true := by decide +kernel
set_option maxRecDepth 65536 in
theorem w_t3 : ((words1.drop 24).drop 24).all (fun c => isCode c || c.before args0 about1) = true := by decide +kernel
theorem w_tables : (allAtoms (Jvm.Cond.code x code maxLocals ret :: tables_1)).before args0 about1 = true := by
  rw [allAtoms_all]
  show words1.all (fun c => c.before args0 about1) = true
  refine all_split ?_ w_codes
  rw [← List.take_append_drop 24 words1, List.all_append, w_t1, ← List.take_append_drop 24 (words1.drop 24), List.all_append, w_t2, w_t3]
  rfl
set_option maxRecDepth 65536 in
theorem w_rest : rest_1_c.before args0 about1 = true := by decide +kernel
set_option maxRecDepth 65536 in
theorem w_case : (Jvm.Cond.and given_1 narrow_1).before args0 about1 = true := by decide +kernel
set_option maxRecDepth 65536 in
theorem w_consts : constsHeld consts_1 about1 := Jvm.Lit.constsHeldB_iff.mp (by decide +kernel)
theorem w_applies : (headSpec (Jvm.Cond.code x code maxLocals ret :: tables_1) room_1).applies x e0.platform about1 = true :=
  (Spec.applies_iff w_frames).mpr ⟨w_running, w_runnable, w_alone, w_named, w_hears, w_ripe, w_room, w_tables⟩
theorem atStart : AtStart classFile x code maxLocals ret World_1 tables_1 room_1 Calls_1 rest_1 Pre_1 launch0 p0 e0 about1 theMethod args0 below0 :=
  ⟨lists_1, trivial, launch0.admits_env _ _ _, launch0.least_env, fairChoices_fair.cas, fairChoices_fair.clock, w_frames, w_args, w_heap, w_applies, ⟨w_consts, trivial⟩, w_rest, w_case⟩
end start1
theorem witness_1 : WitnessClaimed_1 := ⟨start1.p0, start1.e0, start1.about1, start1.theMethod, start1.args0, start1.below0, start1.atStart⟩
end Jvm.Pilot.@@N@@
