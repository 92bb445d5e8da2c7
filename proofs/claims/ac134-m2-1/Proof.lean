import JvmDerived
import JvmDerived.Pilot.@@N@@Statement
import JvmDerived.Pilot.@@N@@Code
set_option linter.unusedVariables false
set_option linter.unusedSimpArgs false
namespace Jvm.RoadKit
open Sem ClassFile Op Lib Jvm.Stand Jvm.Free Jvm.LawKit
section New
variable {p : Program} {l : Launch} {e : Env} {R : Room} {s : State} {m : MethodId} {args : Array Value} {below : List Frame} {meth : Method} {c : Code} {T : State} {locs : List Loc} {cells slots : Nat}
theorem retI (X : Stand p l e R s m args below meth c T locs cells slots) (hx : p.tables.exec = Jvm.exec) {pc : Nat} {Ls : Array Slot} {z : Int32} {rest : List Value} (hret : meth.sig.returnType = some .int) (hd : decode c.code pc = .ok (.ireturn, 1)) {fs : List Frame}
    (hl : ∀ (f : JFrame) (acts : List Action), f.method = m → f.locked = none → f.entered = [] → (doReturn e (T.setTop f) acts (some (.int z))).1 = T.setFrames fs) : Steps p.tables e below (T.setTop (mkF m pc Ls (.int z :: rest))) (T.setFrames fs) := by
  have hm' : T.vm.method? m = some meth := X.method'
  have hn : narrow .int (.int z) = .int z := rfl
  show Steps p.tables e below (T.setTop { method := m, pc := pc, locals := Ls, stack := _ :: rest, locked := none }) _
  jvm_step X.here [X.here.top, hx, hd, hm', hret, hn]
  first | (intro acts; rw [hl _ acts rfl rfl rfl]) | rw [hl _ _ rfl rfl rfl]
  exact Steps.refl _
end New
end Jvm.RoadKit
/- laws to paste: Road.backV, Road.eqW, Road.lenW, Road.chN, Road.codOf (cut by pick.py; bodies as the Statement names them) -/
namespace Jvm.Pilot.@@N@@
namespace StrChars
open Jvm Sem ClassFile Op Lib Jvm.Stand Jvm.Free.XT Jvm.Free.ALB Jvm.Free.JM Jvm.Free
open Jvm.Lib.Cold (StaticIs)
/-- a char array whose places are chars -/
def Ch (a : Addr) (A : Cell) (U : State) : Prop := Arr .char a A U ∧ Typed .char A
theorem Ch.mv {a : Addr} {A : Cell} {U U' : State} (h : Ch a A U) (hal : U.vm.Alike U'.vm) (hh : U'.heap = U.heap) : Ch a A U' := ⟨h.1.mv hal hh, h.2⟩
theorem Ch.keep {a : Addr} {A : Cell} {U U' : State} (h : Ch a A U) (hal : U.vm.Alike U'.vm) (hk : U'.heap[a]? = some A) : Ch a A U' := ⟨h.1.keep hal hk, h.2⟩
/-- what place i of a char[]'s cell holds -/
def cv (A : Cell) (i : Nat) : Int32 := match A.slots[i]? with | some (.int x) => x | _ => 0
theorem Ch.get {a : Addr} {A : Cell} {U : State} (h : Ch a A U) {i : Nat} (hi : i < A.slots.size) : A.slots[i]? = some (.int (cv A i)) := by
  have e := Array.getElem?_eq_getElem hi
  have f := h.2 i _ e
  unfold cv; rw [e]
  generalize A.slots[i] = v at f
  cases v <;> simp [fits] at f ⊢
/-- the byte that i2b leaves of a char -/
def lo8 (x : Int32) : Int32 := x.toInt8.toInt32
theorem fits_lo8 (y : Int32) : fits .byte (.int (lo8 y)) = true := by
  have h1 := y.toInt8.le_toInt
  have h2 := y.toInt8.toInt_lt
  simp only [lo8, fits, Bool.and_eq_true, decide_eq_true_eq, Int32.le_iff_toInt_le, Int8.toInt_toInt32, show (-128 : Int32).toInt = -128 from by decide, show (127 : Int32).toInt = 127 from by decide]
  omega
/-- A' is A but that each place j of lo .. hi - 1 holds f j -/
def Laid (A A' : Cell) (lo hi : Nat) (f : Nat → Value) : Prop := A'.cls = A.cls ∧ A'.vm = A.vm ∧ A'.slots.size = A.slots.size ∧ ∀ i, A'.slots[i]? = if lo ≤ i ∧ i < hi then some (f i) else A.slots[i]?
theorem Laid.zero (A : Cell) (lo : Nat) (f : Nat → Value) : Laid A A lo (lo + 0) f := ⟨rfl, rfl, rfl, fun i => by rw [if_neg (by omega)]⟩
theorem Laid.step {A Ak : Cell} {lo k : Nat} {f : Nat → Value} {v : Value} (h : Laid A Ak lo k f) (hlo : lo ≤ k) (hk : k < Ak.slots.size) (hv : v = f k) : Laid A (Ak.setSlot k v) lo (k + 1) f := by
  refine ⟨h.1, h.2.1, by simpa [Cell.setSlot] using h.2.2.1, fun i => ?_⟩
  by_cases e : k = i
  · subst e; rw [Cell.slots_setSlot_self v hk, if_pos (by omega), hv]
  · rw [Cell.slots_setSlot_ne v e, h.2.2.2 i]
    by_cases q : lo ≤ i ∧ i < k
    · rw [if_pos q, if_pos (by omega)]
    · rw [if_neg q, if_neg (by omega)]
def U16 : String := "java/lang/StringUTF16"
namespace Cmp5
def yN : MethodName := ⟨"java/lang/StringUTF16", "compress", "([CI[BII)I"⟩
abbrev yB : ByteArray := jdk_52_method_21_code
theorem d0 : decode yB 0 = .ok (.iconst 0, 1) := by decide +kernel
theorem d1 : decode yB 1 = .ok (.istore 5, 2) := by decide +kernel
theorem d3 : decode yB 3 = .ok (.iload 5, 2) := by decide +kernel
theorem d5 : decode yB 5 = .ok (.iload 4, 2) := by decide +kernel
theorem d7 : decode yB 7 = .ok (.if_icmp (.ge) 37, 3) := by decide +kernel
theorem d10 : decode yB 10 = .ok (.aload_n 0, 1) := by decide +kernel
theorem d11 : decode yB 11 = .ok (.iload_n 1, 1) := by decide +kernel
theorem d12 : decode yB 12 = .ok (.caload, 1) := by decide +kernel
theorem d13 : decode yB 13 = .ok (.istore 6, 2) := by decide +kernel
theorem d15 : decode yB 15 = .ok (.iload 6, 2) := by decide +kernel
theorem d17 : decode yB 17 = .ok (.sipush 255, 3) := by decide +kernel
theorem d20 : decode yB 20 = .ok (.if_icmp (.le) 6, 3) := by decide +kernel
theorem d26 : decode yB 26 = .ok (.aload_n 2, 1) := by decide +kernel
theorem d27 : decode yB 27 = .ok (.iload_n 3, 1) := by decide +kernel
theorem d28 : decode yB 28 = .ok (.iload 6, 2) := by decide +kernel
theorem d30 : decode yB 30 = .ok (.i2b, 1) := by decide +kernel
theorem d31 : decode yB 31 = .ok (.bastore, 1) := by decide +kernel
theorem d32 : decode yB 32 = .ok (.iinc 1 1, 3) := by decide +kernel
theorem d35 : decode yB 35 = .ok (.iinc 3 1, 3) := by decide +kernel
theorem d38 : decode yB 38 = .ok (.iinc 5 1, 3) := by decide +kernel
theorem d41 : decode yB 41 = .ok (.goto (-38), 3) := by decide +kernel
theorem d44 : decode yB 44 = .ok (.iload 4, 2) := by decide +kernel
theorem d46 : decode yB 46 = .ok (.ireturn, 1) := by decide +kernel
def site : List Cond := []
def tab : Cond := tabOf yN yB 7 (some .int) site
def P (b : Addr) (A : Cell) (d : Addr) (B : Cell) (o q len : Nat) (args : Array Value) (s : State) : Prop := args = #[.ref b, .int (Int32.ofNat o), .ref d, .int (Int32.ofNat q), .int (Int32.ofNat len)] ∧ Ch b A s ∧ Arr .byte d B s ∧ b ≠ d ∧ o + len ≤ A.slots.size ∧ q + len ≤ B.slots.size ∧ ∀ i, i < len → ¬ 255 < cv A (o + i)
def E (b : Addr) (A : Cell) (d : Addr) (B : Cell) (o q len : Nat) (r : Option Value) (s u : State) : Prop := r = some (.int (Int32.ofNat len)) ∧ ∃ B', Put d B' s u ∧ Laid B B' q (q + len) (fun j => Value.int (lo8 (cv A (o + (j - q)))))
/-- no char of the range above 255: len; the places written hold each char's low byte -/
theorem law (l : Launch) (b : Addr) (A : Cell) (d : Addr) (B : Cell) (o q len : Nat) : Law l yN 5 5 0 0 yB 7 (some .int) site (P b A d B o q len) (E b A d B o q len) (copyLocs d q len) 0 0 := by
  refine Law.of_walk (plainFor_of_name (by decide +kernel)) (by decide +kernel) (by decide +kernel) (by decide) (fun _ _ h => by rw [h.1]; rfl) (fun _ U U' hal hh h => ⟨h.1, h.2.1.mv hal hh, h.2.2.1.mv hal hh, h.2.2.2⟩) (fun r U U' V V' h1 hal h2 h => ⟨h.1, h.2.elim fun B' q => ⟨B', q.1.mv h1 h2, q.2⟩⟩) ?_
  intro p e s m args below meth c s₁ X0 hexec hbytes hml hret hlk hnm hown hh0 W hP
  obtain ⟨rfl, hA, hB, hne, l1, l2, hp⟩ := hP
  have c1 : Steps p.tables e below (s₁.setTop (entryFrame m #[.ref b, .int (Int32.ofNat o), .ref d, .int (Int32.ofNat q), .int (Int32.ofNat len)] 7)) (s₁.setTop (mkF m 0 #[.val (.ref b), .val (.int (Int32.ofNat o)), .val (.ref d), .val (.int (Int32.ofNat q)), .val (.int (Int32.ofNat len)), .unset, .unset] [])) := entry rfl
  have hA0 := hA.1.mv X0.warmed.alike hh0
  have hB0 := hB.mv X0.warmed.alike hh0
  have a31 := hA.1.2.2.2
  have c2 : Steps p.tables e below (s₁.setTop (entryFrame m #[.ref b, .int (Int32.ofNat o), .ref d, .int (Int32.ofNat q), .int (Int32.ofNat len)] 7)) (s₁.setTop (mkF m 3 #[.val (.ref b), .val (.int (Int32.ofNat o)), .val (.ref d), .val (.int (Int32.ofNat q)), .val (.int (Int32.ofNat len)), .val (.int 0), .unset] [])) := c1.trans (by
    refine iconstV X0.here hexec rfl 0 (hb hbytes d0) (by decide) ?_
    refine XS.istore X0.here hexec rfl (hb hbytes d1) rfl rfl ?_
    exact Steps.refl _)
  have loop : ∀ (r i : Nat), i + r = len → ∀ (z : Slot), (z = .unset ∨ ∃ w, z = .val w ∧ w.category = 1) → ∀ (Tl : State) (Bk : Cell), Stand p l e { frames := 0, locals := 0, cells := 0, slots := 0 } s m #[.ref b, .int (Int32.ofNat o), .ref d, .int (Int32.ofNat q), .int (Int32.ofNat len)] below meth c Tl ([] ++ copyLocs d q i) 0 0 → Put d Bk s₁ Tl → Laid B Bk q (q + i) (fun j => Value.int (lo8 (cv A (o + (j - q))))) →
      Steps p.tables e below (s₁.setTop (entryFrame m #[.ref b, .int (Int32.ofNat o), .ref d, .int (Int32.ofNat q), .int (Int32.ofNat len)] 7)) (Tl.setTop (mkF m 3 #[.val (.ref b), .val (.int (Int32.ofNat (o + i))), .val (.ref d), .val (.int (Int32.ofNat (q + i))), .val (.int (Int32.ofNat len)), .val (.int (Int32.ofNat i)), z] [])) → ∃ (T' : State) (B' : Cell) (z' : Slot), Stand p l e { frames := 0, locals := 0, cells := 0, slots := 0 } s m #[.ref b, .int (Int32.ofNat o), .ref d, .int (Int32.ofNat q), .int (Int32.ofNat len)] below meth c T' ([] ++ copyLocs d q len) 0 0 ∧ Put d B' s₁ T' ∧ Laid B B' q (q + len) (fun j => Value.int (lo8 (cv A (o + (j - q))))) ∧
      Steps p.tables e below (s₁.setTop (entryFrame m #[.ref b, .int (Int32.ofNat o), .ref d, .int (Int32.ofNat q), .int (Int32.ofNat len)] 7)) (T'.setTop (mkF m 3 #[.val (.ref b), .val (.int (Int32.ofNat (o + len))), .val (.ref d), .val (.int (Int32.ofNat (q + len))), .val (.int (Int32.ofNat len)), .val (.int (Int32.ofNat len)), z'] [])) := by
    intro r
    induction r with
    | zero =>
      intro i hi z hz Tl Bk Xl pl fl cl
      have hil : i = len := by omega
      rw [hil] at Xl fl cl
      exact ⟨Tl, Bk, z, Xl, pl, fl, cl⟩
    | succ r ih =>
      intro i hi z hz Tl Bk Xl pl fl cl
      have all := X0.warmed.alike.symm.trans Xl.warmed.alike
      have hAl := hA0.keep all (pl.other hne hA0.1)
      have hBk := hB0.like all pl.1 fl.1 fl.2.1 fl.2.2.1
      have hlt : q + i < Bk.slots.size := by rw [fl.2.2.1]; omega
      have c3 : Steps p.tables e below (s₁.setTop (entryFrame m #[.ref b, .int (Int32.ofNat o), .ref d, .int (Int32.ofNat q), .int (Int32.ofNat len)] 7)) (Tl.setTop (mkF m 12 #[.val (.ref b), .val (.int (Int32.ofNat (o + i))), .val (.ref d), .val (.int (Int32.ofNat (q + i))), .val (.int (Int32.ofNat len)), .val (.int (Int32.ofNat i)), z] [.int (Int32.ofNat (o + i)), .ref b])) := cl.trans (by
        refine XS.iload Xl.here hexec rfl (hb hbytes d3) rfl ?_
        refine XS.iload Xl.here hexec rfl (hb hbytes d5) rfl ?_
        refine XS.icmpNo Xl.here hexec rfl (hb hbytes d7) rfl (ii_ge_f (lt32 (by omega) (by omega))) ?_
        refine XS.aloadN Xl.here hexec rfl (hb hbytes d10) rfl rfl ?_
        refine XS.iloadN Xl.here hexec rfl (hb hbytes d11) rfl ?_
        exact Steps.refl _)
      have c4 : Steps p.tables e below (s₁.setTop (entryFrame m #[.ref b, .int (Int32.ofNat o), .ref d, .int (Int32.ofNat q), .int (Int32.ofNat len)] 7)) (Tl.setTop (mkF m 13 #[.val (.ref b), .val (.int (Int32.ofNat (o + i))), .val (.ref d), .val (.int (Int32.ofNat (q + i))), .val (.int (Int32.ofNat len)), .val (.int (Int32.ofNat i)), z] [.int (cv A (o + i))])) := c3.trans (by
        refine Xl.aget hexec hAl rfl (hA.get (i := o + i) (by omega)) rfl rfl (hb hbytes d12) ?_
        exact Steps.refl _)
      have c5 : Steps p.tables e below (s₁.setTop (entryFrame m #[.ref b, .int (Int32.ofNat o), .ref d, .int (Int32.ofNat q), .int (Int32.ofNat len)] 7)) (Tl.setTop (mkF m 15 #[.val (.ref b), .val (.int (Int32.ofNat (o + i))), .val (.ref d), .val (.int (Int32.ofNat (q + i))), .val (.int (Int32.ofNat len)), .val (.int (Int32.ofNat i)), .val (.int (cv A (o + i)))] [])) := c4.trans (by
        refine XS.istoreS Xl.here hexec rfl (hb hbytes d13) rfl rfl hz ?_
        exact Steps.refl _)
      have c6 : Steps p.tables e below (s₁.setTop (entryFrame m #[.ref b, .int (Int32.ofNat o), .ref d, .int (Int32.ofNat q), .int (Int32.ofNat len)] 7)) (Tl.setTop (mkF m 31 #[.val (.ref b), .val (.int (Int32.ofNat (o + i))), .val (.ref d), .val (.int (Int32.ofNat (q + i))), .val (.int (Int32.ofNat len)), .val (.int (Int32.ofNat i)), .val (.int (cv A (o + i)))] [.int (lo8 (cv A (o + i))), .int (Int32.ofNat (q + i)), .ref d])) := c5.trans (by
        refine XS.iload Xl.here hexec rfl (hb hbytes d15) rfl ?_
        refine sipushV Xl.here hexec rfl 255 (hb hbytes d17) (by decide) ?_
        refine XS.icmpYes Xl.here hexec rfl (pc0 := 20) rfl (hb hbytes d20) rfl (ii_le_t (hp i (by omega))) (by decide) rfl ?_
        refine XS.aloadN Xl.here hexec rfl (hb hbytes d26) rfl rfl ?_
        refine XS.iloadN Xl.here hexec rfl (hb hbytes d27) rfl ?_
        refine XS.iload Xl.here hexec rfl (hb hbytes d28) rfl ?_
        refine i2b Xl.here hexec rfl (hb hbytes d30) rfl ?_
        exact Steps.refl _)
      obtain ⟨T7, X7, p7, st7⟩ := Xl.aput hexec hBk rfl hlt rfl (fits_lo8 (cv A (o + i))) (g := (mkF m 31 #[.val (.ref b), .val (.int (Int32.ofNat (o + i))), .val (.ref d), .val (.int (Int32.ofNat (q + i))), .val (.int (Int32.ofNat len)), .val (.int (Int32.ofNat i)), .val (.int (cv A (o + i)))] [.int (lo8 (cv A (o + i))), .int (Int32.ofNat (q + i)), .ref d])) rfl (rest := []) rfl (hb hbytes d31)
      have c8 : Steps p.tables e below (s₁.setTop (entryFrame m #[.ref b, .int (Int32.ofNat o), .ref d, .int (Int32.ofNat q), .int (Int32.ofNat len)] 7)) (T7.setTop (mkF m 32 #[.val (.ref b), .val (.int (Int32.ofNat (o + i))), .val (.ref d), .val (.int (Int32.ofNat (q + i))), .val (.int (Int32.ofNat len)), .val (.int (Int32.ofNat i)), .val (.int (cv A (o + i)))] [])) := c6.trans (st7 _ (Steps.refl _))
      have c9 : Steps p.tables e below (s₁.setTop (entryFrame m #[.ref b, .int (Int32.ofNat o), .ref d, .int (Int32.ofNat q), .int (Int32.ofNat len)] 7)) (T7.setTop (mkF m 3 #[.val (.ref b), .val (.int (Int32.ofNat (o + i) + 1)), .val (.ref d), .val (.int (Int32.ofNat (q + i) + 1)), .val (.int (Int32.ofNat len)), .val (.int (Int32.ofNat i + 1)), .val (.int (cv A (o + i)))] [])) := c8.trans (by
        refine iincV X7.here hexec rfl 1 (hb hbytes d32) (by decide) rfl rfl ?_
        refine iincV X7.here hexec rfl 1 (hb hbytes d35) (by decide) rfl rfl ?_
        refine iincV X7.here hexec rfl 1 (hb hbytes d38) (by decide) rfl rfl ?_
        refine XS.goto X7.here hexec rfl (pc0 := 41) rfl (hb hbytes d41) (by decide) rfl ?_
        exact Steps.refl _)
      have c10 : Steps p.tables e below (s₁.setTop (entryFrame m #[.ref b, .int (Int32.ofNat o), .ref d, .int (Int32.ofNat q), .int (Int32.ofNat len)] 7)) (T7.setTop (mkF m 3 #[.val (.ref b), .val (.int (Int32.ofNat (o + (i + 1)))), .val (.ref d), .val (.int (Int32.ofNat (q + (i + 1)))), .val (.int (Int32.ofNat len)), .val (.int (Int32.ofNat (i + 1))), .val (.int (cv A (o + i)))] [])) := by
        have := c9
        rw [succ32, succ32, succ32] at this
        exact this
      exact ih (i + 1) (by omega) _ (Or.inr ⟨_, rfl, rfl⟩) T7 _ (by rw [copyLocs_step, ← List.append_assoc]; exact X7) (pl.trans p7) (fl.step (by omega) hlt (by simp)) c10
  obtain ⟨T9, B9, z9, X9, p9, f9, g9⟩ := loop len 0 (by omega) .unset (Or.inl rfl) s₁ B (by simpa [copyLocs] using X0) ⟨hB0.1, fun _ _ => rfl, rfl⟩ (Laid.zero _ _ _) c2
  have c11 : Steps p.tables e below (s₁.setTop (entryFrame m #[.ref b, .int (Int32.ofNat o), .ref d, .int (Int32.ofNat q), .int (Int32.ofNat len)] 7)) (T9.setTop (mkF m 46 #[.val (.ref b), .val (.int (Int32.ofNat (o + len))), .val (.ref d), .val (.int (Int32.ofNat (q + len))), .val (.int (Int32.ofNat len)), .val (.int (Int32.ofNat len)), z9] [.int (Int32.ofNat len)])) := g9.trans (by
    refine XS.iload X9.here hexec rfl (hb hbytes d3) rfl ?_
    refine XS.iload X9.here hexec rfl (hb hbytes d5) rfl ?_
    refine XS.icmpYes X9.here hexec rfl (pc0 := 7) rfl (hb hbytes d7) rfl (ii_ge_t (nlt32 (by omega) (Nat.le_refl _))) (by decide) rfl ?_
    refine XS.iload X9.here hexec rfl (hb hbytes d44) rfl ?_
    exact Steps.refl _)
  exact ⟨T9, some (.int (Int32.ofNat len)), _, _, _, X9, by simp, rfl, rfl, (fun h => by cases h), ⟨rfl, B9, p9.from hh0, f9⟩, fun fs hl => c11.trans (X9.ireturnOut hexec hret rfl (Or.inl rfl) (hb hbytes d46) hl)⟩
end Cmp5
namespace Cmp3
def yN : MethodName := ⟨"java/lang/StringUTF16", "compress", "([CII)[B"⟩
abbrev yB : ByteArray := jdk_52_method_16_code
theorem d0 : decode yB 0 = .ok (.iload_n 2, 1) := by decide +kernel
theorem d1 : decode yB 1 = .ok (.newarray .byte, 2) := by decide +kernel
theorem d3 : decode yB 3 = .ok (.astore_n 3, 1) := by decide +kernel
theorem d4 : decode yB 4 = .ok (.aload_n 0, 1) := by decide +kernel
theorem d5 : decode yB 5 = .ok (.iload_n 1, 1) := by decide +kernel
theorem d6 : decode yB 6 = .ok (.aload_n 3, 1) := by decide +kernel
theorem d7 : decode yB 7 = .ok (.iconst 0, 1) := by decide +kernel
theorem d8 : decode yB 8 = .ok (.iload_n 2, 1) := by decide +kernel
theorem d9 : decode yB 9 = .ok (.invokestatic 115, 3) := by decide +kernel
theorem d12 : decode yB 12 = .ok (.istore 4, 2) := by decide +kernel
theorem d14 : decode yB 14 = .ok (.iload 4, 2) := by decide +kernel
theorem d16 : decode yB 16 = .ok (.iload_n 2, 1) := by decide +kernel
theorem d17 : decode yB 17 = .ok (.if_icmp (.eq) 40, 3) := by decide +kernel
theorem d57 : decode yB 57 = .ok (.aload_n 3, 1) := by decide +kernel
theorem d58 : decode yB 58 = .ok (.areturn, 1) := by decide +kernel
def site : List Cond := [.arrayClass .byte, Cmp5.tab] ++ staticW U16 115 Cmp5.yN
def tab : Cond := tabOf yN yB 6 (some (.array .byte)) site
def P (b : Addr) (A : Cell) (o len : Nat) (args : Array Value) (s : State) : Prop := args = #[.ref b, .int (Int32.ofNat o), .int (Int32.ofNat len)] ∧ Ch b A s ∧ o + len ≤ A.slots.size ∧ len ≤ 536870912 ∧ ∀ i, i < len → ¬ 255 < cv A (o + i)
def E (b : Addr) (A : Cell) (o len : Nat) (r : Option Value) (s u : State) : Prop := NewArr .byte "[B" len (fun j => .int (lo8 (cv A (o + j)))) r s u ∧ u.heap.size = s.heap.size + 1
/-- no char of the range above 255: a new byte[] of their low bytes -/
theorem law (l : Launch) (b : Addr) (A : Cell) (o len : Nat) : Law l yN 3 3 1 18 yB 6 (some (.array .byte)) site (P b A o len) (E b A o len) [] 1 len := by
  refine Law.of_walk (plainFor_of_name (by decide +kernel)) (by decide +kernel) (by decide +kernel) (by decide) (fun _ _ h => by rw [h.1]; rfl) (fun _ U U' hal hh h => ⟨h.1, h.2.1.mv hal hh, h.2.2⟩) (fun r U U' V V' h1 hal h2 h => ⟨NewArr.mv r U U' V V' h1 hal h2 h.1, by rw [h1, h2]; exact h.2⟩) ?_
  intro p e s m args below meth c s₁ X0 hexec hbytes hml hret hlk hnm hown hh0 W hP
  obtain ⟨rfl, hA, l1, l2, hp⟩ := hP
  have a31 := hA.1.2.2.2
  have c1 : Steps p.tables e below (s₁.setTop (entryFrame m #[.ref b, .int (Int32.ofNat o), .int (Int32.ofNat len)] 6)) (s₁.setTop (mkF m 0 #[.val (.ref b), .val (.int (Int32.ofNat o)), .val (.int (Int32.ofNat len)), .unset, .unset, .unset] [])) := entry rfl
  have c2 : Steps p.tables e below (s₁.setTop (entryFrame m #[.ref b, .int (Int32.ofNat o), .int (Int32.ofNat len)] 6)) (s₁.setTop (mkF m 1 #[.val (.ref b), .val (.int (Int32.ofNat o)), .val (.int (Int32.ofNat len)), .unset, .unset, .unset] [.int (Int32.ofNat len)])) := c1.trans (by
    refine XS.iloadN X0.here hexec rfl (hb hbytes d0) rfl ?_
    exact Steps.refl _)
  obtain ⟨T3, B3, X3, ba3, bs3, bv3, bh3, bf3, st3⟩ := X0.anew hexec (atype := .byte) (wk W (.arrayClass .byte)) rfl (by show len * 1 ≤ _; omega) (by omega) (g := (mkF m 1 #[.val (.ref b), .val (.int (Int32.ofNat o)), .val (.int (Int32.ofNat len)), .unset, .unset, .unset] [.int (Int32.ofNat len)])) rfl (hb hbytes d1) (rest := []) rfl (Nat.le_refl _) (by show 0 + len ≤ len; omega)
  rw [hh0] at ba3 st3
  have kp3 : XT.Kept s T3 := (XT.Kept.of_eq hh0).push bh3
  have hA3 := hA.keep X3.warmed.alike (kp3 _ _ hA.1.1)
  have hne : b ≠ s.heap.size := hA.1.ne
  have c4 : Steps p.tables e below (s₁.setTop (entryFrame m #[.ref b, .int (Int32.ofNat o), .int (Int32.ofNat len)] 6)) (T3.setTop (mkF m 3 #[.val (.ref b), .val (.int (Int32.ofNat o)), .val (.int (Int32.ofNat len)), .unset, .unset, .unset] [.ref s.heap.size])) := c2.trans (st3 _ (Steps.refl _))
  have c5 : Steps p.tables e below (s₁.setTop (entryFrame m #[.ref b, .int (Int32.ofNat o), .int (Int32.ofNat len)] 6)) (T3.setTop (mkF m 9 #[.val (.ref b), .val (.int (Int32.ofNat o)), .val (.int (Int32.ofNat len)), .val (.ref s.heap.size), .unset, .unset] [.int (Int32.ofNat len), .int 0, .ref s.heap.size, .int (Int32.ofNat o), .ref b])) := c4.trans (by
    refine XS.astoreN X3.here hexec rfl (hb hbytes d3) rfl rfl rfl ?_
    refine XS.aloadN X3.here hexec rfl (hb hbytes d4) rfl rfl ?_
    refine XS.iloadN X3.here hexec rfl (hb hbytes d5) rfl ?_
    refine XS.aloadN X3.here hexec rfl (hb hbytes d6) rfl rfl ?_
    refine iconstV X3.here hexec rfl 0 (hb hbytes d7) (by decide) ?_
    refine XS.iloadN X3.here hexec rfl (hb hbytes d8) rfl ?_
    exact Steps.refl _)
  obtain ⟨v6, T6, X6, E6, g6⟩ := X3.callS hexec (Cmp5.law l b A s.heap.size B3 o 0 len) hown (wks W (staticW U16 115 Cmp5.yN)) (wk W Cmp5.tab) (W := 0) (Nat.le_of_ble_eq_true rfl) (Nat.le_of_ble_eq_true rfl) (Nat.le_refl _) (by show 0 + len + 0 ≤ len; omega) (g := (mkF m 9 #[.val (.ref b), .val (.int (Int32.ofNat o)), .val (.int (Int32.ofNat len)), .val (.ref s.heap.size), .unset, .unset] [.int (Int32.ofNat len), .int (Int32.ofNat 0), .ref s.heap.size, .int (Int32.ofNat o), .ref b])) rfl (by rw [hml]; rfl) c5 (argsL := [.ref b, .int (Int32.ofNat o), .ref s.heap.size, .int (Int32.ofNat 0), .int (Int32.ofNat len)]) (rest := []) rfl rfl (by show 2 * 0 + 0 ≤ _; decide) (hb hbytes d9) (⟨rfl, hA3, ba3, hne, l1, by rw [bs3]; simp, hp⟩)
  obtain ⟨rfl, B6, p6, f6⟩ := E6
  have c7 : Steps p.tables e below (s₁.setTop (entryFrame m #[.ref b, .int (Int32.ofNat o), .int (Int32.ofNat len)] 6)) (T6.setTop (mkF m 12 #[.val (.ref b), .val (.int (Int32.ofNat o)), .val (.int (Int32.ofNat len)), .val (.ref s.heap.size), .unset, .unset] [.int (Int32.ofNat len)])) := g6
  have c8 : Steps p.tables e below (s₁.setTop (entryFrame m #[.ref b, .int (Int32.ofNat o), .int (Int32.ofNat len)] 6)) (T6.setTop (mkF m 58 #[.val (.ref b), .val (.int (Int32.ofNat o)), .val (.int (Int32.ofNat len)), .val (.ref s.heap.size), .val (.int (Int32.ofNat len)), .unset] [.ref s.heap.size])) := c7.trans (by
    refine XS.istore X6.here hexec rfl (hb hbytes d12) rfl rfl ?_
    refine XS.iload X6.here hexec rfl (hb hbytes d14) rfl ?_
    refine XS.iloadN X6.here hexec rfl (hb hbytes d16) rfl ?_
    refine XS.icmpYes X6.here hexec rfl (pc0 := 17) rfl (hb hbytes d17) rfl (ii_eq_t rfl) (by decide) rfl ?_
    refine XS.aloadN X6.here hexec rfl (hb hbytes d57) rfl rfl ?_
    exact Steps.refl _)
  have X8 := X6.wide (L' := []) (cells' := 1) (slots' := len) (fun x hx hlt => by
    simp only [List.nil_append, copyLocs, List.mem_map, List.mem_range] at hx
    obtain ⟨i, -, rfl⟩ := hx
    exact absurd hlt (Nat.lt_irrefl _)) (Nat.le_refl _) (by omega)
  exact ⟨T6, some (.ref s.heap.size), _, _, _, X8, rfl, rfl, rfl, (fun h => by cases h), ⟨⟨rfl, B6, ba3.like (X3.warmed.alike.symm.trans X6.warmed.alike) p6.1 f6.1 f6.2.1 f6.2.2.1, f6.2.1.trans bv3, by rw [X6.warmed.alike.findClass, f6.1]; exact bf3, by rw [f6.2.2.1, bs3]; simp, fun j hj => by rw [f6.2.2.2 j, if_pos (by omega)]; rfl, kp3.put p6 (Nat.le_refl _)⟩, by rw [p6.2.2, bh3, hh0]; simp⟩, fun fs hl => c8.trans (X8.areturnOut hexec rfl hret rfl (hb hbytes d58) hl)⟩
end Cmp3
namespace CodL
def yN : MethodName := ⟨"java/lang/StringUTF16", "coderFromArrayLen", "([BI)B"⟩
abbrev yB : ByteArray := jdk_52_method_15_code
theorem d0 : decode yB 0 = .ok (.iload_n 1, 1) := by decide +kernel
theorem d1 : decode yB 1 = .ok (.aload_n 0, 1) := by decide +kernel
theorem d2 : decode yB 2 = .ok (.arraylength, 1) := by decide +kernel
theorem d3 : decode yB 3 = .ok (.isub, 1) := by decide +kernel
theorem d4 : decode yB 4 = .ok (.bipush 31, 2) := by decide +kernel
theorem d6 : decode yB 6 = .ok (.iushr, 1) := by decide +kernel
theorem d7 : decode yB 7 = .ok (.i2b, 1) := by decide +kernel
theorem d8 : decode yB 8 = .ok (.ireturn, 1) := by decide +kernel
def site : List Cond := []
def tab : Cond := tabOf yN yB 2 (some .byte) site
def P (d : Addr) (B : Cell) (args : Array Value) (s : State) : Prop := args = #[.ref d, .int (Int32.ofNat B.slots.size)] ∧ Arr .byte d B s
def E (r : Option Value) (s u : State) : Prop := XT.PureE (some (.int 0)) r s u
/-- an array as long as the number of chars: LATIN1 -/
theorem law (l : Launch) (d : Addr) (B : Cell) : Law l yN 2 2 0 0 yB 2 (some .byte) site (P d B) E [] 0 0 := by
  refine Law.of_walk (plainFor_of_name (by decide +kernel)) (by decide +kernel) (by decide +kernel) (by decide) (fun _ _ h => by rw [h.1]; rfl) (fun _ U U' hal hh h => ⟨h.1, h.2.mv hal hh⟩) (fun r U U' V V' h1 hal h2 h => XT.PureE.mv r U U' V V' h1 hal h2 h) ?_
  intro p e s m args below meth c s₁ X0 hexec hbytes hml hret hlk hnm hown hh0 W hP
  obtain ⟨rfl, hB⟩ := hP
  have hB0 := hB.mv X0.warmed.alike hh0
  have c1 : Steps p.tables e below (s₁.setTop (entryFrame m #[.ref d, .int (Int32.ofNat B.slots.size)] 2)) (s₁.setTop (mkF m 0 #[.val (.ref d), .val (.int (Int32.ofNat B.slots.size))] [])) := entry rfl
  have c2 : Steps p.tables e below (s₁.setTop (entryFrame m #[.ref d, .int (Int32.ofNat B.slots.size)] 2)) (s₁.setTop (mkF m 2 #[.val (.ref d), .val (.int (Int32.ofNat B.slots.size))] [.ref d, .int (Int32.ofNat B.slots.size)])) := c1.trans (by
    refine XS.iloadN X0.here hexec rfl (hb hbytes d0) rfl ?_
    refine XS.aloadN X0.here hexec rfl (hb hbytes d1) rfl rfl ?_
    exact Steps.refl _)
  have c3 : Steps p.tables e below (s₁.setTop (entryFrame m #[.ref d, .int (Int32.ofNat B.slots.size)] 2)) (s₁.setTop (mkF m 8 #[.val (.ref d), .val (.int (Int32.ofNat B.slots.size))] [.int (lo8 (ushr (Int32.ofNat B.slots.size - Int32.ofNat B.slots.size) 31))])) := c2.trans (by
    refine X0.alen hexec hB0 rfl rfl (hb hbytes d2) ?_
    refine XS.isub X0.here hexec rfl (hb hbytes d3) rfl ?_
    refine bipushV X0.here hexec rfl 31 (hb hbytes d4) (by decide) ?_
    refine iushr X0.here hexec rfl (hb hbytes d6) rfl ?_
    refine i2b X0.here hexec rfl (hb hbytes d7) rfl ?_
    exact Steps.refl _)
  have e0 : lo8 (ushr (Int32.ofNat B.slots.size - Int32.ofNat B.slots.size) 31) = 0 := by rw [Int32.sub_self]; decide
  rw [e0] at c3
  exact ⟨s₁, some (.int 0), _, _, _, X0, rfl, rfl, rfl, (fun h => by cases h), ⟨rfl, hh0⟩, fun fs hl => c3.trans (X0.ireturnOut hexec hret rfl (Or.inr (Or.inr (Or.inl rfl))) (hb hbytes d8) hl)⟩
end CodL
/-- the String at a is Latin-1 over a new byte[] (the heap's one new cell): the low bytes of the len chars of A from o on; every cell but a is kept -/
def Got (a : Addr) (D : Cell) (fV fC : Field) (A : Cell) (o len : Nat) (r : Option Value) (s u : State) : Prop := r = none ∧ ∃ D' V : Cell, Blank "java/lang/String" a D' u ∧ Same D D' [fV.slot, fC.slot] ∧ D'.slots[fV.slot]? = some (.ref s.heap.size) ∧ D'.slots[fC.slot]? = some (.int 0) ∧ Arr .byte s.heap.size V u ∧ V.vm = .none ∧ u.vm.findClass "[B" = some V.cls ∧ V.slots.size = len ∧ (∀ j, j < len → V.slots[j]? = some (.int (lo8 (cv A (o + j))))) ∧ (∀ (y : Addr) (c : Cell), y ≠ a → s.heap[y]? = some c → u.heap[y]? = some c) ∧ u.heap.size = s.heap.size + 1
theorem Got.mv {a : Addr} {D A : Cell} {fV fC : Field} {o len : Nat} : ∀ r (U U' V V' : State), U'.heap = U.heap → V.vm.Alike V'.vm → V'.heap = V.heap → Got a D fV fC A o len r U V → Got a D fV fC A o len r U' V' :=
  fun r U U' V V' h1 hal h2 ⟨e0, D', X, a1, a2, a3, a4, a5, a6, a7, a8, a9, a10, a11⟩ => ⟨e0, D', X, a1.mv hal h2, a2, by rw [h1]; exact a3, a4, by rw [h1]; exact a5.mv hal h2, a6, by rw [hal.findClass]; exact a7, a8, a9, by rw [h1, h2]; exact a10, by rw [h1, h2]; exact a11⟩
namespace New4
def yN : MethodName := ⟨"java/lang/String", "<init>", "([CIILjava/lang/Void;)V"⟩
abbrev yB : ByteArray := jdk_42_method_149_code
theorem d0 : decode yB 0 = .ok (.aload_n 0, 1) := by decide +kernel
theorem d1 : decode yB 1 = .ok (.invokespecial 1, 3) := by decide +kernel
theorem d4 : decode yB 4 = .ok (.iload_n 3, 1) := by decide +kernel
theorem d5 : decode yB 5 = .ok (.ifCond (.ne) 22, 3) := by decide +kernel
theorem d27 : decode yB 27 = .ok (.getstatic 38, 3) := by decide +kernel
theorem d30 : decode yB 30 = .ok (.ifCond (.eq) 28, 3) := by decide +kernel
theorem d33 : decode yB 33 = .ok (.aload_n 1, 1) := by decide +kernel
theorem d34 : decode yB 34 = .ok (.iload_n 2, 1) := by decide +kernel
theorem d35 : decode yB 35 = .ok (.iload_n 3, 1) := by decide +kernel
theorem d36 : decode yB 36 = .ok (.invokestatic 177, 3) := by decide +kernel
theorem d39 : decode yB 39 = .ok (.astore 5, 2) := by decide +kernel
theorem d41 : decode yB 41 = .ok (.aload_n 0, 1) := by decide +kernel
theorem d42 : decode yB 42 = .ok (.aload 5, 2) := by decide +kernel
theorem d44 : decode yB 44 = .ok (.iload_n 3, 1) := by decide +kernel
theorem d45 : decode yB 45 = .ok (.invokestatic 47, 3) := by decide +kernel
theorem d48 : decode yB 48 = .ok (.putfield 15, 3) := by decide +kernel
theorem d51 : decode yB 51 = .ok (.aload_n 0, 1) := by decide +kernel
theorem d52 : decode yB 52 = .ok (.aload 5, 2) := by decide +kernel
theorem d54 : decode yB 54 = .ok (.putfield 9, 3) := by decide +kernel
theorem d57 : decode yB 57 = .ok (.return_, 1) := by decide +kernel
def site : List Cond := [.fieldLink "java/lang/String" 38 "java/lang/String" "COMPACT_STRINGS" "Z", Cmp3.tab, CodL.tab, .laysFinal "java/lang/String" "java/lang/String" "value" "[B", .fieldLink "java/lang/String" 9 "java/lang/String" "value" "[B", .laysFinal "java/lang/String" "java/lang/String" "coder" "B", .fieldLink "java/lang/String" 15 "java/lang/String" "coder" "B"] ++ objW "java/lang/String" 1 ++ staticW "java/lang/String" 177 Cmp3.yN ++ staticW "java/lang/String" 47 CodL.yN
def tab : Cond := tabOf yN yB 6 none site
def P (a : Addr) (D : Cell) (fV fC : Field) (b : Addr) (A : Cell) (z : Int32) (o len : Nat) (args : Array Value) (s : State) : Prop := args = #[.ref a, .ref b, .int (Int32.ofNat o), .int (Int32.ofNat len), .null] ∧ Blank "java/lang/String" a D s ∧ Found "java/lang/String" "value" "[B" fV s ∧ Found "java/lang/String" "coder" "B" fC s ∧ Ch b A s ∧ StaticIs s "java/lang/String" "COMPACT_STRINGS" "Z" (.int z) ∧ ¬ z = 0 ∧ 0 < len ∧ o + len ≤ A.slots.size ∧ len ≤ 536870912 ∧ ∀ i, i < len → ¬ 255 < cv A (o + i)
def E (a : Addr) (D : Cell) (fV fC : Field) (A : Cell) (o len : Nat) (r : Option Value) (s u : State) : Prop := Got a D fV fC A o len r s u
/-- len > 0, no char of the range above 255: a Latin-1 String of their low bytes -/
theorem law (l : Launch) (a : Addr) (D : Cell) (fV fC : Field) (b : Addr) (A : Cell) (z : Int32) (o len : Nat) : Law l yN 5 4 2 35 yB 6 none site (P a D fV fC b A z o len) (E a D fV fC A o len) [⟨a, fC.slot⟩, ⟨a, fV.slot⟩] 1 len := by
  refine Law.of_walk (plainFor_of_name (by decide +kernel)) (by decide +kernel) (by decide +kernel) (by decide) (fun _ _ h => by rw [h.1]; rfl) (fun _ U U' hal hh h => ⟨h.1, h.2.1.mv hal hh, h.2.2.1.al hal, h.2.2.2.1.al hal, h.2.2.2.2.1.mv hal hh, h.2.2.2.2.2.1.there hal hh, h.2.2.2.2.2.2⟩) (fun r U U' V V' h1 hal h2 h => Got.mv r U U' V V' h1 hal h2 h) ?_
  intro p e s m args below meth c s₁ X0 hexec hbytes hml hret hlk hnm hown hh0 W hP
  obtain ⟨rfl, hB, f1, f2, hA, s1, hz, l0, l1, l2, hp⟩ := hP
  have a31 := hA.1.2.2.2
  have c1 : Steps p.tables e below (s₁.setTop (entryFrame m #[.ref a, .ref b, .int (Int32.ofNat o), .int (Int32.ofNat len), .null] 6)) (s₁.setTop (mkF m 0 #[.val (.ref a), .val (.ref b), .val (.int (Int32.ofNat o)), .val (.int (Int32.ofNat len)), .val .null, .unset] [])) := entry rfl
  have c2 : Steps p.tables e below (s₁.setTop (entryFrame m #[.ref a, .ref b, .int (Int32.ofNat o), .int (Int32.ofNat len), .null] 6)) (s₁.setTop (mkF m 1 #[.val (.ref a), .val (.ref b), .val (.int (Int32.ofNat o)), .val (.int (Int32.ofNat len)), .val .null, .unset] [.ref a])) := c1.trans (by
    refine XS.aloadN X0.here hexec rfl (hb hbytes d0) rfl rfl ?_
    exact Steps.refl _)
  obtain ⟨T3, X3, q3, st3⟩ := X0.oinit hexec hown (wks W (objW "java/lang/String" 1)) (g := (mkF m 1 #[.val (.ref a), .val (.ref b), .val (.int (Int32.ofNat o)), .val (.int (Int32.ofNat len)), .val .null, .unset] [.ref a])) rfl (by rw [hml]; rfl) (rest := []) rfl (hb hbytes d1) (W := 0) (by show 2 * 0 + 0 ≤ _; decide) (Nat.le_of_ble_eq_true rfl) (Nat.le_of_ble_eq_true rfl)
  have hh3 := q3.trans hh0
  have c4 : Steps p.tables e below (s₁.setTop (entryFrame m #[.ref a, .ref b, .int (Int32.ofNat o), .int (Int32.ofNat len), .null] 6)) (T3.setTop (mkF m 27 #[.val (.ref a), .val (.ref b), .val (.int (Int32.ofNat o)), .val (.int (Int32.ofNat len)), .val .null, .unset] [])) := (c2.trans (st3 _ (Steps.refl _))).trans (by
    refine XS.iloadN X3.here hexec rfl (hb hbytes d4) rfl ?_
    refine XS.ifYes X3.here hexec rfl (pc0 := 5) rfl (hb hbytes d5) rfl (i0_ne_t (nz32 (by omega) l0)) (by decide) rfl ?_
    exact Steps.refl _)
  obtain ⟨T5, X5, q5, st5⟩ := X3.sget hexec hown (wk W (.fieldLink "java/lang/String" 38 "java/lang/String" "COMPACT_STRINGS" "Z")) s1 (fun _ _ h => by rw [hh3]; exact h) (g := (mkF m 27 #[.val (.ref a), .val (.ref b), .val (.int (Int32.ofNat o)), .val (.int (Int32.ofNat len)), .val .null, .unset] [])) rfl (hb hbytes d27)
  have hh5 := q5.trans hh3
  have c6 : Steps p.tables e below (s₁.setTop (entryFrame m #[.ref a, .ref b, .int (Int32.ofNat o), .int (Int32.ofNat len), .null] 6)) (T5.setTop (mkF m 30 #[.val (.ref a), .val (.ref b), .val (.int (Int32.ofNat o)), .val (.int (Int32.ofNat len)), .val .null, .unset] [.int z])) := c4.trans (st5 _ (Steps.refl _))
  have c7 : Steps p.tables e below (s₁.setTop (entryFrame m #[.ref a, .ref b, .int (Int32.ofNat o), .int (Int32.ofNat len), .null] 6)) (T5.setTop (mkF m 36 #[.val (.ref a), .val (.ref b), .val (.int (Int32.ofNat o)), .val (.int (Int32.ofNat len)), .val .null, .unset] [.int (Int32.ofNat len), .int (Int32.ofNat o), .ref b])) := c6.trans (by
    refine XS.ifNo X5.here hexec rfl (hb hbytes d30) rfl (i0_eq_f hz) ?_
    refine XS.aloadN X5.here hexec rfl (hb hbytes d33) rfl rfl ?_
    refine XS.iloadN X5.here hexec rfl (hb hbytes d34) rfl ?_
    refine XS.iloadN X5.here hexec rfl (hb hbytes d35) rfl ?_
    exact Steps.refl _)
  obtain ⟨v8, T8, X8, E8, g8⟩ := X5.callS hexec (Cmp3.law l b A o len) hown (wks W (staticW "java/lang/String" 177 Cmp3.yN)) (wk W Cmp3.tab) (W := 0) (Nat.le_of_ble_eq_true rfl) (Nat.le_of_ble_eq_true rfl) (Nat.le_refl _) (by show 0 + len ≤ len; omega) (g := (mkF m 36 #[.val (.ref a), .val (.ref b), .val (.int (Int32.ofNat o)), .val (.int (Int32.ofNat len)), .val .null, .unset] [.int (Int32.ofNat len), .int (Int32.ofNat o), .ref b])) rfl (by rw [hml]; rfl) c7 (argsL := [.ref b, .int (Int32.ofNat o), .int (Int32.ofNat len)]) (rest := []) rfl rfl (by show 2 * 0 + 0 ≤ _; decide) (hb hbytes d36) (⟨rfl, hA.mv X5.warmed.alike hh5, l1, l2, hp⟩)
  obtain ⟨e8, z8⟩ := E8
  obtain ⟨rfl, N, n1, n2, n3, n4, n5, n6⟩ := NewArr.mv _ T5 s _ _ hh5.symm (Vm.Alike.refl _) rfl e8
  rw [hh5] at z8
  have hB1 := hB.keep X8.warmed.alike (n6 _ _ hB.1)
  have hne : s.heap.size ≠ a := (Nat.ne_of_lt (Array.getElem?_eq_some_iff.mp hB.1).1).symm
  have c9 : Steps p.tables e below (s₁.setTop (entryFrame m #[.ref a, .ref b, .int (Int32.ofNat o), .int (Int32.ofNat len), .null] 6)) (T8.setTop (mkF m 39 #[.val (.ref a), .val (.ref b), .val (.int (Int32.ofNat o)), .val (.int (Int32.ofNat len)), .val .null, .unset] [.ref s.heap.size])) := g8
  have c10 : Steps p.tables e below (s₁.setTop (entryFrame m #[.ref a, .ref b, .int (Int32.ofNat o), .int (Int32.ofNat len), .null] 6)) (T8.setTop (mkF m 45 #[.val (.ref a), .val (.ref b), .val (.int (Int32.ofNat o)), .val (.int (Int32.ofNat len)), .val .null, .val (.ref s.heap.size)] [.int (Int32.ofNat N.slots.size), .ref s.heap.size, .ref a])) := by
    have hc : Steps p.tables e below (s₁.setTop (entryFrame m #[.ref a, .ref b, .int (Int32.ofNat o), .int (Int32.ofNat len), .null] 6)) (T8.setTop (mkF m 45 #[.val (.ref a), .val (.ref b), .val (.int (Int32.ofNat o)), .val (.int (Int32.ofNat len)), .val .null, .val (.ref s.heap.size)] [.int (Int32.ofNat len), .ref s.heap.size, .ref a])) := c9.trans (by
      refine XS.astore X8.here hexec rfl (hb hbytes d39) rfl rfl rfl ?_
      refine XS.aloadN X8.here hexec rfl (hb hbytes d41) rfl rfl ?_
      refine XS.aload X8.here hexec rfl (hb hbytes d42) rfl rfl ?_
      refine XS.iloadN X8.here hexec rfl (hb hbytes d44) rfl ?_
      exact Steps.refl _)
    rw [n4]; exact hc
  obtain ⟨v11, T11, X11, E11, g11⟩ := X8.callS hexec (CodL.law l s.heap.size N) hown (wks W (staticW "java/lang/String" 47 CodL.yN)) (wk W CodL.tab) (W := 1) (Nat.le_of_ble_eq_true rfl) (Nat.le_of_ble_eq_true rfl) (Nat.le_refl _) (by show 0 + len + 0 ≤ len; omega) (g := (mkF m 45 #[.val (.ref a), .val (.ref b), .val (.int (Int32.ofNat o)), .val (.int (Int32.ofNat len)), .val .null, .val (.ref s.heap.size)] [.int (Int32.ofNat N.slots.size), .ref s.heap.size, .ref a])) rfl (by rw [hml]; rfl) c10 (argsL := [.ref s.heap.size, .int (Int32.ofNat N.slots.size)]) (rest := [.ref a]) rfl rfl (by show 2 * 0 + (1 + 0) ≤ _; decide) (hb hbytes d45) (⟨rfl, n1⟩)
  obtain ⟨rfl, q11⟩ := E11
  have hB11 := hB1.mv (X8.warmed.alike.symm.trans X11.warmed.alike) q11
  have c12 : Steps p.tables e below (s₁.setTop (entryFrame m #[.ref a, .ref b, .int (Int32.ofNat o), .int (Int32.ofNat len), .null] 6)) (T11.setTop (mkF m 48 #[.val (.ref a), .val (.ref b), .val (.int (Int32.ofNat o)), .val (.int (Int32.ofNat len)), .val .null, .val (.ref s.heap.size)] [.int 0, .ref a])) := g11
  obtain ⟨T13, X13, p13, bl13, sl13, st13⟩ := X11.finit hexec hown (wk W (.fieldLink "java/lang/String" 15 "java/lang/String" "coder" "B")) (Or.inr ⟨_, (wk W (.laysFinal "java/lang/String" "java/lang/String" "coder" "B"))⟩) (Or.inl ⟨rfl, hnm⟩) f2 (Or.inl rfl) hB11 (t := .byte) (by decide +kernel) rfl (g := (mkF m 48 #[.val (.ref a), .val (.ref b), .val (.int (Int32.ofNat o)), .val (.int (Int32.ofNat len)), .val .null, .val (.ref s.heap.size)] [.int 0, .ref a])) rfl (rest := []) rfl (hb hbytes d48)
  have c14 : Steps p.tables e below (s₁.setTop (entryFrame m #[.ref a, .ref b, .int (Int32.ofNat o), .int (Int32.ofNat len), .null] 6)) (T13.setTop (mkF m 54 #[.val (.ref a), .val (.ref b), .val (.int (Int32.ofNat o)), .val (.int (Int32.ofNat len)), .val .null, .val (.ref s.heap.size)] [.ref s.heap.size, .ref a])) := (c12.trans (st13 _ (Steps.refl _))).trans (by
    refine XS.aloadN X13.here hexec rfl (hb hbytes d51) rfl rfl ?_
    refine XS.aload X13.here hexec rfl (hb hbytes d52) rfl rfl ?_
    exact Steps.refl _)
  obtain ⟨T15, X15, p15, bl15, sl15, st15⟩ := X13.finit hexec hown (wk W (.fieldLink "java/lang/String" 9 "java/lang/String" "value" "[B")) (Or.inr ⟨_, (wk W (.laysFinal "java/lang/String" "java/lang/String" "value" "[B"))⟩) (Or.inl ⟨rfl, hnm⟩) f1 (Or.inl rfl) bl13 (t := (.array .byte)) (by decide +kernel) rfl (g := (mkF m 54 #[.val (.ref a), .val (.ref b), .val (.int (Int32.ofNat o)), .val (.int (Int32.ofNat len)), .val .null, .val (.ref s.heap.size)] [.ref s.heap.size, .ref a])) rfl (rest := []) rfl (hb hbytes d54)
  have c16 : Steps p.tables e below (s₁.setTop (entryFrame m #[.ref a, .ref b, .int (Int32.ofNat o), .int (Int32.ofNat len), .null] 6)) (T15.setTop (mkF m 57 #[.val (.ref a), .val (.ref b), .val (.int (Int32.ofNat o)), .val (.int (Int32.ofNat len)), .val .null, .val (.ref s.heap.size)] [])) := c14.trans (st15 _ (Steps.refl _))
  have ap := apart (Or.inr ⟨_, (wk W (.laysFinal "java/lang/String" "java/lang/String" "value" "[B"))⟩) (Or.inr ⟨_, (wk W (.laysFinal "java/lang/String" "java/lang/String" "coder" "B"))⟩) f1 f2 (t₁ := .array .byte) (t₂ := .byte) (by decide +kernel) (by decide +kernel) (by decide)
  have al := X8.warmed.alike.symm.trans X15.warmed.alike
  have n7 : T11.heap[s.heap.size]? = some N := by rw [q11]; exact n1.1
  exact ⟨T15, none, _, _, _, X15, by simp, rfl, by omega, (fun _ => rfl), ⟨rfl, _, N, bl15, ((Same.refl D _).set _ (by simp)).set _ (by simp), sl15, (Cell.slots_setSlot_ne _ ap).trans sl13, n1.keep al (p15.other hne (p13.other hne n7)), n2, by rw [al.findClass]; exact n3, n4, n5, fun y c h1 h2 => p15.other h1 (p13.other h1 (by rw [q11]; exact n6 y c h2)), by rw [p15.2.2, p13.2.2, q11]; exact z8⟩, fun fs hl => c16.trans (X15.returnOut hexec hret (hb hbytes d57) hl)⟩
end New4
namespace New1
def yN : MethodName := ⟨"java/lang/String", "<init>", "([C)V"⟩
abbrev yB : ByteArray := jdk_42_method_3_code
theorem d0 : decode yB 0 = .ok (.aload_n 0, 1) := by decide +kernel
theorem d1 : decode yB 1 = .ok (.aload_n 1, 1) := by decide +kernel
theorem d2 : decode yB 2 = .ok (.iconst 0, 1) := by decide +kernel
theorem d3 : decode yB 3 = .ok (.aload_n 1, 1) := by decide +kernel
theorem d4 : decode yB 4 = .ok (.arraylength, 1) := by decide +kernel
theorem d5 : decode yB 5 = .ok (.aconst_null, 1) := by decide +kernel
theorem d6 : decode yB 6 = .ok (.invokespecial 27, 3) := by decide +kernel
theorem d9 : decode yB 9 = .ok (.return_, 1) := by decide +kernel
def site : List Cond := [New4.tab] ++ initW "java/lang/String" 27 New4.yN
def tab : Cond := tabOf yN yB 2 none site
def P (a : Addr) (D : Cell) (fV fC : Field) (b : Addr) (A : Cell) (z : Int32) (args : Array Value) (s : State) : Prop := args = #[.ref a, .ref b] ∧ Blank "java/lang/String" a D s ∧ Found "java/lang/String" "value" "[B" fV s ∧ Found "java/lang/String" "coder" "B" fC s ∧ Ch b A s ∧ StaticIs s "java/lang/String" "COMPACT_STRINGS" "Z" (.int z) ∧ ¬ z = 0 ∧ 0 < A.slots.size ∧ A.slots.size ≤ 536870912 ∧ ∀ i, i < A.slots.size → ¬ 255 < cv A i
def E (a : Addr) (D : Cell) (fV fC : Field) (A : Cell) (r : Option Value) (s u : State) : Prop := Got a D fV fC A 0 A.slots.size r s u
/-- new String(chars), not empty, no char above 255: a Latin-1 String of their low bytes -/
theorem law (l : Launch) (a : Addr) (D : Cell) (fV fC : Field) (b : Addr) (A : Cell) (z : Int32) : Law l yN 2 1 3 52 yB 2 none site (P a D fV fC b A z) (E a D fV fC A) [⟨a, fC.slot⟩, ⟨a, fV.slot⟩] 1 A.slots.size := by
  refine Law.of_walk (plainFor_of_name (by decide +kernel)) (by decide +kernel) (by decide +kernel) (by decide) (fun _ _ h => by rw [h.1]; rfl) (fun _ U U' hal hh h => ⟨h.1, h.2.1.mv hal hh, h.2.2.1.al hal, h.2.2.2.1.al hal, h.2.2.2.2.1.mv hal hh, h.2.2.2.2.2.1.there hal hh, h.2.2.2.2.2.2⟩) (fun r U U' V V' h1 hal h2 h => Got.mv r U U' V V' h1 hal h2 h) ?_
  intro p e s m args below meth c s₁ X0 hexec hbytes hml hret hlk hnm hown hh0 W hP
  obtain ⟨rfl, hB, f1, f2, hA, s1, hz, l0, l2, hp⟩ := hP
  have c1 : Steps p.tables e below (s₁.setTop (entryFrame m #[.ref a, .ref b] 2)) (s₁.setTop (mkF m 0 #[.val (.ref a), .val (.ref b)] [])) := entry rfl
  have c2 : Steps p.tables e below (s₁.setTop (entryFrame m #[.ref a, .ref b] 2)) (s₁.setTop (mkF m 6 #[.val (.ref a), .val (.ref b)] [.null, .int (Int32.ofNat A.slots.size), .int 0, .ref b, .ref a])) := c1.trans (by
    refine XS.aloadN X0.here hexec rfl (hb hbytes d0) rfl rfl ?_
    refine XS.aloadN X0.here hexec rfl (hb hbytes d1) rfl rfl ?_
    refine iconstV X0.here hexec rfl 0 (hb hbytes d2) (by decide) ?_
    refine XS.aloadN X0.here hexec rfl (hb hbytes d3) rfl rfl ?_
    refine X0.alen hexec (hA.1.mv X0.warmed.alike hh0) rfl rfl (hb hbytes d4) ?_
    refine XS.aconstNull X0.here hexec rfl (hb hbytes d5) ?_
    exact Steps.refl _)
  obtain ⟨v3, T3, X3, E3, g3⟩ := X0.callN hexec (New4.law l a D fV fC b A z 0 A.slots.size) rfl hown (wks W (initW "java/lang/String" 27 New4.yN)) (W New4.tab (by simp only [site, List.mem_cons, List.mem_append, true_or, or_true])) (W := 0) (Nat.le_of_ble_eq_true rfl) (Nat.le_of_ble_eq_true rfl) (Nat.le_refl _) (by show 0 + A.slots.size ≤ A.slots.size; omega) (g := (mkF m 6 #[.val (.ref a), .val (.ref b)] [.null, .int (Int32.ofNat A.slots.size), .int (Int32.ofNat 0), .ref b, .ref a])) rfl (by rw [hml]; rfl) c2 (argsL := [.ref b, .int (Int32.ofNat 0), .int (Int32.ofNat A.slots.size), .null]) (rest := []) rfl rfl (by show 2 * 0 + 0 ≤ _; decide) (hb hbytes d6) (⟨rfl, hB.mv X0.warmed.alike hh0, f1.al X0.warmed.alike, f2.al X0.warmed.alike, hA.mv X0.warmed.alike hh0, s1.there X0.warmed.alike hh0, hz, l0, by omega, l2, fun i hi => by rw [Nat.zero_add]; exact hp i hi⟩)
  have e0 := Got.mv _ s₁ s _ _ hh0.symm (Vm.Alike.refl _) rfl E3
  obtain rfl := e0.1
  have c4 : Steps p.tables e below (s₁.setTop (entryFrame m #[.ref a, .ref b] 2)) (T3.setTop (mkF m 9 #[.val (.ref a), .val (.ref b)] [])) := g3
  exact ⟨T3, none, _, _, _, X3, by simp, rfl, by omega, (fun _ => rfl), e0, fun fs hl => c4.trans (X3.returnOut hexec hret (hb hbytes d9) hl)⟩
theorem pays {l : Launch} {R : Room} {p : Program} {e : Env} {below : List Frame} {s : State} {sargs : Array Value} {len W : Nat} (a : Addr) (D : Cell) (fV fC : Field) (b : Addr) (A : Cell) (z : Int32) (htab : tab.before sargs s = true) (hfr : 4 ≤ R.frames) (hlo : W + 65 ≤ R.locals) :
    Back l R p e below s sargs yN len W (fun A₁ a₁ => A₁.cells + 1 ≤ R.cells ∧ A₁.slots + A.slots.size ≤ R.slots ∧ P a D fV fC b A z a₁ A₁.U) (fun A₁ _ v₁ B₁ => E a D fV fC A v₁ A₁.U B₁.U ∧ B₁.locs = A₁.locs ++ [⟨a, fC.slot⟩, ⟨a, fV.slot⟩] ∧ B₁.cells = A₁.cells + 1 ∧ B₁.slots = A₁.slots + A.slots.size) :=
  (law l a D fV fC b A z).pays htab hfr (by omega)
end New1
/-- the byte, read back as charAt reads it, is the char -/
theorem lo8_mask {x : Int32} (h0 : ¬ x < 0) (h1 : ¬ 255 < x) : lo8 x &&& 255 = x := by
  have t : ∀ k : Fin 256, lo8 (Int32.ofNat k.val) &&& 255 = Int32.ofNat k.val := by decide +kernel
  rw [Int32.lt_iff_toInt_lt] at h0 h1
  have e0 : (0 : Int32).toInt = 0 := rfl
  have e1 : (255 : Int32).toInt = 255 := rfl
  obtain ⟨k, hk⟩ : ∃ k : Nat, x.toInt = k := ⟨x.toInt.toNat, by omega⟩
  have hx : x = Int32.ofNat k := Int32.toInt_inj.mp (by rw [hk, Int32.toInt_ofNat_small (by omega)])
  rw [hx]
  exact t ⟨k, by omega⟩
end StrChars
namespace StrChars.Road
open Jvm Sem ClassFile Op Lib Jvm.Stand Jvm.Free Jvm.Free.XT
open Jvm.Lib.Cold (StaticIs)
abbrev ST : String := "java/lang/String"
/-- every table word that New1's law asks, flat -/
abbrev words : List Jvm.Cond := [.code New1.yN New1.yB 2 none, .initialized ST, .methodLink ST 27 New4.yN, .instanceMethod New4.yN,
  .code New4.yN New4.yB 6 none, .fieldLink ST 38 ST "COMPACT_STRINGS" "Z", .laysFinal ST ST "value" "[B", .fieldLink ST 9 ST "value" "[B", .laysFinal ST ST "coder" "B", .fieldLink ST 15 ST "coder" "B",
  .methodLink ST 1 Lib.objectInit, .instanceMethod Lib.objectInit, .code Lib.objectInit ⟨#[0xb1]⟩ 1 none, .methodLink ST 177 Cmp3.yN, .static Cmp3.yN, .methodLink ST 47 CodL.yN, .static CodL.yN,
  .code Cmp3.yN Cmp3.yB 6 (some (.array .byte)), .initialized U16, .arrayClass .byte, .methodLink U16 115 Cmp5.yN, .static Cmp5.yN, .code Cmp5.yN Cmp5.yB 7 (some .int), .code CodL.yN CodL.yB 2 (some .byte)]
theorem tab_of {a : Array Value} {s : State} (h : ∀ w ∈ words, w.before a s = true) : New1.tab.before a s = true := by
  have h5 : Cmp5.tab.before a s = true := unparts (wk h (.code Cmp5.yN Cmp5.yB 7 (some .int))) (wks h (.initialized Cmp5.yN.cls :: Cmp5.site))
  have hc : CodL.tab.before a s = true := unparts (wk h (.code CodL.yN CodL.yB 2 (some .byte))) (wks h (.initialized CodL.yN.cls :: CodL.site))
  have q5 : ∀ w ∈ Cmp5.tab :: words, w.before a s = true := fun w hw => (List.mem_cons.mp hw).elim (fun e => e ▸ h5) (h w)
  have h3 : Cmp3.tab.before a s = true := unparts (wk q5 (.code Cmp3.yN Cmp3.yB 6 (some (.array .byte)))) (wks q5 (.initialized Cmp3.yN.cls :: Cmp3.site))
  have q3 : ∀ w ∈ Cmp3.tab :: CodL.tab :: words, w.before a s = true := fun w hw => (List.mem_cons.mp hw).elim (fun e => e ▸ h3) fun hw => (List.mem_cons.mp hw).elim (fun e => e ▸ hc) (h w)
  have h4 : New4.tab.before a s = true := unparts (wk q3 (.code New4.yN New4.yB 6 none)) (wks q3 (.initialized New4.yN.cls :: New4.site))
  have q4 : ∀ w ∈ New4.tab :: words, w.before a s = true := fun w hw => (List.mem_cons.mp hw).elim (fun e => e ▸ h4) (h w)
  exact unparts (wk q4 (.code New1.yN New1.yB 2 none)) (wks q4 (.initialized New1.yN.cls :: New1.site))
/-- the words ride from the start Z to the walk's own state -/
theorem moved {Z s : State} {a0 args : Array Value} (hZ : Z.Warmed39 s.vm) (hw : ∀ d ∈ words, d.before a0 Z = true) : ∀ d ∈ words, d.before args s = true := fun d hd => by
  have q := hw d hd
  have t : ∀ d ∈ words, d = .arrayClass .byte ∨ (d.onTables && d.keepsFace) = true := by decide +kernel
  rcases t d hd with rfl | t
  · exact RoadKit.mvA hZ q
  · exact RoadKit.mv hZ q t
/-- WHAT COMES BACK, over the tables of the start Z: h the heap at the call, h' behind it -/
def Q (Z : State) (x : Addr) (A : Cell) (h : Heap) (v : Option Value) (h' : Heap) (L : List Loc) : Prop := v = none ∧ (∀ y ∈ L, y.base = x) ∧ RoadKit.Keep h h' [x] ∧ h'.size = h.size + 1 ∧ RoadKit.Exa Z h' x ST ∧ RoadKit.Fld Z h' x ST "value" "[B" (.ref h.size) ∧ RoadKit.Fld Z h' x ST "coder" "B" (.int 0) ∧
  (∃ V : Cell, RoadKit.Arr Z h' h.size V .byte ∧ V.vm = .none ∧ Z.vm.findClass "[B" = some V.cls ∧ V.slots.size = A.slots.size ∧ ∀ j, j < A.slots.size → V.slots[j]? = some (.int (lo8 (cv A j)))) ∧
  ∀ (O n d : String) (w : Value), RoadKit.Fld Z h x O n d w → RoadKit.slotOf Z O n d ≠ RoadKit.slotOf Z ST "value" "[B" → RoadKit.slotOf Z O n d ≠ RoadKit.slotOf Z ST "coder" "B" → RoadKit.Fld Z h' x O n d w
/-- **new String(chars) AT A CALL, IN THE ROAD'S FORM**: for specialBack behind newO: x the fresh String, b the char[] with the cell A -/
theorem back {p : Program} {l : Launch} {e : Env} {R : Room} {s : State} {args : Array Value} {below : List Frame} {len W : Nat} {Z : State} {a0 : Array Value} {h : Heap} (hZ : Z.Warmed39 s.vm) (hw : ∀ d ∈ words, d.before a0 Z = true) {kI : Nat} (wi : (Jvm.Cond.instantiable ST kI).before a0 Z = true)
    {x b : Addr} {A : Cell} {z : Int32} {v0 c0 : Value} (E : RoadKit.Exa Z h x ST) (V : RoadKit.Fld Z h x ST "value" "[B" v0) (C : RoadKit.Fld Z h x ST "coder" "B" c0) (K : RoadKit.Arr Z h b A .char) (hty : Typed .char A) (S : RoadKit.Sta Z h ST "COMPACT_STRINGS" "Z" (.int z)) (hz : ¬ z = 0)
    (l0 : 0 < A.slots.size) (l2 : A.slots.size ≤ 536870912) (hp : ∀ i, i < A.slots.size → ¬ 255 < cv A i) (hfr : 4 ≤ R.frames) (hlo : W + 65 ≤ R.locals) :
    Back l R p e below s args New1.yN len W (fun P a => a = #[.ref x, .ref b] ∧ P.U.heap = h ∧ P.cells + 1 ≤ R.cells ∧ P.slots + A.slots.size ≤ R.slots)
      (fun P _ v B => ∃ L, Q Z x A h v B.U.heap L ∧ B.locs = P.locs ++ L ∧ B.cells = P.cells + 1 ∧ B.slots = P.slots + A.slots.size) := by
  intro m meth c P g ig mk a X hg hsize hdg hW hn hp'
  obtain ⟨rfl, rfl, r1, r2⟩ := hp'
  have al : Z.vm.Alike P.U.vm := hZ.alike.trans X.warmed.alike
  obtain ⟨D, cfV, kV, iV, fV, hD, gV, stV, knV, obV, asV, slV⟩ := id V
  obtain ⟨D', cfC, kC, iC, fC, hD', gC, stC, -, -, asC, slC⟩ := id C
  cases hD.symm.trans hD'
  obtain ⟨D2, kD, e1, e2, e3, e4, e5⟩ := id E
  cases hD.symm.trans e1
  obtain ⟨c2, k2, i1, i2, i3, -⟩ := Cond.instantiable_spec wi
  cases e2.symm.trans i1
  cases e3.symm.trans i2
  obtain ⟨kU, u1, u2⟩ := al.2.2 _ _ e3
  have hB : Blank ST x D P.U := ⟨hD, ⟨knV, fun q hq => by rw [hq] at obV; cases obV⟩, by rw [al.findClass]; exact e2, kU, u1, by rw [u2]; exact i3, by rw [u2]; exact e5 i3⟩
  have F1 : Found ST "value" "[B" fV P.U := ⟨SBG.found_only al ⟨cfV, kV, iV, gV⟩, stV⟩
  have F2 : Found ST "coder" "B" fC P.U := ⟨SBG.found_only al ⟨cfC, kC, iC, gC⟩, stC⟩
  have hA : Ch b A P.U := ⟨⟨K.1, State.isArrayOf_alike al K.2.1, K.2.2, by omega⟩, hty⟩
  have hS : StaticIs P.U ST "COMPACT_STRINGS" "Z" (.int z) := by
    obtain ⟨cfS, iS, kS, fS, st, cS, t1, t2, t3, t4, t5, t6, t7⟩ := S
    exact StaticIs.there (s := { Z with heap := P.U.heap }) ⟨cfS, iS, kS, fS, st, cS, t1, t2, t3, t4, t5, (fun q => by rw [q] at t6; cases t6), t7⟩ al rfl
  obtain ⟨v, B, X', ⟨⟨hv, E', V', q1, q2, q3, q4, q5, q6, q7, q8, q9, q10, q11⟩, hl, hc, hs⟩, st⟩ := New1.pays x D fV fC b A z (tab_of (moved hZ hw)) hfr hlo m meth c P g ig mk _ X hg hsize hdg hW hn ⟨r1, r2, rfl, hB, F1, F2, hA, hS, hz, l0, l2, hp⟩
  have al' : Z.vm.Alike B.U.vm := hZ.alike.trans X'.warmed.alike
  have hsz : E'.slots.size = D.slots.size := by
    obtain ⟨-, -, -, kB, w1, w2, w3⟩ := q1
    obtain ⟨kB', y1, y2⟩ := al'.2.2 _ _ e3
    rw [q2.2.1] at w1
    cases w1.symm.trans y1
    rw [w3, e5 i3, y2]
  refine ⟨v, B, X', ⟨_, ⟨hv, ?_, ⟨by omega, fun y cy hy hn' => q10 y cy (by simpa using hn') hy, fun y cy hy => ?_⟩, q11, ⟨E', _, q1.1, by rw [q2.2.1]; exact e2, by rw [q2.2.1]; exact e3, by rw [q2.1]; exact obV, fun _ => by rw [hsz]; exact e5 i3⟩,
    ⟨E', cfV, kV, iV, fV, q1.1, gV, stV, by rw [q2.1]; exact knV, by rw [q2.1]; exact obV, by rw [q2.2.1]; exact asV, q3⟩, ⟨E', cfC, kC, iC, fC, q1.1, gC, stC, by rw [q2.1]; exact knV, by rw [q2.1]; exact obV, by rw [q2.2.1]; exact asC, q4⟩,
    ⟨V', ⟨q5.1, State.isArrayOf_alike al'.symm q5.2.1, q5.2.2.1⟩, q6, by rw [← al'.findClass]; exact q7, q8, fun j hj => by have := q9 j hj; rwa [Nat.zero_add] at this⟩, fun O n d w F n1 n2 => ?_⟩, hl, hc, hs⟩, st⟩
  · intro y hy
    simp only [List.mem_cons, List.not_mem_nil, or_false] at hy
    rcases hy with rfl | rfl <;> rfl
  · by_cases q : y = x
    · subst q
      cases hD.symm.trans hy
      exact ⟨E', q1.1, q2.2.1, q2.1, hsz⟩
    · exact ⟨cy, q10 y cy q hy, rfl, rfl, rfl⟩
  · obtain ⟨D3, cf, k, i, f, g1, g2, g3, g4, g5, g6, g7⟩ := F
    cases hD.symm.trans g1
    simp only [RoadKit.slotOf, g2, gV, gC, Option.map_some, Option.getD_some] at n1 n2
    exact ⟨E', cf, k, i, f, q1.1, g2, g3, by rw [q2.1]; exact g4, by rw [q2.1]; exact g5, by rw [q2.2.1]; exact g6, by rw [q2.2.2 f.slot (by simp [n1, n2])]; exact g7⟩
end StrChars.Road
namespace StrChars.Road
open Jvm Sem ClassFile Op Lib Jvm.Stand Jvm.Free Jvm.Free.XT
/-- WHAT COMES BACK, the byte[] as a list of values -/
def QA (Z : State) (x : Addr) (zn : Int32) (cs : List Int32) (h : Heap) (v : Option Value) (h' : Heap) (L : List Loc) : Prop := v = none ∧ (∀ y ∈ L, y.base = x) ∧ RoadKit.Keep h h' [x] ∧ h'.size = h.size + 1 ∧ RoadKit.Exa Z h' x ST ∧ RoadKit.Fld Z h' x ST "value" "[B" (.ref h.size) ∧ RoadKit.Fld Z h' x ST "coder" "B" (.int 0) ∧
  (∃ kb, Z.vm.findClass "[B" = some kb ∧ RoadKit.Arv Z h' h.size kb .byte zn (cs.map fun c => .int (lo8 c)) (.int 0)) ∧
  ∀ (O n d : String) (w : Value), RoadKit.Fld Z h x O n d w → RoadKit.slotOf Z O n d ≠ RoadKit.slotOf Z ST "value" "[B" → RoadKit.slotOf Z O n d ≠ RoadKit.slotOf Z ST "coder" "B" → RoadKit.Fld Z h' x O n d w
/-- **new String(chars) AT A CALL, THE ARRAYS AS LISTS**: the char[] at b holds cs, not empty, no char above 255 -/
theorem backArv {p : Program} {l : Launch} {e : Env} {R : Room} {s : State} {args : Array Value} {below : List Frame} {len W : Nat} {Z : State} {a0 : Array Value} {h : Heap} (hZ : Z.Warmed39 s.vm) (hw : ∀ d ∈ words, d.before a0 Z = true) {kI : Nat} (wi : (Jvm.Cond.instantiable ST kI).before a0 Z = true)
    {x b : Addr} {k : ClassId} {zn z : Int32} {cs : List Int32} {dv v0 c0 : Value} (E : RoadKit.Exa Z h x ST) (V : RoadKit.Fld Z h x ST "value" "[B" v0) (C : RoadKit.Fld Z h x ST "coder" "B" c0) (K : RoadKit.Arv Z h b k .char zn (cs.map Value.int) dv) (S : RoadKit.Sta Z h ST "COMPACT_STRINGS" "Z" (.int z)) (hz : ¬ z = 0)
    (hlen : zn.toNatClampNeg = cs.length) (h0 : 0 < cs.length) (hbig : cs.length ≤ 536870912) (hall : ∀ c ∈ cs, ¬ 255 < c) (hfr : 4 ≤ R.frames) (hlo : W + 65 ≤ R.locals) :
    Back l R p e below s args New1.yN len W (fun P a => a = #[.ref x, .ref b] ∧ P.U.heap = h ∧ P.cells + 1 ≤ R.cells ∧ P.slots + cs.length ≤ R.slots)
      (fun P _ v B => ∃ L, QA Z x zn cs h v B.U.heap L ∧ B.locs = P.locs ++ L ∧ B.cells = P.cells + 1 ∧ B.slots = P.slots + cs.length) := by
  obtain ⟨A, K1, K2, K3, K4, K5, K6⟩ := K
  have e : A.slots.size = cs.length := K3.trans hlen
  have hat : ∀ (i : Nat) (hi : i < cs.length), A.slots[i]? = some (.int cs[i]) := fun i hi => by rw [K5 i (by omega)]; simp [List.getD_eq_getElem?_getD, hi]
  have hcv : ∀ (i : Nat) (hi : i < cs.length), cv A i = cs[i] := fun i hi => by unfold cv; rw [hat i hi]
  have hty : Typed .char A := fun i v hv => by
    have hi : i < A.slots.size := (Array.getElem?_eq_some_iff.mp hv).1
    have q := K5 i hi
    rw [hv] at q
    rw [Option.some.inj q]
    exact K6 i hi
  refine Back.mono (back hZ hw wi E V C K1 hty S hz (by omega) (by omega) (fun i hi => by rw [hcv i (by omega)]; exact hall _ (List.getElem_mem _)) hfr hlo) (fun P a hp => ⟨hp.1, hp.2.1, hp.2.2.1, by rw [e]; exact hp.2.2.2⟩) (fun P a v B hp hq => ?_)
  obtain ⟨L, ⟨q1, q2, q3, q4, q5, q6, q7, ⟨V', v1, v2, v3, v4, v5⟩, q9⟩, hl, hc, hs⟩ := hq
  refine ⟨L, ⟨q1, q2, q3, q4, q5, q6, q7, ⟨V'.cls, v3, V', v1, rfl, by rw [v4, e, hlen], K4, fun i hi => ?_, fun i hi => ?_⟩, q9⟩, hl, hc, by rw [hs, e]⟩
  · have hi' : i < cs.length := by omega
    rw [v5 i (by omega), hcv i hi']; simp [List.getD_eq_getElem?_getD, hi']
  · have hi' : i < cs.length := by omega
    simp only [List.getD_eq_getElem?_getD, List.getElem?_map, List.getElem?_eq_getElem hi', Option.map_some, Option.getD_some]
    exact fits_lo8 _
end StrChars.Road
namespace StrChars.Road
open Jvm Sem ClassFile Op Lib Jvm.Stand Jvm.Free Jvm.Free.XT
/-- WHAT COMES BACK, in the writer's own shape -/
def QV (Z : State) (x : Addr) (N : Int32) (bs : List Int32) (h : Heap) (n0 : Nat) (v : Option Value) (h' : Heap) (L : List Loc) : Prop := v = none ∧ RoadKit.Fr n0 L ∧ RoadKit.Keep h h' [x] ∧ RoadKit.Exa Z h' x ST ∧ RoadKit.Fld Z h' x ST "coder" "B" (.int 0) ∧
  ∃ (t : Addr) (kb : ClassId), n0 ≤ t ∧ h.size ≤ t ∧ ¬ t = x ∧ RoadKit.Fld Z h' x ST "value" "[B" (.ref t) ∧ RoadKit.Arv Z h' t kb .byte N (bs.map Value.int) (.int 0)
/-- **new String(chars) AT A CALL, FOR THE WRITER**: a char[] of n known ints, each 0 to 255 -/
theorem backV {p : Program} {l : Launch} {e : Env} {R : Room} {s : State} {args : Array Value} {below : List Frame} {len W : Nat} {Z : State} {a0 : Array Value} {h : Heap} (hZ : Z.Warmed39 s.vm) (hw : ∀ d ∈ words, d.before a0 Z = true) {kI : Nat} (wi : (Jvm.Cond.instantiable ST kI).before a0 Z = true)
    {x b : Addr} {kC : ClassId} {cs bs : List Int32} {d v0 c0 : Value} {z N : Int32} {n n0 : Nat} (hx0 : n0 ≤ x) (hh0 : n0 ≤ h.size) (E : RoadKit.Exa Z h x ST) (V : RoadKit.Fld Z h x ST "value" "[B" v0) (C : RoadKit.Fld Z h x ST "coder" "B" c0) (K : RoadKit.Arv Z h b kC .char N (cs.map Value.int) d) (S : RoadKit.Sta Z h ST "COMPACT_STRINGS" "Z" (.int z)) (hz : ¬ z = 0)
    (hn : cs.length = n) (hN : N = Int32.ofNat n) (l0 : 0 < n) (l2 : n ≤ 4000) (hp : ∀ c ∈ cs, ¬ c < 0 ∧ ¬ (255 : Int32) < c) (hb : bs = cs.map (fun c => c.toInt8.toInt32)) (hfr : 4 ≤ R.frames) (hlo : W + 65 ≤ R.locals) :
    Back l R p e below s args (⟨"java/lang/String", "<init>", "([C)V"⟩ : MethodName) len W (fun P a => a = #[.ref x, .ref b] ∧ P.U.heap = h ∧ P.cells + 1 ≤ R.cells ∧ P.slots + n ≤ R.slots)
      (fun P _ v B => ∃ L, QV Z x N bs h n0 v B.U.heap L ∧ B.locs = P.locs ++ L ∧ B.cells = P.cells + 1 ∧ B.slots = P.slots + n) := by
  subst hn hN hb
  refine Back.mono (backArv hZ hw wi E V C K S hz (n32 (by omega)) l0 (by omega) (fun c hc => (hp c hc).2) hfr hlo) (fun P a hp => hp) (fun P a v B hp hq => ?_)
  obtain ⟨L, ⟨q1, q2, q3, q4, q5, q6, q7, ⟨kb, v1, v2⟩, q9⟩, hl, hc, hs⟩ := hq
  exact ⟨L, ⟨q1, fun y hy => by rw [q2 y hy]; exact hx0, q3, q5, q7, h.size, kb, hh0, Nat.le_refl _, Nat.ne_of_gt E.lt, q6, by rw [List.map_map]; exact v2⟩, hl, hc, hs⟩
end StrChars.Road
namespace StrChars
open Jvm Sem ClassFile Op Lib Jvm.Stand Jvm.Free.XT Jvm.Free.ALB Jvm.Free.JM Jvm.Free
open Jvm.Lib.Cold (StaticIs)
def hi8 (x : Int32) : Int32 := lo8 (x >>> ((8 : Int32) &&& 31))
/-- what StringUTF16.getChar makes of two bytes -/
def pairCh (u v : Int32) : Int32 := (((u &&& 255) <<< ((0 : Int32) &&& 31)) ||| ((v &&& 255) <<< ((8 : Int32) &&& 31))).toUInt32.toUInt16.toUInt32.toInt32
theorem shr0 (c : Int32) : c >>> ((0 : Int32) &&& 31) = c := by
  have e : ((0 : Int32) &&& 31) = 0 := by decide
  rw [e]
  apply Int32.toBitVec_inj.mp
  rw [Int32.toBitVec_shiftRight]
  have e1 : ((0 : Int32).toBitVec.smod 32) = 0#32 := by decide
  rw [e1, BitVec.sshiftRight_eq']
  exact BitVec.sshiftRight_zero
theorem lo8_and (x : Int32) : (lo8 x &&& 255).toBitVec.toNat = x.toBitVec.toNat % 256 := by
  have h : (lo8 x).toBitVec = (x.toBitVec.signExtend 8).signExtend 32 := by rw [lo8, Int8.toBitVec_toInt32, Int32.toBitVec_toInt8]
  rw [Int32.toBitVec_and, BitVec.toNat_and, h]
  have e : ((x.toBitVec.signExtend 8).signExtend 32).toNat % 256 = x.toBitVec.toNat % 256 := by
    rw [BitVec.toNat_signExtend]
    have hlt := x.toBitVec.isLt
    simp only [BitVec.toNat_setWidth, BitVec.toNat_signExtend]
    split <;> split <;> omega
  rw [← e]
  exact Nat.and_two_pow_sub_one_eq_mod _ 8
theorem pair_says {c : Int32} (h0 : ¬ c < 0) (h1 : ¬ 65535 < c) : pairCh (lo8 c) (hi8 c) = c := by
  rw [Int32.lt_iff_toInt_lt] at h0 h1
  have e0 : (0 : Int32).toInt = 0 := rfl
  have e1 : (65535 : Int32).toInt = 65535 := rfl
  have hc : c.toInt = c.toBitVec.toNat := by
    have := c.toBitVec.isLt
    have e : c.toInt = c.toBitVec.toInt := rfl
    rw [e] at h0 h1
    rw [e]
    rw [BitVec.toInt_eq_toNat_cond] at h0 h1 ⊢
    split at h0 <;> split <;> omega
  have hn : c.toBitVec.toNat < 65536 := by omega
  have a1 := lo8_and c
  have a2 : (hi8 c &&& 255).toBitVec.toNat = c.toBitVec.toNat / 256 := by
    rw [hi8, lo8_and]
    have e : ((8 : Int32) &&& 31) = 8 := by decide
    rw [e, Int32.toBitVec_shiftRight]
    have e2 : ((8 : Int32).toBitVec.smod 32) = 8#32 := by decide
    rw [e2, BitVec.sshiftRight_eq', BitVec.toNat_sshiftRight_of_msb_false (by rw [BitVec.msb_eq_false_iff_two_mul_lt]; omega)]
    show c.toBitVec.toNat >>> 8 % 256 = _
    rw [Nat.shiftRight_eq_div_pow]
    omega
  unfold pairCh
  apply Int32.toBitVec_inj.mp
  apply BitVec.eq_of_toNat_eq
  have f0 : ((0 : Int32) &&& 31) = 0 := by decide
  have f8 : ((8 : Int32) &&& 31) = 8 := by decide
  rw [f0, f8]
  have g : (((lo8 c &&& 255) <<< (0 : Int32)) ||| ((hi8 c &&& 255) <<< (8 : Int32))).toBitVec.toNat = c.toBitVec.toNat := by
    rw [Int32.toBitVec_or, Int32.toBitVec_shiftLeft, Int32.toBitVec_shiftLeft]
    have s0 : ((0 : Int32).toBitVec.smod 32) = 0#32 := by decide
    have s8 : ((8 : Int32).toBitVec.smod 32) = 8#32 := by decide
    rw [s0, s8, BitVec.toNat_or]
    simp only [BitVec.shiftLeft_eq', BitVec.toNat_shiftLeft, a1, a2]
    show (c.toBitVec.toNat % 256) <<< 0 % 2 ^ 32 ||| (c.toBitVec.toNat / 256) <<< 8 % 2 ^ 32 = _
    rw [Nat.shiftLeft_zero, Nat.mod_eq_of_lt (show c.toBitVec.toNat % 256 < 2 ^ 32 by omega), Nat.mod_eq_of_lt (show (c.toBitVec.toNat / 256) <<< 8 < 2 ^ 32 by rw [Nat.shiftLeft_eq]; omega), Nat.or_comm, ← Nat.shiftLeft_add_eq_or_of_lt (by omega), Nat.shiftLeft_eq]
    omega
  show BitVec.toNat (((((lo8 c &&& 255) <<< (0 : Int32)) ||| ((hi8 c &&& 255) <<< (8 : Int32))).toBitVec.setWidth 16).setWidth 32) = _
  rw [BitVec.toNat_setWidth, BitVec.toNat_setWidth, g]
  omega
end StrChars
namespace StrChars
open Jvm Sem ClassFile Op Lib Jvm.Stand Jvm.Free.XT Jvm.Free.ALB Jvm.Free.JM Jvm.Free
open Jvm.Lib.Cold (StaticIs)
theorem shr1 {n : Nat} (h : 2 * n < 2 ^ 31) : Int32.ofNat (2 * n) >>> ((1 : Int32) &&& 31) = Int32.ofNat n := by
  have e : ((1 : Int32) &&& 31) = 1 := by decide
  rw [e]
  apply Int32.toBitVec_inj.mp
  rw [Int32.toBitVec_shiftRight]
  have e1 : ((1 : Int32).toBitVec.smod 32) = 1#32 := by decide
  have hm : (BitVec.ofNat 32 (2 * n)).toNat = 2 * n := by rw [BitVec.toNat_ofNat, Nat.mod_eq_of_lt (by omega)]
  rw [e1, BitVec.sshiftRight_eq']
  apply BitVec.eq_of_toNat_eq
  show ((BitVec.ofNat 32 (2 * n)).sshiftRight 1).toNat = (BitVec.ofNat 32 n).toNat
  rw [BitVec.toNat_sshiftRight_of_msb_false (by rw [BitVec.msb_eq_false_iff_two_mul_lt, hm]; omega), hm, BitVec.toNat_ofNat, Nat.shiftRight_eq_div_pow]
  omega
/-- charAt's cast of a byte read back -/
def chr8 (u : Int32) : Int32 := (u &&& 255).toUInt32.toUInt16.toUInt32.toInt32
theorem chr8_lo8 {c : Int32} (h0 : ¬ c < 0) (h1 : ¬ 255 < c) : chr8 (lo8 c) = c := by
  have t : ∀ k : Fin 256, (Int32.ofNat k.val).toUInt32.toUInt16.toUInt32.toInt32 = Int32.ofNat k.val := by decide +kernel
  unfold chr8
  rw [lo8_mask h0 h1]
  rw [Int32.lt_iff_toInt_lt] at h0 h1
  have e0 : (0 : Int32).toInt = 0 := rfl
  have e1 : (255 : Int32).toInt = 255 := rfl
  obtain ⟨k, hk⟩ : ∃ k : Nat, c.toInt = k := ⟨c.toInt.toNat, by omega⟩
  have hx : c = Int32.ofNat k := Int32.toInt_inj.mp (by rw [hk, Int32.toInt_ofNat_small (by omega)])
  rw [hx]
  exact t ⟨k, by omega⟩
theorem narrow_ch {c : Int32} (h0 : ¬ c < 0) (h1 : ¬ 65535 < c) : narrow .char (.int c) = .int c := by
  have q : narrow .char (.int (pairCh (lo8 c) (hi8 c))) = .int (pairCh (lo8 c) (hi8 c)) := narrow_c _
  rwa [pair_says h0 h1] at q
/-- the array's cell V codes the n chars f 0 .. f (n - 1) by the coder cd, as the JDK does: coder 1 just where some char is above 255 -/
def Cod (cd : Int32) (n : Nat) (f : Nat → Int32) (V : Cell) : Prop := (cd = 0 ∧ V.slots.size = n ∧ ∀ j, j < n → V.slots[j]? = some (.int (lo8 (f j))) ∧ ¬ 255 < f j) ∨ (cd = 1 ∧ V.slots.size = 2 * n ∧ (∀ j, j < n → V.slots[2 * j]? = some (.int (lo8 (f j))) ∧ V.slots[2 * j + 1]? = some (.int (hi8 (f j)))) ∧ ∃ j, j < n ∧ 255 < f j)
theorem Cod.cd {cd : Int32} {n : Nat} {f : Nat → Int32} {V : Cell} (h : Cod cd n f V) : cd = 0 ∨ cd = 1 := h.imp (fun q => q.1) fun q => q.1
theorem Cod.len {cd : Int32} {n : Nat} {f : Nat → Int32} {V : Cell} (h : Cod cd n f V) (hs : V.slots.size < 2 ^ 31) : Int32.ofNat V.slots.size >>> (cd &&& 31) = Int32.ofNat n := by
  rcases h with ⟨rfl, h, -⟩ | ⟨rfl, h, -⟩
  · rw [shr0, h]
  · rw [h, shr1 (by omega)]
/-- **x is a String of the n chars f 0 .. f (n - 1)**, Latin-1 or UTF-16; its array at t has the cell V -/
def Txt (x t : Addr) (V : Cell) (cd : Int32) (n : Nat) (f : Nat → Int32) (U : State) : Prop := Exact "java/lang/String" x U ∧ Has x "java/lang/String" "value" "[B" (.ref t) U ∧ Has x "java/lang/String" "coder" "B" (.int cd) U ∧ XT.Arr .byte t V U ∧ Cod cd n f V ∧ ∀ j, j < n → ¬ f j < 0 ∧ ¬ 65535 < f j
theorem Txt.mv {x t : Addr} {V : Cell} {cd : Int32} {n : Nat} {f : Nat → Int32} {U U' : State} (h : Txt x t V cd n f U) (hal : U.vm.Alike U'.vm) (hh : U'.heap = U.heap) : Txt x t V cd n f U' := ⟨h.1.mv hal hh, h.2.1.mv hal hh, h.2.2.1.mv hal hh, h.2.2.2.1.mv hal hh, h.2.2.2.2⟩
namespace Cdr
def yN : MethodName := ⟨"java/lang/String", "coder", "()B"⟩
abbrev yB : ByteArray := jdk_42_method_152_code
theorem d0 : decode yB 0 = .ok (.getstatic 38, 3) := by decide +kernel
theorem d3 : decode yB 3 = .ok (.ifCond (.eq) 10, 3) := by decide +kernel
theorem d6 : decode yB 6 = .ok (.aload_n 0, 1) := by decide +kernel
theorem d7 : decode yB 7 = .ok (.getfield 15, 3) := by decide +kernel
theorem d10 : decode yB 10 = .ok (.goto 4, 3) := by decide +kernel
theorem d14 : decode yB 14 = .ok (.ireturn, 1) := by decide +kernel
def site : List Cond := [.fieldLink "java/lang/String" 38 "java/lang/String" "COMPACT_STRINGS" "Z", .fieldLink "java/lang/String" 15 "java/lang/String" "coder" "B"]
def tab : Cond := tabOf yN yB 1 (some .byte) site
def P (x : Addr) (cd z : Int32) (args : Array Value) (s : State) : Prop := args = #[.ref x] ∧ Has x "java/lang/String" "coder" "B" (.int cd) s ∧ (cd = 0 ∨ cd = 1) ∧ StaticIs s "java/lang/String" "COMPACT_STRINGS" "Z" (.int z) ∧ ¬ z = 0
def E (cd : Int32) (r : Option Value) (s u : State) : Prop := XT.PureE (some (.int cd)) r s u
theorem law (l : Launch) (x : Addr) (cd z : Int32) : Law l yN 1 0 0 0 yB 1 (some .byte) site (P x cd z) (E cd) [] 0 0 := by
  refine Law.of_walk (plainFor_of_name (by decide +kernel)) (by decide +kernel) (by decide +kernel) (by decide) (fun _ _ h => by rw [h.1]; rfl) (fun _ U U' hal hh h => ⟨h.1, h.2.1.mv hal hh, h.2.2.1, h.2.2.2.1.there hal hh, h.2.2.2.2⟩) (fun r U U' V V' h1 hal h2 h => XT.PureE.mv r U U' V V' h1 hal h2 h) ?_
  intro p e s m args below meth c s₁ X0 hexec hbytes hml hret hlk hnm hown hh0 W hP
  obtain ⟨rfl, hx, hc, s1, hz⟩ := hP
  have c1 : Steps p.tables e below (s₁.setTop (entryFrame m #[.ref x] 1)) (s₁.setTop (mkF m 0 #[.val (.ref x)] [])) := entry rfl
  obtain ⟨T2, X2, q2, st2⟩ := X0.sget hexec hown (wk W (.fieldLink "java/lang/String" 38 "java/lang/String" "COMPACT_STRINGS" "Z")) s1 (fun _ _ h => by rw [hh0]; exact h) (g := (mkF m 0 #[.val (.ref x)] [])) rfl (hb hbytes d0)
  have hh2 := q2.trans hh0
  have c3 : Steps p.tables e below (s₁.setTop (entryFrame m #[.ref x] 1)) (T2.setTop (mkF m 7 #[.val (.ref x)] [.ref x])) := (c1.trans (st2 _ (Steps.refl _))).trans (by
    refine XS.ifNo X2.here hexec rfl (hb hbytes d3) rfl (i0_eq_f hz) ?_
    refine XS.aloadN X2.here hexec rfl (hb hbytes d6) rfl rfl ?_
    exact Steps.refl _)
  obtain ⟨T4, X4, q4, st4⟩ := X2.hget hexec hown (wk W (.fieldLink "java/lang/String" 15 "java/lang/String" "coder" "B")) (hx.mv X2.warmed.alike hh2) (g := (mkF m 7 #[.val (.ref x)] [.ref x])) rfl (rest := []) rfl (hb hbytes d7)
  have c5 : Steps p.tables e below (s₁.setTop (entryFrame m #[.ref x] 1)) (T4.setTop (mkF m 14 #[.val (.ref x)] [.int cd])) := (c3.trans (st4 _ (Steps.refl _))).trans (by
    refine XS.goto X4.here hexec rfl (pc0 := 10) rfl (hb hbytes d10) (by decide) rfl ?_
    exact Steps.refl _)
  exact ⟨T4, some (.int cd), _, _, _, X4, rfl, rfl, rfl, (fun h => by cases h), ⟨rfl, q4.trans hh2⟩, fun fs hl => c5.trans (X4.ireturnOut hexec hret (by rcases hc with rfl | rfl <;> rfl) (Or.inr (Or.inr (Or.inl rfl))) (hb hbytes d14) hl)⟩
end Cdr
namespace Len
def yN : MethodName := ⟨"java/lang/String", "length", "()I"⟩
abbrev yB : ByteArray := jdk_42_method_54_code
theorem d0 : decode yB 0 = .ok (.aload_n 0, 1) := by decide +kernel
theorem d1 : decode yB 1 = .ok (.getfield 9, 3) := by decide +kernel
theorem d4 : decode yB 4 = .ok (.arraylength, 1) := by decide +kernel
theorem d5 : decode yB 5 = .ok (.aload_n 0, 1) := by decide +kernel
theorem d6 : decode yB 6 = .ok (.invokevirtual 335, 3) := by decide +kernel
theorem d9 : decode yB 9 = .ok (.ishr, 1) := by decide +kernel
theorem d10 : decode yB 10 = .ok (.ireturn, 1) := by decide +kernel
def site : List Cond := [.fieldLink "java/lang/String" 9 "java/lang/String" "value" "[B", Cdr.tab] ++ virtW "java/lang/String" 335 "java/lang/String" Cdr.yN Cdr.yN
def tab : Cond := tabOf yN yB 1 (some .int) site
def P (x t : Addr) (V : Cell) (cd : Int32) (n : Nat) (f : Nat → Int32) (z : Int32) (args : Array Value) (s : State) : Prop := args = #[.ref x] ∧ Txt x t V cd n f s ∧ StaticIs s "java/lang/String" "COMPACT_STRINGS" "Z" (.int z) ∧ ¬ z = 0
def E (n : Nat) (r : Option Value) (s u : State) : Prop := XT.PureE (some (.int (Int32.ofNat n))) r s u
/-- length() of a String of n chars, in either coding -/
theorem law (l : Launch) (x t : Addr) (V : Cell) (cd : Int32) (n : Nat) (f : Nat → Int32) (z : Int32) : Law l yN 1 0 1 13 yB 1 (some .int) site (P x t V cd n f z) (E n) [] 0 0 := by
  refine Law.of_walk (plainFor_of_name (by decide +kernel)) (by decide +kernel) (by decide +kernel) (by decide) (fun _ _ h => by rw [h.1]; rfl) (fun _ U U' hal hh h => ⟨h.1, h.2.1.mv hal hh, h.2.2.1.there hal hh, h.2.2.2⟩) (fun r U U' V V' h1 hal h2 h => XT.PureE.mv r U U' V V' h1 hal h2 h) ?_
  intro p e s m args below meth c s₁ X0 hexec hbytes hml hret hlk hnm hown hh0 W hP
  obtain ⟨rfl, hx, s1, hz⟩ := hP
  have v31 := hx.2.2.2.1.2.2.2
  have c1 : Steps p.tables e below (s₁.setTop (entryFrame m #[.ref x] 1)) (s₁.setTop (mkF m 1 #[.val (.ref x)] [.ref x])) := Steps.trans (entry rfl) (by
    show Steps p.tables e below (s₁.setTop (mkF m 0 #[.val (.ref x)] [])) _
    refine XS.aloadN X0.here hexec rfl (hb hbytes d0) rfl rfl ?_
    exact Steps.refl _)
  obtain ⟨T2, X2, q2, st2⟩ := X0.hget hexec hown (wk W (.fieldLink "java/lang/String" 9 "java/lang/String" "value" "[B")) (hx.mv X0.warmed.alike hh0).2.1 (g := (mkF m 1 #[.val (.ref x)] [.ref x])) rfl (rest := []) rfl (hb hbytes d1)
  have hh2 := q2.trans hh0
  have hx2 := hx.mv X2.warmed.alike hh2
  have c3 : Steps p.tables e below (s₁.setTop (entryFrame m #[.ref x] 1)) (T2.setTop (mkF m 6 #[.val (.ref x)] [.ref x, .int (Int32.ofNat V.slots.size)])) := (c1.trans (st2 _ (Steps.refl _))).trans (by
    refine X2.alen hexec hx2.2.2.2.1 rfl rfl (hb hbytes d4) ?_
    refine XS.aloadN X2.here hexec rfl (hb hbytes d5) rfl rfl ?_
    exact Steps.refl _)
  obtain ⟨v4, T4, X4, E4, g4⟩ := X2.callV hexec (Cdr.law l x cd z) hown (wks W (virtW "java/lang/String" 335 "java/lang/String" Cdr.yN Cdr.yN)) rfl (by decide) (wk W Cdr.tab) (W := 1) (Nat.le_of_ble_eq_true rfl) (Nat.le_of_ble_eq_true rfl) (Nat.le_refl _) (Nat.le_refl _) (hx2.1.fc X2.warmed.alike) hx2.1.is (g := (mkF m 6 #[.val (.ref x)] [.ref x, .int (Int32.ofNat V.slots.size)])) rfl (by rw [hml]; rfl) c3 (argsL := []) (rest := [.int (Int32.ofNat V.slots.size)]) rfl rfl (by show 2 * 0 + (1 + 0) ≤ _; decide) (hb hbytes d6) (⟨rfl, hx2.2.2.1, hx.2.2.2.2.1.cd, s1.there X2.warmed.alike hh2, hz⟩)
  obtain ⟨rfl, q4⟩ := E4
  have c5 : Steps p.tables e below (s₁.setTop (entryFrame m #[.ref x] 1)) (T4.setTop (mkF m 10 #[.val (.ref x)] [.int (Int32.ofNat V.slots.size >>> (cd &&& 31))])) := Steps.trans g4 (by
    refine ishr X4.here hexec rfl (hb hbytes d9) rfl ?_
    exact Steps.refl _)
  rw [hx.2.2.2.2.1.len v31] at c5
  exact ⟨T4, some (.int (Int32.ofNat n)), _, _, _, X4, rfl, rfl, rfl, (fun h => by cases h), ⟨rfl, q4.trans hh2⟩, fun fs hl => c5.trans (X4.ireturnOut hexec hret rfl (Or.inl rfl) (hb hbytes d10) hl)⟩
theorem pays {l : Launch} {R : Room} {p : Program} {e : Env} {below : List Frame} {s : State} {sargs : Array Value} {len W : Nat} (x t : Addr) (V : Cell) (cd : Int32) (n : Nat) (f : Nat → Int32) (z : Int32) (htab : tab.before sargs s = true) (hfr : 2 ≤ R.frames) (hlo : W + 25 ≤ R.locals) :
    Back l R p e below s sargs yN len W (fun A₁ a₁ => A₁.cells + 0 ≤ R.cells ∧ A₁.slots + 0 ≤ R.slots ∧ P x t V cd n f z a₁ A₁.U) (fun A₁ _ v₁ B₁ => E n v₁ A₁.U B₁.U ∧ B₁.locs = A₁.locs ++ [] ∧ B₁.cells = A₁.cells + 0 ∧ B₁.slots = A₁.slots + 0) :=
  (law l x t V cd n f z).pays htab hfr (by omega)
end Len
namespace IsL
def yN : MethodName := ⟨"java/lang/String", "isLatin1", "()Z"⟩
abbrev yB : ByteArray := jdk_42_method_154_code
theorem d0 : decode yB 0 = .ok (.getstatic 38, 3) := by decide +kernel
theorem d3 : decode yB 3 = .ok (.ifCond (.eq) 14, 3) := by decide +kernel
theorem d6 : decode yB 6 = .ok (.aload_n 0, 1) := by decide +kernel
theorem d7 : decode yB 7 = .ok (.getfield 15, 3) := by decide +kernel
theorem d10 : decode yB 10 = .ok (.ifCond (.ne) 7, 3) := by decide +kernel
theorem d13 : decode yB 13 = .ok (.iconst 1, 1) := by decide +kernel
theorem d14 : decode yB 14 = .ok (.goto 4, 3) := by decide +kernel
theorem d17 : decode yB 17 = .ok (.iconst 0, 1) := by decide +kernel
theorem d18 : decode yB 18 = .ok (.ireturn, 1) := by decide +kernel
def site : List Cond := [.fieldLink "java/lang/String" 38 "java/lang/String" "COMPACT_STRINGS" "Z", .fieldLink "java/lang/String" 15 "java/lang/String" "coder" "B"]
def tab : Cond := tabOf yN yB 1 (some .boolean) site
def P (x : Addr) (cd z : Int32) (args : Array Value) (s : State) : Prop := args = #[.ref x] ∧ Has x "java/lang/String" "coder" "B" (.int cd) s ∧ (cd = 0 ∨ cd = 1) ∧ StaticIs s "java/lang/String" "COMPACT_STRINGS" "Z" (.int z) ∧ ¬ z = 0
def E (cd : Int32) (r : Option Value) (s u : State) : Prop := XT.PureE (some (.int (1 - cd))) r s u
theorem law (l : Launch) (x : Addr) (cd z : Int32) : Law l yN 1 0 0 0 yB 1 (some .boolean) site (P x cd z) (E cd) [] 0 0 := by
  refine Law.of_walk (plainFor_of_name (by decide +kernel)) (by decide +kernel) (by decide +kernel) (by decide) (fun _ _ h => by rw [h.1]; rfl) (fun _ U U' hal hh h => ⟨h.1, h.2.1.mv hal hh, h.2.2.1, h.2.2.2.1.there hal hh, h.2.2.2.2⟩) (fun r U U' V V' h1 hal h2 h => XT.PureE.mv r U U' V V' h1 hal h2 h) ?_
  intro p e s m args below meth c s₁ X0 hexec hbytes hml hret hlk hnm hown hh0 W hP
  obtain ⟨rfl, hx, hc, s1, hz⟩ := hP
  have c1 : Steps p.tables e below (s₁.setTop (entryFrame m #[.ref x] 1)) (s₁.setTop (mkF m 0 #[.val (.ref x)] [])) := entry rfl
  obtain ⟨T2, X2, q2, st2⟩ := X0.sget hexec hown (wk W (.fieldLink "java/lang/String" 38 "java/lang/String" "COMPACT_STRINGS" "Z")) s1 (fun _ _ h => by rw [hh0]; exact h) (g := (mkF m 0 #[.val (.ref x)] [])) rfl (hb hbytes d0)
  have hh2 := q2.trans hh0
  have c3 : Steps p.tables e below (s₁.setTop (entryFrame m #[.ref x] 1)) (T2.setTop (mkF m 7 #[.val (.ref x)] [.ref x])) := (c1.trans (st2 _ (Steps.refl _))).trans (by
    refine XS.ifNo X2.here hexec rfl (hb hbytes d3) rfl (i0_eq_f hz) ?_
    refine XS.aloadN X2.here hexec rfl (hb hbytes d6) rfl rfl ?_
    exact Steps.refl _)
  obtain ⟨T4, X4, q4, st4⟩ := X2.hget hexec hown (wk W (.fieldLink "java/lang/String" 15 "java/lang/String" "coder" "B")) (hx.mv X2.warmed.alike hh2) (g := (mkF m 7 #[.val (.ref x)] [.ref x])) rfl (rest := []) rfl (hb hbytes d7)
  have c5 : Steps p.tables e below (s₁.setTop (entryFrame m #[.ref x] 1)) (T4.setTop (mkF m 10 #[.val (.ref x)] [.int cd])) := c3.trans (st4 _ (Steps.refl _))
  have c6 : Steps p.tables e below (s₁.setTop (entryFrame m #[.ref x] 1)) (T4.setTop (mkF m 18 #[.val (.ref x)] [.int (1 - cd)])) := by
    rcases hc with rfl | rfl
    · exact c5.trans (by
        refine XS.ifNo X4.here hexec rfl (hb hbytes d10) rfl (i0_ne_f rfl) ?_
        refine iconstV X4.here hexec rfl 1 (hb hbytes d13) (by decide) ?_
        refine XS.goto X4.here hexec rfl (pc0 := 14) rfl (hb hbytes d14) (by decide) rfl ?_
        exact Steps.refl _)
    · exact c5.trans (by
        refine XS.ifYes X4.here hexec rfl (pc0 := 10) rfl (hb hbytes d10) rfl (i0_ne_t (by decide)) (by decide) rfl ?_
        refine iconstV X4.here hexec rfl 0 (hb hbytes d17) (by decide) ?_
        exact Steps.refl _)
  exact ⟨T4, some (.int (1 - cd)), _, _, _, X4, rfl, rfl, rfl, (fun h => by cases h), ⟨rfl, q4.trans hh2⟩, fun fs hl => c6.trans (X4.ireturnOut hexec hret (by rcases hc with rfl | rfl <;> rfl) (Or.inr (Or.inl rfl)) (hb hbytes d18) hl)⟩
end IsL
namespace LChA
def yN : MethodName := ⟨"java/lang/StringLatin1", "charAt", "([BI)C"⟩
abbrev yB : ByteArray := jdk_43_method_2_code
theorem d0 : decode yB 0 = .ok (.iload_n 1, 1) := by decide +kernel
theorem d1 : decode yB 1 = .ok (.aload_n 0, 1) := by decide +kernel
theorem d2 : decode yB 2 = .ok (.arraylength, 1) := by decide +kernel
theorem d3 : decode yB 3 = .ok (.invokestatic 9, 3) := by decide +kernel
theorem d6 : decode yB 6 = .ok (.aload_n 0, 1) := by decide +kernel
theorem d7 : decode yB 7 = .ok (.iload_n 1, 1) := by decide +kernel
theorem d8 : decode yB 8 = .ok (.baload, 1) := by decide +kernel
theorem d9 : decode yB 9 = .ok (.sipush 255, 3) := by decide +kernel
theorem d12 : decode yB 12 = .ok (.iand, 1) := by decide +kernel
theorem d13 : decode yB 13 = .ok (.i2c, 1) := by decide +kernel
theorem d14 : decode yB 14 = .ok (.ireturn, 1) := by decide +kernel
def site : List Cond := [JO.Str_checkIndex.tab] ++ staticW "java/lang/StringLatin1" 9 JO.Str_checkIndex.yN
def tab : Cond := tabOf yN yB 2 (some .char) site
def P (t : Addr) (V : Cell) (i : Nat) (u : Int32) (fm : Value) (args : Array Value) (s : State) : Prop := args = #[.ref t, .int (Int32.ofNat i)] ∧ XT.Arr .byte t V s ∧ V.slots[i]? = some (.int u) ∧ (StaticIs s "jdk/internal/util/Preconditions" "SIOOBE_FORMATTER" "Ljava/util/function/BiFunction;" fm ∧ fm.isRef = true)
def E (u : Int32) (r : Option Value) (s w : State) : Prop := XT.PureE (some (.int (chr8 u))) r s w
theorem law (l : Launch) (t : Addr) (V : Cell) (i : Nat) (u : Int32) (fm : Value) : Law l yN 2 2 2 27 yB 2 (some .char) site (P t V i u fm) (E u) [] 0 0 := by
  refine Law.of_walk (plainFor_of_name (by decide +kernel)) (by decide +kernel) (by decide +kernel) (by decide) (fun _ _ h => by rw [h.1]; rfl) (fun _ U U' hal hh h => ⟨h.1, h.2.1.mv hal hh, h.2.2.1, h.2.2.2.1.there hal hh, h.2.2.2.2⟩) (fun r U U' V V' h1 hal h2 h => XT.PureE.mv r U U' V V' h1 hal h2 h) ?_
  intro p e s m args below meth c s₁ X0 hexec hbytes hml hret hlk hnm hown hh0 W hP
  obtain ⟨rfl, hV, hu, s1, rf⟩ := hP
  have v31 := hV.2.2.2
  have hi : i < V.slots.size := (Array.getElem?_eq_some_iff.mp hu).1
  have c1 : Steps p.tables e below (s₁.setTop (entryFrame m #[.ref t, .int (Int32.ofNat i)] 2)) (s₁.setTop (mkF m 0 #[.val (.ref t), .val (.int (Int32.ofNat i))] [])) := entry rfl
  have c2 : Steps p.tables e below (s₁.setTop (entryFrame m #[.ref t, .int (Int32.ofNat i)] 2)) (s₁.setTop (mkF m 3 #[.val (.ref t), .val (.int (Int32.ofNat i))] [.int (Int32.ofNat V.slots.size), .int (Int32.ofNat i)])) := c1.trans (by
    refine XS.iloadN X0.here hexec rfl (hb hbytes d0) rfl ?_
    refine XS.aloadN X0.here hexec rfl (hb hbytes d1) rfl rfl ?_
    refine X0.alen hexec (hV.mv X0.warmed.alike hh0) rfl rfl (hb hbytes d2) ?_
    exact Steps.refl _)
  obtain ⟨v3, T3, X3, E3, g3⟩ := X0.callS hexec (JO.Str_checkIndex.law l (Int32.ofNat i) (Int32.ofNat V.slots.size) fm) hown (wks W (staticW "java/lang/StringLatin1" 9 JO.Str_checkIndex.yN)) (wk W JO.Str_checkIndex.tab) (W := 0) (Nat.le_of_ble_eq_true rfl) (Nat.le_of_ble_eq_true rfl) (Nat.le_refl _) (Nat.le_refl _) (g := (mkF m 3 #[.val (.ref t), .val (.int (Int32.ofNat i))] [.int (Int32.ofNat V.slots.size), .int (Int32.ofNat i)])) rfl (by rw [hml]; rfl) c2 (argsL := [.int (Int32.ofNat i), .int (Int32.ofNat V.slots.size)]) (rest := []) rfl rfl (by show 2 * 0 + 0 ≤ _; decide) (hb hbytes d3) (⟨rfl, rf, s1.there X0.warmed.alike hh0, Int32.ofNat_not_neg (by omega), lt32 v31 hi⟩)
  obtain ⟨rfl, q3⟩ := E3
  have hh3 := q3.trans hh0
  have c4 : Steps p.tables e below (s₁.setTop (entryFrame m #[.ref t, .int (Int32.ofNat i)] 2)) (T3.setTop (mkF m 14 #[.val (.ref t), .val (.int (Int32.ofNat i))] [.int (chr8 u)])) := Steps.trans g3 (by
    refine XS.aloadN X3.here hexec rfl (hb hbytes d6) rfl rfl ?_
    refine XS.iloadN X3.here hexec rfl (hb hbytes d7) rfl ?_
    refine X3.aget hexec (hV.mv X3.warmed.alike hh3) rfl hu rfl rfl (hb hbytes d8) ?_
    refine sipushV X3.here hexec rfl 255 (hb hbytes d9) (by decide) ?_
    refine XS.iand X3.here hexec rfl (hb hbytes d12) rfl ?_
    refine i2c X3.here hexec rfl (hb hbytes d13) rfl ?_
    exact Steps.refl _)
  exact ⟨T3, some (.int (chr8 u)), _, _, _, X3, rfl, rfl, rfl, (fun h => by cases h), ⟨rfl, hh3⟩, fun fs hl => c4.trans (X3.ireturnOut hexec hret (narrow_c _) (Or.inr (Or.inr (Or.inr (Or.inl rfl)))) (hb hbytes d14) hl)⟩
end LChA
end StrChars
namespace StrChars.Road
open Jvm Sem ClassFile Op Lib Jvm.Stand Jvm.Free Jvm.Free.XT
open Jvm.Lib.Cold (StaticIs)
theorem consq {a : Array Value} {s : State} {c : Jvm.Cond} {L : List Jvm.Cond} (h0 : c.before a s = true) (h : ∀ w ∈ L, w.before a s = true) : ∀ w ∈ c :: L, w.before a s = true := fun w hw => (List.mem_cons.mp hw).elim (fun e => e ▸ h0) (h w)
/-- the words of String.length(), either coding -/
abbrev wordsLen : List Jvm.Cond := [.code Len.yN Len.yB 1 (some .int), .initialized ST, .fieldLink ST 9 ST "value" "[B", .fieldLink ST 38 ST "COMPACT_STRINGS" "Z", .fieldLink ST 15 ST "coder" "B", .code Cdr.yN Cdr.yB 1 (some .byte), .methodLink ST 335 Cdr.yN, .declares Cdr.yN, .selects ST Cdr.yN Cdr.yN, .instanceMethod Cdr.yN]
theorem tabLen_of {a : Array Value} {s : State} (h : ∀ w ∈ wordsLen, w.before a s = true) : Len.tab.before a s = true := by
  have hc : Cdr.tab.before a s = true := unparts (wk h (.code Cdr.yN Cdr.yB 1 (some .byte))) (wks h (.initialized Cdr.yN.cls :: Cdr.site))
  have q := consq hc h
  exact unparts (wk q (.code Len.yN Len.yB 1 (some .int))) (wks q (.initialized Len.yN.cls :: Len.site))
theorem movedLen {Z s : State} {a0 args : Array Value} (hZ : Z.Warmed39 s.vm) (hw : ∀ d ∈ wordsLen, d.before a0 Z = true) : ∀ d ∈ wordsLen, d.before args s = true := fun d hd => by
  have q := hw d hd
  have t : ∀ d ∈ wordsLen, d = .arrayClass .byte ∨ (d.onTables && d.keepsFace) = true := by decide +kernel
  rcases t d hd with rfl | t
  · exact RoadKit.mvA hZ q
  · exact RoadKit.mv hZ q t
/-- the bytes of the chars cs, low before high -/
def wideBytes : List Int32 → List Value
  | [] => []
  | c :: cs => .int (lo8 c) :: .int (hi8 c) :: wideBytes cs
theorem wide_lo (d : Value) : ∀ (cs : List Int32) (j : Nat), j < cs.length → (wideBytes cs).getD (2 * j) d = .int (lo8 (cs.getD j 0))
  | [], j, h => absurd h (Nat.not_lt_zero j)
  | c :: cs, 0, _ => rfl
  | c :: cs, j + 1, h => by
    have q := wide_lo d cs j (by simpa using h)
    rw [show 2 * (j + 1) = 2 * j + 1 + 1 from by omega]
    simpa [wideBytes] using q
theorem wide_hi (d : Value) : ∀ (cs : List Int32) (j : Nat), j < cs.length → (wideBytes cs).getD (2 * j + 1) d = .int (hi8 (cs.getD j 0))
  | [], j, h => absurd h (Nat.not_lt_zero j)
  | c :: cs, 0, _ => rfl
  | c :: cs, j + 1, h => by
    have q := wide_hi d cs j (by simpa using h)
    rw [show 2 * (j + 1) + 1 = 2 * j + 1 + 1 + 1 from by omega]
    simpa [wideBytes] using q
theorem low_at (d : Value) (cs : List Int32) (j : Nat) (h : j < cs.length) : (cs.map fun c => Value.int (lo8 c)).getD j d = .int (lo8 (cs.getD j 0)) := by
  simp [List.getD_eq_getElem?_getD, h]
/-- an array of N2 bytes vs codes the chars cs by the coder cd -/
def CodA (cs : List Int32) (cd N2 : Int32) (vs : List Value) : Prop := (cd = 0 ∧ N2 = Int32.ofNat cs.length ∧ vs = (cs.map fun c => Value.int (lo8 c)) ∧ ∀ c ∈ cs, ¬ 255 < c) ∨ (cd = 1 ∧ N2 = Int32.ofNat (2 * cs.length) ∧ vs = wideBytes cs ∧ ∃ c ∈ cs, 255 < c)
theorem CodA.cod {cs : List Int32} {cd N2 : Int32} {vs : List Value} {V : Cell} (h : CodA cs cd N2 vs) (hn : 2 * cs.length < 2 ^ 31) (hs : V.slots.size = N2.toNatClampNeg) (hv : RoadKit.Has V vs (.int 0)) : Cod cd cs.length (fun j => cs.getD j 0) V := by
  rcases h with ⟨rfl, rfl, rfl, h⟩ | ⟨rfl, rfl, rfl, c, hc, hw⟩
  · rw [n32 (by omega)] at hs
    exact Or.inl ⟨rfl, hs, fun j hj => ⟨by rw [hv j (by omega), low_at _ _ _ hj], by
      have e : cs.getD j 0 = cs[j] := by simp [List.getD_eq_getElem?_getD, hj]
      show ¬ 255 < cs.getD j 0
      rw [e]; exact h _ (List.getElem_mem _)⟩⟩
  · rw [n32 (by omega)] at hs
    obtain ⟨j, hj, rfl⟩ := List.getElem_of_mem hc
    exact Or.inr ⟨rfl, hs, fun j hj => ⟨by rw [hv _ (by omega), wide_lo _ _ _ hj], by rw [hv _ (by omega), wide_hi _ _ _ hj]⟩, j, hj, by
      have e : cs.getD j 0 = cs[j] := by simp [List.getD_eq_getElem?_getD, hj]
      show 255 < cs.getD j 0
      rw [e]; exact hw⟩
/-- an object of exactly java/lang/String, its two fields found: as the laws ask it -/
theorem strObj {Z U : State} {a0 : Array Value} {kI : Nat} (wi : (Jvm.Cond.instantiable ST kI).before a0 Z = true) (al : Z.vm.Alike U.vm) {x : Addr} {v0 c0 : Value} (E : RoadKit.Exa Z U.heap x ST) (V : RoadKit.Fld Z U.heap x ST "value" "[B" v0) (C : RoadKit.Fld Z U.heap x ST "coder" "B" c0) :
    ∃ (D : Cell) (fV fC : Field), Blank ST x D U ∧ Found ST "value" "[B" fV U ∧ Found ST "coder" "B" fC U ∧ D.slots[fV.slot]? = some v0 ∧ D.slots[fC.slot]? = some c0 ∧ RoadKit.slotOf Z ST "value" "[B" = fV.slot ∧ RoadKit.slotOf Z ST "coder" "B" = fC.slot := by
  obtain ⟨D, cfV, kV, iV, fV, hD, gV, stV, knV, obV, asV, slV⟩ := V
  obtain ⟨D', cfC, kC, iC, fC, hD', gC, stC, -, -, asC, slC⟩ := C
  cases hD.symm.trans hD'
  obtain ⟨D2, kD, e1, e2, e3, e4, e5⟩ := E
  cases hD.symm.trans e1
  obtain ⟨c2, k2, i1, i2, i3, -⟩ := Cond.instantiable_spec wi
  cases e2.symm.trans i1
  cases e3.symm.trans i2
  obtain ⟨kU, u1, u2⟩ := al.2.2 _ _ e3
  exact ⟨D, fV, fC, ⟨hD, ⟨knV, fun q hq => by rw [hq] at obV; cases obV⟩, by rw [al.findClass]; exact e2, kU, u1, by rw [u2]; exact i3, by rw [u2]; exact e5 i3⟩, ⟨SBG.found_only al ⟨cfV, kV, iV, gV⟩, stV⟩, ⟨SBG.found_only al ⟨cfC, kC, iC, gC⟩, stC⟩, slV, slC, by simp [RoadKit.slotOf, gV], by simp [RoadKit.slotOf, gC]⟩
theorem sta_is {Z U : State} (al : Z.vm.Alike U.vm) {C n d : String} {v : Value} (S : RoadKit.Sta Z U.heap C n d v) : StaticIs U C n d v := by
  obtain ⟨cfS, iS, kS, fS, st, cS, t1, t2, t3, t4, t5, t6, t7⟩ := S
  exact StaticIs.there (s := { Z with heap := U.heap }) ⟨cfS, iS, kS, fS, st, cS, t1, t2, t3, t4, t5, (fun q => by rw [q] at t6; cases t6), t7⟩ al rfl
/-- **length() OF SUCH A STRING** -/
theorem lenW {p : Program} {l : Launch} {e : Env} {R : Room} {s : State} {args : Array Value} {below : List Frame} {len W : Nat} {Z : State} {a0 : Array Value} {h : Heap} (hZ : Z.Warmed39 s.vm) (hw : ∀ d ∈ wordsLen, d.before a0 Z = true) {kI : Nat} (wi : (Jvm.Cond.instantiable ST kI).before a0 Z = true)
    {x t : Addr} {kb : ClassId} {cs : List Int32} {cd N2 z : Int32} {vs : List Value} (E : RoadKit.Exa Z h x ST) (V : RoadKit.Fld Z h x ST "value" "[B" (.ref t)) (C : RoadKit.Fld Z h x ST "coder" "B" (.int cd)) (K : RoadKit.Arv Z h t kb .byte N2 vs (.int 0)) (hc : CodA cs cd N2 vs) (hb : ∀ c ∈ cs, ¬ c < 0 ∧ ¬ (65535 : Int32) < c)
    (S : RoadKit.Sta Z h ST "COMPACT_STRINGS" "Z" (.int z)) (hz : ¬ z = 0) (l2 : cs.length ≤ 4000) (hfr : 2 ≤ R.frames) (hlo : W + 25 ≤ R.locals) :
    Back l R p e below s args (⟨"java/lang/String", "length", "()I"⟩ : MethodName) len W (fun P a => a = #[.ref x] ∧ P.U.heap = h ∧ P.cells + 0 ≤ R.cells ∧ P.slots + 0 ≤ R.slots)
      (fun P _ v B => ∃ L, (v = some (.int (Int32.ofNat cs.length)) ∧ L = [] ∧ B.U.heap = h) ∧ B.locs = P.locs ++ L ∧ B.cells = P.cells + 0 ∧ B.slots = P.slots + 0) := by
  obtain ⟨A, K1, K2, K3, K4, K5, K6⟩ := K
  have hcod := hc.cod (by omega) K3 K5
  intro m meth c P g ig mk a X hg hsize hdg hW hn hp'
  obtain ⟨rfl, rfl, r1, r2⟩ := hp'
  have al : Z.vm.Alike P.U.vm := hZ.alike.trans X.warmed.alike
  obtain ⟨D, fV, fC, hB, F1, F2, g1, g2, -, -⟩ := strObj wi al E V C
  have hx : Txt x t A cd cs.length (fun j => cs.getD j 0) P.U := ⟨⟨_, hB.2.2.1, D, hB.1, rfl, by cases q : D.vm <;> first | rfl | exact absurd q (hB.2.1.2 _)⟩, Has.of hB F1 g1, Has.of hB F2 g2, ⟨K1.1, State.isArrayOf_alike al K1.2.1, K1.2.2, by rcases hcod with ⟨-, q, -⟩ | ⟨-, q, -⟩ <;> omega⟩, hcod, fun j hj => by
    have e : cs.getD j 0 = cs[j] := by simp [List.getD_eq_getElem?_getD, hj]
    show ¬ cs.getD j 0 < 0 ∧ ¬ 65535 < cs.getD j 0
    rw [e]; exact hb _ (List.getElem_mem _)⟩
  obtain ⟨v, B, X', ⟨⟨hv, hh⟩, hl, hk, hs⟩, st⟩ := Len.pays x t A cd cs.length (fun j => cs.getD j 0) z (tabLen_of (movedLen hZ hw)) hfr hlo m meth c P g ig mk _ X hg hsize hdg hW hn ⟨r1, r2, rfl, hx, sta_is al S, hz⟩
  exact ⟨v, B, X', ⟨[], ⟨hv, rfl, hh⟩, hl, hk, hs⟩, st⟩
end StrChars.Road
namespace StrChars
open Jvm Sem ClassFile Op Lib Jvm.Stand Jvm.Free.XT Jvm.Free.ALB Jvm.Free.JM Jvm.Free
open Jvm.Lib.Cold (StaticIs)
/-- what place i of a byte[]'s cell holds -/
def yv (A : Cell) (i : Nat) : Int32 := match A.slots[i]? with | some (.int x) => x | _ => 0
theorem yv_get {a : Addr} {A : Cell} {U : State} (h : XT.Arr .byte a A U) (ht : Typed .byte A) {i : Nat} (hi : i < A.slots.size) : A.slots[i]? = some (.int (yv A i)) := by
  have e := Array.getElem?_eq_getElem hi
  have f := ht i _ e
  unfold yv; rw [e]
  generalize A.slots[i] = v at f
  cases v <;> simp [fits] at f ⊢
/-- the two arrays are equal, place for place -/
def EqC (A B : Cell) : Prop := A.slots.size = B.slots.size ∧ ∀ i, i < A.slots.size → yv A i = yv B i
/-- a boolean that says whether p -/
def Says01 (q : Prop) (r : Option Value) (s u : State) : Prop := ∃ v : Int32, r = some (.int v) ∧ u.heap = s.heap ∧ ((v = 1 ∧ q) ∨ (v = 0 ∧ ¬ q))
theorem Says01.mv {q : Prop} : ∀ r (U U' V V' : State), U'.heap = U.heap → V.vm.Alike V'.vm → V'.heap = V.heap → Says01 q r U V → Says01 q r U' V' :=
  fun r U U' V V' h1 _ h2 ⟨v, a, b, c⟩ => ⟨v, a, by rw [h1, h2]; exact b, c⟩
namespace LEq
def yN : MethodName := ⟨"java/lang/StringLatin1", "equals", "([B[B)Z"⟩
abbrev yB : ByteArray := jdk_43_method_13_code
theorem d0 : decode yB 0 = .ok (.aload_n 0, 1) := by decide +kernel
theorem d1 : decode yB 1 = .ok (.arraylength, 1) := by decide +kernel
theorem d2 : decode yB 2 = .ok (.aload_n 1, 1) := by decide +kernel
theorem d3 : decode yB 3 = .ok (.arraylength, 1) := by decide +kernel
theorem d4 : decode yB 4 = .ok (.if_icmp (.ne) 30, 3) := by decide +kernel
theorem d7 : decode yB 7 = .ok (.iconst 0, 1) := by decide +kernel
theorem d8 : decode yB 8 = .ok (.istore_n 2, 1) := by decide +kernel
theorem d9 : decode yB 9 = .ok (.iload_n 2, 1) := by decide +kernel
theorem d10 : decode yB 10 = .ok (.aload_n 0, 1) := by decide +kernel
theorem d11 : decode yB 11 = .ok (.arraylength, 1) := by decide +kernel
theorem d12 : decode yB 12 = .ok (.if_icmp (.ge) 20, 3) := by decide +kernel
theorem d15 : decode yB 15 = .ok (.aload_n 0, 1) := by decide +kernel
theorem d16 : decode yB 16 = .ok (.iload_n 2, 1) := by decide +kernel
theorem d17 : decode yB 17 = .ok (.baload, 1) := by decide +kernel
theorem d18 : decode yB 18 = .ok (.aload_n 1, 1) := by decide +kernel
theorem d19 : decode yB 19 = .ok (.iload_n 2, 1) := by decide +kernel
theorem d20 : decode yB 20 = .ok (.baload, 1) := by decide +kernel
theorem d21 : decode yB 21 = .ok (.if_icmp (.eq) 5, 3) := by decide +kernel
theorem d24 : decode yB 24 = .ok (.iconst 0, 1) := by decide +kernel
theorem d25 : decode yB 25 = .ok (.ireturn, 1) := by decide +kernel
theorem d26 : decode yB 26 = .ok (.iinc 2 1, 3) := by decide +kernel
theorem d29 : decode yB 29 = .ok (.goto (-20), 3) := by decide +kernel
theorem d32 : decode yB 32 = .ok (.iconst 1, 1) := by decide +kernel
theorem d33 : decode yB 33 = .ok (.ireturn, 1) := by decide +kernel
theorem d34 : decode yB 34 = .ok (.iconst 0, 1) := by decide +kernel
theorem d35 : decode yB 35 = .ok (.ireturn, 1) := by decide +kernel
def site : List Cond := []
def tab : Cond := tabOf yN yB 3 (some .boolean) site
def P (a : Addr) (A : Cell) (b : Addr) (B : Cell) (args : Array Value) (s : State) : Prop := args = #[.ref a, .ref b] ∧ XT.Arr .byte a A s ∧ Typed .byte A ∧ XT.Arr .byte b B s ∧ Typed .byte B
/-- whether two byte[] are equal, place for place -/
theorem law (l : Launch) (a : Addr) (A : Cell) (b : Addr) (B : Cell) : Law l yN 2 2 0 0 yB 3 (some .boolean) site (P a A b B) (Says01 (EqC A B)) [] 0 0 := by
  refine Law.of_walk (plainFor_of_name (by decide +kernel)) (by decide +kernel) (by decide +kernel) (by decide) (fun _ _ h => by rw [h.1]; rfl) (fun _ U U' hal hh h => ⟨h.1, h.2.1.mv hal hh, h.2.2.1, h.2.2.2.1.mv hal hh, h.2.2.2.2⟩) (fun r U U' V V' h1 hal h2 h => Says01.mv r U U' V V' h1 hal h2 h) ?_
  intro p e s m args below meth c s₁ X0 hexec hbytes hml hret hlk hnm hown hh0 W hP
  obtain ⟨rfl, hA, tA, hB, tB⟩ := hP
  have a31 := hA.2.2.2
  have b31 := hB.2.2.2
  have hA0 := hA.mv X0.warmed.alike hh0
  have hB0 := hB.mv X0.warmed.alike hh0
  have c1 : Steps p.tables e below (s₁.setTop (entryFrame m #[.ref a, .ref b] 3)) (s₁.setTop (mkF m 0 #[.val (.ref a), .val (.ref b), .unset] [])) := entry rfl
  have c2 : Steps p.tables e below (s₁.setTop (entryFrame m #[.ref a, .ref b] 3)) (s₁.setTop (mkF m 4 #[.val (.ref a), .val (.ref b), .unset] [.int (Int32.ofNat B.slots.size), .int (Int32.ofNat A.slots.size)])) := c1.trans (by
    refine XS.aloadN X0.here hexec rfl (hb hbytes d0) rfl rfl ?_
    refine X0.alen hexec hA0 rfl rfl (hb hbytes d1) ?_
    refine XS.aloadN X0.here hexec rfl (hb hbytes d2) rfl rfl ?_
    refine X0.alen hexec hB0 rfl rfl (hb hbytes d3) ?_
    exact Steps.refl _)
  by_cases hs : A.slots.size = B.slots.size
  · have c3 : Steps p.tables e below (s₁.setTop (entryFrame m #[.ref a, .ref b] 3)) (s₁.setTop (mkF m 9 #[.val (.ref a), .val (.ref b), .val (.int 0)] [])) := c2.trans (by
      refine XS.icmpNo X0.here hexec rfl (hb hbytes d4) rfl (ii_ne_f (by rw [hs])) ?_
      refine iconstV X0.here hexec rfl 0 (hb hbytes d7) (by decide) ?_
      refine XS.istoreN X0.here hexec rfl (hb hbytes d8) rfl rfl ?_
      exact Steps.refl _)
    have loop : ∀ (r i : Nat), i + r = A.slots.size → (∀ j, j < i → yv A j = yv B j) → Steps p.tables e below (s₁.setTop (entryFrame m #[.ref a, .ref b] 3)) (s₁.setTop (mkF m 9 #[.val (.ref a), .val (.ref b), .val (.int (Int32.ofNat i))] [])) → ∃ (pc : Nat) (Ls : Array Slot) (v : Int32), (pc = 25 ∨ pc = 33) ∧ ((v = 1 ∧ EqC A B) ∨ (v = 0 ∧ ¬ EqC A B)) ∧ Steps p.tables e below (s₁.setTop (entryFrame m #[.ref a, .ref b] 3)) (s₁.setTop (mkF m pc Ls [.int v])) := by
      intro r
      induction r with
      | zero =>
        intro i hi he cl
        exact ⟨33, _, 1, Or.inr rfl, Or.inl ⟨rfl, hs, fun j hj => he j (by omega)⟩, cl.trans (by
          refine XS.iloadN X0.here hexec rfl (hb hbytes d9) rfl ?_
          refine XS.aloadN X0.here hexec rfl (hb hbytes d10) rfl rfl ?_
          refine X0.alen hexec hA0 rfl rfl (hb hbytes d11) ?_
          refine XS.icmpYes X0.here hexec rfl (pc0 := 12) rfl (hb hbytes d12) rfl (ii_ge_t (nlt32 (by omega) (by omega))) (by decide) rfl ?_
          refine iconstV X0.here hexec rfl 1 (hb hbytes d32) (by decide) ?_
          exact Steps.refl _)⟩
      | succ r ih =>
        intro i hi he cl
        have c4 : Steps p.tables e below (s₁.setTop (entryFrame m #[.ref a, .ref b] 3)) (s₁.setTop (mkF m 21 #[.val (.ref a), .val (.ref b), .val (.int (Int32.ofNat i))] [.int (yv B i), .int (yv A i)])) := cl.trans (by
          refine XS.iloadN X0.here hexec rfl (hb hbytes d9) rfl ?_
          refine XS.aloadN X0.here hexec rfl (hb hbytes d10) rfl rfl ?_
          refine X0.alen hexec hA0 rfl rfl (hb hbytes d11) ?_
          refine XS.icmpNo X0.here hexec rfl (hb hbytes d12) rfl (ii_ge_f (lt32 (by omega) (by omega))) ?_
          refine XS.aloadN X0.here hexec rfl (hb hbytes d15) rfl rfl ?_
          refine XS.iloadN X0.here hexec rfl (hb hbytes d16) rfl ?_
          refine X0.aget hexec hA0 rfl (yv_get hA tA (i := i) (by omega)) rfl rfl (hb hbytes d17) ?_
          refine XS.aloadN X0.here hexec rfl (hb hbytes d18) rfl rfl ?_
          refine XS.iloadN X0.here hexec rfl (hb hbytes d19) rfl ?_
          refine X0.aget hexec hB0 rfl (yv_get hB tB (i := i) (by omega)) rfl rfl (hb hbytes d20) ?_
          exact Steps.refl _)
        by_cases hv : yv A i = yv B i
        · have c5 : Steps p.tables e below (s₁.setTop (entryFrame m #[.ref a, .ref b] 3)) (s₁.setTop (mkF m 9 #[.val (.ref a), .val (.ref b), .val (.int (Int32.ofNat i + 1))] [])) := c4.trans (by
            refine XS.icmpYes X0.here hexec rfl (pc0 := 21) rfl (hb hbytes d21) rfl (ii_eq_t hv) (by decide) rfl ?_
            refine iincV X0.here hexec rfl 1 (hb hbytes d26) (by decide) rfl rfl ?_
            refine XS.goto X0.here hexec rfl (pc0 := 29) rfl (hb hbytes d29) (by decide) rfl ?_
            exact Steps.refl _)
          rw [succ32] at c5
          exact ih (i + 1) (by omega) (fun j hj => by
            by_cases e : j = i
            · rw [e]; exact hv
            · exact he j (by omega)) c5
        · exact ⟨25, _, 0, Or.inl rfl, Or.inr ⟨rfl, fun q => hv (q.2 i (by omega))⟩, c4.trans (by
            refine XS.icmpNo X0.here hexec rfl (hb hbytes d21) rfl (ii_eq_f hv) ?_
            refine iconstV X0.here hexec rfl 0 (hb hbytes d24) (by decide) ?_
            exact Steps.refl _)⟩
    obtain ⟨pc, Ls, v, hpc, hv, cz⟩ := loop A.slots.size 0 (by omega) (fun j hj => absurd hj (Nat.not_lt_zero j)) c3
    have nv : narrow .boolean (.int v) = .int v := by rcases hv with ⟨rfl, -⟩ | ⟨rfl, -⟩ <;> rfl
    rcases hpc with rfl | rfl
    · exact ⟨s₁, some (.int v), _, _, _, X0, rfl, rfl, rfl, (fun h => by cases h), ⟨v, rfl, hh0, hv⟩, fun fs hl => cz.trans (X0.ireturnOut hexec hret nv (Or.inr (Or.inl rfl)) (hb hbytes d25) hl)⟩
    · exact ⟨s₁, some (.int v), _, _, _, X0, rfl, rfl, rfl, (fun h => by cases h), ⟨v, rfl, hh0, hv⟩, fun fs hl => cz.trans (X0.ireturnOut hexec hret nv (Or.inr (Or.inl rfl)) (hb hbytes d33) hl)⟩
  · have c3 : Steps p.tables e below (s₁.setTop (entryFrame m #[.ref a, .ref b] 3)) (s₁.setTop (mkF m 35 #[.val (.ref a), .val (.ref b), .unset] [.int 0])) := c2.trans (by
      refine XS.icmpYes X0.here hexec rfl (pc0 := 4) rfl (hb hbytes d4) rfl (ii_ne_t (ne32 a31 b31 hs)) (by decide) rfl ?_
      refine iconstV X0.here hexec rfl 0 (hb hbytes d34) (by decide) ?_
      exact Steps.refl _)
    exact ⟨s₁, some (.int 0), _, _, _, X0, rfl, rfl, rfl, (fun h => by cases h), ⟨0, rfl, hh0, Or.inr ⟨rfl, fun q => hs q.1⟩⟩, fun fs hl => c3.trans (X0.ireturnOut hexec hret rfl (Or.inr (Or.inl rfl)) (hb hbytes d35) hl)⟩
end LEq
theorem Cod.ty {cd : Int32} {n : Nat} {f : Nat → Int32} {V : Cell} (h : Cod cd n f V) : Typed .byte V := fun i v hv => by
  have hi : i < V.slots.size := (Array.getElem?_eq_some_iff.mp hv).1
  rcases h with ⟨-, k1, k2⟩ | ⟨-, k1, k2, -⟩
  · rw [(k2 i (by omega)).1] at hv; cases hv; exact fits_lo8 _
  · rcases Nat.mod_two_eq_zero_or_one i with e | e
    · obtain ⟨j, rfl⟩ : ∃ j, i = 2 * j := ⟨i / 2, by omega⟩
      rw [(k2 j (by omega)).1] at hv; cases hv; exact fits_lo8 _
    · obtain ⟨j, rfl⟩ : ∃ j, i = 2 * j + 1 := ⟨i / 2, by omega⟩
      rw [(k2 j (by omega)).2] at hv; cases hv; exact fits_lo8 _
/-- the same text -/
def SameT (n : Nat) (f : Nat → Int32) (k : Nat) (g : Nat → Int32) : Prop := n = k ∧ ∀ j, j < n → f j = g j
theorem lo8_inj {x y : Int32} (h0 : ¬ x < 0) (h1 : ¬ 255 < x) (k0 : ¬ y < 0) (k1 : ¬ 255 < y) (h : lo8 x = lo8 y) : x = y := by
  rw [← lo8_mask h0 h1, ← lo8_mask k0 k1, h]
/-- arrays coded by one coder are equal just where the texts are -/
theorem Cod.eqv {cd : Int32} {n k : Nat} {f g : Nat → Int32} {V V' : Cell} (h : Cod cd n f V) (h' : Cod cd k g V') (hf : ∀ j, j < n → ¬ f j < 0 ∧ ¬ 65535 < f j) (hg : ∀ j, j < k → ¬ g j < 0 ∧ ¬ 65535 < g j) : EqC V V' ↔ SameT n f k g := by
  have yvv : ∀ {W : Cell} {i : Nat} {x : Int32}, W.slots[i]? = some (.int x) → yv W i = x := fun q => by unfold yv; rw [q]
  rcases h with ⟨rfl, k1, k2⟩ | ⟨rfl, k1, k2, -⟩
  · rcases h' with ⟨-, m1, m2⟩ | ⟨e, -⟩
    · constructor
      · rintro ⟨e1, e2⟩
        refine ⟨by omega, fun j hj => ?_⟩
        have q := e2 j (by omega)
        rw [yvv (k2 j hj).1, yvv (m2 j (by omega)).1] at q
        exact lo8_inj (hf j hj).1 (k2 j hj).2 (hg j (by omega)).1 (m2 j (by omega)).2 q
      · rintro ⟨rfl, e2⟩
        refine ⟨by omega, fun j hj => ?_⟩
        rw [yvv (k2 j (by omega)).1, yvv (m2 j (by omega)).1, e2 j (by omega)]
    · exact absurd e (by decide)
  · rcases h' with ⟨e, -⟩ | ⟨-, m1, m2, -⟩
    · exact absurd e (by decide)
    · constructor
      · rintro ⟨e1, e2⟩
        refine ⟨by omega, fun j hj => ?_⟩
        have q1 := e2 (2 * j) (by omega)
        have q2 := e2 (2 * j + 1) (by omega)
        rw [yvv (k2 j hj).1, yvv (m2 j (by omega)).1] at q1
        rw [yvv (k2 j hj).2, yvv (m2 j (by omega)).2] at q2
        rw [← pair_says (hf j hj).1 (hf j hj).2, ← pair_says (hg j (by omega)).1 (hg j (by omega)).2, q1, q2]
      · rintro ⟨rfl, e2⟩
        refine ⟨by omega, fun i hi => ?_⟩
        rcases Nat.mod_two_eq_zero_or_one i with e | e
        · obtain ⟨j, rfl⟩ : ∃ j, i = 2 * j := ⟨i / 2, by omega⟩
          rw [yvv (k2 j (by omega)).1, yvv (m2 j (by omega)).1, e2 j (by omega)]
        · obtain ⟨j, rfl⟩ : ∃ j, i = 2 * j + 1 := ⟨i / 2, by omega⟩
          rw [yvv (k2 j (by omega)).2, yvv (m2 j (by omega)).2, e2 j (by omega)]
/-- two codings differ: so do the texts -/
theorem Cod.dif {cd cd' : Int32} {n k : Nat} {f g : Nat → Int32} {V V' : Cell} (h : Cod cd n f V) (h' : Cod cd' k g V') (hne : ¬ cd = cd') : ¬ SameT n f k g := by
  rintro ⟨rfl, e⟩
  rcases h with ⟨rfl, -, k2⟩ | ⟨rfl, -, -, j, hj, hw⟩
  · rcases h' with ⟨rfl, -⟩ | ⟨-, -, -, j, hj, hw⟩
    · exact hne rfl
    · exact (k2 j hj).2 (by rw [e j hj]; exact hw)
  · rcases h' with ⟨-, -, m2⟩ | ⟨rfl, -⟩
    · exact (m2 j hj).2 (by rw [← e j hj]; exact hw)
    · exact hne rfl
/-- an object of exactly C is an instance of C -/
theorem cinst {p : Program} {l : Launch} {e : Env} {R : Room} {s : State} {m : MethodId} {args : Array Value} {below : List Frame} {meth : Method} {c : Code} {T : State} {locs : List Loc} {cells slots : Nat} (X : Stand p l e R s m args below meth c T locs cells slots) (hexec : p.tables.exec = Jvm.exec) {own C : String} {index : Nat} (hown : s.vm.findClass own = some m.cls) (hlink : (Cond.classLink own index C).before args s = true) {a : Addr} (hE : Exact C a T)
    {g : JFrame} (hg : g.method = m) {rest : List Value} (hstack : g.stack = .ref a :: rest) (hdg : decode c.code g.pc = .ok (.instanceof index, 3)) :
    ∃ T', Stand p l e R s m args below meth c T' locs cells slots ∧ T'.heap = T.heap ∧ ∀ target, Steps p.tables e below (T'.setTop { g with pc := g.pc + 3, stack := .int 1 :: rest }) target → Steps p.tables e below (T.setTop g) target := by
  obtain ⟨cB, h1, D, h2, h3, h4⟩ := hE
  have h1' : s.vm.findClass C = some cB := by rw [← X.warmed.alike.findClass]; exact h1
  obtain ⟨vm', X', st⟩ := X.instanceofYes hexec hown hlink h2 h4 h1' (by rw [h3]; exact Jvm.Free.SB.assignable_self _ _) hg hstack hdg
  exact ⟨_, X', rfl, st⟩
theorem cself {p : Program} {l : Launch} {e : Env} {R : Room} {s : State} {m : MethodId} {args : Array Value} {below : List Frame} {meth : Method} {c : Code} {T : State} {locs : List Loc} {cells slots : Nat} (X : Stand p l e R s m args below meth c T locs cells slots) (hexec : p.tables.exec = Jvm.exec) {own C : String} {index : Nat} (hown : s.vm.findClass own = some m.cls) (hlink : (Cond.classLink own index C).before args s = true) {a : Addr} (hE : Exact C a T)
    {g : JFrame} (hg : g.method = m) {rest : List Value} (hstack : g.stack = .ref a :: rest) (hdg : decode c.code g.pc = .ok (.checkcast index, 3)) :
    ∃ T', Stand p l e R s m args below meth c T' locs cells slots ∧ T'.heap = T.heap ∧ ∀ target, Steps p.tables e below (T'.setTop { g with pc := g.pc + 3, stack := .ref a :: rest }) target → Steps p.tables e below (T.setTop g) target := by
  obtain ⟨cB, h1, D, h2, h3, h4⟩ := hE
  have h1' : s.vm.findClass C = some cB := by rw [← X.warmed.alike.findClass]; exact h1
  obtain ⟨vm', X', st⟩ := X.checkcastYes hexec hown hlink h2 h4 h1' (by rw [h3]; exact Jvm.Free.SB.assignable_self _ _) hg hstack hdg
  exact ⟨_, X', rfl, fun t h => st t (by rw [← hstack] at h; exact h)⟩
namespace SEq
def yN : MethodName := ⟨"java/lang/String", "equals", "(Ljava/lang/Object;)Z"⟩
abbrev yB : ByteArray := jdk_42_method_66_code
theorem d0 : decode yB 0 = .ok (.aload_n 0, 1) := by decide +kernel
theorem d1 : decode yB 1 = .ok (.aload_n 1, 1) := by decide +kernel
theorem d2 : decode yB 2 = .ok (.if_acmp (.ne) 5, 3) := by decide +kernel
theorem d5 : decode yB 5 = .ok (.iconst 1, 1) := by decide +kernel
theorem d6 : decode yB 6 = .ok (.ireturn, 1) := by decide +kernel
theorem d7 : decode yB 7 = .ok (.aload_n 1, 1) := by decide +kernel
theorem d8 : decode yB 8 = .ok (.instanceof 10, 3) := by decide +kernel
theorem d11 : decode yB 11 = .ok (.ifCond (.eq) 43, 3) := by decide +kernel
theorem d14 : decode yB 14 = .ok (.aload_n 1, 1) := by decide +kernel
theorem d15 : decode yB 15 = .ok (.checkcast 10, 3) := by decide +kernel
theorem d18 : decode yB 18 = .ok (.astore_n 2, 1) := by decide +kernel
theorem d19 : decode yB 19 = .ok (.getstatic 38, 3) := by decide +kernel
theorem d22 : decode yB 22 = .ok (.ifCond (.eq) 14, 3) := by decide +kernel
theorem d25 : decode yB 25 = .ok (.aload_n 0, 1) := by decide +kernel
theorem d26 : decode yB 26 = .ok (.getfield 15, 3) := by decide +kernel
theorem d29 : decode yB 29 = .ok (.aload_n 2, 1) := by decide +kernel
theorem d30 : decode yB 30 = .ok (.getfield 15, 3) := by decide +kernel
theorem d33 : decode yB 33 = .ok (.if_icmp (.ne) 21, 3) := by decide +kernel
theorem d36 : decode yB 36 = .ok (.aload_n 0, 1) := by decide +kernel
theorem d37 : decode yB 37 = .ok (.getfield 9, 3) := by decide +kernel
theorem d40 : decode yB 40 = .ok (.aload_n 2, 1) := by decide +kernel
theorem d41 : decode yB 41 = .ok (.getfield 9, 3) := by decide +kernel
theorem d44 : decode yB 44 = .ok (.invokestatic 541, 3) := by decide +kernel
theorem d47 : decode yB 47 = .ok (.ifCond (.eq) 7, 3) := by decide +kernel
theorem d50 : decode yB 50 = .ok (.iconst 1, 1) := by decide +kernel
theorem d51 : decode yB 51 = .ok (.goto 4, 3) := by decide +kernel
theorem d54 : decode yB 54 = .ok (.iconst 0, 1) := by decide +kernel
theorem d55 : decode yB 55 = .ok (.ireturn, 1) := by decide +kernel
def site : List Cond := [.classLink "java/lang/String" 10 "java/lang/String", .fieldLink "java/lang/String" 38 "java/lang/String" "COMPACT_STRINGS" "Z", .fieldLink "java/lang/String" 15 "java/lang/String" "coder" "B", .fieldLink "java/lang/String" 9 "java/lang/String" "value" "[B", LEq.tab] ++ staticW "java/lang/String" 541 LEq.yN
def tab : Cond := tabOf yN yB 3 (some .boolean) site
def P (x t : Addr) (V : Cell) (cd : Int32) (n : Nat) (f : Nat → Int32) (y t' : Addr) (V' : Cell) (cd' : Int32) (k : Nat) (g : Nat → Int32) (z : Int32) (args : Array Value) (s : State) : Prop := args = #[.ref x, .ref y] ∧ Txt x t V cd n f s ∧ Txt y t' V' cd' k g s ∧ StaticIs s "java/lang/String" "COMPACT_STRINGS" "Z" (.int z) ∧ ¬ z = 0
/-- equals(Object) of two Strings: whether the texts are the same -/
theorem law (l : Launch) (x t : Addr) (V : Cell) (cd : Int32) (n : Nat) (f : Nat → Int32) (y t' : Addr) (V' : Cell) (cd' : Int32) (k : Nat) (g : Nat → Int32) (z : Int32) : Law l yN 2 1 1 14 yB 3 (some .boolean) site (P x t V cd n f y t' V' cd' k g z) (Says01 (SameT n f k g)) [] 0 0 := by
  refine Law.of_walk (plainFor_of_name (by decide +kernel)) (by decide +kernel) (by decide +kernel) (by decide) (fun _ _ h => by rw [h.1]; rfl) (fun _ U U' hal hh h => ⟨h.1, h.2.1.mv hal hh, h.2.2.1.mv hal hh, h.2.2.2.1.there hal hh, h.2.2.2.2⟩) (fun r U U' V V' h1 hal h2 h => Says01.mv r U U' V V' h1 hal h2 h) ?_
  intro p e s m args below meth c s₁ X0 hexec hbytes hml hret hlk hnm hown hh0 W hP
  obtain ⟨rfl, hx, hy, s1, hz⟩ := hP
  have c1 : Steps p.tables e below (s₁.setTop (entryFrame m #[.ref x, .ref y] 3)) (s₁.setTop (mkF m 2 #[.val (.ref x), .val (.ref y), .unset] [.ref y, .ref x])) := Steps.trans (entry rfl) (by
    show Steps p.tables e below (s₁.setTop (mkF m 0 #[.val (.ref x), .val (.ref y), .unset] [])) _
    refine XS.aloadN X0.here hexec rfl (hb hbytes d0) rfl rfl ?_
    refine XS.aloadN X0.here hexec rfl (hb hbytes d1) rfl rfl ?_
    exact Steps.refl _)
  by_cases hxy : x = y
  · have c2 : Steps p.tables e below (s₁.setTop (entryFrame m #[.ref x, .ref y] 3)) (s₁.setTop (mkF m 6 #[.val (.ref x), .val (.ref y), .unset] [.int 1])) := c1.trans (by
      refine acmpNo X0.here hexec rfl (hb hbytes d2) rfl rfl rfl (by simp [acmp, hxy]) ?_
      refine iconstV X0.here hexec rfl 1 (hb hbytes d5) (by decide) ?_
      exact Steps.refl _)
    subst hxy
    have ec : cd = cd' := by
      obtain ⟨D, fd, a1, a2, a3⟩ := hx.2.2.1
      obtain ⟨D', fd', b1, b2, b3⟩ := hy.2.2.1
      cases a1.symm.trans b1
      obtain ⟨q1, q2, q3, q4⟩ := a2.1
      obtain ⟨r1, r2, r3, r4⟩ := b2.1
      cases q4.symm.trans r4
      cases a3.symm.trans b3; rfl
    have et : t = t' := by
      obtain ⟨D, fd, a1, a2, a3⟩ := hx.2.1
      obtain ⟨D', fd', b1, b2, b3⟩ := hy.2.1
      cases a1.symm.trans b1
      obtain ⟨q1, q2, q3, q4⟩ := a2.1
      obtain ⟨r1, r2, r3, r4⟩ := b2.1
      cases q4.symm.trans r4
      cases a3.symm.trans b3; rfl
    subst ec et
    have ev : V = V' := by cases hx.2.2.2.1.1.symm.trans hy.2.2.2.1.1; rfl
    subst ev
    have hs : SameT n f k g := (Cod.eqv hx.2.2.2.2.1 hy.2.2.2.2.1 hx.2.2.2.2.2 hy.2.2.2.2.2).mp ⟨rfl, fun _ _ => rfl⟩
    exact ⟨s₁, some (.int 1), _, _, _, X0, rfl, rfl, rfl, (fun h => by cases h), ⟨1, rfl, hh0, Or.inl ⟨rfl, hs⟩⟩, fun fs hl => c2.trans (X0.ireturnOut hexec hret rfl (Or.inr (Or.inl rfl)) (hb hbytes d6) hl)⟩
  · have c2 : Steps p.tables e below (s₁.setTop (entryFrame m #[.ref x, .ref y] 3)) (s₁.setTop (mkF m 8 #[.val (.ref x), .val (.ref y), .unset] [.ref y])) := c1.trans (by
      refine acmpYes X0.here hexec rfl (pc0 := 2) rfl (hb hbytes d2) rfl rfl rfl (by simp [acmp, hxy]) (by decide) rfl ?_
      refine XS.aloadN X0.here hexec rfl (hb hbytes d7) rfl rfl ?_
      exact Steps.refl _)
    obtain ⟨T3, X3, q3, st3⟩ := cinst X0 hexec hown (wk W (.classLink "java/lang/String" 10 "java/lang/String")) (hy.mv X0.warmed.alike hh0).1 (g := (mkF m 8 #[.val (.ref x), .val (.ref y), .unset] [.ref y])) rfl (rest := []) rfl (hb hbytes d8)
    have hh3 := q3.trans hh0
    have c4 : Steps p.tables e below (s₁.setTop (entryFrame m #[.ref x, .ref y] 3)) (T3.setTop (mkF m 15 #[.val (.ref x), .val (.ref y), .unset] [.ref y])) := (c2.trans (st3 _ (Steps.refl _))).trans (by
      refine XS.ifNo X3.here hexec rfl (hb hbytes d11) rfl (i0_eq_f (by decide)) ?_
      refine XS.aloadN X3.here hexec rfl (hb hbytes d14) rfl rfl ?_
      exact Steps.refl _)
    obtain ⟨T5, X5, q5, st5⟩ := cself X3 hexec hown (wk W (.classLink "java/lang/String" 10 "java/lang/String")) (hy.mv X3.warmed.alike hh3).1 (g := (mkF m 15 #[.val (.ref x), .val (.ref y), .unset] [.ref y])) rfl (rest := []) rfl (hb hbytes d15)
    have hh5 := q5.trans hh3
    have c6 : Steps p.tables e below (s₁.setTop (entryFrame m #[.ref x, .ref y] 3)) (T5.setTop (mkF m 19 #[.val (.ref x), .val (.ref y), .val (.ref y)] [])) := (c4.trans (st5 _ (Steps.refl _))).trans (by
      refine XS.astoreN X5.here hexec rfl (hb hbytes d18) rfl rfl rfl ?_
      exact Steps.refl _)
    obtain ⟨T7, X7, q7, st7⟩ := X5.sget hexec hown (wk W (.fieldLink "java/lang/String" 38 "java/lang/String" "COMPACT_STRINGS" "Z")) s1 (fun _ _ h => by rw [hh5]; exact h) (g := (mkF m 19 #[.val (.ref x), .val (.ref y), .val (.ref y)] [])) rfl (hb hbytes d19)
    have hh7 := q7.trans hh5
    have c8 : Steps p.tables e below (s₁.setTop (entryFrame m #[.ref x, .ref y] 3)) (T7.setTop (mkF m 26 #[.val (.ref x), .val (.ref y), .val (.ref y)] [.ref x])) := (c6.trans (st7 _ (Steps.refl _))).trans (by
      refine XS.ifNo X7.here hexec rfl (hb hbytes d22) rfl (i0_eq_f hz) ?_
      refine XS.aloadN X7.here hexec rfl (hb hbytes d25) rfl rfl ?_
      exact Steps.refl _)
    obtain ⟨T9, X9, q9, st9⟩ := X7.hget hexec hown (wk W (.fieldLink "java/lang/String" 15 "java/lang/String" "coder" "B")) (hx.mv X7.warmed.alike hh7).2.2.1 (g := (mkF m 26 #[.val (.ref x), .val (.ref y), .val (.ref y)] [.ref x])) rfl (rest := []) rfl (hb hbytes d26)
    have hh9 := q9.trans hh7
    have c10 : Steps p.tables e below (s₁.setTop (entryFrame m #[.ref x, .ref y] 3)) (T9.setTop (mkF m 30 #[.val (.ref x), .val (.ref y), .val (.ref y)] [.ref y, .int cd])) := (c8.trans (st9 _ (Steps.refl _))).trans (by
      refine XS.aloadN X9.here hexec rfl (hb hbytes d29) rfl rfl ?_
      exact Steps.refl _)
    obtain ⟨T11, X11, q11, st11⟩ := X9.hget hexec hown (wk W (.fieldLink "java/lang/String" 15 "java/lang/String" "coder" "B")) (hy.mv X9.warmed.alike hh9).2.2.1 (g := (mkF m 30 #[.val (.ref x), .val (.ref y), .val (.ref y)] [.ref y, .int cd])) rfl (rest := [.int cd]) rfl (hb hbytes d30)
    have hh11 := q11.trans hh9
    have c12 : Steps p.tables e below (s₁.setTop (entryFrame m #[.ref x, .ref y] 3)) (T11.setTop (mkF m 33 #[.val (.ref x), .val (.ref y), .val (.ref y)] [.int cd', .int cd])) := c10.trans (st11 _ (Steps.refl _))
    by_cases hcd : cd = cd'
    · subst hcd
      have c13 : Steps p.tables e below (s₁.setTop (entryFrame m #[.ref x, .ref y] 3)) (T11.setTop (mkF m 37 #[.val (.ref x), .val (.ref y), .val (.ref y)] [.ref x])) := c12.trans (by
        refine XS.icmpNo X11.here hexec rfl (hb hbytes d33) rfl (ii_ne_f rfl) ?_
        refine XS.aloadN X11.here hexec rfl (hb hbytes d36) rfl rfl ?_
        exact Steps.refl _)
      obtain ⟨T14, X14, q14, st14⟩ := X11.hget hexec hown (wk W (.fieldLink "java/lang/String" 9 "java/lang/String" "value" "[B")) (hx.mv X11.warmed.alike hh11).2.1 (g := (mkF m 37 #[.val (.ref x), .val (.ref y), .val (.ref y)] [.ref x])) rfl (rest := []) rfl (hb hbytes d37)
      have hh14 := q14.trans hh11
      have c15 : Steps p.tables e below (s₁.setTop (entryFrame m #[.ref x, .ref y] 3)) (T14.setTop (mkF m 41 #[.val (.ref x), .val (.ref y), .val (.ref y)] [.ref y, .ref t])) := (c13.trans (st14 _ (Steps.refl _))).trans (by
        refine XS.aloadN X14.here hexec rfl (hb hbytes d40) rfl rfl ?_
        exact Steps.refl _)
      obtain ⟨T16, X16, q16, st16⟩ := X14.hget hexec hown (wk W (.fieldLink "java/lang/String" 9 "java/lang/String" "value" "[B")) (hy.mv X14.warmed.alike hh14).2.1 (g := (mkF m 41 #[.val (.ref x), .val (.ref y), .val (.ref y)] [.ref y, .ref t])) rfl (rest := [.ref t]) rfl (hb hbytes d41)
      have hh16 := q16.trans hh14
      have c17 : Steps p.tables e below (s₁.setTop (entryFrame m #[.ref x, .ref y] 3)) (T16.setTop (mkF m 44 #[.val (.ref x), .val (.ref y), .val (.ref y)] [.ref t', .ref t])) := c15.trans (st16 _ (Steps.refl _))
      obtain ⟨v18, T18, X18, E18, g18⟩ := X16.callS hexec (LEq.law l t V t' V') hown (wks W (staticW "java/lang/String" 541 LEq.yN)) (wk W LEq.tab) (W := 0) (Nat.le_of_ble_eq_true rfl) (Nat.le_of_ble_eq_true rfl) (Nat.le_refl _) (Nat.le_refl _) (g := (mkF m 44 #[.val (.ref x), .val (.ref y), .val (.ref y)] [.ref t', .ref t])) rfl (by rw [hml]; rfl) c17 (argsL := [.ref t, .ref t']) (rest := []) rfl rfl (by show 2 * 0 + 0 ≤ _; decide) (hb hbytes d44) (⟨rfl, hx.2.2.2.1.mv X16.warmed.alike hh16, hx.2.2.2.2.1.ty, hy.2.2.2.1.mv X16.warmed.alike hh16, hy.2.2.2.2.1.ty⟩)
      obtain ⟨v, rfl, q18, hv⟩ := E18
      have iff := Cod.eqv hx.2.2.2.2.1 hy.2.2.2.2.1 hx.2.2.2.2.2 hy.2.2.2.2.2
      rcases hv with ⟨rfl, he⟩ | ⟨rfl, he⟩
      · have c19 : Steps p.tables e below (s₁.setTop (entryFrame m #[.ref x, .ref y] 3)) (T18.setTop (mkF m 55 #[.val (.ref x), .val (.ref y), .val (.ref y)] [.int 1])) := Steps.trans g18 (by
          refine XS.ifNo X18.here hexec rfl (hb hbytes d47) rfl (i0_eq_f (by decide)) ?_
          refine iconstV X18.here hexec rfl 1 (hb hbytes d50) (by decide) ?_
          refine XS.goto X18.here hexec rfl (pc0 := 51) rfl (hb hbytes d51) (by decide) rfl ?_
          exact Steps.refl _)
        exact ⟨T18, some (.int 1), _, _, _, X18, rfl, rfl, rfl, (fun h => by cases h), ⟨1, rfl, q18.trans hh16, Or.inl ⟨rfl, iff.mp he⟩⟩, fun fs hl => c19.trans (X18.ireturnOut hexec hret rfl (Or.inr (Or.inl rfl)) (hb hbytes d55) hl)⟩
      · have c19 : Steps p.tables e below (s₁.setTop (entryFrame m #[.ref x, .ref y] 3)) (T18.setTop (mkF m 55 #[.val (.ref x), .val (.ref y), .val (.ref y)] [.int 0])) := Steps.trans g18 (by
          refine XS.ifYes X18.here hexec rfl (pc0 := 47) rfl (hb hbytes d47) rfl (i0_eq_t rfl) (by decide) rfl ?_
          refine iconstV X18.here hexec rfl 0 (hb hbytes d54) (by decide) ?_
          exact Steps.refl _)
        exact ⟨T18, some (.int 0), _, _, _, X18, rfl, rfl, rfl, (fun h => by cases h), ⟨0, rfl, q18.trans hh16, Or.inr ⟨rfl, fun q => he (iff.mpr q)⟩⟩, fun fs hl => c19.trans (X18.ireturnOut hexec hret rfl (Or.inr (Or.inl rfl)) (hb hbytes d55) hl)⟩
    · have c13 : Steps p.tables e below (s₁.setTop (entryFrame m #[.ref x, .ref y] 3)) (T11.setTop (mkF m 55 #[.val (.ref x), .val (.ref y), .val (.ref y)] [.int 0])) := c12.trans (by
        refine XS.icmpYes X11.here hexec rfl (pc0 := 33) rfl (hb hbytes d33) rfl (ii_ne_t hcd) (by decide) rfl ?_
        refine iconstV X11.here hexec rfl 0 (hb hbytes d54) (by decide) ?_
        exact Steps.refl _)
      exact ⟨T11, some (.int 0), _, _, _, X11, rfl, rfl, rfl, (fun h => by cases h), ⟨0, rfl, hh11, Or.inr ⟨rfl, Cod.dif hx.2.2.2.2.1 hy.2.2.2.2.1 hcd⟩⟩, fun fs hl => c13.trans (X11.ireturnOut hexec hret rfl (Or.inr (Or.inl rfl)) (hb hbytes d55) hl)⟩
theorem pays {l : Launch} {R : Room} {p : Program} {e : Env} {below : List Frame} {s : State} {sargs : Array Value} {len W : Nat} (x t : Addr) (V : Cell) (cd : Int32) (n : Nat) (f : Nat → Int32) (y t' : Addr) (V' : Cell) (cd' : Int32) (k : Nat) (g : Nat → Int32) (z : Int32) (htab : tab.before sargs s = true) (hfr : 2 ≤ R.frames) (hlo : W + 28 ≤ R.locals) :
    Back l R p e below s sargs yN len W (fun A₁ a₁ => A₁.cells + 0 ≤ R.cells ∧ A₁.slots + 0 ≤ R.slots ∧ P x t V cd n f y t' V' cd' k g z a₁ A₁.U) (fun A₁ _ v₁ B₁ => Says01 (SameT n f k g) v₁ A₁.U B₁.U ∧ B₁.locs = A₁.locs ++ [] ∧ B₁.cells = A₁.cells + 0 ∧ B₁.slots = A₁.slots + 0) :=
  (law l x t V cd n f y t' V' cd' k g z).pays htab hfr (by omega)
end SEq
end StrChars
namespace StrChars.Road
open Jvm Sem ClassFile Op Lib Jvm.Stand Jvm.Free Jvm.Free.XT
open Jvm.Lib.Cold (StaticIs)
/-- the words of String.equals(Object) -/
abbrev wordsEq : List Jvm.Cond := [.code SEq.yN SEq.yB 3 (some .boolean), .initialized ST, .classLink ST 10 ST, .fieldLink ST 38 ST "COMPACT_STRINGS" "Z", .fieldLink ST 15 ST "coder" "B", .fieldLink ST 9 ST "value" "[B", .methodLink ST 541 LEq.yN, .static LEq.yN, .code LEq.yN LEq.yB 3 (some .boolean), .initialized "java/lang/StringLatin1"]
theorem tabEq_of {a : Array Value} {s : State} (h : ∀ w ∈ wordsEq, w.before a s = true) : SEq.tab.before a s = true := by
  have hl : LEq.tab.before a s = true := unparts (wk h (.code LEq.yN LEq.yB 3 (some .boolean))) (wks h (.initialized LEq.yN.cls :: LEq.site))
  have q := consq hl h
  exact unparts (wk q (.code SEq.yN SEq.yB 3 (some .boolean))) (wks q (.initialized SEq.yN.cls :: SEq.site))
theorem movedEq {Z s : State} {a0 args : Array Value} (hZ : Z.Warmed39 s.vm) (hw : ∀ d ∈ wordsEq, d.before a0 Z = true) : ∀ d ∈ wordsEq, d.before args s = true := fun d hd => by
  have t : ∀ d ∈ wordsEq, (d.onTables && d.keepsFace) = true := by decide +kernel
  exact RoadKit.mv hZ (hw d hd) (t d hd)
/-- the road's facts of a String, as the laws ask it -/
theorem txt_of {Z U : State} {a0 : Array Value} {kI : Nat} (wi : (Jvm.Cond.instantiable ST kI).before a0 Z = true) (al : Z.vm.Alike U.vm) {x t : Addr} {kb : ClassId} {cs : List Int32} {cd N2 : Int32} {vs : List Value} (E : RoadKit.Exa Z U.heap x ST) (V : RoadKit.Fld Z U.heap x ST "value" "[B" (.ref t)) (C : RoadKit.Fld Z U.heap x ST "coder" "B" (.int cd)) (K : RoadKit.Arv Z U.heap t kb .byte N2 vs (.int 0)) (hc : CodA cs cd N2 vs) (hb : ∀ c ∈ cs, ¬ c < 0 ∧ ¬ (65535 : Int32) < c) (l2 : cs.length ≤ 4000) :
    ∃ A, Txt x t A cd cs.length (fun j => cs.getD j 0) U := by
  obtain ⟨A, K1, K2, K3, K4, K5, K6⟩ := K
  have hcod := hc.cod (by omega) K3 K5
  obtain ⟨D, fV, fC, hB, F1, F2, g1, g2, -, -⟩ := strObj wi al E V C
  exact ⟨A, ⟨_, hB.2.2.1, D, hB.1, rfl, by cases q : D.vm <;> first | rfl | exact absurd q (hB.2.1.2 _)⟩, Has.of hB F1 g1, Has.of hB F2 g2, ⟨K1.1, State.isArrayOf_alike al K1.2.1, K1.2.2, by rcases hcod with ⟨-, q, -⟩ | ⟨-, q, -⟩ <;> omega⟩, hcod, fun j hj => by
    have e : cs.getD j 0 = cs[j] := by simp [List.getD_eq_getElem?_getD, hj]
    show ¬ cs.getD j 0 < 0 ∧ ¬ 65535 < cs.getD j 0
    rw [e]; exact hb _ (List.getElem_mem _)⟩
theorem same_list (cs ds : List Int32) : SameT cs.length (fun j => cs.getD j 0) ds.length (fun j => ds.getD j 0) ↔ cs = ds := by
  constructor
  · rintro ⟨e, q⟩
    refine List.ext_getElem e fun j h1 h2 => ?_
    have := q j h1
    simpa [List.getD_eq_getElem?_getD, h1, h2] using this
  · rintro rfl
    exact ⟨rfl, fun _ _ => rfl⟩
/-- **equals(Object) OF TWO SUCH STRINGS**: 1 just where the chars are the same -/
theorem eqW {p : Program} {l : Launch} {e : Env} {R : Room} {s : State} {args : Array Value} {below : List Frame} {len W : Nat} {Z : State} {a0 : Array Value} {h : Heap} (hZ : Z.Warmed39 s.vm) (hw : ∀ d ∈ wordsEq, d.before a0 Z = true) {kI : Nat} (wi : (Jvm.Cond.instantiable ST kI).before a0 Z = true)
    {x t : Addr} {kb : ClassId} {cs : List Int32} {cd N2 : Int32} {vs : List Value} (E : RoadKit.Exa Z h x ST) (V : RoadKit.Fld Z h x ST "value" "[B" (.ref t)) (C : RoadKit.Fld Z h x ST "coder" "B" (.int cd)) (K : RoadKit.Arv Z h t kb .byte N2 vs (.int 0)) (hc : CodA cs cd N2 vs) (hb : ∀ c ∈ cs, ¬ c < 0 ∧ ¬ (65535 : Int32) < c) (l2 : cs.length ≤ 4000)
    {y t' : Addr} {kb' : ClassId} {ds : List Int32} {cd' N2' : Int32} {vs' : List Value} (E' : RoadKit.Exa Z h y ST) (V' : RoadKit.Fld Z h y ST "value" "[B" (.ref t')) (C' : RoadKit.Fld Z h y ST "coder" "B" (.int cd')) (K' : RoadKit.Arv Z h t' kb' .byte N2' vs' (.int 0)) (hc' : CodA ds cd' N2' vs') (hb' : ∀ c ∈ ds, ¬ c < 0 ∧ ¬ (65535 : Int32) < c) (l2' : ds.length ≤ 4000)
    {z : Int32} (S : RoadKit.Sta Z h ST "COMPACT_STRINGS" "Z" (.int z)) (hz : ¬ z = 0) (hfr : 2 ≤ R.frames) (hlo : W + 28 ≤ R.locals) :
    Back l R p e below s args (⟨"java/lang/String", "equals", "(Ljava/lang/Object;)Z"⟩ : MethodName) len W (fun P a => a = #[.ref x, .ref y] ∧ P.U.heap = h ∧ P.cells + 0 ≤ R.cells ∧ P.slots + 0 ≤ R.slots)
      (fun P _ v B => ∃ L, (((v = some (.int 1) ∧ cs = ds) ∨ (v = some (.int 0) ∧ ¬ cs = ds)) ∧ L = [] ∧ B.U.heap = h) ∧ B.locs = P.locs ++ L ∧ B.cells = P.cells + 0 ∧ B.slots = P.slots + 0) := by
  intro m meth c P g ig mk a X hg hsize hdg hW hn hp'
  obtain ⟨rfl, rfl, r1, r2⟩ := hp'
  have al : Z.vm.Alike P.U.vm := hZ.alike.trans X.warmed.alike
  obtain ⟨A, hx⟩ := txt_of wi al E V C K hc hb l2
  obtain ⟨A', hy⟩ := txt_of wi al E' V' C' K' hc' hb' l2'
  obtain ⟨v, B, X', ⟨⟨w, hv, hh, hq⟩, hl, hk, hs⟩, st⟩ := SEq.pays x t A cd cs.length (fun j => cs.getD j 0) y t' A' cd' ds.length (fun j => ds.getD j 0) z (tabEq_of (movedEq hZ hw)) hfr hlo m meth c P g ig mk _ X hg hsize hdg hW hn ⟨r1, r2, rfl, hx, hy, sta_is al S, hz⟩
  refine ⟨v, B, X', ⟨[], ⟨?_, rfl, hh⟩, hl, hk, hs⟩, st⟩
  rcases hq with ⟨rfl, q⟩ | ⟨rfl, q⟩
  · exact Or.inl ⟨hv, (same_list cs ds).mp q⟩
  · exact Or.inr ⟨hv, fun e => q ((same_list cs ds).mpr e)⟩
end StrChars.Road
namespace StrChars
open Jvm Sem ClassFile Op Lib Jvm.Stand Jvm.Free.XT Jvm.Free.ALB Jvm.Free.JM Jvm.Free
open Jvm.Lib.Cold (StaticIs)
namespace ChN
def yN : MethodName := ⟨"java/lang/String", "charAt", "(I)C"⟩
abbrev yB : ByteArray := jdk_42_method_56_code
theorem d0 : decode yB 0 = .ok (.aload_n 0, 1) := by decide +kernel
theorem d1 : decode yB 1 = .ok (.invokevirtual 492, 3) := by decide +kernel
theorem d4 : decode yB 4 = .ok (.ifCond (.eq) 12, 3) := by decide +kernel
theorem d7 : decode yB 7 = .ok (.aload_n 0, 1) := by decide +kernel
theorem d8 : decode yB 8 = .ok (.getfield 9, 3) := by decide +kernel
theorem d11 : decode yB 11 = .ok (.iload_n 1, 1) := by decide +kernel
theorem d12 : decode yB 12 = .ok (.invokestatic 495, 3) := by decide +kernel
theorem d15 : decode yB 15 = .ok (.ireturn, 1) := by decide +kernel
def site : List Cond := [.fieldLink "java/lang/String" 9 "java/lang/String" "value" "[B", IsL.tab, LChA.tab] ++ virtW "java/lang/String" 492 "java/lang/String" IsL.yN IsL.yN ++ staticW "java/lang/String" 495 LChA.yN
def tab : Cond := tabOf yN yB 2 (some .char) site
def P (x t : Addr) (V : Cell) (n : Nat) (f : Nat → Int32) (z : Int32) (fm : Value) (i : Nat) (args : Array Value) (s : State) : Prop := args = #[.ref x, .int (Int32.ofNat i)] ∧ Txt x t V 0 n f s ∧ i < n ∧ StaticIs s "java/lang/String" "COMPACT_STRINGS" "Z" (.int z) ∧ ¬ z = 0 ∧ StaticIs s "jdk/internal/util/Preconditions" "SIOOBE_FORMATTER" "Ljava/util/function/BiFunction;" fm ∧ fm.isRef = true
def E (f : Nat → Int32) (i : Nat) (r : Option Value) (s u : State) : Prop := XT.PureE (some (.int (f i))) r s u
/-- charAt(i) of a Latin-1 String of n chars, i < n: f i -/
theorem law (l : Launch) (x t : Addr) (V : Cell) (n : Nat) (f : Nat → Int32) (z : Int32) (fm : Value) (i : Nat) : Law l yN 2 1 3 40 yB 2 (some .char) site (P x t V n f z fm i) (E f i) [] 0 0 := by
  refine Law.of_walk (plainFor_of_name (by decide +kernel)) (by decide +kernel) (by decide +kernel) (by decide) (fun _ _ h => by rw [h.1]; rfl) (fun _ U U' hal hh h => ⟨h.1, h.2.1.mv hal hh, h.2.2.1, h.2.2.2.1.there hal hh, h.2.2.2.2.1, h.2.2.2.2.2.1.there hal hh, h.2.2.2.2.2.2⟩) (fun r U U' V V' h1 hal h2 h => XT.PureE.mv r U U' V V' h1 hal h2 h) ?_
  intro p e s m args below meth c s₁ X0 hexec hbytes hml hret hlk hnm hown hh0 W hP
  obtain ⟨rfl, hx, hi, s1, hz, s3, rf⟩ := hP
  have v31 := hx.2.2.2.1.2.2.2
  have hr := hx.2.2.2.2.2 i hi
  have hx0 := hx.mv X0.warmed.alike hh0
  have c1 : Steps p.tables e below (s₁.setTop (entryFrame m #[.ref x, .int (Int32.ofNat i)] 2)) (s₁.setTop (mkF m 1 #[.val (.ref x), .val (.int (Int32.ofNat i))] [.ref x])) := Steps.trans (entry rfl) (by
    show Steps p.tables e below (s₁.setTop (mkF m 0 #[.val (.ref x), .val (.int (Int32.ofNat i))] [])) _
    refine XS.aloadN X0.here hexec rfl (hb hbytes d0) rfl rfl ?_
    exact Steps.refl _)
  obtain ⟨v2, T2, X2, E2, g2⟩ := X0.callV hexec (IsL.law l x 0 z) hown (wks W (virtW "java/lang/String" 492 "java/lang/String" IsL.yN IsL.yN)) rfl (by decide) (wk W IsL.tab) (W := 0) (Nat.le_of_ble_eq_true rfl) (Nat.le_of_ble_eq_true rfl) (Nat.le_refl _) (Nat.le_refl _) (hx0.1.fc X0.warmed.alike) hx0.1.is (g := (mkF m 1 #[.val (.ref x), .val (.int (Int32.ofNat i))] [.ref x])) rfl (by rw [hml]; rfl) c1 (argsL := []) (rest := []) rfl rfl (by show 2 * 0 + 0 ≤ _; decide) (hb hbytes d1) (⟨rfl, hx0.2.2.1, hx.2.2.2.2.1.cd, s1.there X0.warmed.alike hh0, hz⟩)
  obtain ⟨rfl, q2⟩ := E2
  have hh2 := q2.trans hh0
  have hx2 := hx.mv X2.warmed.alike hh2
  obtain ⟨-, k1, k2⟩ | ⟨k0, -⟩ := hx.2.2.2.2.1
  · have c3 : Steps p.tables e below (s₁.setTop (entryFrame m #[.ref x, .int (Int32.ofNat i)] 2)) (T2.setTop (mkF m 8 #[.val (.ref x), .val (.int (Int32.ofNat i))] [.ref x])) := Steps.trans g2 (by
      refine XS.ifNo X2.here hexec rfl (hb hbytes d4) rfl (i0_eq_f (by decide)) ?_
      refine XS.aloadN X2.here hexec rfl (hb hbytes d7) rfl rfl ?_
      exact Steps.refl _)
    obtain ⟨T4, X4, q4, st4⟩ := X2.hget hexec hown (wk W (.fieldLink "java/lang/String" 9 "java/lang/String" "value" "[B")) hx2.2.1 (g := (mkF m 8 #[.val (.ref x), .val (.int (Int32.ofNat i))] [.ref x])) rfl (rest := []) rfl (hb hbytes d8)
    have hh4 := q4.trans hh2
    have c5 : Steps p.tables e below (s₁.setTop (entryFrame m #[.ref x, .int (Int32.ofNat i)] 2)) (T4.setTop (mkF m 12 #[.val (.ref x), .val (.int (Int32.ofNat i))] [.int (Int32.ofNat i), .ref t])) := (c3.trans (st4 _ (Steps.refl _))).trans (by
      refine XS.iloadN X4.here hexec rfl (hb hbytes d11) rfl ?_
      exact Steps.refl _)
    obtain ⟨v6, T6, X6, E6, g6⟩ := X4.callS hexec (LChA.law l t V i (lo8 (f i)) fm) hown (wks W (staticW "java/lang/String" 495 LChA.yN)) (wk W LChA.tab) (W := 0) (Nat.le_of_ble_eq_true rfl) (Nat.le_of_ble_eq_true rfl) (Nat.le_refl _) (Nat.le_refl _) (g := (mkF m 12 #[.val (.ref x), .val (.int (Int32.ofNat i))] [.int (Int32.ofNat i), .ref t])) rfl (by rw [hml]; rfl) c5 (argsL := [.ref t, .int (Int32.ofNat i)]) (rest := []) rfl rfl (by show 2 * 0 + 0 ≤ _; decide) (hb hbytes d12) (⟨rfl, hx.2.2.2.1.mv X4.warmed.alike hh4, (k2 i hi).1, s3.there X4.warmed.alike hh4, rf⟩)
    obtain ⟨rfl, q6⟩ := E6
    rw [chr8_lo8 hr.1 (k2 i hi).2] at g6
    exact ⟨T6, some (.int (f i)), _, _, _, X6, rfl, rfl, rfl, (fun h => by cases h), ⟨rfl, q6.trans hh4⟩, fun fs hl => Steps.trans g6 (X6.ireturnOut hexec hret (narrow_ch hr.1 hr.2) (Or.inr (Or.inr (Or.inr (Or.inl rfl)))) (hb hbytes d15) hl)⟩
  · exact absurd k0 (by decide)
theorem pays {l : Launch} {R : Room} {p : Program} {e : Env} {below : List Frame} {s : State} {sargs : Array Value} {len W : Nat} (x t : Addr) (V : Cell) (n : Nat) (f : Nat → Int32) (z : Int32) (fm : Value) (i : Nat) (htab : tab.before sargs s = true) (hfr : 4 ≤ R.frames) (hlo : W + 53 ≤ R.locals) :
    Back l R p e below s sargs yN len W (fun A₁ a₁ => A₁.cells + 0 ≤ R.cells ∧ A₁.slots + 0 ≤ R.slots ∧ P x t V n f z fm i a₁ A₁.U) (fun A₁ _ v₁ B₁ => E f i v₁ A₁.U B₁.U ∧ B₁.locs = A₁.locs ++ [] ∧ B₁.cells = A₁.cells + 0 ∧ B₁.slots = A₁.slots + 0) :=
  (law l x t V n f z fm i).pays htab hfr (by omega)
end ChN
end StrChars
namespace StrChars.Road
open Jvm Sem ClassFile Op Lib Jvm.Stand Jvm.Free Jvm.Free.XT
open Jvm.Lib.Cold (StaticIs)
/-- the words of String.charAt(int), the Latin-1 road alone -/
abbrev wordsChN : List Jvm.Cond := [.code ChN.yN ChN.yB 2 (some .char), .initialized ST, .fieldLink ST 9 ST "value" "[B", .fieldLink ST 38 ST "COMPACT_STRINGS" "Z", .fieldLink ST 15 ST "coder" "B", .code IsL.yN IsL.yB 1 (some .boolean), .methodLink ST 492 IsL.yN, .declares IsL.yN, .selects ST IsL.yN IsL.yN, .instanceMethod IsL.yN,
  .methodLink ST 495 LChA.yN, .static LChA.yN, .code LChA.yN LChA.yB 2 (some .char), .initialized "java/lang/StringLatin1", .methodLink "java/lang/StringLatin1" 9 JO.Str_checkIndex.yN, .static JO.Str_checkIndex.yN, .code JO.Str_checkIndex.yN JO.Str_checkIndex.yB 2 none,
  .fieldLink ST 1053 "jdk/internal/util/Preconditions" "SIOOBE_FORMATTER" "Ljava/util/function/BiFunction;", .methodLink ST 1059 JC.PreCheck.yN, .static JC.PreCheck.yN, .code JC.PreCheck.yN JC.PreCheck.yB 3 (some .int), .initialized "jdk/internal/util/Preconditions"]
theorem tabChN_of {a : Array Value} {s : State} (h : ∀ w ∈ wordsChN, w.before a s = true) : ChN.tab.before a s = true := by
  have hp : JC.PreCheck.tab.before a s = true := unparts (wk h (.code JC.PreCheck.yN JC.PreCheck.yB 3 (some .int))) (wks h (.initialized JC.PreCheck.yN.cls :: JC.PreCheck.site))
  have qk := consq hp h
  have hk : JO.Str_checkIndex.tab.before a s = true := unparts (wk qk (.code JO.Str_checkIndex.yN JO.Str_checkIndex.yB 2 none)) (wks qk (.initialized JO.Str_checkIndex.yN.cls :: JO.Str_checkIndex.site))
  have ql := consq hk h
  have hl : LChA.tab.before a s = true := unparts (wk ql (.code LChA.yN LChA.yB 2 (some .char))) (wks ql (.initialized LChA.yN.cls :: LChA.site))
  have hi : IsL.tab.before a s = true := unparts (wk h (.code IsL.yN IsL.yB 1 (some .boolean))) (wks h (.initialized IsL.yN.cls :: IsL.site))
  have q := consq hi (consq hl h)
  exact unparts (wk q (.code ChN.yN ChN.yB 2 (some .char))) (wks q (.initialized ChN.yN.cls :: ChN.site))
theorem movedChN {Z s : State} {a0 args : Array Value} (hZ : Z.Warmed39 s.vm) (hw : ∀ d ∈ wordsChN, d.before a0 Z = true) : ∀ d ∈ wordsChN, d.before args s = true := fun d hd => by
  have t : ∀ d ∈ wordsChN, (d.onTables && d.keepsFace) = true := by decide +kernel
  exact RoadKit.mv hZ (hw d hd) (t d hd)
/-- **charAt(i) OF A LATIN-1 STRING**, i < n: the char -/
theorem chN {p : Program} {l : Launch} {e : Env} {R : Room} {s : State} {args : Array Value} {below : List Frame} {len W : Nat} {Z : State} {a0 : Array Value} {h : Heap} (hZ : Z.Warmed39 s.vm) (hw : ∀ d ∈ wordsChN, d.before a0 Z = true) {kI : Nat} (wi : (Jvm.Cond.instantiable ST kI).before a0 Z = true)
    {x t : Addr} {kb : ClassId} {cs : List Int32} {N2 z : Int32} {vs : List Value} {fm : Value} {i : Nat} {j : Int32} (E : RoadKit.Exa Z h x ST) (V : RoadKit.Fld Z h x ST "value" "[B" (.ref t)) (C : RoadKit.Fld Z h x ST "coder" "B" (.int 0)) (K : RoadKit.Arv Z h t kb .byte N2 vs (.int 0)) (hc : CodA cs 0 N2 vs) (hb : ∀ c ∈ cs, ¬ c < 0 ∧ ¬ (65535 : Int32) < c)
    (S : RoadKit.Sta Z h ST "COMPACT_STRINGS" "Z" (.int z)) (hz : ¬ z = 0) (F : RoadKit.Sta Z h "jdk/internal/util/Preconditions" "SIOOBE_FORMATTER" "Ljava/util/function/BiFunction;" fm) (rf : fm.isRef = true) (l2 : cs.length ≤ 4000) (hi : i < cs.length) (hj : j = Int32.ofNat i) (hfr : 4 ≤ R.frames) (hlo : W + 53 ≤ R.locals) :
    Back l R p e below s args (⟨"java/lang/String", "charAt", "(I)C"⟩ : MethodName) len W (fun P a => a = #[.ref x, .int j] ∧ P.U.heap = h ∧ P.cells + 0 ≤ R.cells ∧ P.slots + 0 ≤ R.slots)
      (fun P _ v B => ∃ L, (v = some (.int (cs.getD i 0)) ∧ L = [] ∧ B.U.heap = h) ∧ B.locs = P.locs ++ L ∧ B.cells = P.cells + 0 ∧ B.slots = P.slots + 0) := by
  subst hj
  intro m meth c P g ig mk a X hg hsize hdg hW hn hp'
  obtain ⟨rfl, rfl, r1, r2⟩ := hp'
  have al : Z.vm.Alike P.U.vm := hZ.alike.trans X.warmed.alike
  obtain ⟨A, hx⟩ := txt_of wi al E V C K hc hb l2
  obtain ⟨v, B, X', ⟨⟨hv, hh⟩, hl, hk, hs⟩, st⟩ := ChN.pays x t A cs.length (fun j => cs.getD j 0) z fm i (tabChN_of (movedChN hZ hw)) hfr hlo m meth c P g ig mk _ X hg hsize hdg hW hn ⟨r1, r2, rfl, hx, hi, sta_is al S, hz, sta_is al F, rf⟩
  exact ⟨v, B, X', ⟨[], ⟨hv, rfl, hh⟩, hl, hk, hs⟩, st⟩
/-- what backV says of its String, as the contracts of this text ask it: cs's low bytes, coder 0 -/
theorem codOf {cs : List Int32} {n : Nat} (hn : cs.length = n) (hb : ∀ c ∈ cs, ¬ 255 < c) : CodA cs 0 (Int32.ofNat n) ((cs.map lo8).map Value.int) := Or.inl ⟨rfl, by rw [hn], by simp [List.map_map, Function.comp_def], hb⟩
end StrChars.Road
end Jvm.Pilot.@@N@@
namespace Jvm.Pilot.@@N@@
open Jvm Jvm.ClassFile Sem Op Lib Jvm.Free Jvm.Stand Jvm.LawKit Jvm.RoadKit Bundle Jvm.Pilot.@@N@@.Jvm.D
theorem own_noface {a b : Bool} (h : (a || b) = false) : a = false := by
  cases a
  · rfl
  · cases h
/-- who comes to t from this place of the method comes to t from G -/
abbrev Kt (p : Program) (e : Env) (below : List Frame) (m : MethodId) (G T : State) (pc : Nat) (Ls : Array Slot) (st : List Value) : Prop :=
  ∀ t, Steps p.tables e below (T.setTop (mkF m pc Ls st)) t → Steps p.tables e below G t
/-- a callee that may intern and keeps the invariant, with cells that are asked to be safe -/
theorem own_backH {p : Program} {l : Launch} {e : Env} {R : Room} {s : State} {args : Array Value} {below : List Frame} {Z : State} {a0 : Array Value} {EL : List (String × Nat)} {h : Heap} {vm0 : Vm} {y : MethodName} {bytes : ByteArray} {maxL : Nat} {ret : Option FieldType} {rm : Room} {len W : Nat} {as' : Array Value} {Q : Option Value → Heap → List Loc → Prop} {ws : List Addr}
    (hM : MetFree l y (head1 [Jvm.Cond.code y bytes maxL ret] rm) (fun a U => a = as' ∧ Z.Warmed39 U.vm ∧ U.heap = h ∧ CHv Z EL U.vm h ∧ ∀ x ∈ ws, Safe Z EL U.vm h x) (fun _ _ _ _ _ => True) (fun _ U o U' => ∃ v L, o = .returned v ∧ Q v U'.heap L ∧ CHr Z EL U.vm U.heap U'.vm U'.heap ∧ ReturnedEndW U o U' L rm.cells rm.slots))
    (hZ : Z.Warmed39 vm0) (wc : (Jvm.Cond.code y bytes maxL ret).before a0 Z = true) (wz : (Jvm.Cond.initialized y.cls).before a0 Z = true) (hf : rm.frames + 1 ≤ R.frames) (hl : W + (maxL + 11) + rm.locals ≤ R.locals) (hEL : EW Z a0 EL) (H : CHv Z EL vm0 h) (hs : ∀ x ∈ ws, x < h.size ∧ Safe Z EL vm0 h x) :
    BackS l R p e below (s.setVm vm0) args y len W (fun A a => a = as' ∧ A.U.heap = h ∧ A.cells + rm.cells ≤ R.cells ∧ A.slots + rm.slots ≤ R.slots)
      (fun A _ v B => ∃ L, Q v B.U.heap L ∧ B.locs = A.locs ++ L ∧ B.cells = A.cells + rm.cells ∧ B.slots = A.slots + rm.slots ∧ CHr Z EL vm0 h B.U.vm B.U.heap) := by
  have there : ∀ (m : MethodId) (meth : Method) (c : Code) (A : Pt), Stand p l e R (s.setVm vm0) m args below meth c A.U A.locs A.cells A.slots → CHr Z EL vm0 h A.U.vm h := fun _ _ _ _ Y => CHv.at Y hZ hEL H
  have warm : ∀ (m : MethodId) (meth : Method) (c : Code) (A : Pt), Stand p l e R (s.setVm vm0) m args below meth c A.U A.locs A.cells A.slots → Z.Warmed39 A.U.vm := fun _ _ _ _ Y => wtrans (s := s.setVm vm0) hZ Y.warmed
  refine BackS.of_freeW (bytes := bytes) (maxL := maxL) (ret := ret) (E := fun _ first o t L k n => (k = rm.cells ∧ n = rm.slots) ∧ (∃ v, o = .returned v ∧ Q v t.heap L) ∧ CHr Z EL first.vm first.heap t.vm t.heap) hM hf hl ?_ ?_ (fun _ _ _ _ _ _ _ _ _ => trivial) ?_ ?_
  · intro m meth c A a Y hp
    have hU := warm m meth c A Y
    refine ⟨?_, mv hU wc, mv hU wz, hp.2.2⟩
    show (Jvm.Cond.and _ .tt).before a A.U = true
    rw [Cond.before_and, mv hU wc]
    rfl
  · intro m meth c A a g mk Y hp
    exact ⟨hp.1, warm m meth c A Y, hp.2.1, (there m meth c A Y).1, fun x hx => (there m meth c A Y).safe (hs x hx).1 (hs x hx).2⟩
  · intro a first o t hq
    obtain ⟨v, L, q1, q2, q3, q4⟩ := hq
    exact ⟨L, _, _, q4, ⟨rfl, rfl⟩, ⟨v, q1, q2⟩, q3⟩
  · intro m meth c A a g mk v t L k n Y hp _ _ hE
    obtain ⟨⟨rfl, rfl⟩, ⟨v', e3, e4⟩, e5⟩ := hE
    cases e3
    refine ⟨L, e4, rfl, rfl, rfl, (there m meth c A Y).trans ?_⟩
    rw [← hp.2.1]
    exact e5
def own_user : List Int32 := [117, 115, 101, 114]
def own_group : List Int32 := [103, 114, 111, 117, 112]
def own_mask : List Int32 := [109, 97, 115, 107]
def own_other : List Int32 := [111, 116, 104, 101, 114]
/-! plain facts -/
def own_b (P : Prop) [Decidable P] : Int32 := if P then 1 else 0
theorem own_b1 {P : Prop} [Decidable P] (h : P) : (1 : Int32) = own_b P := (if_pos h).symm
theorem own_b0 {P : Prop} [Decidable P] (h : ¬ P) : (0 : Int32) = own_b P := (if_neg h).symm
theorem own_bz {P : Prop} [Decidable P] : own_b P = 0 ↔ ¬ P := by
  unfold own_b
  by_cases h : P <;> simp [h]
theorem own_eq2 {v : Option Value} {P : Prop} [Decidable P] (h : (v = some (.int 1) ∧ P) ∨ (v = some (.int 0) ∧ ¬ P)) : v = some (.int (own_b P)) := by
  rcases h with ⟨rfl, h⟩ | ⟨rfl, h⟩
  · rw [← own_b1 h]
  · rw [← own_b0 h]
abbrev own_by (cs : List Int32) : List Value := (cs.map (fun c => c.toInt8.toInt32)).map Value.int
abbrev own_r (c : Int32) : Prop := ¬ c < 0 ∧ ¬ (255 : Int32) < c
theorem own_lt {a b : Int32} : a < b ↔ a.toInt < b.toInt := Int32.lt_iff_toInt_lt
theorem own_0 : (0 : Int32).toInt = 0 := by decide
theorem own_255 : (255 : Int32).toInt = 255 := by decide
theorem own_65535 : (65535 : Int32).toInt = 65535 := by decide
theorem own_up {cs : List Int32} (h : ∀ c ∈ cs, own_r c) : ∀ c ∈ cs, ¬ c < 0 ∧ ¬ (65535 : Int32) < c := by
  intro c hc
  have q := h c hc
  simp only [own_r, own_lt, own_0, own_255, own_65535] at q ⊢
  omega
theorem own_nar {c : Int32} (h : own_r c) : nar .char c = c := by
  show c.toUInt32.toUInt16.toUInt32.toInt32 = c
  have q := c_i2c c
  apply Int32.toInt_inj.mp
  simp only [own_r, own_lt, own_0, own_255] at h
  omega
theorem own_narr {c : Int32} (h : own_r c) : own_r (nar .char c) := by rw [own_nar h]; exact h
/-- the char that is drawn out of a long -/
theorem own_drawn (x : Int64) : own_r ((x &&& (255 : Int64)).toInt32.toUInt32.toUInt16.toUInt32.toInt32) := by
  have a := c_maskL x 255 8 (by decide) (by decide)
  have b := c_l2i (x &&& (255 : Int64))
  have r := rng32 (x &&& (255 : Int64)).toInt32
  have c := c_i2c (x &&& (255 : Int64)).toInt32
  simp only [own_r, own_lt, own_0, own_255]
  omega
theorem own_at {cs : List Int32} (h : ∀ c ∈ cs, own_r c) (i : Nat) : own_r (cs.getD i 0) := by
  by_cases hi : i < cs.length
  · have e : cs.getD i 0 = cs[i] := by simp [List.getD_eq_getElem?_getD, hi]
    rw [e]
    exact h _ (List.getElem_mem _)
  · have e : cs.getD i 0 = 0 := by simp [List.getD_eq_getElem?_getD, hi]
    rw [e]
    decide
theorem own_ofn {n : Nat} (h : n ≤ 4000) : (Int32.ofNat n).toInt = n := by
  rw [Int32.toInt_ofNat_of_lt (by omega)]
theorem own_oflt {i n : Nat} (hi : i ≤ 5) (hn : n ≤ 4000) (h : Int32.ofNat i < Int32.ofNat n) : i < n := by
  rw [own_lt, own_ofn (by omega), own_ofn hn] at h
  omega
theorem own_cod {cs : List Int32} (h : ∀ c ∈ cs, own_r c) : StrChars.Road.CodA cs 0 (Int32.ofNat cs.length) (own_by cs) := StrChars.Road.codOf rfl (fun c hc => (h c hc).2)
theorem own_rr {cs : List Int32} (h : cs.all (fun c => decide (own_r c)) = true) : ∀ c ∈ cs, own_r c := fun c hc => of_decide_eq_true (List.all_eq_true.mp h c hc)
theorem own_user_by : own_by own_user = [.int (117 : Int32), .int (115 : Int32), .int (101 : Int32), .int (114 : Int32)] := by decide +kernel
theorem own_group_by : own_by own_group = [.int (103 : Int32), .int (114 : Int32), .int (111 : Int32), .int (117 : Int32), .int (112 : Int32)] := by decide +kernel
theorem own_mask_by : own_by own_mask = [.int (109 : Int32), .int (97 : Int32), .int (115 : Int32), .int (107 : Int32)] := by decide +kernel
theorem own_other_by : own_by own_other = [.int (111 : Int32), .int (116 : Int32), .int (104 : Int32), .int (101 : Int32), .int (114 : Int32)] := by decide +kernel
theorem own_eqI {args : Array Value} {first s : State} {o : Option Outcome} {idx : List Nat} {t : Term} {n : Int32} (h : (Jvm.Cond.eq t (.int n)).value args first o s idx = some true) : t.eval args first o idx s = some (.int n) := by
  obtain ⟨x, y, e1, e2, -, k2⟩ := cmp_v (Or.inl h)
  cases (Term.int_eval n).symm.trans e2
  obtain ⟨z, rfl⟩ := k2
  have q : z = n := gotT (Cond.eq_ints e1 (Term.int_eval n)) h
  rw [e1, q]
theorem own_eqR {args : Array Value} {first s : State} {o : Option Outcome} {idx : List Nat} {t u : Term} {a : Addr} (h : (Jvm.Cond.eq t u).value args first o s idx = some true) (e : u.eval args first o idx s = some (.ref a)) : t.eval args first o idx s = some (.ref a) := by
  obtain ⟨x, y, e1, e2, -, k2⟩ := cmp_v (Or.inl h)
  cases e.symm.trans e2
  have q : x = .ref a := gotT (eq_R e1 e k2.2 rfl) h
  rw [e1, q]
theorem own_lenN {args : Array Value} {s : State} {t : Term} {a : Addr} {c : Cell} {n : Int32} (e : t.eval args s none [] s = some (.ref a)) (ha : s.arrayAt? a = some c) (h : (Jvm.Cond.eq (.length t) (.int n)).value args s none s [] = some true) : c.slots.size < 2 ^ 31 ∧ c.slots.size.toInt32 = n := by
  have e1 := own_eqI h
  by_cases hl : c.slots.size < 2 ^ 31
  · rw [len_f e ha hl] at e1
    cases e1
    exact ⟨hl, rfl⟩
  · simp [Term.eval, e, ha, hl] at e1
def own_tag (cs : List Int32) (a b c d : Addr) : Value := if cs = own_user then .ref a else if cs = own_group then .ref b else if cs = own_mask then .ref c else if cs = own_other then .ref d else .null
theorem own_tagR {cs : List Int32} {a b c d : Addr} : (own_tag cs a b c d).isRef = true := by
  unfold own_tag
  split
  · rfl
  split
  · rfl
  split
  · rfl
  split
  · rfl
  rfl
theorem own_all0 : ∀ c ∈ ([] : List Int32), own_r c := fun _ q => nomatch q
theorem own_allS {x : Int32} {L : List Int32} (h : own_r x) (r : ∀ c ∈ L, own_r c) : ∀ c ∈ x :: L, own_r c := fun c z => (List.mem_cons.mp z).elim (fun u => u ▸ h) (r c)
theorem own_user_r : ∀ c ∈ own_user, own_r c := own_rr (by decide +kernel)
theorem own_group_r : ∀ c ∈ own_group, own_r c := own_rr (by decide +kernel)
theorem own_mask_r : ∀ c ∈ own_mask, own_r c := own_rr (by decide +kernel)
theorem own_other_r : ∀ c ∈ own_other, own_r c := own_rr (by decide +kernel)
theorem dwd_0 : decode method_3_code 0 = .ok (.iload_n 0, 1) := by decide +kernel
theorem dwd_1 : decode method_3_code 1 = .ok (.ifCond .ne 6, 3) := by decide +kernel
theorem dwd_4 : decode method_3_code 4 = .ok (.ldc 36, 2) := by decide +kernel
theorem dwd_6 : decode method_3_code 6 = .ok (.areturn, 1) := by decide +kernel
theorem dwd_7 : decode method_3_code 7 = .ok (.iload_n 0, 1) := by decide +kernel
theorem dwd_8 : decode method_3_code 8 = .ok (.iconst 1, 1) := by decide +kernel
theorem dwd_9 : decode method_3_code 9 = .ok (.if_icmp .ne 6, 3) := by decide +kernel
theorem dwd_12 : decode method_3_code 12 = .ok (.ldc 38, 2) := by decide +kernel
theorem dwd_14 : decode method_3_code 14 = .ok (.areturn, 1) := by decide +kernel
theorem dwd_15 : decode method_3_code 15 = .ok (.iload_n 0, 1) := by decide +kernel
theorem dwd_16 : decode method_3_code 16 = .ok (.iconst 2, 1) := by decide +kernel
theorem dwd_17 : decode method_3_code 17 = .ok (.if_icmp .ne 6, 3) := by decide +kernel
theorem dwd_20 : decode method_3_code 20 = .ok (.ldc 40, 2) := by decide +kernel
theorem dwd_22 : decode method_3_code 22 = .ok (.areturn, 1) := by decide +kernel
theorem dwd_23 : decode method_3_code 23 = .ok (.ldc 42, 2) := by decide +kernel
theorem dwd_25 : decode method_3_code 25 = .ok (.areturn, 1) := by decide +kernel
theorem pnwd : plainName "com/example/lockstile/lockstile/namespace/AclEntryNamedPinLaw" = true := by first | (simp [plainName, overriddenIn]; done) | decide +kernel
theorem pd_0 : parseMethodDescriptor "()B" = some ⟨[], some .byte⟩ := by decide +kernel
theorem pd_1 : parseMethodDescriptor "()I" = some ⟨[], some .int⟩ := by decide +kernel
theorem pd_2 : parseMethodDescriptor "()Ljava/lang/Object;" = some ⟨[], some (.object "java/lang/Object")⟩ := by decide +kernel
theorem pd_3 : parseMethodDescriptor "()V" = some ⟨[], none⟩ := by decide +kernel
theorem pd_4 : parseMethodDescriptor "()Z" = some ⟨[], some .boolean⟩ := by decide +kernel
theorem pd_5 : parseMethodDescriptor "()[Lcom/example/lockstile/lockstile/namespace/AclEntry$Tag;" = some ⟨[], some (.array (.object "com/example/lockstile/lockstile/namespace/AclEntry$Tag"))⟩ := by decide +kernel
theorem pd_6 : parseMethodDescriptor "(I)C" = some ⟨[.int], some .char⟩ := by decide +kernel
theorem pd_7 : parseMethodDescriptor "(I)Ljava/lang/String;" = some ⟨[.int], some (.object "java/lang/String")⟩ := by decide +kernel
theorem pd_8 : parseMethodDescriptor "(ICCCCCC)Ljava/lang/String;" = some ⟨[.int, .char, .char, .char, .char, .char, .char], some (.object "java/lang/String")⟩ := by decide +kernel
theorem pd_9 : parseMethodDescriptor "(II)V" = some ⟨[.int, .int], none⟩ := by decide +kernel
theorem pd_10 : parseMethodDescriptor "(IILjava/util/function/BiFunction;)I" = some ⟨[.int, .int, (.object "java/util/function/BiFunction")], some .int⟩ := by decide +kernel
theorem pd_11 : parseMethodDescriptor "(Ljava/lang/Object;)Z" = some ⟨[(.object "java/lang/Object")], some .boolean⟩ := by decide +kernel
theorem pd_12 : parseMethodDescriptor "(Ljava/lang/String;)Lcom/example/lockstile/lockstile/namespace/AclEntry$Tag;" = some ⟨[(.object "java/lang/String")], some (.object "com/example/lockstile/lockstile/namespace/AclEntry$Tag")⟩ := by decide +kernel
theorem pd_13 : parseMethodDescriptor "(Ljava/lang/String;IZIJ)C" = some ⟨[(.object "java/lang/String"), .int, .boolean, .int, .long], some .char⟩ := by decide +kernel
theorem pd_14 : parseMethodDescriptor "([BI)B" = some ⟨[(.array .byte), .int], some .byte⟩ := by decide +kernel
theorem pd_15 : parseMethodDescriptor "([BI)C" = some ⟨[(.array .byte), .int], some .char⟩ := by decide +kernel
theorem pd_16 : parseMethodDescriptor "([B[B)Z" = some ⟨[(.array .byte), (.array .byte)], some .boolean⟩ := by decide +kernel
theorem pd_17 : parseMethodDescriptor "([C)V" = some ⟨[(.array .char)], none⟩ := by decide +kernel
theorem pd_18 : parseMethodDescriptor "([CII)[B" = some ⟨[(.array .char), .int, .int], some (.array .byte)⟩ := by decide +kernel
theorem pd_19 : parseMethodDescriptor "([CIILjava/lang/Void;)V" = some ⟨[(.array .char), .int, .int, (.object "java/lang/Void")], none⟩ := by decide +kernel
theorem pd_20 : parseMethodDescriptor "([CI[BII)I" = some ⟨[(.array .char), .int, (.array .byte), .int, .int], some .int⟩ := by decide +kernel
theorem efwd (m : MethodId) (p1 : Int32) : entryFrame m #[(.int p1)] 1 = mkF m 0 #[.val (.int p1)] [] := by first | (simp [entryFrame, mkF, argsToLocals, Value.category]; done) | rfl
def Qwd (Z : State) (p1 : Int32) (h0 : Heap) (n0 : Nat) (v : Option Value) (h : Heap) (L : List Loc) : Prop := ∃ r t kb cs, v = some (.ref r) ∧ Fr n0 L ∧ Keep h0 h [] ∧ Exa Z h r "java/lang/String" ∧ Fld Z h r "java/lang/String" "coder" "B" (.int (0 : Int32)) ∧ Fld Z h r "java/lang/String" "value" "[B" (.ref t) ∧ Arv Z h t kb .byte (Int32.ofNat cs.length) (own_by cs) (.int (0 : Int32)) ∧ (∀ c ∈ cs, own_r c) ∧ cs.length ≤ 4000
set_option maxRecDepth 65536 in
set_option maxHeartbeats 40000000 in
theorem rmwd (l : Launch) (Z : State) (a0 : Array Value) (hw : ∀ d ∈ tables_1, d.before a0 Z = true) (ws : List Jvm.Cond) (p1 : Int32) (h0 : Heap) (n0 : Nat) (Z0 : n0 ≤ h0.size) (hEL : EW Z a0 consts_1) :
    MetFree l (⟨"com/example/lockstile/lockstile/namespace/AclEntryNamedPinLaw", "word", "(I)Ljava/lang/String;"⟩ : MethodName) (head1 (Jvm.Cond.code (⟨"com/example/lockstile/lockstile/namespace/AclEntryNamedPinLaw", "word", "(I)Ljava/lang/String;"⟩ : MethodName) method_3_code 1 (some (.object "java/lang/String")) :: ws) ({ frames := 0, cells := 2, slots := 24, locals := 0 } : Room)) (fun gs' U => gs' = #[(.int p1)] ∧ Z.Warmed39 U.vm ∧ U.heap = h0 ∧ CHv Z consts_1 U.vm h0 ∧ ∀ x ∈ ([] : List Addr), Safe Z consts_1 U.vm h0 x) (fun _ _ _ _ _ => True) (fun _ U o U' => ∃ v L, o = .returned v ∧ Qwd Z p1 h0 n0 v U'.heap L ∧ CHr Z consts_1 U.vm U.heap U'.vm U'.heap ∧ ReturnedEndW U o U' L ({ frames := 0, cells := 2, slots := 24, locals := 0 } : Room).cells ({ frames := 0, cells := 2, slots := 24, locals := 0 } : Room).slots) := by
  refine MetFree.of_bodySF (plainFor_of_name pnwd) hisR ?_
  intro p e s m args below meth c s₁ Bd hml0 hP hK
  obtain ⟨rfl, hZ, hh, hCH, hSf⟩ := hP
  have hx := Bd.exec
  have hby := Bd.bytes
  have hml : c.maxLocals = 1 := hml0
  have hown : s.vm.findClass "com/example/lockstile/lockstile/namespace/AclEntryNamedPinLaw" = some m.cls := findClass_of_methodNamed Bd.named
  have hnm := (name_of_methodNamed Bd.named Bd.method).1
  have X0 : Stand p l e ({ frames := 0, cells := 2, slots := 24, locals := 0 } : Room) (s.setVm s.vm) m #[(.int p1)] below meth c s₁ [] 0 0 := Stand.of_body Bd
  have e0 : s₁.heap = h0 := by rw [← hh, Bd.state]; rfl
  have N0 := Fr.nil n0
  have k0 : Kt p e below m (s₁.setTop (entryFrame m #[(.int p1)] 1)) s₁ 0 #[.val (.int p1)] [] := fun t ht => castTop (efwd m p1) ht
  have R0 : CHr Z consts_1 s.vm h0 s.vm h0 := CHr.refl hCH
  have K0 : Keep h0 h0 [] := Keep.refl _ _
  have wS : ∀ a ∈ Bundle.stringAtoms, a.before a0 Z = true := by
    intro a ha
    simp only [Bundle.stringAtoms, List.mem_cons, List.not_mem_nil, or_false] at ha
    rcases ha with rfl | rfl | rfl | rfl | rfl | rfl | rfl
    · exact (hw _ (List.mem_of_getElem? (i := 5) rfl))
    · exact (hw _ (List.mem_of_getElem? (i := 6) rfl))
    · exact (hw _ (List.mem_of_getElem? (i := 7) rfl))
    · exact (hw _ (List.mem_of_getElem? (i := 8) rfl))
    · exact (hw _ (List.mem_of_getElem? (i := 9) rfl))
    · exact (hw _ (List.mem_of_getElem? (i := 10) rfl))
    · exact (hw _ (List.mem_of_getElem? (i := 11) rfl))
  have k1 : Kt p e below m (s₁.setTop (entryFrame m #[(.int p1)] 1)) s₁ 1 #[.val (.int p1)] [(.int p1)] := by
    intro t ht
    refine k0 t ?_
    show Steps p.tables e below (s₁.setTop (mkF m 0 #[.val (.int p1)] [])) t
    refine XS.iloadN X0.here hx rfl (hb hby dwd_0) rfl ?_
    exact ht
  by_cases h1 : p1 = (0 : Int32)
  · have k2 : Kt p e below m (s₁.setTop (entryFrame m #[(.int p1)] 1)) s₁ 4 #[.val (.int p1)] [] := by
      intro t ht
      refine k1 t ?_
      show Steps p.tables e below (s₁.setTop (mkF m 1 #[.val (.int p1)] [(.int p1)])) t
      refine XS.ifNo X0.here hx rfl (hb hby dwd_1) rfl ((if0 _ _).trans (teq h1).2) ?_
      exact ht
    obtain ⟨sx, T3, h3, kb3, tx, ck3, X3, e3, E3, hS3, hk3, hZ3, hown3, Ex3, Fc3, Fv3, Va3, la3, lb3, hR3, -, hne3, st3⟩ := ldcCH (s := s) (vm0 := s.vm) X0 hx hZ hown (hw _ (List.mem_of_getElem? (i := 4) rfl)) wS e0 ((State.WarmedH.refl s).since 0) (Nat.zero_le _) hEL (EL := consts_1) (by decide) R0.1 (vs := (own_by own_user)) (z := (Int32.ofNat own_user.length)) (by decide +kernel) (by decide) (by decide) (g := (mkF m 4 #[.val (.int p1)] [])) rfl (hb hby dwd_4) (n := 16) (by decide +kernel) (by decide) (by decide) (by decide)
    have f4 : n0 ≤ h3.size := Nat.le_trans Z0 E3.1
    have f5 : CHr Z consts_1 s.vm h0 T3.vm h3 := R0.trans hR3
    have f6 : Keep h0 h3 [] := K0.ext E3
    have k3 : Kt p e below m (s₁.setTop (entryFrame m #[(.int p1)] 1)) T3 6 #[.val (.int p1)] [(.ref sx)] := fun t ht => k2 t (st3 t ht)
    obtain ⟨fs, hr, hrun, hended, -, hW, hbk, hsame⟩ := Stand.leaveW (s := s) (vm₁ := T3.vm) X3 (hS3) (by rw [e3]; exact hk3) (v := some (.ref sx)) (fun h => by rw [Bd.returns] at h; cases h)
    refine ⟨_, _, k3 _ ?_, hrun, hended, _, _, rfl, ?_, ?_, ⟨_, rfl⟩, hW, hbk, hsame.mono (by decide) (by decide)⟩
    · show Steps p.tables e below (T3.setTop (mkF m 6 #[.val (.int p1)] [(.ref sx)])) _
      jvm_step X3.here [X3.here.top, hx, (hb hby dwd_6), X3.method', Bd.returns, Value.isRef, FieldType.isReference]
      first | (intro acts; rw [hr _ acts rfl rfl rfl]) | rw [hr _ _ rfl rfl rfl]
      exact Steps.refl _
    · show Qwd Z p1 h0 n0 _ T3.heap _
      rw [e3]
      exact ⟨sx, tx, _, own_user, rfl, N0, f6, Ex3, Fc3, Fv3, Va3, own_user_r, by decide⟩
    · show CHr Z consts_1 s.vm s.heap T3.vm T3.heap
      rw [hh, e3]
      exact f5.trans (CHv.at (s := s) (vm0 := T3.vm) X3 hZ3 hEL f5.1)
  · have k7 : Kt p e below m (s₁.setTop (entryFrame m #[(.int p1)] 1)) s₁ 9 #[.val (.int p1)] [(.int (1 : Int32)), (.int p1)] := by
      intro t ht
      refine k1 t ?_
      show Steps p.tables e below (s₁.setTop (mkF m 1 #[.val (.int p1)] [(.int p1)])) t
      refine XS.ifYes X0.here hx rfl (pc0 := 1) (pc' := 7) rfl (hb hby dwd_1) rfl ((if0 _ _).trans (feq h1).2) (by decide) (by decide) ?_
      show Steps p.tables e below (s₁.setTop (mkF m 7 #[.val (.int p1)] [])) t
      refine XS.iloadN X0.here hx rfl (hb hby dwd_7) rfl ?_
      show Steps p.tables e below (s₁.setTop (mkF m 8 #[.val (.int p1)] [(.int p1)])) t
      refine XS.iconst X0.here hx rfl (hb hby dwd_8) ?_
      exact ht
    by_cases h2 : p1 = (1 : Int32)
    · have k8 : Kt p e below m (s₁.setTop (entryFrame m #[(.int p1)] 1)) s₁ 12 #[.val (.int p1)] [] := by
        intro t ht
        refine k7 t ?_
        show Steps p.tables e below (s₁.setTop (mkF m 9 #[.val (.int p1)] [(.int (1 : Int32)), (.int p1)])) t
        refine XS.icmpNo X0.here hx rfl (hb hby dwd_9) rfl (teq h2).2 ?_
        exact ht
      obtain ⟨sx, T9, h9, kb9, tx, ck9, X9, e9, E9, hS9, hk9, hZ9, hown9, Ex9, Fc9, Fv9, Va9, la9, lb9, hR9, -, hne9, st9⟩ := ldcCH (s := s) (vm0 := s.vm) X0 hx hZ hown (hw _ (List.mem_of_getElem? (i := 88) rfl)) wS e0 ((State.WarmedH.refl s).since 0) (Nat.zero_le _) hEL (EL := consts_1) (by decide) R0.1 (vs := (own_by own_group)) (z := (Int32.ofNat own_group.length)) (by decide +kernel) (by decide) (by decide) (g := (mkF m 12 #[.val (.int p1)] [])) rfl (hb hby dwd_12) (n := 20) (by decide +kernel) (by decide) (by decide) (by decide)
      have f10 : n0 ≤ h9.size := Nat.le_trans Z0 E9.1
      have f11 : CHr Z consts_1 s.vm h0 T9.vm h9 := R0.trans hR9
      have f12 : Keep h0 h9 [] := K0.ext E9
      have k9 : Kt p e below m (s₁.setTop (entryFrame m #[(.int p1)] 1)) T9 14 #[.val (.int p1)] [(.ref sx)] := fun t ht => k8 t (st9 t ht)
      obtain ⟨fs, hr, hrun, hended, -, hW, hbk, hsame⟩ := Stand.leaveW (s := s) (vm₁ := T9.vm) X9 (hS9) (by rw [e9]; exact hk9) (v := some (.ref sx)) (fun h => by rw [Bd.returns] at h; cases h)
      refine ⟨_, _, k9 _ ?_, hrun, hended, _, _, rfl, ?_, ?_, ⟨_, rfl⟩, hW, hbk, hsame.mono (by decide) (by decide)⟩
      · show Steps p.tables e below (T9.setTop (mkF m 14 #[.val (.int p1)] [(.ref sx)])) _
        jvm_step X9.here [X9.here.top, hx, (hb hby dwd_14), X9.method', Bd.returns, Value.isRef, FieldType.isReference]
        first | (intro acts; rw [hr _ acts rfl rfl rfl]) | rw [hr _ _ rfl rfl rfl]
        exact Steps.refl _
      · show Qwd Z p1 h0 n0 _ T9.heap _
        rw [e9]
        exact ⟨sx, tx, _, own_group, rfl, N0, f12, Ex9, Fc9, Fv9, Va9, own_group_r, by decide⟩
      · show CHr Z consts_1 s.vm s.heap T9.vm T9.heap
        rw [hh, e9]
        exact f11.trans (CHv.at (s := s) (vm0 := T9.vm) X9 hZ9 hEL f11.1)
    · have k13 : Kt p e below m (s₁.setTop (entryFrame m #[(.int p1)] 1)) s₁ 17 #[.val (.int p1)] [(.int (2 : Int32)), (.int p1)] := by
        intro t ht
        refine k7 t ?_
        show Steps p.tables e below (s₁.setTop (mkF m 9 #[.val (.int p1)] [(.int (1 : Int32)), (.int p1)])) t
        refine XS.icmpYes X0.here hx rfl (pc0 := 9) (pc' := 15) rfl (hb hby dwd_9) rfl (feq h2).2 (by decide) (by decide) ?_
        show Steps p.tables e below (s₁.setTop (mkF m 15 #[.val (.int p1)] [])) t
        refine XS.iloadN X0.here hx rfl (hb hby dwd_15) rfl ?_
        show Steps p.tables e below (s₁.setTop (mkF m 16 #[.val (.int p1)] [(.int p1)])) t
        refine XS.iconst X0.here hx rfl (hb hby dwd_16) ?_
        exact ht
      by_cases h3 : p1 = (2 : Int32)
      · have k14 : Kt p e below m (s₁.setTop (entryFrame m #[(.int p1)] 1)) s₁ 20 #[.val (.int p1)] [] := by
          intro t ht
          refine k13 t ?_
          show Steps p.tables e below (s₁.setTop (mkF m 17 #[.val (.int p1)] [(.int (2 : Int32)), (.int p1)])) t
          refine XS.icmpNo X0.here hx rfl (hb hby dwd_17) rfl (teq h3).2 ?_
          exact ht
        obtain ⟨sx, T15, h15, kb15, tx, ck15, X15, e15, E15, hS15, hk15, hZ15, hown15, Ex15, Fc15, Fv15, Va15, la15, lb15, hR15, -, hne15, st15⟩ := ldcCH (s := s) (vm0 := s.vm) X0 hx hZ hown (hw _ (List.mem_of_getElem? (i := 89) rfl)) wS e0 ((State.WarmedH.refl s).since 0) (Nat.zero_le _) hEL (EL := consts_1) (by decide) R0.1 (vs := (own_by own_mask)) (z := (Int32.ofNat own_mask.length)) (by decide +kernel) (by decide) (by decide) (g := (mkF m 20 #[.val (.int p1)] [])) rfl (hb hby dwd_20) (n := 16) (by decide +kernel) (by decide) (by decide) (by decide)
        have f16 : n0 ≤ h15.size := Nat.le_trans Z0 E15.1
        have f17 : CHr Z consts_1 s.vm h0 T15.vm h15 := R0.trans hR15
        have f18 : Keep h0 h15 [] := K0.ext E15
        have k15 : Kt p e below m (s₁.setTop (entryFrame m #[(.int p1)] 1)) T15 22 #[.val (.int p1)] [(.ref sx)] := fun t ht => k14 t (st15 t ht)
        obtain ⟨fs, hr, hrun, hended, -, hW, hbk, hsame⟩ := Stand.leaveW (s := s) (vm₁ := T15.vm) X15 (hS15) (by rw [e15]; exact hk15) (v := some (.ref sx)) (fun h => by rw [Bd.returns] at h; cases h)
        refine ⟨_, _, k15 _ ?_, hrun, hended, _, _, rfl, ?_, ?_, ⟨_, rfl⟩, hW, hbk, hsame.mono (by decide) (by decide)⟩
        · show Steps p.tables e below (T15.setTop (mkF m 22 #[.val (.int p1)] [(.ref sx)])) _
          jvm_step X15.here [X15.here.top, hx, (hb hby dwd_22), X15.method', Bd.returns, Value.isRef, FieldType.isReference]
          first | (intro acts; rw [hr _ acts rfl rfl rfl]) | rw [hr _ _ rfl rfl rfl]
          exact Steps.refl _
        · show Qwd Z p1 h0 n0 _ T15.heap _
          rw [e15]
          exact ⟨sx, tx, _, own_mask, rfl, N0, f18, Ex15, Fc15, Fv15, Va15, own_mask_r, by decide⟩
        · show CHr Z consts_1 s.vm s.heap T15.vm T15.heap
          rw [hh, e15]
          exact f17.trans (CHv.at (s := s) (vm0 := T15.vm) X15 hZ15 hEL f17.1)
      · have k19 : Kt p e below m (s₁.setTop (entryFrame m #[(.int p1)] 1)) s₁ 23 #[.val (.int p1)] [] := by
          intro t ht
          refine k13 t ?_
          show Steps p.tables e below (s₁.setTop (mkF m 17 #[.val (.int p1)] [(.int (2 : Int32)), (.int p1)])) t
          refine XS.icmpYes X0.here hx rfl (pc0 := 17) (pc' := 23) rfl (hb hby dwd_17) rfl (feq h3).2 (by decide) (by decide) ?_
          exact ht
        obtain ⟨sx, T20, h20, kb20, tx, ck20, X20, e20, E20, hS20, hk20, hZ20, hown20, Ex20, Fc20, Fv20, Va20, la20, lb20, hR20, -, hne20, st20⟩ := ldcCH (s := s) (vm0 := s.vm) X0 hx hZ hown (hw _ (List.mem_of_getElem? (i := 90) rfl)) wS e0 ((State.WarmedH.refl s).since 0) (Nat.zero_le _) hEL (EL := consts_1) (by decide) R0.1 (vs := (own_by own_other)) (z := (Int32.ofNat own_other.length)) (by decide +kernel) (by decide) (by decide) (g := (mkF m 23 #[.val (.int p1)] [])) rfl (hb hby dwd_23) (n := 20) (by decide +kernel) (by decide) (by decide) (by decide)
        have f21 : n0 ≤ h20.size := Nat.le_trans Z0 E20.1
        have f22 : CHr Z consts_1 s.vm h0 T20.vm h20 := R0.trans hR20
        have f23 : Keep h0 h20 [] := K0.ext E20
        have k20 : Kt p e below m (s₁.setTop (entryFrame m #[(.int p1)] 1)) T20 25 #[.val (.int p1)] [(.ref sx)] := fun t ht => k19 t (st20 t ht)
        obtain ⟨fs, hr, hrun, hended, -, hW, hbk, hsame⟩ := Stand.leaveW (s := s) (vm₁ := T20.vm) X20 (hS20) (by rw [e20]; exact hk20) (v := some (.ref sx)) (fun h => by rw [Bd.returns] at h; cases h)
        refine ⟨_, _, k20 _ ?_, hrun, hended, _, _, rfl, ?_, ?_, ⟨_, rfl⟩, hW, hbk, hsame.mono (by decide) (by decide)⟩
        · show Steps p.tables e below (T20.setTop (mkF m 25 #[.val (.int p1)] [(.ref sx)])) _
          jvm_step X20.here [X20.here.top, hx, (hb hby dwd_25), X20.method', Bd.returns, Value.isRef, FieldType.isReference]
          first | (intro acts; rw [hr _ acts rfl rfl rfl]) | rw [hr _ _ rfl rfl rfl]
          exact Steps.refl _
        · show Qwd Z p1 h0 n0 _ T20.heap _
          rw [e20]
          exact ⟨sx, tx, _, own_other, rfl, N0, f23, Ex20, Fc20, Fv20, Va20, own_other_r, by decide⟩
        · show CHr Z consts_1 s.vm s.heap T20.vm T20.heap
          rw [hh, e20]
          exact f22.trans (CHv.at (s := s) (vm0 := T20.vm) X20 hZ20 hEL f22.1)
theorem dpk_0 : decode method_4_code 0 = .ok (.lload 4, 2) := by decide +kernel
theorem dpk_2 : decode method_4_code 2 = .ok (.bipush 8, 2) := by decide +kernel
theorem dpk_4 : decode method_4_code 4 = .ok (.iload_n 1, 1) := by decide +kernel
theorem dpk_5 : decode method_4_code 5 = .ok (.imul, 1) := by decide +kernel
theorem dpk_6 : decode method_4_code 6 = .ok (.lushr, 1) := by decide +kernel
theorem dpk_7 : decode method_4_code 7 = .ok (.ldc2_w 44, 3) := by decide +kernel
theorem dpk_10 : decode method_4_code 10 = .ok (.land, 1) := by decide +kernel
theorem dpk_11 : decode method_4_code 11 = .ok (.l2i, 1) := by decide +kernel
theorem dpk_12 : decode method_4_code 12 = .ok (.i2c, 1) := by decide +kernel
theorem dpk_13 : decode method_4_code 13 = .ok (.istore 6, 2) := by decide +kernel
theorem dpk_15 : decode method_4_code 15 = .ok (.iload_n 1, 1) := by decide +kernel
theorem dpk_16 : decode method_4_code 16 = .ok (.aload_n 0, 1) := by decide +kernel
theorem dpk_17 : decode method_4_code 17 = .ok (.invokevirtual 13, 3) := by decide +kernel
theorem dpk_20 : decode method_4_code 20 = .ok (.if_icmp .lt 6, 3) := by decide +kernel
theorem dpk_23 : decode method_4_code 23 = .ok (.iload 6, 2) := by decide +kernel
theorem dpk_25 : decode method_4_code 25 = .ok (.ireturn, 1) := by decide +kernel
theorem dpk_26 : decode method_4_code 26 = .ok (.iload_n 2, 1) := by decide +kernel
theorem dpk_27 : decode method_4_code 27 = .ok (.ifCond .eq 16, 3) := by decide +kernel
theorem dpk_30 : decode method_4_code 30 = .ok (.iload_n 3, 1) := by decide +kernel
theorem dpk_31 : decode method_4_code 31 = .ok (.iload_n 1, 1) := by decide +kernel
theorem dpk_32 : decode method_4_code 32 = .ok (.iconst 1, 1) := by decide +kernel
theorem dpk_33 : decode method_4_code 33 = .ok (.iadd, 1) := by decide +kernel
theorem dpk_34 : decode method_4_code 34 = .ok (.iushr, 1) := by decide +kernel
theorem dpk_35 : decode method_4_code 35 = .ok (.iconst 1, 1) := by decide +kernel
theorem dpk_36 : decode method_4_code 36 = .ok (.iand, 1) := by decide +kernel
theorem dpk_37 : decode method_4_code 37 = .ok (.ifCond .eq 6, 3) := by decide +kernel
theorem dpk_40 : decode method_4_code 40 = .ok (.iload 6, 2) := by decide +kernel
theorem dpk_42 : decode method_4_code 42 = .ok (.ireturn, 1) := by decide +kernel
theorem dpk_43 : decode method_4_code 43 = .ok (.aload_n 0, 1) := by decide +kernel
theorem dpk_44 : decode method_4_code 44 = .ok (.iload_n 1, 1) := by decide +kernel
theorem dpk_45 : decode method_4_code 45 = .ok (.invokevirtual 46, 3) := by decide +kernel
theorem dpk_48 : decode method_4_code 48 = .ok (.ireturn, 1) := by decide +kernel
theorem pnpk : plainName "com/example/lockstile/lockstile/namespace/AclEntryNamedPinLaw" = true := by first | (simp [plainName, overriddenIn]; done) | decide +kernel
theorem efpk (m : MethodId) (ii : Nat) (x1 : Addr) (p3 : Int32) (p4 : Int32) (q5 : Int64) : entryFrame m #[(.ref x1), (.int (Int32.ofNat ii)), (.int p3), (.int p4), (.long q5)] 7 = mkF m 0 #[.val (.ref x1), .val (.int (Int32.ofNat ii)), .val (.int p3), .val (.int p4), .val (.long q5), .second, .unset] [] := by first | (simp [entryFrame, mkF, argsToLocals, Value.category]; done) | rfl
def Qpk (Z : State) (x1 : Addr) (ii : Nat) (p3 : Int32) (p4 : Int32) (q5 : Int64) (t1 : Addr) (k1 : ClassId) (cs : List Int32) (G1 : Int32) (G3 : Value) (h0 : Heap) (n0 : Nat) (v : Option Value) (h : Heap) (L : List Loc) : Prop := ∃ z, v = some (.int z) ∧ Fr n0 L ∧ own_r z ∧ h = h0
set_option maxRecDepth 65536 in
set_option maxHeartbeats 40000000 in
theorem rmpk (l : Launch) (Z : State) (a0 : Array Value) (hw : ∀ d ∈ tables_1, d.before a0 Z = true) (ws : List Jvm.Cond) (x1 : Addr) (ii : Nat) (p3 : Int32) (p4 : Int32) (q5 : Int64) (t1 : Addr) (k1 : ClassId) (cs : List Int32) (G1 : Int32) (G3 : Value) (h0 : Heap) (n0 : Nat) (Z0 : n0 ≤ h0.size) (S1 : Sta Z Z.heap "java/lang/String" "COMPACT_STRINGS" "Z" (.int G1)) (P5 : ¬ (G1 = (0 : Int32))) (O : Old Z n0 h0) (S3 : Sta Z Z.heap "jdk/internal/util/Preconditions" "SIOOBE_FORMATTER" "Ljava/util/function/BiFunction;" G3) (r3 : G3.isRef = true) (hii : ii ≤ 5) (uE : Exa Z h0 x1 "java/lang/String") (uC : Fld Z h0 x1 "java/lang/String" "coder" "B" (.int (0 : Int32))) (uV : Fld Z h0 x1 "java/lang/String" "value" "[B" (.ref t1)) (uK : Arv Z h0 t1 k1 .byte (Int32.ofNat cs.length) (own_by cs) (.int (0 : Int32))) (ur : ∀ c ∈ cs, own_r c) (ul : cs.length ≤ 4000) :
    MetFree l (⟨"com/example/lockstile/lockstile/namespace/AclEntryNamedPinLaw", "pick", "(Ljava/lang/String;IZIJ)C"⟩ : MethodName) (head1 (Jvm.Cond.code (⟨"com/example/lockstile/lockstile/namespace/AclEntryNamedPinLaw", "pick", "(Ljava/lang/String;IZIJ)C"⟩ : MethodName) method_4_code 7 (some .char) :: ws) ({ frames := 4, cells := 0, slots := 0, locals := 53 } : Room)) (fun gs' U => gs' = #[(.ref x1), (.int (Int32.ofNat ii)), (.int p3), (.int p4), (.long q5)] ∧ Z.Warmed39 U.vm ∧ U.heap = h0) (fun _ _ _ _ _ => True) (fun _ U o U' => ∃ v L, o = .returned v ∧ Qpk Z x1 ii p3 p4 q5 t1 k1 cs G1 G3 h0 n0 v U'.heap L ∧ FrameEnd U o U' L ({ frames := 4, cells := 0, slots := 0, locals := 53 } : Room).cells ({ frames := 4, cells := 0, slots := 0, locals := 53 } : Room).slots) := by
  refine MetFree.of_bodySF (plainFor_of_name pnpk) hisR ?_
  intro p e s m args below meth c s₁ Bd hml0 hP hK
  obtain ⟨rfl, hZ, hh⟩ := hP
  have hx := Bd.exec
  have hby := Bd.bytes
  have hml : c.maxLocals = 7 := hml0
  have hown : s.vm.findClass "com/example/lockstile/lockstile/namespace/AclEntryNamedPinLaw" = some m.cls := findClass_of_methodNamed Bd.named
  have hnm := (name_of_methodNamed Bd.named Bd.method).1
  have X0 : Stand p l e ({ frames := 4, cells := 0, slots := 0, locals := 53 } : Room) s m #[(.ref x1), (.int (Int32.ofNat ii)), (.int p3), (.int p4), (.long q5)] below meth c s₁ [] 0 0 := Stand.of_body Bd
  have e0 : s₁.heap = h0 := by rw [← hh, Bd.state]; rfl
  have N0 := Fr.nil n0
  have k0 : Kt p e below m (s₁.setTop (entryFrame m #[(.ref x1), (.int (Int32.ofNat ii)), (.int p3), (.int p4), (.long q5)] 7)) s₁ 0 #[.val (.ref x1), .val (.int (Int32.ofNat ii)), .val (.int p3), .val (.int p4), .val (.long q5), .second, .unset] [] := fun t ht => castTop (efpk m ii x1 p3 p4 q5) ht
  have hln : ∀ d ∈ StrChars.Road.wordsLen, d.before a0 Z = true := fun d hd => hw d ((by decide +kernel : ∀ d ∈ StrChars.Road.wordsLen, d ∈ tables_1) d hd)
  have hch : ∀ d ∈ StrChars.Road.wordsChN, d.before a0 Z = true := fun d hd => hw d ((by decide +kernel : ∀ d ∈ StrChars.Road.wordsChN, d ∈ tables_1) d hd)
  have rd := own_drawn ((q5.toUInt64 >>> (((8 : Int32) * (Int32.ofNat ii)) &&& 0x3f).toInt64.toUInt64).toInt64)
  have k24 : Kt p e below m (s₁.setTop (entryFrame m #[(.ref x1), (.int (Int32.ofNat ii)), (.int p3), (.int p4), (.long q5)] 7)) s₁ 13 #[.val (.ref x1), .val (.int (Int32.ofNat ii)), .val (.int p3), .val (.int p4), .val (.long q5), .second, .unset] [(.int (((((q5.toUInt64 >>> (((8 : Int32) * (Int32.ofNat ii)) &&& 0x3f).toInt64.toUInt64).toInt64) &&& (255 : Int64)).toInt32).toUInt32.toUInt16.toUInt32.toInt32))] := by
    intro t ht
    refine k0 t ?_
    show Steps p.tables e below (s₁.setTop (mkF m 0 #[.val (.ref x1), .val (.int (Int32.ofNat ii)), .val (.int p3), .val (.int p4), .val (.long q5), .second, .unset] [])) t
    refine XS.lload X0.here hx rfl (hb hby dpk_0) rfl ?_
    show Steps p.tables e below (s₁.setTop (mkF m 2 #[.val (.ref x1), .val (.int (Int32.ofNat ii)), .val (.int p3), .val (.int p4), .val (.long q5), .second, .unset] [(.long q5)])) t
    refine XS.bipush X0.here hx rfl (hb hby dpk_2) ?_
    show Steps p.tables e below (s₁.setTop (mkF m 4 #[.val (.ref x1), .val (.int (Int32.ofNat ii)), .val (.int p3), .val (.int p4), .val (.long q5), .second, .unset] [(.int (8 : Int32)), (.long q5)])) t
    refine XS.iloadN X0.here hx rfl (hb hby dpk_4) rfl ?_
    show Steps p.tables e below (s₁.setTop (mkF m 5 #[.val (.ref x1), .val (.int (Int32.ofNat ii)), .val (.int p3), .val (.int p4), .val (.long q5), .second, .unset] [(.int (Int32.ofNat ii)), (.int (8 : Int32)), (.long q5)])) t
    refine XS.imul X0.here hx rfl (hb hby dpk_5) rfl ?_
    show Steps p.tables e below (s₁.setTop (mkF m 6 #[.val (.ref x1), .val (.int (Int32.ofNat ii)), .val (.int p3), .val (.int p4), .val (.long q5), .second, .unset] [(.int ((8 : Int32) * (Int32.ofNat ii))), (.long q5)])) t
    refine XS.lushr X0.here hx rfl (hb hby dpk_6) rfl ?_
    show Steps p.tables e below (s₁.setTop (mkF m 7 #[.val (.ref x1), .val (.int (Int32.ofNat ii)), .val (.int p3), .val (.int p4), .val (.long q5), .second, .unset] [(.long ((q5.toUInt64 >>> (((8 : Int32) * (Int32.ofNat ii)) &&& 0x3f).toInt64.toUInt64).toInt64))])) t
    refine X0.ldc2Long hx hown (mvT hZ (hw _ (List.mem_of_getElem? (i := 15) rfl))) (g := (mkF m 7 #[.val (.ref x1), .val (.int (Int32.ofNat ii)), .val (.int p3), .val (.int p4), .val (.long q5), .second, .unset] [(.long ((q5.toUInt64 >>> (((8 : Int32) * (Int32.ofNat ii)) &&& 0x3f).toInt64.toUInt64).toInt64))])) rfl (hb hby dpk_7) _ ?_
    show Steps p.tables e below (s₁.setTop (mkF m 10 #[.val (.ref x1), .val (.int (Int32.ofNat ii)), .val (.int p3), .val (.int p4), .val (.long q5), .second, .unset] [(.long (255 : Int64)), (.long ((q5.toUInt64 >>> (((8 : Int32) * (Int32.ofNat ii)) &&& 0x3f).toInt64.toUInt64).toInt64))])) t
    refine XS.land X0.here hx rfl (hb hby dpk_10) rfl ?_
    show Steps p.tables e below (s₁.setTop (mkF m 11 #[.val (.ref x1), .val (.int (Int32.ofNat ii)), .val (.int p3), .val (.int p4), .val (.long q5), .second, .unset] [(.long (((q5.toUInt64 >>> (((8 : Int32) * (Int32.ofNat ii)) &&& 0x3f).toInt64.toUInt64).toInt64) &&& (255 : Int64)))])) t
    refine XS.l2i X0.here hx rfl (hb hby dpk_11) rfl ?_
    show Steps p.tables e below (s₁.setTop (mkF m 12 #[.val (.ref x1), .val (.int (Int32.ofNat ii)), .val (.int p3), .val (.int p4), .val (.long q5), .second, .unset] [(.int ((((q5.toUInt64 >>> (((8 : Int32) * (Int32.ofNat ii)) &&& 0x3f).toInt64.toUInt64).toInt64) &&& (255 : Int64)).toInt32))])) t
    refine XS.i2c X0.here hx rfl (hb hby dpk_12) rfl ?_
    exact ht
  obtain ⟨dd, hdd, k25⟩ : ∃ dd : Int32, dd = (((((q5.toUInt64 >>> (((8 : Int32) * (Int32.ofNat ii)) &&& 0x3f).toInt64.toUInt64).toInt64) &&& (255 : Int64)).toInt32).toUInt32.toUInt16.toUInt32.toInt32) ∧ Kt p e below m (s₁.setTop (entryFrame m #[(.ref x1), (.int (Int32.ofNat ii)), (.int p3), (.int p4), (.long q5)] 7)) s₁ 13 #[.val (.ref x1), .val (.int (Int32.ofNat ii)), .val (.int p3), .val (.int p4), .val (.long q5), .second, .unset] [(.int dd)] := ⟨_, rfl, k24⟩
  rw [← hdd] at rd
  have k26 : Kt p e below m (s₁.setTop (entryFrame m #[(.ref x1), (.int (Int32.ofNat ii)), (.int p3), (.int p4), (.long q5)] 7)) s₁ 17 #[.val (.ref x1), .val (.int (Int32.ofNat ii)), .val (.int p3), .val (.int p4), .val (.long q5), .second, .val (.int dd)] [(.ref x1), (.int (Int32.ofNat ii))] := by
    intro t ht
    refine k25 t ?_
    show Steps p.tables e below (s₁.setTop (mkF m 13 #[.val (.ref x1), .val (.int (Int32.ofNat ii)), .val (.int p3), .val (.int p4), .val (.long q5), .second, .unset] [(.int dd)])) t
    refine XS.istore X0.here hx rfl (hb hby dpk_13) rfl (l' := #[.val (.ref x1), .val (.int (Int32.ofNat ii)), .val (.int p3), .val (.int p4), .val (.long q5), .second, .val (.int dd)]) rfl ?_
    show Steps p.tables e below (s₁.setTop (mkF m 15 #[.val (.ref x1), .val (.int (Int32.ofNat ii)), .val (.int p3), .val (.int p4), .val (.long q5), .second, .val (.int dd)] [])) t
    refine XS.iloadN X0.here hx rfl (hb hby dpk_15) rfl ?_
    show Steps p.tables e below (s₁.setTop (mkF m 16 #[.val (.ref x1), .val (.int (Int32.ofNat ii)), .val (.int p3), .val (.int p4), .val (.long q5), .second, .val (.int dd)] [(.int (Int32.ofNat ii))])) t
    refine XS.aloadN X0.here hx rfl (hb hby dpk_16) rfl rfl ?_
    exact ht
  obtain ⟨cq27, kq27, q27a, q27b, q27c⟩ := isOf hZ e0 uE
  obtain ⟨_, _, ⟨T27, L27, c27, n27⟩, -, X27, ⟨Lc27, hQ27, l27, y27, z27⟩, st27⟩ := X0.virtualBack hx (y := (⟨"java/lang/String", "length", "()I"⟩ : MethodName)) (z := (⟨"java/lang/String", "length", "()I"⟩ : MethodName)) hown (mvT hZ (hw _ (List.mem_of_getElem? (i := 16) rfl))) (mvT hZ (hw _ (List.mem_of_getElem? (i := 17) rfl))) (notFace_of_selects (args := #[]) (mvT hZ (hw _ (List.mem_of_getElem? (i := 19) rfl)))) (mvT hZ (hw _ (List.mem_of_getElem? (i := 19) rfl))) (mvT hZ (hw _ (List.mem_of_getElem? (i := 18) rfl))) (by decide) (StrChars.Road.lenW (W := 1) hZ hln (kI := 4) (hw _ (List.mem_of_getElem? (i := 6) rfl)) uE uV uC uK (own_cod ur) (own_up ur) (S1.ext O.2) P5 ul (by decide) (by decide)) q27a q27c (g := (mkF m 17 #[.val (.ref x1), .val (.int (Int32.ofNat ii)), .val (.int p3), .val (.int p4), .val (.long q5), .second, .val (.int dd)] [(.ref x1), (.int (Int32.ofNat ii))])) rfl (by rw [hml]; rfl) (Steps.refl _) (argsL := []) (rest := [(.int (Int32.ofNat ii))]) (lenOf pd_1 rfl) rfl (by show 2 * 0 + _ ≤ _; exact Nat.le_of_eq rfl) (hb hby dpk_17) (fun _ _ => ⟨rfl, e0, (by decide : 0 + 0 ≤ _), (by decide : 0 + 0 ≤ _)⟩)
  dsimp only [Pt.U, Pt.locs, Pt.cells, Pt.slots] at X27 l27 y27 z27 st27 hQ27
  subst l27 y27 z27
  obtain ⟨rfl, hL27, eq27⟩ := hQ27
  subst hL27
  have Nq27 := Fr.nil n0
  have N27 := Fr.app N0 Nq27
  have k27 : Kt p e below m (s₁.setTop (entryFrame m #[(.ref x1), (.int (Int32.ofNat ii)), (.int p3), (.int p4), (.long q5)] 7)) T27 20 #[.val (.ref x1), .val (.int (Int32.ofNat ii)), .val (.int p3), .val (.int p4), .val (.long q5), .second, .val (.int dd)] [(.int (Int32.ofNat cs.length)), (.int (Int32.ofNat ii))] := fun t ht => k26 t (st27.trans ht)
  have f28 : n0 ≤ T27.heap.size := by rw [eq27]; exact Z0
  have f29 : Exa Z T27.heap x1 "java/lang/String" := by rw [eq27]; exact uE
  have f30 : Fld Z T27.heap x1 "java/lang/String" "coder" "B" (.int (0 : Int32)) := by rw [eq27]; exact uC
  have f31 : Fld Z T27.heap x1 "java/lang/String" "value" "[B" (.ref t1) := by rw [eq27]; exact uV
  have f32 : Arv Z T27.heap t1 k1 .byte (Int32.ofNat cs.length) (own_by cs) (.int (0 : Int32)) := by rw [eq27]; exact uK
  have f33 : Old Z n0 T27.heap := by rw [eq27]; exact O
  by_cases h1 : (Int32.ofNat ii) < (Int32.ofNat cs.length)
  · have k34 : Kt p e below m (s₁.setTop (entryFrame m #[(.ref x1), (.int (Int32.ofNat ii)), (.int p3), (.int p4), (.long q5)] 7)) T27 27 #[.val (.ref x1), .val (.int (Int32.ofNat ii)), .val (.int p3), .val (.int p4), .val (.long q5), .second, .val (.int dd)] [(.int p3)] := by
      intro t ht
      refine k27 t ?_
      show Steps p.tables e below (T27.setTop (mkF m 20 #[.val (.ref x1), .val (.int (Int32.ofNat ii)), .val (.int p3), .val (.int p4), .val (.long q5), .second, .val (.int dd)] [(.int (Int32.ofNat cs.length)), (.int (Int32.ofNat ii))])) t
      refine XS.icmpYes X27.here hx rfl (pc0 := 20) (pc' := 26) rfl (hb hby dpk_20) rfl (tlt h1).1 (by decide) (by decide) ?_
      show Steps p.tables e below (T27.setTop (mkF m 26 #[.val (.ref x1), .val (.int (Int32.ofNat ii)), .val (.int p3), .val (.int p4), .val (.long q5), .second, .val (.int dd)] [])) t
      refine XS.iloadN X27.here hx rfl (hb hby dpk_26) rfl ?_
      exact ht
    by_cases h2 : p3 = (0 : Int32)
    · have k35 : Kt p e below m (s₁.setTop (entryFrame m #[(.ref x1), (.int (Int32.ofNat ii)), (.int p3), (.int p4), (.long q5)] 7)) T27 45 #[.val (.ref x1), .val (.int (Int32.ofNat ii)), .val (.int p3), .val (.int p4), .val (.long q5), .second, .val (.int dd)] [(.int (Int32.ofNat ii)), (.ref x1)] := by
        intro t ht
        refine k34 t ?_
        show Steps p.tables e below (T27.setTop (mkF m 27 #[.val (.ref x1), .val (.int (Int32.ofNat ii)), .val (.int p3), .val (.int p4), .val (.long q5), .second, .val (.int dd)] [(.int p3)])) t
        refine XS.ifYes X27.here hx rfl (pc0 := 27) (pc' := 43) rfl (hb hby dpk_27) rfl ((if0 _ _).trans (teq h2).1) (by decide) (by decide) ?_
        show Steps p.tables e below (T27.setTop (mkF m 43 #[.val (.ref x1), .val (.int (Int32.ofNat ii)), .val (.int p3), .val (.int p4), .val (.long q5), .second, .val (.int dd)] [])) t
        refine XS.aloadN X27.here hx rfl (hb hby dpk_43) rfl rfl ?_
        show Steps p.tables e below (T27.setTop (mkF m 44 #[.val (.ref x1), .val (.int (Int32.ofNat ii)), .val (.int p3), .val (.int p4), .val (.long q5), .second, .val (.int dd)] [(.ref x1)])) t
        refine XS.iloadN X27.here hx rfl (hb hby dpk_44) rfl ?_
        exact ht
      have hlt := own_oflt hii ul h1
      obtain ⟨cq36, kq36, q36a, q36b, q36c⟩ := isOf hZ rfl f29
      obtain ⟨_, _, ⟨T36, L36, c36, n36⟩, -, X36, ⟨Lc36, hQ36, l36, y36, z36⟩, st36⟩ := X27.virtualBack hx (y := (⟨"java/lang/String", "charAt", "(I)C"⟩ : MethodName)) (z := (⟨"java/lang/String", "charAt", "(I)C"⟩ : MethodName)) hown (mvT hZ (hw _ (List.mem_of_getElem? (i := 29) rfl))) (mvT hZ (hw _ (List.mem_of_getElem? (i := 30) rfl))) (notFace_of_selects (args := #[]) (mvT hZ (hw _ (List.mem_of_getElem? (i := 32) rfl)))) (mvT hZ (hw _ (List.mem_of_getElem? (i := 32) rfl))) (mvT hZ (hw _ (List.mem_of_getElem? (i := 31) rfl))) (by decide) (StrChars.Road.chN (W := 0) hZ hch (kI := 4) (hw _ (List.mem_of_getElem? (i := 6) rfl)) f29 f31 f30 f32 (own_cod ur) (own_up ur) (S1.ext f33.2) P5 (S3.ext f33.2) r3 ul (i := ii) hlt (j := Int32.ofNat ii) rfl (by decide) (by decide)) q36a q36c (g := (mkF m 45 #[.val (.ref x1), .val (.int (Int32.ofNat ii)), .val (.int p3), .val (.int p4), .val (.long q5), .second, .val (.int dd)] [(.int (Int32.ofNat ii)), (.ref x1)])) rfl (by rw [hml]; rfl) (Steps.refl _) (argsL := [(.int (Int32.ofNat ii))]) (rest := []) (lenOf pd_6 rfl) rfl (by show 2 * 0 + _ ≤ _; exact Nat.le_of_eq rfl) (hb hby dpk_45) (fun _ _ => ⟨rfl, rfl, (by decide : 0 + 0 ≤ _), (by decide : 0 + 0 ≤ _)⟩)
      dsimp only [Pt.U, Pt.locs, Pt.cells, Pt.slots] at X36 l36 y36 z36 st36 hQ36
      subst l36 y36 z36
      obtain ⟨rfl, hL36, eq36⟩ := hQ36
      subst hL36
      have Nq36 := Fr.nil n0
      have N36 := Fr.app N27 Nq36
      have k36 : Kt p e below m (s₁.setTop (entryFrame m #[(.ref x1), (.int (Int32.ofNat ii)), (.int p3), (.int p4), (.long q5)] 7)) T36 48 #[.val (.ref x1), .val (.int (Int32.ofNat ii)), .val (.int p3), .val (.int p4), .val (.long q5), .second, .val (.int dd)] [(.int (cs.getD ii 0))] := fun t ht => k35 t (st36.trans ht)
      obtain ⟨fs, hr, hrun, hended, hW, hsame⟩ := X36.leave (v := some (.int (nar .char (cs.getD ii 0)))) (fun h => by rw [Bd.returns] at h; cases h)
      refine ⟨_, _, k36 _ ?_, hrun, hended, _, _, rfl, ?_, ⟨_, rfl⟩, hW, hsame.mono (by decide) (by decide)⟩
      · exact retN X36 hx (t := .char) Bd.returns (by simp) (hb hby dpk_48) hr
      · show Qpk Z x1 ii p3 p4 q5 t1 k1 cs G1 G3 h0 n0 _ T36.heap _
        exact ⟨_, rfl, N36, own_narr (own_at ur ii), eq36.trans eq27⟩
    · have k37 : Kt p e below m (s₁.setTop (entryFrame m #[(.ref x1), (.int (Int32.ofNat ii)), (.int p3), (.int p4), (.long q5)] 7)) T27 37 #[.val (.ref x1), .val (.int (Int32.ofNat ii)), .val (.int p3), .val (.int p4), .val (.long q5), .second, .val (.int dd)] [(.int (((p4.toUInt32 >>> (((Int32.ofNat ii) + (1 : Int32)) &&& 31).toUInt32).toInt32) &&& (1 : Int32)))] := by
        intro t ht
        refine k34 t ?_
        show Steps p.tables e below (T27.setTop (mkF m 27 #[.val (.ref x1), .val (.int (Int32.ofNat ii)), .val (.int p3), .val (.int p4), .val (.long q5), .second, .val (.int dd)] [(.int p3)])) t
        refine XS.ifNo X27.here hx rfl (hb hby dpk_27) rfl ((if0 _ _).trans (feq h2).1) ?_
        show Steps p.tables e below (T27.setTop (mkF m 30 #[.val (.ref x1), .val (.int (Int32.ofNat ii)), .val (.int p3), .val (.int p4), .val (.long q5), .second, .val (.int dd)] [])) t
        refine XS.iloadN X27.here hx rfl (hb hby dpk_30) rfl ?_
        show Steps p.tables e below (T27.setTop (mkF m 31 #[.val (.ref x1), .val (.int (Int32.ofNat ii)), .val (.int p3), .val (.int p4), .val (.long q5), .second, .val (.int dd)] [(.int p4)])) t
        refine XS.iloadN X27.here hx rfl (hb hby dpk_31) rfl ?_
        show Steps p.tables e below (T27.setTop (mkF m 32 #[.val (.ref x1), .val (.int (Int32.ofNat ii)), .val (.int p3), .val (.int p4), .val (.long q5), .second, .val (.int dd)] [(.int (Int32.ofNat ii)), (.int p4)])) t
        refine XS.iconst X27.here hx rfl (hb hby dpk_32) ?_
        show Steps p.tables e below (T27.setTop (mkF m 33 #[.val (.ref x1), .val (.int (Int32.ofNat ii)), .val (.int p3), .val (.int p4), .val (.long q5), .second, .val (.int dd)] [(.int (1 : Int32)), (.int (Int32.ofNat ii)), (.int p4)])) t
        refine XS.iadd X27.here hx rfl (hb hby dpk_33) rfl ?_
        show Steps p.tables e below (T27.setTop (mkF m 34 #[.val (.ref x1), .val (.int (Int32.ofNat ii)), .val (.int p3), .val (.int p4), .val (.long q5), .second, .val (.int dd)] [(.int ((Int32.ofNat ii) + (1 : Int32))), (.int p4)])) t
        refine XS.iushr X27.here hx rfl (hb hby dpk_34) rfl ?_
        show Steps p.tables e below (T27.setTop (mkF m 35 #[.val (.ref x1), .val (.int (Int32.ofNat ii)), .val (.int p3), .val (.int p4), .val (.long q5), .second, .val (.int dd)] [(.int ((p4.toUInt32 >>> (((Int32.ofNat ii) + (1 : Int32)) &&& 31).toUInt32).toInt32))])) t
        refine XS.iconst X27.here hx rfl (hb hby dpk_35) ?_
        show Steps p.tables e below (T27.setTop (mkF m 36 #[.val (.ref x1), .val (.int (Int32.ofNat ii)), .val (.int p3), .val (.int p4), .val (.long q5), .second, .val (.int dd)] [(.int (1 : Int32)), (.int ((p4.toUInt32 >>> (((Int32.ofNat ii) + (1 : Int32)) &&& 31).toUInt32).toInt32))])) t
        refine XS.iand X27.here hx rfl (hb hby dpk_36) rfl ?_
        exact ht
      by_cases h3 : (((p4.toUInt32 >>> (((Int32.ofNat ii) + (1 : Int32)) &&& 31).toUInt32).toInt32) &&& (1 : Int32)) = (0 : Int32)
      · have k38 : Kt p e below m (s₁.setTop (entryFrame m #[(.ref x1), (.int (Int32.ofNat ii)), (.int p3), (.int p4), (.long q5)] 7)) T27 45 #[.val (.ref x1), .val (.int (Int32.ofNat ii)), .val (.int p3), .val (.int p4), .val (.long q5), .second, .val (.int dd)] [(.int (Int32.ofNat ii)), (.ref x1)] := by
          intro t ht
          refine k37 t ?_
          show Steps p.tables e below (T27.setTop (mkF m 37 #[.val (.ref x1), .val (.int (Int32.ofNat ii)), .val (.int p3), .val (.int p4), .val (.long q5), .second, .val (.int dd)] [(.int (((p4.toUInt32 >>> (((Int32.ofNat ii) + (1 : Int32)) &&& 31).toUInt32).toInt32) &&& (1 : Int32)))])) t
          refine XS.ifYes X27.here hx rfl (pc0 := 37) (pc' := 43) rfl (hb hby dpk_37) rfl ((if0 _ _).trans (teq h3).1) (by decide) (by decide) ?_
          show Steps p.tables e below (T27.setTop (mkF m 43 #[.val (.ref x1), .val (.int (Int32.ofNat ii)), .val (.int p3), .val (.int p4), .val (.long q5), .second, .val (.int dd)] [])) t
          refine XS.aloadN X27.here hx rfl (hb hby dpk_43) rfl rfl ?_
          show Steps p.tables e below (T27.setTop (mkF m 44 #[.val (.ref x1), .val (.int (Int32.ofNat ii)), .val (.int p3), .val (.int p4), .val (.long q5), .second, .val (.int dd)] [(.ref x1)])) t
          refine XS.iloadN X27.here hx rfl (hb hby dpk_44) rfl ?_
          exact ht
        have hlt := own_oflt hii ul h1
        obtain ⟨cq39, kq39, q39a, q39b, q39c⟩ := isOf hZ rfl f29
        obtain ⟨_, _, ⟨T39, L39, c39, n39⟩, -, X39, ⟨Lc39, hQ39, l39, y39, z39⟩, st39⟩ := X27.virtualBack hx (y := (⟨"java/lang/String", "charAt", "(I)C"⟩ : MethodName)) (z := (⟨"java/lang/String", "charAt", "(I)C"⟩ : MethodName)) hown (mvT hZ (hw _ (List.mem_of_getElem? (i := 29) rfl))) (mvT hZ (hw _ (List.mem_of_getElem? (i := 30) rfl))) (notFace_of_selects (args := #[]) (mvT hZ (hw _ (List.mem_of_getElem? (i := 32) rfl)))) (mvT hZ (hw _ (List.mem_of_getElem? (i := 32) rfl))) (mvT hZ (hw _ (List.mem_of_getElem? (i := 31) rfl))) (by decide) (StrChars.Road.chN (W := 0) hZ hch (kI := 4) (hw _ (List.mem_of_getElem? (i := 6) rfl)) f29 f31 f30 f32 (own_cod ur) (own_up ur) (S1.ext f33.2) P5 (S3.ext f33.2) r3 ul (i := ii) hlt (j := Int32.ofNat ii) rfl (by decide) (by decide)) q39a q39c (g := (mkF m 45 #[.val (.ref x1), .val (.int (Int32.ofNat ii)), .val (.int p3), .val (.int p4), .val (.long q5), .second, .val (.int dd)] [(.int (Int32.ofNat ii)), (.ref x1)])) rfl (by rw [hml]; rfl) (Steps.refl _) (argsL := [(.int (Int32.ofNat ii))]) (rest := []) (lenOf pd_6 rfl) rfl (by show 2 * 0 + _ ≤ _; exact Nat.le_of_eq rfl) (hb hby dpk_45) (fun _ _ => ⟨rfl, rfl, (by decide : 0 + 0 ≤ _), (by decide : 0 + 0 ≤ _)⟩)
        dsimp only [Pt.U, Pt.locs, Pt.cells, Pt.slots] at X39 l39 y39 z39 st39 hQ39
        subst l39 y39 z39
        obtain ⟨rfl, hL39, eq39⟩ := hQ39
        subst hL39
        have Nq39 := Fr.nil n0
        have N39 := Fr.app N27 Nq39
        have k39 : Kt p e below m (s₁.setTop (entryFrame m #[(.ref x1), (.int (Int32.ofNat ii)), (.int p3), (.int p4), (.long q5)] 7)) T39 48 #[.val (.ref x1), .val (.int (Int32.ofNat ii)), .val (.int p3), .val (.int p4), .val (.long q5), .second, .val (.int dd)] [(.int (cs.getD ii 0))] := fun t ht => k38 t (st39.trans ht)
        obtain ⟨fs, hr, hrun, hended, hW, hsame⟩ := X39.leave (v := some (.int (nar .char (cs.getD ii 0)))) (fun h => by rw [Bd.returns] at h; cases h)
        refine ⟨_, _, k39 _ ?_, hrun, hended, _, _, rfl, ?_, ⟨_, rfl⟩, hW, hsame.mono (by decide) (by decide)⟩
        · exact retN X39 hx (t := .char) Bd.returns (by simp) (hb hby dpk_48) hr
        · show Qpk Z x1 ii p3 p4 q5 t1 k1 cs G1 G3 h0 n0 _ T39.heap _
          exact ⟨_, rfl, N39, own_narr (own_at ur ii), eq39.trans eq27⟩
      · have k40 : Kt p e below m (s₁.setTop (entryFrame m #[(.ref x1), (.int (Int32.ofNat ii)), (.int p3), (.int p4), (.long q5)] 7)) T27 42 #[.val (.ref x1), .val (.int (Int32.ofNat ii)), .val (.int p3), .val (.int p4), .val (.long q5), .second, .val (.int dd)] [(.int dd)] := by
          intro t ht
          refine k37 t ?_
          show Steps p.tables e below (T27.setTop (mkF m 37 #[.val (.ref x1), .val (.int (Int32.ofNat ii)), .val (.int p3), .val (.int p4), .val (.long q5), .second, .val (.int dd)] [(.int (((p4.toUInt32 >>> (((Int32.ofNat ii) + (1 : Int32)) &&& 31).toUInt32).toInt32) &&& (1 : Int32)))])) t
          refine XS.ifNo X27.here hx rfl (hb hby dpk_37) rfl ((if0 _ _).trans (feq h3).1) ?_
          show Steps p.tables e below (T27.setTop (mkF m 40 #[.val (.ref x1), .val (.int (Int32.ofNat ii)), .val (.int p3), .val (.int p4), .val (.long q5), .second, .val (.int dd)] [])) t
          refine XS.iload X27.here hx rfl (hb hby dpk_40) rfl ?_
          exact ht
        obtain ⟨fs, hr, hrun, hended, hW, hsame⟩ := X27.leave (v := some (.int (nar .char dd))) (fun h => by rw [Bd.returns] at h; cases h)
        refine ⟨_, _, k40 _ ?_, hrun, hended, _, _, rfl, ?_, ⟨_, rfl⟩, hW, hsame.mono (by decide) (by decide)⟩
        · exact retN X27 hx (t := .char) Bd.returns (by simp) (hb hby dpk_42) hr
        · show Qpk Z x1 ii p3 p4 q5 t1 k1 cs G1 G3 h0 n0 _ T27.heap _
          exact ⟨_, rfl, N27, own_narr rd, eq27⟩
  · have k41 : Kt p e below m (s₁.setTop (entryFrame m #[(.ref x1), (.int (Int32.ofNat ii)), (.int p3), (.int p4), (.long q5)] 7)) T27 25 #[.val (.ref x1), .val (.int (Int32.ofNat ii)), .val (.int p3), .val (.int p4), .val (.long q5), .second, .val (.int dd)] [(.int dd)] := by
      intro t ht
      refine k27 t ?_
      show Steps p.tables e below (T27.setTop (mkF m 20 #[.val (.ref x1), .val (.int (Int32.ofNat ii)), .val (.int p3), .val (.int p4), .val (.long q5), .second, .val (.int dd)] [(.int (Int32.ofNat cs.length)), (.int (Int32.ofNat ii))])) t
      refine XS.icmpNo X27.here hx rfl (hb hby dpk_20) rfl (flt h1).1 ?_
      show Steps p.tables e below (T27.setTop (mkF m 23 #[.val (.ref x1), .val (.int (Int32.ofNat ii)), .val (.int p3), .val (.int p4), .val (.long q5), .second, .val (.int dd)] [])) t
      refine XS.iload X27.here hx rfl (hb hby dpk_23) rfl ?_
      exact ht
    obtain ⟨fs, hr, hrun, hended, hW, hsame⟩ := X27.leave (v := some (.int (nar .char dd))) (fun h => by rw [Bd.returns] at h; cases h)
    refine ⟨_, _, k41 _ ?_, hrun, hended, _, _, rfl, ?_, ⟨_, rfl⟩, hW, hsame.mono (by decide) (by decide)⟩
    · exact retN X27 hx (t := .char) Bd.returns (by simp) (hb hby dpk_25) hr
    · show Qpk Z x1 ii p3 p4 q5 t1 k1 cs G1 G3 h0 n0 _ T27.heap _
      exact ⟨_, rfl, N27, own_narr rd, eq27⟩
theorem dsv_0 : decode jdk_42_method_149_code 0 = .ok (.aload_n 0, 1) := by decide +kernel
theorem dsv_1 : decode jdk_42_method_149_code 1 = .ok (.invokespecial 1, 3) := by decide +kernel
theorem dsv_4 : decode jdk_42_method_149_code 4 = .ok (.iload_n 3, 1) := by decide +kernel
theorem dsv_5 : decode jdk_42_method_149_code 5 = .ok (.ifCond .ne 22, 3) := by decide +kernel
theorem dsv_8 : decode jdk_42_method_149_code 8 = .ok (.aload_n 0, 1) := by decide +kernel
theorem dsv_9 : decode jdk_42_method_149_code 9 = .ok (.ldc 7, 2) := by decide +kernel
theorem dsv_11 : decode jdk_42_method_149_code 11 = .ok (.getfield 9, 3) := by decide +kernel
theorem dsv_14 : decode jdk_42_method_149_code 14 = .ok (.putfield 9, 3) := by decide +kernel
theorem dsv_17 : decode jdk_42_method_149_code 17 = .ok (.aload_n 0, 1) := by decide +kernel
theorem dsv_18 : decode jdk_42_method_149_code 18 = .ok (.ldc 7, 2) := by decide +kernel
theorem dsv_20 : decode jdk_42_method_149_code 20 = .ok (.getfield 15, 3) := by decide +kernel
theorem dsv_23 : decode jdk_42_method_149_code 23 = .ok (.putfield 15, 3) := by decide +kernel
theorem dsv_26 : decode jdk_42_method_149_code 26 = .ok (.return_, 1) := by decide +kernel
theorem dsv_27 : decode jdk_42_method_149_code 27 = .ok (.getstatic 38, 3) := by decide +kernel
theorem dsv_30 : decode jdk_42_method_149_code 30 = .ok (.ifCond .eq 28, 3) := by decide +kernel
theorem dsv_33 : decode jdk_42_method_149_code 33 = .ok (.aload_n 1, 1) := by decide +kernel
theorem dsv_34 : decode jdk_42_method_149_code 34 = .ok (.iload_n 2, 1) := by decide +kernel
theorem dsv_35 : decode jdk_42_method_149_code 35 = .ok (.iload_n 3, 1) := by decide +kernel
theorem dsv_36 : decode jdk_42_method_149_code 36 = .ok (.invokestatic 177, 3) := by decide +kernel
theorem dsv_39 : decode jdk_42_method_149_code 39 = .ok (.astore 5, 2) := by decide +kernel
theorem dsv_41 : decode jdk_42_method_149_code 41 = .ok (.aload_n 0, 1) := by decide +kernel
theorem dsv_42 : decode jdk_42_method_149_code 42 = .ok (.aload 5, 2) := by decide +kernel
theorem dsv_44 : decode jdk_42_method_149_code 44 = .ok (.iload_n 3, 1) := by decide +kernel
theorem dsv_45 : decode jdk_42_method_149_code 45 = .ok (.invokestatic 47, 3) := by decide +kernel
theorem dsv_48 : decode jdk_42_method_149_code 48 = .ok (.putfield 15, 3) := by decide +kernel
theorem dsv_51 : decode jdk_42_method_149_code 51 = .ok (.aload_n 0, 1) := by decide +kernel
theorem dsv_52 : decode jdk_42_method_149_code 52 = .ok (.aload 5, 2) := by decide +kernel
theorem dsv_54 : decode jdk_42_method_149_code 54 = .ok (.putfield 9, 3) := by decide +kernel
theorem dsv_57 : decode jdk_42_method_149_code 57 = .ok (.return_, 1) := by decide +kernel
theorem dsv_58 : decode jdk_42_method_149_code 58 = .ok (.aload_n 0, 1) := by decide +kernel
theorem dsv_59 : decode jdk_42_method_149_code 59 = .ok (.iconst 1, 1) := by decide +kernel
theorem dsv_60 : decode jdk_42_method_149_code 60 = .ok (.putfield 15, 3) := by decide +kernel
theorem dsv_63 : decode jdk_42_method_149_code 63 = .ok (.aload_n 0, 1) := by decide +kernel
theorem dsv_64 : decode jdk_42_method_149_code 64 = .ok (.aload_n 1, 1) := by decide +kernel
theorem dsv_65 : decode jdk_42_method_149_code 65 = .ok (.iload_n 2, 1) := by decide +kernel
theorem dsv_66 : decode jdk_42_method_149_code 66 = .ok (.iload_n 3, 1) := by decide +kernel
theorem dsv_67 : decode jdk_42_method_149_code 67 = .ok (.invokestatic 180, 3) := by decide +kernel
theorem dsv_70 : decode jdk_42_method_149_code 70 = .ok (.putfield 9, 3) := by decide +kernel
theorem dsv_73 : decode jdk_42_method_149_code 73 = .ok (.return_, 1) := by decide +kernel
theorem pnsv : plainName "java/lang/String" = true := by first | (simp [plainName, overriddenIn]; done) | decide +kernel
theorem efsv (m : MethodId) (xx : Addr) (bb : Addr) : entryFrame m #[(.ref xx), (.ref bb), (.int (0 : Int32)), (.int (0 : Int32)), .null] 6 = mkF m 0 #[.val (.ref xx), .val (.ref bb), .val (.int (0 : Int32)), .val (.int (0 : Int32)), .val .null, .unset] [] := by first | (simp [entryFrame, mkF, argsToLocals, Value.category]; done) | rfl
def Qsv (Z : State) (xx : Addr) (bb : Addr) (h0 : Heap) (n0 : Nat) (v : Option Value) (h : Heap) (L : List Loc) : Prop := v = none ∧ Fr n0 L ∧ Keep h0 h [xx] ∧ ∃ t kb, Fld Z h xx "java/lang/String" "coder" "B" (.int (0 : Int32)) ∧ Fld Z h xx "java/lang/String" "value" "[B" (.ref t) ∧ Arv Z h t kb .byte (0 : Int32) [] (.int (0 : Int32))
set_option maxRecDepth 65536 in
set_option maxHeartbeats 40000000 in
theorem rmsv (l : Launch) (Z : State) (a0 : Array Value) (hw : ∀ d ∈ tables_1, d.before a0 Z = true) (ws : List Jvm.Cond) (xx : Addr) (bb : Addr) (h0 : Heap) (n0 : Nat) (Z0 : n0 ≤ h0.size) (hEL : EW Z a0 consts_1) (E_x : Exa Z h0 xx "java/lang/String") (F_value : Fld Z h0 xx "java/lang/String" "value" "[B" .null) (F_coder : Fld Z h0 xx "java/lang/String" "coder" "B" (.int (0 : Int32))) (g_xx : n0 ≤ xx) :
    MetFree l (⟨"java/lang/String", "<init>", "([CIILjava/lang/Void;)V"⟩ : MethodName) (head1 (Jvm.Cond.code (⟨"java/lang/String", "<init>", "([CIILjava/lang/Void;)V"⟩ : MethodName) jdk_42_method_149_code 6 none :: ws) ({ frames := 1, cells := 4, slots := 8, locals := 12 } : Room)) (fun gs' U => gs' = #[(.ref xx), (.ref bb), (.int (0 : Int32)), (.int (0 : Int32)), .null] ∧ Z.Warmed39 U.vm ∧ U.heap = h0 ∧ CHv Z consts_1 U.vm h0 ∧ ∀ x ∈ ([xx] : List Addr), Safe Z consts_1 U.vm h0 x) (fun _ _ _ _ _ => True) (fun _ U o U' => ∃ v L, o = .returned v ∧ Qsv Z xx bb h0 n0 v U'.heap L ∧ CHr Z consts_1 U.vm U.heap U'.vm U'.heap ∧ ReturnedEndW U o U' L ({ frames := 1, cells := 4, slots := 8, locals := 12 } : Room).cells ({ frames := 1, cells := 4, slots := 8, locals := 12 } : Room).slots) := by
  refine MetFree.of_bodySF (plainFor_of_name pnsv) hisR ?_
  intro p e s m args below meth c s₁ Bd hml0 hP hK
  obtain ⟨rfl, hZ, hh, hCH, hSf⟩ := hP
  have hx := Bd.exec
  have hby := Bd.bytes
  have hml : c.maxLocals = 6 := hml0
  have hown : s.vm.findClass "java/lang/String" = some m.cls := findClass_of_methodNamed Bd.named
  have hnm := (name_of_methodNamed Bd.named Bd.method).1
  have X0 : Stand p l e ({ frames := 1, cells := 4, slots := 8, locals := 12 } : Room) (s.setVm s.vm) m #[(.ref xx), (.ref bb), (.int (0 : Int32)), (.int (0 : Int32)), .null] below meth c s₁ [] 0 0 := Stand.of_body Bd
  have e0 : s₁.heap = h0 := by rw [← hh, Bd.state]; rfl
  have N0 := Fr.nil n0
  have k0 : Kt p e below m (s₁.setTop (entryFrame m #[(.ref xx), (.ref bb), (.int (0 : Int32)), (.int (0 : Int32)), .null] 6)) s₁ 0 #[.val (.ref xx), .val (.ref bb), .val (.int (0 : Int32)), .val (.int (0 : Int32)), .val .null, .unset] [] := fun t ht => castTop (efsv m xx bb) ht
  have R0 : CHr Z consts_1 s.vm h0 s.vm h0 := CHr.refl hCH
  have Sf_xx : Safe Z consts_1 s.vm h0 xx := hSf _ (List.mem_of_getElem? (i := 0) rfl)
  have K0 : Keep h0 h0 [xx] := Keep.refl _ _
  have wS : ∀ a ∈ Bundle.stringAtoms, a.before a0 Z = true := by
    intro a ha
    simp only [Bundle.stringAtoms, List.mem_cons, List.not_mem_nil, or_false] at ha
    rcases ha with rfl | rfl | rfl | rfl | rfl | rfl | rfl
    · exact (hw _ (List.mem_of_getElem? (i := 5) rfl))
    · exact (hw _ (List.mem_of_getElem? (i := 6) rfl))
    · exact (hw _ (List.mem_of_getElem? (i := 7) rfl))
    · exact (hw _ (List.mem_of_getElem? (i := 8) rfl))
    · exact (hw _ (List.mem_of_getElem? (i := 9) rfl))
    · exact (hw _ (List.mem_of_getElem? (i := 10) rfl))
    · exact (hw _ (List.mem_of_getElem? (i := 11) rfl))
  have k42 : Kt p e below m (s₁.setTop (entryFrame m #[(.ref xx), (.ref bb), (.int (0 : Int32)), (.int (0 : Int32)), .null] 6)) s₁ 1 #[.val (.ref xx), .val (.ref bb), .val (.int (0 : Int32)), .val (.int (0 : Int32)), .val .null, .unset] [(.ref xx)] := by
    intro t ht
    refine k0 t ?_
    show Steps p.tables e below (s₁.setTop (mkF m 0 #[.val (.ref xx), .val (.ref bb), .val (.int (0 : Int32)), .val (.int (0 : Int32)), .val .null, .unset] [])) t
    refine XS.aloadN X0.here hx rfl (hb hby dsv_0) rfl rfl ?_
    exact ht
  obtain ⟨T43, X43, e43, st43⟩ := initO X0 hx hZ hown (hw _ (List.mem_of_getElem? (i := 63) rfl)) (hw _ (List.mem_of_getElem? (i := 64) rfl)) (hw _ (List.mem_of_getElem? (i := 65) rfl)) e0 (g := (mkF m 1 #[.val (.ref xx), .val (.ref bb), .val (.int (0 : Int32)), .val (.int (0 : Int32)), .val .null, .unset] [(.ref xx)])) rfl (by rw [hml]; rfl) rfl (hb hby dsv_1) (by decide) (W := 0) (by show 2 * 0 + _ ≤ _; exact Nat.le_of_eq rfl) (by decide)
  have k43 : Kt p e below m (s₁.setTop (entryFrame m #[(.ref xx), (.ref bb), (.int (0 : Int32)), (.int (0 : Int32)), .null] 6)) T43 4 #[.val (.ref xx), .val (.ref bb), .val (.int (0 : Int32)), .val (.int (0 : Int32)), .val .null, .unset] [] := fun t ht => k42 t (st43 t ht)
  have k44 : Kt p e below m (s₁.setTop (entryFrame m #[(.ref xx), (.ref bb), (.int (0 : Int32)), (.int (0 : Int32)), .null] 6)) T43 9 #[.val (.ref xx), .val (.ref bb), .val (.int (0 : Int32)), .val (.int (0 : Int32)), .val .null, .unset] [(.ref xx)] := by
    intro t ht
    refine k43 t ?_
    show Steps p.tables e below (T43.setTop (mkF m 4 #[.val (.ref xx), .val (.ref bb), .val (.int (0 : Int32)), .val (.int (0 : Int32)), .val .null, .unset] [])) t
    refine XS.iloadN X43.here hx rfl (hb hby dsv_4) rfl ?_
    show Steps p.tables e below (T43.setTop (mkF m 5 #[.val (.ref xx), .val (.ref bb), .val (.int (0 : Int32)), .val (.int (0 : Int32)), .val .null, .unset] [(.int (0 : Int32))])) t
    refine XS.ifNo X43.here hx rfl (hb hby dsv_5) rfl ((if0 _ _).trans (teq rfl).2) ?_
    show Steps p.tables e below (T43.setTop (mkF m 8 #[.val (.ref xx), .val (.ref bb), .val (.int (0 : Int32)), .val (.int (0 : Int32)), .val .null, .unset] [])) t
    refine XS.aloadN X43.here hx rfl (hb hby dsv_8) rfl rfl ?_
    exact ht
  obtain ⟨s1, T45, h45, kb45, t1, ck45, X45, e45, E45, hS45, hk45, hZ45, hown45, Ex45, Fc45, Fv45, Va45, la45, lb45, hR45, -, hne45, st45⟩ := ldcCH (s := s) (vm0 := s.vm) X43 hx hZ hown (hw _ (List.mem_of_getElem? (i := 117) rfl)) wS e43 ((State.WarmedH.refl s).since 0) (Nat.zero_le _) hEL (EL := consts_1) (by decide) R0.1 (vs := []) (z := (0 : Int32)) (by decide +kernel) (by decide) (by decide) (g := (mkF m 9 #[.val (.ref xx), .val (.ref bb), .val (.int (0 : Int32)), .val (.int (0 : Int32)), .val .null, .unset] [(.ref xx)])) rfl (hb hby dsv_9) (n := 0) (by decide +kernel) (by decide) (by decide) (by decide)
  have f46 : n0 ≤ h45.size := Nat.le_trans Z0 E45.1
  have f47 : CHr Z consts_1 s.vm h0 T45.vm h45 := R0.trans hR45
  have f48 : Safe Z consts_1 T45.vm h45 xx := hR45.safe E_x.lt Sf_xx
  have f49 : Exa Z h45 xx "java/lang/String" := E_x.ext E45
  have f50 : Fld Z h45 xx "java/lang/String" "value" "[B" .null := F_value.ext E45
  have f51 : Fld Z h45 xx "java/lang/String" "coder" "B" (.int (0 : Int32)) := F_coder.ext E45
  have f52 : Keep h0 h45 [xx] := K0.ext E45
  obtain ⟨ne_xx_s1, ne_xx_t1⟩ := hne45 _ f48
  have k45 : Kt p e below m (s₁.setTop (entryFrame m #[(.ref xx), (.ref bb), (.int (0 : Int32)), (.int (0 : Int32)), .null] 6)) T45 11 #[.val (.ref xx), .val (.ref bb), .val (.int (0 : Int32)), .val (.int (0 : Int32)), .val .null, .unset] [(.ref s1), (.ref xx)] := fun t ht => k44 t (st45 t ht)
  obtain ⟨T53, X53, e53, st53⟩ := getF X45 hx hZ45 hown45 (host := "") (Or.inl (hw _ (List.mem_of_getElem? (i := 21) rfl))) Via.refl e45 Fv45 (g := (mkF m 11 #[.val (.ref xx), .val (.ref bb), .val (.int (0 : Int32)), .val (.int (0 : Int32)), .val .null, .unset] [(.ref s1), (.ref xx)])) rfl rfl (hb hby dsv_11)
  have k53 : Kt p e below m (s₁.setTop (entryFrame m #[(.ref xx), (.ref bb), (.int (0 : Int32)), (.int (0 : Int32)), .null] 6)) T53 14 #[.val (.ref xx), .val (.ref bb), .val (.int (0 : Int32)), .val (.int (0 : Int32)), .val .null, .unset] [(.ref t1), (.ref xx)] := fun t ht => k45 t (st53 t ht)
  obtain ⟨T54, h54, X54, e54, W54, st54⟩ := putF X53 hx hZ45 hown45 (host := "") (Or.inl (hw _ (List.mem_of_getElem? (i := 21) rfl))) Via.refl e53 f50 f49 (Or.inr ⟨(hw _ (List.mem_of_getElem? (i := 8) rfl)), rfl, hnm⟩) (hw _ (List.mem_of_getElem? (i := 6) rfl)) (ty := (.array .byte)) (by decide) rfl rfl (g := (mkF m 14 #[.val (.ref xx), .val (.ref bb), .val (.int (0 : Int32)), .val (.int (0 : Int32)), .val .null, .unset] [(.ref t1), (.ref xx)])) rfl rfl (hb hby dsv_14)
  have N54 := Fr.snoc X54 N0 g_xx
  have f55 : n0 ≤ h54.size := Nat.le_trans f46 (Keep.of_wr W54).1
  have f56 : CHr Z consts_1 s.vm h0 T45.vm h54 := f47.trans (CHr.wr W54 f48 f47.1)
  have f57 : Safe Z consts_1 T45.vm h54 xx := Safe.wr W54 f48 f47.1 f48
  have f58 : Exa Z h54 xx "java/lang/String" := f49.wr W54
  have f59 : Fld Z h54 xx "java/lang/String" "value" "[B" (.ref t1) := f50.same W54
  have f60 : Fld Z h54 xx "java/lang/String" "coder" "B" (.int (0 : Int32)) := f51.other W54 (Or.inr (slot_ne (Or.inr (hw _ (List.mem_of_getElem? (i := 9) rfl))) (Or.inr (hw _ (List.mem_of_getElem? (i := 8) rfl))) (by decide) (t := .byte) (t' := (.array .byte)) (by decide) (by decide)))
  have f61 : Keep h0 h54 [xx] := f52.wr W54 (Or.inl (List.mem_of_getElem? (i := 0) rfl))
  have f62 : kb45 ≤ h54.size := Nat.le_trans hk45 (Keep.of_wr W54).1
  have f63 : Exa Z h54 s1 "java/lang/String" := Ex45.wr W54
  have f64 : Fld Z h54 s1 "java/lang/String" "coder" "B" (.int (0 : Int32)) := Fc45.other W54 (Or.inl ne_xx_s1.symm)
  have f65 : Fld Z h54 s1 "java/lang/String" "value" "[B" (.ref t1) := Fv45.other W54 (Or.inl ne_xx_s1.symm)
  have f66 : Arv Z h54 t1 ck45 .byte (0 : Int32) [] (.int (0 : Int32)) := Va45.other W54 ne_xx_t1.symm
  have k54 : Kt p e below m (s₁.setTop (entryFrame m #[(.ref xx), (.ref bb), (.int (0 : Int32)), (.int (0 : Int32)), .null] 6)) T54 17 #[.val (.ref xx), .val (.ref bb), .val (.int (0 : Int32)), .val (.int (0 : Int32)), .val .null, .unset] [] := fun t ht => k53 t (st54 t ht)
  have k67 : Kt p e below m (s₁.setTop (entryFrame m #[(.ref xx), (.ref bb), (.int (0 : Int32)), (.int (0 : Int32)), .null] 6)) T54 18 #[.val (.ref xx), .val (.ref bb), .val (.int (0 : Int32)), .val (.int (0 : Int32)), .val .null, .unset] [(.ref xx)] := by
    intro t ht
    refine k54 t ?_
    show Steps p.tables e below (T54.setTop (mkF m 17 #[.val (.ref xx), .val (.ref bb), .val (.int (0 : Int32)), .val (.int (0 : Int32)), .val .null, .unset] [])) t
    refine XS.aloadN X54.here hx rfl (hb hby dsv_17) rfl rfl ?_
    exact ht
  obtain ⟨s2, T68, h68, kb68, t2, ck68, X68, e68, E68, hS68, hk68, hZ68, hown68, Ex68, Fc68, Fv68, Va68, la68, lb68, hR68, -, hne68, st68⟩ := ldcCH (s := s) (vm0 := T45.vm) X54 hx hZ45 hown45 (hw _ (List.mem_of_getElem? (i := 117) rfl)) wS e54 hS45 f62 hEL (EL := consts_1) (by decide) f56.1 (vs := []) (z := (0 : Int32)) (by decide +kernel) (by decide) (by decide) (g := (mkF m 18 #[.val (.ref xx), .val (.ref bb), .val (.int (0 : Int32)), .val (.int (0 : Int32)), .val .null, .unset] [(.ref xx)])) rfl (hb hby dsv_18) (n := 0) (by decide +kernel) (by decide) (by decide) (by decide)
  have f69 : n0 ≤ h68.size := Nat.le_trans f55 E68.1
  have f70 : CHr Z consts_1 s.vm h0 T68.vm h68 := f56.trans hR68
  have f71 : Safe Z consts_1 T68.vm h68 xx := hR68.safe f58.lt f57
  have f72 : Exa Z h68 xx "java/lang/String" := f58.ext E68
  have f73 : Fld Z h68 xx "java/lang/String" "value" "[B" (.ref t1) := f59.ext E68
  have f74 : Fld Z h68 xx "java/lang/String" "coder" "B" (.int (0 : Int32)) := f60.ext E68
  have f75 : Keep h0 h68 [xx] := f61.ext E68
  have f76 : kb45 ≤ h68.size := Nat.le_trans f62 E68.1
  have f77 : Arv Z h68 t1 ck45 .byte (0 : Int32) [] (.int (0 : Int32)) := f66.ext E68
  obtain ⟨ne_xx_s2, ne_xx_t2⟩ := hne68 _ f71
  have k68 : Kt p e below m (s₁.setTop (entryFrame m #[(.ref xx), (.ref bb), (.int (0 : Int32)), (.int (0 : Int32)), .null] 6)) T68 20 #[.val (.ref xx), .val (.ref bb), .val (.int (0 : Int32)), .val (.int (0 : Int32)), .val .null, .unset] [(.ref s2), (.ref xx)] := fun t ht => k67 t (st68 t ht)
  obtain ⟨T78, X78, e78, st78⟩ := getF X68 hx hZ68 hown68 (host := "") (Or.inl (hw _ (List.mem_of_getElem? (i := 28) rfl))) Via.refl e68 Fc68 (g := (mkF m 20 #[.val (.ref xx), .val (.ref bb), .val (.int (0 : Int32)), .val (.int (0 : Int32)), .val .null, .unset] [(.ref s2), (.ref xx)])) rfl rfl (hb hby dsv_20)
  have k78 : Kt p e below m (s₁.setTop (entryFrame m #[(.ref xx), (.ref bb), (.int (0 : Int32)), (.int (0 : Int32)), .null] 6)) T78 23 #[.val (.ref xx), .val (.ref bb), .val (.int (0 : Int32)), .val (.int (0 : Int32)), .val .null, .unset] [(.int (0 : Int32)), (.ref xx)] := fun t ht => k68 t (st78 t ht)
  obtain ⟨T79, h79, X79, e79, W79, st79⟩ := putFN X78 hx hZ68 hown68 (hw _ (List.mem_of_getElem? (i := 28) rfl)) Via.refl e78 f74 f72 (Or.inr ⟨(hw _ (List.mem_of_getElem? (i := 9) rfl)), rfl, hnm⟩) (hw _ (List.mem_of_getElem? (i := 6) rfl)) (ty := .byte) (v' := (.int (0 : Int32))) (by decide) rfl rfl (g := (mkF m 23 #[.val (.ref xx), .val (.ref bb), .val (.int (0 : Int32)), .val (.int (0 : Int32)), .val .null, .unset] [(.int (0 : Int32)), (.ref xx)])) rfl rfl (hb hby dsv_23)
  have N79 := Fr.snoc X79 N54 g_xx
  have f80 : n0 ≤ h79.size := Nat.le_trans f69 (Keep.of_wr W79).1
  have f81 : CHr Z consts_1 s.vm h0 T68.vm h79 := f70.trans (CHr.wr W79 f71 f70.1)
  have f82 : Safe Z consts_1 T68.vm h79 xx := Safe.wr W79 f71 f70.1 f71
  have f83 : Exa Z h79 xx "java/lang/String" := f72.wr W79
  have f84 : Fld Z h79 xx "java/lang/String" "value" "[B" (.ref t1) := f73.other W79 (Or.inr (slot_ne (Or.inr (hw _ (List.mem_of_getElem? (i := 8) rfl))) (Or.inr (hw _ (List.mem_of_getElem? (i := 9) rfl))) (by decide) (t := (.array .byte)) (t' := .byte) (by decide) (by decide)))
  have f85 : Fld Z h79 xx "java/lang/String" "coder" "B" (.int (0 : Int32)) := f74.same W79
  have f86 : Keep h0 h79 [xx] := f75.wr W79 (Or.inl (List.mem_of_getElem? (i := 0) rfl))
  have f87 : kb68 ≤ h79.size := Nat.le_trans hk68 (Keep.of_wr W79).1
  have f88 : Arv Z h79 t1 ck45 .byte (0 : Int32) [] (.int (0 : Int32)) := f77.other W79 ne_xx_t1.symm
  have f89 : Exa Z h79 s2 "java/lang/String" := Ex68.wr W79
  have f90 : Fld Z h79 s2 "java/lang/String" "coder" "B" (.int (0 : Int32)) := Fc68.other W79 (Or.inl ne_xx_s2.symm)
  have f91 : Fld Z h79 s2 "java/lang/String" "value" "[B" (.ref t2) := Fv68.other W79 (Or.inl ne_xx_s2.symm)
  have f92 : Arv Z h79 t2 ck68 .byte (0 : Int32) [] (.int (0 : Int32)) := Va68.other W79 ne_xx_t2.symm
  have k79 : Kt p e below m (s₁.setTop (entryFrame m #[(.ref xx), (.ref bb), (.int (0 : Int32)), (.int (0 : Int32)), .null] 6)) T79 26 #[.val (.ref xx), .val (.ref bb), .val (.int (0 : Int32)), .val (.int (0 : Int32)), .val .null, .unset] [] := fun t ht => k78 t (st79 t ht)
  obtain ⟨fs, hr, hrun, hended, -, hW, hbk, hsame⟩ := Stand.leaveW (s := s) (vm₁ := T68.vm) X79 (hS68) (by rw [e79]; exact f87) (v := none) (fun _ => rfl)
  refine ⟨_, _, k79 _ ?_, hrun, hended, _, _, rfl, ?_, ?_, ⟨_, rfl⟩, hW, hbk, hsame.mono (by decide) (by decide)⟩
  · exact X79.returnOut hx Bd.returns (hb hby dsv_26) hr
  · show Qsv Z xx bb h0 n0 _ T79.heap _
    rw [e79]
    exact ⟨rfl, N79, f86, t1, _, f85, f84, f88⟩
  · show CHr Z consts_1 s.vm s.heap T79.vm T79.heap
    rw [hh, e79]
    exact f81.trans (CHv.at (s := s) (vm0 := T68.vm) X79 hZ68 hEL f81.1)
theorem dsi_0 : decode jdk_42_method_3_code 0 = .ok (.aload_n 0, 1) := by decide +kernel
theorem dsi_1 : decode jdk_42_method_3_code 1 = .ok (.aload_n 1, 1) := by decide +kernel
theorem dsi_2 : decode jdk_42_method_3_code 2 = .ok (.iconst 0, 1) := by decide +kernel
theorem dsi_3 : decode jdk_42_method_3_code 3 = .ok (.aload_n 1, 1) := by decide +kernel
theorem dsi_4 : decode jdk_42_method_3_code 4 = .ok (.arraylength, 1) := by decide +kernel
theorem dsi_5 : decode jdk_42_method_3_code 5 = .ok (.aconst_null, 1) := by decide +kernel
theorem dsi_6 : decode jdk_42_method_3_code 6 = .ok (.invokespecial 27, 3) := by decide +kernel
theorem dsi_9 : decode jdk_42_method_3_code 9 = .ok (.return_, 1) := by decide +kernel
theorem pnsi : plainName "java/lang/String" = true := by first | (simp [plainName, overriddenIn]; done) | decide +kernel
theorem efsi (m : MethodId) (xx : Addr) (bb : Addr) : entryFrame m #[(.ref xx), (.ref bb)] 2 = mkF m 0 #[.val (.ref xx), .val (.ref bb)] [] := by first | (simp [entryFrame, mkF, argsToLocals, Value.category]; done) | rfl
def Qsi (Z : State) (xx : Addr) (bb : Addr) (kc : ClassId) (h0 : Heap) (n0 : Nat) (v : Option Value) (h : Heap) (L : List Loc) : Prop := v = none ∧ Fr n0 L ∧ Keep h0 h [xx] ∧ ∃ t kb, Fld Z h xx "java/lang/String" "coder" "B" (.int (0 : Int32)) ∧ Fld Z h xx "java/lang/String" "value" "[B" (.ref t) ∧ Arv Z h t kb .byte (0 : Int32) [] (.int (0 : Int32))
set_option maxRecDepth 65536 in
set_option maxHeartbeats 40000000 in
theorem rmsi (l : Launch) (Z : State) (a0 : Array Value) (hw : ∀ d ∈ tables_1, d.before a0 Z = true) (ws : List Jvm.Cond) (xx : Addr) (bb : Addr) (kc : ClassId) (h0 : Heap) (n0 : Nat) (Z0 : n0 ≤ h0.size) (hEL : EW Z a0 consts_1) (E_x : Exa Z h0 xx "java/lang/String") (F_value : Fld Z h0 xx "java/lang/String" "value" "[B" .null) (F_coder : Fld Z h0 xx "java/lang/String" "coder" "B" (.int (0 : Int32))) (g_xx : n0 ≤ xx) (V_b : Arv Z h0 bb kc .char (0 : Int32) [] (.int (0 : Int32))) :
    MetFree l (⟨"java/lang/String", "<init>", "([C)V"⟩ : MethodName) (head1 (Jvm.Cond.code (⟨"java/lang/String", "<init>", "([C)V"⟩ : MethodName) jdk_42_method_3_code 2 none :: ws) ({ frames := 2, cells := 4, slots := 8, locals := 29 } : Room)) (fun gs' U => gs' = #[(.ref xx), (.ref bb)] ∧ Z.Warmed39 U.vm ∧ U.heap = h0 ∧ CHv Z consts_1 U.vm h0 ∧ ∀ x ∈ ([xx] : List Addr), Safe Z consts_1 U.vm h0 x) (fun _ _ _ _ _ => True) (fun _ U o U' => ∃ v L, o = .returned v ∧ Qsi Z xx bb kc h0 n0 v U'.heap L ∧ CHr Z consts_1 U.vm U.heap U'.vm U'.heap ∧ ReturnedEndW U o U' L ({ frames := 2, cells := 4, slots := 8, locals := 29 } : Room).cells ({ frames := 2, cells := 4, slots := 8, locals := 29 } : Room).slots) := by
  refine MetFree.of_bodySF (plainFor_of_name pnsi) hisR ?_
  intro p e s m args below meth c s₁ Bd hml0 hP hK
  obtain ⟨rfl, hZ, hh, hCH, hSf⟩ := hP
  have hx := Bd.exec
  have hby := Bd.bytes
  have hml : c.maxLocals = 2 := hml0
  have hown : s.vm.findClass "java/lang/String" = some m.cls := findClass_of_methodNamed Bd.named
  have hnm := (name_of_methodNamed Bd.named Bd.method).1
  have X0 : Stand p l e ({ frames := 2, cells := 4, slots := 8, locals := 29 } : Room) (s.setVm s.vm) m #[(.ref xx), (.ref bb)] below meth c s₁ [] 0 0 := Stand.of_body Bd
  have e0 : s₁.heap = h0 := by rw [← hh, Bd.state]; rfl
  have N0 := Fr.nil n0
  have k0 : Kt p e below m (s₁.setTop (entryFrame m #[(.ref xx), (.ref bb)] 2)) s₁ 0 #[.val (.ref xx), .val (.ref bb)] [] := fun t ht => castTop (efsi m xx bb) ht
  have R0 : CHr Z consts_1 s.vm h0 s.vm h0 := CHr.refl hCH
  have Sf_xx : Safe Z consts_1 s.vm h0 xx := hSf _ (List.mem_of_getElem? (i := 0) rfl)
  have K0 : Keep h0 h0 [xx] := Keep.refl _ _
  have k93 : Kt p e below m (s₁.setTop (entryFrame m #[(.ref xx), (.ref bb)] 2)) s₁ 4 #[.val (.ref xx), .val (.ref bb)] [(.ref bb), (.int (0 : Int32)), (.ref bb), (.ref xx)] := by
    intro t ht
    refine k0 t ?_
    show Steps p.tables e below (s₁.setTop (mkF m 0 #[.val (.ref xx), .val (.ref bb)] [])) t
    refine XS.aloadN X0.here hx rfl (hb hby dsi_0) rfl rfl ?_
    show Steps p.tables e below (s₁.setTop (mkF m 1 #[.val (.ref xx), .val (.ref bb)] [(.ref xx)])) t
    refine XS.aloadN X0.here hx rfl (hb hby dsi_1) rfl rfl ?_
    show Steps p.tables e below (s₁.setTop (mkF m 2 #[.val (.ref xx), .val (.ref bb)] [(.ref bb), (.ref xx)])) t
    refine XS.iconst X0.here hx rfl (hb hby dsi_2) ?_
    show Steps p.tables e below (s₁.setTop (mkF m 3 #[.val (.ref xx), .val (.ref bb)] [(.int (0 : Int32)), (.ref bb), (.ref xx)])) t
    refine XS.aloadN X0.here hx rfl (hb hby dsi_3) rfl rfl ?_
    exact ht
  obtain ⟨cl94, Ar94, qc94, Sz94, Nn94, Hh94, Gg94⟩ := id V_b
  have k95 : Kt p e below m (s₁.setTop (entryFrame m #[(.ref xx), (.ref bb)] 2)) s₁ 6 #[.val (.ref xx), .val (.ref bb)] [.null, (.int (0 : Int32)), (.int (0 : Int32)), (.ref bb), (.ref xx)] := by
    intro t ht
    refine k93 t ?_
    show Steps p.tables e below (s₁.setTop (mkF m 4 #[.val (.ref xx), .val (.ref bb)] [(.ref bb), (.int (0 : Int32)), (.ref bb), (.ref xx)])) t
    refine X0.arraylength hx (by rw [e0]; exact Ar94.1) (State.isArrayOf_alike hZ.alike Ar94.2.1) (g := (mkF m 4 #[.val (.ref xx), .val (.ref bb)] [(.ref bb), (.int (0 : Int32)), (.ref bb), (.ref xx)])) rfl rfl (hb hby dsi_4) _ ?_
    rw [len_of Sz94 Nn94]
    show Steps p.tables e below (s₁.setTop (mkF m 5 #[.val (.ref xx), .val (.ref bb)] [(.int (0 : Int32)), (.int (0 : Int32)), (.ref bb), (.ref xx)])) t
    refine XS.aconstNull X0.here hx rfl (hb hby dsi_5) ?_
    exact ht
  obtain ⟨_, _, ⟨T96, L96, c96, n96⟩, -, X96, hs96, hg96, ⟨Lc96, hQ96, l96, y96, z96, hR96⟩, st96⟩ := Stand.specialBackS (s := s.setVm s.vm) X0 hx (y := (⟨"java/lang/String", "<init>", "([CIILjava/lang/Void;)V"⟩ : MethodName)) rfl hown (mvT hZ (hw _ (List.mem_of_getElem? (i := 59) rfl))) (mvT hZ (hw _ (List.mem_of_getElem? (i := 60) rfl))) (mvT hZ (hw _ (List.mem_of_getElem? (i := 62) rfl))) (by decide) (own_backH (s := s) (vm0 := s.vm) (W := 0) (rmsv l Z a0 hw [] xx bb h0 n0 Z0 hEL E_x F_value F_coder g_xx) hZ (hw _ (List.mem_of_getElem? (i := 62) rfl)) (hw _ (List.mem_of_getElem? (i := 5) rfl)) (by decide) (by decide) hEL R0.1 (allS ⟨E_x.lt, Sf_xx⟩ all0)) (g := (mkF m 6 #[.val (.ref xx), .val (.ref bb)] [.null, (.int (0 : Int32)), (.int (0 : Int32)), (.ref bb), (.ref xx)])) rfl (by rw [hml]; rfl) (Steps.refl _) (a := xx) (argsL := [(.ref bb), (.int (0 : Int32)), (.int (0 : Int32)), .null]) (rest := []) (lenOf pd_19 rfl) rfl (by show 2 * 0 + _ ≤ _; exact Nat.le_of_eq rfl) (hb hby dsi_6) (fun _ _ => ⟨rfl, e0, (by decide : 0 + 4 ≤ _), (by decide : 0 + 8 ≤ _)⟩)
  dsimp only [Pt.U, Pt.locs, Pt.cells, Pt.slots] at X96 hs96 hg96 l96 y96 z96 st96 hQ96 hR96
  subst l96 y96 z96
  have hS96 : s.Since T96.vm T96.heap.size := foldS ((State.WarmedH.refl s).since 0) (Nat.zero_le _) hs96 hg96
  have hZ96 : Z.Warmed39 (s.setVm T96.vm).vm := State.Warmed39.trans (t := s.setVm s.vm) hZ hs96.1
  have hown96 : (s.setVm T96.vm).vm.findClass "java/lang/String" = some m.cls := by show T96.vm.findClass _ = _; rw [hs96.1.alike.findClass]; exact hown
  obtain ⟨rfl, Nq96, Kp96, t1, kb1, Fc, Fv, Va⟩ := hQ96
  have N96 := Fr.app N0 Nq96
  have k96 : Kt p e below m (s₁.setTop (entryFrame m #[(.ref xx), (.ref bb)] 2)) T96 9 #[.val (.ref xx), .val (.ref bb)] [] := fun t ht => k95 t (st96.trans ht)
  have f97 : n0 ≤ T96.heap.size := Nat.le_trans Z0 Kp96.1
  have f98 : CHr Z consts_1 s.vm h0 T96.vm T96.heap := R0.trans hR96
  have f99 : Safe Z consts_1 T96.vm T96.heap xx := hR96.safe E_x.lt Sf_xx
  have f100 : Exa Z T96.heap xx "java/lang/String" := E_x.keep Kp96
  have f103 : Keep h0 T96.heap [xx] := K0.trans Kp96 (allS (Or.inl (List.mem_of_getElem? (i := 0) rfl)) all0)
  have hk96 : T96.heap.size ≤ T96.heap.size := Nat.le_refl _
  obtain ⟨fs, hr, hrun, hended, -, hW, hbk, hsame⟩ := Stand.leaveW (s := s) (vm₁ := T96.vm) X96 (hS96) (by exact hk96) (v := none) (fun _ => rfl)
  refine ⟨_, _, k96 _ ?_, hrun, hended, _, _, rfl, ?_, ?_, ⟨_, rfl⟩, hW, hbk, hsame.mono (by decide) (by decide)⟩
  · exact X96.returnOut hx Bd.returns (hb hby dsi_9) hr
  · show Qsi Z xx bb kc h0 n0 _ T96.heap _
    exact ⟨rfl, N96, f103, t1, kb1, Fc, Fv, Va⟩
  · show CHr Z consts_1 s.vm s.heap T96.vm T96.heap
    rw [hh]
    exact f98.trans (CHv.at (s := s) (vm0 := T96.vm) X96 hZ96 hEL f98.1)
theorem dmk_0 : decode method_5_code 0 = .ok (.iload_n 0, 1) := by decide +kernel
theorem dmk_1 : decode method_5_code 1 = .ok (.ifCond .ne 14, 3) := by decide +kernel
theorem dmk_4 : decode method_5_code 4 = .ok (.new 14, 3) := by decide +kernel
theorem dmk_7 : decode method_5_code 7 = .ok (.dup, 1) := by decide +kernel
theorem dmk_8 : decode method_5_code 8 = .ok (.iconst 0, 1) := by decide +kernel
theorem dmk_9 : decode method_5_code 9 = .ok (.newarray .char, 2) := by decide +kernel
theorem dmk_11 : decode method_5_code 11 = .ok (.invokespecial 50, 3) := by decide +kernel
theorem dmk_14 : decode method_5_code 14 = .ok (.areturn, 1) := by decide +kernel
theorem dmk_15 : decode method_5_code 15 = .ok (.iload_n 0, 1) := by decide +kernel
theorem dmk_16 : decode method_5_code 16 = .ok (.iconst 1, 1) := by decide +kernel
theorem dmk_17 : decode method_5_code 17 = .ok (.if_icmp .ne 18, 3) := by decide +kernel
theorem dmk_20 : decode method_5_code 20 = .ok (.new 14, 3) := by decide +kernel
theorem dmk_23 : decode method_5_code 23 = .ok (.dup, 1) := by decide +kernel
theorem dmk_24 : decode method_5_code 24 = .ok (.iconst 1, 1) := by decide +kernel
theorem dmk_25 : decode method_5_code 25 = .ok (.newarray .char, 2) := by decide +kernel
theorem dmk_27 : decode method_5_code 27 = .ok (.dup, 1) := by decide +kernel
theorem dmk_28 : decode method_5_code 28 = .ok (.iconst 0, 1) := by decide +kernel
theorem dmk_29 : decode method_5_code 29 = .ok (.iload_n 1, 1) := by decide +kernel
theorem dmk_30 : decode method_5_code 30 = .ok (.castore, 1) := by decide +kernel
theorem dmk_31 : decode method_5_code 31 = .ok (.invokespecial 50, 3) := by decide +kernel
theorem dmk_34 : decode method_5_code 34 = .ok (.areturn, 1) := by decide +kernel
theorem dmk_35 : decode method_5_code 35 = .ok (.iload_n 0, 1) := by decide +kernel
theorem dmk_36 : decode method_5_code 36 = .ok (.iconst 2, 1) := by decide +kernel
theorem dmk_37 : decode method_5_code 37 = .ok (.if_icmp .ne 22, 3) := by decide +kernel
theorem dmk_40 : decode method_5_code 40 = .ok (.new 14, 3) := by decide +kernel
theorem dmk_43 : decode method_5_code 43 = .ok (.dup, 1) := by decide +kernel
theorem dmk_44 : decode method_5_code 44 = .ok (.iconst 2, 1) := by decide +kernel
theorem dmk_45 : decode method_5_code 45 = .ok (.newarray .char, 2) := by decide +kernel
theorem dmk_47 : decode method_5_code 47 = .ok (.dup, 1) := by decide +kernel
theorem dmk_48 : decode method_5_code 48 = .ok (.iconst 0, 1) := by decide +kernel
theorem dmk_49 : decode method_5_code 49 = .ok (.iload_n 1, 1) := by decide +kernel
theorem dmk_50 : decode method_5_code 50 = .ok (.castore, 1) := by decide +kernel
theorem dmk_51 : decode method_5_code 51 = .ok (.dup, 1) := by decide +kernel
theorem dmk_52 : decode method_5_code 52 = .ok (.iconst 1, 1) := by decide +kernel
theorem dmk_53 : decode method_5_code 53 = .ok (.iload_n 2, 1) := by decide +kernel
theorem dmk_54 : decode method_5_code 54 = .ok (.castore, 1) := by decide +kernel
theorem dmk_55 : decode method_5_code 55 = .ok (.invokespecial 50, 3) := by decide +kernel
theorem dmk_58 : decode method_5_code 58 = .ok (.areturn, 1) := by decide +kernel
theorem dmk_59 : decode method_5_code 59 = .ok (.iload_n 0, 1) := by decide +kernel
theorem dmk_60 : decode method_5_code 60 = .ok (.iconst 3, 1) := by decide +kernel
theorem dmk_61 : decode method_5_code 61 = .ok (.if_icmp .ne 26, 3) := by decide +kernel
theorem dmk_64 : decode method_5_code 64 = .ok (.new 14, 3) := by decide +kernel
theorem dmk_67 : decode method_5_code 67 = .ok (.dup, 1) := by decide +kernel
theorem dmk_68 : decode method_5_code 68 = .ok (.iconst 3, 1) := by decide +kernel
theorem dmk_69 : decode method_5_code 69 = .ok (.newarray .char, 2) := by decide +kernel
theorem dmk_71 : decode method_5_code 71 = .ok (.dup, 1) := by decide +kernel
theorem dmk_72 : decode method_5_code 72 = .ok (.iconst 0, 1) := by decide +kernel
theorem dmk_73 : decode method_5_code 73 = .ok (.iload_n 1, 1) := by decide +kernel
theorem dmk_74 : decode method_5_code 74 = .ok (.castore, 1) := by decide +kernel
theorem dmk_75 : decode method_5_code 75 = .ok (.dup, 1) := by decide +kernel
theorem dmk_76 : decode method_5_code 76 = .ok (.iconst 1, 1) := by decide +kernel
theorem dmk_77 : decode method_5_code 77 = .ok (.iload_n 2, 1) := by decide +kernel
theorem dmk_78 : decode method_5_code 78 = .ok (.castore, 1) := by decide +kernel
theorem dmk_79 : decode method_5_code 79 = .ok (.dup, 1) := by decide +kernel
theorem dmk_80 : decode method_5_code 80 = .ok (.iconst 2, 1) := by decide +kernel
theorem dmk_81 : decode method_5_code 81 = .ok (.iload_n 3, 1) := by decide +kernel
theorem dmk_82 : decode method_5_code 82 = .ok (.castore, 1) := by decide +kernel
theorem dmk_83 : decode method_5_code 83 = .ok (.invokespecial 50, 3) := by decide +kernel
theorem dmk_86 : decode method_5_code 86 = .ok (.areturn, 1) := by decide +kernel
theorem dmk_87 : decode method_5_code 87 = .ok (.iload_n 0, 1) := by decide +kernel
theorem dmk_88 : decode method_5_code 88 = .ok (.iconst 4, 1) := by decide +kernel
theorem dmk_89 : decode method_5_code 89 = .ok (.if_icmp .ne 31, 3) := by decide +kernel
theorem dmk_92 : decode method_5_code 92 = .ok (.new 14, 3) := by decide +kernel
theorem dmk_95 : decode method_5_code 95 = .ok (.dup, 1) := by decide +kernel
theorem dmk_96 : decode method_5_code 96 = .ok (.iconst 4, 1) := by decide +kernel
theorem dmk_97 : decode method_5_code 97 = .ok (.newarray .char, 2) := by decide +kernel
theorem dmk_99 : decode method_5_code 99 = .ok (.dup, 1) := by decide +kernel
theorem dmk_100 : decode method_5_code 100 = .ok (.iconst 0, 1) := by decide +kernel
theorem dmk_101 : decode method_5_code 101 = .ok (.iload_n 1, 1) := by decide +kernel
theorem dmk_102 : decode method_5_code 102 = .ok (.castore, 1) := by decide +kernel
theorem dmk_103 : decode method_5_code 103 = .ok (.dup, 1) := by decide +kernel
theorem dmk_104 : decode method_5_code 104 = .ok (.iconst 1, 1) := by decide +kernel
theorem dmk_105 : decode method_5_code 105 = .ok (.iload_n 2, 1) := by decide +kernel
theorem dmk_106 : decode method_5_code 106 = .ok (.castore, 1) := by decide +kernel
theorem dmk_107 : decode method_5_code 107 = .ok (.dup, 1) := by decide +kernel
theorem dmk_108 : decode method_5_code 108 = .ok (.iconst 2, 1) := by decide +kernel
theorem dmk_109 : decode method_5_code 109 = .ok (.iload_n 3, 1) := by decide +kernel
theorem dmk_110 : decode method_5_code 110 = .ok (.castore, 1) := by decide +kernel
theorem dmk_111 : decode method_5_code 111 = .ok (.dup, 1) := by decide +kernel
theorem dmk_112 : decode method_5_code 112 = .ok (.iconst 3, 1) := by decide +kernel
theorem dmk_113 : decode method_5_code 113 = .ok (.iload 4, 2) := by decide +kernel
theorem dmk_115 : decode method_5_code 115 = .ok (.castore, 1) := by decide +kernel
theorem dmk_116 : decode method_5_code 116 = .ok (.invokespecial 50, 3) := by decide +kernel
theorem dmk_119 : decode method_5_code 119 = .ok (.areturn, 1) := by decide +kernel
theorem dmk_120 : decode method_5_code 120 = .ok (.iload_n 0, 1) := by decide +kernel
theorem dmk_121 : decode method_5_code 121 = .ok (.iconst 5, 1) := by decide +kernel
theorem dmk_122 : decode method_5_code 122 = .ok (.if_icmp .ne 36, 3) := by decide +kernel
theorem dmk_125 : decode method_5_code 125 = .ok (.new 14, 3) := by decide +kernel
theorem dmk_128 : decode method_5_code 128 = .ok (.dup, 1) := by decide +kernel
theorem dmk_129 : decode method_5_code 129 = .ok (.iconst 5, 1) := by decide +kernel
theorem dmk_130 : decode method_5_code 130 = .ok (.newarray .char, 2) := by decide +kernel
theorem dmk_132 : decode method_5_code 132 = .ok (.dup, 1) := by decide +kernel
theorem dmk_133 : decode method_5_code 133 = .ok (.iconst 0, 1) := by decide +kernel
theorem dmk_134 : decode method_5_code 134 = .ok (.iload_n 1, 1) := by decide +kernel
theorem dmk_135 : decode method_5_code 135 = .ok (.castore, 1) := by decide +kernel
theorem dmk_136 : decode method_5_code 136 = .ok (.dup, 1) := by decide +kernel
theorem dmk_137 : decode method_5_code 137 = .ok (.iconst 1, 1) := by decide +kernel
theorem dmk_138 : decode method_5_code 138 = .ok (.iload_n 2, 1) := by decide +kernel
theorem dmk_139 : decode method_5_code 139 = .ok (.castore, 1) := by decide +kernel
theorem dmk_140 : decode method_5_code 140 = .ok (.dup, 1) := by decide +kernel
theorem dmk_141 : decode method_5_code 141 = .ok (.iconst 2, 1) := by decide +kernel
theorem dmk_142 : decode method_5_code 142 = .ok (.iload_n 3, 1) := by decide +kernel
theorem dmk_143 : decode method_5_code 143 = .ok (.castore, 1) := by decide +kernel
theorem dmk_144 : decode method_5_code 144 = .ok (.dup, 1) := by decide +kernel
theorem dmk_145 : decode method_5_code 145 = .ok (.iconst 3, 1) := by decide +kernel
theorem dmk_146 : decode method_5_code 146 = .ok (.iload 4, 2) := by decide +kernel
theorem dmk_148 : decode method_5_code 148 = .ok (.castore, 1) := by decide +kernel
theorem dmk_149 : decode method_5_code 149 = .ok (.dup, 1) := by decide +kernel
theorem dmk_150 : decode method_5_code 150 = .ok (.iconst 4, 1) := by decide +kernel
theorem dmk_151 : decode method_5_code 151 = .ok (.iload 5, 2) := by decide +kernel
theorem dmk_153 : decode method_5_code 153 = .ok (.castore, 1) := by decide +kernel
theorem dmk_154 : decode method_5_code 154 = .ok (.invokespecial 50, 3) := by decide +kernel
theorem dmk_157 : decode method_5_code 157 = .ok (.areturn, 1) := by decide +kernel
theorem dmk_158 : decode method_5_code 158 = .ok (.new 14, 3) := by decide +kernel
theorem dmk_161 : decode method_5_code 161 = .ok (.dup, 1) := by decide +kernel
theorem dmk_162 : decode method_5_code 162 = .ok (.bipush 6, 2) := by decide +kernel
theorem dmk_164 : decode method_5_code 164 = .ok (.newarray .char, 2) := by decide +kernel
theorem dmk_166 : decode method_5_code 166 = .ok (.dup, 1) := by decide +kernel
theorem dmk_167 : decode method_5_code 167 = .ok (.iconst 0, 1) := by decide +kernel
theorem dmk_168 : decode method_5_code 168 = .ok (.iload_n 1, 1) := by decide +kernel
theorem dmk_169 : decode method_5_code 169 = .ok (.castore, 1) := by decide +kernel
theorem dmk_170 : decode method_5_code 170 = .ok (.dup, 1) := by decide +kernel
theorem dmk_171 : decode method_5_code 171 = .ok (.iconst 1, 1) := by decide +kernel
theorem dmk_172 : decode method_5_code 172 = .ok (.iload_n 2, 1) := by decide +kernel
theorem dmk_173 : decode method_5_code 173 = .ok (.castore, 1) := by decide +kernel
theorem dmk_174 : decode method_5_code 174 = .ok (.dup, 1) := by decide +kernel
theorem dmk_175 : decode method_5_code 175 = .ok (.iconst 2, 1) := by decide +kernel
theorem dmk_176 : decode method_5_code 176 = .ok (.iload_n 3, 1) := by decide +kernel
theorem dmk_177 : decode method_5_code 177 = .ok (.castore, 1) := by decide +kernel
theorem dmk_178 : decode method_5_code 178 = .ok (.dup, 1) := by decide +kernel
theorem dmk_179 : decode method_5_code 179 = .ok (.iconst 3, 1) := by decide +kernel
theorem dmk_180 : decode method_5_code 180 = .ok (.iload 4, 2) := by decide +kernel
theorem dmk_182 : decode method_5_code 182 = .ok (.castore, 1) := by decide +kernel
theorem dmk_183 : decode method_5_code 183 = .ok (.dup, 1) := by decide +kernel
theorem dmk_184 : decode method_5_code 184 = .ok (.iconst 4, 1) := by decide +kernel
theorem dmk_185 : decode method_5_code 185 = .ok (.iload 5, 2) := by decide +kernel
theorem dmk_187 : decode method_5_code 187 = .ok (.castore, 1) := by decide +kernel
theorem dmk_188 : decode method_5_code 188 = .ok (.dup, 1) := by decide +kernel
theorem dmk_189 : decode method_5_code 189 = .ok (.iconst 5, 1) := by decide +kernel
theorem dmk_190 : decode method_5_code 190 = .ok (.iload 6, 2) := by decide +kernel
theorem dmk_192 : decode method_5_code 192 = .ok (.castore, 1) := by decide +kernel
theorem dmk_193 : decode method_5_code 193 = .ok (.invokespecial 50, 3) := by decide +kernel
theorem dmk_196 : decode method_5_code 196 = .ok (.areturn, 1) := by decide +kernel
theorem pnmk : plainName "com/example/lockstile/lockstile/namespace/AclEntryNamedPinLaw" = true := by first | (simp [plainName, overriddenIn]; done) | decide +kernel
theorem efmk (m : MethodId) (p0 : Int32) (p1 : Int32) (p2 : Int32) (p3 : Int32) (p4 : Int32) (p5 : Int32) (p6 : Int32) : entryFrame m #[(.int p0), (.int p1), (.int p2), (.int p3), (.int p4), (.int p5), (.int p6)] 7 = mkF m 0 #[.val (.int p0), .val (.int p1), .val (.int p2), .val (.int p3), .val (.int p4), .val (.int p5), .val (.int p6)] [] := by first | (simp [entryFrame, mkF, argsToLocals, Value.category]; done) | rfl
def Qmk (Z : State) (p0 : Int32) (p1 : Int32) (p2 : Int32) (p3 : Int32) (p4 : Int32) (p5 : Int32) (p6 : Int32) (G1 : Int32) (h0 : Heap) (n0 : Nat) (v : Option Value) (h : Heap) (L : List Loc) : Prop := ∃ r t kb cs, v = some (.ref r) ∧ Fr n0 L ∧ Keep h0 h [] ∧ Exa Z h r "java/lang/String" ∧ Fld Z h r "java/lang/String" "coder" "B" (.int (0 : Int32)) ∧ Fld Z h r "java/lang/String" "value" "[B" (.ref t) ∧ Arv Z h t kb .byte (Int32.ofNat cs.length) (own_by cs) (.int (0 : Int32)) ∧ (∀ c ∈ cs, own_r c) ∧ cs.length ≤ 4000
set_option maxRecDepth 65536 in
set_option maxHeartbeats 40000000 in
theorem rmmk (l : Launch) (Z : State) (a0 : Array Value) (hw : ∀ d ∈ tables_1, d.before a0 Z = true) (ws : List Jvm.Cond) (p0 : Int32) (p1 : Int32) (p2 : Int32) (p3 : Int32) (p4 : Int32) (p5 : Int32) (p6 : Int32) (G1 : Int32) (h0 : Heap) (n0 : Nat) (Z0 : n0 ≤ h0.size) (hEL : EW Z a0 consts_1) (S1 : Sta Z Z.heap "java/lang/String" "COMPACT_STRINGS" "Z" (.int G1)) (P5 : ¬ (G1 = (0 : Int32))) (O : Old Z n0 h0) (r1 : own_r p1) (r2 : own_r p2) (r3 : own_r p3) (r4 : own_r p4) (r5 : own_r p5) (r6 : own_r p6) :
    MetFree l (⟨"com/example/lockstile/lockstile/namespace/AclEntryNamedPinLaw", "make", "(ICCCCCC)Ljava/lang/String;"⟩ : MethodName) (head1 (Jvm.Cond.code (⟨"com/example/lockstile/lockstile/namespace/AclEntryNamedPinLaw", "make", "(ICCCCCC)Ljava/lang/String;"⟩ : MethodName) method_5_code 7 (some (.object "java/lang/String")) :: ws) ({ frames := 4, cells := 6, slots := 16, locals := 66 } : Room)) (fun gs' U => gs' = #[(.int p0), (.int p1), (.int p2), (.int p3), (.int p4), (.int p5), (.int p6)] ∧ Z.Warmed39 U.vm ∧ U.heap = h0 ∧ CHv Z consts_1 U.vm h0 ∧ ∀ x ∈ ([] : List Addr), Safe Z consts_1 U.vm h0 x) (fun _ _ _ _ _ => True) (fun _ U o U' => ∃ v L, o = .returned v ∧ Qmk Z p0 p1 p2 p3 p4 p5 p6 G1 h0 n0 v U'.heap L ∧ CHr Z consts_1 U.vm U.heap U'.vm U'.heap ∧ ReturnedEndW U o U' L ({ frames := 4, cells := 6, slots := 16, locals := 66 } : Room).cells ({ frames := 4, cells := 6, slots := 16, locals := 66 } : Room).slots) := by
  refine MetFree.of_bodySF (plainFor_of_name pnmk) hisR ?_
  intro p e s m args below meth c s₁ Bd hml0 hP hK
  obtain ⟨rfl, hZ, hh, hCH, hSf⟩ := hP
  have hx := Bd.exec
  have hby := Bd.bytes
  have hml : c.maxLocals = 7 := hml0
  have hown : s.vm.findClass "com/example/lockstile/lockstile/namespace/AclEntryNamedPinLaw" = some m.cls := findClass_of_methodNamed Bd.named
  have hnm := (name_of_methodNamed Bd.named Bd.method).1
  have X0 : Stand p l e ({ frames := 4, cells := 6, slots := 16, locals := 66 } : Room) (s.setVm s.vm) m #[(.int p0), (.int p1), (.int p2), (.int p3), (.int p4), (.int p5), (.int p6)] below meth c s₁ [] 0 0 := Stand.of_body Bd
  have e0 : s₁.heap = h0 := by rw [← hh, Bd.state]; rfl
  have N0 := Fr.nil n0
  have k0 : Kt p e below m (s₁.setTop (entryFrame m #[(.int p0), (.int p1), (.int p2), (.int p3), (.int p4), (.int p5), (.int p6)] 7)) s₁ 0 #[.val (.int p0), .val (.int p1), .val (.int p2), .val (.int p3), .val (.int p4), .val (.int p5), .val (.int p6)] [] := fun t ht => castTop (efmk m p0 p1 p2 p3 p4 p5 p6) ht
  have R0 : CHr Z consts_1 s.vm h0 s.vm h0 := CHr.refl hCH
  have K0 : Keep h0 h0 [] := Keep.refl _ _
  have hws : ∀ d ∈ StrChars.Road.words, d.before a0 Z = true := fun d hd => hw d ((by decide +kernel : ∀ d ∈ StrChars.Road.words, d ∈ tables_1) d hd)
  have k104 : Kt p e below m (s₁.setTop (entryFrame m #[(.int p0), (.int p1), (.int p2), (.int p3), (.int p4), (.int p5), (.int p6)] 7)) s₁ 1 #[.val (.int p0), .val (.int p1), .val (.int p2), .val (.int p3), .val (.int p4), .val (.int p5), .val (.int p6)] [(.int p0)] := by
    intro t ht
    refine k0 t ?_
    show Steps p.tables e below (s₁.setTop (mkF m 0 #[.val (.int p0), .val (.int p1), .val (.int p2), .val (.int p3), .val (.int p4), .val (.int p5), .val (.int p6)] [])) t
    refine XS.iloadN X0.here hx rfl (hb hby dmk_0) rfl ?_
    exact ht
  by_cases h0' : p0 = (0 : Int32)
  · have k105 : Kt p e below m (s₁.setTop (entryFrame m #[(.int p0), (.int p1), (.int p2), (.int p3), (.int p4), (.int p5), (.int p6)] 7)) s₁ 4 #[.val (.int p0), .val (.int p1), .val (.int p2), .val (.int p3), .val (.int p4), .val (.int p5), .val (.int p6)] [] := by
      intro t ht
      refine k104 t ?_
      show Steps p.tables e below (s₁.setTop (mkF m 1 #[.val (.int p0), .val (.int p1), .val (.int p2), .val (.int p3), .val (.int p4), .val (.int p5), .val (.int p6)] [(.int p0)])) t
      refine XS.ifNo X0.here hx rfl (hb hby dmk_1) rfl ((if0 _ _).trans (teq h0').2) ?_
      exact ht
    obtain ⟨T106, h106, X106, e106, E106, A106, D106, -, st106⟩ := newO X0 hx hZ hown (hw _ (List.mem_of_getElem? (i := 54) rfl)) (hw _ (List.mem_of_getElem? (i := 6) rfl)) (hw _ (List.mem_of_getElem? (i := 5) rfl)) e0 (g := (mkF m 4 #[.val (.int p0), .val (.int p1), .val (.int p2), .val (.int p3), .val (.int p4), .val (.int p5), .val (.int p6)] [])) rfl (hb hby dmk_4) (by decide) (by decide)
    obtain ⟨r, q106⟩ : ∃ z, z = h0.size := ⟨_, rfl⟩
    have g_r : n0 ≤ r := by rw [q106]; exact Z0
    have sz_r : h0.size ≤ r := by rw [q106]; exact K0.1
    rw [← q106] at A106 D106 st106
    have f107 : n0 ≤ h106.size := Nat.le_trans Z0 E106.1
    have f108 : CHr Z consts_1 s.vm h0 s.vm h106 := R0.trans (CHr.ext E106 R0.1)
    have f109 : Old Z n0 h106 := O.ext E106
    have f110 : Keep h0 h106 [] := K0.ext E106
    have Sf106 : Safe Z consts_1 s.vm h106 r := Safe.ext E106 R0.1 (Safe.new (by rw [q106]; exact Nat.le_refl _))
    have f106 : Exa Z h106 r "java/lang/String" := A106
    have f111 : Fld Z h106 r "java/lang/String" "value" "[B" .null := D106 (Or.inr (hw _ (List.mem_of_getElem? (i := 8) rfl))) (ty := (.array .byte)) (by decide)
    have f112 : Fld Z h106 r "java/lang/String" "coder" "B" (.int (0 : Int32)) := D106 (Or.inr (hw _ (List.mem_of_getElem? (i := 9) rfl))) (ty := .byte) (by decide)
    have k106 : Kt p e below m (s₁.setTop (entryFrame m #[(.int p0), (.int p1), (.int p2), (.int p3), (.int p4), (.int p5), (.int p6)] 7)) T106 7 #[.val (.int p0), .val (.int p1), .val (.int p2), .val (.int p3), .val (.int p4), .val (.int p5), .val (.int p6)] [(.ref r)] := fun t ht => k105 t (st106 t ht)
    have k113 : Kt p e below m (s₁.setTop (entryFrame m #[(.int p0), (.int p1), (.int p2), (.int p3), (.int p4), (.int p5), (.int p6)] 7)) T106 9 #[.val (.int p0), .val (.int p1), .val (.int p2), .val (.int p3), .val (.int p4), .val (.int p5), .val (.int p6)] [(.int (0 : Int32)), (.ref r), (.ref r)] := by
      intro t ht
      refine k106 t ?_
      show Steps p.tables e below (T106.setTop (mkF m 7 #[.val (.int p0), .val (.int p1), .val (.int p2), .val (.int p3), .val (.int p4), .val (.int p5), .val (.int p6)] [(.ref r)])) t
      refine XS.dup X106.here hx rfl (hb hby dmk_7) rfl rfl ?_
      show Steps p.tables e below (T106.setTop (mkF m 8 #[.val (.int p0), .val (.int p1), .val (.int p2), .val (.int p3), .val (.int p4), .val (.int p5), .val (.int p6)] [(.ref r), (.ref r)])) t
      refine XS.iconst X106.here hx rfl (hb hby dmk_8) ?_
      exact ht
    obtain ⟨T114, h114, ak114, X114, e114, E114, A114, st114⟩ := newP X106 hx hZ (hw _ (List.mem_of_getElem? (i := 55) rfl)) e106 (g := (mkF m 9 #[.val (.int p0), .val (.int p1), .val (.int p2), .val (.int p3), .val (.int p4), .val (.int p5), .val (.int p6)] [(.int (0 : Int32)), (.ref r), (.ref r)])) rfl (hb hby dmk_9) rfl (by decide) (cap := 0) (by decide) (by decide) (by decide) (by decide)
    obtain ⟨ch, q114⟩ : ∃ z, z = h106.size := ⟨_, rfl⟩
    have ne_r_ch : r ≠ ch := by rw [q114]; exact Nat.ne_of_lt f106.lt
    have g_ch : n0 ≤ ch := by rw [q114]; exact f107
    have sz_ch : h0.size ≤ ch := by rw [q114]; exact f110.1
    rw [← q114] at A114 st114
    have f115 : n0 ≤ h114.size := Nat.le_trans f107 E114.1
    have f116 : CHr Z consts_1 s.vm h0 s.vm h114 := f108.trans (CHr.ext E114 f108.1)
    have f117 : Old Z n0 h114 := f109.ext E114
    have f118 : Keep h0 h114 [] := f110.ext E114
    have f119 : Safe Z consts_1 s.vm h114 r := Sf106.ext E114 f108.1
    have f120 : Exa Z h114 r "java/lang/String" := f106.ext E114
    have f121 : Fld Z h114 r "java/lang/String" "value" "[B" .null := f111.ext E114
    have f122 : Fld Z h114 r "java/lang/String" "coder" "B" (.int (0 : Int32)) := f112.ext E114
    have Sf114 : Safe Z consts_1 s.vm h114 ch := Safe.ext E114 f108.1 (Safe.new (by rw [q114]; exact Nat.le_refl _))
    have f114 : Arv Z h114 ch ak114 .char (0 : Int32) [] (.int (0 : Int32)) := Arv.new A114 (by decide)
    have k114 : Kt p e below m (s₁.setTop (entryFrame m #[(.int p0), (.int p1), (.int p2), (.int p3), (.int p4), (.int p5), (.int p6)] 7)) T114 11 #[.val (.int p0), .val (.int p1), .val (.int p2), .val (.int p3), .val (.int p4), .val (.int p5), .val (.int p6)] [(.ref ch), (.ref r), (.ref r)] := fun t ht => k113 t (st114 t ht)
    obtain ⟨_, _, ⟨T123, L123, c123, n123⟩, -, X123, hs123, hg123, ⟨Lc123, hQ123, l123, y123, z123, hR123⟩, st123⟩ := Stand.specialBackS (s := s.setVm s.vm) X114 hx (y := (⟨"java/lang/String", "<init>", "([C)V"⟩ : MethodName)) rfl hown (mvT hZ (hw _ (List.mem_of_getElem? (i := 56) rfl))) (mvT hZ (hw _ (List.mem_of_getElem? (i := 57) rfl))) (mvT hZ (hw _ (List.mem_of_getElem? (i := 58) rfl))) (by decide) (own_backH (s := s) (vm0 := s.vm) (W := 1) (rmsi l Z a0 hw [] r ch ak114 h114 n0 f115 hEL f120 f121 f122 g_r f114) hZ (hw _ (List.mem_of_getElem? (i := 58) rfl)) (hw _ (List.mem_of_getElem? (i := 5) rfl)) (by decide) (by decide) hEL f116.1 (allS ⟨f120.lt, f119⟩ all0)) (g := (mkF m 11 #[.val (.int p0), .val (.int p1), .val (.int p2), .val (.int p3), .val (.int p4), .val (.int p5), .val (.int p6)] [(.ref ch), (.ref r), (.ref r)])) rfl (by rw [hml]; rfl) (Steps.refl _) (a := r) (argsL := [(.ref ch)]) (rest := [(.ref r)]) (lenOf pd_17 rfl) rfl (by show 2 * 0 + _ ≤ _; exact Nat.le_of_eq rfl) (hb hby dmk_11) (fun _ _ => ⟨rfl, e114, (by decide : 2 + 4 ≤ _), (by decide : 4 + 8 ≤ _)⟩)
    dsimp only [Pt.U, Pt.locs, Pt.cells, Pt.slots] at X123 hs123 hg123 l123 y123 z123 st123 hQ123 hR123
    subst l123 y123 z123
    have hS123 : s.Since T123.vm T123.heap.size := foldS ((State.WarmedH.refl s).since 0) (Nat.zero_le _) hs123 hg123
    have hZ123 : Z.Warmed39 (s.setVm T123.vm).vm := State.Warmed39.trans (t := s.setVm s.vm) hZ hs123.1
    have hown123 : (s.setVm T123.vm).vm.findClass "com/example/lockstile/lockstile/namespace/AclEntryNamedPinLaw" = some m.cls := by show T123.vm.findClass _ = _; rw [hs123.1.alike.findClass]; exact hown
    obtain ⟨rfl, Nq123, Kp123, t1, kb1, Fc, Fv, Va⟩ := hQ123
    have N123 := Fr.app N0 Nq123
    have k123 : Kt p e below m (s₁.setTop (entryFrame m #[(.int p0), (.int p1), (.int p2), (.int p3), (.int p4), (.int p5), (.int p6)] 7)) T123 14 #[.val (.int p0), .val (.int p1), .val (.int p2), .val (.int p3), .val (.int p4), .val (.int p5), .val (.int p6)] [(.ref r)] := fun t ht => k114 t (st123.trans ht)
    have f124 : n0 ≤ T123.heap.size := Nat.le_trans f115 Kp123.1
    have f125 : CHr Z consts_1 s.vm h0 T123.vm T123.heap := f116.trans hR123
    have f126 : Old Z n0 T123.heap := f117.keep Kp123 (allS g_r all0)
    have f127 : Keep h0 T123.heap [] := f118.trans Kp123 (allS (Or.inr sz_r) all0)
    have f128 : Safe Z consts_1 T123.vm T123.heap r := hR123.safe f120.lt f119
    have f129 : Exa Z T123.heap r "java/lang/String" := f120.keep Kp123
    have f132 : Safe Z consts_1 T123.vm T123.heap ch := hR123.safe f114.lt Sf114
    have f133 : Arv Z T123.heap ch ak114 .char (0 : Int32) [] (.int (0 : Int32)) := f114.keep Kp123 (ninS ne_r_ch.symm nin0)
    have hk123 : T123.heap.size ≤ T123.heap.size := Nat.le_refl _
    obtain ⟨fs, hr, hrun, hended, -, hW, hbk, hsame⟩ := Stand.leaveW (s := s) (vm₁ := T123.vm) X123 (hS123) (by exact hk123) (v := some (.ref r)) (fun h => by rw [Bd.returns] at h; cases h)
    refine ⟨_, _, k123 _ ?_, hrun, hended, _, _, rfl, ?_, ?_, ⟨_, rfl⟩, hW, hbk, hsame.mono (by decide) (by decide)⟩
    · show Steps p.tables e below (T123.setTop (mkF m 14 #[.val (.int p0), .val (.int p1), .val (.int p2), .val (.int p3), .val (.int p4), .val (.int p5), .val (.int p6)] [(.ref r)])) _
      jvm_step X123.here [X123.here.top, hx, (hb hby dmk_14), X123.method', Bd.returns, Value.isRef, FieldType.isReference]
      first | (intro acts; rw [hr _ acts rfl rfl rfl]) | rw [hr _ _ rfl rfl rfl]
      exact Steps.refl _
    · show Qmk Z p0 p1 p2 p3 p4 p5 p6 G1 h0 n0 _ T123.heap _
      exact ⟨r, t1, kb1, [], rfl, N123, f127, f129, Fc, Fv, Va, own_all0, by decide⟩
    · show CHr Z consts_1 s.vm s.heap T123.vm T123.heap
      rw [hh]
      exact f125.trans (CHv.at (s := s) (vm0 := T123.vm) X123 hZ123 hEL f125.1)
  · have k134 : Kt p e below m (s₁.setTop (entryFrame m #[(.int p0), (.int p1), (.int p2), (.int p3), (.int p4), (.int p5), (.int p6)] 7)) s₁ 17 #[.val (.int p0), .val (.int p1), .val (.int p2), .val (.int p3), .val (.int p4), .val (.int p5), .val (.int p6)] [(.int (1 : Int32)), (.int p0)] := by
      intro t ht
      refine k104 t ?_
      show Steps p.tables e below (s₁.setTop (mkF m 1 #[.val (.int p0), .val (.int p1), .val (.int p2), .val (.int p3), .val (.int p4), .val (.int p5), .val (.int p6)] [(.int p0)])) t
      refine XS.ifYes X0.here hx rfl (pc0 := 1) (pc' := 15) rfl (hb hby dmk_1) rfl ((if0 _ _).trans (feq h0').2) (by decide) (by decide) ?_
      show Steps p.tables e below (s₁.setTop (mkF m 15 #[.val (.int p0), .val (.int p1), .val (.int p2), .val (.int p3), .val (.int p4), .val (.int p5), .val (.int p6)] [])) t
      refine XS.iloadN X0.here hx rfl (hb hby dmk_15) rfl ?_
      show Steps p.tables e below (s₁.setTop (mkF m 16 #[.val (.int p0), .val (.int p1), .val (.int p2), .val (.int p3), .val (.int p4), .val (.int p5), .val (.int p6)] [(.int p0)])) t
      refine XS.iconst X0.here hx rfl (hb hby dmk_16) ?_
      exact ht
    by_cases h1 : p0 = (1 : Int32)
    · have k135 : Kt p e below m (s₁.setTop (entryFrame m #[(.int p0), (.int p1), (.int p2), (.int p3), (.int p4), (.int p5), (.int p6)] 7)) s₁ 20 #[.val (.int p0), .val (.int p1), .val (.int p2), .val (.int p3), .val (.int p4), .val (.int p5), .val (.int p6)] [] := by
        intro t ht
        refine k134 t ?_
        show Steps p.tables e below (s₁.setTop (mkF m 17 #[.val (.int p0), .val (.int p1), .val (.int p2), .val (.int p3), .val (.int p4), .val (.int p5), .val (.int p6)] [(.int (1 : Int32)), (.int p0)])) t
        refine XS.icmpNo X0.here hx rfl (hb hby dmk_17) rfl (teq h1).2 ?_
        exact ht
      obtain ⟨T136, h136, X136, e136, E136, A136, D136, -, st136⟩ := newO X0 hx hZ hown (hw _ (List.mem_of_getElem? (i := 54) rfl)) (hw _ (List.mem_of_getElem? (i := 6) rfl)) (hw _ (List.mem_of_getElem? (i := 5) rfl)) e0 (g := (mkF m 20 #[.val (.int p0), .val (.int p1), .val (.int p2), .val (.int p3), .val (.int p4), .val (.int p5), .val (.int p6)] [])) rfl (hb hby dmk_20) (by decide) (by decide)
      obtain ⟨r, q136⟩ : ∃ z, z = h0.size := ⟨_, rfl⟩
      have g_r : n0 ≤ r := by rw [q136]; exact Z0
      have sz_r : h0.size ≤ r := by rw [q136]; exact K0.1
      rw [← q136] at A136 D136 st136
      have f137 : n0 ≤ h136.size := Nat.le_trans Z0 E136.1
      have f138 : CHr Z consts_1 s.vm h0 s.vm h136 := R0.trans (CHr.ext E136 R0.1)
      have f139 : Old Z n0 h136 := O.ext E136
      have f140 : Keep h0 h136 [] := K0.ext E136
      have Sf136 : Safe Z consts_1 s.vm h136 r := Safe.ext E136 R0.1 (Safe.new (by rw [q136]; exact Nat.le_refl _))
      have f136 : Exa Z h136 r "java/lang/String" := A136
      have f141 : Fld Z h136 r "java/lang/String" "value" "[B" .null := D136 (Or.inr (hw _ (List.mem_of_getElem? (i := 8) rfl))) (ty := (.array .byte)) (by decide)
      have f142 : Fld Z h136 r "java/lang/String" "coder" "B" (.int (0 : Int32)) := D136 (Or.inr (hw _ (List.mem_of_getElem? (i := 9) rfl))) (ty := .byte) (by decide)
      have k136 : Kt p e below m (s₁.setTop (entryFrame m #[(.int p0), (.int p1), (.int p2), (.int p3), (.int p4), (.int p5), (.int p6)] 7)) T136 23 #[.val (.int p0), .val (.int p1), .val (.int p2), .val (.int p3), .val (.int p4), .val (.int p5), .val (.int p6)] [(.ref r)] := fun t ht => k135 t (st136 t ht)
      have k143 : Kt p e below m (s₁.setTop (entryFrame m #[(.int p0), (.int p1), (.int p2), (.int p3), (.int p4), (.int p5), (.int p6)] 7)) T136 25 #[.val (.int p0), .val (.int p1), .val (.int p2), .val (.int p3), .val (.int p4), .val (.int p5), .val (.int p6)] [(.int (1 : Int32)), (.ref r), (.ref r)] := by
        intro t ht
        refine k136 t ?_
        show Steps p.tables e below (T136.setTop (mkF m 23 #[.val (.int p0), .val (.int p1), .val (.int p2), .val (.int p3), .val (.int p4), .val (.int p5), .val (.int p6)] [(.ref r)])) t
        refine XS.dup X136.here hx rfl (hb hby dmk_23) rfl rfl ?_
        show Steps p.tables e below (T136.setTop (mkF m 24 #[.val (.int p0), .val (.int p1), .val (.int p2), .val (.int p3), .val (.int p4), .val (.int p5), .val (.int p6)] [(.ref r), (.ref r)])) t
        refine XS.iconst X136.here hx rfl (hb hby dmk_24) ?_
        exact ht
      obtain ⟨T144, h144, ak144, X144, e144, E144, A144, st144⟩ := newP X136 hx hZ (hw _ (List.mem_of_getElem? (i := 55) rfl)) e136 (g := (mkF m 25 #[.val (.int p0), .val (.int p1), .val (.int p2), .val (.int p3), .val (.int p4), .val (.int p5), .val (.int p6)] [(.int (1 : Int32)), (.ref r), (.ref r)])) rfl (hb hby dmk_25) rfl (by decide) (cap := 1) (by decide) (by decide) (by decide) (by decide)
      obtain ⟨ch, q144⟩ : ∃ z, z = h136.size := ⟨_, rfl⟩
      have ne_r_ch : r ≠ ch := by rw [q144]; exact Nat.ne_of_lt f136.lt
      have g_ch : n0 ≤ ch := by rw [q144]; exact f137
      have sz_ch : h0.size ≤ ch := by rw [q144]; exact f140.1
      rw [← q144] at A144 st144
      have f145 : n0 ≤ h144.size := Nat.le_trans f137 E144.1
      have f146 : CHr Z consts_1 s.vm h0 s.vm h144 := f138.trans (CHr.ext E144 f138.1)
      have f147 : Old Z n0 h144 := f139.ext E144
      have f148 : Keep h0 h144 [] := f140.ext E144
      have f149 : Safe Z consts_1 s.vm h144 r := Sf136.ext E144 f138.1
      have f150 : Exa Z h144 r "java/lang/String" := f136.ext E144
      have f151 : Fld Z h144 r "java/lang/String" "value" "[B" .null := f141.ext E144
      have f152 : Fld Z h144 r "java/lang/String" "coder" "B" (.int (0 : Int32)) := f142.ext E144
      have Sf144 : Safe Z consts_1 s.vm h144 ch := Safe.ext E144 f138.1 (Safe.new (by rw [q144]; exact Nat.le_refl _))
      have f144 : Arv Z h144 ch ak144 .char (1 : Int32) [(.int (0 : Int32))] (.int (0 : Int32)) := (Arv.new A144 (by decide)).pad (pad_rep [] (.int (0 : Int32)) 1)
      have k144 : Kt p e below m (s₁.setTop (entryFrame m #[(.int p0), (.int p1), (.int p2), (.int p3), (.int p4), (.int p5), (.int p6)] 7)) T144 27 #[.val (.int p0), .val (.int p1), .val (.int p2), .val (.int p3), .val (.int p4), .val (.int p5), .val (.int p6)] [(.ref ch), (.ref r), (.ref r)] := fun t ht => k143 t (st144 t ht)
      have k153 : Kt p e below m (s₁.setTop (entryFrame m #[(.int p0), (.int p1), (.int p2), (.int p3), (.int p4), (.int p5), (.int p6)] 7)) T144 30 #[.val (.int p0), .val (.int p1), .val (.int p2), .val (.int p3), .val (.int p4), .val (.int p5), .val (.int p6)] [(.int p1), (.int (0 : Int32)), (.ref ch), (.ref ch), (.ref r), (.ref r)] := by
        intro t ht
        refine k144 t ?_
        show Steps p.tables e below (T144.setTop (mkF m 27 #[.val (.int p0), .val (.int p1), .val (.int p2), .val (.int p3), .val (.int p4), .val (.int p5), .val (.int p6)] [(.ref ch), (.ref r), (.ref r)])) t
        refine XS.dup X144.here hx rfl (hb hby dmk_27) rfl rfl ?_
        show Steps p.tables e below (T144.setTop (mkF m 28 #[.val (.int p0), .val (.int p1), .val (.int p2), .val (.int p3), .val (.int p4), .val (.int p5), .val (.int p6)] [(.ref ch), (.ref ch), (.ref r), (.ref r)])) t
        refine XS.iconst X144.here hx rfl (hb hby dmk_28) ?_
        show Steps p.tables e below (T144.setTop (mkF m 29 #[.val (.int p0), .val (.int p1), .val (.int p2), .val (.int p3), .val (.int p4), .val (.int p5), .val (.int p6)] [(.int (0 : Int32)), (.ref ch), (.ref ch), (.ref r), (.ref r)])) t
        refine XS.iloadN X144.here hx rfl (hb hby dmk_29) rfl ?_
        exact ht
      obtain ⟨cl154, Ar154, qc154, Sz154, Nn154, Hh154, Gg154⟩ := id f144
      have hin154 : ¬ ((0 : Int32) < 0 ∨ cl154.slots.size ≤ ((0 : Int32)).toNatClampNeg) := inb_of Sz154 ⟨by decide, by decide⟩
      obtain ⟨T154, h154, X154, e154, W154, st154⟩ := stC X144 hx hZ e144 Ar154 (j := (0 : Int32)) hin154 (g := (mkF m 30 #[.val (.int p0), .val (.int p1), .val (.int p2), .val (.int p3), .val (.int p4), .val (.int p5), .val (.int p6)] [(.int p1), (.int (0 : Int32)), (.ref ch), (.ref ch), (.ref r), (.ref r)])) rfl rfl (hb hby dmk_30)
      have N154 := Fr.snoc X154 N0 g_ch
      have f155 : n0 ≤ h154.size := Nat.le_trans f145 (Keep.of_wr W154).1
      have f156 : CHr Z consts_1 s.vm h0 s.vm h154 := f146.trans (CHr.wr W154 Sf144 f146.1)
      have f157 : Old Z n0 h154 := f147.wr W154 g_ch
      have f158 : Keep h0 h154 [] := f148.wr W154 (Or.inr sz_ch)
      have f159 : Safe Z consts_1 s.vm h154 r := Safe.wr W154 Sf144 f146.1 f149
      have f160 : Exa Z h154 r "java/lang/String" := f150.wr W154
      have f161 : Fld Z h154 r "java/lang/String" "value" "[B" .null := f151.other W154 (Or.inl ne_r_ch)
      have f162 : Fld Z h154 r "java/lang/String" "coder" "B" (.int (0 : Int32)) := f152.other W154 (Or.inl ne_r_ch)
      have f163 : Safe Z consts_1 s.vm h154 ch := Safe.wr W154 Sf144 f146.1 Sf144
      have f164 : Arv Z h154 ch ak144 .char (1 : Int32) [(.int (nar .char p1))] (.int (0 : Int32)) := Arv.set Ar154 qc154 Sz154 Nn154 Hh154 Gg154 (fits_nar_char _) W154 0 rfl (Nat.le_of_ble_eq_true rfl)
      have k154 : Kt p e below m (s₁.setTop (entryFrame m #[(.int p0), (.int p1), (.int p2), (.int p3), (.int p4), (.int p5), (.int p6)] 7)) T154 31 #[.val (.int p0), .val (.int p1), .val (.int p2), .val (.int p3), .val (.int p4), .val (.int p5), .val (.int p6)] [(.ref ch), (.ref r), (.ref r)] := fun t ht => k153 t (st154 t ht)
      rw [own_nar r1] at f164
      have hp : ∀ c ∈ ([p1] : List Int32), ¬ c < 0 ∧ ¬ (255 : Int32) < c := (own_allS r1 own_all0)
      obtain ⟨_, _, ⟨T165, L165, c165, n165⟩, -, X165, ⟨Lc165, hQ165, l165, y165, z165⟩, st165⟩ := X154.specialBack hx (y := (⟨"java/lang/String", "<init>", "([C)V"⟩ : MethodName)) rfl hown (mvT hZ (hw _ (List.mem_of_getElem? (i := 56) rfl))) (mvT hZ (hw _ (List.mem_of_getElem? (i := 57) rfl))) (mvT hZ (hw _ (List.mem_of_getElem? (i := 58) rfl))) (by decide) (StrChars.Road.backV (W := 1) hZ hws (kI := 4) (hw _ (List.mem_of_getElem? (i := 6) rfl)) (cs := ([p1] : List Int32)) (bs := ([p1] : List Int32).map (fun c => c.toInt8.toInt32)) (n := 1) g_r f155 f160 f161 f162 f164 (S1.ext f157.2) P5 rfl rfl (by decide) (by decide) hp rfl (by decide) (by decide)) (g := (mkF m 31 #[.val (.int p0), .val (.int p1), .val (.int p2), .val (.int p3), .val (.int p4), .val (.int p5), .val (.int p6)] [(.ref ch), (.ref r), (.ref r)])) rfl (by rw [hml]; rfl) (Steps.refl _) (a := r) (argsL := [(.ref ch)]) (rest := [(.ref r)]) (lenOf pd_17 rfl) rfl (by show 2 * 0 + _ ≤ _; exact Nat.le_of_eq rfl) (hb hby dmk_31) (fun _ _ => ⟨rfl, e154, (by decide : 2 + 1 ≤ _), (by decide : 5 + 1 ≤ _)⟩)
      dsimp only [Pt.U, Pt.locs, Pt.cells, Pt.slots] at X165 l165 y165 z165 st165 hQ165
      subst l165 y165 z165
      obtain ⟨rfl, Nq165, Kp165, Ev165, Fc165, t165, kb165, -, -, -, Fv165, Va165⟩ := hQ165
      have N165 := Fr.app N154 Nq165
      have k165 : Kt p e below m (s₁.setTop (entryFrame m #[(.int p0), (.int p1), (.int p2), (.int p3), (.int p4), (.int p5), (.int p6)] 7)) T165 34 #[.val (.int p0), .val (.int p1), .val (.int p2), .val (.int p3), .val (.int p4), .val (.int p5), .val (.int p6)] [(.ref r)] := fun t ht => k154 t (st165.trans ht)
      have f166 : n0 ≤ T165.heap.size := Nat.le_trans f155 Kp165.1
      have f167 : CHr Z consts_1 s.vm h0 s.vm T165.heap := f156.trans (CHr.keep Kp165 (sfS f159 sf0) f156.1)
      have f168 : Old Z n0 T165.heap := f157.keep Kp165 (allS g_r all0)
      have f169 : Keep h0 T165.heap [] := f158.trans Kp165 (allS (Or.inr sz_r) all0)
      have f170 : Safe Z consts_1 s.vm T165.heap r := Safe.keep Kp165 (sfS f159 sf0) f156.1 f159
      have f171 : Exa Z T165.heap r "java/lang/String" := f160.keep Kp165
      have f174 : Safe Z consts_1 s.vm T165.heap ch := Safe.keep Kp165 (sfS f159 sf0) f156.1 f163
      have f175 : Arv Z T165.heap ch ak144 .char (1 : Int32) [(.int p1)] (.int (0 : Int32)) := f164.keep Kp165 (ninS ne_r_ch.symm nin0)
      obtain ⟨fs, hr, hrun, hended, -, hW, hbk, hsame⟩ := Stand.leaveW (s := s) (vm₁ := s.vm) X165 ((State.WarmedH.refl s).since 0) (Nat.zero_le _) (v := some (.ref r)) (fun h => by rw [Bd.returns] at h; cases h)
      refine ⟨_, _, k165 _ ?_, hrun, hended, _, _, rfl, ?_, ?_, ⟨_, rfl⟩, hW, hbk, hsame.mono (by decide) (by decide)⟩
      · show Steps p.tables e below (T165.setTop (mkF m 34 #[.val (.int p0), .val (.int p1), .val (.int p2), .val (.int p3), .val (.int p4), .val (.int p5), .val (.int p6)] [(.ref r)])) _
        jvm_step X165.here [X165.here.top, hx, (hb hby dmk_34), X165.method', Bd.returns, Value.isRef, FieldType.isReference]
        first | (intro acts; rw [hr _ acts rfl rfl rfl]) | rw [hr _ _ rfl rfl rfl]
        exact Steps.refl _
      · show Qmk Z p0 p1 p2 p3 p4 p5 p6 G1 h0 n0 _ T165.heap _
        exact ⟨r, t165, kb165, ([p1] : List Int32), rfl, N165, f169, Ev165, Fc165, Fv165, Va165, hp, by show 1 ≤ 4000; decide⟩
      · show CHr Z consts_1 s.vm s.heap T165.vm T165.heap
        rw [hh]
        exact f167.trans (CHv.at (s := s) (vm0 := s.vm) X165 hZ hEL f167.1)
    · have k176 : Kt p e below m (s₁.setTop (entryFrame m #[(.int p0), (.int p1), (.int p2), (.int p3), (.int p4), (.int p5), (.int p6)] 7)) s₁ 37 #[.val (.int p0), .val (.int p1), .val (.int p2), .val (.int p3), .val (.int p4), .val (.int p5), .val (.int p6)] [(.int (2 : Int32)), (.int p0)] := by
        intro t ht
        refine k134 t ?_
        show Steps p.tables e below (s₁.setTop (mkF m 17 #[.val (.int p0), .val (.int p1), .val (.int p2), .val (.int p3), .val (.int p4), .val (.int p5), .val (.int p6)] [(.int (1 : Int32)), (.int p0)])) t
        refine XS.icmpYes X0.here hx rfl (pc0 := 17) (pc' := 35) rfl (hb hby dmk_17) rfl (feq h1).2 (by decide) (by decide) ?_
        show Steps p.tables e below (s₁.setTop (mkF m 35 #[.val (.int p0), .val (.int p1), .val (.int p2), .val (.int p3), .val (.int p4), .val (.int p5), .val (.int p6)] [])) t
        refine XS.iloadN X0.here hx rfl (hb hby dmk_35) rfl ?_
        show Steps p.tables e below (s₁.setTop (mkF m 36 #[.val (.int p0), .val (.int p1), .val (.int p2), .val (.int p3), .val (.int p4), .val (.int p5), .val (.int p6)] [(.int p0)])) t
        refine XS.iconst X0.here hx rfl (hb hby dmk_36) ?_
        exact ht
      by_cases h2 : p0 = (2 : Int32)
      · have k177 : Kt p e below m (s₁.setTop (entryFrame m #[(.int p0), (.int p1), (.int p2), (.int p3), (.int p4), (.int p5), (.int p6)] 7)) s₁ 40 #[.val (.int p0), .val (.int p1), .val (.int p2), .val (.int p3), .val (.int p4), .val (.int p5), .val (.int p6)] [] := by
          intro t ht
          refine k176 t ?_
          show Steps p.tables e below (s₁.setTop (mkF m 37 #[.val (.int p0), .val (.int p1), .val (.int p2), .val (.int p3), .val (.int p4), .val (.int p5), .val (.int p6)] [(.int (2 : Int32)), (.int p0)])) t
          refine XS.icmpNo X0.here hx rfl (hb hby dmk_37) rfl (teq h2).2 ?_
          exact ht
        obtain ⟨T178, h178, X178, e178, E178, A178, D178, -, st178⟩ := newO X0 hx hZ hown (hw _ (List.mem_of_getElem? (i := 54) rfl)) (hw _ (List.mem_of_getElem? (i := 6) rfl)) (hw _ (List.mem_of_getElem? (i := 5) rfl)) e0 (g := (mkF m 40 #[.val (.int p0), .val (.int p1), .val (.int p2), .val (.int p3), .val (.int p4), .val (.int p5), .val (.int p6)] [])) rfl (hb hby dmk_40) (by decide) (by decide)
        obtain ⟨r, q178⟩ : ∃ z, z = h0.size := ⟨_, rfl⟩
        have g_r : n0 ≤ r := by rw [q178]; exact Z0
        have sz_r : h0.size ≤ r := by rw [q178]; exact K0.1
        rw [← q178] at A178 D178 st178
        have f179 : n0 ≤ h178.size := Nat.le_trans Z0 E178.1
        have f180 : CHr Z consts_1 s.vm h0 s.vm h178 := R0.trans (CHr.ext E178 R0.1)
        have f181 : Old Z n0 h178 := O.ext E178
        have f182 : Keep h0 h178 [] := K0.ext E178
        have Sf178 : Safe Z consts_1 s.vm h178 r := Safe.ext E178 R0.1 (Safe.new (by rw [q178]; exact Nat.le_refl _))
        have f178 : Exa Z h178 r "java/lang/String" := A178
        have f183 : Fld Z h178 r "java/lang/String" "value" "[B" .null := D178 (Or.inr (hw _ (List.mem_of_getElem? (i := 8) rfl))) (ty := (.array .byte)) (by decide)
        have f184 : Fld Z h178 r "java/lang/String" "coder" "B" (.int (0 : Int32)) := D178 (Or.inr (hw _ (List.mem_of_getElem? (i := 9) rfl))) (ty := .byte) (by decide)
        have k178 : Kt p e below m (s₁.setTop (entryFrame m #[(.int p0), (.int p1), (.int p2), (.int p3), (.int p4), (.int p5), (.int p6)] 7)) T178 43 #[.val (.int p0), .val (.int p1), .val (.int p2), .val (.int p3), .val (.int p4), .val (.int p5), .val (.int p6)] [(.ref r)] := fun t ht => k177 t (st178 t ht)
        have k185 : Kt p e below m (s₁.setTop (entryFrame m #[(.int p0), (.int p1), (.int p2), (.int p3), (.int p4), (.int p5), (.int p6)] 7)) T178 45 #[.val (.int p0), .val (.int p1), .val (.int p2), .val (.int p3), .val (.int p4), .val (.int p5), .val (.int p6)] [(.int (2 : Int32)), (.ref r), (.ref r)] := by
          intro t ht
          refine k178 t ?_
          show Steps p.tables e below (T178.setTop (mkF m 43 #[.val (.int p0), .val (.int p1), .val (.int p2), .val (.int p3), .val (.int p4), .val (.int p5), .val (.int p6)] [(.ref r)])) t
          refine XS.dup X178.here hx rfl (hb hby dmk_43) rfl rfl ?_
          show Steps p.tables e below (T178.setTop (mkF m 44 #[.val (.int p0), .val (.int p1), .val (.int p2), .val (.int p3), .val (.int p4), .val (.int p5), .val (.int p6)] [(.ref r), (.ref r)])) t
          refine XS.iconst X178.here hx rfl (hb hby dmk_44) ?_
          exact ht
        obtain ⟨T186, h186, ak186, X186, e186, E186, A186, st186⟩ := newP X178 hx hZ (hw _ (List.mem_of_getElem? (i := 55) rfl)) e178 (g := (mkF m 45 #[.val (.int p0), .val (.int p1), .val (.int p2), .val (.int p3), .val (.int p4), .val (.int p5), .val (.int p6)] [(.int (2 : Int32)), (.ref r), (.ref r)])) rfl (hb hby dmk_45) rfl (by decide) (cap := 2) (by decide) (by decide) (by decide) (by decide)
        obtain ⟨ch, q186⟩ : ∃ z, z = h178.size := ⟨_, rfl⟩
        have ne_r_ch : r ≠ ch := by rw [q186]; exact Nat.ne_of_lt f178.lt
        have g_ch : n0 ≤ ch := by rw [q186]; exact f179
        have sz_ch : h0.size ≤ ch := by rw [q186]; exact f182.1
        rw [← q186] at A186 st186
        have f187 : n0 ≤ h186.size := Nat.le_trans f179 E186.1
        have f188 : CHr Z consts_1 s.vm h0 s.vm h186 := f180.trans (CHr.ext E186 f180.1)
        have f189 : Old Z n0 h186 := f181.ext E186
        have f190 : Keep h0 h186 [] := f182.ext E186
        have f191 : Safe Z consts_1 s.vm h186 r := Sf178.ext E186 f180.1
        have f192 : Exa Z h186 r "java/lang/String" := f178.ext E186
        have f193 : Fld Z h186 r "java/lang/String" "value" "[B" .null := f183.ext E186
        have f194 : Fld Z h186 r "java/lang/String" "coder" "B" (.int (0 : Int32)) := f184.ext E186
        have Sf186 : Safe Z consts_1 s.vm h186 ch := Safe.ext E186 f180.1 (Safe.new (by rw [q186]; exact Nat.le_refl _))
        have f186 : Arv Z h186 ch ak186 .char (2 : Int32) [(.int (0 : Int32)), (.int (0 : Int32))] (.int (0 : Int32)) := (Arv.new A186 (by decide)).pad (pad_rep [] (.int (0 : Int32)) 2)
        have k186 : Kt p e below m (s₁.setTop (entryFrame m #[(.int p0), (.int p1), (.int p2), (.int p3), (.int p4), (.int p5), (.int p6)] 7)) T186 47 #[.val (.int p0), .val (.int p1), .val (.int p2), .val (.int p3), .val (.int p4), .val (.int p5), .val (.int p6)] [(.ref ch), (.ref r), (.ref r)] := fun t ht => k185 t (st186 t ht)
        have k195 : Kt p e below m (s₁.setTop (entryFrame m #[(.int p0), (.int p1), (.int p2), (.int p3), (.int p4), (.int p5), (.int p6)] 7)) T186 50 #[.val (.int p0), .val (.int p1), .val (.int p2), .val (.int p3), .val (.int p4), .val (.int p5), .val (.int p6)] [(.int p1), (.int (0 : Int32)), (.ref ch), (.ref ch), (.ref r), (.ref r)] := by
          intro t ht
          refine k186 t ?_
          show Steps p.tables e below (T186.setTop (mkF m 47 #[.val (.int p0), .val (.int p1), .val (.int p2), .val (.int p3), .val (.int p4), .val (.int p5), .val (.int p6)] [(.ref ch), (.ref r), (.ref r)])) t
          refine XS.dup X186.here hx rfl (hb hby dmk_47) rfl rfl ?_
          show Steps p.tables e below (T186.setTop (mkF m 48 #[.val (.int p0), .val (.int p1), .val (.int p2), .val (.int p3), .val (.int p4), .val (.int p5), .val (.int p6)] [(.ref ch), (.ref ch), (.ref r), (.ref r)])) t
          refine XS.iconst X186.here hx rfl (hb hby dmk_48) ?_
          show Steps p.tables e below (T186.setTop (mkF m 49 #[.val (.int p0), .val (.int p1), .val (.int p2), .val (.int p3), .val (.int p4), .val (.int p5), .val (.int p6)] [(.int (0 : Int32)), (.ref ch), (.ref ch), (.ref r), (.ref r)])) t
          refine XS.iloadN X186.here hx rfl (hb hby dmk_49) rfl ?_
          exact ht
        obtain ⟨cl196, Ar196, qc196, Sz196, Nn196, Hh196, Gg196⟩ := id f186
        have hin196 : ¬ ((0 : Int32) < 0 ∨ cl196.slots.size ≤ ((0 : Int32)).toNatClampNeg) := inb_of Sz196 ⟨by decide, by decide⟩
        obtain ⟨T196, h196, X196, e196, W196, st196⟩ := stC X186 hx hZ e186 Ar196 (j := (0 : Int32)) hin196 (g := (mkF m 50 #[.val (.int p0), .val (.int p1), .val (.int p2), .val (.int p3), .val (.int p4), .val (.int p5), .val (.int p6)] [(.int p1), (.int (0 : Int32)), (.ref ch), (.ref ch), (.ref r), (.ref r)])) rfl rfl (hb hby dmk_50)
        have N196 := Fr.snoc X196 N0 g_ch
        have f197 : n0 ≤ h196.size := Nat.le_trans f187 (Keep.of_wr W196).1
        have f198 : CHr Z consts_1 s.vm h0 s.vm h196 := f188.trans (CHr.wr W196 Sf186 f188.1)
        have f199 : Old Z n0 h196 := f189.wr W196 g_ch
        have f200 : Keep h0 h196 [] := f190.wr W196 (Or.inr sz_ch)
        have f201 : Safe Z consts_1 s.vm h196 r := Safe.wr W196 Sf186 f188.1 f191
        have f202 : Exa Z h196 r "java/lang/String" := f192.wr W196
        have f203 : Fld Z h196 r "java/lang/String" "value" "[B" .null := f193.other W196 (Or.inl ne_r_ch)
        have f204 : Fld Z h196 r "java/lang/String" "coder" "B" (.int (0 : Int32)) := f194.other W196 (Or.inl ne_r_ch)
        have f205 : Safe Z consts_1 s.vm h196 ch := Safe.wr W196 Sf186 f188.1 Sf186
        have f206 : Arv Z h196 ch ak186 .char (2 : Int32) [(.int (nar .char p1)), (.int (0 : Int32))] (.int (0 : Int32)) := Arv.set Ar196 qc196 Sz196 Nn196 Hh196 Gg196 (fits_nar_char _) W196 0 rfl (Nat.le_of_ble_eq_true rfl)
        have k196 : Kt p e below m (s₁.setTop (entryFrame m #[(.int p0), (.int p1), (.int p2), (.int p3), (.int p4), (.int p5), (.int p6)] 7)) T196 51 #[.val (.int p0), .val (.int p1), .val (.int p2), .val (.int p3), .val (.int p4), .val (.int p5), .val (.int p6)] [(.ref ch), (.ref r), (.ref r)] := fun t ht => k195 t (st196 t ht)
        have k207 : Kt p e below m (s₁.setTop (entryFrame m #[(.int p0), (.int p1), (.int p2), (.int p3), (.int p4), (.int p5), (.int p6)] 7)) T196 54 #[.val (.int p0), .val (.int p1), .val (.int p2), .val (.int p3), .val (.int p4), .val (.int p5), .val (.int p6)] [(.int p2), (.int (1 : Int32)), (.ref ch), (.ref ch), (.ref r), (.ref r)] := by
          intro t ht
          refine k196 t ?_
          show Steps p.tables e below (T196.setTop (mkF m 51 #[.val (.int p0), .val (.int p1), .val (.int p2), .val (.int p3), .val (.int p4), .val (.int p5), .val (.int p6)] [(.ref ch), (.ref r), (.ref r)])) t
          refine XS.dup X196.here hx rfl (hb hby dmk_51) rfl rfl ?_
          show Steps p.tables e below (T196.setTop (mkF m 52 #[.val (.int p0), .val (.int p1), .val (.int p2), .val (.int p3), .val (.int p4), .val (.int p5), .val (.int p6)] [(.ref ch), (.ref ch), (.ref r), (.ref r)])) t
          refine XS.iconst X196.here hx rfl (hb hby dmk_52) ?_
          show Steps p.tables e below (T196.setTop (mkF m 53 #[.val (.int p0), .val (.int p1), .val (.int p2), .val (.int p3), .val (.int p4), .val (.int p5), .val (.int p6)] [(.int (1 : Int32)), (.ref ch), (.ref ch), (.ref r), (.ref r)])) t
          refine XS.iloadN X196.here hx rfl (hb hby dmk_53) rfl ?_
          exact ht
        obtain ⟨cl208, Ar208, qc208, Sz208, Nn208, Hh208, Gg208⟩ := id f206
        have hin208 : ¬ ((1 : Int32) < 0 ∨ cl208.slots.size ≤ ((1 : Int32)).toNatClampNeg) := inb_of Sz208 ⟨by decide, by decide⟩
        obtain ⟨T208, h208, X208, e208, W208, st208⟩ := stC X196 hx hZ e196 Ar208 (j := (1 : Int32)) hin208 (g := (mkF m 54 #[.val (.int p0), .val (.int p1), .val (.int p2), .val (.int p3), .val (.int p4), .val (.int p5), .val (.int p6)] [(.int p2), (.int (1 : Int32)), (.ref ch), (.ref ch), (.ref r), (.ref r)])) rfl rfl (hb hby dmk_54)
        have N208 := Fr.snoc X208 N196 g_ch
        have f209 : n0 ≤ h208.size := Nat.le_trans f197 (Keep.of_wr W208).1
        have f210 : CHr Z consts_1 s.vm h0 s.vm h208 := f198.trans (CHr.wr W208 f205 f198.1)
        have f211 : Old Z n0 h208 := f199.wr W208 g_ch
        have f212 : Keep h0 h208 [] := f200.wr W208 (Or.inr sz_ch)
        have f213 : Safe Z consts_1 s.vm h208 r := Safe.wr W208 f205 f198.1 f201
        have f214 : Exa Z h208 r "java/lang/String" := f202.wr W208
        have f215 : Fld Z h208 r "java/lang/String" "value" "[B" .null := f203.other W208 (Or.inl ne_r_ch)
        have f216 : Fld Z h208 r "java/lang/String" "coder" "B" (.int (0 : Int32)) := f204.other W208 (Or.inl ne_r_ch)
        have f217 : Safe Z consts_1 s.vm h208 ch := Safe.wr W208 f205 f198.1 f205
        have f218 : Arv Z h208 ch ak186 .char (2 : Int32) [(.int (nar .char p1)), (.int (nar .char p2))] (.int (0 : Int32)) := Arv.set Ar208 qc208 Sz208 Nn208 Hh208 Gg208 (fits_nar_char _) W208 1 rfl (Nat.le_of_ble_eq_true rfl)
        have k208 : Kt p e below m (s₁.setTop (entryFrame m #[(.int p0), (.int p1), (.int p2), (.int p3), (.int p4), (.int p5), (.int p6)] 7)) T208 55 #[.val (.int p0), .val (.int p1), .val (.int p2), .val (.int p3), .val (.int p4), .val (.int p5), .val (.int p6)] [(.ref ch), (.ref r), (.ref r)] := fun t ht => k207 t (st208 t ht)
        rw [own_nar r1] at f218
        rw [own_nar r2] at f218
        have hp : ∀ c ∈ ([p1, p2] : List Int32), ¬ c < 0 ∧ ¬ (255 : Int32) < c := (own_allS r1 (own_allS r2 own_all0))
        obtain ⟨_, _, ⟨T219, L219, c219, n219⟩, -, X219, ⟨Lc219, hQ219, l219, y219, z219⟩, st219⟩ := X208.specialBack hx (y := (⟨"java/lang/String", "<init>", "([C)V"⟩ : MethodName)) rfl hown (mvT hZ (hw _ (List.mem_of_getElem? (i := 56) rfl))) (mvT hZ (hw _ (List.mem_of_getElem? (i := 57) rfl))) (mvT hZ (hw _ (List.mem_of_getElem? (i := 58) rfl))) (by decide) (StrChars.Road.backV (W := 1) hZ hws (kI := 4) (hw _ (List.mem_of_getElem? (i := 6) rfl)) (cs := ([p1, p2] : List Int32)) (bs := ([p1, p2] : List Int32).map (fun c => c.toInt8.toInt32)) (n := 2) g_r f209 f214 f215 f216 f218 (S1.ext f211.2) P5 rfl rfl (by decide) (by decide) hp rfl (by decide) (by decide)) (g := (mkF m 55 #[.val (.int p0), .val (.int p1), .val (.int p2), .val (.int p3), .val (.int p4), .val (.int p5), .val (.int p6)] [(.ref ch), (.ref r), (.ref r)])) rfl (by rw [hml]; rfl) (Steps.refl _) (a := r) (argsL := [(.ref ch)]) (rest := [(.ref r)]) (lenOf pd_17 rfl) rfl (by show 2 * 0 + _ ≤ _; exact Nat.le_of_eq rfl) (hb hby dmk_55) (fun _ _ => ⟨rfl, e208, (by decide : 2 + 1 ≤ _), (by decide : 6 + 2 ≤ _)⟩)
        dsimp only [Pt.U, Pt.locs, Pt.cells, Pt.slots] at X219 l219 y219 z219 st219 hQ219
        subst l219 y219 z219
        obtain ⟨rfl, Nq219, Kp219, Ev219, Fc219, t219, kb219, -, -, -, Fv219, Va219⟩ := hQ219
        have N219 := Fr.app N208 Nq219
        have k219 : Kt p e below m (s₁.setTop (entryFrame m #[(.int p0), (.int p1), (.int p2), (.int p3), (.int p4), (.int p5), (.int p6)] 7)) T219 58 #[.val (.int p0), .val (.int p1), .val (.int p2), .val (.int p3), .val (.int p4), .val (.int p5), .val (.int p6)] [(.ref r)] := fun t ht => k208 t (st219.trans ht)
        have f220 : n0 ≤ T219.heap.size := Nat.le_trans f209 Kp219.1
        have f221 : CHr Z consts_1 s.vm h0 s.vm T219.heap := f210.trans (CHr.keep Kp219 (sfS f213 sf0) f210.1)
        have f222 : Old Z n0 T219.heap := f211.keep Kp219 (allS g_r all0)
        have f223 : Keep h0 T219.heap [] := f212.trans Kp219 (allS (Or.inr sz_r) all0)
        have f224 : Safe Z consts_1 s.vm T219.heap r := Safe.keep Kp219 (sfS f213 sf0) f210.1 f213
        have f225 : Exa Z T219.heap r "java/lang/String" := f214.keep Kp219
        have f228 : Safe Z consts_1 s.vm T219.heap ch := Safe.keep Kp219 (sfS f213 sf0) f210.1 f217
        have f229 : Arv Z T219.heap ch ak186 .char (2 : Int32) [(.int p1), (.int p2)] (.int (0 : Int32)) := f218.keep Kp219 (ninS ne_r_ch.symm nin0)
        obtain ⟨fs, hr, hrun, hended, -, hW, hbk, hsame⟩ := Stand.leaveW (s := s) (vm₁ := s.vm) X219 ((State.WarmedH.refl s).since 0) (Nat.zero_le _) (v := some (.ref r)) (fun h => by rw [Bd.returns] at h; cases h)
        refine ⟨_, _, k219 _ ?_, hrun, hended, _, _, rfl, ?_, ?_, ⟨_, rfl⟩, hW, hbk, hsame.mono (by decide) (by decide)⟩
        · show Steps p.tables e below (T219.setTop (mkF m 58 #[.val (.int p0), .val (.int p1), .val (.int p2), .val (.int p3), .val (.int p4), .val (.int p5), .val (.int p6)] [(.ref r)])) _
          jvm_step X219.here [X219.here.top, hx, (hb hby dmk_58), X219.method', Bd.returns, Value.isRef, FieldType.isReference]
          first | (intro acts; rw [hr _ acts rfl rfl rfl]) | rw [hr _ _ rfl rfl rfl]
          exact Steps.refl _
        · show Qmk Z p0 p1 p2 p3 p4 p5 p6 G1 h0 n0 _ T219.heap _
          exact ⟨r, t219, kb219, ([p1, p2] : List Int32), rfl, N219, f223, Ev219, Fc219, Fv219, Va219, hp, by show 2 ≤ 4000; decide⟩
        · show CHr Z consts_1 s.vm s.heap T219.vm T219.heap
          rw [hh]
          exact f221.trans (CHv.at (s := s) (vm0 := s.vm) X219 hZ hEL f221.1)
      · have k230 : Kt p e below m (s₁.setTop (entryFrame m #[(.int p0), (.int p1), (.int p2), (.int p3), (.int p4), (.int p5), (.int p6)] 7)) s₁ 61 #[.val (.int p0), .val (.int p1), .val (.int p2), .val (.int p3), .val (.int p4), .val (.int p5), .val (.int p6)] [(.int (3 : Int32)), (.int p0)] := by
          intro t ht
          refine k176 t ?_
          show Steps p.tables e below (s₁.setTop (mkF m 37 #[.val (.int p0), .val (.int p1), .val (.int p2), .val (.int p3), .val (.int p4), .val (.int p5), .val (.int p6)] [(.int (2 : Int32)), (.int p0)])) t
          refine XS.icmpYes X0.here hx rfl (pc0 := 37) (pc' := 59) rfl (hb hby dmk_37) rfl (feq h2).2 (by decide) (by decide) ?_
          show Steps p.tables e below (s₁.setTop (mkF m 59 #[.val (.int p0), .val (.int p1), .val (.int p2), .val (.int p3), .val (.int p4), .val (.int p5), .val (.int p6)] [])) t
          refine XS.iloadN X0.here hx rfl (hb hby dmk_59) rfl ?_
          show Steps p.tables e below (s₁.setTop (mkF m 60 #[.val (.int p0), .val (.int p1), .val (.int p2), .val (.int p3), .val (.int p4), .val (.int p5), .val (.int p6)] [(.int p0)])) t
          refine XS.iconst X0.here hx rfl (hb hby dmk_60) ?_
          exact ht
        by_cases h3 : p0 = (3 : Int32)
        · have k231 : Kt p e below m (s₁.setTop (entryFrame m #[(.int p0), (.int p1), (.int p2), (.int p3), (.int p4), (.int p5), (.int p6)] 7)) s₁ 64 #[.val (.int p0), .val (.int p1), .val (.int p2), .val (.int p3), .val (.int p4), .val (.int p5), .val (.int p6)] [] := by
            intro t ht
            refine k230 t ?_
            show Steps p.tables e below (s₁.setTop (mkF m 61 #[.val (.int p0), .val (.int p1), .val (.int p2), .val (.int p3), .val (.int p4), .val (.int p5), .val (.int p6)] [(.int (3 : Int32)), (.int p0)])) t
            refine XS.icmpNo X0.here hx rfl (hb hby dmk_61) rfl (teq h3).2 ?_
            exact ht
          obtain ⟨T232, h232, X232, e232, E232, A232, D232, -, st232⟩ := newO X0 hx hZ hown (hw _ (List.mem_of_getElem? (i := 54) rfl)) (hw _ (List.mem_of_getElem? (i := 6) rfl)) (hw _ (List.mem_of_getElem? (i := 5) rfl)) e0 (g := (mkF m 64 #[.val (.int p0), .val (.int p1), .val (.int p2), .val (.int p3), .val (.int p4), .val (.int p5), .val (.int p6)] [])) rfl (hb hby dmk_64) (by decide) (by decide)
          obtain ⟨r, q232⟩ : ∃ z, z = h0.size := ⟨_, rfl⟩
          have g_r : n0 ≤ r := by rw [q232]; exact Z0
          have sz_r : h0.size ≤ r := by rw [q232]; exact K0.1
          rw [← q232] at A232 D232 st232
          have f233 : n0 ≤ h232.size := Nat.le_trans Z0 E232.1
          have f234 : CHr Z consts_1 s.vm h0 s.vm h232 := R0.trans (CHr.ext E232 R0.1)
          have f235 : Old Z n0 h232 := O.ext E232
          have f236 : Keep h0 h232 [] := K0.ext E232
          have Sf232 : Safe Z consts_1 s.vm h232 r := Safe.ext E232 R0.1 (Safe.new (by rw [q232]; exact Nat.le_refl _))
          have f232 : Exa Z h232 r "java/lang/String" := A232
          have f237 : Fld Z h232 r "java/lang/String" "value" "[B" .null := D232 (Or.inr (hw _ (List.mem_of_getElem? (i := 8) rfl))) (ty := (.array .byte)) (by decide)
          have f238 : Fld Z h232 r "java/lang/String" "coder" "B" (.int (0 : Int32)) := D232 (Or.inr (hw _ (List.mem_of_getElem? (i := 9) rfl))) (ty := .byte) (by decide)
          have k232 : Kt p e below m (s₁.setTop (entryFrame m #[(.int p0), (.int p1), (.int p2), (.int p3), (.int p4), (.int p5), (.int p6)] 7)) T232 67 #[.val (.int p0), .val (.int p1), .val (.int p2), .val (.int p3), .val (.int p4), .val (.int p5), .val (.int p6)] [(.ref r)] := fun t ht => k231 t (st232 t ht)
          have k239 : Kt p e below m (s₁.setTop (entryFrame m #[(.int p0), (.int p1), (.int p2), (.int p3), (.int p4), (.int p5), (.int p6)] 7)) T232 69 #[.val (.int p0), .val (.int p1), .val (.int p2), .val (.int p3), .val (.int p4), .val (.int p5), .val (.int p6)] [(.int (3 : Int32)), (.ref r), (.ref r)] := by
            intro t ht
            refine k232 t ?_
            show Steps p.tables e below (T232.setTop (mkF m 67 #[.val (.int p0), .val (.int p1), .val (.int p2), .val (.int p3), .val (.int p4), .val (.int p5), .val (.int p6)] [(.ref r)])) t
            refine XS.dup X232.here hx rfl (hb hby dmk_67) rfl rfl ?_
            show Steps p.tables e below (T232.setTop (mkF m 68 #[.val (.int p0), .val (.int p1), .val (.int p2), .val (.int p3), .val (.int p4), .val (.int p5), .val (.int p6)] [(.ref r), (.ref r)])) t
            refine XS.iconst X232.here hx rfl (hb hby dmk_68) ?_
            exact ht
          obtain ⟨T240, h240, ak240, X240, e240, E240, A240, st240⟩ := newP X232 hx hZ (hw _ (List.mem_of_getElem? (i := 55) rfl)) e232 (g := (mkF m 69 #[.val (.int p0), .val (.int p1), .val (.int p2), .val (.int p3), .val (.int p4), .val (.int p5), .val (.int p6)] [(.int (3 : Int32)), (.ref r), (.ref r)])) rfl (hb hby dmk_69) rfl (by decide) (cap := 3) (by decide) (by decide) (by decide) (by decide)
          obtain ⟨ch, q240⟩ : ∃ z, z = h232.size := ⟨_, rfl⟩
          have ne_r_ch : r ≠ ch := by rw [q240]; exact Nat.ne_of_lt f232.lt
          have g_ch : n0 ≤ ch := by rw [q240]; exact f233
          have sz_ch : h0.size ≤ ch := by rw [q240]; exact f236.1
          rw [← q240] at A240 st240
          have f241 : n0 ≤ h240.size := Nat.le_trans f233 E240.1
          have f242 : CHr Z consts_1 s.vm h0 s.vm h240 := f234.trans (CHr.ext E240 f234.1)
          have f243 : Old Z n0 h240 := f235.ext E240
          have f244 : Keep h0 h240 [] := f236.ext E240
          have f245 : Safe Z consts_1 s.vm h240 r := Sf232.ext E240 f234.1
          have f246 : Exa Z h240 r "java/lang/String" := f232.ext E240
          have f247 : Fld Z h240 r "java/lang/String" "value" "[B" .null := f237.ext E240
          have f248 : Fld Z h240 r "java/lang/String" "coder" "B" (.int (0 : Int32)) := f238.ext E240
          have Sf240 : Safe Z consts_1 s.vm h240 ch := Safe.ext E240 f234.1 (Safe.new (by rw [q240]; exact Nat.le_refl _))
          have f240 : Arv Z h240 ch ak240 .char (3 : Int32) [(.int (0 : Int32)), (.int (0 : Int32)), (.int (0 : Int32))] (.int (0 : Int32)) := (Arv.new A240 (by decide)).pad (pad_rep [] (.int (0 : Int32)) 3)
          have k240 : Kt p e below m (s₁.setTop (entryFrame m #[(.int p0), (.int p1), (.int p2), (.int p3), (.int p4), (.int p5), (.int p6)] 7)) T240 71 #[.val (.int p0), .val (.int p1), .val (.int p2), .val (.int p3), .val (.int p4), .val (.int p5), .val (.int p6)] [(.ref ch), (.ref r), (.ref r)] := fun t ht => k239 t (st240 t ht)
          have k249 : Kt p e below m (s₁.setTop (entryFrame m #[(.int p0), (.int p1), (.int p2), (.int p3), (.int p4), (.int p5), (.int p6)] 7)) T240 74 #[.val (.int p0), .val (.int p1), .val (.int p2), .val (.int p3), .val (.int p4), .val (.int p5), .val (.int p6)] [(.int p1), (.int (0 : Int32)), (.ref ch), (.ref ch), (.ref r), (.ref r)] := by
            intro t ht
            refine k240 t ?_
            show Steps p.tables e below (T240.setTop (mkF m 71 #[.val (.int p0), .val (.int p1), .val (.int p2), .val (.int p3), .val (.int p4), .val (.int p5), .val (.int p6)] [(.ref ch), (.ref r), (.ref r)])) t
            refine XS.dup X240.here hx rfl (hb hby dmk_71) rfl rfl ?_
            show Steps p.tables e below (T240.setTop (mkF m 72 #[.val (.int p0), .val (.int p1), .val (.int p2), .val (.int p3), .val (.int p4), .val (.int p5), .val (.int p6)] [(.ref ch), (.ref ch), (.ref r), (.ref r)])) t
            refine XS.iconst X240.here hx rfl (hb hby dmk_72) ?_
            show Steps p.tables e below (T240.setTop (mkF m 73 #[.val (.int p0), .val (.int p1), .val (.int p2), .val (.int p3), .val (.int p4), .val (.int p5), .val (.int p6)] [(.int (0 : Int32)), (.ref ch), (.ref ch), (.ref r), (.ref r)])) t
            refine XS.iloadN X240.here hx rfl (hb hby dmk_73) rfl ?_
            exact ht
          obtain ⟨cl250, Ar250, qc250, Sz250, Nn250, Hh250, Gg250⟩ := id f240
          have hin250 : ¬ ((0 : Int32) < 0 ∨ cl250.slots.size ≤ ((0 : Int32)).toNatClampNeg) := inb_of Sz250 ⟨by decide, by decide⟩
          obtain ⟨T250, h250, X250, e250, W250, st250⟩ := stC X240 hx hZ e240 Ar250 (j := (0 : Int32)) hin250 (g := (mkF m 74 #[.val (.int p0), .val (.int p1), .val (.int p2), .val (.int p3), .val (.int p4), .val (.int p5), .val (.int p6)] [(.int p1), (.int (0 : Int32)), (.ref ch), (.ref ch), (.ref r), (.ref r)])) rfl rfl (hb hby dmk_74)
          have N250 := Fr.snoc X250 N0 g_ch
          have f251 : n0 ≤ h250.size := Nat.le_trans f241 (Keep.of_wr W250).1
          have f252 : CHr Z consts_1 s.vm h0 s.vm h250 := f242.trans (CHr.wr W250 Sf240 f242.1)
          have f253 : Old Z n0 h250 := f243.wr W250 g_ch
          have f254 : Keep h0 h250 [] := f244.wr W250 (Or.inr sz_ch)
          have f255 : Safe Z consts_1 s.vm h250 r := Safe.wr W250 Sf240 f242.1 f245
          have f256 : Exa Z h250 r "java/lang/String" := f246.wr W250
          have f257 : Fld Z h250 r "java/lang/String" "value" "[B" .null := f247.other W250 (Or.inl ne_r_ch)
          have f258 : Fld Z h250 r "java/lang/String" "coder" "B" (.int (0 : Int32)) := f248.other W250 (Or.inl ne_r_ch)
          have f259 : Safe Z consts_1 s.vm h250 ch := Safe.wr W250 Sf240 f242.1 Sf240
          have f260 : Arv Z h250 ch ak240 .char (3 : Int32) [(.int (nar .char p1)), (.int (0 : Int32)), (.int (0 : Int32))] (.int (0 : Int32)) := Arv.set Ar250 qc250 Sz250 Nn250 Hh250 Gg250 (fits_nar_char _) W250 0 rfl (Nat.le_of_ble_eq_true rfl)
          have k250 : Kt p e below m (s₁.setTop (entryFrame m #[(.int p0), (.int p1), (.int p2), (.int p3), (.int p4), (.int p5), (.int p6)] 7)) T250 75 #[.val (.int p0), .val (.int p1), .val (.int p2), .val (.int p3), .val (.int p4), .val (.int p5), .val (.int p6)] [(.ref ch), (.ref r), (.ref r)] := fun t ht => k249 t (st250 t ht)
          have k261 : Kt p e below m (s₁.setTop (entryFrame m #[(.int p0), (.int p1), (.int p2), (.int p3), (.int p4), (.int p5), (.int p6)] 7)) T250 78 #[.val (.int p0), .val (.int p1), .val (.int p2), .val (.int p3), .val (.int p4), .val (.int p5), .val (.int p6)] [(.int p2), (.int (1 : Int32)), (.ref ch), (.ref ch), (.ref r), (.ref r)] := by
            intro t ht
            refine k250 t ?_
            show Steps p.tables e below (T250.setTop (mkF m 75 #[.val (.int p0), .val (.int p1), .val (.int p2), .val (.int p3), .val (.int p4), .val (.int p5), .val (.int p6)] [(.ref ch), (.ref r), (.ref r)])) t
            refine XS.dup X250.here hx rfl (hb hby dmk_75) rfl rfl ?_
            show Steps p.tables e below (T250.setTop (mkF m 76 #[.val (.int p0), .val (.int p1), .val (.int p2), .val (.int p3), .val (.int p4), .val (.int p5), .val (.int p6)] [(.ref ch), (.ref ch), (.ref r), (.ref r)])) t
            refine XS.iconst X250.here hx rfl (hb hby dmk_76) ?_
            show Steps p.tables e below (T250.setTop (mkF m 77 #[.val (.int p0), .val (.int p1), .val (.int p2), .val (.int p3), .val (.int p4), .val (.int p5), .val (.int p6)] [(.int (1 : Int32)), (.ref ch), (.ref ch), (.ref r), (.ref r)])) t
            refine XS.iloadN X250.here hx rfl (hb hby dmk_77) rfl ?_
            exact ht
          obtain ⟨cl262, Ar262, qc262, Sz262, Nn262, Hh262, Gg262⟩ := id f260
          have hin262 : ¬ ((1 : Int32) < 0 ∨ cl262.slots.size ≤ ((1 : Int32)).toNatClampNeg) := inb_of Sz262 ⟨by decide, by decide⟩
          obtain ⟨T262, h262, X262, e262, W262, st262⟩ := stC X250 hx hZ e250 Ar262 (j := (1 : Int32)) hin262 (g := (mkF m 78 #[.val (.int p0), .val (.int p1), .val (.int p2), .val (.int p3), .val (.int p4), .val (.int p5), .val (.int p6)] [(.int p2), (.int (1 : Int32)), (.ref ch), (.ref ch), (.ref r), (.ref r)])) rfl rfl (hb hby dmk_78)
          have N262 := Fr.snoc X262 N250 g_ch
          have f263 : n0 ≤ h262.size := Nat.le_trans f251 (Keep.of_wr W262).1
          have f264 : CHr Z consts_1 s.vm h0 s.vm h262 := f252.trans (CHr.wr W262 f259 f252.1)
          have f265 : Old Z n0 h262 := f253.wr W262 g_ch
          have f266 : Keep h0 h262 [] := f254.wr W262 (Or.inr sz_ch)
          have f267 : Safe Z consts_1 s.vm h262 r := Safe.wr W262 f259 f252.1 f255
          have f268 : Exa Z h262 r "java/lang/String" := f256.wr W262
          have f269 : Fld Z h262 r "java/lang/String" "value" "[B" .null := f257.other W262 (Or.inl ne_r_ch)
          have f270 : Fld Z h262 r "java/lang/String" "coder" "B" (.int (0 : Int32)) := f258.other W262 (Or.inl ne_r_ch)
          have f271 : Safe Z consts_1 s.vm h262 ch := Safe.wr W262 f259 f252.1 f259
          have f272 : Arv Z h262 ch ak240 .char (3 : Int32) [(.int (nar .char p1)), (.int (nar .char p2)), (.int (0 : Int32))] (.int (0 : Int32)) := Arv.set Ar262 qc262 Sz262 Nn262 Hh262 Gg262 (fits_nar_char _) W262 1 rfl (Nat.le_of_ble_eq_true rfl)
          have k262 : Kt p e below m (s₁.setTop (entryFrame m #[(.int p0), (.int p1), (.int p2), (.int p3), (.int p4), (.int p5), (.int p6)] 7)) T262 79 #[.val (.int p0), .val (.int p1), .val (.int p2), .val (.int p3), .val (.int p4), .val (.int p5), .val (.int p6)] [(.ref ch), (.ref r), (.ref r)] := fun t ht => k261 t (st262 t ht)
          have k273 : Kt p e below m (s₁.setTop (entryFrame m #[(.int p0), (.int p1), (.int p2), (.int p3), (.int p4), (.int p5), (.int p6)] 7)) T262 82 #[.val (.int p0), .val (.int p1), .val (.int p2), .val (.int p3), .val (.int p4), .val (.int p5), .val (.int p6)] [(.int p3), (.int (2 : Int32)), (.ref ch), (.ref ch), (.ref r), (.ref r)] := by
            intro t ht
            refine k262 t ?_
            show Steps p.tables e below (T262.setTop (mkF m 79 #[.val (.int p0), .val (.int p1), .val (.int p2), .val (.int p3), .val (.int p4), .val (.int p5), .val (.int p6)] [(.ref ch), (.ref r), (.ref r)])) t
            refine XS.dup X262.here hx rfl (hb hby dmk_79) rfl rfl ?_
            show Steps p.tables e below (T262.setTop (mkF m 80 #[.val (.int p0), .val (.int p1), .val (.int p2), .val (.int p3), .val (.int p4), .val (.int p5), .val (.int p6)] [(.ref ch), (.ref ch), (.ref r), (.ref r)])) t
            refine XS.iconst X262.here hx rfl (hb hby dmk_80) ?_
            show Steps p.tables e below (T262.setTop (mkF m 81 #[.val (.int p0), .val (.int p1), .val (.int p2), .val (.int p3), .val (.int p4), .val (.int p5), .val (.int p6)] [(.int (2 : Int32)), (.ref ch), (.ref ch), (.ref r), (.ref r)])) t
            refine XS.iloadN X262.here hx rfl (hb hby dmk_81) rfl ?_
            exact ht
          obtain ⟨cl274, Ar274, qc274, Sz274, Nn274, Hh274, Gg274⟩ := id f272
          have hin274 : ¬ ((2 : Int32) < 0 ∨ cl274.slots.size ≤ ((2 : Int32)).toNatClampNeg) := inb_of Sz274 ⟨by decide, by decide⟩
          obtain ⟨T274, h274, X274, e274, W274, st274⟩ := stC X262 hx hZ e262 Ar274 (j := (2 : Int32)) hin274 (g := (mkF m 82 #[.val (.int p0), .val (.int p1), .val (.int p2), .val (.int p3), .val (.int p4), .val (.int p5), .val (.int p6)] [(.int p3), (.int (2 : Int32)), (.ref ch), (.ref ch), (.ref r), (.ref r)])) rfl rfl (hb hby dmk_82)
          have N274 := Fr.snoc X274 N262 g_ch
          have f275 : n0 ≤ h274.size := Nat.le_trans f263 (Keep.of_wr W274).1
          have f276 : CHr Z consts_1 s.vm h0 s.vm h274 := f264.trans (CHr.wr W274 f271 f264.1)
          have f277 : Old Z n0 h274 := f265.wr W274 g_ch
          have f278 : Keep h0 h274 [] := f266.wr W274 (Or.inr sz_ch)
          have f279 : Safe Z consts_1 s.vm h274 r := Safe.wr W274 f271 f264.1 f267
          have f280 : Exa Z h274 r "java/lang/String" := f268.wr W274
          have f281 : Fld Z h274 r "java/lang/String" "value" "[B" .null := f269.other W274 (Or.inl ne_r_ch)
          have f282 : Fld Z h274 r "java/lang/String" "coder" "B" (.int (0 : Int32)) := f270.other W274 (Or.inl ne_r_ch)
          have f283 : Safe Z consts_1 s.vm h274 ch := Safe.wr W274 f271 f264.1 f271
          have f284 : Arv Z h274 ch ak240 .char (3 : Int32) [(.int (nar .char p1)), (.int (nar .char p2)), (.int (nar .char p3))] (.int (0 : Int32)) := Arv.set Ar274 qc274 Sz274 Nn274 Hh274 Gg274 (fits_nar_char _) W274 2 rfl (Nat.le_of_ble_eq_true rfl)
          have k274 : Kt p e below m (s₁.setTop (entryFrame m #[(.int p0), (.int p1), (.int p2), (.int p3), (.int p4), (.int p5), (.int p6)] 7)) T274 83 #[.val (.int p0), .val (.int p1), .val (.int p2), .val (.int p3), .val (.int p4), .val (.int p5), .val (.int p6)] [(.ref ch), (.ref r), (.ref r)] := fun t ht => k273 t (st274 t ht)
          rw [own_nar r1] at f284
          rw [own_nar r2] at f284
          rw [own_nar r3] at f284
          have hp : ∀ c ∈ ([p1, p2, p3] : List Int32), ¬ c < 0 ∧ ¬ (255 : Int32) < c := (own_allS r1 (own_allS r2 (own_allS r3 own_all0)))
          obtain ⟨_, _, ⟨T285, L285, c285, n285⟩, -, X285, ⟨Lc285, hQ285, l285, y285, z285⟩, st285⟩ := X274.specialBack hx (y := (⟨"java/lang/String", "<init>", "([C)V"⟩ : MethodName)) rfl hown (mvT hZ (hw _ (List.mem_of_getElem? (i := 56) rfl))) (mvT hZ (hw _ (List.mem_of_getElem? (i := 57) rfl))) (mvT hZ (hw _ (List.mem_of_getElem? (i := 58) rfl))) (by decide) (StrChars.Road.backV (W := 1) hZ hws (kI := 4) (hw _ (List.mem_of_getElem? (i := 6) rfl)) (cs := ([p1, p2, p3] : List Int32)) (bs := ([p1, p2, p3] : List Int32).map (fun c => c.toInt8.toInt32)) (n := 3) g_r f275 f280 f281 f282 f284 (S1.ext f277.2) P5 rfl rfl (by decide) (by decide) hp rfl (by decide) (by decide)) (g := (mkF m 83 #[.val (.int p0), .val (.int p1), .val (.int p2), .val (.int p3), .val (.int p4), .val (.int p5), .val (.int p6)] [(.ref ch), (.ref r), (.ref r)])) rfl (by rw [hml]; rfl) (Steps.refl _) (a := r) (argsL := [(.ref ch)]) (rest := [(.ref r)]) (lenOf pd_17 rfl) rfl (by show 2 * 0 + _ ≤ _; exact Nat.le_of_eq rfl) (hb hby dmk_83) (fun _ _ => ⟨rfl, e274, (by decide : 2 + 1 ≤ _), (by decide : 7 + 3 ≤ _)⟩)
          dsimp only [Pt.U, Pt.locs, Pt.cells, Pt.slots] at X285 l285 y285 z285 st285 hQ285
          subst l285 y285 z285
          obtain ⟨rfl, Nq285, Kp285, Ev285, Fc285, t285, kb285, -, -, -, Fv285, Va285⟩ := hQ285
          have N285 := Fr.app N274 Nq285
          have k285 : Kt p e below m (s₁.setTop (entryFrame m #[(.int p0), (.int p1), (.int p2), (.int p3), (.int p4), (.int p5), (.int p6)] 7)) T285 86 #[.val (.int p0), .val (.int p1), .val (.int p2), .val (.int p3), .val (.int p4), .val (.int p5), .val (.int p6)] [(.ref r)] := fun t ht => k274 t (st285.trans ht)
          have f286 : n0 ≤ T285.heap.size := Nat.le_trans f275 Kp285.1
          have f287 : CHr Z consts_1 s.vm h0 s.vm T285.heap := f276.trans (CHr.keep Kp285 (sfS f279 sf0) f276.1)
          have f288 : Old Z n0 T285.heap := f277.keep Kp285 (allS g_r all0)
          have f289 : Keep h0 T285.heap [] := f278.trans Kp285 (allS (Or.inr sz_r) all0)
          have f290 : Safe Z consts_1 s.vm T285.heap r := Safe.keep Kp285 (sfS f279 sf0) f276.1 f279
          have f291 : Exa Z T285.heap r "java/lang/String" := f280.keep Kp285
          have f294 : Safe Z consts_1 s.vm T285.heap ch := Safe.keep Kp285 (sfS f279 sf0) f276.1 f283
          have f295 : Arv Z T285.heap ch ak240 .char (3 : Int32) [(.int p1), (.int p2), (.int p3)] (.int (0 : Int32)) := f284.keep Kp285 (ninS ne_r_ch.symm nin0)
          obtain ⟨fs, hr, hrun, hended, -, hW, hbk, hsame⟩ := Stand.leaveW (s := s) (vm₁ := s.vm) X285 ((State.WarmedH.refl s).since 0) (Nat.zero_le _) (v := some (.ref r)) (fun h => by rw [Bd.returns] at h; cases h)
          refine ⟨_, _, k285 _ ?_, hrun, hended, _, _, rfl, ?_, ?_, ⟨_, rfl⟩, hW, hbk, hsame.mono (by decide) (by decide)⟩
          · show Steps p.tables e below (T285.setTop (mkF m 86 #[.val (.int p0), .val (.int p1), .val (.int p2), .val (.int p3), .val (.int p4), .val (.int p5), .val (.int p6)] [(.ref r)])) _
            jvm_step X285.here [X285.here.top, hx, (hb hby dmk_86), X285.method', Bd.returns, Value.isRef, FieldType.isReference]
            first | (intro acts; rw [hr _ acts rfl rfl rfl]) | rw [hr _ _ rfl rfl rfl]
            exact Steps.refl _
          · show Qmk Z p0 p1 p2 p3 p4 p5 p6 G1 h0 n0 _ T285.heap _
            exact ⟨r, t285, kb285, ([p1, p2, p3] : List Int32), rfl, N285, f289, Ev285, Fc285, Fv285, Va285, hp, by show 3 ≤ 4000; decide⟩
          · show CHr Z consts_1 s.vm s.heap T285.vm T285.heap
            rw [hh]
            exact f287.trans (CHv.at (s := s) (vm0 := s.vm) X285 hZ hEL f287.1)
        · have k296 : Kt p e below m (s₁.setTop (entryFrame m #[(.int p0), (.int p1), (.int p2), (.int p3), (.int p4), (.int p5), (.int p6)] 7)) s₁ 89 #[.val (.int p0), .val (.int p1), .val (.int p2), .val (.int p3), .val (.int p4), .val (.int p5), .val (.int p6)] [(.int (4 : Int32)), (.int p0)] := by
            intro t ht
            refine k230 t ?_
            show Steps p.tables e below (s₁.setTop (mkF m 61 #[.val (.int p0), .val (.int p1), .val (.int p2), .val (.int p3), .val (.int p4), .val (.int p5), .val (.int p6)] [(.int (3 : Int32)), (.int p0)])) t
            refine XS.icmpYes X0.here hx rfl (pc0 := 61) (pc' := 87) rfl (hb hby dmk_61) rfl (feq h3).2 (by decide) (by decide) ?_
            show Steps p.tables e below (s₁.setTop (mkF m 87 #[.val (.int p0), .val (.int p1), .val (.int p2), .val (.int p3), .val (.int p4), .val (.int p5), .val (.int p6)] [])) t
            refine XS.iloadN X0.here hx rfl (hb hby dmk_87) rfl ?_
            show Steps p.tables e below (s₁.setTop (mkF m 88 #[.val (.int p0), .val (.int p1), .val (.int p2), .val (.int p3), .val (.int p4), .val (.int p5), .val (.int p6)] [(.int p0)])) t
            refine XS.iconst X0.here hx rfl (hb hby dmk_88) ?_
            exact ht
          by_cases h4 : p0 = (4 : Int32)
          · have k297 : Kt p e below m (s₁.setTop (entryFrame m #[(.int p0), (.int p1), (.int p2), (.int p3), (.int p4), (.int p5), (.int p6)] 7)) s₁ 92 #[.val (.int p0), .val (.int p1), .val (.int p2), .val (.int p3), .val (.int p4), .val (.int p5), .val (.int p6)] [] := by
              intro t ht
              refine k296 t ?_
              show Steps p.tables e below (s₁.setTop (mkF m 89 #[.val (.int p0), .val (.int p1), .val (.int p2), .val (.int p3), .val (.int p4), .val (.int p5), .val (.int p6)] [(.int (4 : Int32)), (.int p0)])) t
              refine XS.icmpNo X0.here hx rfl (hb hby dmk_89) rfl (teq h4).2 ?_
              exact ht
            obtain ⟨T298, h298, X298, e298, E298, A298, D298, -, st298⟩ := newO X0 hx hZ hown (hw _ (List.mem_of_getElem? (i := 54) rfl)) (hw _ (List.mem_of_getElem? (i := 6) rfl)) (hw _ (List.mem_of_getElem? (i := 5) rfl)) e0 (g := (mkF m 92 #[.val (.int p0), .val (.int p1), .val (.int p2), .val (.int p3), .val (.int p4), .val (.int p5), .val (.int p6)] [])) rfl (hb hby dmk_92) (by decide) (by decide)
            obtain ⟨r, q298⟩ : ∃ z, z = h0.size := ⟨_, rfl⟩
            have g_r : n0 ≤ r := by rw [q298]; exact Z0
            have sz_r : h0.size ≤ r := by rw [q298]; exact K0.1
            rw [← q298] at A298 D298 st298
            have f299 : n0 ≤ h298.size := Nat.le_trans Z0 E298.1
            have f300 : CHr Z consts_1 s.vm h0 s.vm h298 := R0.trans (CHr.ext E298 R0.1)
            have f301 : Old Z n0 h298 := O.ext E298
            have f302 : Keep h0 h298 [] := K0.ext E298
            have Sf298 : Safe Z consts_1 s.vm h298 r := Safe.ext E298 R0.1 (Safe.new (by rw [q298]; exact Nat.le_refl _))
            have f298 : Exa Z h298 r "java/lang/String" := A298
            have f303 : Fld Z h298 r "java/lang/String" "value" "[B" .null := D298 (Or.inr (hw _ (List.mem_of_getElem? (i := 8) rfl))) (ty := (.array .byte)) (by decide)
            have f304 : Fld Z h298 r "java/lang/String" "coder" "B" (.int (0 : Int32)) := D298 (Or.inr (hw _ (List.mem_of_getElem? (i := 9) rfl))) (ty := .byte) (by decide)
            have k298 : Kt p e below m (s₁.setTop (entryFrame m #[(.int p0), (.int p1), (.int p2), (.int p3), (.int p4), (.int p5), (.int p6)] 7)) T298 95 #[.val (.int p0), .val (.int p1), .val (.int p2), .val (.int p3), .val (.int p4), .val (.int p5), .val (.int p6)] [(.ref r)] := fun t ht => k297 t (st298 t ht)
            have k305 : Kt p e below m (s₁.setTop (entryFrame m #[(.int p0), (.int p1), (.int p2), (.int p3), (.int p4), (.int p5), (.int p6)] 7)) T298 97 #[.val (.int p0), .val (.int p1), .val (.int p2), .val (.int p3), .val (.int p4), .val (.int p5), .val (.int p6)] [(.int (4 : Int32)), (.ref r), (.ref r)] := by
              intro t ht
              refine k298 t ?_
              show Steps p.tables e below (T298.setTop (mkF m 95 #[.val (.int p0), .val (.int p1), .val (.int p2), .val (.int p3), .val (.int p4), .val (.int p5), .val (.int p6)] [(.ref r)])) t
              refine XS.dup X298.here hx rfl (hb hby dmk_95) rfl rfl ?_
              show Steps p.tables e below (T298.setTop (mkF m 96 #[.val (.int p0), .val (.int p1), .val (.int p2), .val (.int p3), .val (.int p4), .val (.int p5), .val (.int p6)] [(.ref r), (.ref r)])) t
              refine XS.iconst X298.here hx rfl (hb hby dmk_96) ?_
              exact ht
            obtain ⟨T306, h306, ak306, X306, e306, E306, A306, st306⟩ := newP X298 hx hZ (hw _ (List.mem_of_getElem? (i := 55) rfl)) e298 (g := (mkF m 97 #[.val (.int p0), .val (.int p1), .val (.int p2), .val (.int p3), .val (.int p4), .val (.int p5), .val (.int p6)] [(.int (4 : Int32)), (.ref r), (.ref r)])) rfl (hb hby dmk_97) rfl (by decide) (cap := 4) (by decide) (by decide) (by decide) (by decide)
            obtain ⟨ch, q306⟩ : ∃ z, z = h298.size := ⟨_, rfl⟩
            have ne_r_ch : r ≠ ch := by rw [q306]; exact Nat.ne_of_lt f298.lt
            have g_ch : n0 ≤ ch := by rw [q306]; exact f299
            have sz_ch : h0.size ≤ ch := by rw [q306]; exact f302.1
            rw [← q306] at A306 st306
            have f307 : n0 ≤ h306.size := Nat.le_trans f299 E306.1
            have f308 : CHr Z consts_1 s.vm h0 s.vm h306 := f300.trans (CHr.ext E306 f300.1)
            have f309 : Old Z n0 h306 := f301.ext E306
            have f310 : Keep h0 h306 [] := f302.ext E306
            have f311 : Safe Z consts_1 s.vm h306 r := Sf298.ext E306 f300.1
            have f312 : Exa Z h306 r "java/lang/String" := f298.ext E306
            have f313 : Fld Z h306 r "java/lang/String" "value" "[B" .null := f303.ext E306
            have f314 : Fld Z h306 r "java/lang/String" "coder" "B" (.int (0 : Int32)) := f304.ext E306
            have Sf306 : Safe Z consts_1 s.vm h306 ch := Safe.ext E306 f300.1 (Safe.new (by rw [q306]; exact Nat.le_refl _))
            have f306 : Arv Z h306 ch ak306 .char (4 : Int32) [(.int (0 : Int32)), (.int (0 : Int32)), (.int (0 : Int32)), (.int (0 : Int32))] (.int (0 : Int32)) := (Arv.new A306 (by decide)).pad (pad_rep [] (.int (0 : Int32)) 4)
            have k306 : Kt p e below m (s₁.setTop (entryFrame m #[(.int p0), (.int p1), (.int p2), (.int p3), (.int p4), (.int p5), (.int p6)] 7)) T306 99 #[.val (.int p0), .val (.int p1), .val (.int p2), .val (.int p3), .val (.int p4), .val (.int p5), .val (.int p6)] [(.ref ch), (.ref r), (.ref r)] := fun t ht => k305 t (st306 t ht)
            have k315 : Kt p e below m (s₁.setTop (entryFrame m #[(.int p0), (.int p1), (.int p2), (.int p3), (.int p4), (.int p5), (.int p6)] 7)) T306 102 #[.val (.int p0), .val (.int p1), .val (.int p2), .val (.int p3), .val (.int p4), .val (.int p5), .val (.int p6)] [(.int p1), (.int (0 : Int32)), (.ref ch), (.ref ch), (.ref r), (.ref r)] := by
              intro t ht
              refine k306 t ?_
              show Steps p.tables e below (T306.setTop (mkF m 99 #[.val (.int p0), .val (.int p1), .val (.int p2), .val (.int p3), .val (.int p4), .val (.int p5), .val (.int p6)] [(.ref ch), (.ref r), (.ref r)])) t
              refine XS.dup X306.here hx rfl (hb hby dmk_99) rfl rfl ?_
              show Steps p.tables e below (T306.setTop (mkF m 100 #[.val (.int p0), .val (.int p1), .val (.int p2), .val (.int p3), .val (.int p4), .val (.int p5), .val (.int p6)] [(.ref ch), (.ref ch), (.ref r), (.ref r)])) t
              refine XS.iconst X306.here hx rfl (hb hby dmk_100) ?_
              show Steps p.tables e below (T306.setTop (mkF m 101 #[.val (.int p0), .val (.int p1), .val (.int p2), .val (.int p3), .val (.int p4), .val (.int p5), .val (.int p6)] [(.int (0 : Int32)), (.ref ch), (.ref ch), (.ref r), (.ref r)])) t
              refine XS.iloadN X306.here hx rfl (hb hby dmk_101) rfl ?_
              exact ht
            obtain ⟨cl316, Ar316, qc316, Sz316, Nn316, Hh316, Gg316⟩ := id f306
            have hin316 : ¬ ((0 : Int32) < 0 ∨ cl316.slots.size ≤ ((0 : Int32)).toNatClampNeg) := inb_of Sz316 ⟨by decide, by decide⟩
            obtain ⟨T316, h316, X316, e316, W316, st316⟩ := stC X306 hx hZ e306 Ar316 (j := (0 : Int32)) hin316 (g := (mkF m 102 #[.val (.int p0), .val (.int p1), .val (.int p2), .val (.int p3), .val (.int p4), .val (.int p5), .val (.int p6)] [(.int p1), (.int (0 : Int32)), (.ref ch), (.ref ch), (.ref r), (.ref r)])) rfl rfl (hb hby dmk_102)
            have N316 := Fr.snoc X316 N0 g_ch
            have f317 : n0 ≤ h316.size := Nat.le_trans f307 (Keep.of_wr W316).1
            have f318 : CHr Z consts_1 s.vm h0 s.vm h316 := f308.trans (CHr.wr W316 Sf306 f308.1)
            have f319 : Old Z n0 h316 := f309.wr W316 g_ch
            have f320 : Keep h0 h316 [] := f310.wr W316 (Or.inr sz_ch)
            have f321 : Safe Z consts_1 s.vm h316 r := Safe.wr W316 Sf306 f308.1 f311
            have f322 : Exa Z h316 r "java/lang/String" := f312.wr W316
            have f323 : Fld Z h316 r "java/lang/String" "value" "[B" .null := f313.other W316 (Or.inl ne_r_ch)
            have f324 : Fld Z h316 r "java/lang/String" "coder" "B" (.int (0 : Int32)) := f314.other W316 (Or.inl ne_r_ch)
            have f325 : Safe Z consts_1 s.vm h316 ch := Safe.wr W316 Sf306 f308.1 Sf306
            have f326 : Arv Z h316 ch ak306 .char (4 : Int32) [(.int (nar .char p1)), (.int (0 : Int32)), (.int (0 : Int32)), (.int (0 : Int32))] (.int (0 : Int32)) := Arv.set Ar316 qc316 Sz316 Nn316 Hh316 Gg316 (fits_nar_char _) W316 0 rfl (Nat.le_of_ble_eq_true rfl)
            have k316 : Kt p e below m (s₁.setTop (entryFrame m #[(.int p0), (.int p1), (.int p2), (.int p3), (.int p4), (.int p5), (.int p6)] 7)) T316 103 #[.val (.int p0), .val (.int p1), .val (.int p2), .val (.int p3), .val (.int p4), .val (.int p5), .val (.int p6)] [(.ref ch), (.ref r), (.ref r)] := fun t ht => k315 t (st316 t ht)
            have k327 : Kt p e below m (s₁.setTop (entryFrame m #[(.int p0), (.int p1), (.int p2), (.int p3), (.int p4), (.int p5), (.int p6)] 7)) T316 106 #[.val (.int p0), .val (.int p1), .val (.int p2), .val (.int p3), .val (.int p4), .val (.int p5), .val (.int p6)] [(.int p2), (.int (1 : Int32)), (.ref ch), (.ref ch), (.ref r), (.ref r)] := by
              intro t ht
              refine k316 t ?_
              show Steps p.tables e below (T316.setTop (mkF m 103 #[.val (.int p0), .val (.int p1), .val (.int p2), .val (.int p3), .val (.int p4), .val (.int p5), .val (.int p6)] [(.ref ch), (.ref r), (.ref r)])) t
              refine XS.dup X316.here hx rfl (hb hby dmk_103) rfl rfl ?_
              show Steps p.tables e below (T316.setTop (mkF m 104 #[.val (.int p0), .val (.int p1), .val (.int p2), .val (.int p3), .val (.int p4), .val (.int p5), .val (.int p6)] [(.ref ch), (.ref ch), (.ref r), (.ref r)])) t
              refine XS.iconst X316.here hx rfl (hb hby dmk_104) ?_
              show Steps p.tables e below (T316.setTop (mkF m 105 #[.val (.int p0), .val (.int p1), .val (.int p2), .val (.int p3), .val (.int p4), .val (.int p5), .val (.int p6)] [(.int (1 : Int32)), (.ref ch), (.ref ch), (.ref r), (.ref r)])) t
              refine XS.iloadN X316.here hx rfl (hb hby dmk_105) rfl ?_
              exact ht
            obtain ⟨cl328, Ar328, qc328, Sz328, Nn328, Hh328, Gg328⟩ := id f326
            have hin328 : ¬ ((1 : Int32) < 0 ∨ cl328.slots.size ≤ ((1 : Int32)).toNatClampNeg) := inb_of Sz328 ⟨by decide, by decide⟩
            obtain ⟨T328, h328, X328, e328, W328, st328⟩ := stC X316 hx hZ e316 Ar328 (j := (1 : Int32)) hin328 (g := (mkF m 106 #[.val (.int p0), .val (.int p1), .val (.int p2), .val (.int p3), .val (.int p4), .val (.int p5), .val (.int p6)] [(.int p2), (.int (1 : Int32)), (.ref ch), (.ref ch), (.ref r), (.ref r)])) rfl rfl (hb hby dmk_106)
            have N328 := Fr.snoc X328 N316 g_ch
            have f329 : n0 ≤ h328.size := Nat.le_trans f317 (Keep.of_wr W328).1
            have f330 : CHr Z consts_1 s.vm h0 s.vm h328 := f318.trans (CHr.wr W328 f325 f318.1)
            have f331 : Old Z n0 h328 := f319.wr W328 g_ch
            have f332 : Keep h0 h328 [] := f320.wr W328 (Or.inr sz_ch)
            have f333 : Safe Z consts_1 s.vm h328 r := Safe.wr W328 f325 f318.1 f321
            have f334 : Exa Z h328 r "java/lang/String" := f322.wr W328
            have f335 : Fld Z h328 r "java/lang/String" "value" "[B" .null := f323.other W328 (Or.inl ne_r_ch)
            have f336 : Fld Z h328 r "java/lang/String" "coder" "B" (.int (0 : Int32)) := f324.other W328 (Or.inl ne_r_ch)
            have f337 : Safe Z consts_1 s.vm h328 ch := Safe.wr W328 f325 f318.1 f325
            have f338 : Arv Z h328 ch ak306 .char (4 : Int32) [(.int (nar .char p1)), (.int (nar .char p2)), (.int (0 : Int32)), (.int (0 : Int32))] (.int (0 : Int32)) := Arv.set Ar328 qc328 Sz328 Nn328 Hh328 Gg328 (fits_nar_char _) W328 1 rfl (Nat.le_of_ble_eq_true rfl)
            have k328 : Kt p e below m (s₁.setTop (entryFrame m #[(.int p0), (.int p1), (.int p2), (.int p3), (.int p4), (.int p5), (.int p6)] 7)) T328 107 #[.val (.int p0), .val (.int p1), .val (.int p2), .val (.int p3), .val (.int p4), .val (.int p5), .val (.int p6)] [(.ref ch), (.ref r), (.ref r)] := fun t ht => k327 t (st328 t ht)
            have k339 : Kt p e below m (s₁.setTop (entryFrame m #[(.int p0), (.int p1), (.int p2), (.int p3), (.int p4), (.int p5), (.int p6)] 7)) T328 110 #[.val (.int p0), .val (.int p1), .val (.int p2), .val (.int p3), .val (.int p4), .val (.int p5), .val (.int p6)] [(.int p3), (.int (2 : Int32)), (.ref ch), (.ref ch), (.ref r), (.ref r)] := by
              intro t ht
              refine k328 t ?_
              show Steps p.tables e below (T328.setTop (mkF m 107 #[.val (.int p0), .val (.int p1), .val (.int p2), .val (.int p3), .val (.int p4), .val (.int p5), .val (.int p6)] [(.ref ch), (.ref r), (.ref r)])) t
              refine XS.dup X328.here hx rfl (hb hby dmk_107) rfl rfl ?_
              show Steps p.tables e below (T328.setTop (mkF m 108 #[.val (.int p0), .val (.int p1), .val (.int p2), .val (.int p3), .val (.int p4), .val (.int p5), .val (.int p6)] [(.ref ch), (.ref ch), (.ref r), (.ref r)])) t
              refine XS.iconst X328.here hx rfl (hb hby dmk_108) ?_
              show Steps p.tables e below (T328.setTop (mkF m 109 #[.val (.int p0), .val (.int p1), .val (.int p2), .val (.int p3), .val (.int p4), .val (.int p5), .val (.int p6)] [(.int (2 : Int32)), (.ref ch), (.ref ch), (.ref r), (.ref r)])) t
              refine XS.iloadN X328.here hx rfl (hb hby dmk_109) rfl ?_
              exact ht
            obtain ⟨cl340, Ar340, qc340, Sz340, Nn340, Hh340, Gg340⟩ := id f338
            have hin340 : ¬ ((2 : Int32) < 0 ∨ cl340.slots.size ≤ ((2 : Int32)).toNatClampNeg) := inb_of Sz340 ⟨by decide, by decide⟩
            obtain ⟨T340, h340, X340, e340, W340, st340⟩ := stC X328 hx hZ e328 Ar340 (j := (2 : Int32)) hin340 (g := (mkF m 110 #[.val (.int p0), .val (.int p1), .val (.int p2), .val (.int p3), .val (.int p4), .val (.int p5), .val (.int p6)] [(.int p3), (.int (2 : Int32)), (.ref ch), (.ref ch), (.ref r), (.ref r)])) rfl rfl (hb hby dmk_110)
            have N340 := Fr.snoc X340 N328 g_ch
            have f341 : n0 ≤ h340.size := Nat.le_trans f329 (Keep.of_wr W340).1
            have f342 : CHr Z consts_1 s.vm h0 s.vm h340 := f330.trans (CHr.wr W340 f337 f330.1)
            have f343 : Old Z n0 h340 := f331.wr W340 g_ch
            have f344 : Keep h0 h340 [] := f332.wr W340 (Or.inr sz_ch)
            have f345 : Safe Z consts_1 s.vm h340 r := Safe.wr W340 f337 f330.1 f333
            have f346 : Exa Z h340 r "java/lang/String" := f334.wr W340
            have f347 : Fld Z h340 r "java/lang/String" "value" "[B" .null := f335.other W340 (Or.inl ne_r_ch)
            have f348 : Fld Z h340 r "java/lang/String" "coder" "B" (.int (0 : Int32)) := f336.other W340 (Or.inl ne_r_ch)
            have f349 : Safe Z consts_1 s.vm h340 ch := Safe.wr W340 f337 f330.1 f337
            have f350 : Arv Z h340 ch ak306 .char (4 : Int32) [(.int (nar .char p1)), (.int (nar .char p2)), (.int (nar .char p3)), (.int (0 : Int32))] (.int (0 : Int32)) := Arv.set Ar340 qc340 Sz340 Nn340 Hh340 Gg340 (fits_nar_char _) W340 2 rfl (Nat.le_of_ble_eq_true rfl)
            have k340 : Kt p e below m (s₁.setTop (entryFrame m #[(.int p0), (.int p1), (.int p2), (.int p3), (.int p4), (.int p5), (.int p6)] 7)) T340 111 #[.val (.int p0), .val (.int p1), .val (.int p2), .val (.int p3), .val (.int p4), .val (.int p5), .val (.int p6)] [(.ref ch), (.ref r), (.ref r)] := fun t ht => k339 t (st340 t ht)
            have k351 : Kt p e below m (s₁.setTop (entryFrame m #[(.int p0), (.int p1), (.int p2), (.int p3), (.int p4), (.int p5), (.int p6)] 7)) T340 115 #[.val (.int p0), .val (.int p1), .val (.int p2), .val (.int p3), .val (.int p4), .val (.int p5), .val (.int p6)] [(.int p4), (.int (3 : Int32)), (.ref ch), (.ref ch), (.ref r), (.ref r)] := by
              intro t ht
              refine k340 t ?_
              show Steps p.tables e below (T340.setTop (mkF m 111 #[.val (.int p0), .val (.int p1), .val (.int p2), .val (.int p3), .val (.int p4), .val (.int p5), .val (.int p6)] [(.ref ch), (.ref r), (.ref r)])) t
              refine XS.dup X340.here hx rfl (hb hby dmk_111) rfl rfl ?_
              show Steps p.tables e below (T340.setTop (mkF m 112 #[.val (.int p0), .val (.int p1), .val (.int p2), .val (.int p3), .val (.int p4), .val (.int p5), .val (.int p6)] [(.ref ch), (.ref ch), (.ref r), (.ref r)])) t
              refine XS.iconst X340.here hx rfl (hb hby dmk_112) ?_
              show Steps p.tables e below (T340.setTop (mkF m 113 #[.val (.int p0), .val (.int p1), .val (.int p2), .val (.int p3), .val (.int p4), .val (.int p5), .val (.int p6)] [(.int (3 : Int32)), (.ref ch), (.ref ch), (.ref r), (.ref r)])) t
              refine XS.iload X340.here hx rfl (hb hby dmk_113) rfl ?_
              exact ht
            obtain ⟨cl352, Ar352, qc352, Sz352, Nn352, Hh352, Gg352⟩ := id f350
            have hin352 : ¬ ((3 : Int32) < 0 ∨ cl352.slots.size ≤ ((3 : Int32)).toNatClampNeg) := inb_of Sz352 ⟨by decide, by decide⟩
            obtain ⟨T352, h352, X352, e352, W352, st352⟩ := stC X340 hx hZ e340 Ar352 (j := (3 : Int32)) hin352 (g := (mkF m 115 #[.val (.int p0), .val (.int p1), .val (.int p2), .val (.int p3), .val (.int p4), .val (.int p5), .val (.int p6)] [(.int p4), (.int (3 : Int32)), (.ref ch), (.ref ch), (.ref r), (.ref r)])) rfl rfl (hb hby dmk_115)
            have N352 := Fr.snoc X352 N340 g_ch
            have f353 : n0 ≤ h352.size := Nat.le_trans f341 (Keep.of_wr W352).1
            have f354 : CHr Z consts_1 s.vm h0 s.vm h352 := f342.trans (CHr.wr W352 f349 f342.1)
            have f355 : Old Z n0 h352 := f343.wr W352 g_ch
            have f356 : Keep h0 h352 [] := f344.wr W352 (Or.inr sz_ch)
            have f357 : Safe Z consts_1 s.vm h352 r := Safe.wr W352 f349 f342.1 f345
            have f358 : Exa Z h352 r "java/lang/String" := f346.wr W352
            have f359 : Fld Z h352 r "java/lang/String" "value" "[B" .null := f347.other W352 (Or.inl ne_r_ch)
            have f360 : Fld Z h352 r "java/lang/String" "coder" "B" (.int (0 : Int32)) := f348.other W352 (Or.inl ne_r_ch)
            have f361 : Safe Z consts_1 s.vm h352 ch := Safe.wr W352 f349 f342.1 f349
            have f362 : Arv Z h352 ch ak306 .char (4 : Int32) [(.int (nar .char p1)), (.int (nar .char p2)), (.int (nar .char p3)), (.int (nar .char p4))] (.int (0 : Int32)) := Arv.set Ar352 qc352 Sz352 Nn352 Hh352 Gg352 (fits_nar_char _) W352 3 rfl (Nat.le_of_ble_eq_true rfl)
            have k352 : Kt p e below m (s₁.setTop (entryFrame m #[(.int p0), (.int p1), (.int p2), (.int p3), (.int p4), (.int p5), (.int p6)] 7)) T352 116 #[.val (.int p0), .val (.int p1), .val (.int p2), .val (.int p3), .val (.int p4), .val (.int p5), .val (.int p6)] [(.ref ch), (.ref r), (.ref r)] := fun t ht => k351 t (st352 t ht)
            rw [own_nar r1] at f362
            rw [own_nar r2] at f362
            rw [own_nar r3] at f362
            rw [own_nar r4] at f362
            have hp : ∀ c ∈ ([p1, p2, p3, p4] : List Int32), ¬ c < 0 ∧ ¬ (255 : Int32) < c := (own_allS r1 (own_allS r2 (own_allS r3 (own_allS r4 own_all0))))
            obtain ⟨_, _, ⟨T363, L363, c363, n363⟩, -, X363, ⟨Lc363, hQ363, l363, y363, z363⟩, st363⟩ := X352.specialBack hx (y := (⟨"java/lang/String", "<init>", "([C)V"⟩ : MethodName)) rfl hown (mvT hZ (hw _ (List.mem_of_getElem? (i := 56) rfl))) (mvT hZ (hw _ (List.mem_of_getElem? (i := 57) rfl))) (mvT hZ (hw _ (List.mem_of_getElem? (i := 58) rfl))) (by decide) (StrChars.Road.backV (W := 1) hZ hws (kI := 4) (hw _ (List.mem_of_getElem? (i := 6) rfl)) (cs := ([p1, p2, p3, p4] : List Int32)) (bs := ([p1, p2, p3, p4] : List Int32).map (fun c => c.toInt8.toInt32)) (n := 4) g_r f353 f358 f359 f360 f362 (S1.ext f355.2) P5 rfl rfl (by decide) (by decide) hp rfl (by decide) (by decide)) (g := (mkF m 116 #[.val (.int p0), .val (.int p1), .val (.int p2), .val (.int p3), .val (.int p4), .val (.int p5), .val (.int p6)] [(.ref ch), (.ref r), (.ref r)])) rfl (by rw [hml]; rfl) (Steps.refl _) (a := r) (argsL := [(.ref ch)]) (rest := [(.ref r)]) (lenOf pd_17 rfl) rfl (by show 2 * 0 + _ ≤ _; exact Nat.le_of_eq rfl) (hb hby dmk_116) (fun _ _ => ⟨rfl, e352, (by decide : 2 + 1 ≤ _), (by decide : 8 + 4 ≤ _)⟩)
            dsimp only [Pt.U, Pt.locs, Pt.cells, Pt.slots] at X363 l363 y363 z363 st363 hQ363
            subst l363 y363 z363
            obtain ⟨rfl, Nq363, Kp363, Ev363, Fc363, t363, kb363, -, -, -, Fv363, Va363⟩ := hQ363
            have N363 := Fr.app N352 Nq363
            have k363 : Kt p e below m (s₁.setTop (entryFrame m #[(.int p0), (.int p1), (.int p2), (.int p3), (.int p4), (.int p5), (.int p6)] 7)) T363 119 #[.val (.int p0), .val (.int p1), .val (.int p2), .val (.int p3), .val (.int p4), .val (.int p5), .val (.int p6)] [(.ref r)] := fun t ht => k352 t (st363.trans ht)
            have f364 : n0 ≤ T363.heap.size := Nat.le_trans f353 Kp363.1
            have f365 : CHr Z consts_1 s.vm h0 s.vm T363.heap := f354.trans (CHr.keep Kp363 (sfS f357 sf0) f354.1)
            have f366 : Old Z n0 T363.heap := f355.keep Kp363 (allS g_r all0)
            have f367 : Keep h0 T363.heap [] := f356.trans Kp363 (allS (Or.inr sz_r) all0)
            have f368 : Safe Z consts_1 s.vm T363.heap r := Safe.keep Kp363 (sfS f357 sf0) f354.1 f357
            have f369 : Exa Z T363.heap r "java/lang/String" := f358.keep Kp363
            have f372 : Safe Z consts_1 s.vm T363.heap ch := Safe.keep Kp363 (sfS f357 sf0) f354.1 f361
            have f373 : Arv Z T363.heap ch ak306 .char (4 : Int32) [(.int p1), (.int p2), (.int p3), (.int p4)] (.int (0 : Int32)) := f362.keep Kp363 (ninS ne_r_ch.symm nin0)
            obtain ⟨fs, hr, hrun, hended, -, hW, hbk, hsame⟩ := Stand.leaveW (s := s) (vm₁ := s.vm) X363 ((State.WarmedH.refl s).since 0) (Nat.zero_le _) (v := some (.ref r)) (fun h => by rw [Bd.returns] at h; cases h)
            refine ⟨_, _, k363 _ ?_, hrun, hended, _, _, rfl, ?_, ?_, ⟨_, rfl⟩, hW, hbk, hsame.mono (by decide) (by decide)⟩
            · show Steps p.tables e below (T363.setTop (mkF m 119 #[.val (.int p0), .val (.int p1), .val (.int p2), .val (.int p3), .val (.int p4), .val (.int p5), .val (.int p6)] [(.ref r)])) _
              jvm_step X363.here [X363.here.top, hx, (hb hby dmk_119), X363.method', Bd.returns, Value.isRef, FieldType.isReference]
              first | (intro acts; rw [hr _ acts rfl rfl rfl]) | rw [hr _ _ rfl rfl rfl]
              exact Steps.refl _
            · show Qmk Z p0 p1 p2 p3 p4 p5 p6 G1 h0 n0 _ T363.heap _
              exact ⟨r, t363, kb363, ([p1, p2, p3, p4] : List Int32), rfl, N363, f367, Ev363, Fc363, Fv363, Va363, hp, by show 4 ≤ 4000; decide⟩
            · show CHr Z consts_1 s.vm s.heap T363.vm T363.heap
              rw [hh]
              exact f365.trans (CHv.at (s := s) (vm0 := s.vm) X363 hZ hEL f365.1)
          · have k374 : Kt p e below m (s₁.setTop (entryFrame m #[(.int p0), (.int p1), (.int p2), (.int p3), (.int p4), (.int p5), (.int p6)] 7)) s₁ 122 #[.val (.int p0), .val (.int p1), .val (.int p2), .val (.int p3), .val (.int p4), .val (.int p5), .val (.int p6)] [(.int (5 : Int32)), (.int p0)] := by
              intro t ht
              refine k296 t ?_
              show Steps p.tables e below (s₁.setTop (mkF m 89 #[.val (.int p0), .val (.int p1), .val (.int p2), .val (.int p3), .val (.int p4), .val (.int p5), .val (.int p6)] [(.int (4 : Int32)), (.int p0)])) t
              refine XS.icmpYes X0.here hx rfl (pc0 := 89) (pc' := 120) rfl (hb hby dmk_89) rfl (feq h4).2 (by decide) (by decide) ?_
              show Steps p.tables e below (s₁.setTop (mkF m 120 #[.val (.int p0), .val (.int p1), .val (.int p2), .val (.int p3), .val (.int p4), .val (.int p5), .val (.int p6)] [])) t
              refine XS.iloadN X0.here hx rfl (hb hby dmk_120) rfl ?_
              show Steps p.tables e below (s₁.setTop (mkF m 121 #[.val (.int p0), .val (.int p1), .val (.int p2), .val (.int p3), .val (.int p4), .val (.int p5), .val (.int p6)] [(.int p0)])) t
              refine XS.iconst X0.here hx rfl (hb hby dmk_121) ?_
              exact ht
            by_cases h5 : p0 = (5 : Int32)
            · have k375 : Kt p e below m (s₁.setTop (entryFrame m #[(.int p0), (.int p1), (.int p2), (.int p3), (.int p4), (.int p5), (.int p6)] 7)) s₁ 125 #[.val (.int p0), .val (.int p1), .val (.int p2), .val (.int p3), .val (.int p4), .val (.int p5), .val (.int p6)] [] := by
                intro t ht
                refine k374 t ?_
                show Steps p.tables e below (s₁.setTop (mkF m 122 #[.val (.int p0), .val (.int p1), .val (.int p2), .val (.int p3), .val (.int p4), .val (.int p5), .val (.int p6)] [(.int (5 : Int32)), (.int p0)])) t
                refine XS.icmpNo X0.here hx rfl (hb hby dmk_122) rfl (teq h5).2 ?_
                exact ht
              obtain ⟨T376, h376, X376, e376, E376, A376, D376, -, st376⟩ := newO X0 hx hZ hown (hw _ (List.mem_of_getElem? (i := 54) rfl)) (hw _ (List.mem_of_getElem? (i := 6) rfl)) (hw _ (List.mem_of_getElem? (i := 5) rfl)) e0 (g := (mkF m 125 #[.val (.int p0), .val (.int p1), .val (.int p2), .val (.int p3), .val (.int p4), .val (.int p5), .val (.int p6)] [])) rfl (hb hby dmk_125) (by decide) (by decide)
              obtain ⟨r, q376⟩ : ∃ z, z = h0.size := ⟨_, rfl⟩
              have g_r : n0 ≤ r := by rw [q376]; exact Z0
              have sz_r : h0.size ≤ r := by rw [q376]; exact K0.1
              rw [← q376] at A376 D376 st376
              have f377 : n0 ≤ h376.size := Nat.le_trans Z0 E376.1
              have f378 : CHr Z consts_1 s.vm h0 s.vm h376 := R0.trans (CHr.ext E376 R0.1)
              have f379 : Old Z n0 h376 := O.ext E376
              have f380 : Keep h0 h376 [] := K0.ext E376
              have Sf376 : Safe Z consts_1 s.vm h376 r := Safe.ext E376 R0.1 (Safe.new (by rw [q376]; exact Nat.le_refl _))
              have f376 : Exa Z h376 r "java/lang/String" := A376
              have f381 : Fld Z h376 r "java/lang/String" "value" "[B" .null := D376 (Or.inr (hw _ (List.mem_of_getElem? (i := 8) rfl))) (ty := (.array .byte)) (by decide)
              have f382 : Fld Z h376 r "java/lang/String" "coder" "B" (.int (0 : Int32)) := D376 (Or.inr (hw _ (List.mem_of_getElem? (i := 9) rfl))) (ty := .byte) (by decide)
              have k376 : Kt p e below m (s₁.setTop (entryFrame m #[(.int p0), (.int p1), (.int p2), (.int p3), (.int p4), (.int p5), (.int p6)] 7)) T376 128 #[.val (.int p0), .val (.int p1), .val (.int p2), .val (.int p3), .val (.int p4), .val (.int p5), .val (.int p6)] [(.ref r)] := fun t ht => k375 t (st376 t ht)
              have k383 : Kt p e below m (s₁.setTop (entryFrame m #[(.int p0), (.int p1), (.int p2), (.int p3), (.int p4), (.int p5), (.int p6)] 7)) T376 130 #[.val (.int p0), .val (.int p1), .val (.int p2), .val (.int p3), .val (.int p4), .val (.int p5), .val (.int p6)] [(.int (5 : Int32)), (.ref r), (.ref r)] := by
                intro t ht
                refine k376 t ?_
                show Steps p.tables e below (T376.setTop (mkF m 128 #[.val (.int p0), .val (.int p1), .val (.int p2), .val (.int p3), .val (.int p4), .val (.int p5), .val (.int p6)] [(.ref r)])) t
                refine XS.dup X376.here hx rfl (hb hby dmk_128) rfl rfl ?_
                show Steps p.tables e below (T376.setTop (mkF m 129 #[.val (.int p0), .val (.int p1), .val (.int p2), .val (.int p3), .val (.int p4), .val (.int p5), .val (.int p6)] [(.ref r), (.ref r)])) t
                refine XS.iconst X376.here hx rfl (hb hby dmk_129) ?_
                exact ht
              obtain ⟨T384, h384, ak384, X384, e384, E384, A384, st384⟩ := newP X376 hx hZ (hw _ (List.mem_of_getElem? (i := 55) rfl)) e376 (g := (mkF m 130 #[.val (.int p0), .val (.int p1), .val (.int p2), .val (.int p3), .val (.int p4), .val (.int p5), .val (.int p6)] [(.int (5 : Int32)), (.ref r), (.ref r)])) rfl (hb hby dmk_130) rfl (by decide) (cap := 5) (by decide) (by decide) (by decide) (by decide)
              obtain ⟨ch, q384⟩ : ∃ z, z = h376.size := ⟨_, rfl⟩
              have ne_r_ch : r ≠ ch := by rw [q384]; exact Nat.ne_of_lt f376.lt
              have g_ch : n0 ≤ ch := by rw [q384]; exact f377
              have sz_ch : h0.size ≤ ch := by rw [q384]; exact f380.1
              rw [← q384] at A384 st384
              have f385 : n0 ≤ h384.size := Nat.le_trans f377 E384.1
              have f386 : CHr Z consts_1 s.vm h0 s.vm h384 := f378.trans (CHr.ext E384 f378.1)
              have f387 : Old Z n0 h384 := f379.ext E384
              have f388 : Keep h0 h384 [] := f380.ext E384
              have f389 : Safe Z consts_1 s.vm h384 r := Sf376.ext E384 f378.1
              have f390 : Exa Z h384 r "java/lang/String" := f376.ext E384
              have f391 : Fld Z h384 r "java/lang/String" "value" "[B" .null := f381.ext E384
              have f392 : Fld Z h384 r "java/lang/String" "coder" "B" (.int (0 : Int32)) := f382.ext E384
              have Sf384 : Safe Z consts_1 s.vm h384 ch := Safe.ext E384 f378.1 (Safe.new (by rw [q384]; exact Nat.le_refl _))
              have f384 : Arv Z h384 ch ak384 .char (5 : Int32) [(.int (0 : Int32)), (.int (0 : Int32)), (.int (0 : Int32)), (.int (0 : Int32)), (.int (0 : Int32))] (.int (0 : Int32)) := (Arv.new A384 (by decide)).pad (pad_rep [] (.int (0 : Int32)) 5)
              have k384 : Kt p e below m (s₁.setTop (entryFrame m #[(.int p0), (.int p1), (.int p2), (.int p3), (.int p4), (.int p5), (.int p6)] 7)) T384 132 #[.val (.int p0), .val (.int p1), .val (.int p2), .val (.int p3), .val (.int p4), .val (.int p5), .val (.int p6)] [(.ref ch), (.ref r), (.ref r)] := fun t ht => k383 t (st384 t ht)
              have k393 : Kt p e below m (s₁.setTop (entryFrame m #[(.int p0), (.int p1), (.int p2), (.int p3), (.int p4), (.int p5), (.int p6)] 7)) T384 135 #[.val (.int p0), .val (.int p1), .val (.int p2), .val (.int p3), .val (.int p4), .val (.int p5), .val (.int p6)] [(.int p1), (.int (0 : Int32)), (.ref ch), (.ref ch), (.ref r), (.ref r)] := by
                intro t ht
                refine k384 t ?_
                show Steps p.tables e below (T384.setTop (mkF m 132 #[.val (.int p0), .val (.int p1), .val (.int p2), .val (.int p3), .val (.int p4), .val (.int p5), .val (.int p6)] [(.ref ch), (.ref r), (.ref r)])) t
                refine XS.dup X384.here hx rfl (hb hby dmk_132) rfl rfl ?_
                show Steps p.tables e below (T384.setTop (mkF m 133 #[.val (.int p0), .val (.int p1), .val (.int p2), .val (.int p3), .val (.int p4), .val (.int p5), .val (.int p6)] [(.ref ch), (.ref ch), (.ref r), (.ref r)])) t
                refine XS.iconst X384.here hx rfl (hb hby dmk_133) ?_
                show Steps p.tables e below (T384.setTop (mkF m 134 #[.val (.int p0), .val (.int p1), .val (.int p2), .val (.int p3), .val (.int p4), .val (.int p5), .val (.int p6)] [(.int (0 : Int32)), (.ref ch), (.ref ch), (.ref r), (.ref r)])) t
                refine XS.iloadN X384.here hx rfl (hb hby dmk_134) rfl ?_
                exact ht
              obtain ⟨cl394, Ar394, qc394, Sz394, Nn394, Hh394, Gg394⟩ := id f384
              have hin394 : ¬ ((0 : Int32) < 0 ∨ cl394.slots.size ≤ ((0 : Int32)).toNatClampNeg) := inb_of Sz394 ⟨by decide, by decide⟩
              obtain ⟨T394, h394, X394, e394, W394, st394⟩ := stC X384 hx hZ e384 Ar394 (j := (0 : Int32)) hin394 (g := (mkF m 135 #[.val (.int p0), .val (.int p1), .val (.int p2), .val (.int p3), .val (.int p4), .val (.int p5), .val (.int p6)] [(.int p1), (.int (0 : Int32)), (.ref ch), (.ref ch), (.ref r), (.ref r)])) rfl rfl (hb hby dmk_135)
              have N394 := Fr.snoc X394 N0 g_ch
              have f395 : n0 ≤ h394.size := Nat.le_trans f385 (Keep.of_wr W394).1
              have f396 : CHr Z consts_1 s.vm h0 s.vm h394 := f386.trans (CHr.wr W394 Sf384 f386.1)
              have f397 : Old Z n0 h394 := f387.wr W394 g_ch
              have f398 : Keep h0 h394 [] := f388.wr W394 (Or.inr sz_ch)
              have f399 : Safe Z consts_1 s.vm h394 r := Safe.wr W394 Sf384 f386.1 f389
              have f400 : Exa Z h394 r "java/lang/String" := f390.wr W394
              have f401 : Fld Z h394 r "java/lang/String" "value" "[B" .null := f391.other W394 (Or.inl ne_r_ch)
              have f402 : Fld Z h394 r "java/lang/String" "coder" "B" (.int (0 : Int32)) := f392.other W394 (Or.inl ne_r_ch)
              have f403 : Safe Z consts_1 s.vm h394 ch := Safe.wr W394 Sf384 f386.1 Sf384
              have f404 : Arv Z h394 ch ak384 .char (5 : Int32) [(.int (nar .char p1)), (.int (0 : Int32)), (.int (0 : Int32)), (.int (0 : Int32)), (.int (0 : Int32))] (.int (0 : Int32)) := Arv.set Ar394 qc394 Sz394 Nn394 Hh394 Gg394 (fits_nar_char _) W394 0 rfl (Nat.le_of_ble_eq_true rfl)
              have k394 : Kt p e below m (s₁.setTop (entryFrame m #[(.int p0), (.int p1), (.int p2), (.int p3), (.int p4), (.int p5), (.int p6)] 7)) T394 136 #[.val (.int p0), .val (.int p1), .val (.int p2), .val (.int p3), .val (.int p4), .val (.int p5), .val (.int p6)] [(.ref ch), (.ref r), (.ref r)] := fun t ht => k393 t (st394 t ht)
              have k405 : Kt p e below m (s₁.setTop (entryFrame m #[(.int p0), (.int p1), (.int p2), (.int p3), (.int p4), (.int p5), (.int p6)] 7)) T394 139 #[.val (.int p0), .val (.int p1), .val (.int p2), .val (.int p3), .val (.int p4), .val (.int p5), .val (.int p6)] [(.int p2), (.int (1 : Int32)), (.ref ch), (.ref ch), (.ref r), (.ref r)] := by
                intro t ht
                refine k394 t ?_
                show Steps p.tables e below (T394.setTop (mkF m 136 #[.val (.int p0), .val (.int p1), .val (.int p2), .val (.int p3), .val (.int p4), .val (.int p5), .val (.int p6)] [(.ref ch), (.ref r), (.ref r)])) t
                refine XS.dup X394.here hx rfl (hb hby dmk_136) rfl rfl ?_
                show Steps p.tables e below (T394.setTop (mkF m 137 #[.val (.int p0), .val (.int p1), .val (.int p2), .val (.int p3), .val (.int p4), .val (.int p5), .val (.int p6)] [(.ref ch), (.ref ch), (.ref r), (.ref r)])) t
                refine XS.iconst X394.here hx rfl (hb hby dmk_137) ?_
                show Steps p.tables e below (T394.setTop (mkF m 138 #[.val (.int p0), .val (.int p1), .val (.int p2), .val (.int p3), .val (.int p4), .val (.int p5), .val (.int p6)] [(.int (1 : Int32)), (.ref ch), (.ref ch), (.ref r), (.ref r)])) t
                refine XS.iloadN X394.here hx rfl (hb hby dmk_138) rfl ?_
                exact ht
              obtain ⟨cl406, Ar406, qc406, Sz406, Nn406, Hh406, Gg406⟩ := id f404
              have hin406 : ¬ ((1 : Int32) < 0 ∨ cl406.slots.size ≤ ((1 : Int32)).toNatClampNeg) := inb_of Sz406 ⟨by decide, by decide⟩
              obtain ⟨T406, h406, X406, e406, W406, st406⟩ := stC X394 hx hZ e394 Ar406 (j := (1 : Int32)) hin406 (g := (mkF m 139 #[.val (.int p0), .val (.int p1), .val (.int p2), .val (.int p3), .val (.int p4), .val (.int p5), .val (.int p6)] [(.int p2), (.int (1 : Int32)), (.ref ch), (.ref ch), (.ref r), (.ref r)])) rfl rfl (hb hby dmk_139)
              have N406 := Fr.snoc X406 N394 g_ch
              have f407 : n0 ≤ h406.size := Nat.le_trans f395 (Keep.of_wr W406).1
              have f408 : CHr Z consts_1 s.vm h0 s.vm h406 := f396.trans (CHr.wr W406 f403 f396.1)
              have f409 : Old Z n0 h406 := f397.wr W406 g_ch
              have f410 : Keep h0 h406 [] := f398.wr W406 (Or.inr sz_ch)
              have f411 : Safe Z consts_1 s.vm h406 r := Safe.wr W406 f403 f396.1 f399
              have f412 : Exa Z h406 r "java/lang/String" := f400.wr W406
              have f413 : Fld Z h406 r "java/lang/String" "value" "[B" .null := f401.other W406 (Or.inl ne_r_ch)
              have f414 : Fld Z h406 r "java/lang/String" "coder" "B" (.int (0 : Int32)) := f402.other W406 (Or.inl ne_r_ch)
              have f415 : Safe Z consts_1 s.vm h406 ch := Safe.wr W406 f403 f396.1 f403
              have f416 : Arv Z h406 ch ak384 .char (5 : Int32) [(.int (nar .char p1)), (.int (nar .char p2)), (.int (0 : Int32)), (.int (0 : Int32)), (.int (0 : Int32))] (.int (0 : Int32)) := Arv.set Ar406 qc406 Sz406 Nn406 Hh406 Gg406 (fits_nar_char _) W406 1 rfl (Nat.le_of_ble_eq_true rfl)
              have k406 : Kt p e below m (s₁.setTop (entryFrame m #[(.int p0), (.int p1), (.int p2), (.int p3), (.int p4), (.int p5), (.int p6)] 7)) T406 140 #[.val (.int p0), .val (.int p1), .val (.int p2), .val (.int p3), .val (.int p4), .val (.int p5), .val (.int p6)] [(.ref ch), (.ref r), (.ref r)] := fun t ht => k405 t (st406 t ht)
              have k417 : Kt p e below m (s₁.setTop (entryFrame m #[(.int p0), (.int p1), (.int p2), (.int p3), (.int p4), (.int p5), (.int p6)] 7)) T406 143 #[.val (.int p0), .val (.int p1), .val (.int p2), .val (.int p3), .val (.int p4), .val (.int p5), .val (.int p6)] [(.int p3), (.int (2 : Int32)), (.ref ch), (.ref ch), (.ref r), (.ref r)] := by
                intro t ht
                refine k406 t ?_
                show Steps p.tables e below (T406.setTop (mkF m 140 #[.val (.int p0), .val (.int p1), .val (.int p2), .val (.int p3), .val (.int p4), .val (.int p5), .val (.int p6)] [(.ref ch), (.ref r), (.ref r)])) t
                refine XS.dup X406.here hx rfl (hb hby dmk_140) rfl rfl ?_
                show Steps p.tables e below (T406.setTop (mkF m 141 #[.val (.int p0), .val (.int p1), .val (.int p2), .val (.int p3), .val (.int p4), .val (.int p5), .val (.int p6)] [(.ref ch), (.ref ch), (.ref r), (.ref r)])) t
                refine XS.iconst X406.here hx rfl (hb hby dmk_141) ?_
                show Steps p.tables e below (T406.setTop (mkF m 142 #[.val (.int p0), .val (.int p1), .val (.int p2), .val (.int p3), .val (.int p4), .val (.int p5), .val (.int p6)] [(.int (2 : Int32)), (.ref ch), (.ref ch), (.ref r), (.ref r)])) t
                refine XS.iloadN X406.here hx rfl (hb hby dmk_142) rfl ?_
                exact ht
              obtain ⟨cl418, Ar418, qc418, Sz418, Nn418, Hh418, Gg418⟩ := id f416
              have hin418 : ¬ ((2 : Int32) < 0 ∨ cl418.slots.size ≤ ((2 : Int32)).toNatClampNeg) := inb_of Sz418 ⟨by decide, by decide⟩
              obtain ⟨T418, h418, X418, e418, W418, st418⟩ := stC X406 hx hZ e406 Ar418 (j := (2 : Int32)) hin418 (g := (mkF m 143 #[.val (.int p0), .val (.int p1), .val (.int p2), .val (.int p3), .val (.int p4), .val (.int p5), .val (.int p6)] [(.int p3), (.int (2 : Int32)), (.ref ch), (.ref ch), (.ref r), (.ref r)])) rfl rfl (hb hby dmk_143)
              have N418 := Fr.snoc X418 N406 g_ch
              have f419 : n0 ≤ h418.size := Nat.le_trans f407 (Keep.of_wr W418).1
              have f420 : CHr Z consts_1 s.vm h0 s.vm h418 := f408.trans (CHr.wr W418 f415 f408.1)
              have f421 : Old Z n0 h418 := f409.wr W418 g_ch
              have f422 : Keep h0 h418 [] := f410.wr W418 (Or.inr sz_ch)
              have f423 : Safe Z consts_1 s.vm h418 r := Safe.wr W418 f415 f408.1 f411
              have f424 : Exa Z h418 r "java/lang/String" := f412.wr W418
              have f425 : Fld Z h418 r "java/lang/String" "value" "[B" .null := f413.other W418 (Or.inl ne_r_ch)
              have f426 : Fld Z h418 r "java/lang/String" "coder" "B" (.int (0 : Int32)) := f414.other W418 (Or.inl ne_r_ch)
              have f427 : Safe Z consts_1 s.vm h418 ch := Safe.wr W418 f415 f408.1 f415
              have f428 : Arv Z h418 ch ak384 .char (5 : Int32) [(.int (nar .char p1)), (.int (nar .char p2)), (.int (nar .char p3)), (.int (0 : Int32)), (.int (0 : Int32))] (.int (0 : Int32)) := Arv.set Ar418 qc418 Sz418 Nn418 Hh418 Gg418 (fits_nar_char _) W418 2 rfl (Nat.le_of_ble_eq_true rfl)
              have k418 : Kt p e below m (s₁.setTop (entryFrame m #[(.int p0), (.int p1), (.int p2), (.int p3), (.int p4), (.int p5), (.int p6)] 7)) T418 144 #[.val (.int p0), .val (.int p1), .val (.int p2), .val (.int p3), .val (.int p4), .val (.int p5), .val (.int p6)] [(.ref ch), (.ref r), (.ref r)] := fun t ht => k417 t (st418 t ht)
              have k429 : Kt p e below m (s₁.setTop (entryFrame m #[(.int p0), (.int p1), (.int p2), (.int p3), (.int p4), (.int p5), (.int p6)] 7)) T418 148 #[.val (.int p0), .val (.int p1), .val (.int p2), .val (.int p3), .val (.int p4), .val (.int p5), .val (.int p6)] [(.int p4), (.int (3 : Int32)), (.ref ch), (.ref ch), (.ref r), (.ref r)] := by
                intro t ht
                refine k418 t ?_
                show Steps p.tables e below (T418.setTop (mkF m 144 #[.val (.int p0), .val (.int p1), .val (.int p2), .val (.int p3), .val (.int p4), .val (.int p5), .val (.int p6)] [(.ref ch), (.ref r), (.ref r)])) t
                refine XS.dup X418.here hx rfl (hb hby dmk_144) rfl rfl ?_
                show Steps p.tables e below (T418.setTop (mkF m 145 #[.val (.int p0), .val (.int p1), .val (.int p2), .val (.int p3), .val (.int p4), .val (.int p5), .val (.int p6)] [(.ref ch), (.ref ch), (.ref r), (.ref r)])) t
                refine XS.iconst X418.here hx rfl (hb hby dmk_145) ?_
                show Steps p.tables e below (T418.setTop (mkF m 146 #[.val (.int p0), .val (.int p1), .val (.int p2), .val (.int p3), .val (.int p4), .val (.int p5), .val (.int p6)] [(.int (3 : Int32)), (.ref ch), (.ref ch), (.ref r), (.ref r)])) t
                refine XS.iload X418.here hx rfl (hb hby dmk_146) rfl ?_
                exact ht
              obtain ⟨cl430, Ar430, qc430, Sz430, Nn430, Hh430, Gg430⟩ := id f428
              have hin430 : ¬ ((3 : Int32) < 0 ∨ cl430.slots.size ≤ ((3 : Int32)).toNatClampNeg) := inb_of Sz430 ⟨by decide, by decide⟩
              obtain ⟨T430, h430, X430, e430, W430, st430⟩ := stC X418 hx hZ e418 Ar430 (j := (3 : Int32)) hin430 (g := (mkF m 148 #[.val (.int p0), .val (.int p1), .val (.int p2), .val (.int p3), .val (.int p4), .val (.int p5), .val (.int p6)] [(.int p4), (.int (3 : Int32)), (.ref ch), (.ref ch), (.ref r), (.ref r)])) rfl rfl (hb hby dmk_148)
              have N430 := Fr.snoc X430 N418 g_ch
              have f431 : n0 ≤ h430.size := Nat.le_trans f419 (Keep.of_wr W430).1
              have f432 : CHr Z consts_1 s.vm h0 s.vm h430 := f420.trans (CHr.wr W430 f427 f420.1)
              have f433 : Old Z n0 h430 := f421.wr W430 g_ch
              have f434 : Keep h0 h430 [] := f422.wr W430 (Or.inr sz_ch)
              have f435 : Safe Z consts_1 s.vm h430 r := Safe.wr W430 f427 f420.1 f423
              have f436 : Exa Z h430 r "java/lang/String" := f424.wr W430
              have f437 : Fld Z h430 r "java/lang/String" "value" "[B" .null := f425.other W430 (Or.inl ne_r_ch)
              have f438 : Fld Z h430 r "java/lang/String" "coder" "B" (.int (0 : Int32)) := f426.other W430 (Or.inl ne_r_ch)
              have f439 : Safe Z consts_1 s.vm h430 ch := Safe.wr W430 f427 f420.1 f427
              have f440 : Arv Z h430 ch ak384 .char (5 : Int32) [(.int (nar .char p1)), (.int (nar .char p2)), (.int (nar .char p3)), (.int (nar .char p4)), (.int (0 : Int32))] (.int (0 : Int32)) := Arv.set Ar430 qc430 Sz430 Nn430 Hh430 Gg430 (fits_nar_char _) W430 3 rfl (Nat.le_of_ble_eq_true rfl)
              have k430 : Kt p e below m (s₁.setTop (entryFrame m #[(.int p0), (.int p1), (.int p2), (.int p3), (.int p4), (.int p5), (.int p6)] 7)) T430 149 #[.val (.int p0), .val (.int p1), .val (.int p2), .val (.int p3), .val (.int p4), .val (.int p5), .val (.int p6)] [(.ref ch), (.ref r), (.ref r)] := fun t ht => k429 t (st430 t ht)
              have k441 : Kt p e below m (s₁.setTop (entryFrame m #[(.int p0), (.int p1), (.int p2), (.int p3), (.int p4), (.int p5), (.int p6)] 7)) T430 153 #[.val (.int p0), .val (.int p1), .val (.int p2), .val (.int p3), .val (.int p4), .val (.int p5), .val (.int p6)] [(.int p5), (.int (4 : Int32)), (.ref ch), (.ref ch), (.ref r), (.ref r)] := by
                intro t ht
                refine k430 t ?_
                show Steps p.tables e below (T430.setTop (mkF m 149 #[.val (.int p0), .val (.int p1), .val (.int p2), .val (.int p3), .val (.int p4), .val (.int p5), .val (.int p6)] [(.ref ch), (.ref r), (.ref r)])) t
                refine XS.dup X430.here hx rfl (hb hby dmk_149) rfl rfl ?_
                show Steps p.tables e below (T430.setTop (mkF m 150 #[.val (.int p0), .val (.int p1), .val (.int p2), .val (.int p3), .val (.int p4), .val (.int p5), .val (.int p6)] [(.ref ch), (.ref ch), (.ref r), (.ref r)])) t
                refine XS.iconst X430.here hx rfl (hb hby dmk_150) ?_
                show Steps p.tables e below (T430.setTop (mkF m 151 #[.val (.int p0), .val (.int p1), .val (.int p2), .val (.int p3), .val (.int p4), .val (.int p5), .val (.int p6)] [(.int (4 : Int32)), (.ref ch), (.ref ch), (.ref r), (.ref r)])) t
                refine XS.iload X430.here hx rfl (hb hby dmk_151) rfl ?_
                exact ht
              obtain ⟨cl442, Ar442, qc442, Sz442, Nn442, Hh442, Gg442⟩ := id f440
              have hin442 : ¬ ((4 : Int32) < 0 ∨ cl442.slots.size ≤ ((4 : Int32)).toNatClampNeg) := inb_of Sz442 ⟨by decide, by decide⟩
              obtain ⟨T442, h442, X442, e442, W442, st442⟩ := stC X430 hx hZ e430 Ar442 (j := (4 : Int32)) hin442 (g := (mkF m 153 #[.val (.int p0), .val (.int p1), .val (.int p2), .val (.int p3), .val (.int p4), .val (.int p5), .val (.int p6)] [(.int p5), (.int (4 : Int32)), (.ref ch), (.ref ch), (.ref r), (.ref r)])) rfl rfl (hb hby dmk_153)
              have N442 := Fr.snoc X442 N430 g_ch
              have f443 : n0 ≤ h442.size := Nat.le_trans f431 (Keep.of_wr W442).1
              have f444 : CHr Z consts_1 s.vm h0 s.vm h442 := f432.trans (CHr.wr W442 f439 f432.1)
              have f445 : Old Z n0 h442 := f433.wr W442 g_ch
              have f446 : Keep h0 h442 [] := f434.wr W442 (Or.inr sz_ch)
              have f447 : Safe Z consts_1 s.vm h442 r := Safe.wr W442 f439 f432.1 f435
              have f448 : Exa Z h442 r "java/lang/String" := f436.wr W442
              have f449 : Fld Z h442 r "java/lang/String" "value" "[B" .null := f437.other W442 (Or.inl ne_r_ch)
              have f450 : Fld Z h442 r "java/lang/String" "coder" "B" (.int (0 : Int32)) := f438.other W442 (Or.inl ne_r_ch)
              have f451 : Safe Z consts_1 s.vm h442 ch := Safe.wr W442 f439 f432.1 f439
              have f452 : Arv Z h442 ch ak384 .char (5 : Int32) [(.int (nar .char p1)), (.int (nar .char p2)), (.int (nar .char p3)), (.int (nar .char p4)), (.int (nar .char p5))] (.int (0 : Int32)) := Arv.set Ar442 qc442 Sz442 Nn442 Hh442 Gg442 (fits_nar_char _) W442 4 rfl (Nat.le_of_ble_eq_true rfl)
              have k442 : Kt p e below m (s₁.setTop (entryFrame m #[(.int p0), (.int p1), (.int p2), (.int p3), (.int p4), (.int p5), (.int p6)] 7)) T442 154 #[.val (.int p0), .val (.int p1), .val (.int p2), .val (.int p3), .val (.int p4), .val (.int p5), .val (.int p6)] [(.ref ch), (.ref r), (.ref r)] := fun t ht => k441 t (st442 t ht)
              rw [own_nar r1] at f452
              rw [own_nar r2] at f452
              rw [own_nar r3] at f452
              rw [own_nar r4] at f452
              rw [own_nar r5] at f452
              have hp : ∀ c ∈ ([p1, p2, p3, p4, p5] : List Int32), ¬ c < 0 ∧ ¬ (255 : Int32) < c := (own_allS r1 (own_allS r2 (own_allS r3 (own_allS r4 (own_allS r5 own_all0)))))
              obtain ⟨_, _, ⟨T453, L453, c453, n453⟩, -, X453, ⟨Lc453, hQ453, l453, y453, z453⟩, st453⟩ := X442.specialBack hx (y := (⟨"java/lang/String", "<init>", "([C)V"⟩ : MethodName)) rfl hown (mvT hZ (hw _ (List.mem_of_getElem? (i := 56) rfl))) (mvT hZ (hw _ (List.mem_of_getElem? (i := 57) rfl))) (mvT hZ (hw _ (List.mem_of_getElem? (i := 58) rfl))) (by decide) (StrChars.Road.backV (W := 1) hZ hws (kI := 4) (hw _ (List.mem_of_getElem? (i := 6) rfl)) (cs := ([p1, p2, p3, p4, p5] : List Int32)) (bs := ([p1, p2, p3, p4, p5] : List Int32).map (fun c => c.toInt8.toInt32)) (n := 5) g_r f443 f448 f449 f450 f452 (S1.ext f445.2) P5 rfl rfl (by decide) (by decide) hp rfl (by decide) (by decide)) (g := (mkF m 154 #[.val (.int p0), .val (.int p1), .val (.int p2), .val (.int p3), .val (.int p4), .val (.int p5), .val (.int p6)] [(.ref ch), (.ref r), (.ref r)])) rfl (by rw [hml]; rfl) (Steps.refl _) (a := r) (argsL := [(.ref ch)]) (rest := [(.ref r)]) (lenOf pd_17 rfl) rfl (by show 2 * 0 + _ ≤ _; exact Nat.le_of_eq rfl) (hb hby dmk_154) (fun _ _ => ⟨rfl, e442, (by decide : 2 + 1 ≤ _), (by decide : 9 + 5 ≤ _)⟩)
              dsimp only [Pt.U, Pt.locs, Pt.cells, Pt.slots] at X453 l453 y453 z453 st453 hQ453
              subst l453 y453 z453
              obtain ⟨rfl, Nq453, Kp453, Ev453, Fc453, t453, kb453, -, -, -, Fv453, Va453⟩ := hQ453
              have N453 := Fr.app N442 Nq453
              have k453 : Kt p e below m (s₁.setTop (entryFrame m #[(.int p0), (.int p1), (.int p2), (.int p3), (.int p4), (.int p5), (.int p6)] 7)) T453 157 #[.val (.int p0), .val (.int p1), .val (.int p2), .val (.int p3), .val (.int p4), .val (.int p5), .val (.int p6)] [(.ref r)] := fun t ht => k442 t (st453.trans ht)
              have f454 : n0 ≤ T453.heap.size := Nat.le_trans f443 Kp453.1
              have f455 : CHr Z consts_1 s.vm h0 s.vm T453.heap := f444.trans (CHr.keep Kp453 (sfS f447 sf0) f444.1)
              have f456 : Old Z n0 T453.heap := f445.keep Kp453 (allS g_r all0)
              have f457 : Keep h0 T453.heap [] := f446.trans Kp453 (allS (Or.inr sz_r) all0)
              have f458 : Safe Z consts_1 s.vm T453.heap r := Safe.keep Kp453 (sfS f447 sf0) f444.1 f447
              have f459 : Exa Z T453.heap r "java/lang/String" := f448.keep Kp453
              have f462 : Safe Z consts_1 s.vm T453.heap ch := Safe.keep Kp453 (sfS f447 sf0) f444.1 f451
              have f463 : Arv Z T453.heap ch ak384 .char (5 : Int32) [(.int p1), (.int p2), (.int p3), (.int p4), (.int p5)] (.int (0 : Int32)) := f452.keep Kp453 (ninS ne_r_ch.symm nin0)
              obtain ⟨fs, hr, hrun, hended, -, hW, hbk, hsame⟩ := Stand.leaveW (s := s) (vm₁ := s.vm) X453 ((State.WarmedH.refl s).since 0) (Nat.zero_le _) (v := some (.ref r)) (fun h => by rw [Bd.returns] at h; cases h)
              refine ⟨_, _, k453 _ ?_, hrun, hended, _, _, rfl, ?_, ?_, ⟨_, rfl⟩, hW, hbk, hsame.mono (by decide) (by decide)⟩
              · show Steps p.tables e below (T453.setTop (mkF m 157 #[.val (.int p0), .val (.int p1), .val (.int p2), .val (.int p3), .val (.int p4), .val (.int p5), .val (.int p6)] [(.ref r)])) _
                jvm_step X453.here [X453.here.top, hx, (hb hby dmk_157), X453.method', Bd.returns, Value.isRef, FieldType.isReference]
                first | (intro acts; rw [hr _ acts rfl rfl rfl]) | rw [hr _ _ rfl rfl rfl]
                exact Steps.refl _
              · show Qmk Z p0 p1 p2 p3 p4 p5 p6 G1 h0 n0 _ T453.heap _
                exact ⟨r, t453, kb453, ([p1, p2, p3, p4, p5] : List Int32), rfl, N453, f457, Ev453, Fc453, Fv453, Va453, hp, by show 5 ≤ 4000; decide⟩
              · show CHr Z consts_1 s.vm s.heap T453.vm T453.heap
                rw [hh]
                exact f455.trans (CHv.at (s := s) (vm0 := s.vm) X453 hZ hEL f455.1)
            · have k464 : Kt p e below m (s₁.setTop (entryFrame m #[(.int p0), (.int p1), (.int p2), (.int p3), (.int p4), (.int p5), (.int p6)] 7)) s₁ 158 #[.val (.int p0), .val (.int p1), .val (.int p2), .val (.int p3), .val (.int p4), .val (.int p5), .val (.int p6)] [] := by
                intro t ht
                refine k374 t ?_
                show Steps p.tables e below (s₁.setTop (mkF m 122 #[.val (.int p0), .val (.int p1), .val (.int p2), .val (.int p3), .val (.int p4), .val (.int p5), .val (.int p6)] [(.int (5 : Int32)), (.int p0)])) t
                refine XS.icmpYes X0.here hx rfl (pc0 := 122) (pc' := 158) rfl (hb hby dmk_122) rfl (feq h5).2 (by decide) (by decide) ?_
                exact ht
              obtain ⟨T465, h465, X465, e465, E465, A465, D465, -, st465⟩ := newO X0 hx hZ hown (hw _ (List.mem_of_getElem? (i := 54) rfl)) (hw _ (List.mem_of_getElem? (i := 6) rfl)) (hw _ (List.mem_of_getElem? (i := 5) rfl)) e0 (g := (mkF m 158 #[.val (.int p0), .val (.int p1), .val (.int p2), .val (.int p3), .val (.int p4), .val (.int p5), .val (.int p6)] [])) rfl (hb hby dmk_158) (by decide) (by decide)
              obtain ⟨r, q465⟩ : ∃ z, z = h0.size := ⟨_, rfl⟩
              have g_r : n0 ≤ r := by rw [q465]; exact Z0
              have sz_r : h0.size ≤ r := by rw [q465]; exact K0.1
              rw [← q465] at A465 D465 st465
              have f466 : n0 ≤ h465.size := Nat.le_trans Z0 E465.1
              have f467 : CHr Z consts_1 s.vm h0 s.vm h465 := R0.trans (CHr.ext E465 R0.1)
              have f468 : Old Z n0 h465 := O.ext E465
              have f469 : Keep h0 h465 [] := K0.ext E465
              have Sf465 : Safe Z consts_1 s.vm h465 r := Safe.ext E465 R0.1 (Safe.new (by rw [q465]; exact Nat.le_refl _))
              have f465 : Exa Z h465 r "java/lang/String" := A465
              have f470 : Fld Z h465 r "java/lang/String" "value" "[B" .null := D465 (Or.inr (hw _ (List.mem_of_getElem? (i := 8) rfl))) (ty := (.array .byte)) (by decide)
              have f471 : Fld Z h465 r "java/lang/String" "coder" "B" (.int (0 : Int32)) := D465 (Or.inr (hw _ (List.mem_of_getElem? (i := 9) rfl))) (ty := .byte) (by decide)
              have k465 : Kt p e below m (s₁.setTop (entryFrame m #[(.int p0), (.int p1), (.int p2), (.int p3), (.int p4), (.int p5), (.int p6)] 7)) T465 161 #[.val (.int p0), .val (.int p1), .val (.int p2), .val (.int p3), .val (.int p4), .val (.int p5), .val (.int p6)] [(.ref r)] := fun t ht => k464 t (st465 t ht)
              have k472 : Kt p e below m (s₁.setTop (entryFrame m #[(.int p0), (.int p1), (.int p2), (.int p3), (.int p4), (.int p5), (.int p6)] 7)) T465 164 #[.val (.int p0), .val (.int p1), .val (.int p2), .val (.int p3), .val (.int p4), .val (.int p5), .val (.int p6)] [(.int (6 : Int32)), (.ref r), (.ref r)] := by
                intro t ht
                refine k465 t ?_
                show Steps p.tables e below (T465.setTop (mkF m 161 #[.val (.int p0), .val (.int p1), .val (.int p2), .val (.int p3), .val (.int p4), .val (.int p5), .val (.int p6)] [(.ref r)])) t
                refine XS.dup X465.here hx rfl (hb hby dmk_161) rfl rfl ?_
                show Steps p.tables e below (T465.setTop (mkF m 162 #[.val (.int p0), .val (.int p1), .val (.int p2), .val (.int p3), .val (.int p4), .val (.int p5), .val (.int p6)] [(.ref r), (.ref r)])) t
                refine XS.bipush X465.here hx rfl (hb hby dmk_162) ?_
                exact ht
              obtain ⟨T473, h473, ak473, X473, e473, E473, A473, st473⟩ := newP X465 hx hZ (hw _ (List.mem_of_getElem? (i := 55) rfl)) e465 (g := (mkF m 164 #[.val (.int p0), .val (.int p1), .val (.int p2), .val (.int p3), .val (.int p4), .val (.int p5), .val (.int p6)] [(.int (6 : Int32)), (.ref r), (.ref r)])) rfl (hb hby dmk_164) rfl (by decide) (cap := 6) (by decide) (by decide) (by decide) (by decide)
              obtain ⟨ch, q473⟩ : ∃ z, z = h465.size := ⟨_, rfl⟩
              have ne_r_ch : r ≠ ch := by rw [q473]; exact Nat.ne_of_lt f465.lt
              have g_ch : n0 ≤ ch := by rw [q473]; exact f466
              have sz_ch : h0.size ≤ ch := by rw [q473]; exact f469.1
              rw [← q473] at A473 st473
              have f474 : n0 ≤ h473.size := Nat.le_trans f466 E473.1
              have f475 : CHr Z consts_1 s.vm h0 s.vm h473 := f467.trans (CHr.ext E473 f467.1)
              have f476 : Old Z n0 h473 := f468.ext E473
              have f477 : Keep h0 h473 [] := f469.ext E473
              have f478 : Safe Z consts_1 s.vm h473 r := Sf465.ext E473 f467.1
              have f479 : Exa Z h473 r "java/lang/String" := f465.ext E473
              have f480 : Fld Z h473 r "java/lang/String" "value" "[B" .null := f470.ext E473
              have f481 : Fld Z h473 r "java/lang/String" "coder" "B" (.int (0 : Int32)) := f471.ext E473
              have Sf473 : Safe Z consts_1 s.vm h473 ch := Safe.ext E473 f467.1 (Safe.new (by rw [q473]; exact Nat.le_refl _))
              have f473 : Arv Z h473 ch ak473 .char (6 : Int32) [(.int (0 : Int32)), (.int (0 : Int32)), (.int (0 : Int32)), (.int (0 : Int32)), (.int (0 : Int32)), (.int (0 : Int32))] (.int (0 : Int32)) := (Arv.new A473 (by decide)).pad (pad_rep [] (.int (0 : Int32)) 6)
              have k473 : Kt p e below m (s₁.setTop (entryFrame m #[(.int p0), (.int p1), (.int p2), (.int p3), (.int p4), (.int p5), (.int p6)] 7)) T473 166 #[.val (.int p0), .val (.int p1), .val (.int p2), .val (.int p3), .val (.int p4), .val (.int p5), .val (.int p6)] [(.ref ch), (.ref r), (.ref r)] := fun t ht => k472 t (st473 t ht)
              have k482 : Kt p e below m (s₁.setTop (entryFrame m #[(.int p0), (.int p1), (.int p2), (.int p3), (.int p4), (.int p5), (.int p6)] 7)) T473 169 #[.val (.int p0), .val (.int p1), .val (.int p2), .val (.int p3), .val (.int p4), .val (.int p5), .val (.int p6)] [(.int p1), (.int (0 : Int32)), (.ref ch), (.ref ch), (.ref r), (.ref r)] := by
                intro t ht
                refine k473 t ?_
                show Steps p.tables e below (T473.setTop (mkF m 166 #[.val (.int p0), .val (.int p1), .val (.int p2), .val (.int p3), .val (.int p4), .val (.int p5), .val (.int p6)] [(.ref ch), (.ref r), (.ref r)])) t
                refine XS.dup X473.here hx rfl (hb hby dmk_166) rfl rfl ?_
                show Steps p.tables e below (T473.setTop (mkF m 167 #[.val (.int p0), .val (.int p1), .val (.int p2), .val (.int p3), .val (.int p4), .val (.int p5), .val (.int p6)] [(.ref ch), (.ref ch), (.ref r), (.ref r)])) t
                refine XS.iconst X473.here hx rfl (hb hby dmk_167) ?_
                show Steps p.tables e below (T473.setTop (mkF m 168 #[.val (.int p0), .val (.int p1), .val (.int p2), .val (.int p3), .val (.int p4), .val (.int p5), .val (.int p6)] [(.int (0 : Int32)), (.ref ch), (.ref ch), (.ref r), (.ref r)])) t
                refine XS.iloadN X473.here hx rfl (hb hby dmk_168) rfl ?_
                exact ht
              obtain ⟨cl483, Ar483, qc483, Sz483, Nn483, Hh483, Gg483⟩ := id f473
              have hin483 : ¬ ((0 : Int32) < 0 ∨ cl483.slots.size ≤ ((0 : Int32)).toNatClampNeg) := inb_of Sz483 ⟨by decide, by decide⟩
              obtain ⟨T483, h483, X483, e483, W483, st483⟩ := stC X473 hx hZ e473 Ar483 (j := (0 : Int32)) hin483 (g := (mkF m 169 #[.val (.int p0), .val (.int p1), .val (.int p2), .val (.int p3), .val (.int p4), .val (.int p5), .val (.int p6)] [(.int p1), (.int (0 : Int32)), (.ref ch), (.ref ch), (.ref r), (.ref r)])) rfl rfl (hb hby dmk_169)
              have N483 := Fr.snoc X483 N0 g_ch
              have f484 : n0 ≤ h483.size := Nat.le_trans f474 (Keep.of_wr W483).1
              have f485 : CHr Z consts_1 s.vm h0 s.vm h483 := f475.trans (CHr.wr W483 Sf473 f475.1)
              have f486 : Old Z n0 h483 := f476.wr W483 g_ch
              have f487 : Keep h0 h483 [] := f477.wr W483 (Or.inr sz_ch)
              have f488 : Safe Z consts_1 s.vm h483 r := Safe.wr W483 Sf473 f475.1 f478
              have f489 : Exa Z h483 r "java/lang/String" := f479.wr W483
              have f490 : Fld Z h483 r "java/lang/String" "value" "[B" .null := f480.other W483 (Or.inl ne_r_ch)
              have f491 : Fld Z h483 r "java/lang/String" "coder" "B" (.int (0 : Int32)) := f481.other W483 (Or.inl ne_r_ch)
              have f492 : Safe Z consts_1 s.vm h483 ch := Safe.wr W483 Sf473 f475.1 Sf473
              have f493 : Arv Z h483 ch ak473 .char (6 : Int32) [(.int (nar .char p1)), (.int (0 : Int32)), (.int (0 : Int32)), (.int (0 : Int32)), (.int (0 : Int32)), (.int (0 : Int32))] (.int (0 : Int32)) := Arv.set Ar483 qc483 Sz483 Nn483 Hh483 Gg483 (fits_nar_char _) W483 0 rfl (Nat.le_of_ble_eq_true rfl)
              have k483 : Kt p e below m (s₁.setTop (entryFrame m #[(.int p0), (.int p1), (.int p2), (.int p3), (.int p4), (.int p5), (.int p6)] 7)) T483 170 #[.val (.int p0), .val (.int p1), .val (.int p2), .val (.int p3), .val (.int p4), .val (.int p5), .val (.int p6)] [(.ref ch), (.ref r), (.ref r)] := fun t ht => k482 t (st483 t ht)
              have k494 : Kt p e below m (s₁.setTop (entryFrame m #[(.int p0), (.int p1), (.int p2), (.int p3), (.int p4), (.int p5), (.int p6)] 7)) T483 173 #[.val (.int p0), .val (.int p1), .val (.int p2), .val (.int p3), .val (.int p4), .val (.int p5), .val (.int p6)] [(.int p2), (.int (1 : Int32)), (.ref ch), (.ref ch), (.ref r), (.ref r)] := by
                intro t ht
                refine k483 t ?_
                show Steps p.tables e below (T483.setTop (mkF m 170 #[.val (.int p0), .val (.int p1), .val (.int p2), .val (.int p3), .val (.int p4), .val (.int p5), .val (.int p6)] [(.ref ch), (.ref r), (.ref r)])) t
                refine XS.dup X483.here hx rfl (hb hby dmk_170) rfl rfl ?_
                show Steps p.tables e below (T483.setTop (mkF m 171 #[.val (.int p0), .val (.int p1), .val (.int p2), .val (.int p3), .val (.int p4), .val (.int p5), .val (.int p6)] [(.ref ch), (.ref ch), (.ref r), (.ref r)])) t
                refine XS.iconst X483.here hx rfl (hb hby dmk_171) ?_
                show Steps p.tables e below (T483.setTop (mkF m 172 #[.val (.int p0), .val (.int p1), .val (.int p2), .val (.int p3), .val (.int p4), .val (.int p5), .val (.int p6)] [(.int (1 : Int32)), (.ref ch), (.ref ch), (.ref r), (.ref r)])) t
                refine XS.iloadN X483.here hx rfl (hb hby dmk_172) rfl ?_
                exact ht
              obtain ⟨cl495, Ar495, qc495, Sz495, Nn495, Hh495, Gg495⟩ := id f493
              have hin495 : ¬ ((1 : Int32) < 0 ∨ cl495.slots.size ≤ ((1 : Int32)).toNatClampNeg) := inb_of Sz495 ⟨by decide, by decide⟩
              obtain ⟨T495, h495, X495, e495, W495, st495⟩ := stC X483 hx hZ e483 Ar495 (j := (1 : Int32)) hin495 (g := (mkF m 173 #[.val (.int p0), .val (.int p1), .val (.int p2), .val (.int p3), .val (.int p4), .val (.int p5), .val (.int p6)] [(.int p2), (.int (1 : Int32)), (.ref ch), (.ref ch), (.ref r), (.ref r)])) rfl rfl (hb hby dmk_173)
              have N495 := Fr.snoc X495 N483 g_ch
              have f496 : n0 ≤ h495.size := Nat.le_trans f484 (Keep.of_wr W495).1
              have f497 : CHr Z consts_1 s.vm h0 s.vm h495 := f485.trans (CHr.wr W495 f492 f485.1)
              have f498 : Old Z n0 h495 := f486.wr W495 g_ch
              have f499 : Keep h0 h495 [] := f487.wr W495 (Or.inr sz_ch)
              have f500 : Safe Z consts_1 s.vm h495 r := Safe.wr W495 f492 f485.1 f488
              have f501 : Exa Z h495 r "java/lang/String" := f489.wr W495
              have f502 : Fld Z h495 r "java/lang/String" "value" "[B" .null := f490.other W495 (Or.inl ne_r_ch)
              have f503 : Fld Z h495 r "java/lang/String" "coder" "B" (.int (0 : Int32)) := f491.other W495 (Or.inl ne_r_ch)
              have f504 : Safe Z consts_1 s.vm h495 ch := Safe.wr W495 f492 f485.1 f492
              have f505 : Arv Z h495 ch ak473 .char (6 : Int32) [(.int (nar .char p1)), (.int (nar .char p2)), (.int (0 : Int32)), (.int (0 : Int32)), (.int (0 : Int32)), (.int (0 : Int32))] (.int (0 : Int32)) := Arv.set Ar495 qc495 Sz495 Nn495 Hh495 Gg495 (fits_nar_char _) W495 1 rfl (Nat.le_of_ble_eq_true rfl)
              have k495 : Kt p e below m (s₁.setTop (entryFrame m #[(.int p0), (.int p1), (.int p2), (.int p3), (.int p4), (.int p5), (.int p6)] 7)) T495 174 #[.val (.int p0), .val (.int p1), .val (.int p2), .val (.int p3), .val (.int p4), .val (.int p5), .val (.int p6)] [(.ref ch), (.ref r), (.ref r)] := fun t ht => k494 t (st495 t ht)
              have k506 : Kt p e below m (s₁.setTop (entryFrame m #[(.int p0), (.int p1), (.int p2), (.int p3), (.int p4), (.int p5), (.int p6)] 7)) T495 177 #[.val (.int p0), .val (.int p1), .val (.int p2), .val (.int p3), .val (.int p4), .val (.int p5), .val (.int p6)] [(.int p3), (.int (2 : Int32)), (.ref ch), (.ref ch), (.ref r), (.ref r)] := by
                intro t ht
                refine k495 t ?_
                show Steps p.tables e below (T495.setTop (mkF m 174 #[.val (.int p0), .val (.int p1), .val (.int p2), .val (.int p3), .val (.int p4), .val (.int p5), .val (.int p6)] [(.ref ch), (.ref r), (.ref r)])) t
                refine XS.dup X495.here hx rfl (hb hby dmk_174) rfl rfl ?_
                show Steps p.tables e below (T495.setTop (mkF m 175 #[.val (.int p0), .val (.int p1), .val (.int p2), .val (.int p3), .val (.int p4), .val (.int p5), .val (.int p6)] [(.ref ch), (.ref ch), (.ref r), (.ref r)])) t
                refine XS.iconst X495.here hx rfl (hb hby dmk_175) ?_
                show Steps p.tables e below (T495.setTop (mkF m 176 #[.val (.int p0), .val (.int p1), .val (.int p2), .val (.int p3), .val (.int p4), .val (.int p5), .val (.int p6)] [(.int (2 : Int32)), (.ref ch), (.ref ch), (.ref r), (.ref r)])) t
                refine XS.iloadN X495.here hx rfl (hb hby dmk_176) rfl ?_
                exact ht
              obtain ⟨cl507, Ar507, qc507, Sz507, Nn507, Hh507, Gg507⟩ := id f505
              have hin507 : ¬ ((2 : Int32) < 0 ∨ cl507.slots.size ≤ ((2 : Int32)).toNatClampNeg) := inb_of Sz507 ⟨by decide, by decide⟩
              obtain ⟨T507, h507, X507, e507, W507, st507⟩ := stC X495 hx hZ e495 Ar507 (j := (2 : Int32)) hin507 (g := (mkF m 177 #[.val (.int p0), .val (.int p1), .val (.int p2), .val (.int p3), .val (.int p4), .val (.int p5), .val (.int p6)] [(.int p3), (.int (2 : Int32)), (.ref ch), (.ref ch), (.ref r), (.ref r)])) rfl rfl (hb hby dmk_177)
              have N507 := Fr.snoc X507 N495 g_ch
              have f508 : n0 ≤ h507.size := Nat.le_trans f496 (Keep.of_wr W507).1
              have f509 : CHr Z consts_1 s.vm h0 s.vm h507 := f497.trans (CHr.wr W507 f504 f497.1)
              have f510 : Old Z n0 h507 := f498.wr W507 g_ch
              have f511 : Keep h0 h507 [] := f499.wr W507 (Or.inr sz_ch)
              have f512 : Safe Z consts_1 s.vm h507 r := Safe.wr W507 f504 f497.1 f500
              have f513 : Exa Z h507 r "java/lang/String" := f501.wr W507
              have f514 : Fld Z h507 r "java/lang/String" "value" "[B" .null := f502.other W507 (Or.inl ne_r_ch)
              have f515 : Fld Z h507 r "java/lang/String" "coder" "B" (.int (0 : Int32)) := f503.other W507 (Or.inl ne_r_ch)
              have f516 : Safe Z consts_1 s.vm h507 ch := Safe.wr W507 f504 f497.1 f504
              have f517 : Arv Z h507 ch ak473 .char (6 : Int32) [(.int (nar .char p1)), (.int (nar .char p2)), (.int (nar .char p3)), (.int (0 : Int32)), (.int (0 : Int32)), (.int (0 : Int32))] (.int (0 : Int32)) := Arv.set Ar507 qc507 Sz507 Nn507 Hh507 Gg507 (fits_nar_char _) W507 2 rfl (Nat.le_of_ble_eq_true rfl)
              have k507 : Kt p e below m (s₁.setTop (entryFrame m #[(.int p0), (.int p1), (.int p2), (.int p3), (.int p4), (.int p5), (.int p6)] 7)) T507 178 #[.val (.int p0), .val (.int p1), .val (.int p2), .val (.int p3), .val (.int p4), .val (.int p5), .val (.int p6)] [(.ref ch), (.ref r), (.ref r)] := fun t ht => k506 t (st507 t ht)
              have k518 : Kt p e below m (s₁.setTop (entryFrame m #[(.int p0), (.int p1), (.int p2), (.int p3), (.int p4), (.int p5), (.int p6)] 7)) T507 182 #[.val (.int p0), .val (.int p1), .val (.int p2), .val (.int p3), .val (.int p4), .val (.int p5), .val (.int p6)] [(.int p4), (.int (3 : Int32)), (.ref ch), (.ref ch), (.ref r), (.ref r)] := by
                intro t ht
                refine k507 t ?_
                show Steps p.tables e below (T507.setTop (mkF m 178 #[.val (.int p0), .val (.int p1), .val (.int p2), .val (.int p3), .val (.int p4), .val (.int p5), .val (.int p6)] [(.ref ch), (.ref r), (.ref r)])) t
                refine XS.dup X507.here hx rfl (hb hby dmk_178) rfl rfl ?_
                show Steps p.tables e below (T507.setTop (mkF m 179 #[.val (.int p0), .val (.int p1), .val (.int p2), .val (.int p3), .val (.int p4), .val (.int p5), .val (.int p6)] [(.ref ch), (.ref ch), (.ref r), (.ref r)])) t
                refine XS.iconst X507.here hx rfl (hb hby dmk_179) ?_
                show Steps p.tables e below (T507.setTop (mkF m 180 #[.val (.int p0), .val (.int p1), .val (.int p2), .val (.int p3), .val (.int p4), .val (.int p5), .val (.int p6)] [(.int (3 : Int32)), (.ref ch), (.ref ch), (.ref r), (.ref r)])) t
                refine XS.iload X507.here hx rfl (hb hby dmk_180) rfl ?_
                exact ht
              obtain ⟨cl519, Ar519, qc519, Sz519, Nn519, Hh519, Gg519⟩ := id f517
              have hin519 : ¬ ((3 : Int32) < 0 ∨ cl519.slots.size ≤ ((3 : Int32)).toNatClampNeg) := inb_of Sz519 ⟨by decide, by decide⟩
              obtain ⟨T519, h519, X519, e519, W519, st519⟩ := stC X507 hx hZ e507 Ar519 (j := (3 : Int32)) hin519 (g := (mkF m 182 #[.val (.int p0), .val (.int p1), .val (.int p2), .val (.int p3), .val (.int p4), .val (.int p5), .val (.int p6)] [(.int p4), (.int (3 : Int32)), (.ref ch), (.ref ch), (.ref r), (.ref r)])) rfl rfl (hb hby dmk_182)
              have N519 := Fr.snoc X519 N507 g_ch
              have f520 : n0 ≤ h519.size := Nat.le_trans f508 (Keep.of_wr W519).1
              have f521 : CHr Z consts_1 s.vm h0 s.vm h519 := f509.trans (CHr.wr W519 f516 f509.1)
              have f522 : Old Z n0 h519 := f510.wr W519 g_ch
              have f523 : Keep h0 h519 [] := f511.wr W519 (Or.inr sz_ch)
              have f524 : Safe Z consts_1 s.vm h519 r := Safe.wr W519 f516 f509.1 f512
              have f525 : Exa Z h519 r "java/lang/String" := f513.wr W519
              have f526 : Fld Z h519 r "java/lang/String" "value" "[B" .null := f514.other W519 (Or.inl ne_r_ch)
              have f527 : Fld Z h519 r "java/lang/String" "coder" "B" (.int (0 : Int32)) := f515.other W519 (Or.inl ne_r_ch)
              have f528 : Safe Z consts_1 s.vm h519 ch := Safe.wr W519 f516 f509.1 f516
              have f529 : Arv Z h519 ch ak473 .char (6 : Int32) [(.int (nar .char p1)), (.int (nar .char p2)), (.int (nar .char p3)), (.int (nar .char p4)), (.int (0 : Int32)), (.int (0 : Int32))] (.int (0 : Int32)) := Arv.set Ar519 qc519 Sz519 Nn519 Hh519 Gg519 (fits_nar_char _) W519 3 rfl (Nat.le_of_ble_eq_true rfl)
              have k519 : Kt p e below m (s₁.setTop (entryFrame m #[(.int p0), (.int p1), (.int p2), (.int p3), (.int p4), (.int p5), (.int p6)] 7)) T519 183 #[.val (.int p0), .val (.int p1), .val (.int p2), .val (.int p3), .val (.int p4), .val (.int p5), .val (.int p6)] [(.ref ch), (.ref r), (.ref r)] := fun t ht => k518 t (st519 t ht)
              have k530 : Kt p e below m (s₁.setTop (entryFrame m #[(.int p0), (.int p1), (.int p2), (.int p3), (.int p4), (.int p5), (.int p6)] 7)) T519 187 #[.val (.int p0), .val (.int p1), .val (.int p2), .val (.int p3), .val (.int p4), .val (.int p5), .val (.int p6)] [(.int p5), (.int (4 : Int32)), (.ref ch), (.ref ch), (.ref r), (.ref r)] := by
                intro t ht
                refine k519 t ?_
                show Steps p.tables e below (T519.setTop (mkF m 183 #[.val (.int p0), .val (.int p1), .val (.int p2), .val (.int p3), .val (.int p4), .val (.int p5), .val (.int p6)] [(.ref ch), (.ref r), (.ref r)])) t
                refine XS.dup X519.here hx rfl (hb hby dmk_183) rfl rfl ?_
                show Steps p.tables e below (T519.setTop (mkF m 184 #[.val (.int p0), .val (.int p1), .val (.int p2), .val (.int p3), .val (.int p4), .val (.int p5), .val (.int p6)] [(.ref ch), (.ref ch), (.ref r), (.ref r)])) t
                refine XS.iconst X519.here hx rfl (hb hby dmk_184) ?_
                show Steps p.tables e below (T519.setTop (mkF m 185 #[.val (.int p0), .val (.int p1), .val (.int p2), .val (.int p3), .val (.int p4), .val (.int p5), .val (.int p6)] [(.int (4 : Int32)), (.ref ch), (.ref ch), (.ref r), (.ref r)])) t
                refine XS.iload X519.here hx rfl (hb hby dmk_185) rfl ?_
                exact ht
              obtain ⟨cl531, Ar531, qc531, Sz531, Nn531, Hh531, Gg531⟩ := id f529
              have hin531 : ¬ ((4 : Int32) < 0 ∨ cl531.slots.size ≤ ((4 : Int32)).toNatClampNeg) := inb_of Sz531 ⟨by decide, by decide⟩
              obtain ⟨T531, h531, X531, e531, W531, st531⟩ := stC X519 hx hZ e519 Ar531 (j := (4 : Int32)) hin531 (g := (mkF m 187 #[.val (.int p0), .val (.int p1), .val (.int p2), .val (.int p3), .val (.int p4), .val (.int p5), .val (.int p6)] [(.int p5), (.int (4 : Int32)), (.ref ch), (.ref ch), (.ref r), (.ref r)])) rfl rfl (hb hby dmk_187)
              have N531 := Fr.snoc X531 N519 g_ch
              have f532 : n0 ≤ h531.size := Nat.le_trans f520 (Keep.of_wr W531).1
              have f533 : CHr Z consts_1 s.vm h0 s.vm h531 := f521.trans (CHr.wr W531 f528 f521.1)
              have f534 : Old Z n0 h531 := f522.wr W531 g_ch
              have f535 : Keep h0 h531 [] := f523.wr W531 (Or.inr sz_ch)
              have f536 : Safe Z consts_1 s.vm h531 r := Safe.wr W531 f528 f521.1 f524
              have f537 : Exa Z h531 r "java/lang/String" := f525.wr W531
              have f538 : Fld Z h531 r "java/lang/String" "value" "[B" .null := f526.other W531 (Or.inl ne_r_ch)
              have f539 : Fld Z h531 r "java/lang/String" "coder" "B" (.int (0 : Int32)) := f527.other W531 (Or.inl ne_r_ch)
              have f540 : Safe Z consts_1 s.vm h531 ch := Safe.wr W531 f528 f521.1 f528
              have f541 : Arv Z h531 ch ak473 .char (6 : Int32) [(.int (nar .char p1)), (.int (nar .char p2)), (.int (nar .char p3)), (.int (nar .char p4)), (.int (nar .char p5)), (.int (0 : Int32))] (.int (0 : Int32)) := Arv.set Ar531 qc531 Sz531 Nn531 Hh531 Gg531 (fits_nar_char _) W531 4 rfl (Nat.le_of_ble_eq_true rfl)
              have k531 : Kt p e below m (s₁.setTop (entryFrame m #[(.int p0), (.int p1), (.int p2), (.int p3), (.int p4), (.int p5), (.int p6)] 7)) T531 188 #[.val (.int p0), .val (.int p1), .val (.int p2), .val (.int p3), .val (.int p4), .val (.int p5), .val (.int p6)] [(.ref ch), (.ref r), (.ref r)] := fun t ht => k530 t (st531 t ht)
              have k542 : Kt p e below m (s₁.setTop (entryFrame m #[(.int p0), (.int p1), (.int p2), (.int p3), (.int p4), (.int p5), (.int p6)] 7)) T531 192 #[.val (.int p0), .val (.int p1), .val (.int p2), .val (.int p3), .val (.int p4), .val (.int p5), .val (.int p6)] [(.int p6), (.int (5 : Int32)), (.ref ch), (.ref ch), (.ref r), (.ref r)] := by
                intro t ht
                refine k531 t ?_
                show Steps p.tables e below (T531.setTop (mkF m 188 #[.val (.int p0), .val (.int p1), .val (.int p2), .val (.int p3), .val (.int p4), .val (.int p5), .val (.int p6)] [(.ref ch), (.ref r), (.ref r)])) t
                refine XS.dup X531.here hx rfl (hb hby dmk_188) rfl rfl ?_
                show Steps p.tables e below (T531.setTop (mkF m 189 #[.val (.int p0), .val (.int p1), .val (.int p2), .val (.int p3), .val (.int p4), .val (.int p5), .val (.int p6)] [(.ref ch), (.ref ch), (.ref r), (.ref r)])) t
                refine XS.iconst X531.here hx rfl (hb hby dmk_189) ?_
                show Steps p.tables e below (T531.setTop (mkF m 190 #[.val (.int p0), .val (.int p1), .val (.int p2), .val (.int p3), .val (.int p4), .val (.int p5), .val (.int p6)] [(.int (5 : Int32)), (.ref ch), (.ref ch), (.ref r), (.ref r)])) t
                refine XS.iload X531.here hx rfl (hb hby dmk_190) rfl ?_
                exact ht
              obtain ⟨cl543, Ar543, qc543, Sz543, Nn543, Hh543, Gg543⟩ := id f541
              have hin543 : ¬ ((5 : Int32) < 0 ∨ cl543.slots.size ≤ ((5 : Int32)).toNatClampNeg) := inb_of Sz543 ⟨by decide, by decide⟩
              obtain ⟨T543, h543, X543, e543, W543, st543⟩ := stC X531 hx hZ e531 Ar543 (j := (5 : Int32)) hin543 (g := (mkF m 192 #[.val (.int p0), .val (.int p1), .val (.int p2), .val (.int p3), .val (.int p4), .val (.int p5), .val (.int p6)] [(.int p6), (.int (5 : Int32)), (.ref ch), (.ref ch), (.ref r), (.ref r)])) rfl rfl (hb hby dmk_192)
              have N543 := Fr.snoc X543 N531 g_ch
              have f544 : n0 ≤ h543.size := Nat.le_trans f532 (Keep.of_wr W543).1
              have f545 : CHr Z consts_1 s.vm h0 s.vm h543 := f533.trans (CHr.wr W543 f540 f533.1)
              have f546 : Old Z n0 h543 := f534.wr W543 g_ch
              have f547 : Keep h0 h543 [] := f535.wr W543 (Or.inr sz_ch)
              have f548 : Safe Z consts_1 s.vm h543 r := Safe.wr W543 f540 f533.1 f536
              have f549 : Exa Z h543 r "java/lang/String" := f537.wr W543
              have f550 : Fld Z h543 r "java/lang/String" "value" "[B" .null := f538.other W543 (Or.inl ne_r_ch)
              have f551 : Fld Z h543 r "java/lang/String" "coder" "B" (.int (0 : Int32)) := f539.other W543 (Or.inl ne_r_ch)
              have f552 : Safe Z consts_1 s.vm h543 ch := Safe.wr W543 f540 f533.1 f540
              have f553 : Arv Z h543 ch ak473 .char (6 : Int32) [(.int (nar .char p1)), (.int (nar .char p2)), (.int (nar .char p3)), (.int (nar .char p4)), (.int (nar .char p5)), (.int (nar .char p6))] (.int (0 : Int32)) := Arv.set Ar543 qc543 Sz543 Nn543 Hh543 Gg543 (fits_nar_char _) W543 5 rfl (Nat.le_of_ble_eq_true rfl)
              have k543 : Kt p e below m (s₁.setTop (entryFrame m #[(.int p0), (.int p1), (.int p2), (.int p3), (.int p4), (.int p5), (.int p6)] 7)) T543 193 #[.val (.int p0), .val (.int p1), .val (.int p2), .val (.int p3), .val (.int p4), .val (.int p5), .val (.int p6)] [(.ref ch), (.ref r), (.ref r)] := fun t ht => k542 t (st543 t ht)
              rw [own_nar r1] at f553
              rw [own_nar r2] at f553
              rw [own_nar r3] at f553
              rw [own_nar r4] at f553
              rw [own_nar r5] at f553
              rw [own_nar r6] at f553
              have hp : ∀ c ∈ ([p1, p2, p3, p4, p5, p6] : List Int32), ¬ c < 0 ∧ ¬ (255 : Int32) < c := (own_allS r1 (own_allS r2 (own_allS r3 (own_allS r4 (own_allS r5 (own_allS r6 own_all0))))))
              obtain ⟨_, _, ⟨T554, L554, c554, n554⟩, -, X554, ⟨Lc554, hQ554, l554, y554, z554⟩, st554⟩ := X543.specialBack hx (y := (⟨"java/lang/String", "<init>", "([C)V"⟩ : MethodName)) rfl hown (mvT hZ (hw _ (List.mem_of_getElem? (i := 56) rfl))) (mvT hZ (hw _ (List.mem_of_getElem? (i := 57) rfl))) (mvT hZ (hw _ (List.mem_of_getElem? (i := 58) rfl))) (by decide) (StrChars.Road.backV (W := 1) hZ hws (kI := 4) (hw _ (List.mem_of_getElem? (i := 6) rfl)) (cs := ([p1, p2, p3, p4, p5, p6] : List Int32)) (bs := ([p1, p2, p3, p4, p5, p6] : List Int32).map (fun c => c.toInt8.toInt32)) (n := 6) g_r f544 f549 f550 f551 f553 (S1.ext f546.2) P5 rfl rfl (by decide) (by decide) hp rfl (by decide) (by decide)) (g := (mkF m 193 #[.val (.int p0), .val (.int p1), .val (.int p2), .val (.int p3), .val (.int p4), .val (.int p5), .val (.int p6)] [(.ref ch), (.ref r), (.ref r)])) rfl (by rw [hml]; rfl) (Steps.refl _) (a := r) (argsL := [(.ref ch)]) (rest := [(.ref r)]) (lenOf pd_17 rfl) rfl (by show 2 * 0 + _ ≤ _; exact Nat.le_of_eq rfl) (hb hby dmk_193) (fun _ _ => ⟨rfl, e543, (by decide : 2 + 1 ≤ _), (by decide : 10 + 6 ≤ _)⟩)
              dsimp only [Pt.U, Pt.locs, Pt.cells, Pt.slots] at X554 l554 y554 z554 st554 hQ554
              subst l554 y554 z554
              obtain ⟨rfl, Nq554, Kp554, Ev554, Fc554, t554, kb554, -, -, -, Fv554, Va554⟩ := hQ554
              have N554 := Fr.app N543 Nq554
              have k554 : Kt p e below m (s₁.setTop (entryFrame m #[(.int p0), (.int p1), (.int p2), (.int p3), (.int p4), (.int p5), (.int p6)] 7)) T554 196 #[.val (.int p0), .val (.int p1), .val (.int p2), .val (.int p3), .val (.int p4), .val (.int p5), .val (.int p6)] [(.ref r)] := fun t ht => k543 t (st554.trans ht)
              have f555 : n0 ≤ T554.heap.size := Nat.le_trans f544 Kp554.1
              have f556 : CHr Z consts_1 s.vm h0 s.vm T554.heap := f545.trans (CHr.keep Kp554 (sfS f548 sf0) f545.1)
              have f557 : Old Z n0 T554.heap := f546.keep Kp554 (allS g_r all0)
              have f558 : Keep h0 T554.heap [] := f547.trans Kp554 (allS (Or.inr sz_r) all0)
              have f559 : Safe Z consts_1 s.vm T554.heap r := Safe.keep Kp554 (sfS f548 sf0) f545.1 f548
              have f560 : Exa Z T554.heap r "java/lang/String" := f549.keep Kp554
              have f563 : Safe Z consts_1 s.vm T554.heap ch := Safe.keep Kp554 (sfS f548 sf0) f545.1 f552
              have f564 : Arv Z T554.heap ch ak473 .char (6 : Int32) [(.int p1), (.int p2), (.int p3), (.int p4), (.int p5), (.int p6)] (.int (0 : Int32)) := f553.keep Kp554 (ninS ne_r_ch.symm nin0)
              obtain ⟨fs, hr, hrun, hended, -, hW, hbk, hsame⟩ := Stand.leaveW (s := s) (vm₁ := s.vm) X554 ((State.WarmedH.refl s).since 0) (Nat.zero_le _) (v := some (.ref r)) (fun h => by rw [Bd.returns] at h; cases h)
              refine ⟨_, _, k554 _ ?_, hrun, hended, _, _, rfl, ?_, ?_, ⟨_, rfl⟩, hW, hbk, hsame.mono (by decide) (by decide)⟩
              · show Steps p.tables e below (T554.setTop (mkF m 196 #[.val (.int p0), .val (.int p1), .val (.int p2), .val (.int p3), .val (.int p4), .val (.int p5), .val (.int p6)] [(.ref r)])) _
                jvm_step X554.here [X554.here.top, hx, (hb hby dmk_196), X554.method', Bd.returns, Value.isRef, FieldType.isReference]
                first | (intro acts; rw [hr _ acts rfl rfl rfl]) | rw [hr _ _ rfl rfl rfl]
                exact Steps.refl _
              · show Qmk Z p0 p1 p2 p3 p4 p5 p6 G1 h0 n0 _ T554.heap _
                exact ⟨r, t554, kb554, ([p1, p2, p3, p4, p5, p6] : List Int32), rfl, N554, f558, Ev554, Fc554, Fv554, Va554, hp, by show 6 ≤ 4000; decide⟩
              · show CHr Z consts_1 s.vm s.heap T554.vm T554.heap
                rw [hh]
                exact f556.trans (CHv.at (s := s) (vm0 := s.vm) X554 hZ hEL f556.1)
theorem dex_0 : decode method_6_code 0 = .ok (.aload_n 0, 1) := by decide +kernel
theorem dex_1 : decode method_6_code 1 = .ok (.ldc 36, 2) := by decide +kernel
theorem dex_3 : decode method_6_code 3 = .ok (.invokevirtual 53, 3) := by decide +kernel
theorem dex_6 : decode method_6_code 6 = .ok (.ifCond .eq 7, 3) := by decide +kernel
theorem dex_9 : decode method_6_code 9 = .ok (.getstatic 57, 3) := by decide +kernel
theorem dex_12 : decode method_6_code 12 = .ok (.areturn, 1) := by decide +kernel
theorem dex_13 : decode method_6_code 13 = .ok (.aload_n 0, 1) := by decide +kernel
theorem dex_14 : decode method_6_code 14 = .ok (.ldc 38, 2) := by decide +kernel
theorem dex_16 : decode method_6_code 16 = .ok (.invokevirtual 53, 3) := by decide +kernel
theorem dex_19 : decode method_6_code 19 = .ok (.ifCond .eq 7, 3) := by decide +kernel
theorem dex_22 : decode method_6_code 22 = .ok (.getstatic 61, 3) := by decide +kernel
theorem dex_25 : decode method_6_code 25 = .ok (.areturn, 1) := by decide +kernel
theorem dex_26 : decode method_6_code 26 = .ok (.aload_n 0, 1) := by decide +kernel
theorem dex_27 : decode method_6_code 27 = .ok (.ldc 40, 2) := by decide +kernel
theorem dex_29 : decode method_6_code 29 = .ok (.invokevirtual 53, 3) := by decide +kernel
theorem dex_32 : decode method_6_code 32 = .ok (.ifCond .eq 7, 3) := by decide +kernel
theorem dex_35 : decode method_6_code 35 = .ok (.getstatic 64, 3) := by decide +kernel
theorem dex_38 : decode method_6_code 38 = .ok (.areturn, 1) := by decide +kernel
theorem dex_39 : decode method_6_code 39 = .ok (.aload_n 0, 1) := by decide +kernel
theorem dex_40 : decode method_6_code 40 = .ok (.ldc 42, 2) := by decide +kernel
theorem dex_42 : decode method_6_code 42 = .ok (.invokevirtual 53, 3) := by decide +kernel
theorem dex_45 : decode method_6_code 45 = .ok (.ifCond .eq 7, 3) := by decide +kernel
theorem dex_48 : decode method_6_code 48 = .ok (.getstatic 67, 3) := by decide +kernel
theorem dex_51 : decode method_6_code 51 = .ok (.areturn, 1) := by decide +kernel
theorem dex_52 : decode method_6_code 52 = .ok (.aconst_null, 1) := by decide +kernel
theorem dex_53 : decode method_6_code 53 = .ok (.areturn, 1) := by decide +kernel
theorem pnex : plainName "com/example/lockstile/lockstile/namespace/AclEntryNamedPinLaw" = true := by first | (simp [plainName, overriddenIn]; done) | decide +kernel
theorem efex (m : MethodId) (x1 : Addr) : entryFrame m #[(.ref x1)] 1 = mkF m 0 #[.val (.ref x1)] [] := by first | (simp [entryFrame, mkF, argsToLocals, Value.category]; done) | rfl
def Qex (Z : State) (x1 : Addr) (t1 : Addr) (k1 : ClassId) (cs : List Int32) (G1 : Int32) (aU : Addr) (aG : Addr) (aM : Addr) (aO : Addr) (h0 : Heap) (n0 : Nat) (v : Option Value) (h : Heap) (L : List Loc) : Prop := v = some (own_tag cs aU aG aM aO) ∧ Fr n0 L ∧ Keep h0 h []
set_option maxRecDepth 65536 in
set_option maxHeartbeats 40000000 in
theorem rmex (l : Launch) (Z : State) (a0 : Array Value) (hw : ∀ d ∈ tables_1, d.before a0 Z = true) (ws : List Jvm.Cond) (x1 : Addr) (t1 : Addr) (k1 : ClassId) (cs : List Int32) (G1 : Int32) (aU : Addr) (aG : Addr) (aM : Addr) (aO : Addr) (h0 : Heap) (n0 : Nat) (Z0 : n0 ≤ h0.size) (hEL : EW Z a0 consts_1) (S1 : Sta Z Z.heap "java/lang/String" "COMPACT_STRINGS" "Z" (.int G1)) (P5 : ¬ (G1 = (0 : Int32))) (O : Old Z n0 h0) (SaU : Sta Z Z.heap "com/example/lockstile/lockstile/namespace/AclEntry$Tag" "USER" "Lcom/example/lockstile/lockstile/namespace/AclEntry$Tag;" (.ref aU)) (SaG : Sta Z Z.heap "com/example/lockstile/lockstile/namespace/AclEntry$Tag" "GROUP" "Lcom/example/lockstile/lockstile/namespace/AclEntry$Tag;" (.ref aG)) (SaM : Sta Z Z.heap "com/example/lockstile/lockstile/namespace/AclEntry$Tag" "MASK" "Lcom/example/lockstile/lockstile/namespace/AclEntry$Tag;" (.ref aM)) (SaO : Sta Z Z.heap "com/example/lockstile/lockstile/namespace/AclEntry$Tag" "OTHER" "Lcom/example/lockstile/lockstile/namespace/AclEntry$Tag;" (.ref aO)) (uE : Exa Z h0 x1 "java/lang/String") (uC : Fld Z h0 x1 "java/lang/String" "coder" "B" (.int (0 : Int32))) (uV : Fld Z h0 x1 "java/lang/String" "value" "[B" (.ref t1)) (uK : Arv Z h0 t1 k1 .byte (Int32.ofNat cs.length) (own_by cs) (.int (0 : Int32))) (ur : ∀ c ∈ cs, own_r c) (ul : cs.length ≤ 4000) :
    MetFree l (⟨"com/example/lockstile/lockstile/namespace/AclEntryNamedPinLaw", "expected", "(Ljava/lang/String;)Lcom/example/lockstile/lockstile/namespace/AclEntry$Tag;"⟩ : MethodName) (head1 (Jvm.Cond.code (⟨"com/example/lockstile/lockstile/namespace/AclEntryNamedPinLaw", "expected", "(Ljava/lang/String;)Lcom/example/lockstile/lockstile/namespace/AclEntry$Tag;"⟩ : MethodName) method_6_code 1 (some (.object "com/example/lockstile/lockstile/namespace/AclEntry$Tag")) :: ws) ({ frames := 2, cells := 8, slots := 88, locals := 28 } : Room)) (fun gs' U => gs' = #[(.ref x1)] ∧ Z.Warmed39 U.vm ∧ U.heap = h0 ∧ CHv Z consts_1 U.vm h0 ∧ ∀ x ∈ ([] : List Addr), Safe Z consts_1 U.vm h0 x) (fun _ _ _ _ _ => True) (fun _ U o U' => ∃ v L, o = .returned v ∧ Qex Z x1 t1 k1 cs G1 aU aG aM aO h0 n0 v U'.heap L ∧ CHr Z consts_1 U.vm U.heap U'.vm U'.heap ∧ ReturnedEndW U o U' L ({ frames := 2, cells := 8, slots := 88, locals := 28 } : Room).cells ({ frames := 2, cells := 8, slots := 88, locals := 28 } : Room).slots) := by
  refine MetFree.of_bodySF (plainFor_of_name pnex) hisR ?_
  intro p e s m args below meth c s₁ Bd hml0 hP hK
  obtain ⟨rfl, hZ, hh, hCH, hSf⟩ := hP
  have hx := Bd.exec
  have hby := Bd.bytes
  have hml : c.maxLocals = 1 := hml0
  have hown : s.vm.findClass "com/example/lockstile/lockstile/namespace/AclEntryNamedPinLaw" = some m.cls := findClass_of_methodNamed Bd.named
  have hnm := (name_of_methodNamed Bd.named Bd.method).1
  have X0 : Stand p l e ({ frames := 2, cells := 8, slots := 88, locals := 28 } : Room) (s.setVm s.vm) m #[(.ref x1)] below meth c s₁ [] 0 0 := Stand.of_body Bd
  have e0 : s₁.heap = h0 := by rw [← hh, Bd.state]; rfl
  have N0 := Fr.nil n0
  have k0 : Kt p e below m (s₁.setTop (entryFrame m #[(.ref x1)] 1)) s₁ 0 #[.val (.ref x1)] [] := fun t ht => castTop (efex m x1) ht
  have R0 : CHr Z consts_1 s.vm h0 s.vm h0 := CHr.refl hCH
  have K0 : Keep h0 h0 [] := Keep.refl _ _
  have wS : ∀ a ∈ Bundle.stringAtoms, a.before a0 Z = true := by
    intro a ha
    simp only [Bundle.stringAtoms, List.mem_cons, List.not_mem_nil, or_false] at ha
    rcases ha with rfl | rfl | rfl | rfl | rfl | rfl | rfl
    · exact (hw _ (List.mem_of_getElem? (i := 5) rfl))
    · exact (hw _ (List.mem_of_getElem? (i := 6) rfl))
    · exact (hw _ (List.mem_of_getElem? (i := 7) rfl))
    · exact (hw _ (List.mem_of_getElem? (i := 8) rfl))
    · exact (hw _ (List.mem_of_getElem? (i := 9) rfl))
    · exact (hw _ (List.mem_of_getElem? (i := 10) rfl))
    · exact (hw _ (List.mem_of_getElem? (i := 11) rfl))
  have heq : ∀ d ∈ StrChars.Road.wordsEq, d.before a0 Z = true := fun d hd => hw d ((by decide +kernel : ∀ d ∈ StrChars.Road.wordsEq, d ∈ tables_1) d hd)
  have k565 : Kt p e below m (s₁.setTop (entryFrame m #[(.ref x1)] 1)) s₁ 1 #[.val (.ref x1)] [(.ref x1)] := by
    intro t ht
    refine k0 t ?_
    show Steps p.tables e below (s₁.setTop (mkF m 0 #[.val (.ref x1)] [])) t
    refine XS.aloadN X0.here hx rfl (hb hby dex_0) rfl rfl ?_
    exact ht
  obtain ⟨s0, T566, h566, kb566, b0, ck566, X566, e566, E566, hS566, hk566, hZ566, hown566, Ex566, Fc566, Fv566, Va566, la566, lb566, hR566, -, hne566, st566⟩ := ldcCH (s := s) (vm0 := s.vm) X0 hx hZ hown (hw _ (List.mem_of_getElem? (i := 4) rfl)) wS e0 ((State.WarmedH.refl s).since 0) (Nat.zero_le _) hEL (EL := consts_1) (by decide) R0.1 (vs := (own_by own_user)) (z := (Int32.ofNat own_user.length)) (by decide +kernel) (by decide) (by decide) (g := (mkF m 1 #[.val (.ref x1)] [(.ref x1)])) rfl (hb hby dex_1) (n := 16) (by decide +kernel) (by decide) (by decide) (by decide)
  have f567 : n0 ≤ h566.size := Nat.le_trans Z0 E566.1
  have f568 : CHr Z consts_1 s.vm h0 T566.vm h566 := R0.trans hR566
  have f569 : Old Z n0 h566 := O.ext E566
  have f570 : Keep h0 h566 [] := K0.ext E566
  have f571 : Exa Z h566 x1 "java/lang/String" := uE.ext E566
  have f572 : Fld Z h566 x1 "java/lang/String" "coder" "B" (.int (0 : Int32)) := uC.ext E566
  have f573 : Fld Z h566 x1 "java/lang/String" "value" "[B" (.ref t1) := uV.ext E566
  have f574 : Arv Z h566 t1 k1 .byte (Int32.ofNat cs.length) (own_by cs) (.int (0 : Int32)) := uK.ext E566
  have k566 : Kt p e below m (s₁.setTop (entryFrame m #[(.ref x1)] 1)) T566 3 #[.val (.ref x1)] [(.ref s0), (.ref x1)] := fun t ht => k565 t (st566 t ht)
  obtain ⟨cq575, kq575, q575a, q575b, q575c⟩ := isOf hZ566 e566 f571
  obtain ⟨_, _, ⟨T575, L575, c575, n575⟩, -, X575, ⟨Lc575, hQ575, l575, y575, z575⟩, st575⟩ := X566.virtualBack hx (y := (⟨"java/lang/String", "equals", "(Ljava/lang/Object;)Z"⟩ : MethodName)) (z := (⟨"java/lang/String", "equals", "(Ljava/lang/Object;)Z"⟩ : MethodName)) hown566 (mvT hZ566 (hw _ (List.mem_of_getElem? (i := 79) rfl))) (mvT hZ566 (hw _ (List.mem_of_getElem? (i := 80) rfl))) (notFace_of_selects (args := #[]) (mvT hZ566 (hw _ (List.mem_of_getElem? (i := 82) rfl)))) (mvT hZ566 (hw _ (List.mem_of_getElem? (i := 82) rfl))) (mvT hZ566 (hw _ (List.mem_of_getElem? (i := 81) rfl))) (by decide) (StrChars.Road.eqW (W := 0) hZ566 heq (kI := 4) (hw _ (List.mem_of_getElem? (i := 6) rfl)) f571 f573 f572 f574 (own_cod ur) (own_up ur) ul Ex566 Fv566 Fc566 Va566 (own_cod own_user_r) (own_up own_user_r) (by decide) (S1.ext f569.2) P5 (by decide) (by decide)) q575a q575c (g := (mkF m 3 #[.val (.ref x1)] [(.ref s0), (.ref x1)])) rfl (by rw [hml]; rfl) (Steps.refl _) (argsL := [(.ref s0)]) (rest := []) (lenOf pd_11 rfl) rfl (by show 2 * 0 + _ ≤ _; exact Nat.le_of_eq rfl) (hb hby dex_3) (fun _ _ => ⟨rfl, e566, (by decide : 2 + 0 ≤ _), (by decide : 20 + 0 ≤ _)⟩)
  dsimp only [Pt.U, Pt.locs, Pt.cells, Pt.slots] at X575 l575 y575 z575 st575 hQ575
  subst l575 y575 z575
  obtain ⟨hz575, hL575, eq575⟩ := hQ575
  obtain rfl := own_eq2 hz575
  subst hL575
  have Nq575 := Fr.nil n0
  have N575 := Fr.app N0 Nq575
  have k575 : Kt p e below m (s₁.setTop (entryFrame m #[(.ref x1)] 1)) T575 6 #[.val (.ref x1)] [(.int (own_b (cs = own_user)))] := fun t ht => k566 t (st575.trans ht)
  have f576 : n0 ≤ T575.heap.size := by rw [eq575]; exact f567
  have f577 : CHr Z consts_1 s.vm h0 T566.vm T575.heap := by rw [eq575]; exact f568
  have f578 : Old Z n0 T575.heap := by rw [eq575]; exact f569
  have f579 : Keep h0 T575.heap [] := by rw [eq575]; exact f570
  have f580 : Exa Z T575.heap x1 "java/lang/String" := by rw [eq575]; exact f571
  have f581 : Fld Z T575.heap x1 "java/lang/String" "coder" "B" (.int (0 : Int32)) := by rw [eq575]; exact f572
  have f582 : Fld Z T575.heap x1 "java/lang/String" "value" "[B" (.ref t1) := by rw [eq575]; exact f573
  have f583 : Arv Z T575.heap t1 k1 .byte (Int32.ofNat cs.length) (own_by cs) (.int (0 : Int32)) := by rw [eq575]; exact f574
  have f584 : kb566 ≤ T575.heap.size := by rw [eq575]; exact hk566
  have f585 : Exa Z T575.heap s0 "java/lang/String" := by rw [eq575]; exact Ex566
  have f586 : Fld Z T575.heap s0 "java/lang/String" "coder" "B" (.int (0 : Int32)) := by rw [eq575]; exact Fc566
  have f587 : Fld Z T575.heap s0 "java/lang/String" "value" "[B" (.ref b0) := by rw [eq575]; exact Fv566
  have f588 : Arv Z T575.heap b0 ck566 .byte (Int32.ofNat own_user.length) (own_by own_user) (.int (0 : Int32)) := by rw [eq575]; exact Va566
  by_cases c0 : (own_b (cs = own_user)) = (0 : Int32)
  · have k589 : Kt p e below m (s₁.setTop (entryFrame m #[(.ref x1)] 1)) T575 14 #[.val (.ref x1)] [(.ref x1)] := by
      intro t ht
      refine k575 t ?_
      show Steps p.tables e below (T575.setTop (mkF m 6 #[.val (.ref x1)] [(.int (own_b (cs = own_user)))])) t
      refine XS.ifYes X575.here hx rfl (pc0 := 6) (pc' := 13) rfl (hb hby dex_6) rfl ((if0 _ _).trans (teq c0).1) (by decide) (by decide) ?_
      show Steps p.tables e below (T575.setTop (mkF m 13 #[.val (.ref x1)] [])) t
      refine XS.aloadN X575.here hx rfl (hb hby dex_13) rfl rfl ?_
      exact ht
    obtain ⟨s1, T590, h590, kb590, b1, ck590, X590, e590, E590, hS590, hk590, hZ590, hown590, Ex590, Fc590, Fv590, Va590, la590, lb590, hR590, -, hne590, st590⟩ := ldcCH (s := s) (vm0 := T566.vm) X575 hx hZ566 hown566 (hw _ (List.mem_of_getElem? (i := 88) rfl)) wS rfl hS566 f584 hEL (EL := consts_1) (by decide) f577.1 (vs := (own_by own_group)) (z := (Int32.ofNat own_group.length)) (by decide +kernel) (by decide) (by decide) (g := (mkF m 14 #[.val (.ref x1)] [(.ref x1)])) rfl (hb hby dex_14) (n := 20) (by decide +kernel) (by decide) (by decide) (by decide)
    have f591 : n0 ≤ h590.size := Nat.le_trans f576 E590.1
    have f592 : CHr Z consts_1 s.vm h0 T590.vm h590 := f577.trans hR590
    have f593 : Old Z n0 h590 := f578.ext E590
    have f594 : Keep h0 h590 [] := f579.ext E590
    have f595 : Exa Z h590 x1 "java/lang/String" := f580.ext E590
    have f596 : Fld Z h590 x1 "java/lang/String" "coder" "B" (.int (0 : Int32)) := f581.ext E590
    have f597 : Fld Z h590 x1 "java/lang/String" "value" "[B" (.ref t1) := f582.ext E590
    have f598 : Arv Z h590 t1 k1 .byte (Int32.ofNat cs.length) (own_by cs) (.int (0 : Int32)) := f583.ext E590
    have f599 : kb566 ≤ h590.size := Nat.le_trans f584 E590.1
    have f600 : Exa Z h590 s0 "java/lang/String" := f585.ext E590
    have f601 : Fld Z h590 s0 "java/lang/String" "coder" "B" (.int (0 : Int32)) := f586.ext E590
    have f602 : Fld Z h590 s0 "java/lang/String" "value" "[B" (.ref b0) := f587.ext E590
    have f603 : Arv Z h590 b0 ck566 .byte (Int32.ofNat own_user.length) (own_by own_user) (.int (0 : Int32)) := f588.ext E590
    have k590 : Kt p e below m (s₁.setTop (entryFrame m #[(.ref x1)] 1)) T590 16 #[.val (.ref x1)] [(.ref s1), (.ref x1)] := fun t ht => k589 t (st590 t ht)
    obtain ⟨cq604, kq604, q604a, q604b, q604c⟩ := isOf hZ590 e590 f595
    obtain ⟨_, _, ⟨T604, L604, c604, n604⟩, -, X604, ⟨Lc604, hQ604, l604, y604, z604⟩, st604⟩ := X590.virtualBack hx (y := (⟨"java/lang/String", "equals", "(Ljava/lang/Object;)Z"⟩ : MethodName)) (z := (⟨"java/lang/String", "equals", "(Ljava/lang/Object;)Z"⟩ : MethodName)) hown590 (mvT hZ590 (hw _ (List.mem_of_getElem? (i := 79) rfl))) (mvT hZ590 (hw _ (List.mem_of_getElem? (i := 80) rfl))) (notFace_of_selects (args := #[]) (mvT hZ590 (hw _ (List.mem_of_getElem? (i := 82) rfl)))) (mvT hZ590 (hw _ (List.mem_of_getElem? (i := 82) rfl))) (mvT hZ590 (hw _ (List.mem_of_getElem? (i := 81) rfl))) (by decide) (StrChars.Road.eqW (W := 0) hZ590 heq (kI := 4) (hw _ (List.mem_of_getElem? (i := 6) rfl)) f595 f597 f596 f598 (own_cod ur) (own_up ur) ul Ex590 Fv590 Fc590 Va590 (own_cod own_group_r) (own_up own_group_r) (by decide) (S1.ext f593.2) P5 (by decide) (by decide)) q604a q604c (g := (mkF m 16 #[.val (.ref x1)] [(.ref s1), (.ref x1)])) rfl (by rw [hml]; rfl) (Steps.refl _) (argsL := [(.ref s1)]) (rest := []) (lenOf pd_11 rfl) rfl (by show 2 * 0 + _ ≤ _; exact Nat.le_of_eq rfl) (hb hby dex_16) (fun _ _ => ⟨rfl, e590, (by decide : 4 + 0 ≤ _), (by decide : 44 + 0 ≤ _)⟩)
    dsimp only [Pt.U, Pt.locs, Pt.cells, Pt.slots] at X604 l604 y604 z604 st604 hQ604
    subst l604 y604 z604
    obtain ⟨hz604, hL604, eq604⟩ := hQ604
    obtain rfl := own_eq2 hz604
    subst hL604
    have Nq604 := Fr.nil n0
    have N604 := Fr.app N575 Nq604
    have k604 : Kt p e below m (s₁.setTop (entryFrame m #[(.ref x1)] 1)) T604 19 #[.val (.ref x1)] [(.int (own_b (cs = own_group)))] := fun t ht => k590 t (st604.trans ht)
    have f605 : n0 ≤ T604.heap.size := by rw [eq604]; exact f591
    have f606 : CHr Z consts_1 s.vm h0 T590.vm T604.heap := by rw [eq604]; exact f592
    have f607 : Old Z n0 T604.heap := by rw [eq604]; exact f593
    have f608 : Keep h0 T604.heap [] := by rw [eq604]; exact f594
    have f609 : Exa Z T604.heap x1 "java/lang/String" := by rw [eq604]; exact f595
    have f610 : Fld Z T604.heap x1 "java/lang/String" "coder" "B" (.int (0 : Int32)) := by rw [eq604]; exact f596
    have f611 : Fld Z T604.heap x1 "java/lang/String" "value" "[B" (.ref t1) := by rw [eq604]; exact f597
    have f612 : Arv Z T604.heap t1 k1 .byte (Int32.ofNat cs.length) (own_by cs) (.int (0 : Int32)) := by rw [eq604]; exact f598
    have f613 : kb590 ≤ T604.heap.size := by rw [eq604]; exact hk590
    have f614 : Exa Z T604.heap s0 "java/lang/String" := by rw [eq604]; exact f600
    have f615 : Fld Z T604.heap s0 "java/lang/String" "coder" "B" (.int (0 : Int32)) := by rw [eq604]; exact f601
    have f616 : Fld Z T604.heap s0 "java/lang/String" "value" "[B" (.ref b0) := by rw [eq604]; exact f602
    have f617 : Arv Z T604.heap b0 ck566 .byte (Int32.ofNat own_user.length) (own_by own_user) (.int (0 : Int32)) := by rw [eq604]; exact f603
    have f618 : Exa Z T604.heap s1 "java/lang/String" := by rw [eq604]; exact Ex590
    have f619 : Fld Z T604.heap s1 "java/lang/String" "coder" "B" (.int (0 : Int32)) := by rw [eq604]; exact Fc590
    have f620 : Fld Z T604.heap s1 "java/lang/String" "value" "[B" (.ref b1) := by rw [eq604]; exact Fv590
    have f621 : Arv Z T604.heap b1 ck590 .byte (Int32.ofNat own_group.length) (own_by own_group) (.int (0 : Int32)) := by rw [eq604]; exact Va590
    by_cases c1 : (own_b (cs = own_group)) = (0 : Int32)
    · have k622 : Kt p e below m (s₁.setTop (entryFrame m #[(.ref x1)] 1)) T604 27 #[.val (.ref x1)] [(.ref x1)] := by
        intro t ht
        refine k604 t ?_
        show Steps p.tables e below (T604.setTop (mkF m 19 #[.val (.ref x1)] [(.int (own_b (cs = own_group)))])) t
        refine XS.ifYes X604.here hx rfl (pc0 := 19) (pc' := 26) rfl (hb hby dex_19) rfl ((if0 _ _).trans (teq c1).1) (by decide) (by decide) ?_
        show Steps p.tables e below (T604.setTop (mkF m 26 #[.val (.ref x1)] [])) t
        refine XS.aloadN X604.here hx rfl (hb hby dex_26) rfl rfl ?_
        exact ht
      obtain ⟨s2, T623, h623, kb623, b2, ck623, X623, e623, E623, hS623, hk623, hZ623, hown623, Ex623, Fc623, Fv623, Va623, la623, lb623, hR623, -, hne623, st623⟩ := ldcCH (s := s) (vm0 := T590.vm) X604 hx hZ590 hown590 (hw _ (List.mem_of_getElem? (i := 89) rfl)) wS rfl hS590 f613 hEL (EL := consts_1) (by decide) f606.1 (vs := (own_by own_mask)) (z := (Int32.ofNat own_mask.length)) (by decide +kernel) (by decide) (by decide) (g := (mkF m 27 #[.val (.ref x1)] [(.ref x1)])) rfl (hb hby dex_27) (n := 16) (by decide +kernel) (by decide) (by decide) (by decide)
      have f624 : n0 ≤ h623.size := Nat.le_trans f605 E623.1
      have f625 : CHr Z consts_1 s.vm h0 T623.vm h623 := f606.trans hR623
      have f626 : Old Z n0 h623 := f607.ext E623
      have f627 : Keep h0 h623 [] := f608.ext E623
      have f628 : Exa Z h623 x1 "java/lang/String" := f609.ext E623
      have f629 : Fld Z h623 x1 "java/lang/String" "coder" "B" (.int (0 : Int32)) := f610.ext E623
      have f630 : Fld Z h623 x1 "java/lang/String" "value" "[B" (.ref t1) := f611.ext E623
      have f631 : Arv Z h623 t1 k1 .byte (Int32.ofNat cs.length) (own_by cs) (.int (0 : Int32)) := f612.ext E623
      have f632 : kb590 ≤ h623.size := Nat.le_trans f613 E623.1
      have f633 : Exa Z h623 s0 "java/lang/String" := f614.ext E623
      have f634 : Fld Z h623 s0 "java/lang/String" "coder" "B" (.int (0 : Int32)) := f615.ext E623
      have f635 : Fld Z h623 s0 "java/lang/String" "value" "[B" (.ref b0) := f616.ext E623
      have f636 : Arv Z h623 b0 ck566 .byte (Int32.ofNat own_user.length) (own_by own_user) (.int (0 : Int32)) := f617.ext E623
      have f637 : Exa Z h623 s1 "java/lang/String" := f618.ext E623
      have f638 : Fld Z h623 s1 "java/lang/String" "coder" "B" (.int (0 : Int32)) := f619.ext E623
      have f639 : Fld Z h623 s1 "java/lang/String" "value" "[B" (.ref b1) := f620.ext E623
      have f640 : Arv Z h623 b1 ck590 .byte (Int32.ofNat own_group.length) (own_by own_group) (.int (0 : Int32)) := f621.ext E623
      have k623 : Kt p e below m (s₁.setTop (entryFrame m #[(.ref x1)] 1)) T623 29 #[.val (.ref x1)] [(.ref s2), (.ref x1)] := fun t ht => k622 t (st623 t ht)
      obtain ⟨cq641, kq641, q641a, q641b, q641c⟩ := isOf hZ623 e623 f628
      obtain ⟨_, _, ⟨T641, L641, c641, n641⟩, -, X641, ⟨Lc641, hQ641, l641, y641, z641⟩, st641⟩ := X623.virtualBack hx (y := (⟨"java/lang/String", "equals", "(Ljava/lang/Object;)Z"⟩ : MethodName)) (z := (⟨"java/lang/String", "equals", "(Ljava/lang/Object;)Z"⟩ : MethodName)) hown623 (mvT hZ623 (hw _ (List.mem_of_getElem? (i := 79) rfl))) (mvT hZ623 (hw _ (List.mem_of_getElem? (i := 80) rfl))) (notFace_of_selects (args := #[]) (mvT hZ623 (hw _ (List.mem_of_getElem? (i := 82) rfl)))) (mvT hZ623 (hw _ (List.mem_of_getElem? (i := 82) rfl))) (mvT hZ623 (hw _ (List.mem_of_getElem? (i := 81) rfl))) (by decide) (StrChars.Road.eqW (W := 0) hZ623 heq (kI := 4) (hw _ (List.mem_of_getElem? (i := 6) rfl)) f628 f630 f629 f631 (own_cod ur) (own_up ur) ul Ex623 Fv623 Fc623 Va623 (own_cod own_mask_r) (own_up own_mask_r) (by decide) (S1.ext f626.2) P5 (by decide) (by decide)) q641a q641c (g := (mkF m 29 #[.val (.ref x1)] [(.ref s2), (.ref x1)])) rfl (by rw [hml]; rfl) (Steps.refl _) (argsL := [(.ref s2)]) (rest := []) (lenOf pd_11 rfl) rfl (by show 2 * 0 + _ ≤ _; exact Nat.le_of_eq rfl) (hb hby dex_29) (fun _ _ => ⟨rfl, e623, (by decide : 6 + 0 ≤ _), (by decide : 64 + 0 ≤ _)⟩)
      dsimp only [Pt.U, Pt.locs, Pt.cells, Pt.slots] at X641 l641 y641 z641 st641 hQ641
      subst l641 y641 z641
      obtain ⟨hz641, hL641, eq641⟩ := hQ641
      obtain rfl := own_eq2 hz641
      subst hL641
      have Nq641 := Fr.nil n0
      have N641 := Fr.app N604 Nq641
      have k641 : Kt p e below m (s₁.setTop (entryFrame m #[(.ref x1)] 1)) T641 32 #[.val (.ref x1)] [(.int (own_b (cs = own_mask)))] := fun t ht => k623 t (st641.trans ht)
      have f642 : n0 ≤ T641.heap.size := by rw [eq641]; exact f624
      have f643 : CHr Z consts_1 s.vm h0 T623.vm T641.heap := by rw [eq641]; exact f625
      have f644 : Old Z n0 T641.heap := by rw [eq641]; exact f626
      have f645 : Keep h0 T641.heap [] := by rw [eq641]; exact f627
      have f646 : Exa Z T641.heap x1 "java/lang/String" := by rw [eq641]; exact f628
      have f647 : Fld Z T641.heap x1 "java/lang/String" "coder" "B" (.int (0 : Int32)) := by rw [eq641]; exact f629
      have f648 : Fld Z T641.heap x1 "java/lang/String" "value" "[B" (.ref t1) := by rw [eq641]; exact f630
      have f649 : Arv Z T641.heap t1 k1 .byte (Int32.ofNat cs.length) (own_by cs) (.int (0 : Int32)) := by rw [eq641]; exact f631
      have f650 : kb623 ≤ T641.heap.size := by rw [eq641]; exact hk623
      have f651 : Exa Z T641.heap s0 "java/lang/String" := by rw [eq641]; exact f633
      have f652 : Fld Z T641.heap s0 "java/lang/String" "coder" "B" (.int (0 : Int32)) := by rw [eq641]; exact f634
      have f653 : Fld Z T641.heap s0 "java/lang/String" "value" "[B" (.ref b0) := by rw [eq641]; exact f635
      have f654 : Arv Z T641.heap b0 ck566 .byte (Int32.ofNat own_user.length) (own_by own_user) (.int (0 : Int32)) := by rw [eq641]; exact f636
      have f655 : Exa Z T641.heap s1 "java/lang/String" := by rw [eq641]; exact f637
      have f656 : Fld Z T641.heap s1 "java/lang/String" "coder" "B" (.int (0 : Int32)) := by rw [eq641]; exact f638
      have f657 : Fld Z T641.heap s1 "java/lang/String" "value" "[B" (.ref b1) := by rw [eq641]; exact f639
      have f658 : Arv Z T641.heap b1 ck590 .byte (Int32.ofNat own_group.length) (own_by own_group) (.int (0 : Int32)) := by rw [eq641]; exact f640
      have f659 : Exa Z T641.heap s2 "java/lang/String" := by rw [eq641]; exact Ex623
      have f660 : Fld Z T641.heap s2 "java/lang/String" "coder" "B" (.int (0 : Int32)) := by rw [eq641]; exact Fc623
      have f661 : Fld Z T641.heap s2 "java/lang/String" "value" "[B" (.ref b2) := by rw [eq641]; exact Fv623
      have f662 : Arv Z T641.heap b2 ck623 .byte (Int32.ofNat own_mask.length) (own_by own_mask) (.int (0 : Int32)) := by rw [eq641]; exact Va623
      by_cases c2 : (own_b (cs = own_mask)) = (0 : Int32)
      · have k663 : Kt p e below m (s₁.setTop (entryFrame m #[(.ref x1)] 1)) T641 40 #[.val (.ref x1)] [(.ref x1)] := by
          intro t ht
          refine k641 t ?_
          show Steps p.tables e below (T641.setTop (mkF m 32 #[.val (.ref x1)] [(.int (own_b (cs = own_mask)))])) t
          refine XS.ifYes X641.here hx rfl (pc0 := 32) (pc' := 39) rfl (hb hby dex_32) rfl ((if0 _ _).trans (teq c2).1) (by decide) (by decide) ?_
          show Steps p.tables e below (T641.setTop (mkF m 39 #[.val (.ref x1)] [])) t
          refine XS.aloadN X641.here hx rfl (hb hby dex_39) rfl rfl ?_
          exact ht
        obtain ⟨s3, T664, h664, kb664, b3, ck664, X664, e664, E664, hS664, hk664, hZ664, hown664, Ex664, Fc664, Fv664, Va664, la664, lb664, hR664, -, hne664, st664⟩ := ldcCH (s := s) (vm0 := T623.vm) X641 hx hZ623 hown623 (hw _ (List.mem_of_getElem? (i := 90) rfl)) wS rfl hS623 f650 hEL (EL := consts_1) (by decide) f643.1 (vs := (own_by own_other)) (z := (Int32.ofNat own_other.length)) (by decide +kernel) (by decide) (by decide) (g := (mkF m 40 #[.val (.ref x1)] [(.ref x1)])) rfl (hb hby dex_40) (n := 20) (by decide +kernel) (by decide) (by decide) (by decide)
        have f665 : n0 ≤ h664.size := Nat.le_trans f642 E664.1
        have f666 : CHr Z consts_1 s.vm h0 T664.vm h664 := f643.trans hR664
        have f667 : Old Z n0 h664 := f644.ext E664
        have f668 : Keep h0 h664 [] := f645.ext E664
        have f669 : Exa Z h664 x1 "java/lang/String" := f646.ext E664
        have f670 : Fld Z h664 x1 "java/lang/String" "coder" "B" (.int (0 : Int32)) := f647.ext E664
        have f671 : Fld Z h664 x1 "java/lang/String" "value" "[B" (.ref t1) := f648.ext E664
        have f672 : Arv Z h664 t1 k1 .byte (Int32.ofNat cs.length) (own_by cs) (.int (0 : Int32)) := f649.ext E664
        have f673 : kb623 ≤ h664.size := Nat.le_trans f650 E664.1
        have f674 : Exa Z h664 s0 "java/lang/String" := f651.ext E664
        have f675 : Fld Z h664 s0 "java/lang/String" "coder" "B" (.int (0 : Int32)) := f652.ext E664
        have f676 : Fld Z h664 s0 "java/lang/String" "value" "[B" (.ref b0) := f653.ext E664
        have f677 : Arv Z h664 b0 ck566 .byte (Int32.ofNat own_user.length) (own_by own_user) (.int (0 : Int32)) := f654.ext E664
        have f678 : Exa Z h664 s1 "java/lang/String" := f655.ext E664
        have f679 : Fld Z h664 s1 "java/lang/String" "coder" "B" (.int (0 : Int32)) := f656.ext E664
        have f680 : Fld Z h664 s1 "java/lang/String" "value" "[B" (.ref b1) := f657.ext E664
        have f681 : Arv Z h664 b1 ck590 .byte (Int32.ofNat own_group.length) (own_by own_group) (.int (0 : Int32)) := f658.ext E664
        have f682 : Exa Z h664 s2 "java/lang/String" := f659.ext E664
        have f683 : Fld Z h664 s2 "java/lang/String" "coder" "B" (.int (0 : Int32)) := f660.ext E664
        have f684 : Fld Z h664 s2 "java/lang/String" "value" "[B" (.ref b2) := f661.ext E664
        have f685 : Arv Z h664 b2 ck623 .byte (Int32.ofNat own_mask.length) (own_by own_mask) (.int (0 : Int32)) := f662.ext E664
        have k664 : Kt p e below m (s₁.setTop (entryFrame m #[(.ref x1)] 1)) T664 42 #[.val (.ref x1)] [(.ref s3), (.ref x1)] := fun t ht => k663 t (st664 t ht)
        obtain ⟨cq686, kq686, q686a, q686b, q686c⟩ := isOf hZ664 e664 f669
        obtain ⟨_, _, ⟨T686, L686, c686, n686⟩, -, X686, ⟨Lc686, hQ686, l686, y686, z686⟩, st686⟩ := X664.virtualBack hx (y := (⟨"java/lang/String", "equals", "(Ljava/lang/Object;)Z"⟩ : MethodName)) (z := (⟨"java/lang/String", "equals", "(Ljava/lang/Object;)Z"⟩ : MethodName)) hown664 (mvT hZ664 (hw _ (List.mem_of_getElem? (i := 79) rfl))) (mvT hZ664 (hw _ (List.mem_of_getElem? (i := 80) rfl))) (notFace_of_selects (args := #[]) (mvT hZ664 (hw _ (List.mem_of_getElem? (i := 82) rfl)))) (mvT hZ664 (hw _ (List.mem_of_getElem? (i := 82) rfl))) (mvT hZ664 (hw _ (List.mem_of_getElem? (i := 81) rfl))) (by decide) (StrChars.Road.eqW (W := 0) hZ664 heq (kI := 4) (hw _ (List.mem_of_getElem? (i := 6) rfl)) f669 f671 f670 f672 (own_cod ur) (own_up ur) ul Ex664 Fv664 Fc664 Va664 (own_cod own_other_r) (own_up own_other_r) (by decide) (S1.ext f667.2) P5 (by decide) (by decide)) q686a q686c (g := (mkF m 42 #[.val (.ref x1)] [(.ref s3), (.ref x1)])) rfl (by rw [hml]; rfl) (Steps.refl _) (argsL := [(.ref s3)]) (rest := []) (lenOf pd_11 rfl) rfl (by show 2 * 0 + _ ≤ _; exact Nat.le_of_eq rfl) (hb hby dex_42) (fun _ _ => ⟨rfl, e664, (by decide : 8 + 0 ≤ _), (by decide : 88 + 0 ≤ _)⟩)
        dsimp only [Pt.U, Pt.locs, Pt.cells, Pt.slots] at X686 l686 y686 z686 st686 hQ686
        subst l686 y686 z686
        obtain ⟨hz686, hL686, eq686⟩ := hQ686
        obtain rfl := own_eq2 hz686
        subst hL686
        have Nq686 := Fr.nil n0
        have N686 := Fr.app N641 Nq686
        have k686 : Kt p e below m (s₁.setTop (entryFrame m #[(.ref x1)] 1)) T686 45 #[.val (.ref x1)] [(.int (own_b (cs = own_other)))] := fun t ht => k664 t (st686.trans ht)
        have f687 : n0 ≤ T686.heap.size := by rw [eq686]; exact f665
        have f688 : CHr Z consts_1 s.vm h0 T664.vm T686.heap := by rw [eq686]; exact f666
        have f689 : Old Z n0 T686.heap := by rw [eq686]; exact f667
        have f690 : Keep h0 T686.heap [] := by rw [eq686]; exact f668
        have f691 : Exa Z T686.heap x1 "java/lang/String" := by rw [eq686]; exact f669
        have f692 : Fld Z T686.heap x1 "java/lang/String" "coder" "B" (.int (0 : Int32)) := by rw [eq686]; exact f670
        have f693 : Fld Z T686.heap x1 "java/lang/String" "value" "[B" (.ref t1) := by rw [eq686]; exact f671
        have f694 : Arv Z T686.heap t1 k1 .byte (Int32.ofNat cs.length) (own_by cs) (.int (0 : Int32)) := by rw [eq686]; exact f672
        have f695 : kb664 ≤ T686.heap.size := by rw [eq686]; exact hk664
        have f696 : Exa Z T686.heap s0 "java/lang/String" := by rw [eq686]; exact f674
        have f697 : Fld Z T686.heap s0 "java/lang/String" "coder" "B" (.int (0 : Int32)) := by rw [eq686]; exact f675
        have f698 : Fld Z T686.heap s0 "java/lang/String" "value" "[B" (.ref b0) := by rw [eq686]; exact f676
        have f699 : Arv Z T686.heap b0 ck566 .byte (Int32.ofNat own_user.length) (own_by own_user) (.int (0 : Int32)) := by rw [eq686]; exact f677
        have f700 : Exa Z T686.heap s1 "java/lang/String" := by rw [eq686]; exact f678
        have f701 : Fld Z T686.heap s1 "java/lang/String" "coder" "B" (.int (0 : Int32)) := by rw [eq686]; exact f679
        have f702 : Fld Z T686.heap s1 "java/lang/String" "value" "[B" (.ref b1) := by rw [eq686]; exact f680
        have f703 : Arv Z T686.heap b1 ck590 .byte (Int32.ofNat own_group.length) (own_by own_group) (.int (0 : Int32)) := by rw [eq686]; exact f681
        have f704 : Exa Z T686.heap s2 "java/lang/String" := by rw [eq686]; exact f682
        have f705 : Fld Z T686.heap s2 "java/lang/String" "coder" "B" (.int (0 : Int32)) := by rw [eq686]; exact f683
        have f706 : Fld Z T686.heap s2 "java/lang/String" "value" "[B" (.ref b2) := by rw [eq686]; exact f684
        have f707 : Arv Z T686.heap b2 ck623 .byte (Int32.ofNat own_mask.length) (own_by own_mask) (.int (0 : Int32)) := by rw [eq686]; exact f685
        have f708 : Exa Z T686.heap s3 "java/lang/String" := by rw [eq686]; exact Ex664
        have f709 : Fld Z T686.heap s3 "java/lang/String" "coder" "B" (.int (0 : Int32)) := by rw [eq686]; exact Fc664
        have f710 : Fld Z T686.heap s3 "java/lang/String" "value" "[B" (.ref b3) := by rw [eq686]; exact Fv664
        have f711 : Arv Z T686.heap b3 ck664 .byte (Int32.ofNat own_other.length) (own_by own_other) (.int (0 : Int32)) := by rw [eq686]; exact Va664
        by_cases c3 : (own_b (cs = own_other)) = (0 : Int32)
        · have k712 : Kt p e below m (s₁.setTop (entryFrame m #[(.ref x1)] 1)) T686 53 #[.val (.ref x1)] [.null] := by
            intro t ht
            refine k686 t ?_
            show Steps p.tables e below (T686.setTop (mkF m 45 #[.val (.ref x1)] [(.int (own_b (cs = own_other)))])) t
            refine XS.ifYes X686.here hx rfl (pc0 := 45) (pc' := 52) rfl (hb hby dex_45) rfl ((if0 _ _).trans (teq c3).1) (by decide) (by decide) ?_
            show Steps p.tables e below (T686.setTop (mkF m 52 #[.val (.ref x1)] [])) t
            refine XS.aconstNull X686.here hx rfl (hb hby dex_52) ?_
            exact ht
          obtain ⟨fs, hr, hrun, hended, -, hW, hbk, hsame⟩ := Stand.leaveW (s := s) (vm₁ := T664.vm) X686 (hS664) (by exact f695) (v := some .null) (fun h => by rw [Bd.returns] at h; cases h)
          refine ⟨_, _, k712 _ ?_, hrun, hended, _, _, rfl, ?_, ?_, ⟨_, rfl⟩, hW, hbk, hsame.mono (by decide) (by decide)⟩
          · show Steps p.tables e below (T686.setTop (mkF m 53 #[.val (.ref x1)] [.null])) _
            jvm_step X686.here [X686.here.top, hx, (hb hby dex_53), X686.method', Bd.returns, Value.isRef, FieldType.isReference]
            first | (intro acts; rw [hr _ acts rfl rfl rfl]) | rw [hr _ _ rfl rfl rfl]
            exact Steps.refl _
          · show Qex Z x1 t1 k1 cs G1 aU aG aM aO h0 n0 _ T686.heap _
            exact ⟨congrArg some (Eq.symm (by unfold own_tag; rw [if_neg (own_bz.mp c0), if_neg (own_bz.mp c1), if_neg (own_bz.mp c2), if_neg (own_bz.mp c3)])), N686, f690⟩
          · show CHr Z consts_1 s.vm s.heap T686.vm T686.heap
            rw [hh]
            exact f688.trans (CHv.at (s := s) (vm0 := T664.vm) X686 hZ664 hEL f688.1)
        · have k713 : Kt p e below m (s₁.setTop (entryFrame m #[(.ref x1)] 1)) T686 48 #[.val (.ref x1)] [] := by
            intro t ht
            refine k686 t ?_
            show Steps p.tables e below (T686.setTop (mkF m 45 #[.val (.ref x1)] [(.int (own_b (cs = own_other)))])) t
            refine XS.ifNo X686.here hx rfl (hb hby dex_45) rfl ((if0 _ _).trans (feq c3).1) ?_
            exact ht
          have p3 : cs = own_other := Classical.not_not.mp fun q => c3 (own_bz.mpr q)
          obtain ⟨T714, X714, e714, st714⟩ := getS2 X686 hx hZ664 hown664 (host := "") (Or.inl (hw _ (List.mem_of_getElem? (i := 118) rfl))) Via.refl rfl (SaO.ext f689.2) (g := (mkF m 48 #[.val (.ref x1)] [])) rfl (hb hby dex_48)
          have k714 : Kt p e below m (s₁.setTop (entryFrame m #[(.ref x1)] 1)) T714 51 #[.val (.ref x1)] [(.ref aO)] := fun t ht => k713 t (st714 t ht)
          obtain ⟨fs, hr, hrun, hended, -, hW, hbk, hsame⟩ := Stand.leaveW (s := s) (vm₁ := T664.vm) X714 (hS664) (by rw [e714]; exact f695) (v := some (.ref aO)) (fun h => by rw [Bd.returns] at h; cases h)
          refine ⟨_, _, k714 _ ?_, hrun, hended, _, _, rfl, ?_, ?_, ⟨_, rfl⟩, hW, hbk, hsame.mono (by decide) (by decide)⟩
          · show Steps p.tables e below (T714.setTop (mkF m 51 #[.val (.ref x1)] [(.ref aO)])) _
            jvm_step X714.here [X714.here.top, hx, (hb hby dex_51), X714.method', Bd.returns, Value.isRef, FieldType.isReference]
            first | (intro acts; rw [hr _ acts rfl rfl rfl]) | rw [hr _ _ rfl rfl rfl]
            exact Steps.refl _
          · show Qex Z x1 t1 k1 cs G1 aU aG aM aO h0 n0 _ T714.heap _
            rw [e714]
            exact ⟨congrArg some (Eq.symm (by unfold own_tag; rw [if_neg (own_bz.mp c0), if_neg (own_bz.mp c1), if_neg (own_bz.mp c2), if_pos p3])), N686, f690⟩
          · show CHr Z consts_1 s.vm s.heap T714.vm T714.heap
            rw [hh, e714]
            exact f688.trans (CHv.at (s := s) (vm0 := T664.vm) X714 hZ664 hEL f688.1)
      · have k715 : Kt p e below m (s₁.setTop (entryFrame m #[(.ref x1)] 1)) T641 35 #[.val (.ref x1)] [] := by
          intro t ht
          refine k641 t ?_
          show Steps p.tables e below (T641.setTop (mkF m 32 #[.val (.ref x1)] [(.int (own_b (cs = own_mask)))])) t
          refine XS.ifNo X641.here hx rfl (hb hby dex_32) rfl ((if0 _ _).trans (feq c2).1) ?_
          exact ht
        have p2 : cs = own_mask := Classical.not_not.mp fun q => c2 (own_bz.mpr q)
        obtain ⟨T716, X716, e716, st716⟩ := getS2 X641 hx hZ623 hown623 (host := "") (Or.inl (hw _ (List.mem_of_getElem? (i := 120) rfl))) Via.refl rfl (SaM.ext f644.2) (g := (mkF m 35 #[.val (.ref x1)] [])) rfl (hb hby dex_35)
        have k716 : Kt p e below m (s₁.setTop (entryFrame m #[(.ref x1)] 1)) T716 38 #[.val (.ref x1)] [(.ref aM)] := fun t ht => k715 t (st716 t ht)
        obtain ⟨fs, hr, hrun, hended, -, hW, hbk, hsame⟩ := Stand.leaveW (s := s) (vm₁ := T623.vm) X716 (hS623) (by rw [e716]; exact f650) (v := some (.ref aM)) (fun h => by rw [Bd.returns] at h; cases h)
        refine ⟨_, _, k716 _ ?_, hrun, hended, _, _, rfl, ?_, ?_, ⟨_, rfl⟩, hW, hbk, hsame.mono (by decide) (by decide)⟩
        · show Steps p.tables e below (T716.setTop (mkF m 38 #[.val (.ref x1)] [(.ref aM)])) _
          jvm_step X716.here [X716.here.top, hx, (hb hby dex_38), X716.method', Bd.returns, Value.isRef, FieldType.isReference]
          first | (intro acts; rw [hr _ acts rfl rfl rfl]) | rw [hr _ _ rfl rfl rfl]
          exact Steps.refl _
        · show Qex Z x1 t1 k1 cs G1 aU aG aM aO h0 n0 _ T716.heap _
          rw [e716]
          exact ⟨congrArg some (Eq.symm (by unfold own_tag; rw [if_neg (own_bz.mp c0), if_neg (own_bz.mp c1), if_pos p2])), N641, f645⟩
        · show CHr Z consts_1 s.vm s.heap T716.vm T716.heap
          rw [hh, e716]
          exact f643.trans (CHv.at (s := s) (vm0 := T623.vm) X716 hZ623 hEL f643.1)
    · have k717 : Kt p e below m (s₁.setTop (entryFrame m #[(.ref x1)] 1)) T604 22 #[.val (.ref x1)] [] := by
        intro t ht
        refine k604 t ?_
        show Steps p.tables e below (T604.setTop (mkF m 19 #[.val (.ref x1)] [(.int (own_b (cs = own_group)))])) t
        refine XS.ifNo X604.here hx rfl (hb hby dex_19) rfl ((if0 _ _).trans (feq c1).1) ?_
        exact ht
      have p1 : cs = own_group := Classical.not_not.mp fun q => c1 (own_bz.mpr q)
      obtain ⟨T718, X718, e718, st718⟩ := getS2 X604 hx hZ590 hown590 (host := "") (Or.inl (hw _ (List.mem_of_getElem? (i := 121) rfl))) Via.refl rfl (SaG.ext f607.2) (g := (mkF m 22 #[.val (.ref x1)] [])) rfl (hb hby dex_22)
      have k718 : Kt p e below m (s₁.setTop (entryFrame m #[(.ref x1)] 1)) T718 25 #[.val (.ref x1)] [(.ref aG)] := fun t ht => k717 t (st718 t ht)
      obtain ⟨fs, hr, hrun, hended, -, hW, hbk, hsame⟩ := Stand.leaveW (s := s) (vm₁ := T590.vm) X718 (hS590) (by rw [e718]; exact f613) (v := some (.ref aG)) (fun h => by rw [Bd.returns] at h; cases h)
      refine ⟨_, _, k718 _ ?_, hrun, hended, _, _, rfl, ?_, ?_, ⟨_, rfl⟩, hW, hbk, hsame.mono (by decide) (by decide)⟩
      · show Steps p.tables e below (T718.setTop (mkF m 25 #[.val (.ref x1)] [(.ref aG)])) _
        jvm_step X718.here [X718.here.top, hx, (hb hby dex_25), X718.method', Bd.returns, Value.isRef, FieldType.isReference]
        first | (intro acts; rw [hr _ acts rfl rfl rfl]) | rw [hr _ _ rfl rfl rfl]
        exact Steps.refl _
      · show Qex Z x1 t1 k1 cs G1 aU aG aM aO h0 n0 _ T718.heap _
        rw [e718]
        exact ⟨congrArg some (Eq.symm (by unfold own_tag; rw [if_neg (own_bz.mp c0), if_pos p1])), N604, f608⟩
      · show CHr Z consts_1 s.vm s.heap T718.vm T718.heap
        rw [hh, e718]
        exact f606.trans (CHv.at (s := s) (vm0 := T590.vm) X718 hZ590 hEL f606.1)
  · have k719 : Kt p e below m (s₁.setTop (entryFrame m #[(.ref x1)] 1)) T575 9 #[.val (.ref x1)] [] := by
      intro t ht
      refine k575 t ?_
      show Steps p.tables e below (T575.setTop (mkF m 6 #[.val (.ref x1)] [(.int (own_b (cs = own_user)))])) t
      refine XS.ifNo X575.here hx rfl (hb hby dex_6) rfl ((if0 _ _).trans (feq c0).1) ?_
      exact ht
    have p0 : cs = own_user := Classical.not_not.mp fun q => c0 (own_bz.mpr q)
    obtain ⟨T720, X720, e720, st720⟩ := getS2 X575 hx hZ566 hown566 (host := "") (Or.inl (hw _ (List.mem_of_getElem? (i := 119) rfl))) Via.refl rfl (SaU.ext f578.2) (g := (mkF m 9 #[.val (.ref x1)] [])) rfl (hb hby dex_9)
    have k720 : Kt p e below m (s₁.setTop (entryFrame m #[(.ref x1)] 1)) T720 12 #[.val (.ref x1)] [(.ref aU)] := fun t ht => k719 t (st720 t ht)
    obtain ⟨fs, hr, hrun, hended, -, hW, hbk, hsame⟩ := Stand.leaveW (s := s) (vm₁ := T566.vm) X720 (hS566) (by rw [e720]; exact f584) (v := some (.ref aU)) (fun h => by rw [Bd.returns] at h; cases h)
    refine ⟨_, _, k720 _ ?_, hrun, hended, _, _, rfl, ?_, ?_, ⟨_, rfl⟩, hW, hbk, hsame.mono (by decide) (by decide)⟩
    · show Steps p.tables e below (T720.setTop (mkF m 12 #[.val (.ref x1)] [(.ref aU)])) _
      jvm_step X720.here [X720.here.top, hx, (hb hby dex_12), X720.method', Bd.returns, Value.isRef, FieldType.isReference]
      first | (intro acts; rw [hr _ acts rfl rfl rfl]) | rw [hr _ _ rfl rfl rfl]
      exact Steps.refl _
    · show Qex Z x1 t1 k1 cs G1 aU aG aM aO h0 n0 _ T720.heap _
      rw [e720]
      exact ⟨congrArg some (Eq.symm (by unfold own_tag; rw [if_pos p0])), N575, f579⟩
    · show CHr Z consts_1 s.vm s.heap T720.vm T720.heap
      rw [hh, e720]
      exact f577.trans (CHv.at (s := s) (vm0 := T566.vm) X720 hZ566 hEL f577.1)
theorem dvl_0 : decode prog_10_method_1_code 0 = .ok (.getstatic 16, 3) := by decide +kernel
theorem dvl_3 : decode prog_10_method_1_code 3 = .ok (.invokevirtual 20, 3) := by decide +kernel
theorem dvl_6 : decode prog_10_method_1_code 6 = .ok (.checkcast 21, 3) := by decide +kernel
theorem dvl_9 : decode prog_10_method_1_code 9 = .ok (.areturn, 1) := by decide +kernel
theorem pnvl : plainName "com/example/lockstile/lockstile/namespace/AclEntry$Tag" = true := by first | (simp [plainName, overriddenIn]; done) | decide +kernel
theorem efvl (m : MethodId)  : entryFrame m #[] 0 = mkF m 0 #[] [] := by first | (simp [entryFrame, mkF, argsToLocals, Value.category]; done) | rfl
def Qvl (Z : State) (va : Addr) (kv : ClassId) (aU : Addr) (aG : Addr) (aM : Addr) (aO : Addr) (h0 : Heap) (n0 : Nat) (v : Option Value) (h : Heap) (L : List Loc) : Prop := ∃ r, v = some (.ref r) ∧ Fr n0 L ∧ Keep h0 h [] ∧ Arv Z h r kv (.object "com/example/lockstile/lockstile/namespace/AclEntry$Tag") (4 : Int32) [(.ref aU), (.ref aG), (.ref aM), (.ref aO)] .null
set_option maxRecDepth 65536 in
set_option maxHeartbeats 40000000 in
theorem rmvl (l : Launch) (Z : State) (a0 : Array Value) (hw : ∀ d ∈ tables_1, d.before a0 Z = true) (ws : List Jvm.Cond) (va : Addr) (kv : ClassId) (aU : Addr) (aG : Addr) (aM : Addr) (aO : Addr) (h0 : Heap) (n0 : Nat) (Z0 : n0 ≤ h0.size) (SV : Sta Z Z.heap "com/example/lockstile/lockstile/namespace/AclEntry$Tag" "$VALUES" "[Lcom/example/lockstile/lockstile/namespace/AclEntry$Tag;" (.ref va)) (VV : Arv Z h0 va kv (.object "com/example/lockstile/lockstile/namespace/AclEntry$Tag") (4 : Int32) [(.ref aU), (.ref aG), (.ref aM), (.ref aO)] .null) (EV : Exa Z h0 va "[Lcom/example/lockstile/lockstile/namespace/AclEntry$Tag;") (O : Old Z n0 h0) :
    MetFree l (⟨"com/example/lockstile/lockstile/namespace/AclEntry$Tag", "values", "()[Lcom/example/lockstile/lockstile/namespace/AclEntry$Tag;"⟩ : MethodName) (head1 (Jvm.Cond.code (⟨"com/example/lockstile/lockstile/namespace/AclEntry$Tag", "values", "()[Lcom/example/lockstile/lockstile/namespace/AclEntry$Tag;"⟩ : MethodName) prog_10_method_1_code 0 (some (.array (.object "com/example/lockstile/lockstile/namespace/AclEntry$Tag"))) :: ws) ({ frames := 1, cells := 1, slots := 4, locals := 14 } : Room)) (fun gs' U => gs' = #[] ∧ Z.Warmed39 U.vm ∧ U.heap = h0) (fun _ _ _ _ _ => True) (fun _ U o U' => ∃ v L, o = .returned v ∧ Qvl Z va kv aU aG aM aO h0 n0 v U'.heap L ∧ FrameEnd U o U' L ({ frames := 1, cells := 1, slots := 4, locals := 14 } : Room).cells ({ frames := 1, cells := 1, slots := 4, locals := 14 } : Room).slots) := by
  refine MetFree.of_bodySF (plainFor_of_name pnvl) hisR ?_
  intro p e s m args below meth c s₁ Bd hml0 hP hK
  obtain ⟨rfl, hZ, hh⟩ := hP
  have hx := Bd.exec
  have hby := Bd.bytes
  have hml : c.maxLocals = 0 := hml0
  have hown : s.vm.findClass "com/example/lockstile/lockstile/namespace/AclEntry$Tag" = some m.cls := findClass_of_methodNamed Bd.named
  have hnm := (name_of_methodNamed Bd.named Bd.method).1
  have X0 : Stand p l e ({ frames := 1, cells := 1, slots := 4, locals := 14 } : Room) s m #[] below meth c s₁ [] 0 0 := Stand.of_body Bd
  have e0 : s₁.heap = h0 := by rw [← hh, Bd.state]; rfl
  have N0 := Fr.nil n0
  have k0 : Kt p e below m (s₁.setTop (entryFrame m #[] 0)) s₁ 0 #[] [] := fun t ht => castTop (efvl m ) ht
  have K0 : Keep h0 h0 [] := Keep.refl _ _
  obtain ⟨T721, X721, e721, st721⟩ := getS2 X0 hx hZ hown (host := "") (Or.inl (hw _ (List.mem_of_getElem? (i := 98) rfl))) Via.refl e0 (SV.ext O.2) (g := (mkF m 0 #[] [])) rfl (hb hby dvl_0)
  have k721 : Kt p e below m (s₁.setTop (entryFrame m #[] 0)) T721 3 #[] [(.ref va)] := fun t ht => k0 t (st721 t ht)
  obtain ⟨T722, h722, X722, e722, E722, A722, Ax722, st722⟩ := cloneH X721 hx hZ hown (hw _ (List.mem_of_getElem? (i := 100) rfl)) (hw _ (List.mem_of_getElem? (i := 101) rfl)) (hw _ (List.mem_of_getElem? (i := 105) rfl)) (hw _ (List.mem_of_getElem? (i := 103) rfl)) (hw _ (List.mem_of_getElem? (i := 104) rfl)) (hw _ (List.mem_of_getElem? (i := 106) rfl)) e721 VV.arh EV (g := (mkF m 3 #[] [(.ref va)])) rfl (by rw [hml]; rfl) rfl (hb hby dvl_3) (by decide) (W := 0) (cap := 4) (by show 2 * 0 + _ ≤ _; exact Nat.le_of_eq rfl) (by decide) (by decide) (by decide) (by decide)
  obtain ⟨r, q722⟩ : ∃ z, z = h0.size := ⟨_, rfl⟩
  have g_r : n0 ≤ r := by rw [q722]; exact Z0
  have sz_r : h0.size ≤ r := by rw [q722]; exact K0.1
  rw [← q722] at A722 Ax722 st722
  have f723 : n0 ≤ h722.size := Nat.le_trans Z0 E722.1
  have f724 : Keep h0 h722 [] := K0.ext E722
  have k722 : Kt p e below m (s₁.setTop (entryFrame m #[] 0)) T722 6 #[] [(.ref r)] := fun t ht => k721 t (st722 t ht)
  obtain ⟨T725, X725, e725, st725⟩ := castY X722 hx hZ hown (hw _ (List.mem_of_getElem? (i := 112) rfl)) e722 (Ins.of_exa Ax722 (hw _ (List.mem_of_getElem? (i := 113) rfl))) (g := (mkF m 6 #[] [(.ref r)])) rfl rfl (hb hby dvl_6)
  have k725 : Kt p e below m (s₁.setTop (entryFrame m #[] 0)) T725 9 #[] [(.ref r)] := fun t ht => k722 t (st725 t ht)
  obtain ⟨fs, hr, hrun, hended, hW, hsame⟩ := X725.leave (v := some (.ref r)) (fun h => by rw [Bd.returns] at h; cases h)
  refine ⟨_, _, k725 _ ?_, hrun, hended, _, _, rfl, ?_, ⟨_, rfl⟩, hW, hsame.mono (by decide) (by decide)⟩
  · show Steps p.tables e below (T725.setTop (mkF m 9 #[] [(.ref r)])) _
    jvm_step X725.here [X725.here.top, hx, (hb hby dvl_9), X725.method', Bd.returns, Value.isRef, FieldType.isReference]
    first | (intro acts; rw [hr _ acts rfl rfl rfl]) | rw [hr _ _ rfl rfl rfl]
    exact Steps.refl _
  · show Qvl Z va kv aU aG aM aO h0 n0 _ T725.heap _
    rw [e725]
    exact ⟨r, rfl, N0, f724, A722⟩
theorem dnm_0 : decode prog_10_method_4_code 0 = .ok (.invokestatic 39, 3) := by decide +kernel
theorem dnm_3 : decode prog_10_method_4_code 3 = .ok (.astore_n 1, 1) := by decide +kernel
theorem dnm_4 : decode prog_10_method_4_code 4 = .ok (.aload_n 1, 1) := by decide +kernel
theorem dnm_5 : decode prog_10_method_4_code 5 = .ok (.arraylength, 1) := by decide +kernel
theorem dnm_6 : decode prog_10_method_4_code 6 = .ok (.istore_n 2, 1) := by decide +kernel
theorem dnm_7 : decode prog_10_method_4_code 7 = .ok (.iconst 0, 1) := by decide +kernel
theorem dnm_8 : decode prog_10_method_4_code 8 = .ok (.istore_n 3, 1) := by decide +kernel
theorem dnm_9 : decode prog_10_method_4_code 9 = .ok (.iload_n 3, 1) := by decide +kernel
theorem dnm_10 : decode prog_10_method_4_code 10 = .ok (.iload_n 2, 1) := by decide +kernel
theorem dnm_11 : decode prog_10_method_4_code 11 = .ok (.if_icmp .ge 29, 3) := by decide +kernel
theorem dnm_14 : decode prog_10_method_4_code 14 = .ok (.aload_n 1, 1) := by decide +kernel
theorem dnm_15 : decode prog_10_method_4_code 15 = .ok (.iload_n 3, 1) := by decide +kernel
theorem dnm_16 : decode prog_10_method_4_code 16 = .ok (.aaload, 1) := by decide +kernel
theorem dnm_17 : decode prog_10_method_4_code 17 = .ok (.astore 4, 2) := by decide +kernel
theorem dnm_19 : decode prog_10_method_4_code 19 = .ok (.aload 4, 2) := by decide +kernel
theorem dnm_21 : decode prog_10_method_4_code 21 = .ok (.getfield 35, 3) := by decide +kernel
theorem dnm_24 : decode prog_10_method_4_code 24 = .ok (.aload_n 0, 1) := by decide +kernel
theorem dnm_25 : decode prog_10_method_4_code 25 = .ok (.invokevirtual 43, 3) := by decide +kernel
theorem dnm_28 : decode prog_10_method_4_code 28 = .ok (.ifCond .eq 6, 3) := by decide +kernel
theorem dnm_31 : decode prog_10_method_4_code 31 = .ok (.aload 4, 2) := by decide +kernel
theorem dnm_33 : decode prog_10_method_4_code 33 = .ok (.areturn, 1) := by decide +kernel
theorem dnm_34 : decode prog_10_method_4_code 34 = .ok (.iinc 3 1, 3) := by decide +kernel
theorem dnm_37 : decode prog_10_method_4_code 37 = .ok (.goto (-28), 3) := by decide +kernel
theorem dnm_40 : decode prog_10_method_4_code 40 = .ok (.aconst_null, 1) := by decide +kernel
theorem dnm_41 : decode prog_10_method_4_code 41 = .ok (.areturn, 1) := by decide +kernel
theorem pnnm : plainName "com/example/lockstile/lockstile/namespace/AclEntry$Tag" = true := by first | (simp [plainName, overriddenIn]; done) | decide +kernel
theorem efnm (m : MethodId) (x1 : Addr) : entryFrame m #[(.ref x1)] 5 = mkF m 0 #[.val (.ref x1), .unset, .unset, .unset, .unset] [] := by first | (simp [entryFrame, mkF, argsToLocals, Value.category]; done) | rfl
def Qnm (Z : State) (x1 : Addr) (t1 : Addr) (k1 : ClassId) (cs : List Int32) (G1 : Int32) (va : Addr) (kv : ClassId) (aU : Addr) (aG : Addr) (aM : Addr) (aO : Addr) (yU : Addr) (tU : Addr) (kU : ClassId) (yG : Addr) (tG : Addr) (kG : ClassId) (yM : Addr) (tM : Addr) (kM : ClassId) (yO : Addr) (tO : Addr) (kO : ClassId) (h0 : Heap) (n0 : Nat) (v : Option Value) (h : Heap) (L : List Loc) : Prop := v = some (own_tag cs aU aG aM aO) ∧ Fr n0 L ∧ Keep h0 h []
set_option maxRecDepth 65536 in
set_option maxHeartbeats 40000000 in
theorem rmnm (l : Launch) (Z : State) (a0 : Array Value) (hw : ∀ d ∈ tables_1, d.before a0 Z = true) (ws : List Jvm.Cond) (x1 : Addr) (t1 : Addr) (k1 : ClassId) (cs : List Int32) (G1 : Int32) (va : Addr) (kv : ClassId) (aU : Addr) (aG : Addr) (aM : Addr) (aO : Addr) (yU : Addr) (tU : Addr) (kU : ClassId) (yG : Addr) (tG : Addr) (kG : ClassId) (yM : Addr) (tM : Addr) (kM : ClassId) (yO : Addr) (tO : Addr) (kO : ClassId) (h0 : Heap) (n0 : Nat) (Z0 : n0 ≤ h0.size) (S1 : Sta Z Z.heap "java/lang/String" "COMPACT_STRINGS" "Z" (.int G1)) (P5 : ¬ (G1 = (0 : Int32))) (O : Old Z n0 h0) (SV : Sta Z Z.heap "com/example/lockstile/lockstile/namespace/AclEntry$Tag" "$VALUES" "[Lcom/example/lockstile/lockstile/namespace/AclEntry$Tag;" (.ref va)) (VV : Arv Z h0 va kv (.object "com/example/lockstile/lockstile/namespace/AclEntry$Tag") (4 : Int32) [(.ref aU), (.ref aG), (.ref aM), (.ref aO)] .null) (EV : Exa Z h0 va "[Lcom/example/lockstile/lockstile/namespace/AclEntry$Tag;") (TaU : Fld Z h0 aU "com/example/lockstile/lockstile/namespace/AclEntry$Tag" "text" "Ljava/lang/String;" (.ref yU)) (yUE : Exa Z h0 yU "java/lang/String") (yUC : Fld Z h0 yU "java/lang/String" "coder" "B" (.int (0 : Int32))) (yUV : Fld Z h0 yU "java/lang/String" "value" "[B" (.ref tU)) (yUK : Arv Z h0 tU kU .byte (Int32.ofNat own_user.length) (own_by own_user) (.int (0 : Int32))) (TaG : Fld Z h0 aG "com/example/lockstile/lockstile/namespace/AclEntry$Tag" "text" "Ljava/lang/String;" (.ref yG)) (yGE : Exa Z h0 yG "java/lang/String") (yGC : Fld Z h0 yG "java/lang/String" "coder" "B" (.int (0 : Int32))) (yGV : Fld Z h0 yG "java/lang/String" "value" "[B" (.ref tG)) (yGK : Arv Z h0 tG kG .byte (Int32.ofNat own_group.length) (own_by own_group) (.int (0 : Int32))) (TaM : Fld Z h0 aM "com/example/lockstile/lockstile/namespace/AclEntry$Tag" "text" "Ljava/lang/String;" (.ref yM)) (yME : Exa Z h0 yM "java/lang/String") (yMC : Fld Z h0 yM "java/lang/String" "coder" "B" (.int (0 : Int32))) (yMV : Fld Z h0 yM "java/lang/String" "value" "[B" (.ref tM)) (yMK : Arv Z h0 tM kM .byte (Int32.ofNat own_mask.length) (own_by own_mask) (.int (0 : Int32))) (TaO : Fld Z h0 aO "com/example/lockstile/lockstile/namespace/AclEntry$Tag" "text" "Ljava/lang/String;" (.ref yO)) (yOE : Exa Z h0 yO "java/lang/String") (yOC : Fld Z h0 yO "java/lang/String" "coder" "B" (.int (0 : Int32))) (yOV : Fld Z h0 yO "java/lang/String" "value" "[B" (.ref tO)) (yOK : Arv Z h0 tO kO .byte (Int32.ofNat own_other.length) (own_by own_other) (.int (0 : Int32))) (uE : Exa Z h0 x1 "java/lang/String") (uC : Fld Z h0 x1 "java/lang/String" "coder" "B" (.int (0 : Int32))) (uV : Fld Z h0 x1 "java/lang/String" "value" "[B" (.ref t1)) (uK : Arv Z h0 t1 k1 .byte (Int32.ofNat cs.length) (own_by cs) (.int (0 : Int32))) (ur : ∀ c ∈ cs, own_r c) (ul : cs.length ≤ 4000) :
    MetFree l (⟨"com/example/lockstile/lockstile/namespace/AclEntry$Tag", "named", "(Ljava/lang/String;)Lcom/example/lockstile/lockstile/namespace/AclEntry$Tag;"⟩ : MethodName) (head1 (Jvm.Cond.code (⟨"com/example/lockstile/lockstile/namespace/AclEntry$Tag", "named", "(Ljava/lang/String;)Lcom/example/lockstile/lockstile/namespace/AclEntry$Tag;"⟩ : MethodName) prog_10_method_4_code 5 (some (.object "com/example/lockstile/lockstile/namespace/AclEntry$Tag")) :: ws) ({ frames := 2, cells := 1, slots := 4, locals := 28 } : Room)) (fun gs' U => gs' = #[(.ref x1)] ∧ Z.Warmed39 U.vm ∧ U.heap = h0) (fun _ _ _ _ _ => True) (fun _ U o U' => ∃ v L, o = .returned v ∧ Qnm Z x1 t1 k1 cs G1 va kv aU aG aM aO yU tU kU yG tG kG yM tM kM yO tO kO h0 n0 v U'.heap L ∧ FrameEnd U o U' L ({ frames := 2, cells := 1, slots := 4, locals := 28 } : Room).cells ({ frames := 2, cells := 1, slots := 4, locals := 28 } : Room).slots) := by
  refine MetFree.of_bodySF (plainFor_of_name pnnm) hisR ?_
  intro p e s m args below meth c s₁ Bd hml0 hP hK
  obtain ⟨rfl, hZ, hh⟩ := hP
  have hx := Bd.exec
  have hby := Bd.bytes
  have hml : c.maxLocals = 5 := hml0
  have hown : s.vm.findClass "com/example/lockstile/lockstile/namespace/AclEntry$Tag" = some m.cls := findClass_of_methodNamed Bd.named
  have hnm := (name_of_methodNamed Bd.named Bd.method).1
  have X0 : Stand p l e ({ frames := 2, cells := 1, slots := 4, locals := 28 } : Room) s m #[(.ref x1)] below meth c s₁ [] 0 0 := Stand.of_body Bd
  have e0 : s₁.heap = h0 := by rw [← hh, Bd.state]; rfl
  have N0 := Fr.nil n0
  have k0 : Kt p e below m (s₁.setTop (entryFrame m #[(.ref x1)] 5)) s₁ 0 #[.val (.ref x1), .unset, .unset, .unset, .unset] [] := fun t ht => castTop (efnm m x1) ht
  have K0 : Keep h0 h0 [] := Keep.refl _ _
  have heq : ∀ d ∈ StrChars.Road.wordsEq, d.before a0 Z = true := fun d hd => hw d ((by decide +kernel : ∀ d ∈ StrChars.Road.wordsEq, d ∈ tables_1) d hd)
  obtain ⟨_, _, ⟨T726, L726, c726, n726⟩, -, X726, ⟨Lc726, hQ726, l726, y726, z726⟩, st726⟩ := Jvm.LawKit.callS X0 hx (y := (⟨"com/example/lockstile/lockstile/namespace/AclEntry$Tag", "values", "()[Lcom/example/lockstile/lockstile/namespace/AclEntry$Tag;"⟩ : MethodName)) hown (mvT hZ (hw _ (List.mem_of_getElem? (i := 95) rfl))) (mvT hZ (hw _ (List.mem_of_getElem? (i := 96) rfl))) (mvT hZ (hw _ (List.mem_of_getElem? (i := 93) rfl))) (mvT hZ (hw _ (List.mem_of_getElem? (i := 97) rfl))) (by decide) (backOf (W := 0) (rmvl l Z a0 hw [] va kv aU aG aM aO h0 n0 Z0 SV VV EV O) hZ (hw _ (List.mem_of_getElem? (i := 97) rfl)) (hw _ (List.mem_of_getElem? (i := 93) rfl)) (by decide) (by decide)) (g := (mkF m 0 #[.val (.ref x1), .unset, .unset, .unset, .unset] [])) rfl (by rw [hml]; rfl) (argsL := []) (rest := []) (lenOf pd_5 rfl) rfl (by show 2 * 0 + _ ≤ _; exact Nat.le_of_eq rfl) (hb hby dnm_0) (fun _ _ => ⟨rfl, e0, (by decide : 0 + 1 ≤ _), (by decide : 0 + 4 ≤ _)⟩)
  dsimp only [Pt.U, Pt.locs, Pt.cells, Pt.slots] at X726 l726 y726 z726 st726 hQ726
  subst l726 y726 z726
  obtain ⟨rr, rfl, Nq726, Kp726, Vr726⟩ := hQ726
  have N726 := Fr.app N0 Nq726
  have k726 : Kt p e below m (s₁.setTop (entryFrame m #[(.ref x1)] 5)) T726 3 #[.val (.ref x1), .unset, .unset, .unset, .unset] [(.ref rr)] := fun t ht => k0 t (st726 t ht)
  have f727 : n0 ≤ T726.heap.size := Nat.le_trans Z0 Kp726.1
  have f728 : Old Z n0 T726.heap := O.keep Kp726 all0
  have f729 : Keep h0 T726.heap [] := K0.trans Kp726 all0
  have f730 : Exa Z T726.heap x1 "java/lang/String" := uE.keep Kp726
  have f731 : Fld Z T726.heap x1 "java/lang/String" "coder" "B" (.int (0 : Int32)) := uC.keep Kp726 nin0
  have f732 : Fld Z T726.heap x1 "java/lang/String" "value" "[B" (.ref t1) := uV.keep Kp726 nin0
  have f733 : Arv Z T726.heap t1 k1 .byte (Int32.ofNat cs.length) (own_by cs) (.int (0 : Int32)) := uK.keep Kp726 nin0
  have f734 : Fld Z T726.heap aU "com/example/lockstile/lockstile/namespace/AclEntry$Tag" "text" "Ljava/lang/String;" (.ref yU) := TaU.keep Kp726 nin0
  have f735 : Exa Z T726.heap yU "java/lang/String" := yUE.keep Kp726
  have f736 : Fld Z T726.heap yU "java/lang/String" "coder" "B" (.int (0 : Int32)) := yUC.keep Kp726 nin0
  have f737 : Fld Z T726.heap yU "java/lang/String" "value" "[B" (.ref tU) := yUV.keep Kp726 nin0
  have f738 : Arv Z T726.heap tU kU .byte (Int32.ofNat own_user.length) (own_by own_user) (.int (0 : Int32)) := yUK.keep Kp726 nin0
  have f739 : Fld Z T726.heap aG "com/example/lockstile/lockstile/namespace/AclEntry$Tag" "text" "Ljava/lang/String;" (.ref yG) := TaG.keep Kp726 nin0
  have f740 : Exa Z T726.heap yG "java/lang/String" := yGE.keep Kp726
  have f741 : Fld Z T726.heap yG "java/lang/String" "coder" "B" (.int (0 : Int32)) := yGC.keep Kp726 nin0
  have f742 : Fld Z T726.heap yG "java/lang/String" "value" "[B" (.ref tG) := yGV.keep Kp726 nin0
  have f743 : Arv Z T726.heap tG kG .byte (Int32.ofNat own_group.length) (own_by own_group) (.int (0 : Int32)) := yGK.keep Kp726 nin0
  have f744 : Fld Z T726.heap aM "com/example/lockstile/lockstile/namespace/AclEntry$Tag" "text" "Ljava/lang/String;" (.ref yM) := TaM.keep Kp726 nin0
  have f745 : Exa Z T726.heap yM "java/lang/String" := yME.keep Kp726
  have f746 : Fld Z T726.heap yM "java/lang/String" "coder" "B" (.int (0 : Int32)) := yMC.keep Kp726 nin0
  have f747 : Fld Z T726.heap yM "java/lang/String" "value" "[B" (.ref tM) := yMV.keep Kp726 nin0
  have f748 : Arv Z T726.heap tM kM .byte (Int32.ofNat own_mask.length) (own_by own_mask) (.int (0 : Int32)) := yMK.keep Kp726 nin0
  have f749 : Fld Z T726.heap aO "com/example/lockstile/lockstile/namespace/AclEntry$Tag" "text" "Ljava/lang/String;" (.ref yO) := TaO.keep Kp726 nin0
  have f750 : Exa Z T726.heap yO "java/lang/String" := yOE.keep Kp726
  have f751 : Fld Z T726.heap yO "java/lang/String" "coder" "B" (.int (0 : Int32)) := yOC.keep Kp726 nin0
  have f752 : Fld Z T726.heap yO "java/lang/String" "value" "[B" (.ref tO) := yOV.keep Kp726 nin0
  have f753 : Arv Z T726.heap tO kO .byte (Int32.ofNat own_other.length) (own_by own_other) (.int (0 : Int32)) := yOK.keep Kp726 nin0
  have k754 : Kt p e below m (s₁.setTop (entryFrame m #[(.ref x1)] 5)) T726 5 #[.val (.ref x1), .val (.ref rr), .unset, .unset, .unset] [(.ref rr)] := by
    intro t ht
    refine k726 t ?_
    show Steps p.tables e below (T726.setTop (mkF m 3 #[.val (.ref x1), .unset, .unset, .unset, .unset] [(.ref rr)])) t
    refine XS.astoreN X726.here hx rfl (hb hby dnm_3) rfl rfl (l' := #[.val (.ref x1), .val (.ref rr), .unset, .unset, .unset]) rfl ?_
    show Steps p.tables e below (T726.setTop (mkF m 4 #[.val (.ref x1), .val (.ref rr), .unset, .unset, .unset] [])) t
    refine XS.aloadN X726.here hx rfl (hb hby dnm_4) rfl rfl ?_
    exact ht
  obtain ⟨cl755, Ar755, qc755, Sz755, Nn755, Hh755, Gg755⟩ := id Vr726
  have k756 : Kt p e below m (s₁.setTop (entryFrame m #[(.ref x1)] 5)) T726 16 #[.val (.ref x1), .val (.ref rr), .val (.int (4 : Int32)), .val (.int (0 : Int32)), .unset] [(.int (0 : Int32)), (.ref rr)] := by
    intro t ht
    refine k754 t ?_
    show Steps p.tables e below (T726.setTop (mkF m 5 #[.val (.ref x1), .val (.ref rr), .unset, .unset, .unset] [(.ref rr)])) t
    refine X726.arraylength hx Ar755.1 (State.isArrayOf_alike hZ.alike Ar755.2.1) (g := (mkF m 5 #[.val (.ref x1), .val (.ref rr), .unset, .unset, .unset] [(.ref rr)])) rfl rfl (hb hby dnm_5) _ ?_
    rw [len_of Sz755 Nn755]
    show Steps p.tables e below (T726.setTop (mkF m 6 #[.val (.ref x1), .val (.ref rr), .unset, .unset, .unset] [(.int (4 : Int32))])) t
    refine XS.istoreN X726.here hx rfl (hb hby dnm_6) rfl (l' := #[.val (.ref x1), .val (.ref rr), .val (.int (4 : Int32)), .unset, .unset]) rfl ?_
    show Steps p.tables e below (T726.setTop (mkF m 7 #[.val (.ref x1), .val (.ref rr), .val (.int (4 : Int32)), .unset, .unset] [])) t
    refine XS.iconst X726.here hx rfl (hb hby dnm_7) ?_
    show Steps p.tables e below (T726.setTop (mkF m 8 #[.val (.ref x1), .val (.ref rr), .val (.int (4 : Int32)), .unset, .unset] [(.int (0 : Int32))])) t
    refine XS.istoreN X726.here hx rfl (hb hby dnm_8) rfl (l' := #[.val (.ref x1), .val (.ref rr), .val (.int (4 : Int32)), .val (.int (0 : Int32)), .unset]) rfl ?_
    show Steps p.tables e below (T726.setTop (mkF m 9 #[.val (.ref x1), .val (.ref rr), .val (.int (4 : Int32)), .val (.int (0 : Int32)), .unset] [])) t
    refine XS.iloadN X726.here hx rfl (hb hby dnm_9) rfl ?_
    show Steps p.tables e below (T726.setTop (mkF m 10 #[.val (.ref x1), .val (.ref rr), .val (.int (4 : Int32)), .val (.int (0 : Int32)), .unset] [(.int (0 : Int32))])) t
    refine XS.iloadN X726.here hx rfl (hb hby dnm_10) rfl ?_
    show Steps p.tables e below (T726.setTop (mkF m 11 #[.val (.ref x1), .val (.ref rr), .val (.int (4 : Int32)), .val (.int (0 : Int32)), .unset] [(.int (4 : Int32)), (.int (0 : Int32))])) t
    refine XS.icmpNo X726.here hx rfl (hb hby dnm_11) rfl (tlt (by decide)).2.1 ?_
    show Steps p.tables e below (T726.setTop (mkF m 14 #[.val (.ref x1), .val (.ref rr), .val (.int (4 : Int32)), .val (.int (0 : Int32)), .unset] [])) t
    refine XS.aloadN X726.here hx rfl (hb hby dnm_14) rfl rfl ?_
    show Steps p.tables e below (T726.setTop (mkF m 15 #[.val (.ref x1), .val (.ref rr), .val (.int (4 : Int32)), .val (.int (0 : Int32)), .unset] [(.ref rr)])) t
    refine XS.iloadN X726.here hx rfl (hb hby dnm_15) rfl ?_
    exact ht
  obtain ⟨cl757, Ar757, qc757, Sz757, Nn757, Hh757, Gg757⟩ := id Vr726
  have hin757 : ¬ ((0 : Int32) < 0 ∨ cl757.slots.size ≤ ((0 : Int32)).toNatClampNeg) := inb_of Sz757 ⟨by decide, by decide⟩
  have hat757 : cl757.slots[((0 : Int32)).toNatClampNeg]? = some (.ref aU) := Hh757.at hin757 rfl
  have k758 : Kt p e below m (s₁.setTop (entryFrame m #[(.ref x1)] 5)) T726 21 #[.val (.ref x1), .val (.ref rr), .val (.int (4 : Int32)), .val (.int (0 : Int32)), .val (.ref aU)] [(.ref aU)] := by
    intro t ht
    refine k756 t ?_
    show Steps p.tables e below (T726.setTop (mkF m 16 #[.val (.ref x1), .val (.ref rr), .val (.int (4 : Int32)), .val (.int (0 : Int32)), .unset] [(.int (0 : Int32)), (.ref rr)])) t
    refine X726.aaload hx (j := (0 : Int32)) (v := (.ref aU)) Ar757.1 (State.isArrayOf_alike hZ.alike Ar757.2.1) rfl Ar757.2.2 hin757 hat757 (g := (mkF m 16 #[.val (.ref x1), .val (.ref rr), .val (.int (4 : Int32)), .val (.int (0 : Int32)), .unset] [(.int (0 : Int32)), (.ref rr)])) rfl rfl (hb hby dnm_16) _ ?_
    show Steps p.tables e below (T726.setTop (mkF m 17 #[.val (.ref x1), .val (.ref rr), .val (.int (4 : Int32)), .val (.int (0 : Int32)), .unset] [(.ref aU)])) t
    refine XS.astore X726.here hx rfl (hb hby dnm_17) rfl rfl (l' := #[.val (.ref x1), .val (.ref rr), .val (.int (4 : Int32)), .val (.int (0 : Int32)), .val (.ref aU)]) rfl ?_
    show Steps p.tables e below (T726.setTop (mkF m 19 #[.val (.ref x1), .val (.ref rr), .val (.int (4 : Int32)), .val (.int (0 : Int32)), .val (.ref aU)] [])) t
    refine XS.aload X726.here hx rfl (hb hby dnm_19) rfl rfl ?_
    exact ht
  obtain ⟨T759, X759, e759, st759⟩ := getF X726 hx hZ hown (host := "") (Or.inl (hw _ (List.mem_of_getElem? (i := 114) rfl))) Via.refl rfl f734 (g := (mkF m 21 #[.val (.ref x1), .val (.ref rr), .val (.int (4 : Int32)), .val (.int (0 : Int32)), .val (.ref aU)] [(.ref aU)])) rfl rfl (hb hby dnm_21)
  have k759 : Kt p e below m (s₁.setTop (entryFrame m #[(.ref x1)] 5)) T759 24 #[.val (.ref x1), .val (.ref rr), .val (.int (4 : Int32)), .val (.int (0 : Int32)), .val (.ref aU)] [(.ref yU)] := fun t ht => k758 t (st759 t ht)
  have k760 : Kt p e below m (s₁.setTop (entryFrame m #[(.ref x1)] 5)) T759 25 #[.val (.ref x1), .val (.ref rr), .val (.int (4 : Int32)), .val (.int (0 : Int32)), .val (.ref aU)] [(.ref x1), (.ref yU)] := by
    intro t ht
    refine k759 t ?_
    show Steps p.tables e below (T759.setTop (mkF m 24 #[.val (.ref x1), .val (.ref rr), .val (.int (4 : Int32)), .val (.int (0 : Int32)), .val (.ref aU)] [(.ref yU)])) t
    refine XS.aloadN X759.here hx rfl (hb hby dnm_24) rfl rfl ?_
    exact ht
  obtain ⟨cq761, kq761, q761a, q761b, q761c⟩ := isOf hZ e759 f735
  obtain ⟨_, _, ⟨T761, L761, c761, n761⟩, -, X761, ⟨Lc761, hQ761, l761, y761, z761⟩, st761⟩ := X759.virtualBack hx (y := (⟨"java/lang/String", "equals", "(Ljava/lang/Object;)Z"⟩ : MethodName)) (z := (⟨"java/lang/String", "equals", "(Ljava/lang/Object;)Z"⟩ : MethodName)) hown (mvT hZ (hw _ (List.mem_of_getElem? (i := 116) rfl))) (mvT hZ (hw _ (List.mem_of_getElem? (i := 80) rfl))) (notFace_of_selects (args := #[]) (mvT hZ (hw _ (List.mem_of_getElem? (i := 82) rfl)))) (mvT hZ (hw _ (List.mem_of_getElem? (i := 82) rfl))) (mvT hZ (hw _ (List.mem_of_getElem? (i := 81) rfl))) (by decide) (StrChars.Road.eqW (W := 0) hZ heq (kI := 4) (hw _ (List.mem_of_getElem? (i := 6) rfl)) f735 f737 f736 f738 (own_cod own_user_r) (own_up own_user_r) (by decide) f730 f732 f731 f733 (own_cod ur) (own_up ur) ul (S1.ext f728.2) P5 (by decide) (by decide)) q761a q761c (g := (mkF m 25 #[.val (.ref x1), .val (.ref rr), .val (.int (4 : Int32)), .val (.int (0 : Int32)), .val (.ref aU)] [(.ref x1), (.ref yU)])) rfl (by rw [hml]; rfl) (Steps.refl _) (argsL := [(.ref x1)]) (rest := []) (lenOf pd_11 rfl) rfl (by show 2 * 0 + _ ≤ _; exact Nat.le_of_eq rfl) (hb hby dnm_25) (fun _ _ => ⟨rfl, e759, (by decide : 1 + 0 ≤ _), (by decide : 4 + 0 ≤ _)⟩)
  dsimp only [Pt.U, Pt.locs, Pt.cells, Pt.slots] at X761 l761 y761 z761 st761 hQ761
  subst l761 y761 z761
  obtain ⟨hz761, hL761, eq761⟩ := hQ761
  obtain rfl := own_eq2 hz761
  subst hL761
  have Nq761 := Fr.nil n0
  have N761 := Fr.app N726 Nq761
  have k761 : Kt p e below m (s₁.setTop (entryFrame m #[(.ref x1)] 5)) T761 28 #[.val (.ref x1), .val (.ref rr), .val (.int (4 : Int32)), .val (.int (0 : Int32)), .val (.ref aU)] [(.int (own_b (own_user = cs)))] := fun t ht => k760 t (st761.trans ht)
  have f762 : n0 ≤ T761.heap.size := by rw [eq761]; exact f727
  have f763 : Old Z n0 T761.heap := by rw [eq761]; exact f728
  have f764 : Keep h0 T761.heap [] := by rw [eq761]; exact f729
  have f765 : Exa Z T761.heap x1 "java/lang/String" := by rw [eq761]; exact f730
  have f766 : Fld Z T761.heap x1 "java/lang/String" "coder" "B" (.int (0 : Int32)) := by rw [eq761]; exact f731
  have f767 : Fld Z T761.heap x1 "java/lang/String" "value" "[B" (.ref t1) := by rw [eq761]; exact f732
  have f768 : Arv Z T761.heap t1 k1 .byte (Int32.ofNat cs.length) (own_by cs) (.int (0 : Int32)) := by rw [eq761]; exact f733
  have f769 : Fld Z T761.heap aU "com/example/lockstile/lockstile/namespace/AclEntry$Tag" "text" "Ljava/lang/String;" (.ref yU) := by rw [eq761]; exact f734
  have f770 : Exa Z T761.heap yU "java/lang/String" := by rw [eq761]; exact f735
  have f771 : Fld Z T761.heap yU "java/lang/String" "coder" "B" (.int (0 : Int32)) := by rw [eq761]; exact f736
  have f772 : Fld Z T761.heap yU "java/lang/String" "value" "[B" (.ref tU) := by rw [eq761]; exact f737
  have f773 : Arv Z T761.heap tU kU .byte (Int32.ofNat own_user.length) (own_by own_user) (.int (0 : Int32)) := by rw [eq761]; exact f738
  have f774 : Fld Z T761.heap aG "com/example/lockstile/lockstile/namespace/AclEntry$Tag" "text" "Ljava/lang/String;" (.ref yG) := by rw [eq761]; exact f739
  have f775 : Exa Z T761.heap yG "java/lang/String" := by rw [eq761]; exact f740
  have f776 : Fld Z T761.heap yG "java/lang/String" "coder" "B" (.int (0 : Int32)) := by rw [eq761]; exact f741
  have f777 : Fld Z T761.heap yG "java/lang/String" "value" "[B" (.ref tG) := by rw [eq761]; exact f742
  have f778 : Arv Z T761.heap tG kG .byte (Int32.ofNat own_group.length) (own_by own_group) (.int (0 : Int32)) := by rw [eq761]; exact f743
  have f779 : Fld Z T761.heap aM "com/example/lockstile/lockstile/namespace/AclEntry$Tag" "text" "Ljava/lang/String;" (.ref yM) := by rw [eq761]; exact f744
  have f780 : Exa Z T761.heap yM "java/lang/String" := by rw [eq761]; exact f745
  have f781 : Fld Z T761.heap yM "java/lang/String" "coder" "B" (.int (0 : Int32)) := by rw [eq761]; exact f746
  have f782 : Fld Z T761.heap yM "java/lang/String" "value" "[B" (.ref tM) := by rw [eq761]; exact f747
  have f783 : Arv Z T761.heap tM kM .byte (Int32.ofNat own_mask.length) (own_by own_mask) (.int (0 : Int32)) := by rw [eq761]; exact f748
  have f784 : Fld Z T761.heap aO "com/example/lockstile/lockstile/namespace/AclEntry$Tag" "text" "Ljava/lang/String;" (.ref yO) := by rw [eq761]; exact f749
  have f785 : Exa Z T761.heap yO "java/lang/String" := by rw [eq761]; exact f750
  have f786 : Fld Z T761.heap yO "java/lang/String" "coder" "B" (.int (0 : Int32)) := by rw [eq761]; exact f751
  have f787 : Fld Z T761.heap yO "java/lang/String" "value" "[B" (.ref tO) := by rw [eq761]; exact f752
  have f788 : Arv Z T761.heap tO kO .byte (Int32.ofNat own_other.length) (own_by own_other) (.int (0 : Int32)) := by rw [eq761]; exact f753
  have f789 : Arv Z T761.heap rr kv (.object "com/example/lockstile/lockstile/namespace/AclEntry$Tag") (4 : Int32) [(.ref aU), (.ref aG), (.ref aM), (.ref aO)] .null := by rw [eq761]; exact Vr726
  by_cases c0 : (own_b (own_user = cs)) = (0 : Int32)
  · have k790 : Kt p e below m (s₁.setTop (entryFrame m #[(.ref x1)] 5)) T761 37 #[.val (.ref x1), .val (.ref rr), .val (.int (4 : Int32)), .val (.int ((0 : Int32) + (1 : Int32))), .val (.ref aU)] [] := by
      intro t ht
      refine k761 t ?_
      show Steps p.tables e below (T761.setTop (mkF m 28 #[.val (.ref x1), .val (.ref rr), .val (.int (4 : Int32)), .val (.int (0 : Int32)), .val (.ref aU)] [(.int (own_b (own_user = cs)))])) t
      refine XS.ifYes X761.here hx rfl (pc0 := 28) (pc' := 34) rfl (hb hby dnm_28) rfl ((if0 _ _).trans (teq c0).1) (by decide) (by decide) ?_
      show Steps p.tables e below (T761.setTop (mkF m 34 #[.val (.ref x1), .val (.ref rr), .val (.int (4 : Int32)), .val (.int (0 : Int32)), .val (.ref aU)] [])) t
      refine XS.iinc X761.here hx rfl (hb hby dnm_34) rfl (l' := #[.val (.ref x1), .val (.ref rr), .val (.int (4 : Int32)), .val (.int ((0 : Int32) + (1 : Int32))), .val (.ref aU)]) rfl ?_
      exact ht
    have q791 : ((0 : Int32) + (1 : Int32)) = (1 : Int32) := by decide
    rw [q791] at k790
    have k792 : Kt p e below m (s₁.setTop (entryFrame m #[(.ref x1)] 5)) T761 16 #[.val (.ref x1), .val (.ref rr), .val (.int (4 : Int32)), .val (.int (1 : Int32)), .val (.ref aU)] [(.int (1 : Int32)), (.ref rr)] := by
      intro t ht
      refine k790 t ?_
      show Steps p.tables e below (T761.setTop (mkF m 37 #[.val (.ref x1), .val (.ref rr), .val (.int (4 : Int32)), .val (.int (1 : Int32)), .val (.ref aU)] [])) t
      refine XS.goto X761.here hx rfl (pc0 := 37) (pc' := 9) rfl (hb hby dnm_37) (by decide) (by decide) ?_
      show Steps p.tables e below (T761.setTop (mkF m 9 #[.val (.ref x1), .val (.ref rr), .val (.int (4 : Int32)), .val (.int (1 : Int32)), .val (.ref aU)] [])) t
      refine XS.iloadN X761.here hx rfl (hb hby dnm_9) rfl ?_
      show Steps p.tables e below (T761.setTop (mkF m 10 #[.val (.ref x1), .val (.ref rr), .val (.int (4 : Int32)), .val (.int (1 : Int32)), .val (.ref aU)] [(.int (1 : Int32))])) t
      refine XS.iloadN X761.here hx rfl (hb hby dnm_10) rfl ?_
      show Steps p.tables e below (T761.setTop (mkF m 11 #[.val (.ref x1), .val (.ref rr), .val (.int (4 : Int32)), .val (.int (1 : Int32)), .val (.ref aU)] [(.int (4 : Int32)), (.int (1 : Int32))])) t
      refine XS.icmpNo X761.here hx rfl (hb hby dnm_11) rfl (tlt (by decide)).2.1 ?_
      show Steps p.tables e below (T761.setTop (mkF m 14 #[.val (.ref x1), .val (.ref rr), .val (.int (4 : Int32)), .val (.int (1 : Int32)), .val (.ref aU)] [])) t
      refine XS.aloadN X761.here hx rfl (hb hby dnm_14) rfl rfl ?_
      show Steps p.tables e below (T761.setTop (mkF m 15 #[.val (.ref x1), .val (.ref rr), .val (.int (4 : Int32)), .val (.int (1 : Int32)), .val (.ref aU)] [(.ref rr)])) t
      refine XS.iloadN X761.here hx rfl (hb hby dnm_15) rfl ?_
      exact ht
    obtain ⟨cl793, Ar793, qc793, Sz793, Nn793, Hh793, Gg793⟩ := id f789
    have hin793 : ¬ ((1 : Int32) < 0 ∨ cl793.slots.size ≤ ((1 : Int32)).toNatClampNeg) := inb_of Sz793 ⟨by decide, by decide⟩
    have hat793 : cl793.slots[((1 : Int32)).toNatClampNeg]? = some (.ref aG) := Hh793.at hin793 rfl
    have k794 : Kt p e below m (s₁.setTop (entryFrame m #[(.ref x1)] 5)) T761 21 #[.val (.ref x1), .val (.ref rr), .val (.int (4 : Int32)), .val (.int (1 : Int32)), .val (.ref aG)] [(.ref aG)] := by
      intro t ht
      refine k792 t ?_
      show Steps p.tables e below (T761.setTop (mkF m 16 #[.val (.ref x1), .val (.ref rr), .val (.int (4 : Int32)), .val (.int (1 : Int32)), .val (.ref aU)] [(.int (1 : Int32)), (.ref rr)])) t
      refine X761.aaload hx (j := (1 : Int32)) (v := (.ref aG)) Ar793.1 (State.isArrayOf_alike hZ.alike Ar793.2.1) rfl Ar793.2.2 hin793 hat793 (g := (mkF m 16 #[.val (.ref x1), .val (.ref rr), .val (.int (4 : Int32)), .val (.int (1 : Int32)), .val (.ref aU)] [(.int (1 : Int32)), (.ref rr)])) rfl rfl (hb hby dnm_16) _ ?_
      show Steps p.tables e below (T761.setTop (mkF m 17 #[.val (.ref x1), .val (.ref rr), .val (.int (4 : Int32)), .val (.int (1 : Int32)), .val (.ref aU)] [(.ref aG)])) t
      refine XS.astore X761.here hx rfl (hb hby dnm_17) rfl rfl (l' := #[.val (.ref x1), .val (.ref rr), .val (.int (4 : Int32)), .val (.int (1 : Int32)), .val (.ref aG)]) rfl ?_
      show Steps p.tables e below (T761.setTop (mkF m 19 #[.val (.ref x1), .val (.ref rr), .val (.int (4 : Int32)), .val (.int (1 : Int32)), .val (.ref aG)] [])) t
      refine XS.aload X761.here hx rfl (hb hby dnm_19) rfl rfl ?_
      exact ht
    obtain ⟨T795, X795, e795, st795⟩ := getF X761 hx hZ hown (host := "") (Or.inl (hw _ (List.mem_of_getElem? (i := 114) rfl))) Via.refl rfl f774 (g := (mkF m 21 #[.val (.ref x1), .val (.ref rr), .val (.int (4 : Int32)), .val (.int (1 : Int32)), .val (.ref aG)] [(.ref aG)])) rfl rfl (hb hby dnm_21)
    have k795 : Kt p e below m (s₁.setTop (entryFrame m #[(.ref x1)] 5)) T795 24 #[.val (.ref x1), .val (.ref rr), .val (.int (4 : Int32)), .val (.int (1 : Int32)), .val (.ref aG)] [(.ref yG)] := fun t ht => k794 t (st795 t ht)
    have k796 : Kt p e below m (s₁.setTop (entryFrame m #[(.ref x1)] 5)) T795 25 #[.val (.ref x1), .val (.ref rr), .val (.int (4 : Int32)), .val (.int (1 : Int32)), .val (.ref aG)] [(.ref x1), (.ref yG)] := by
      intro t ht
      refine k795 t ?_
      show Steps p.tables e below (T795.setTop (mkF m 24 #[.val (.ref x1), .val (.ref rr), .val (.int (4 : Int32)), .val (.int (1 : Int32)), .val (.ref aG)] [(.ref yG)])) t
      refine XS.aloadN X795.here hx rfl (hb hby dnm_24) rfl rfl ?_
      exact ht
    obtain ⟨cq797, kq797, q797a, q797b, q797c⟩ := isOf hZ e795 f775
    obtain ⟨_, _, ⟨T797, L797, c797, n797⟩, -, X797, ⟨Lc797, hQ797, l797, y797, z797⟩, st797⟩ := X795.virtualBack hx (y := (⟨"java/lang/String", "equals", "(Ljava/lang/Object;)Z"⟩ : MethodName)) (z := (⟨"java/lang/String", "equals", "(Ljava/lang/Object;)Z"⟩ : MethodName)) hown (mvT hZ (hw _ (List.mem_of_getElem? (i := 116) rfl))) (mvT hZ (hw _ (List.mem_of_getElem? (i := 80) rfl))) (notFace_of_selects (args := #[]) (mvT hZ (hw _ (List.mem_of_getElem? (i := 82) rfl)))) (mvT hZ (hw _ (List.mem_of_getElem? (i := 82) rfl))) (mvT hZ (hw _ (List.mem_of_getElem? (i := 81) rfl))) (by decide) (StrChars.Road.eqW (W := 0) hZ heq (kI := 4) (hw _ (List.mem_of_getElem? (i := 6) rfl)) f775 f777 f776 f778 (own_cod own_group_r) (own_up own_group_r) (by decide) f765 f767 f766 f768 (own_cod ur) (own_up ur) ul (S1.ext f763.2) P5 (by decide) (by decide)) q797a q797c (g := (mkF m 25 #[.val (.ref x1), .val (.ref rr), .val (.int (4 : Int32)), .val (.int (1 : Int32)), .val (.ref aG)] [(.ref x1), (.ref yG)])) rfl (by rw [hml]; rfl) (Steps.refl _) (argsL := [(.ref x1)]) (rest := []) (lenOf pd_11 rfl) rfl (by show 2 * 0 + _ ≤ _; exact Nat.le_of_eq rfl) (hb hby dnm_25) (fun _ _ => ⟨rfl, e795, (by decide : 1 + 0 ≤ _), (by decide : 4 + 0 ≤ _)⟩)
    dsimp only [Pt.U, Pt.locs, Pt.cells, Pt.slots] at X797 l797 y797 z797 st797 hQ797
    subst l797 y797 z797
    obtain ⟨hz797, hL797, eq797⟩ := hQ797
    obtain rfl := own_eq2 hz797
    subst hL797
    have Nq797 := Fr.nil n0
    have N797 := Fr.app N761 Nq797
    have k797 : Kt p e below m (s₁.setTop (entryFrame m #[(.ref x1)] 5)) T797 28 #[.val (.ref x1), .val (.ref rr), .val (.int (4 : Int32)), .val (.int (1 : Int32)), .val (.ref aG)] [(.int (own_b (own_group = cs)))] := fun t ht => k796 t (st797.trans ht)
    have f798 : n0 ≤ T797.heap.size := by rw [eq797]; exact f762
    have f799 : Old Z n0 T797.heap := by rw [eq797]; exact f763
    have f800 : Keep h0 T797.heap [] := by rw [eq797]; exact f764
    have f801 : Exa Z T797.heap x1 "java/lang/String" := by rw [eq797]; exact f765
    have f802 : Fld Z T797.heap x1 "java/lang/String" "coder" "B" (.int (0 : Int32)) := by rw [eq797]; exact f766
    have f803 : Fld Z T797.heap x1 "java/lang/String" "value" "[B" (.ref t1) := by rw [eq797]; exact f767
    have f804 : Arv Z T797.heap t1 k1 .byte (Int32.ofNat cs.length) (own_by cs) (.int (0 : Int32)) := by rw [eq797]; exact f768
    have f805 : Fld Z T797.heap aU "com/example/lockstile/lockstile/namespace/AclEntry$Tag" "text" "Ljava/lang/String;" (.ref yU) := by rw [eq797]; exact f769
    have f806 : Exa Z T797.heap yU "java/lang/String" := by rw [eq797]; exact f770
    have f807 : Fld Z T797.heap yU "java/lang/String" "coder" "B" (.int (0 : Int32)) := by rw [eq797]; exact f771
    have f808 : Fld Z T797.heap yU "java/lang/String" "value" "[B" (.ref tU) := by rw [eq797]; exact f772
    have f809 : Arv Z T797.heap tU kU .byte (Int32.ofNat own_user.length) (own_by own_user) (.int (0 : Int32)) := by rw [eq797]; exact f773
    have f810 : Fld Z T797.heap aG "com/example/lockstile/lockstile/namespace/AclEntry$Tag" "text" "Ljava/lang/String;" (.ref yG) := by rw [eq797]; exact f774
    have f811 : Exa Z T797.heap yG "java/lang/String" := by rw [eq797]; exact f775
    have f812 : Fld Z T797.heap yG "java/lang/String" "coder" "B" (.int (0 : Int32)) := by rw [eq797]; exact f776
    have f813 : Fld Z T797.heap yG "java/lang/String" "value" "[B" (.ref tG) := by rw [eq797]; exact f777
    have f814 : Arv Z T797.heap tG kG .byte (Int32.ofNat own_group.length) (own_by own_group) (.int (0 : Int32)) := by rw [eq797]; exact f778
    have f815 : Fld Z T797.heap aM "com/example/lockstile/lockstile/namespace/AclEntry$Tag" "text" "Ljava/lang/String;" (.ref yM) := by rw [eq797]; exact f779
    have f816 : Exa Z T797.heap yM "java/lang/String" := by rw [eq797]; exact f780
    have f817 : Fld Z T797.heap yM "java/lang/String" "coder" "B" (.int (0 : Int32)) := by rw [eq797]; exact f781
    have f818 : Fld Z T797.heap yM "java/lang/String" "value" "[B" (.ref tM) := by rw [eq797]; exact f782
    have f819 : Arv Z T797.heap tM kM .byte (Int32.ofNat own_mask.length) (own_by own_mask) (.int (0 : Int32)) := by rw [eq797]; exact f783
    have f820 : Fld Z T797.heap aO "com/example/lockstile/lockstile/namespace/AclEntry$Tag" "text" "Ljava/lang/String;" (.ref yO) := by rw [eq797]; exact f784
    have f821 : Exa Z T797.heap yO "java/lang/String" := by rw [eq797]; exact f785
    have f822 : Fld Z T797.heap yO "java/lang/String" "coder" "B" (.int (0 : Int32)) := by rw [eq797]; exact f786
    have f823 : Fld Z T797.heap yO "java/lang/String" "value" "[B" (.ref tO) := by rw [eq797]; exact f787
    have f824 : Arv Z T797.heap tO kO .byte (Int32.ofNat own_other.length) (own_by own_other) (.int (0 : Int32)) := by rw [eq797]; exact f788
    have f825 : Arv Z T797.heap rr kv (.object "com/example/lockstile/lockstile/namespace/AclEntry$Tag") (4 : Int32) [(.ref aU), (.ref aG), (.ref aM), (.ref aO)] .null := by rw [eq797]; exact f789
    by_cases c1 : (own_b (own_group = cs)) = (0 : Int32)
    · have k826 : Kt p e below m (s₁.setTop (entryFrame m #[(.ref x1)] 5)) T797 37 #[.val (.ref x1), .val (.ref rr), .val (.int (4 : Int32)), .val (.int ((1 : Int32) + (1 : Int32))), .val (.ref aG)] [] := by
        intro t ht
        refine k797 t ?_
        show Steps p.tables e below (T797.setTop (mkF m 28 #[.val (.ref x1), .val (.ref rr), .val (.int (4 : Int32)), .val (.int (1 : Int32)), .val (.ref aG)] [(.int (own_b (own_group = cs)))])) t
        refine XS.ifYes X797.here hx rfl (pc0 := 28) (pc' := 34) rfl (hb hby dnm_28) rfl ((if0 _ _).trans (teq c1).1) (by decide) (by decide) ?_
        show Steps p.tables e below (T797.setTop (mkF m 34 #[.val (.ref x1), .val (.ref rr), .val (.int (4 : Int32)), .val (.int (1 : Int32)), .val (.ref aG)] [])) t
        refine XS.iinc X797.here hx rfl (hb hby dnm_34) rfl (l' := #[.val (.ref x1), .val (.ref rr), .val (.int (4 : Int32)), .val (.int ((1 : Int32) + (1 : Int32))), .val (.ref aG)]) rfl ?_
        exact ht
      have q827 : ((1 : Int32) + (1 : Int32)) = (2 : Int32) := by decide
      rw [q827] at k826
      have k828 : Kt p e below m (s₁.setTop (entryFrame m #[(.ref x1)] 5)) T797 16 #[.val (.ref x1), .val (.ref rr), .val (.int (4 : Int32)), .val (.int (2 : Int32)), .val (.ref aG)] [(.int (2 : Int32)), (.ref rr)] := by
        intro t ht
        refine k826 t ?_
        show Steps p.tables e below (T797.setTop (mkF m 37 #[.val (.ref x1), .val (.ref rr), .val (.int (4 : Int32)), .val (.int (2 : Int32)), .val (.ref aG)] [])) t
        refine XS.goto X797.here hx rfl (pc0 := 37) (pc' := 9) rfl (hb hby dnm_37) (by decide) (by decide) ?_
        show Steps p.tables e below (T797.setTop (mkF m 9 #[.val (.ref x1), .val (.ref rr), .val (.int (4 : Int32)), .val (.int (2 : Int32)), .val (.ref aG)] [])) t
        refine XS.iloadN X797.here hx rfl (hb hby dnm_9) rfl ?_
        show Steps p.tables e below (T797.setTop (mkF m 10 #[.val (.ref x1), .val (.ref rr), .val (.int (4 : Int32)), .val (.int (2 : Int32)), .val (.ref aG)] [(.int (2 : Int32))])) t
        refine XS.iloadN X797.here hx rfl (hb hby dnm_10) rfl ?_
        show Steps p.tables e below (T797.setTop (mkF m 11 #[.val (.ref x1), .val (.ref rr), .val (.int (4 : Int32)), .val (.int (2 : Int32)), .val (.ref aG)] [(.int (4 : Int32)), (.int (2 : Int32))])) t
        refine XS.icmpNo X797.here hx rfl (hb hby dnm_11) rfl (tlt (by decide)).2.1 ?_
        show Steps p.tables e below (T797.setTop (mkF m 14 #[.val (.ref x1), .val (.ref rr), .val (.int (4 : Int32)), .val (.int (2 : Int32)), .val (.ref aG)] [])) t
        refine XS.aloadN X797.here hx rfl (hb hby dnm_14) rfl rfl ?_
        show Steps p.tables e below (T797.setTop (mkF m 15 #[.val (.ref x1), .val (.ref rr), .val (.int (4 : Int32)), .val (.int (2 : Int32)), .val (.ref aG)] [(.ref rr)])) t
        refine XS.iloadN X797.here hx rfl (hb hby dnm_15) rfl ?_
        exact ht
      obtain ⟨cl829, Ar829, qc829, Sz829, Nn829, Hh829, Gg829⟩ := id f825
      have hin829 : ¬ ((2 : Int32) < 0 ∨ cl829.slots.size ≤ ((2 : Int32)).toNatClampNeg) := inb_of Sz829 ⟨by decide, by decide⟩
      have hat829 : cl829.slots[((2 : Int32)).toNatClampNeg]? = some (.ref aM) := Hh829.at hin829 rfl
      have k830 : Kt p e below m (s₁.setTop (entryFrame m #[(.ref x1)] 5)) T797 21 #[.val (.ref x1), .val (.ref rr), .val (.int (4 : Int32)), .val (.int (2 : Int32)), .val (.ref aM)] [(.ref aM)] := by
        intro t ht
        refine k828 t ?_
        show Steps p.tables e below (T797.setTop (mkF m 16 #[.val (.ref x1), .val (.ref rr), .val (.int (4 : Int32)), .val (.int (2 : Int32)), .val (.ref aG)] [(.int (2 : Int32)), (.ref rr)])) t
        refine X797.aaload hx (j := (2 : Int32)) (v := (.ref aM)) Ar829.1 (State.isArrayOf_alike hZ.alike Ar829.2.1) rfl Ar829.2.2 hin829 hat829 (g := (mkF m 16 #[.val (.ref x1), .val (.ref rr), .val (.int (4 : Int32)), .val (.int (2 : Int32)), .val (.ref aG)] [(.int (2 : Int32)), (.ref rr)])) rfl rfl (hb hby dnm_16) _ ?_
        show Steps p.tables e below (T797.setTop (mkF m 17 #[.val (.ref x1), .val (.ref rr), .val (.int (4 : Int32)), .val (.int (2 : Int32)), .val (.ref aG)] [(.ref aM)])) t
        refine XS.astore X797.here hx rfl (hb hby dnm_17) rfl rfl (l' := #[.val (.ref x1), .val (.ref rr), .val (.int (4 : Int32)), .val (.int (2 : Int32)), .val (.ref aM)]) rfl ?_
        show Steps p.tables e below (T797.setTop (mkF m 19 #[.val (.ref x1), .val (.ref rr), .val (.int (4 : Int32)), .val (.int (2 : Int32)), .val (.ref aM)] [])) t
        refine XS.aload X797.here hx rfl (hb hby dnm_19) rfl rfl ?_
        exact ht
      obtain ⟨T831, X831, e831, st831⟩ := getF X797 hx hZ hown (host := "") (Or.inl (hw _ (List.mem_of_getElem? (i := 114) rfl))) Via.refl rfl f815 (g := (mkF m 21 #[.val (.ref x1), .val (.ref rr), .val (.int (4 : Int32)), .val (.int (2 : Int32)), .val (.ref aM)] [(.ref aM)])) rfl rfl (hb hby dnm_21)
      have k831 : Kt p e below m (s₁.setTop (entryFrame m #[(.ref x1)] 5)) T831 24 #[.val (.ref x1), .val (.ref rr), .val (.int (4 : Int32)), .val (.int (2 : Int32)), .val (.ref aM)] [(.ref yM)] := fun t ht => k830 t (st831 t ht)
      have k832 : Kt p e below m (s₁.setTop (entryFrame m #[(.ref x1)] 5)) T831 25 #[.val (.ref x1), .val (.ref rr), .val (.int (4 : Int32)), .val (.int (2 : Int32)), .val (.ref aM)] [(.ref x1), (.ref yM)] := by
        intro t ht
        refine k831 t ?_
        show Steps p.tables e below (T831.setTop (mkF m 24 #[.val (.ref x1), .val (.ref rr), .val (.int (4 : Int32)), .val (.int (2 : Int32)), .val (.ref aM)] [(.ref yM)])) t
        refine XS.aloadN X831.here hx rfl (hb hby dnm_24) rfl rfl ?_
        exact ht
      obtain ⟨cq833, kq833, q833a, q833b, q833c⟩ := isOf hZ e831 f816
      obtain ⟨_, _, ⟨T833, L833, c833, n833⟩, -, X833, ⟨Lc833, hQ833, l833, y833, z833⟩, st833⟩ := X831.virtualBack hx (y := (⟨"java/lang/String", "equals", "(Ljava/lang/Object;)Z"⟩ : MethodName)) (z := (⟨"java/lang/String", "equals", "(Ljava/lang/Object;)Z"⟩ : MethodName)) hown (mvT hZ (hw _ (List.mem_of_getElem? (i := 116) rfl))) (mvT hZ (hw _ (List.mem_of_getElem? (i := 80) rfl))) (notFace_of_selects (args := #[]) (mvT hZ (hw _ (List.mem_of_getElem? (i := 82) rfl)))) (mvT hZ (hw _ (List.mem_of_getElem? (i := 82) rfl))) (mvT hZ (hw _ (List.mem_of_getElem? (i := 81) rfl))) (by decide) (StrChars.Road.eqW (W := 0) hZ heq (kI := 4) (hw _ (List.mem_of_getElem? (i := 6) rfl)) f816 f818 f817 f819 (own_cod own_mask_r) (own_up own_mask_r) (by decide) f801 f803 f802 f804 (own_cod ur) (own_up ur) ul (S1.ext f799.2) P5 (by decide) (by decide)) q833a q833c (g := (mkF m 25 #[.val (.ref x1), .val (.ref rr), .val (.int (4 : Int32)), .val (.int (2 : Int32)), .val (.ref aM)] [(.ref x1), (.ref yM)])) rfl (by rw [hml]; rfl) (Steps.refl _) (argsL := [(.ref x1)]) (rest := []) (lenOf pd_11 rfl) rfl (by show 2 * 0 + _ ≤ _; exact Nat.le_of_eq rfl) (hb hby dnm_25) (fun _ _ => ⟨rfl, e831, (by decide : 1 + 0 ≤ _), (by decide : 4 + 0 ≤ _)⟩)
      dsimp only [Pt.U, Pt.locs, Pt.cells, Pt.slots] at X833 l833 y833 z833 st833 hQ833
      subst l833 y833 z833
      obtain ⟨hz833, hL833, eq833⟩ := hQ833
      obtain rfl := own_eq2 hz833
      subst hL833
      have Nq833 := Fr.nil n0
      have N833 := Fr.app N797 Nq833
      have k833 : Kt p e below m (s₁.setTop (entryFrame m #[(.ref x1)] 5)) T833 28 #[.val (.ref x1), .val (.ref rr), .val (.int (4 : Int32)), .val (.int (2 : Int32)), .val (.ref aM)] [(.int (own_b (own_mask = cs)))] := fun t ht => k832 t (st833.trans ht)
      have f834 : n0 ≤ T833.heap.size := by rw [eq833]; exact f798
      have f835 : Old Z n0 T833.heap := by rw [eq833]; exact f799
      have f836 : Keep h0 T833.heap [] := by rw [eq833]; exact f800
      have f837 : Exa Z T833.heap x1 "java/lang/String" := by rw [eq833]; exact f801
      have f838 : Fld Z T833.heap x1 "java/lang/String" "coder" "B" (.int (0 : Int32)) := by rw [eq833]; exact f802
      have f839 : Fld Z T833.heap x1 "java/lang/String" "value" "[B" (.ref t1) := by rw [eq833]; exact f803
      have f840 : Arv Z T833.heap t1 k1 .byte (Int32.ofNat cs.length) (own_by cs) (.int (0 : Int32)) := by rw [eq833]; exact f804
      have f841 : Fld Z T833.heap aU "com/example/lockstile/lockstile/namespace/AclEntry$Tag" "text" "Ljava/lang/String;" (.ref yU) := by rw [eq833]; exact f805
      have f842 : Exa Z T833.heap yU "java/lang/String" := by rw [eq833]; exact f806
      have f843 : Fld Z T833.heap yU "java/lang/String" "coder" "B" (.int (0 : Int32)) := by rw [eq833]; exact f807
      have f844 : Fld Z T833.heap yU "java/lang/String" "value" "[B" (.ref tU) := by rw [eq833]; exact f808
      have f845 : Arv Z T833.heap tU kU .byte (Int32.ofNat own_user.length) (own_by own_user) (.int (0 : Int32)) := by rw [eq833]; exact f809
      have f846 : Fld Z T833.heap aG "com/example/lockstile/lockstile/namespace/AclEntry$Tag" "text" "Ljava/lang/String;" (.ref yG) := by rw [eq833]; exact f810
      have f847 : Exa Z T833.heap yG "java/lang/String" := by rw [eq833]; exact f811
      have f848 : Fld Z T833.heap yG "java/lang/String" "coder" "B" (.int (0 : Int32)) := by rw [eq833]; exact f812
      have f849 : Fld Z T833.heap yG "java/lang/String" "value" "[B" (.ref tG) := by rw [eq833]; exact f813
      have f850 : Arv Z T833.heap tG kG .byte (Int32.ofNat own_group.length) (own_by own_group) (.int (0 : Int32)) := by rw [eq833]; exact f814
      have f851 : Fld Z T833.heap aM "com/example/lockstile/lockstile/namespace/AclEntry$Tag" "text" "Ljava/lang/String;" (.ref yM) := by rw [eq833]; exact f815
      have f852 : Exa Z T833.heap yM "java/lang/String" := by rw [eq833]; exact f816
      have f853 : Fld Z T833.heap yM "java/lang/String" "coder" "B" (.int (0 : Int32)) := by rw [eq833]; exact f817
      have f854 : Fld Z T833.heap yM "java/lang/String" "value" "[B" (.ref tM) := by rw [eq833]; exact f818
      have f855 : Arv Z T833.heap tM kM .byte (Int32.ofNat own_mask.length) (own_by own_mask) (.int (0 : Int32)) := by rw [eq833]; exact f819
      have f856 : Fld Z T833.heap aO "com/example/lockstile/lockstile/namespace/AclEntry$Tag" "text" "Ljava/lang/String;" (.ref yO) := by rw [eq833]; exact f820
      have f857 : Exa Z T833.heap yO "java/lang/String" := by rw [eq833]; exact f821
      have f858 : Fld Z T833.heap yO "java/lang/String" "coder" "B" (.int (0 : Int32)) := by rw [eq833]; exact f822
      have f859 : Fld Z T833.heap yO "java/lang/String" "value" "[B" (.ref tO) := by rw [eq833]; exact f823
      have f860 : Arv Z T833.heap tO kO .byte (Int32.ofNat own_other.length) (own_by own_other) (.int (0 : Int32)) := by rw [eq833]; exact f824
      have f861 : Arv Z T833.heap rr kv (.object "com/example/lockstile/lockstile/namespace/AclEntry$Tag") (4 : Int32) [(.ref aU), (.ref aG), (.ref aM), (.ref aO)] .null := by rw [eq833]; exact f825
      by_cases c2 : (own_b (own_mask = cs)) = (0 : Int32)
      · have k862 : Kt p e below m (s₁.setTop (entryFrame m #[(.ref x1)] 5)) T833 37 #[.val (.ref x1), .val (.ref rr), .val (.int (4 : Int32)), .val (.int ((2 : Int32) + (1 : Int32))), .val (.ref aM)] [] := by
          intro t ht
          refine k833 t ?_
          show Steps p.tables e below (T833.setTop (mkF m 28 #[.val (.ref x1), .val (.ref rr), .val (.int (4 : Int32)), .val (.int (2 : Int32)), .val (.ref aM)] [(.int (own_b (own_mask = cs)))])) t
          refine XS.ifYes X833.here hx rfl (pc0 := 28) (pc' := 34) rfl (hb hby dnm_28) rfl ((if0 _ _).trans (teq c2).1) (by decide) (by decide) ?_
          show Steps p.tables e below (T833.setTop (mkF m 34 #[.val (.ref x1), .val (.ref rr), .val (.int (4 : Int32)), .val (.int (2 : Int32)), .val (.ref aM)] [])) t
          refine XS.iinc X833.here hx rfl (hb hby dnm_34) rfl (l' := #[.val (.ref x1), .val (.ref rr), .val (.int (4 : Int32)), .val (.int ((2 : Int32) + (1 : Int32))), .val (.ref aM)]) rfl ?_
          exact ht
        have q863 : ((2 : Int32) + (1 : Int32)) = (3 : Int32) := by decide
        rw [q863] at k862
        have k864 : Kt p e below m (s₁.setTop (entryFrame m #[(.ref x1)] 5)) T833 16 #[.val (.ref x1), .val (.ref rr), .val (.int (4 : Int32)), .val (.int (3 : Int32)), .val (.ref aM)] [(.int (3 : Int32)), (.ref rr)] := by
          intro t ht
          refine k862 t ?_
          show Steps p.tables e below (T833.setTop (mkF m 37 #[.val (.ref x1), .val (.ref rr), .val (.int (4 : Int32)), .val (.int (3 : Int32)), .val (.ref aM)] [])) t
          refine XS.goto X833.here hx rfl (pc0 := 37) (pc' := 9) rfl (hb hby dnm_37) (by decide) (by decide) ?_
          show Steps p.tables e below (T833.setTop (mkF m 9 #[.val (.ref x1), .val (.ref rr), .val (.int (4 : Int32)), .val (.int (3 : Int32)), .val (.ref aM)] [])) t
          refine XS.iloadN X833.here hx rfl (hb hby dnm_9) rfl ?_
          show Steps p.tables e below (T833.setTop (mkF m 10 #[.val (.ref x1), .val (.ref rr), .val (.int (4 : Int32)), .val (.int (3 : Int32)), .val (.ref aM)] [(.int (3 : Int32))])) t
          refine XS.iloadN X833.here hx rfl (hb hby dnm_10) rfl ?_
          show Steps p.tables e below (T833.setTop (mkF m 11 #[.val (.ref x1), .val (.ref rr), .val (.int (4 : Int32)), .val (.int (3 : Int32)), .val (.ref aM)] [(.int (4 : Int32)), (.int (3 : Int32))])) t
          refine XS.icmpNo X833.here hx rfl (hb hby dnm_11) rfl (tlt (by decide)).2.1 ?_
          show Steps p.tables e below (T833.setTop (mkF m 14 #[.val (.ref x1), .val (.ref rr), .val (.int (4 : Int32)), .val (.int (3 : Int32)), .val (.ref aM)] [])) t
          refine XS.aloadN X833.here hx rfl (hb hby dnm_14) rfl rfl ?_
          show Steps p.tables e below (T833.setTop (mkF m 15 #[.val (.ref x1), .val (.ref rr), .val (.int (4 : Int32)), .val (.int (3 : Int32)), .val (.ref aM)] [(.ref rr)])) t
          refine XS.iloadN X833.here hx rfl (hb hby dnm_15) rfl ?_
          exact ht
        obtain ⟨cl865, Ar865, qc865, Sz865, Nn865, Hh865, Gg865⟩ := id f861
        have hin865 : ¬ ((3 : Int32) < 0 ∨ cl865.slots.size ≤ ((3 : Int32)).toNatClampNeg) := inb_of Sz865 ⟨by decide, by decide⟩
        have hat865 : cl865.slots[((3 : Int32)).toNatClampNeg]? = some (.ref aO) := Hh865.at hin865 rfl
        have k866 : Kt p e below m (s₁.setTop (entryFrame m #[(.ref x1)] 5)) T833 21 #[.val (.ref x1), .val (.ref rr), .val (.int (4 : Int32)), .val (.int (3 : Int32)), .val (.ref aO)] [(.ref aO)] := by
          intro t ht
          refine k864 t ?_
          show Steps p.tables e below (T833.setTop (mkF m 16 #[.val (.ref x1), .val (.ref rr), .val (.int (4 : Int32)), .val (.int (3 : Int32)), .val (.ref aM)] [(.int (3 : Int32)), (.ref rr)])) t
          refine X833.aaload hx (j := (3 : Int32)) (v := (.ref aO)) Ar865.1 (State.isArrayOf_alike hZ.alike Ar865.2.1) rfl Ar865.2.2 hin865 hat865 (g := (mkF m 16 #[.val (.ref x1), .val (.ref rr), .val (.int (4 : Int32)), .val (.int (3 : Int32)), .val (.ref aM)] [(.int (3 : Int32)), (.ref rr)])) rfl rfl (hb hby dnm_16) _ ?_
          show Steps p.tables e below (T833.setTop (mkF m 17 #[.val (.ref x1), .val (.ref rr), .val (.int (4 : Int32)), .val (.int (3 : Int32)), .val (.ref aM)] [(.ref aO)])) t
          refine XS.astore X833.here hx rfl (hb hby dnm_17) rfl rfl (l' := #[.val (.ref x1), .val (.ref rr), .val (.int (4 : Int32)), .val (.int (3 : Int32)), .val (.ref aO)]) rfl ?_
          show Steps p.tables e below (T833.setTop (mkF m 19 #[.val (.ref x1), .val (.ref rr), .val (.int (4 : Int32)), .val (.int (3 : Int32)), .val (.ref aO)] [])) t
          refine XS.aload X833.here hx rfl (hb hby dnm_19) rfl rfl ?_
          exact ht
        obtain ⟨T867, X867, e867, st867⟩ := getF X833 hx hZ hown (host := "") (Or.inl (hw _ (List.mem_of_getElem? (i := 114) rfl))) Via.refl rfl f856 (g := (mkF m 21 #[.val (.ref x1), .val (.ref rr), .val (.int (4 : Int32)), .val (.int (3 : Int32)), .val (.ref aO)] [(.ref aO)])) rfl rfl (hb hby dnm_21)
        have k867 : Kt p e below m (s₁.setTop (entryFrame m #[(.ref x1)] 5)) T867 24 #[.val (.ref x1), .val (.ref rr), .val (.int (4 : Int32)), .val (.int (3 : Int32)), .val (.ref aO)] [(.ref yO)] := fun t ht => k866 t (st867 t ht)
        have k868 : Kt p e below m (s₁.setTop (entryFrame m #[(.ref x1)] 5)) T867 25 #[.val (.ref x1), .val (.ref rr), .val (.int (4 : Int32)), .val (.int (3 : Int32)), .val (.ref aO)] [(.ref x1), (.ref yO)] := by
          intro t ht
          refine k867 t ?_
          show Steps p.tables e below (T867.setTop (mkF m 24 #[.val (.ref x1), .val (.ref rr), .val (.int (4 : Int32)), .val (.int (3 : Int32)), .val (.ref aO)] [(.ref yO)])) t
          refine XS.aloadN X867.here hx rfl (hb hby dnm_24) rfl rfl ?_
          exact ht
        obtain ⟨cq869, kq869, q869a, q869b, q869c⟩ := isOf hZ e867 f857
        obtain ⟨_, _, ⟨T869, L869, c869, n869⟩, -, X869, ⟨Lc869, hQ869, l869, y869, z869⟩, st869⟩ := X867.virtualBack hx (y := (⟨"java/lang/String", "equals", "(Ljava/lang/Object;)Z"⟩ : MethodName)) (z := (⟨"java/lang/String", "equals", "(Ljava/lang/Object;)Z"⟩ : MethodName)) hown (mvT hZ (hw _ (List.mem_of_getElem? (i := 116) rfl))) (mvT hZ (hw _ (List.mem_of_getElem? (i := 80) rfl))) (notFace_of_selects (args := #[]) (mvT hZ (hw _ (List.mem_of_getElem? (i := 82) rfl)))) (mvT hZ (hw _ (List.mem_of_getElem? (i := 82) rfl))) (mvT hZ (hw _ (List.mem_of_getElem? (i := 81) rfl))) (by decide) (StrChars.Road.eqW (W := 0) hZ heq (kI := 4) (hw _ (List.mem_of_getElem? (i := 6) rfl)) f857 f859 f858 f860 (own_cod own_other_r) (own_up own_other_r) (by decide) f837 f839 f838 f840 (own_cod ur) (own_up ur) ul (S1.ext f835.2) P5 (by decide) (by decide)) q869a q869c (g := (mkF m 25 #[.val (.ref x1), .val (.ref rr), .val (.int (4 : Int32)), .val (.int (3 : Int32)), .val (.ref aO)] [(.ref x1), (.ref yO)])) rfl (by rw [hml]; rfl) (Steps.refl _) (argsL := [(.ref x1)]) (rest := []) (lenOf pd_11 rfl) rfl (by show 2 * 0 + _ ≤ _; exact Nat.le_of_eq rfl) (hb hby dnm_25) (fun _ _ => ⟨rfl, e867, (by decide : 1 + 0 ≤ _), (by decide : 4 + 0 ≤ _)⟩)
        dsimp only [Pt.U, Pt.locs, Pt.cells, Pt.slots] at X869 l869 y869 z869 st869 hQ869
        subst l869 y869 z869
        obtain ⟨hz869, hL869, eq869⟩ := hQ869
        obtain rfl := own_eq2 hz869
        subst hL869
        have Nq869 := Fr.nil n0
        have N869 := Fr.app N833 Nq869
        have k869 : Kt p e below m (s₁.setTop (entryFrame m #[(.ref x1)] 5)) T869 28 #[.val (.ref x1), .val (.ref rr), .val (.int (4 : Int32)), .val (.int (3 : Int32)), .val (.ref aO)] [(.int (own_b (own_other = cs)))] := fun t ht => k868 t (st869.trans ht)
        have f870 : n0 ≤ T869.heap.size := by rw [eq869]; exact f834
        have f871 : Old Z n0 T869.heap := by rw [eq869]; exact f835
        have f872 : Keep h0 T869.heap [] := by rw [eq869]; exact f836
        have f873 : Exa Z T869.heap x1 "java/lang/String" := by rw [eq869]; exact f837
        have f874 : Fld Z T869.heap x1 "java/lang/String" "coder" "B" (.int (0 : Int32)) := by rw [eq869]; exact f838
        have f875 : Fld Z T869.heap x1 "java/lang/String" "value" "[B" (.ref t1) := by rw [eq869]; exact f839
        have f876 : Arv Z T869.heap t1 k1 .byte (Int32.ofNat cs.length) (own_by cs) (.int (0 : Int32)) := by rw [eq869]; exact f840
        have f877 : Fld Z T869.heap aU "com/example/lockstile/lockstile/namespace/AclEntry$Tag" "text" "Ljava/lang/String;" (.ref yU) := by rw [eq869]; exact f841
        have f878 : Exa Z T869.heap yU "java/lang/String" := by rw [eq869]; exact f842
        have f879 : Fld Z T869.heap yU "java/lang/String" "coder" "B" (.int (0 : Int32)) := by rw [eq869]; exact f843
        have f880 : Fld Z T869.heap yU "java/lang/String" "value" "[B" (.ref tU) := by rw [eq869]; exact f844
        have f881 : Arv Z T869.heap tU kU .byte (Int32.ofNat own_user.length) (own_by own_user) (.int (0 : Int32)) := by rw [eq869]; exact f845
        have f882 : Fld Z T869.heap aG "com/example/lockstile/lockstile/namespace/AclEntry$Tag" "text" "Ljava/lang/String;" (.ref yG) := by rw [eq869]; exact f846
        have f883 : Exa Z T869.heap yG "java/lang/String" := by rw [eq869]; exact f847
        have f884 : Fld Z T869.heap yG "java/lang/String" "coder" "B" (.int (0 : Int32)) := by rw [eq869]; exact f848
        have f885 : Fld Z T869.heap yG "java/lang/String" "value" "[B" (.ref tG) := by rw [eq869]; exact f849
        have f886 : Arv Z T869.heap tG kG .byte (Int32.ofNat own_group.length) (own_by own_group) (.int (0 : Int32)) := by rw [eq869]; exact f850
        have f887 : Fld Z T869.heap aM "com/example/lockstile/lockstile/namespace/AclEntry$Tag" "text" "Ljava/lang/String;" (.ref yM) := by rw [eq869]; exact f851
        have f888 : Exa Z T869.heap yM "java/lang/String" := by rw [eq869]; exact f852
        have f889 : Fld Z T869.heap yM "java/lang/String" "coder" "B" (.int (0 : Int32)) := by rw [eq869]; exact f853
        have f890 : Fld Z T869.heap yM "java/lang/String" "value" "[B" (.ref tM) := by rw [eq869]; exact f854
        have f891 : Arv Z T869.heap tM kM .byte (Int32.ofNat own_mask.length) (own_by own_mask) (.int (0 : Int32)) := by rw [eq869]; exact f855
        have f892 : Fld Z T869.heap aO "com/example/lockstile/lockstile/namespace/AclEntry$Tag" "text" "Ljava/lang/String;" (.ref yO) := by rw [eq869]; exact f856
        have f893 : Exa Z T869.heap yO "java/lang/String" := by rw [eq869]; exact f857
        have f894 : Fld Z T869.heap yO "java/lang/String" "coder" "B" (.int (0 : Int32)) := by rw [eq869]; exact f858
        have f895 : Fld Z T869.heap yO "java/lang/String" "value" "[B" (.ref tO) := by rw [eq869]; exact f859
        have f896 : Arv Z T869.heap tO kO .byte (Int32.ofNat own_other.length) (own_by own_other) (.int (0 : Int32)) := by rw [eq869]; exact f860
        have f897 : Arv Z T869.heap rr kv (.object "com/example/lockstile/lockstile/namespace/AclEntry$Tag") (4 : Int32) [(.ref aU), (.ref aG), (.ref aM), (.ref aO)] .null := by rw [eq869]; exact f861
        by_cases c3 : (own_b (own_other = cs)) = (0 : Int32)
        · have k898 : Kt p e below m (s₁.setTop (entryFrame m #[(.ref x1)] 5)) T869 37 #[.val (.ref x1), .val (.ref rr), .val (.int (4 : Int32)), .val (.int ((3 : Int32) + (1 : Int32))), .val (.ref aO)] [] := by
            intro t ht
            refine k869 t ?_
            show Steps p.tables e below (T869.setTop (mkF m 28 #[.val (.ref x1), .val (.ref rr), .val (.int (4 : Int32)), .val (.int (3 : Int32)), .val (.ref aO)] [(.int (own_b (own_other = cs)))])) t
            refine XS.ifYes X869.here hx rfl (pc0 := 28) (pc' := 34) rfl (hb hby dnm_28) rfl ((if0 _ _).trans (teq c3).1) (by decide) (by decide) ?_
            show Steps p.tables e below (T869.setTop (mkF m 34 #[.val (.ref x1), .val (.ref rr), .val (.int (4 : Int32)), .val (.int (3 : Int32)), .val (.ref aO)] [])) t
            refine XS.iinc X869.here hx rfl (hb hby dnm_34) rfl (l' := #[.val (.ref x1), .val (.ref rr), .val (.int (4 : Int32)), .val (.int ((3 : Int32) + (1 : Int32))), .val (.ref aO)]) rfl ?_
            exact ht
          have q899 : ((3 : Int32) + (1 : Int32)) = (4 : Int32) := by decide
          rw [q899] at k898
          have k900 : Kt p e below m (s₁.setTop (entryFrame m #[(.ref x1)] 5)) T869 41 #[.val (.ref x1), .val (.ref rr), .val (.int (4 : Int32)), .val (.int (4 : Int32)), .val (.ref aO)] [.null] := by
            intro t ht
            refine k898 t ?_
            show Steps p.tables e below (T869.setTop (mkF m 37 #[.val (.ref x1), .val (.ref rr), .val (.int (4 : Int32)), .val (.int (4 : Int32)), .val (.ref aO)] [])) t
            refine XS.goto X869.here hx rfl (pc0 := 37) (pc' := 9) rfl (hb hby dnm_37) (by decide) (by decide) ?_
            show Steps p.tables e below (T869.setTop (mkF m 9 #[.val (.ref x1), .val (.ref rr), .val (.int (4 : Int32)), .val (.int (4 : Int32)), .val (.ref aO)] [])) t
            refine XS.iloadN X869.here hx rfl (hb hby dnm_9) rfl ?_
            show Steps p.tables e below (T869.setTop (mkF m 10 #[.val (.ref x1), .val (.ref rr), .val (.int (4 : Int32)), .val (.int (4 : Int32)), .val (.ref aO)] [(.int (4 : Int32))])) t
            refine XS.iloadN X869.here hx rfl (hb hby dnm_10) rfl ?_
            show Steps p.tables e below (T869.setTop (mkF m 11 #[.val (.ref x1), .val (.ref rr), .val (.int (4 : Int32)), .val (.int (4 : Int32)), .val (.ref aO)] [(.int (4 : Int32)), (.int (4 : Int32))])) t
            refine XS.icmpYes X869.here hx rfl (pc0 := 11) (pc' := 40) rfl (hb hby dnm_11) rfl (flt (by decide)).2.1 (by decide) (by decide) ?_
            show Steps p.tables e below (T869.setTop (mkF m 40 #[.val (.ref x1), .val (.ref rr), .val (.int (4 : Int32)), .val (.int (4 : Int32)), .val (.ref aO)] [])) t
            refine XS.aconstNull X869.here hx rfl (hb hby dnm_40) ?_
            exact ht
          obtain ⟨fs, hr, hrun, hended, hW, hsame⟩ := X869.leave (v := some .null) (fun h => by rw [Bd.returns] at h; cases h)
          refine ⟨_, _, k900 _ ?_, hrun, hended, _, _, rfl, ?_, ⟨_, rfl⟩, hW, hsame.mono (by decide) (by decide)⟩
          · show Steps p.tables e below (T869.setTop (mkF m 41 #[.val (.ref x1), .val (.ref rr), .val (.int (4 : Int32)), .val (.int (4 : Int32)), .val (.ref aO)] [.null])) _
            jvm_step X869.here [X869.here.top, hx, (hb hby dnm_41), X869.method', Bd.returns, Value.isRef, FieldType.isReference]
            first | (intro acts; rw [hr _ acts rfl rfl rfl]) | rw [hr _ _ rfl rfl rfl]
            exact Steps.refl _
          · show Qnm Z x1 t1 k1 cs G1 va kv aU aG aM aO yU tU kU yG tG kG yM tM kM yO tO kO h0 n0 _ T869.heap _
            exact ⟨congrArg some (Eq.symm (by unfold own_tag; rw [if_neg (fun q => own_bz.mp c0 q.symm), if_neg (fun q => own_bz.mp c1 q.symm), if_neg (fun q => own_bz.mp c2 q.symm), if_neg (fun q => own_bz.mp c3 q.symm)])), N869, f872⟩
        · have k901 : Kt p e below m (s₁.setTop (entryFrame m #[(.ref x1)] 5)) T869 33 #[.val (.ref x1), .val (.ref rr), .val (.int (4 : Int32)), .val (.int (3 : Int32)), .val (.ref aO)] [(.ref aO)] := by
            intro t ht
            refine k869 t ?_
            show Steps p.tables e below (T869.setTop (mkF m 28 #[.val (.ref x1), .val (.ref rr), .val (.int (4 : Int32)), .val (.int (3 : Int32)), .val (.ref aO)] [(.int (own_b (own_other = cs)))])) t
            refine XS.ifNo X869.here hx rfl (hb hby dnm_28) rfl ((if0 _ _).trans (feq c3).1) ?_
            show Steps p.tables e below (T869.setTop (mkF m 31 #[.val (.ref x1), .val (.ref rr), .val (.int (4 : Int32)), .val (.int (3 : Int32)), .val (.ref aO)] [])) t
            refine XS.aload X869.here hx rfl (hb hby dnm_31) rfl rfl ?_
            exact ht
          have p3 : cs = own_other := (Classical.not_not.mp fun q => c3 (own_bz.mpr q)).symm
          obtain ⟨fs, hr, hrun, hended, hW, hsame⟩ := X869.leave (v := some (.ref aO)) (fun h => by rw [Bd.returns] at h; cases h)
          refine ⟨_, _, k901 _ ?_, hrun, hended, _, _, rfl, ?_, ⟨_, rfl⟩, hW, hsame.mono (by decide) (by decide)⟩
          · show Steps p.tables e below (T869.setTop (mkF m 33 #[.val (.ref x1), .val (.ref rr), .val (.int (4 : Int32)), .val (.int (3 : Int32)), .val (.ref aO)] [(.ref aO)])) _
            jvm_step X869.here [X869.here.top, hx, (hb hby dnm_33), X869.method', Bd.returns, Value.isRef, FieldType.isReference]
            first | (intro acts; rw [hr _ acts rfl rfl rfl]) | rw [hr _ _ rfl rfl rfl]
            exact Steps.refl _
          · show Qnm Z x1 t1 k1 cs G1 va kv aU aG aM aO yU tU kU yG tG kG yM tM kM yO tO kO h0 n0 _ T869.heap _
            exact ⟨congrArg some (Eq.symm (by unfold own_tag; rw [if_neg (fun q => own_bz.mp c0 q.symm), if_neg (fun q => own_bz.mp c1 q.symm), if_neg (fun q => own_bz.mp c2 q.symm), if_pos p3])), N869, f872⟩
      · have k902 : Kt p e below m (s₁.setTop (entryFrame m #[(.ref x1)] 5)) T833 33 #[.val (.ref x1), .val (.ref rr), .val (.int (4 : Int32)), .val (.int (2 : Int32)), .val (.ref aM)] [(.ref aM)] := by
          intro t ht
          refine k833 t ?_
          show Steps p.tables e below (T833.setTop (mkF m 28 #[.val (.ref x1), .val (.ref rr), .val (.int (4 : Int32)), .val (.int (2 : Int32)), .val (.ref aM)] [(.int (own_b (own_mask = cs)))])) t
          refine XS.ifNo X833.here hx rfl (hb hby dnm_28) rfl ((if0 _ _).trans (feq c2).1) ?_
          show Steps p.tables e below (T833.setTop (mkF m 31 #[.val (.ref x1), .val (.ref rr), .val (.int (4 : Int32)), .val (.int (2 : Int32)), .val (.ref aM)] [])) t
          refine XS.aload X833.here hx rfl (hb hby dnm_31) rfl rfl ?_
          exact ht
        have p2 : cs = own_mask := (Classical.not_not.mp fun q => c2 (own_bz.mpr q)).symm
        obtain ⟨fs, hr, hrun, hended, hW, hsame⟩ := X833.leave (v := some (.ref aM)) (fun h => by rw [Bd.returns] at h; cases h)
        refine ⟨_, _, k902 _ ?_, hrun, hended, _, _, rfl, ?_, ⟨_, rfl⟩, hW, hsame.mono (by decide) (by decide)⟩
        · show Steps p.tables e below (T833.setTop (mkF m 33 #[.val (.ref x1), .val (.ref rr), .val (.int (4 : Int32)), .val (.int (2 : Int32)), .val (.ref aM)] [(.ref aM)])) _
          jvm_step X833.here [X833.here.top, hx, (hb hby dnm_33), X833.method', Bd.returns, Value.isRef, FieldType.isReference]
          first | (intro acts; rw [hr _ acts rfl rfl rfl]) | rw [hr _ _ rfl rfl rfl]
          exact Steps.refl _
        · show Qnm Z x1 t1 k1 cs G1 va kv aU aG aM aO yU tU kU yG tG kG yM tM kM yO tO kO h0 n0 _ T833.heap _
          exact ⟨congrArg some (Eq.symm (by unfold own_tag; rw [if_neg (fun q => own_bz.mp c0 q.symm), if_neg (fun q => own_bz.mp c1 q.symm), if_pos p2])), N833, f836⟩
    · have k903 : Kt p e below m (s₁.setTop (entryFrame m #[(.ref x1)] 5)) T797 33 #[.val (.ref x1), .val (.ref rr), .val (.int (4 : Int32)), .val (.int (1 : Int32)), .val (.ref aG)] [(.ref aG)] := by
        intro t ht
        refine k797 t ?_
        show Steps p.tables e below (T797.setTop (mkF m 28 #[.val (.ref x1), .val (.ref rr), .val (.int (4 : Int32)), .val (.int (1 : Int32)), .val (.ref aG)] [(.int (own_b (own_group = cs)))])) t
        refine XS.ifNo X797.here hx rfl (hb hby dnm_28) rfl ((if0 _ _).trans (feq c1).1) ?_
        show Steps p.tables e below (T797.setTop (mkF m 31 #[.val (.ref x1), .val (.ref rr), .val (.int (4 : Int32)), .val (.int (1 : Int32)), .val (.ref aG)] [])) t
        refine XS.aload X797.here hx rfl (hb hby dnm_31) rfl rfl ?_
        exact ht
      have p1 : cs = own_group := (Classical.not_not.mp fun q => c1 (own_bz.mpr q)).symm
      obtain ⟨fs, hr, hrun, hended, hW, hsame⟩ := X797.leave (v := some (.ref aG)) (fun h => by rw [Bd.returns] at h; cases h)
      refine ⟨_, _, k903 _ ?_, hrun, hended, _, _, rfl, ?_, ⟨_, rfl⟩, hW, hsame.mono (by decide) (by decide)⟩
      · show Steps p.tables e below (T797.setTop (mkF m 33 #[.val (.ref x1), .val (.ref rr), .val (.int (4 : Int32)), .val (.int (1 : Int32)), .val (.ref aG)] [(.ref aG)])) _
        jvm_step X797.here [X797.here.top, hx, (hb hby dnm_33), X797.method', Bd.returns, Value.isRef, FieldType.isReference]
        first | (intro acts; rw [hr _ acts rfl rfl rfl]) | rw [hr _ _ rfl rfl rfl]
        exact Steps.refl _
      · show Qnm Z x1 t1 k1 cs G1 va kv aU aG aM aO yU tU kU yG tG kG yM tM kM yO tO kO h0 n0 _ T797.heap _
        exact ⟨congrArg some (Eq.symm (by unfold own_tag; rw [if_neg (fun q => own_bz.mp c0 q.symm), if_pos p1])), N797, f800⟩
  · have k904 : Kt p e below m (s₁.setTop (entryFrame m #[(.ref x1)] 5)) T761 33 #[.val (.ref x1), .val (.ref rr), .val (.int (4 : Int32)), .val (.int (0 : Int32)), .val (.ref aU)] [(.ref aU)] := by
      intro t ht
      refine k761 t ?_
      show Steps p.tables e below (T761.setTop (mkF m 28 #[.val (.ref x1), .val (.ref rr), .val (.int (4 : Int32)), .val (.int (0 : Int32)), .val (.ref aU)] [(.int (own_b (own_user = cs)))])) t
      refine XS.ifNo X761.here hx rfl (hb hby dnm_28) rfl ((if0 _ _).trans (feq c0).1) ?_
      show Steps p.tables e below (T761.setTop (mkF m 31 #[.val (.ref x1), .val (.ref rr), .val (.int (4 : Int32)), .val (.int (0 : Int32)), .val (.ref aU)] [])) t
      refine XS.aload X761.here hx rfl (hb hby dnm_31) rfl rfl ?_
      exact ht
    have p0 : cs = own_user := (Classical.not_not.mp fun q => c0 (own_bz.mpr q)).symm
    obtain ⟨fs, hr, hrun, hended, hW, hsame⟩ := X761.leave (v := some (.ref aU)) (fun h => by rw [Bd.returns] at h; cases h)
    refine ⟨_, _, k904 _ ?_, hrun, hended, _, _, rfl, ?_, ⟨_, rfl⟩, hW, hsame.mono (by decide) (by decide)⟩
    · show Steps p.tables e below (T761.setTop (mkF m 33 #[.val (.ref x1), .val (.ref rr), .val (.int (4 : Int32)), .val (.int (0 : Int32)), .val (.ref aU)] [(.ref aU)])) _
      jvm_step X761.here [X761.here.top, hx, (hb hby dnm_33), X761.method', Bd.returns, Value.isRef, FieldType.isReference]
      first | (intro acts; rw [hr _ acts rfl rfl rfl]) | rw [hr _ _ rfl rfl rfl]
      exact Steps.refl _
    · show Qnm Z x1 t1 k1 cs G1 va kv aU aG aM aO yU tU kU yG tG kG yM tM kM yO tO kO h0 n0 _ T761.heap _
      exact ⟨congrArg some (Eq.symm (by unfold own_tag; rw [if_pos p0])), N761, f764⟩
theorem pn0 : plainName "com/example/lockstile/lockstile/namespace/AclEntryNamedPinLaw" = true := by first | (simp [plainName, overriddenIn]; done) | decide +kernel
theorem ef0 (m : MethodId) (p1 : Int32) (p2 : Int32) (p3 : Int32) (q4 : Int64) : entryFrame m #[(.int p1), (.int p2), (.int p3), (.long q4)] maxLocals = mkF m 0 #[.val (.int p1), .val (.int p2), .val (.int p3), .val (.long q4), .second, .unset, .unset, .unset, .unset, .unset, .unset, .unset, .unset, .unset, .unset, .unset, .unset] [] := by first | (simp [entryFrame, mkF, argsToLocals, Value.category, maxLocals]; done) | rfl
def Q0 (Z : State) (p1 : Int32) (p2 : Int32) (p3 : Int32) (q4 : Int64) (G1 : Int32) (G3 : Value) (va : Addr) (kv : ClassId) (aU : Addr) (aG : Addr) (aM : Addr) (aO : Addr) (yU : Addr) (tU : Addr) (kU : ClassId) (yG : Addr) (tG : Addr) (kG : ClassId) (yM : Addr) (tM : Addr) (kM : ClassId) (yO : Addr) (tO : Addr) (kO : ClassId) (h0 : Heap) (n0 : Nat) (v : Option Value) (h : Heap) (L : List Loc) : Prop := v = some (.int 1) ∧ Fr n0 L
set_option maxRecDepth 65536 in
set_option maxHeartbeats 40000000 in
theorem rm0 (l : Launch) (Z : State) (a0 : Array Value) (hw : ∀ d ∈ tables_1, d.before a0 Z = true) (ws : List Jvm.Cond) (p1 : Int32) (p2 : Int32) (p3 : Int32) (q4 : Int64) (G1 : Int32) (G3 : Value) (va : Addr) (kv : ClassId) (aU : Addr) (aG : Addr) (aM : Addr) (aO : Addr) (yU : Addr) (tU : Addr) (kU : ClassId) (yG : Addr) (tG : Addr) (kG : ClassId) (yM : Addr) (tM : Addr) (kM : ClassId) (yO : Addr) (tO : Addr) (kO : ClassId) (h0 : Heap) (n0 : Nat) (Z0 : n0 ≤ h0.size) (hEL : EW Z a0 consts_1) (S1 : Sta Z Z.heap "java/lang/String" "COMPACT_STRINGS" "Z" (.int G1)) (P5 : ¬ (G1 = (0 : Int32))) (O : Old Z n0 h0) (S3 : Sta Z Z.heap "jdk/internal/util/Preconditions" "SIOOBE_FORMATTER" "Ljava/util/function/BiFunction;" G3) (r3 : G3.isRef = true) (SaU : Sta Z Z.heap "com/example/lockstile/lockstile/namespace/AclEntry$Tag" "USER" "Lcom/example/lockstile/lockstile/namespace/AclEntry$Tag;" (.ref aU)) (SaG : Sta Z Z.heap "com/example/lockstile/lockstile/namespace/AclEntry$Tag" "GROUP" "Lcom/example/lockstile/lockstile/namespace/AclEntry$Tag;" (.ref aG)) (SaM : Sta Z Z.heap "com/example/lockstile/lockstile/namespace/AclEntry$Tag" "MASK" "Lcom/example/lockstile/lockstile/namespace/AclEntry$Tag;" (.ref aM)) (SaO : Sta Z Z.heap "com/example/lockstile/lockstile/namespace/AclEntry$Tag" "OTHER" "Lcom/example/lockstile/lockstile/namespace/AclEntry$Tag;" (.ref aO)) (SV : Sta Z Z.heap "com/example/lockstile/lockstile/namespace/AclEntry$Tag" "$VALUES" "[Lcom/example/lockstile/lockstile/namespace/AclEntry$Tag;" (.ref va)) (VV : Arv Z Z.heap va kv (.object "com/example/lockstile/lockstile/namespace/AclEntry$Tag") (4 : Int32) [(.ref aU), (.ref aG), (.ref aM), (.ref aO)] .null) (EV : Exa Z Z.heap va "[Lcom/example/lockstile/lockstile/namespace/AclEntry$Tag;") (TaU : Fld Z Z.heap aU "com/example/lockstile/lockstile/namespace/AclEntry$Tag" "text" "Ljava/lang/String;" (.ref yU)) (yUE : Exa Z Z.heap yU "java/lang/String") (yUC : Fld Z Z.heap yU "java/lang/String" "coder" "B" (.int (0 : Int32))) (yUV : Fld Z Z.heap yU "java/lang/String" "value" "[B" (.ref tU)) (yUK : Arv Z Z.heap tU kU .byte (Int32.ofNat own_user.length) (own_by own_user) (.int (0 : Int32))) (TaG : Fld Z Z.heap aG "com/example/lockstile/lockstile/namespace/AclEntry$Tag" "text" "Ljava/lang/String;" (.ref yG)) (yGE : Exa Z Z.heap yG "java/lang/String") (yGC : Fld Z Z.heap yG "java/lang/String" "coder" "B" (.int (0 : Int32))) (yGV : Fld Z Z.heap yG "java/lang/String" "value" "[B" (.ref tG)) (yGK : Arv Z Z.heap tG kG .byte (Int32.ofNat own_group.length) (own_by own_group) (.int (0 : Int32))) (TaM : Fld Z Z.heap aM "com/example/lockstile/lockstile/namespace/AclEntry$Tag" "text" "Ljava/lang/String;" (.ref yM)) (yME : Exa Z Z.heap yM "java/lang/String") (yMC : Fld Z Z.heap yM "java/lang/String" "coder" "B" (.int (0 : Int32))) (yMV : Fld Z Z.heap yM "java/lang/String" "value" "[B" (.ref tM)) (yMK : Arv Z Z.heap tM kM .byte (Int32.ofNat own_mask.length) (own_by own_mask) (.int (0 : Int32))) (TaO : Fld Z Z.heap aO "com/example/lockstile/lockstile/namespace/AclEntry$Tag" "text" "Ljava/lang/String;" (.ref yO)) (yOE : Exa Z Z.heap yO "java/lang/String") (yOC : Fld Z Z.heap yO "java/lang/String" "coder" "B" (.int (0 : Int32))) (yOV : Fld Z Z.heap yO "java/lang/String" "value" "[B" (.ref tO)) (yOK : Arv Z Z.heap tO kO .byte (Int32.ofNat own_other.length) (own_by own_other) (.int (0 : Int32))) :
    MetFree l x (head1 (Jvm.Cond.code x code maxLocals ret :: ws) room_1) (fun gs' U => gs' = #[(.int p1), (.int p2), (.int p3), (.long q4)] ∧ Z.Warmed39 U.vm ∧ U.heap = h0 ∧ CHv Z consts_1 U.vm h0 ∧ ∀ x ∈ ([] : List Addr), Safe Z consts_1 U.vm h0 x) (fun _ _ _ _ _ => True) (fun _ U o U' => ∃ v L, o = .returned v ∧ Q0 Z p1 p2 p3 q4 G1 G3 va kv aU aG aM aO yU tU kU yG tG kG yM tM kM yO tO kO h0 n0 v U'.heap L ∧ CHr Z consts_1 U.vm U.heap U'.vm U'.heap ∧ ReturnedEndW U o U' L room_1.cells room_1.slots) := by
  refine MetFree.of_bodySF (plainFor_of_name pn0) hisR ?_
  intro p e s m args below meth c s₁ Bd hml0 hP hK
  obtain ⟨rfl, hZ, hh, hCH, hSf⟩ := hP
  have hx := Bd.exec
  have hby := Bd.bytes
  have hml : c.maxLocals = 17 := hml0
  have hown : s.vm.findClass "com/example/lockstile/lockstile/namespace/AclEntryNamedPinLaw" = some m.cls := findClass_of_methodNamed Bd.named
  have hnm := (name_of_methodNamed Bd.named Bd.method).1
  have X0 : Stand p l e room_1 (s.setVm s.vm) m #[(.int p1), (.int p2), (.int p3), (.long q4)] below meth c s₁ [] 0 0 := Stand.of_body Bd
  have e0 : s₁.heap = h0 := by rw [← hh, Bd.state]; rfl
  have N0 := Fr.nil n0
  have k0 : Kt p e below m (s₁.setTop (entryFrame m #[(.int p1), (.int p2), (.int p3), (.long q4)] maxLocals)) s₁ 0 #[.val (.int p1), .val (.int p2), .val (.int p3), .val (.long q4), .second, .unset, .unset, .unset, .unset, .unset, .unset, .unset, .unset, .unset, .unset, .unset, .unset] [] := fun t ht => castTop (ef0 m p1 p2 p3 q4) ht
  have R0 : CHr Z consts_1 s.vm h0 s.vm h0 := CHr.refl hCH
  have hln : ∀ d ∈ StrChars.Road.wordsLen, d.before a0 Z = true := fun d hd => hw d ((by decide +kernel : ∀ d ∈ StrChars.Road.wordsLen, d ∈ tables_1) d hd)
  have k905 : Kt p e below m (s₁.setTop (entryFrame m #[(.int p1), (.int p2), (.int p3), (.long q4)] maxLocals)) s₁ 3 #[.val (.int p1), .val (.int p2), .val (.int p3), .val (.long q4), .second, .unset, .unset, .unset, .unset, .unset, .unset, .unset, .unset, .unset, .unset, .unset, .unset] [(.int (p1 &&& (3 : Int32)))] := by
    intro t ht
    refine k0 t ?_
    show Steps p.tables e below (s₁.setTop (mkF m 0 #[.val (.int p1), .val (.int p2), .val (.int p3), .val (.long q4), .second, .unset, .unset, .unset, .unset, .unset, .unset, .unset, .unset, .unset, .unset, .unset, .unset] [])) t
    refine XS.iloadN X0.here hx rfl (hb hby at_0) rfl ?_
    show Steps p.tables e below (s₁.setTop (mkF m 1 #[.val (.int p1), .val (.int p2), .val (.int p3), .val (.long q4), .second, .unset, .unset, .unset, .unset, .unset, .unset, .unset, .unset, .unset, .unset, .unset, .unset] [(.int p1)])) t
    refine XS.iconst X0.here hx rfl (hb hby at_1) ?_
    show Steps p.tables e below (s₁.setTop (mkF m 2 #[.val (.int p1), .val (.int p2), .val (.int p3), .val (.long q4), .second, .unset, .unset, .unset, .unset, .unset, .unset, .unset, .unset, .unset, .unset, .unset, .unset] [(.int (3 : Int32)), (.int p1)])) t
    refine XS.iand X0.here hx rfl (hb hby at_2) rfl ?_
    exact ht
  obtain ⟨_, _, ⟨T906, L906, c906, n906⟩, -, X906, hs906, hg906, ⟨Lc906, hQ906, l906, y906, z906, hR906⟩, st906⟩ := callSS (s := s.setVm s.vm) X0 hx (y := (⟨"com/example/lockstile/lockstile/namespace/AclEntryNamedPinLaw", "word", "(I)Ljava/lang/String;"⟩ : MethodName)) hown (mvT hZ (hw _ (List.mem_of_getElem? (i := 0) rfl))) (mvT hZ (hw _ (List.mem_of_getElem? (i := 1) rfl))) (mvT hZ (hw _ (List.mem_of_getElem? (i := 2) rfl))) (mvT hZ (hw _ (List.mem_of_getElem? (i := 3) rfl))) (by decide) (own_backH (s := s) (vm0 := s.vm) (W := 0) (rmwd l Z a0 hw [] (p1 &&& (3 : Int32)) h0 n0 Z0 hEL ) hZ (hw _ (List.mem_of_getElem? (i := 3) rfl)) (hw _ (List.mem_of_getElem? (i := 2) rfl)) (by decide) (by decide) hEL R0.1 all0) (g := (mkF m 3 #[.val (.int p1), .val (.int p2), .val (.int p3), .val (.long q4), .second, .unset, .unset, .unset, .unset, .unset, .unset, .unset, .unset, .unset, .unset, .unset, .unset] [(.int (p1 &&& (3 : Int32)))])) rfl (by rw [hml]; rfl) (argsL := [(.int (p1 &&& (3 : Int32)))]) (rest := []) (lenOf pd_7 rfl) rfl (by show 2 * 0 + _ ≤ _; exact Nat.le_of_eq rfl) (hb hby at_3) (fun _ _ => ⟨rfl, e0, (by decide : 0 + 2 ≤ _), (by decide : 0 + 24 ≤ _)⟩)
  dsimp only [Pt.U, Pt.locs, Pt.cells, Pt.slots] at X906 hs906 hg906 l906 y906 z906 st906 hQ906 hR906
  subst l906 y906 z906
  have hS906 : s.Since T906.vm T906.heap.size := foldS ((State.WarmedH.refl s).since 0) (Nat.zero_le _) hs906 hg906
  have hZ906 : Z.Warmed39 (s.setVm T906.vm).vm := State.Warmed39.trans (t := s.setVm s.vm) hZ hs906.1
  have hown906 : (s.setVm T906.vm).vm.findClass "com/example/lockstile/lockstile/namespace/AclEntryNamedPinLaw" = some m.cls := by show T906.vm.findClass _ = _; rw [hs906.1.alike.findClass]; exact hown
  obtain ⟨ww, tw, kw, cw, rfl, Nq906, Kp906, uE, uC, uV, uK, ur, ul⟩ := hQ906
  have N906 := Fr.app N0 Nq906
  have k906 : Kt p e below m (s₁.setTop (entryFrame m #[(.int p1), (.int p2), (.int p3), (.long q4)] maxLocals)) T906 6 #[.val (.int p1), .val (.int p2), .val (.int p3), .val (.long q4), .second, .unset, .unset, .unset, .unset, .unset, .unset, .unset, .unset, .unset, .unset, .unset, .unset] [(.ref ww)] := fun t ht => k905 t (st906.trans ht)
  have f907 : n0 ≤ T906.heap.size := Nat.le_trans Z0 Kp906.1
  have f908 : CHr Z consts_1 s.vm h0 T906.vm T906.heap := R0.trans hR906
  have f909 : Old Z n0 T906.heap := O.keep Kp906 all0
  have hk906 : T906.heap.size ≤ T906.heap.size := Nat.le_refl _
  have k910 : Kt p e below m (s₁.setTop (entryFrame m #[(.int p1), (.int p2), (.int p3), (.long q4)] maxLocals)) T906 11 #[.val (.int p1), .val (.int p2), .val (.int p3), .val (.long q4), .second, .val (.ref ww), .unset, .unset, .unset, .unset, .unset, .unset, .unset, .unset, .unset, .unset, .unset] [(.int (p2 &&& (1 : Int32)))] := by
    intro t ht
    refine k906 t ?_
    show Steps p.tables e below (T906.setTop (mkF m 6 #[.val (.int p1), .val (.int p2), .val (.int p3), .val (.long q4), .second, .unset, .unset, .unset, .unset, .unset, .unset, .unset, .unset, .unset, .unset, .unset, .unset] [(.ref ww)])) t
    refine XS.astore X906.here hx rfl (hb hby at_6) rfl rfl (l' := #[.val (.int p1), .val (.int p2), .val (.int p3), .val (.long q4), .second, .val (.ref ww), .unset, .unset, .unset, .unset, .unset, .unset, .unset, .unset, .unset, .unset, .unset]) rfl ?_
    show Steps p.tables e below (T906.setTop (mkF m 8 #[.val (.int p1), .val (.int p2), .val (.int p3), .val (.long q4), .second, .val (.ref ww), .unset, .unset, .unset, .unset, .unset, .unset, .unset, .unset, .unset, .unset, .unset] [])) t
    refine XS.iloadN X906.here hx rfl (hb hby at_8) rfl ?_
    show Steps p.tables e below (T906.setTop (mkF m 9 #[.val (.int p1), .val (.int p2), .val (.int p3), .val (.long q4), .second, .val (.ref ww), .unset, .unset, .unset, .unset, .unset, .unset, .unset, .unset, .unset, .unset, .unset] [(.int p2)])) t
    refine XS.iconst X906.here hx rfl (hb hby at_9) ?_
    show Steps p.tables e below (T906.setTop (mkF m 10 #[.val (.int p1), .val (.int p2), .val (.int p3), .val (.long q4), .second, .val (.ref ww), .unset, .unset, .unset, .unset, .unset, .unset, .unset, .unset, .unset, .unset, .unset] [(.int (1 : Int32)), (.int p2)])) t
    refine XS.iand X906.here hx rfl (hb hby at_10) rfl ?_
    exact ht
  obtain ⟨vmj911, Tj911, hj911, locsj911, kbj911, nn, Xj911, ej911, Nj911, zj911, fj911_0, fj911_1, fj911_2, fj911_3, fj911_4, Rj911, hSj911, hkj911, hZj911, hownj911, hpj911, kj911⟩ : ∃ (vmj911 : Vm) (Tj911 : State) (hj911 : Heap) (locsj911 : List Loc) (kbj911 : Nat) (nn : Int32), Stand p l e room_1 (s.setVm vmj911) m #[(.int p1), (.int p2), (.int p3), (.long q4)] below meth c Tj911 locsj911 2 24 ∧ Tj911.heap = hj911 ∧ Fr n0 locsj911 ∧ n0 ≤ hj911.size ∧ Old Z n0 hj911 ∧ Exa Z hj911 ww "java/lang/String" ∧ Fld Z hj911 ww "java/lang/String" "coder" "B" (.int (0 : Int32)) ∧ Fld Z hj911 ww "java/lang/String" "value" "[B" (.ref tw) ∧ Arv Z hj911 tw kw .byte (Int32.ofNat cw.length) (own_by cw) (.int (0 : Int32)) ∧ CHr Z consts_1 s.vm h0 vmj911 hj911 ∧ s.Since vmj911 kbj911 ∧ kbj911 ≤ hj911.size ∧ Z.Warmed39 (s.setVm vmj911).vm ∧ (s.setVm vmj911).vm.findClass "com/example/lockstile/lockstile/namespace/AclEntryNamedPinLaw" = some m.cls ∧ (True) ∧ Kt p e below m (s₁.setTop (entryFrame m #[(.int p1), (.int p2), (.int p3), (.long q4)] maxLocals)) Tj911 31 #[.val (.int p1), .val (.int p2), .val (.int p3), .val (.long q4), .second, .val (.ref ww), .unset, .unset, .unset, .unset, .unset, .unset, .unset, .unset, .unset, .unset, .unset] [(.int nn)] := by
    by_cases hn : (p2 &&& (1 : Int32)) = (0 : Int32)
    · have k912 : Kt p e below m (s₁.setTop (entryFrame m #[(.int p1), (.int p2), (.int p3), (.long q4)] maxLocals)) T906 16 #[.val (.int p1), .val (.int p2), .val (.int p3), .val (.long q4), .second, .val (.ref ww), .unset, .unset, .unset, .unset, .unset, .unset, .unset, .unset, .unset, .unset, .unset] [(.ref ww)] := by
        intro t ht
        refine k910 t ?_
        show Steps p.tables e below (T906.setTop (mkF m 11 #[.val (.int p1), .val (.int p2), .val (.int p3), .val (.long q4), .second, .val (.ref ww), .unset, .unset, .unset, .unset, .unset, .unset, .unset, .unset, .unset, .unset, .unset] [(.int (p2 &&& (1 : Int32)))])) t
        refine XS.ifNo X906.here hx rfl (hb hby at_11) rfl ((if0 _ _).trans (teq hn).2) ?_
        show Steps p.tables e below (T906.setTop (mkF m 14 #[.val (.int p1), .val (.int p2), .val (.int p3), .val (.long q4), .second, .val (.ref ww), .unset, .unset, .unset, .unset, .unset, .unset, .unset, .unset, .unset, .unset, .unset] [])) t
        refine XS.aload X906.here hx rfl (hb hby at_14) rfl rfl ?_
        exact ht
      obtain ⟨cq913, kq913, q913a, q913b, q913c⟩ := isOf hZ906 rfl uE
      obtain ⟨_, _, ⟨T913, L913, c913, n913⟩, -, X913, ⟨Lc913, hQ913, l913, y913, z913⟩, st913⟩ := X906.virtualBack hx (y := (⟨"java/lang/String", "length", "()I"⟩ : MethodName)) (z := (⟨"java/lang/String", "length", "()I"⟩ : MethodName)) hown906 (mvT hZ906 (hw _ (List.mem_of_getElem? (i := 16) rfl))) (mvT hZ906 (hw _ (List.mem_of_getElem? (i := 17) rfl))) (notFace_of_selects (args := #[]) (mvT hZ906 (hw _ (List.mem_of_getElem? (i := 19) rfl)))) (mvT hZ906 (hw _ (List.mem_of_getElem? (i := 19) rfl))) (mvT hZ906 (hw _ (List.mem_of_getElem? (i := 18) rfl))) (by decide) (StrChars.Road.lenW (W := 0) hZ906 hln (kI := 4) (hw _ (List.mem_of_getElem? (i := 6) rfl)) uE uV uC uK (own_cod ur) (own_up ur) (S1.ext f909.2) P5 ul (by decide) (by decide)) q913a q913c (g := (mkF m 16 #[.val (.int p1), .val (.int p2), .val (.int p3), .val (.long q4), .second, .val (.ref ww), .unset, .unset, .unset, .unset, .unset, .unset, .unset, .unset, .unset, .unset, .unset] [(.ref ww)])) rfl (by rw [hml]; rfl) (Steps.refl _) (argsL := []) (rest := []) (lenOf pd_1 rfl) rfl (by show 2 * 0 + _ ≤ _; exact Nat.le_of_eq rfl) (hb hby at_16) (fun _ _ => ⟨rfl, rfl, (by decide : 2 + 0 ≤ _), (by decide : 24 + 0 ≤ _)⟩)
      dsimp only [Pt.U, Pt.locs, Pt.cells, Pt.slots] at X913 l913 y913 z913 st913 hQ913
      subst l913 y913 z913
      obtain ⟨rfl, hL913, eq913⟩ := hQ913
      subst hL913
      have Nq913 := Fr.nil n0
      have N913 := Fr.app N906 Nq913
      have k913 : Kt p e below m (s₁.setTop (entryFrame m #[(.int p1), (.int p2), (.int p3), (.long q4)] maxLocals)) T913 19 #[.val (.int p1), .val (.int p2), .val (.int p3), .val (.long q4), .second, .val (.ref ww), .unset, .unset, .unset, .unset, .unset, .unset, .unset, .unset, .unset, .unset, .unset] [(.int (Int32.ofNat cw.length))] := fun t ht => k912 t (st913.trans ht)
      have f914 : n0 ≤ T913.heap.size := by rw [eq913]; exact f907
      have f915 : CHr Z consts_1 s.vm h0 T906.vm T913.heap := by rw [eq913]; exact f908
      have f916 : Old Z n0 T913.heap := by rw [eq913]; exact f909
      have f917 : T906.heap.size ≤ T913.heap.size := by rw [eq913]; exact hk906
      have f918 : Exa Z T913.heap ww "java/lang/String" := by rw [eq913]; exact uE
      have f919 : Fld Z T913.heap ww "java/lang/String" "coder" "B" (.int (0 : Int32)) := by rw [eq913]; exact uC
      have f920 : Fld Z T913.heap ww "java/lang/String" "value" "[B" (.ref tw) := by rw [eq913]; exact uV
      have f921 : Arv Z T913.heap tw kw .byte (Int32.ofNat cw.length) (own_by cw) (.int (0 : Int32)) := by rw [eq913]; exact uK
      have k922 : Kt p e below m (s₁.setTop (entryFrame m #[(.int p1), (.int p2), (.int p3), (.long q4)] maxLocals)) T913 31 #[.val (.int p1), .val (.int p2), .val (.int p3), .val (.long q4), .second, .val (.ref ww), .unset, .unset, .unset, .unset, .unset, .unset, .unset, .unset, .unset, .unset, .unset] [(.int (Int32.ofNat cw.length))] := by
        intro t ht
        refine k913 t ?_
        show Steps p.tables e below (T913.setTop (mkF m 19 #[.val (.int p1), .val (.int p2), .val (.int p3), .val (.long q4), .second, .val (.ref ww), .unset, .unset, .unset, .unset, .unset, .unset, .unset, .unset, .unset, .unset, .unset] [(.int (Int32.ofNat cw.length))])) t
        refine XS.goto X913.here hx rfl (pc0 := 19) (pc' := 31) rfl (hb hby at_19) (by decide) (by decide) ?_
        exact ht
      exact ⟨T906.vm, T913, T913.heap, _, T906.heap.size, (Int32.ofNat cw.length), X913.mono (by decide) (by decide), rfl, N913, f914, f916, f918, f919, f920, f921, f915, hS906, f917, hZ906, hown906, trivial, k922⟩
    · have k923 : Kt p e below m (s₁.setTop (entryFrame m #[(.int p1), (.int p2), (.int p3), (.long q4)] maxLocals)) T906 31 #[.val (.int p1), .val (.int p2), .val (.int p3), .val (.long q4), .second, .val (.ref ww), .unset, .unset, .unset, .unset, .unset, .unset, .unset, .unset, .unset, .unset, .unset] [(.int ((((p2.toUInt32 >>> ((1 : Int32) &&& 31).toUInt32).toInt32) &&& (7 : Int32)) % (7 : Int32)))] := by
        intro t ht
        refine k910 t ?_
        show Steps p.tables e below (T906.setTop (mkF m 11 #[.val (.int p1), .val (.int p2), .val (.int p3), .val (.long q4), .second, .val (.ref ww), .unset, .unset, .unset, .unset, .unset, .unset, .unset, .unset, .unset, .unset, .unset] [(.int (p2 &&& (1 : Int32)))])) t
        refine XS.ifYes X906.here hx rfl (pc0 := 11) (pc' := 22) rfl (hb hby at_11) rfl ((if0 _ _).trans (feq hn).2) (by decide) (by decide) ?_
        show Steps p.tables e below (T906.setTop (mkF m 22 #[.val (.int p1), .val (.int p2), .val (.int p3), .val (.long q4), .second, .val (.ref ww), .unset, .unset, .unset, .unset, .unset, .unset, .unset, .unset, .unset, .unset, .unset] [])) t
        refine XS.iloadN X906.here hx rfl (hb hby at_22) rfl ?_
        show Steps p.tables e below (T906.setTop (mkF m 23 #[.val (.int p1), .val (.int p2), .val (.int p3), .val (.long q4), .second, .val (.ref ww), .unset, .unset, .unset, .unset, .unset, .unset, .unset, .unset, .unset, .unset, .unset] [(.int p2)])) t
        refine XS.iconst X906.here hx rfl (hb hby at_23) ?_
        show Steps p.tables e below (T906.setTop (mkF m 24 #[.val (.int p1), .val (.int p2), .val (.int p3), .val (.long q4), .second, .val (.ref ww), .unset, .unset, .unset, .unset, .unset, .unset, .unset, .unset, .unset, .unset, .unset] [(.int (1 : Int32)), (.int p2)])) t
        refine XS.iushr X906.here hx rfl (hb hby at_24) rfl ?_
        show Steps p.tables e below (T906.setTop (mkF m 25 #[.val (.int p1), .val (.int p2), .val (.int p3), .val (.long q4), .second, .val (.ref ww), .unset, .unset, .unset, .unset, .unset, .unset, .unset, .unset, .unset, .unset, .unset] [(.int ((p2.toUInt32 >>> ((1 : Int32) &&& 31).toUInt32).toInt32))])) t
        refine XS.bipush X906.here hx rfl (hb hby at_25) ?_
        show Steps p.tables e below (T906.setTop (mkF m 27 #[.val (.int p1), .val (.int p2), .val (.int p3), .val (.long q4), .second, .val (.ref ww), .unset, .unset, .unset, .unset, .unset, .unset, .unset, .unset, .unset, .unset, .unset] [(.int (7 : Int32)), (.int ((p2.toUInt32 >>> ((1 : Int32) &&& 31).toUInt32).toInt32))])) t
        refine XS.iand X906.here hx rfl (hb hby at_27) rfl ?_
        show Steps p.tables e below (T906.setTop (mkF m 28 #[.val (.int p1), .val (.int p2), .val (.int p3), .val (.long q4), .second, .val (.ref ww), .unset, .unset, .unset, .unset, .unset, .unset, .unset, .unset, .unset, .unset, .unset] [(.int (((p2.toUInt32 >>> ((1 : Int32) &&& 31).toUInt32).toInt32) &&& (7 : Int32)))])) t
        refine XS.bipush X906.here hx rfl (hb hby at_28) ?_
        show Steps p.tables e below (T906.setTop (mkF m 30 #[.val (.int p1), .val (.int p2), .val (.int p3), .val (.long q4), .second, .val (.ref ww), .unset, .unset, .unset, .unset, .unset, .unset, .unset, .unset, .unset, .unset, .unset] [(.int (7 : Int32)), (.int (((p2.toUInt32 >>> ((1 : Int32) &&& 31).toUInt32).toInt32) &&& (7 : Int32)))])) t
        refine iremM X906 hx rfl (hb hby at_30) rfl (by decide) ?_
        exact ht
      exact ⟨T906.vm, T906, T906.heap, _, T906.heap.size, ((((p2.toUInt32 >>> ((1 : Int32) &&& 31).toUInt32).toInt32) &&& (7 : Int32)) % (7 : Int32)), X906.mono (by decide) (by decide), rfl, N906, f907, f909, uE, uC, uV, uK, f908, hS906, hk906, hZ906, hown906, trivial, k923⟩
  have k924 : Kt p e below m (s₁.setTop (entryFrame m #[(.int p1), (.int p2), (.int p3), (.long q4)] maxLocals)) Tj911 36 #[.val (.int p1), .val (.int p2), .val (.int p3), .val (.long q4), .second, .val (.ref ww), .val (.int nn), .unset, .unset, .unset, .unset, .unset, .unset, .unset, .unset, .unset, .unset] [(.int (p3 &&& (1 : Int32)))] := by
    intro t ht
    refine kj911 t ?_
    show Steps p.tables e below (Tj911.setTop (mkF m 31 #[.val (.int p1), .val (.int p2), .val (.int p3), .val (.long q4), .second, .val (.ref ww), .unset, .unset, .unset, .unset, .unset, .unset, .unset, .unset, .unset, .unset, .unset] [(.int nn)])) t
    refine XS.istore Xj911.here hx rfl (hb hby at_31) rfl (l' := #[.val (.int p1), .val (.int p2), .val (.int p3), .val (.long q4), .second, .val (.ref ww), .val (.int nn), .unset, .unset, .unset, .unset, .unset, .unset, .unset, .unset, .unset, .unset]) rfl ?_
    show Steps p.tables e below (Tj911.setTop (mkF m 33 #[.val (.int p1), .val (.int p2), .val (.int p3), .val (.long q4), .second, .val (.ref ww), .val (.int nn), .unset, .unset, .unset, .unset, .unset, .unset, .unset, .unset, .unset, .unset] [])) t
    refine XS.iloadN Xj911.here hx rfl (hb hby at_33) rfl ?_
    show Steps p.tables e below (Tj911.setTop (mkF m 34 #[.val (.int p1), .val (.int p2), .val (.int p3), .val (.long q4), .second, .val (.ref ww), .val (.int nn), .unset, .unset, .unset, .unset, .unset, .unset, .unset, .unset, .unset, .unset] [(.int p3)])) t
    refine XS.iconst Xj911.here hx rfl (hb hby at_34) ?_
    show Steps p.tables e below (Tj911.setTop (mkF m 35 #[.val (.int p1), .val (.int p2), .val (.int p3), .val (.long q4), .second, .val (.ref ww), .val (.int nn), .unset, .unset, .unset, .unset, .unset, .unset, .unset, .unset, .unset, .unset] [(.int (1 : Int32)), (.int p3)])) t
    refine XS.iand Xj911.here hx rfl (hb hby at_35) rfl ?_
    exact ht
  obtain ⟨mu, hp925, k925⟩ : ∃ mu : Int32, (True) ∧ Kt p e below m (s₁.setTop (entryFrame m #[(.int p1), (.int p2), (.int p3), (.long q4)] maxLocals)) Tj911 44 #[.val (.int p1), .val (.int p2), .val (.int p3), .val (.long q4), .second, .val (.ref ww), .val (.int nn), .unset, .unset, .unset, .unset, .unset, .unset, .unset, .unset, .unset, .unset] [(.int mu)] := by
    by_cases hj926 : (p3 &&& (1 : Int32)) = (0 : Int32)
    · have k927 : Kt p e below m (s₁.setTop (entryFrame m #[(.int p1), (.int p2), (.int p3), (.long q4)] maxLocals)) Tj911 44 #[.val (.int p1), .val (.int p2), .val (.int p3), .val (.long q4), .second, .val (.ref ww), .val (.int nn), .unset, .unset, .unset, .unset, .unset, .unset, .unset, .unset, .unset, .unset] [(.int (0 : Int32))] := by
        intro t ht
        refine k924 t ?_
        show Steps p.tables e below (Tj911.setTop (mkF m 36 #[.val (.int p1), .val (.int p2), .val (.int p3), .val (.long q4), .second, .val (.ref ww), .val (.int nn), .unset, .unset, .unset, .unset, .unset, .unset, .unset, .unset, .unset, .unset] [(.int (p3 &&& (1 : Int32)))])) t
        refine XS.ifYes Xj911.here hx rfl (pc0 := 36) (pc' := 43) rfl (hb hby at_36) rfl ((if0 _ _).trans (teq hj926).1) (by decide) (by decide) ?_
        show Steps p.tables e below (Tj911.setTop (mkF m 43 #[.val (.int p1), .val (.int p2), .val (.int p3), .val (.long q4), .second, .val (.ref ww), .val (.int nn), .unset, .unset, .unset, .unset, .unset, .unset, .unset, .unset, .unset, .unset] [])) t
        refine XS.iconst Xj911.here hx rfl (hb hby at_43) ?_
        exact ht
      exact ⟨(0 : Int32), trivial, k927⟩
    · have k928 : Kt p e below m (s₁.setTop (entryFrame m #[(.int p1), (.int p2), (.int p3), (.long q4)] maxLocals)) Tj911 44 #[.val (.int p1), .val (.int p2), .val (.int p3), .val (.long q4), .second, .val (.ref ww), .val (.int nn), .unset, .unset, .unset, .unset, .unset, .unset, .unset, .unset, .unset, .unset] [(.int (1 : Int32))] := by
        intro t ht
        refine k924 t ?_
        show Steps p.tables e below (Tj911.setTop (mkF m 36 #[.val (.int p1), .val (.int p2), .val (.int p3), .val (.long q4), .second, .val (.ref ww), .val (.int nn), .unset, .unset, .unset, .unset, .unset, .unset, .unset, .unset, .unset, .unset] [(.int (p3 &&& (1 : Int32)))])) t
        refine XS.ifNo Xj911.here hx rfl (hb hby at_36) rfl ((if0 _ _).trans (feq hj926).1) ?_
        show Steps p.tables e below (Tj911.setTop (mkF m 39 #[.val (.int p1), .val (.int p2), .val (.int p3), .val (.long q4), .second, .val (.ref ww), .val (.int nn), .unset, .unset, .unset, .unset, .unset, .unset, .unset, .unset, .unset, .unset] [])) t
        refine XS.iconst Xj911.here hx rfl (hb hby at_39) ?_
        show Steps p.tables e below (Tj911.setTop (mkF m 40 #[.val (.int p1), .val (.int p2), .val (.int p3), .val (.long q4), .second, .val (.ref ww), .val (.int nn), .unset, .unset, .unset, .unset, .unset, .unset, .unset, .unset, .unset, .unset] [(.int (1 : Int32))])) t
        refine XS.goto Xj911.here hx rfl (pc0 := 40) (pc' := 44) rfl (hb hby at_40) (by decide) (by decide) ?_
        exact ht
      exact ⟨(1 : Int32), trivial, k928⟩
  have k929 : Kt p e below m (s₁.setTop (entryFrame m #[(.int p1), (.int p2), (.int p3), (.long q4)] maxLocals)) Tj911 53 #[.val (.int p1), .val (.int p2), .val (.int p3), .val (.long q4), .second, .val (.ref ww), .val (.int nn), .val (.int mu), .unset, .unset, .unset, .unset, .unset, .unset, .unset, .unset, .unset] [(.long q4), (.int p3), (.int mu), (.int (0 : Int32)), (.ref ww)] := by
    intro t ht
    refine k925 t ?_
    show Steps p.tables e below (Tj911.setTop (mkF m 44 #[.val (.int p1), .val (.int p2), .val (.int p3), .val (.long q4), .second, .val (.ref ww), .val (.int nn), .unset, .unset, .unset, .unset, .unset, .unset, .unset, .unset, .unset, .unset] [(.int mu)])) t
    refine XS.istore Xj911.here hx rfl (hb hby at_44) rfl (l' := #[.val (.int p1), .val (.int p2), .val (.int p3), .val (.long q4), .second, .val (.ref ww), .val (.int nn), .val (.int mu), .unset, .unset, .unset, .unset, .unset, .unset, .unset, .unset, .unset]) rfl ?_
    show Steps p.tables e below (Tj911.setTop (mkF m 46 #[.val (.int p1), .val (.int p2), .val (.int p3), .val (.long q4), .second, .val (.ref ww), .val (.int nn), .val (.int mu), .unset, .unset, .unset, .unset, .unset, .unset, .unset, .unset, .unset] [])) t
    refine XS.aload Xj911.here hx rfl (hb hby at_46) rfl rfl ?_
    show Steps p.tables e below (Tj911.setTop (mkF m 48 #[.val (.int p1), .val (.int p2), .val (.int p3), .val (.long q4), .second, .val (.ref ww), .val (.int nn), .val (.int mu), .unset, .unset, .unset, .unset, .unset, .unset, .unset, .unset, .unset] [(.ref ww)])) t
    refine XS.iconst Xj911.here hx rfl (hb hby at_48) ?_
    show Steps p.tables e below (Tj911.setTop (mkF m 49 #[.val (.int p1), .val (.int p2), .val (.int p3), .val (.long q4), .second, .val (.ref ww), .val (.int nn), .val (.int mu), .unset, .unset, .unset, .unset, .unset, .unset, .unset, .unset, .unset] [(.int (0 : Int32)), (.ref ww)])) t
    refine XS.iload Xj911.here hx rfl (hb hby at_49) rfl ?_
    show Steps p.tables e below (Tj911.setTop (mkF m 51 #[.val (.int p1), .val (.int p2), .val (.int p3), .val (.long q4), .second, .val (.ref ww), .val (.int nn), .val (.int mu), .unset, .unset, .unset, .unset, .unset, .unset, .unset, .unset, .unset] [(.int mu), (.int (0 : Int32)), (.ref ww)])) t
    refine XS.iloadN Xj911.here hx rfl (hb hby at_51) rfl ?_
    show Steps p.tables e below (Tj911.setTop (mkF m 52 #[.val (.int p1), .val (.int p2), .val (.int p3), .val (.long q4), .second, .val (.ref ww), .val (.int nn), .val (.int mu), .unset, .unset, .unset, .unset, .unset, .unset, .unset, .unset, .unset] [(.int p3), (.int mu), (.int (0 : Int32)), (.ref ww)])) t
    refine XS.lloadN Xj911.here hx rfl (hb hby at_52) rfl ?_
    exact ht
  obtain ⟨_, _, ⟨T930, L930, c930, n930⟩, -, X930, ⟨Lc930, hQ930, l930, y930, z930⟩, st930⟩ := Jvm.LawKit.callS Xj911 hx (y := (⟨"com/example/lockstile/lockstile/namespace/AclEntryNamedPinLaw", "pick", "(Ljava/lang/String;IZIJ)C"⟩ : MethodName)) hownj911 (mvT hZj911 (hw _ (List.mem_of_getElem? (i := 12) rfl))) (mvT hZj911 (hw _ (List.mem_of_getElem? (i := 13) rfl))) (mvT hZj911 (hw _ (List.mem_of_getElem? (i := 2) rfl))) (mvT hZj911 (hw _ (List.mem_of_getElem? (i := 14) rfl))) (by decide) (backOf (W := 0) (rmpk l Z a0 hw [] ww 0 mu p3 q4 tw kw cw G1 G3 hj911 n0 zj911 S1 P5 fj911_0 S3 r3 (by decide) fj911_1 fj911_2 fj911_3 fj911_4 ur ul) hZj911 (hw _ (List.mem_of_getElem? (i := 14) rfl)) (hw _ (List.mem_of_getElem? (i := 2) rfl)) (by decide) (by decide)) (g := (mkF m 53 #[.val (.int p1), .val (.int p2), .val (.int p3), .val (.long q4), .second, .val (.ref ww), .val (.int nn), .val (.int mu), .unset, .unset, .unset, .unset, .unset, .unset, .unset, .unset, .unset] [(.long q4), (.int p3), (.int mu), (.int (0 : Int32)), (.ref ww)])) rfl (by rw [hml]; rfl) (argsL := [(.ref ww), (.int (0 : Int32)), (.int mu), (.int p3), (.long q4)]) (rest := []) (lenOf pd_13 rfl) rfl (by show 2 * 0 + _ ≤ _; exact Nat.le_of_eq rfl) (hb hby at_53) (fun _ _ => ⟨rfl, ej911, (by decide : 2 + 0 ≤ _), (by decide : 24 + 0 ≤ _)⟩)
  dsimp only [Pt.U, Pt.locs, Pt.cells, Pt.slots] at X930 l930 y930 z930 st930 hQ930
  subst l930 y930 z930
  obtain ⟨z0, rfl, Nq930, rz0, eq930⟩ := hQ930
  have N930 := Fr.app Nj911 Nq930
  have k930 : Kt p e below m (s₁.setTop (entryFrame m #[(.int p1), (.int p2), (.int p3), (.long q4)] maxLocals)) T930 56 #[.val (.int p1), .val (.int p2), .val (.int p3), .val (.long q4), .second, .val (.ref ww), .val (.int nn), .val (.int mu), .unset, .unset, .unset, .unset, .unset, .unset, .unset, .unset, .unset] [(.int z0)] := fun t ht => k929 t (st930 t ht)
  have f931 : n0 ≤ T930.heap.size := by rw [eq930]; exact zj911
  have f932 : Old Z n0 T930.heap := by rw [eq930]; exact fj911_0
  have f933 : Exa Z T930.heap ww "java/lang/String" := by rw [eq930]; exact fj911_1
  have f934 : Fld Z T930.heap ww "java/lang/String" "coder" "B" (.int (0 : Int32)) := by rw [eq930]; exact fj911_2
  have f935 : Fld Z T930.heap ww "java/lang/String" "value" "[B" (.ref tw) := by rw [eq930]; exact fj911_3
  have f936 : Arv Z T930.heap tw kw .byte (Int32.ofNat cw.length) (own_by cw) (.int (0 : Int32)) := by rw [eq930]; exact fj911_4
  have f937 : CHr Z consts_1 s.vm h0 vmj911 T930.heap := by rw [eq930]; exact Rj911
  have f938 : kbj911 ≤ T930.heap.size := by rw [eq930]; exact hkj911
  have k939 : Kt p e below m (s₁.setTop (entryFrame m #[(.int p1), (.int p2), (.int p3), (.long q4)] maxLocals)) T930 65 #[.val (.int p1), .val (.int p2), .val (.int p3), .val (.long q4), .second, .val (.ref ww), .val (.int nn), .val (.int mu), .val (.int z0), .unset, .unset, .unset, .unset, .unset, .unset, .unset, .unset] [(.long q4), (.int p3), (.int mu), (.int (1 : Int32)), (.ref ww)] := by
    intro t ht
    refine k930 t ?_
    show Steps p.tables e below (T930.setTop (mkF m 56 #[.val (.int p1), .val (.int p2), .val (.int p3), .val (.long q4), .second, .val (.ref ww), .val (.int nn), .val (.int mu), .unset, .unset, .unset, .unset, .unset, .unset, .unset, .unset, .unset] [(.int z0)])) t
    refine XS.istore X930.here hx rfl (hb hby at_56) rfl (l' := #[.val (.int p1), .val (.int p2), .val (.int p3), .val (.long q4), .second, .val (.ref ww), .val (.int nn), .val (.int mu), .val (.int z0), .unset, .unset, .unset, .unset, .unset, .unset, .unset, .unset]) rfl ?_
    show Steps p.tables e below (T930.setTop (mkF m 58 #[.val (.int p1), .val (.int p2), .val (.int p3), .val (.long q4), .second, .val (.ref ww), .val (.int nn), .val (.int mu), .val (.int z0), .unset, .unset, .unset, .unset, .unset, .unset, .unset, .unset] [])) t
    refine XS.aload X930.here hx rfl (hb hby at_58) rfl rfl ?_
    show Steps p.tables e below (T930.setTop (mkF m 60 #[.val (.int p1), .val (.int p2), .val (.int p3), .val (.long q4), .second, .val (.ref ww), .val (.int nn), .val (.int mu), .val (.int z0), .unset, .unset, .unset, .unset, .unset, .unset, .unset, .unset] [(.ref ww)])) t
    refine XS.iconst X930.here hx rfl (hb hby at_60) ?_
    show Steps p.tables e below (T930.setTop (mkF m 61 #[.val (.int p1), .val (.int p2), .val (.int p3), .val (.long q4), .second, .val (.ref ww), .val (.int nn), .val (.int mu), .val (.int z0), .unset, .unset, .unset, .unset, .unset, .unset, .unset, .unset] [(.int (1 : Int32)), (.ref ww)])) t
    refine XS.iload X930.here hx rfl (hb hby at_61) rfl ?_
    show Steps p.tables e below (T930.setTop (mkF m 63 #[.val (.int p1), .val (.int p2), .val (.int p3), .val (.long q4), .second, .val (.ref ww), .val (.int nn), .val (.int mu), .val (.int z0), .unset, .unset, .unset, .unset, .unset, .unset, .unset, .unset] [(.int mu), (.int (1 : Int32)), (.ref ww)])) t
    refine XS.iloadN X930.here hx rfl (hb hby at_63) rfl ?_
    show Steps p.tables e below (T930.setTop (mkF m 64 #[.val (.int p1), .val (.int p2), .val (.int p3), .val (.long q4), .second, .val (.ref ww), .val (.int nn), .val (.int mu), .val (.int z0), .unset, .unset, .unset, .unset, .unset, .unset, .unset, .unset] [(.int p3), (.int mu), (.int (1 : Int32)), (.ref ww)])) t
    refine XS.lloadN X930.here hx rfl (hb hby at_64) rfl ?_
    exact ht
  obtain ⟨_, _, ⟨T940, L940, c940, n940⟩, -, X940, ⟨Lc940, hQ940, l940, y940, z940⟩, st940⟩ := Jvm.LawKit.callS X930 hx (y := (⟨"com/example/lockstile/lockstile/namespace/AclEntryNamedPinLaw", "pick", "(Ljava/lang/String;IZIJ)C"⟩ : MethodName)) hownj911 (mvT hZj911 (hw _ (List.mem_of_getElem? (i := 12) rfl))) (mvT hZj911 (hw _ (List.mem_of_getElem? (i := 13) rfl))) (mvT hZj911 (hw _ (List.mem_of_getElem? (i := 2) rfl))) (mvT hZj911 (hw _ (List.mem_of_getElem? (i := 14) rfl))) (by decide) (backOf (W := 0) (rmpk l Z a0 hw [] ww 1 mu p3 q4 tw kw cw G1 G3 T930.heap n0 f931 S1 P5 f932 S3 r3 (by decide) f933 f934 f935 f936 ur ul) hZj911 (hw _ (List.mem_of_getElem? (i := 14) rfl)) (hw _ (List.mem_of_getElem? (i := 2) rfl)) (by decide) (by decide)) (g := (mkF m 65 #[.val (.int p1), .val (.int p2), .val (.int p3), .val (.long q4), .second, .val (.ref ww), .val (.int nn), .val (.int mu), .val (.int z0), .unset, .unset, .unset, .unset, .unset, .unset, .unset, .unset] [(.long q4), (.int p3), (.int mu), (.int (1 : Int32)), (.ref ww)])) rfl (by rw [hml]; rfl) (argsL := [(.ref ww), (.int (1 : Int32)), (.int mu), (.int p3), (.long q4)]) (rest := []) (lenOf pd_13 rfl) rfl (by show 2 * 0 + _ ≤ _; exact Nat.le_of_eq rfl) (hb hby at_65) (fun _ _ => ⟨rfl, rfl, (by decide : 2 + 0 ≤ _), (by decide : 24 + 0 ≤ _)⟩)
  dsimp only [Pt.U, Pt.locs, Pt.cells, Pt.slots] at X940 l940 y940 z940 st940 hQ940
  subst l940 y940 z940
  obtain ⟨z1, rfl, Nq940, rz1, eq940⟩ := hQ940
  have N940 := Fr.app N930 Nq940
  have k940 : Kt p e below m (s₁.setTop (entryFrame m #[(.int p1), (.int p2), (.int p3), (.long q4)] maxLocals)) T940 68 #[.val (.int p1), .val (.int p2), .val (.int p3), .val (.long q4), .second, .val (.ref ww), .val (.int nn), .val (.int mu), .val (.int z0), .unset, .unset, .unset, .unset, .unset, .unset, .unset, .unset] [(.int z1)] := fun t ht => k939 t (st940 t ht)
  have f941 : n0 ≤ T940.heap.size := by rw [eq940]; exact f931
  have f942 : Old Z n0 T940.heap := by rw [eq940]; exact f932
  have f943 : Exa Z T940.heap ww "java/lang/String" := by rw [eq940]; exact f933
  have f944 : Fld Z T940.heap ww "java/lang/String" "coder" "B" (.int (0 : Int32)) := by rw [eq940]; exact f934
  have f945 : Fld Z T940.heap ww "java/lang/String" "value" "[B" (.ref tw) := by rw [eq940]; exact f935
  have f946 : Arv Z T940.heap tw kw .byte (Int32.ofNat cw.length) (own_by cw) (.int (0 : Int32)) := by rw [eq940]; exact f936
  have f947 : CHr Z consts_1 s.vm h0 vmj911 T940.heap := by rw [eq940]; exact f937
  have f948 : kbj911 ≤ T940.heap.size := by rw [eq940]; exact f938
  have k949 : Kt p e below m (s₁.setTop (entryFrame m #[(.int p1), (.int p2), (.int p3), (.long q4)] maxLocals)) T940 77 #[.val (.int p1), .val (.int p2), .val (.int p3), .val (.long q4), .second, .val (.ref ww), .val (.int nn), .val (.int mu), .val (.int z0), .val (.int z1), .unset, .unset, .unset, .unset, .unset, .unset, .unset] [(.long q4), (.int p3), (.int mu), (.int (2 : Int32)), (.ref ww)] := by
    intro t ht
    refine k940 t ?_
    show Steps p.tables e below (T940.setTop (mkF m 68 #[.val (.int p1), .val (.int p2), .val (.int p3), .val (.long q4), .second, .val (.ref ww), .val (.int nn), .val (.int mu), .val (.int z0), .unset, .unset, .unset, .unset, .unset, .unset, .unset, .unset] [(.int z1)])) t
    refine XS.istore X940.here hx rfl (hb hby at_68) rfl (l' := #[.val (.int p1), .val (.int p2), .val (.int p3), .val (.long q4), .second, .val (.ref ww), .val (.int nn), .val (.int mu), .val (.int z0), .val (.int z1), .unset, .unset, .unset, .unset, .unset, .unset, .unset]) rfl ?_
    show Steps p.tables e below (T940.setTop (mkF m 70 #[.val (.int p1), .val (.int p2), .val (.int p3), .val (.long q4), .second, .val (.ref ww), .val (.int nn), .val (.int mu), .val (.int z0), .val (.int z1), .unset, .unset, .unset, .unset, .unset, .unset, .unset] [])) t
    refine XS.aload X940.here hx rfl (hb hby at_70) rfl rfl ?_
    show Steps p.tables e below (T940.setTop (mkF m 72 #[.val (.int p1), .val (.int p2), .val (.int p3), .val (.long q4), .second, .val (.ref ww), .val (.int nn), .val (.int mu), .val (.int z0), .val (.int z1), .unset, .unset, .unset, .unset, .unset, .unset, .unset] [(.ref ww)])) t
    refine XS.iconst X940.here hx rfl (hb hby at_72) ?_
    show Steps p.tables e below (T940.setTop (mkF m 73 #[.val (.int p1), .val (.int p2), .val (.int p3), .val (.long q4), .second, .val (.ref ww), .val (.int nn), .val (.int mu), .val (.int z0), .val (.int z1), .unset, .unset, .unset, .unset, .unset, .unset, .unset] [(.int (2 : Int32)), (.ref ww)])) t
    refine XS.iload X940.here hx rfl (hb hby at_73) rfl ?_
    show Steps p.tables e below (T940.setTop (mkF m 75 #[.val (.int p1), .val (.int p2), .val (.int p3), .val (.long q4), .second, .val (.ref ww), .val (.int nn), .val (.int mu), .val (.int z0), .val (.int z1), .unset, .unset, .unset, .unset, .unset, .unset, .unset] [(.int mu), (.int (2 : Int32)), (.ref ww)])) t
    refine XS.iloadN X940.here hx rfl (hb hby at_75) rfl ?_
    show Steps p.tables e below (T940.setTop (mkF m 76 #[.val (.int p1), .val (.int p2), .val (.int p3), .val (.long q4), .second, .val (.ref ww), .val (.int nn), .val (.int mu), .val (.int z0), .val (.int z1), .unset, .unset, .unset, .unset, .unset, .unset, .unset] [(.int p3), (.int mu), (.int (2 : Int32)), (.ref ww)])) t
    refine XS.lloadN X940.here hx rfl (hb hby at_76) rfl ?_
    exact ht
  obtain ⟨_, _, ⟨T950, L950, c950, n950⟩, -, X950, ⟨Lc950, hQ950, l950, y950, z950⟩, st950⟩ := Jvm.LawKit.callS X940 hx (y := (⟨"com/example/lockstile/lockstile/namespace/AclEntryNamedPinLaw", "pick", "(Ljava/lang/String;IZIJ)C"⟩ : MethodName)) hownj911 (mvT hZj911 (hw _ (List.mem_of_getElem? (i := 12) rfl))) (mvT hZj911 (hw _ (List.mem_of_getElem? (i := 13) rfl))) (mvT hZj911 (hw _ (List.mem_of_getElem? (i := 2) rfl))) (mvT hZj911 (hw _ (List.mem_of_getElem? (i := 14) rfl))) (by decide) (backOf (W := 0) (rmpk l Z a0 hw [] ww 2 mu p3 q4 tw kw cw G1 G3 T940.heap n0 f941 S1 P5 f942 S3 r3 (by decide) f943 f944 f945 f946 ur ul) hZj911 (hw _ (List.mem_of_getElem? (i := 14) rfl)) (hw _ (List.mem_of_getElem? (i := 2) rfl)) (by decide) (by decide)) (g := (mkF m 77 #[.val (.int p1), .val (.int p2), .val (.int p3), .val (.long q4), .second, .val (.ref ww), .val (.int nn), .val (.int mu), .val (.int z0), .val (.int z1), .unset, .unset, .unset, .unset, .unset, .unset, .unset] [(.long q4), (.int p3), (.int mu), (.int (2 : Int32)), (.ref ww)])) rfl (by rw [hml]; rfl) (argsL := [(.ref ww), (.int (2 : Int32)), (.int mu), (.int p3), (.long q4)]) (rest := []) (lenOf pd_13 rfl) rfl (by show 2 * 0 + _ ≤ _; exact Nat.le_of_eq rfl) (hb hby at_77) (fun _ _ => ⟨rfl, rfl, (by decide : 2 + 0 ≤ _), (by decide : 24 + 0 ≤ _)⟩)
  dsimp only [Pt.U, Pt.locs, Pt.cells, Pt.slots] at X950 l950 y950 z950 st950 hQ950
  subst l950 y950 z950
  obtain ⟨z2, rfl, Nq950, rz2, eq950⟩ := hQ950
  have N950 := Fr.app N940 Nq950
  have k950 : Kt p e below m (s₁.setTop (entryFrame m #[(.int p1), (.int p2), (.int p3), (.long q4)] maxLocals)) T950 80 #[.val (.int p1), .val (.int p2), .val (.int p3), .val (.long q4), .second, .val (.ref ww), .val (.int nn), .val (.int mu), .val (.int z0), .val (.int z1), .unset, .unset, .unset, .unset, .unset, .unset, .unset] [(.int z2)] := fun t ht => k949 t (st950 t ht)
  have f951 : n0 ≤ T950.heap.size := by rw [eq950]; exact f941
  have f952 : Old Z n0 T950.heap := by rw [eq950]; exact f942
  have f953 : Exa Z T950.heap ww "java/lang/String" := by rw [eq950]; exact f943
  have f954 : Fld Z T950.heap ww "java/lang/String" "coder" "B" (.int (0 : Int32)) := by rw [eq950]; exact f944
  have f955 : Fld Z T950.heap ww "java/lang/String" "value" "[B" (.ref tw) := by rw [eq950]; exact f945
  have f956 : Arv Z T950.heap tw kw .byte (Int32.ofNat cw.length) (own_by cw) (.int (0 : Int32)) := by rw [eq950]; exact f946
  have f957 : CHr Z consts_1 s.vm h0 vmj911 T950.heap := by rw [eq950]; exact f947
  have f958 : kbj911 ≤ T950.heap.size := by rw [eq950]; exact f948
  have k959 : Kt p e below m (s₁.setTop (entryFrame m #[(.int p1), (.int p2), (.int p3), (.long q4)] maxLocals)) T950 89 #[.val (.int p1), .val (.int p2), .val (.int p3), .val (.long q4), .second, .val (.ref ww), .val (.int nn), .val (.int mu), .val (.int z0), .val (.int z1), .val (.int z2), .unset, .unset, .unset, .unset, .unset, .unset] [(.long q4), (.int p3), (.int mu), (.int (3 : Int32)), (.ref ww)] := by
    intro t ht
    refine k950 t ?_
    show Steps p.tables e below (T950.setTop (mkF m 80 #[.val (.int p1), .val (.int p2), .val (.int p3), .val (.long q4), .second, .val (.ref ww), .val (.int nn), .val (.int mu), .val (.int z0), .val (.int z1), .unset, .unset, .unset, .unset, .unset, .unset, .unset] [(.int z2)])) t
    refine XS.istore X950.here hx rfl (hb hby at_80) rfl (l' := #[.val (.int p1), .val (.int p2), .val (.int p3), .val (.long q4), .second, .val (.ref ww), .val (.int nn), .val (.int mu), .val (.int z0), .val (.int z1), .val (.int z2), .unset, .unset, .unset, .unset, .unset, .unset]) rfl ?_
    show Steps p.tables e below (T950.setTop (mkF m 82 #[.val (.int p1), .val (.int p2), .val (.int p3), .val (.long q4), .second, .val (.ref ww), .val (.int nn), .val (.int mu), .val (.int z0), .val (.int z1), .val (.int z2), .unset, .unset, .unset, .unset, .unset, .unset] [])) t
    refine XS.aload X950.here hx rfl (hb hby at_82) rfl rfl ?_
    show Steps p.tables e below (T950.setTop (mkF m 84 #[.val (.int p1), .val (.int p2), .val (.int p3), .val (.long q4), .second, .val (.ref ww), .val (.int nn), .val (.int mu), .val (.int z0), .val (.int z1), .val (.int z2), .unset, .unset, .unset, .unset, .unset, .unset] [(.ref ww)])) t
    refine XS.iconst X950.here hx rfl (hb hby at_84) ?_
    show Steps p.tables e below (T950.setTop (mkF m 85 #[.val (.int p1), .val (.int p2), .val (.int p3), .val (.long q4), .second, .val (.ref ww), .val (.int nn), .val (.int mu), .val (.int z0), .val (.int z1), .val (.int z2), .unset, .unset, .unset, .unset, .unset, .unset] [(.int (3 : Int32)), (.ref ww)])) t
    refine XS.iload X950.here hx rfl (hb hby at_85) rfl ?_
    show Steps p.tables e below (T950.setTop (mkF m 87 #[.val (.int p1), .val (.int p2), .val (.int p3), .val (.long q4), .second, .val (.ref ww), .val (.int nn), .val (.int mu), .val (.int z0), .val (.int z1), .val (.int z2), .unset, .unset, .unset, .unset, .unset, .unset] [(.int mu), (.int (3 : Int32)), (.ref ww)])) t
    refine XS.iloadN X950.here hx rfl (hb hby at_87) rfl ?_
    show Steps p.tables e below (T950.setTop (mkF m 88 #[.val (.int p1), .val (.int p2), .val (.int p3), .val (.long q4), .second, .val (.ref ww), .val (.int nn), .val (.int mu), .val (.int z0), .val (.int z1), .val (.int z2), .unset, .unset, .unset, .unset, .unset, .unset] [(.int p3), (.int mu), (.int (3 : Int32)), (.ref ww)])) t
    refine XS.lloadN X950.here hx rfl (hb hby at_88) rfl ?_
    exact ht
  obtain ⟨_, _, ⟨T960, L960, c960, n960⟩, -, X960, ⟨Lc960, hQ960, l960, y960, z960⟩, st960⟩ := Jvm.LawKit.callS X950 hx (y := (⟨"com/example/lockstile/lockstile/namespace/AclEntryNamedPinLaw", "pick", "(Ljava/lang/String;IZIJ)C"⟩ : MethodName)) hownj911 (mvT hZj911 (hw _ (List.mem_of_getElem? (i := 12) rfl))) (mvT hZj911 (hw _ (List.mem_of_getElem? (i := 13) rfl))) (mvT hZj911 (hw _ (List.mem_of_getElem? (i := 2) rfl))) (mvT hZj911 (hw _ (List.mem_of_getElem? (i := 14) rfl))) (by decide) (backOf (W := 0) (rmpk l Z a0 hw [] ww 3 mu p3 q4 tw kw cw G1 G3 T950.heap n0 f951 S1 P5 f952 S3 r3 (by decide) f953 f954 f955 f956 ur ul) hZj911 (hw _ (List.mem_of_getElem? (i := 14) rfl)) (hw _ (List.mem_of_getElem? (i := 2) rfl)) (by decide) (by decide)) (g := (mkF m 89 #[.val (.int p1), .val (.int p2), .val (.int p3), .val (.long q4), .second, .val (.ref ww), .val (.int nn), .val (.int mu), .val (.int z0), .val (.int z1), .val (.int z2), .unset, .unset, .unset, .unset, .unset, .unset] [(.long q4), (.int p3), (.int mu), (.int (3 : Int32)), (.ref ww)])) rfl (by rw [hml]; rfl) (argsL := [(.ref ww), (.int (3 : Int32)), (.int mu), (.int p3), (.long q4)]) (rest := []) (lenOf pd_13 rfl) rfl (by show 2 * 0 + _ ≤ _; exact Nat.le_of_eq rfl) (hb hby at_89) (fun _ _ => ⟨rfl, rfl, (by decide : 2 + 0 ≤ _), (by decide : 24 + 0 ≤ _)⟩)
  dsimp only [Pt.U, Pt.locs, Pt.cells, Pt.slots] at X960 l960 y960 z960 st960 hQ960
  subst l960 y960 z960
  obtain ⟨z3, rfl, Nq960, rz3, eq960⟩ := hQ960
  have N960 := Fr.app N950 Nq960
  have k960 : Kt p e below m (s₁.setTop (entryFrame m #[(.int p1), (.int p2), (.int p3), (.long q4)] maxLocals)) T960 92 #[.val (.int p1), .val (.int p2), .val (.int p3), .val (.long q4), .second, .val (.ref ww), .val (.int nn), .val (.int mu), .val (.int z0), .val (.int z1), .val (.int z2), .unset, .unset, .unset, .unset, .unset, .unset] [(.int z3)] := fun t ht => k959 t (st960 t ht)
  have f961 : n0 ≤ T960.heap.size := by rw [eq960]; exact f951
  have f962 : Old Z n0 T960.heap := by rw [eq960]; exact f952
  have f963 : Exa Z T960.heap ww "java/lang/String" := by rw [eq960]; exact f953
  have f964 : Fld Z T960.heap ww "java/lang/String" "coder" "B" (.int (0 : Int32)) := by rw [eq960]; exact f954
  have f965 : Fld Z T960.heap ww "java/lang/String" "value" "[B" (.ref tw) := by rw [eq960]; exact f955
  have f966 : Arv Z T960.heap tw kw .byte (Int32.ofNat cw.length) (own_by cw) (.int (0 : Int32)) := by rw [eq960]; exact f956
  have f967 : CHr Z consts_1 s.vm h0 vmj911 T960.heap := by rw [eq960]; exact f957
  have f968 : kbj911 ≤ T960.heap.size := by rw [eq960]; exact f958
  have k969 : Kt p e below m (s₁.setTop (entryFrame m #[(.int p1), (.int p2), (.int p3), (.long q4)] maxLocals)) T960 101 #[.val (.int p1), .val (.int p2), .val (.int p3), .val (.long q4), .second, .val (.ref ww), .val (.int nn), .val (.int mu), .val (.int z0), .val (.int z1), .val (.int z2), .val (.int z3), .unset, .unset, .unset, .unset, .unset] [(.long q4), (.int p3), (.int mu), (.int (4 : Int32)), (.ref ww)] := by
    intro t ht
    refine k960 t ?_
    show Steps p.tables e below (T960.setTop (mkF m 92 #[.val (.int p1), .val (.int p2), .val (.int p3), .val (.long q4), .second, .val (.ref ww), .val (.int nn), .val (.int mu), .val (.int z0), .val (.int z1), .val (.int z2), .unset, .unset, .unset, .unset, .unset, .unset] [(.int z3)])) t
    refine XS.istore X960.here hx rfl (hb hby at_92) rfl (l' := #[.val (.int p1), .val (.int p2), .val (.int p3), .val (.long q4), .second, .val (.ref ww), .val (.int nn), .val (.int mu), .val (.int z0), .val (.int z1), .val (.int z2), .val (.int z3), .unset, .unset, .unset, .unset, .unset]) rfl ?_
    show Steps p.tables e below (T960.setTop (mkF m 94 #[.val (.int p1), .val (.int p2), .val (.int p3), .val (.long q4), .second, .val (.ref ww), .val (.int nn), .val (.int mu), .val (.int z0), .val (.int z1), .val (.int z2), .val (.int z3), .unset, .unset, .unset, .unset, .unset] [])) t
    refine XS.aload X960.here hx rfl (hb hby at_94) rfl rfl ?_
    show Steps p.tables e below (T960.setTop (mkF m 96 #[.val (.int p1), .val (.int p2), .val (.int p3), .val (.long q4), .second, .val (.ref ww), .val (.int nn), .val (.int mu), .val (.int z0), .val (.int z1), .val (.int z2), .val (.int z3), .unset, .unset, .unset, .unset, .unset] [(.ref ww)])) t
    refine XS.iconst X960.here hx rfl (hb hby at_96) ?_
    show Steps p.tables e below (T960.setTop (mkF m 97 #[.val (.int p1), .val (.int p2), .val (.int p3), .val (.long q4), .second, .val (.ref ww), .val (.int nn), .val (.int mu), .val (.int z0), .val (.int z1), .val (.int z2), .val (.int z3), .unset, .unset, .unset, .unset, .unset] [(.int (4 : Int32)), (.ref ww)])) t
    refine XS.iload X960.here hx rfl (hb hby at_97) rfl ?_
    show Steps p.tables e below (T960.setTop (mkF m 99 #[.val (.int p1), .val (.int p2), .val (.int p3), .val (.long q4), .second, .val (.ref ww), .val (.int nn), .val (.int mu), .val (.int z0), .val (.int z1), .val (.int z2), .val (.int z3), .unset, .unset, .unset, .unset, .unset] [(.int mu), (.int (4 : Int32)), (.ref ww)])) t
    refine XS.iloadN X960.here hx rfl (hb hby at_99) rfl ?_
    show Steps p.tables e below (T960.setTop (mkF m 100 #[.val (.int p1), .val (.int p2), .val (.int p3), .val (.long q4), .second, .val (.ref ww), .val (.int nn), .val (.int mu), .val (.int z0), .val (.int z1), .val (.int z2), .val (.int z3), .unset, .unset, .unset, .unset, .unset] [(.int p3), (.int mu), (.int (4 : Int32)), (.ref ww)])) t
    refine XS.lloadN X960.here hx rfl (hb hby at_100) rfl ?_
    exact ht
  obtain ⟨_, _, ⟨T970, L970, c970, n970⟩, -, X970, ⟨Lc970, hQ970, l970, y970, z970⟩, st970⟩ := Jvm.LawKit.callS X960 hx (y := (⟨"com/example/lockstile/lockstile/namespace/AclEntryNamedPinLaw", "pick", "(Ljava/lang/String;IZIJ)C"⟩ : MethodName)) hownj911 (mvT hZj911 (hw _ (List.mem_of_getElem? (i := 12) rfl))) (mvT hZj911 (hw _ (List.mem_of_getElem? (i := 13) rfl))) (mvT hZj911 (hw _ (List.mem_of_getElem? (i := 2) rfl))) (mvT hZj911 (hw _ (List.mem_of_getElem? (i := 14) rfl))) (by decide) (backOf (W := 0) (rmpk l Z a0 hw [] ww 4 mu p3 q4 tw kw cw G1 G3 T960.heap n0 f961 S1 P5 f962 S3 r3 (by decide) f963 f964 f965 f966 ur ul) hZj911 (hw _ (List.mem_of_getElem? (i := 14) rfl)) (hw _ (List.mem_of_getElem? (i := 2) rfl)) (by decide) (by decide)) (g := (mkF m 101 #[.val (.int p1), .val (.int p2), .val (.int p3), .val (.long q4), .second, .val (.ref ww), .val (.int nn), .val (.int mu), .val (.int z0), .val (.int z1), .val (.int z2), .val (.int z3), .unset, .unset, .unset, .unset, .unset] [(.long q4), (.int p3), (.int mu), (.int (4 : Int32)), (.ref ww)])) rfl (by rw [hml]; rfl) (argsL := [(.ref ww), (.int (4 : Int32)), (.int mu), (.int p3), (.long q4)]) (rest := []) (lenOf pd_13 rfl) rfl (by show 2 * 0 + _ ≤ _; exact Nat.le_of_eq rfl) (hb hby at_101) (fun _ _ => ⟨rfl, rfl, (by decide : 2 + 0 ≤ _), (by decide : 24 + 0 ≤ _)⟩)
  dsimp only [Pt.U, Pt.locs, Pt.cells, Pt.slots] at X970 l970 y970 z970 st970 hQ970
  subst l970 y970 z970
  obtain ⟨z4, rfl, Nq970, rz4, eq970⟩ := hQ970
  have N970 := Fr.app N960 Nq970
  have k970 : Kt p e below m (s₁.setTop (entryFrame m #[(.int p1), (.int p2), (.int p3), (.long q4)] maxLocals)) T970 104 #[.val (.int p1), .val (.int p2), .val (.int p3), .val (.long q4), .second, .val (.ref ww), .val (.int nn), .val (.int mu), .val (.int z0), .val (.int z1), .val (.int z2), .val (.int z3), .unset, .unset, .unset, .unset, .unset] [(.int z4)] := fun t ht => k969 t (st970 t ht)
  have f971 : n0 ≤ T970.heap.size := by rw [eq970]; exact f961
  have f972 : Old Z n0 T970.heap := by rw [eq970]; exact f962
  have f973 : Exa Z T970.heap ww "java/lang/String" := by rw [eq970]; exact f963
  have f974 : Fld Z T970.heap ww "java/lang/String" "coder" "B" (.int (0 : Int32)) := by rw [eq970]; exact f964
  have f975 : Fld Z T970.heap ww "java/lang/String" "value" "[B" (.ref tw) := by rw [eq970]; exact f965
  have f976 : Arv Z T970.heap tw kw .byte (Int32.ofNat cw.length) (own_by cw) (.int (0 : Int32)) := by rw [eq970]; exact f966
  have f977 : CHr Z consts_1 s.vm h0 vmj911 T970.heap := by rw [eq970]; exact f967
  have f978 : kbj911 ≤ T970.heap.size := by rw [eq970]; exact f968
  have k979 : Kt p e below m (s₁.setTop (entryFrame m #[(.int p1), (.int p2), (.int p3), (.long q4)] maxLocals)) T970 113 #[.val (.int p1), .val (.int p2), .val (.int p3), .val (.long q4), .second, .val (.ref ww), .val (.int nn), .val (.int mu), .val (.int z0), .val (.int z1), .val (.int z2), .val (.int z3), .val (.int z4), .unset, .unset, .unset, .unset] [(.long q4), (.int p3), (.int mu), (.int (5 : Int32)), (.ref ww)] := by
    intro t ht
    refine k970 t ?_
    show Steps p.tables e below (T970.setTop (mkF m 104 #[.val (.int p1), .val (.int p2), .val (.int p3), .val (.long q4), .second, .val (.ref ww), .val (.int nn), .val (.int mu), .val (.int z0), .val (.int z1), .val (.int z2), .val (.int z3), .unset, .unset, .unset, .unset, .unset] [(.int z4)])) t
    refine XS.istore X970.here hx rfl (hb hby at_104) rfl (l' := #[.val (.int p1), .val (.int p2), .val (.int p3), .val (.long q4), .second, .val (.ref ww), .val (.int nn), .val (.int mu), .val (.int z0), .val (.int z1), .val (.int z2), .val (.int z3), .val (.int z4), .unset, .unset, .unset, .unset]) rfl ?_
    show Steps p.tables e below (T970.setTop (mkF m 106 #[.val (.int p1), .val (.int p2), .val (.int p3), .val (.long q4), .second, .val (.ref ww), .val (.int nn), .val (.int mu), .val (.int z0), .val (.int z1), .val (.int z2), .val (.int z3), .val (.int z4), .unset, .unset, .unset, .unset] [])) t
    refine XS.aload X970.here hx rfl (hb hby at_106) rfl rfl ?_
    show Steps p.tables e below (T970.setTop (mkF m 108 #[.val (.int p1), .val (.int p2), .val (.int p3), .val (.long q4), .second, .val (.ref ww), .val (.int nn), .val (.int mu), .val (.int z0), .val (.int z1), .val (.int z2), .val (.int z3), .val (.int z4), .unset, .unset, .unset, .unset] [(.ref ww)])) t
    refine XS.iconst X970.here hx rfl (hb hby at_108) ?_
    show Steps p.tables e below (T970.setTop (mkF m 109 #[.val (.int p1), .val (.int p2), .val (.int p3), .val (.long q4), .second, .val (.ref ww), .val (.int nn), .val (.int mu), .val (.int z0), .val (.int z1), .val (.int z2), .val (.int z3), .val (.int z4), .unset, .unset, .unset, .unset] [(.int (5 : Int32)), (.ref ww)])) t
    refine XS.iload X970.here hx rfl (hb hby at_109) rfl ?_
    show Steps p.tables e below (T970.setTop (mkF m 111 #[.val (.int p1), .val (.int p2), .val (.int p3), .val (.long q4), .second, .val (.ref ww), .val (.int nn), .val (.int mu), .val (.int z0), .val (.int z1), .val (.int z2), .val (.int z3), .val (.int z4), .unset, .unset, .unset, .unset] [(.int mu), (.int (5 : Int32)), (.ref ww)])) t
    refine XS.iloadN X970.here hx rfl (hb hby at_111) rfl ?_
    show Steps p.tables e below (T970.setTop (mkF m 112 #[.val (.int p1), .val (.int p2), .val (.int p3), .val (.long q4), .second, .val (.ref ww), .val (.int nn), .val (.int mu), .val (.int z0), .val (.int z1), .val (.int z2), .val (.int z3), .val (.int z4), .unset, .unset, .unset, .unset] [(.int p3), (.int mu), (.int (5 : Int32)), (.ref ww)])) t
    refine XS.lloadN X970.here hx rfl (hb hby at_112) rfl ?_
    exact ht
  obtain ⟨_, _, ⟨T980, L980, c980, n980⟩, -, X980, ⟨Lc980, hQ980, l980, y980, z980⟩, st980⟩ := Jvm.LawKit.callS X970 hx (y := (⟨"com/example/lockstile/lockstile/namespace/AclEntryNamedPinLaw", "pick", "(Ljava/lang/String;IZIJ)C"⟩ : MethodName)) hownj911 (mvT hZj911 (hw _ (List.mem_of_getElem? (i := 12) rfl))) (mvT hZj911 (hw _ (List.mem_of_getElem? (i := 13) rfl))) (mvT hZj911 (hw _ (List.mem_of_getElem? (i := 2) rfl))) (mvT hZj911 (hw _ (List.mem_of_getElem? (i := 14) rfl))) (by decide) (backOf (W := 0) (rmpk l Z a0 hw [] ww 5 mu p3 q4 tw kw cw G1 G3 T970.heap n0 f971 S1 P5 f972 S3 r3 (by decide) f973 f974 f975 f976 ur ul) hZj911 (hw _ (List.mem_of_getElem? (i := 14) rfl)) (hw _ (List.mem_of_getElem? (i := 2) rfl)) (by decide) (by decide)) (g := (mkF m 113 #[.val (.int p1), .val (.int p2), .val (.int p3), .val (.long q4), .second, .val (.ref ww), .val (.int nn), .val (.int mu), .val (.int z0), .val (.int z1), .val (.int z2), .val (.int z3), .val (.int z4), .unset, .unset, .unset, .unset] [(.long q4), (.int p3), (.int mu), (.int (5 : Int32)), (.ref ww)])) rfl (by rw [hml]; rfl) (argsL := [(.ref ww), (.int (5 : Int32)), (.int mu), (.int p3), (.long q4)]) (rest := []) (lenOf pd_13 rfl) rfl (by show 2 * 0 + _ ≤ _; exact Nat.le_of_eq rfl) (hb hby at_113) (fun _ _ => ⟨rfl, rfl, (by decide : 2 + 0 ≤ _), (by decide : 24 + 0 ≤ _)⟩)
  dsimp only [Pt.U, Pt.locs, Pt.cells, Pt.slots] at X980 l980 y980 z980 st980 hQ980
  subst l980 y980 z980
  obtain ⟨z5, rfl, Nq980, rz5, eq980⟩ := hQ980
  have N980 := Fr.app N970 Nq980
  have k980 : Kt p e below m (s₁.setTop (entryFrame m #[(.int p1), (.int p2), (.int p3), (.long q4)] maxLocals)) T980 116 #[.val (.int p1), .val (.int p2), .val (.int p3), .val (.long q4), .second, .val (.ref ww), .val (.int nn), .val (.int mu), .val (.int z0), .val (.int z1), .val (.int z2), .val (.int z3), .val (.int z4), .unset, .unset, .unset, .unset] [(.int z5)] := fun t ht => k979 t (st980 t ht)
  have f981 : n0 ≤ T980.heap.size := by rw [eq980]; exact f971
  have f982 : Old Z n0 T980.heap := by rw [eq980]; exact f972
  have f983 : Exa Z T980.heap ww "java/lang/String" := by rw [eq980]; exact f973
  have f984 : Fld Z T980.heap ww "java/lang/String" "coder" "B" (.int (0 : Int32)) := by rw [eq980]; exact f974
  have f985 : Fld Z T980.heap ww "java/lang/String" "value" "[B" (.ref tw) := by rw [eq980]; exact f975
  have f986 : Arv Z T980.heap tw kw .byte (Int32.ofNat cw.length) (own_by cw) (.int (0 : Int32)) := by rw [eq980]; exact f976
  have f987 : CHr Z consts_1 s.vm h0 vmj911 T980.heap := by rw [eq980]; exact f977
  have f988 : kbj911 ≤ T980.heap.size := by rw [eq980]; exact f978
  have k989 : Kt p e below m (s₁.setTop (entryFrame m #[(.int p1), (.int p2), (.int p3), (.long q4)] maxLocals)) T980 132 #[.val (.int p1), .val (.int p2), .val (.int p3), .val (.long q4), .second, .val (.ref ww), .val (.int nn), .val (.int mu), .val (.int z0), .val (.int z1), .val (.int z2), .val (.int z3), .val (.int z4), .val (.int z5), .unset, .unset, .unset] [(.int z5), (.int z4), (.int z3), (.int z2), (.int z1), (.int z0), (.int nn)] := by
    intro t ht
    refine k980 t ?_
    show Steps p.tables e below (T980.setTop (mkF m 116 #[.val (.int p1), .val (.int p2), .val (.int p3), .val (.long q4), .second, .val (.ref ww), .val (.int nn), .val (.int mu), .val (.int z0), .val (.int z1), .val (.int z2), .val (.int z3), .val (.int z4), .unset, .unset, .unset, .unset] [(.int z5)])) t
    refine XS.istore X980.here hx rfl (hb hby at_116) rfl (l' := #[.val (.int p1), .val (.int p2), .val (.int p3), .val (.long q4), .second, .val (.ref ww), .val (.int nn), .val (.int mu), .val (.int z0), .val (.int z1), .val (.int z2), .val (.int z3), .val (.int z4), .val (.int z5), .unset, .unset, .unset]) rfl ?_
    show Steps p.tables e below (T980.setTop (mkF m 118 #[.val (.int p1), .val (.int p2), .val (.int p3), .val (.long q4), .second, .val (.ref ww), .val (.int nn), .val (.int mu), .val (.int z0), .val (.int z1), .val (.int z2), .val (.int z3), .val (.int z4), .val (.int z5), .unset, .unset, .unset] [])) t
    refine XS.iload X980.here hx rfl (hb hby at_118) rfl ?_
    show Steps p.tables e below (T980.setTop (mkF m 120 #[.val (.int p1), .val (.int p2), .val (.int p3), .val (.long q4), .second, .val (.ref ww), .val (.int nn), .val (.int mu), .val (.int z0), .val (.int z1), .val (.int z2), .val (.int z3), .val (.int z4), .val (.int z5), .unset, .unset, .unset] [(.int nn)])) t
    refine XS.iload X980.here hx rfl (hb hby at_120) rfl ?_
    show Steps p.tables e below (T980.setTop (mkF m 122 #[.val (.int p1), .val (.int p2), .val (.int p3), .val (.long q4), .second, .val (.ref ww), .val (.int nn), .val (.int mu), .val (.int z0), .val (.int z1), .val (.int z2), .val (.int z3), .val (.int z4), .val (.int z5), .unset, .unset, .unset] [(.int z0), (.int nn)])) t
    refine XS.iload X980.here hx rfl (hb hby at_122) rfl ?_
    show Steps p.tables e below (T980.setTop (mkF m 124 #[.val (.int p1), .val (.int p2), .val (.int p3), .val (.long q4), .second, .val (.ref ww), .val (.int nn), .val (.int mu), .val (.int z0), .val (.int z1), .val (.int z2), .val (.int z3), .val (.int z4), .val (.int z5), .unset, .unset, .unset] [(.int z1), (.int z0), (.int nn)])) t
    refine XS.iload X980.here hx rfl (hb hby at_124) rfl ?_
    show Steps p.tables e below (T980.setTop (mkF m 126 #[.val (.int p1), .val (.int p2), .val (.int p3), .val (.long q4), .second, .val (.ref ww), .val (.int nn), .val (.int mu), .val (.int z0), .val (.int z1), .val (.int z2), .val (.int z3), .val (.int z4), .val (.int z5), .unset, .unset, .unset] [(.int z2), (.int z1), (.int z0), (.int nn)])) t
    refine XS.iload X980.here hx rfl (hb hby at_126) rfl ?_
    show Steps p.tables e below (T980.setTop (mkF m 128 #[.val (.int p1), .val (.int p2), .val (.int p3), .val (.long q4), .second, .val (.ref ww), .val (.int nn), .val (.int mu), .val (.int z0), .val (.int z1), .val (.int z2), .val (.int z3), .val (.int z4), .val (.int z5), .unset, .unset, .unset] [(.int z3), (.int z2), (.int z1), (.int z0), (.int nn)])) t
    refine XS.iload X980.here hx rfl (hb hby at_128) rfl ?_
    show Steps p.tables e below (T980.setTop (mkF m 130 #[.val (.int p1), .val (.int p2), .val (.int p3), .val (.long q4), .second, .val (.ref ww), .val (.int nn), .val (.int mu), .val (.int z0), .val (.int z1), .val (.int z2), .val (.int z3), .val (.int z4), .val (.int z5), .unset, .unset, .unset] [(.int z4), (.int z3), (.int z2), (.int z1), (.int z0), (.int nn)])) t
    refine XS.iload X980.here hx rfl (hb hby at_130) rfl ?_
    exact ht
  obtain ⟨_, _, ⟨T990, L990, c990, n990⟩, -, X990, hs990, hg990, ⟨Lc990, hQ990, l990, y990, z990, hR990⟩, st990⟩ := callSS (s := s.setVm vmj911) X980 hx (y := (⟨"com/example/lockstile/lockstile/namespace/AclEntryNamedPinLaw", "make", "(ICCCCCC)Ljava/lang/String;"⟩ : MethodName)) hownj911 (mvT hZj911 (hw _ (List.mem_of_getElem? (i := 51) rfl))) (mvT hZj911 (hw _ (List.mem_of_getElem? (i := 52) rfl))) (mvT hZj911 (hw _ (List.mem_of_getElem? (i := 2) rfl))) (mvT hZj911 (hw _ (List.mem_of_getElem? (i := 53) rfl))) (by decide) (own_backH (s := s) (vm0 := vmj911) (W := 0) (rmmk l Z a0 hw [] nn z0 z1 z2 z3 z4 z5 G1 T980.heap n0 f981 hEL S1 P5 f982 rz0 rz1 rz2 rz3 rz4 rz5) hZj911 (hw _ (List.mem_of_getElem? (i := 53) rfl)) (hw _ (List.mem_of_getElem? (i := 2) rfl)) (by decide) (by decide) hEL f987.1 all0) (g := (mkF m 132 #[.val (.int p1), .val (.int p2), .val (.int p3), .val (.long q4), .second, .val (.ref ww), .val (.int nn), .val (.int mu), .val (.int z0), .val (.int z1), .val (.int z2), .val (.int z3), .val (.int z4), .val (.int z5), .unset, .unset, .unset] [(.int z5), (.int z4), (.int z3), (.int z2), (.int z1), (.int z0), (.int nn)])) rfl (by rw [hml]; rfl) (argsL := [(.int nn), (.int z0), (.int z1), (.int z2), (.int z3), (.int z4), (.int z5)]) (rest := []) (lenOf pd_8 rfl) rfl (by show 2 * 0 + _ ≤ _; exact Nat.le_of_eq rfl) (hb hby at_132) (fun _ _ => ⟨rfl, rfl, (by decide : 2 + 6 ≤ _), (by decide : 24 + 16 ≤ _)⟩)
  dsimp only [Pt.U, Pt.locs, Pt.cells, Pt.slots] at X990 hs990 hg990 l990 y990 z990 st990 hQ990 hR990
  subst l990 y990 z990
  have hS990 : s.Since T990.vm T990.heap.size := foldS hSj911 (by exact f988) hs990 hg990
  have hZ990 : Z.Warmed39 (s.setVm T990.vm).vm := State.Warmed39.trans (t := s.setVm vmj911) hZj911 hs990.1
  have hown990 : (s.setVm T990.vm).vm.findClass "com/example/lockstile/lockstile/namespace/AclEntryNamedPinLaw" = some m.cls := by show T990.vm.findClass _ = _; rw [hs990.1.alike.findClass]; exact hownj911
  obtain ⟨tx, tt, kt, cs, rfl, Nq990, Kp990, uE', uC', uV', uK', ur', ul'⟩ := hQ990
  have N990 := Fr.app N980 Nq990
  have k990 : Kt p e below m (s₁.setTop (entryFrame m #[(.int p1), (.int p2), (.int p3), (.long q4)] maxLocals)) T990 135 #[.val (.int p1), .val (.int p2), .val (.int p3), .val (.long q4), .second, .val (.ref ww), .val (.int nn), .val (.int mu), .val (.int z0), .val (.int z1), .val (.int z2), .val (.int z3), .val (.int z4), .val (.int z5), .unset, .unset, .unset] [(.ref tx)] := fun t ht => k989 t (st990.trans ht)
  have f991 : n0 ≤ T990.heap.size := Nat.le_trans f981 Kp990.1
  have f992 : Old Z n0 T990.heap := f982.keep Kp990 all0
  have f993 : CHr Z consts_1 s.vm h0 T990.vm T990.heap := f987.trans hR990
  have f994 : kbj911 ≤ T990.heap.size := Nat.le_trans f988 Kp990.1
  have hk990 : T990.heap.size ≤ T990.heap.size := Nat.le_refl _
  have k995 : Kt p e below m (s₁.setTop (entryFrame m #[(.int p1), (.int p2), (.int p3), (.long q4)] maxLocals)) T990 139 #[.val (.int p1), .val (.int p2), .val (.int p3), .val (.long q4), .second, .val (.ref ww), .val (.int nn), .val (.int mu), .val (.int z0), .val (.int z1), .val (.int z2), .val (.int z3), .val (.int z4), .val (.int z5), .val (.ref tx), .unset, .unset] [(.ref tx)] := by
    intro t ht
    refine k990 t ?_
    show Steps p.tables e below (T990.setTop (mkF m 135 #[.val (.int p1), .val (.int p2), .val (.int p3), .val (.long q4), .second, .val (.ref ww), .val (.int nn), .val (.int mu), .val (.int z0), .val (.int z1), .val (.int z2), .val (.int z3), .val (.int z4), .val (.int z5), .unset, .unset, .unset] [(.ref tx)])) t
    refine XS.astore X990.here hx rfl (hb hby at_135) rfl rfl (l' := #[.val (.int p1), .val (.int p2), .val (.int p3), .val (.long q4), .second, .val (.ref ww), .val (.int nn), .val (.int mu), .val (.int z0), .val (.int z1), .val (.int z2), .val (.int z3), .val (.int z4), .val (.int z5), .val (.ref tx), .unset, .unset]) rfl ?_
    show Steps p.tables e below (T990.setTop (mkF m 137 #[.val (.int p1), .val (.int p2), .val (.int p3), .val (.long q4), .second, .val (.ref ww), .val (.int nn), .val (.int mu), .val (.int z0), .val (.int z1), .val (.int z2), .val (.int z3), .val (.int z4), .val (.int z5), .val (.ref tx), .unset, .unset] [])) t
    refine XS.aload X990.here hx rfl (hb hby at_137) rfl rfl ?_
    exact ht
  obtain ⟨_, _, ⟨T996, L996, c996, n996⟩, -, X996, hs996, hg996, ⟨Lc996, hQ996, l996, y996, z996, hR996⟩, st996⟩ := callSS (s := s.setVm T990.vm) X990 hx (y := (⟨"com/example/lockstile/lockstile/namespace/AclEntryNamedPinLaw", "expected", "(Ljava/lang/String;)Lcom/example/lockstile/lockstile/namespace/AclEntry$Tag;"⟩ : MethodName)) hown990 (mvT hZ990 (hw _ (List.mem_of_getElem? (i := 76) rfl))) (mvT hZ990 (hw _ (List.mem_of_getElem? (i := 77) rfl))) (mvT hZ990 (hw _ (List.mem_of_getElem? (i := 2) rfl))) (mvT hZ990 (hw _ (List.mem_of_getElem? (i := 78) rfl))) (by decide) (own_backH (s := s) (vm0 := T990.vm) (W := 0) (rmex l Z a0 hw [] tx tt kt cs G1 aU aG aM aO T990.heap n0 f991 hEL S1 P5 f992 SaU SaG SaM SaO uE' uC' uV' uK' ur' ul') hZ990 (hw _ (List.mem_of_getElem? (i := 78) rfl)) (hw _ (List.mem_of_getElem? (i := 2) rfl)) (by decide) (by decide) hEL f993.1 all0) (g := (mkF m 139 #[.val (.int p1), .val (.int p2), .val (.int p3), .val (.long q4), .second, .val (.ref ww), .val (.int nn), .val (.int mu), .val (.int z0), .val (.int z1), .val (.int z2), .val (.int z3), .val (.int z4), .val (.int z5), .val (.ref tx), .unset, .unset] [(.ref tx)])) rfl (by rw [hml]; rfl) (argsL := [(.ref tx)]) (rest := []) (lenOf pd_12 rfl) rfl (by show 2 * 0 + _ ≤ _; exact Nat.le_of_eq rfl) (hb hby at_139) (fun _ _ => ⟨rfl, rfl, (by decide : 8 + 8 ≤ _), (by decide : 40 + 88 ≤ _)⟩)
  dsimp only [Pt.U, Pt.locs, Pt.cells, Pt.slots] at X996 hs996 hg996 l996 y996 z996 st996 hQ996 hR996
  subst l996 y996 z996
  have hS996 : s.Since T996.vm T996.heap.size := foldS hS990 (by exact hk990) hs996 hg996
  have hZ996 : Z.Warmed39 (s.setVm T996.vm).vm := State.Warmed39.trans (t := s.setVm T990.vm) hZ990 hs996.1
  have hown996 : (s.setVm T996.vm).vm.findClass "com/example/lockstile/lockstile/namespace/AclEntryNamedPinLaw" = some m.cls := by show T996.vm.findClass _ = _; rw [hs996.1.alike.findClass]; exact hown990
  obtain ⟨rfl, Nq996, Kp996⟩ := hQ996
  have N996 := Fr.app N990 Nq996
  have k996 : Kt p e below m (s₁.setTop (entryFrame m #[(.int p1), (.int p2), (.int p3), (.long q4)] maxLocals)) T996 142 #[.val (.int p1), .val (.int p2), .val (.int p3), .val (.long q4), .second, .val (.ref ww), .val (.int nn), .val (.int mu), .val (.int z0), .val (.int z1), .val (.int z2), .val (.int z3), .val (.int z4), .val (.int z5), .val (.ref tx), .unset, .unset] [(own_tag cs aU aG aM aO)] := fun t ht => k995 t (st996.trans ht)
  have f997 : n0 ≤ T996.heap.size := Nat.le_trans f991 Kp996.1
  have f998 : Old Z n0 T996.heap := f992.keep Kp996 all0
  have f999 : CHr Z consts_1 s.vm h0 T996.vm T996.heap := f993.trans hR996
  have f1000 : T990.heap.size ≤ T996.heap.size := Nat.le_trans hk990 Kp996.1
  have f1001 : Exa Z T996.heap tx "java/lang/String" := uE'.keep Kp996
  have f1002 : Fld Z T996.heap tx "java/lang/String" "coder" "B" (.int (0 : Int32)) := uC'.keep Kp996 nin0
  have f1003 : Fld Z T996.heap tx "java/lang/String" "value" "[B" (.ref tt) := uV'.keep Kp996 nin0
  have f1004 : Arv Z T996.heap tt kt .byte (Int32.ofNat cs.length) (own_by cs) (.int (0 : Int32)) := uK'.keep Kp996 nin0
  have hk996 : T996.heap.size ≤ T996.heap.size := Nat.le_refl _
  obtain ⟨want, hwant, k1005⟩ : ∃ want : Value, want = (own_tag cs aU aG aM aO) ∧ Kt p e below m (s₁.setTop (entryFrame m #[(.int p1), (.int p2), (.int p3), (.long q4)] maxLocals)) T996 142 #[.val (.int p1), .val (.int p2), .val (.int p3), .val (.long q4), .second, .val (.ref ww), .val (.int nn), .val (.int mu), .val (.int z0), .val (.int z1), .val (.int z2), .val (.int z3), .val (.int z4), .val (.int z5), .val (.ref tx), .unset, .unset] [want] := ⟨_, rfl, k996⟩
  have hr_want : want.isRef = true := by rw [hwant]; exact own_tagR
  rcases ref_cases hr_want with hwn | ⟨wa, hwn⟩
  · rw [hwn] at k1005
    have k1006 : Kt p e below m (s₁.setTop (entryFrame m #[(.int p1), (.int p2), (.int p3), (.long q4)] maxLocals)) T996 146 #[.val (.int p1), .val (.int p2), .val (.int p3), .val (.long q4), .second, .val (.ref ww), .val (.int nn), .val (.int mu), .val (.int z0), .val (.int z1), .val (.int z2), .val (.int z3), .val (.int z4), .val (.int z5), .val (.ref tx), .val .null, .unset] [(.ref tx)] := by
      intro t ht
      refine k1005 t ?_
      show Steps p.tables e below (T996.setTop (mkF m 142 #[.val (.int p1), .val (.int p2), .val (.int p3), .val (.long q4), .second, .val (.ref ww), .val (.int nn), .val (.int mu), .val (.int z0), .val (.int z1), .val (.int z2), .val (.int z3), .val (.int z4), .val (.int z5), .val (.ref tx), .unset, .unset] [.null])) t
      refine XS.astore X996.here hx rfl (hb hby at_142) rfl rfl (l' := #[.val (.int p1), .val (.int p2), .val (.int p3), .val (.long q4), .second, .val (.ref ww), .val (.int nn), .val (.int mu), .val (.int z0), .val (.int z1), .val (.int z2), .val (.int z3), .val (.int z4), .val (.int z5), .val (.ref tx), .val .null, .unset]) rfl ?_
      show Steps p.tables e below (T996.setTop (mkF m 144 #[.val (.int p1), .val (.int p2), .val (.int p3), .val (.long q4), .second, .val (.ref ww), .val (.int nn), .val (.int mu), .val (.int z0), .val (.int z1), .val (.int z2), .val (.int z3), .val (.int z4), .val (.int z5), .val (.ref tx), .val .null, .unset] [])) t
      refine XS.aload X996.here hx rfl (hb hby at_144) rfl rfl ?_
      exact ht
    obtain ⟨_, _, ⟨T1007, L1007, c1007, n1007⟩, -, X1007, ⟨Lc1007, hQ1007, l1007, y1007, z1007⟩, st1007⟩ := Jvm.LawKit.callS X996 hx (y := (⟨"com/example/lockstile/lockstile/namespace/AclEntry$Tag", "named", "(Ljava/lang/String;)Lcom/example/lockstile/lockstile/namespace/AclEntry$Tag;"⟩ : MethodName)) hown996 (mvT hZ996 (hw _ (List.mem_of_getElem? (i := 91) rfl))) (mvT hZ996 (hw _ (List.mem_of_getElem? (i := 92) rfl))) (mvT hZ996 (hw _ (List.mem_of_getElem? (i := 93) rfl))) (mvT hZ996 (hw _ (List.mem_of_getElem? (i := 94) rfl))) (by decide) (backOf (W := 0) (rmnm l Z a0 hw [] tx tt kt cs G1 va kv aU aG aM aO yU tU kU yG tG kG yM tM kM yO tO kO T996.heap n0 f997 S1 P5 f998 SV (VV.ext f998.2) (EV.ext f998.2) (TaU.ext f998.2) (yUE.ext f998.2) (yUC.ext f998.2) (yUV.ext f998.2) (yUK.ext f998.2) (TaG.ext f998.2) (yGE.ext f998.2) (yGC.ext f998.2) (yGV.ext f998.2) (yGK.ext f998.2) (TaM.ext f998.2) (yME.ext f998.2) (yMC.ext f998.2) (yMV.ext f998.2) (yMK.ext f998.2) (TaO.ext f998.2) (yOE.ext f998.2) (yOC.ext f998.2) (yOV.ext f998.2) (yOK.ext f998.2) f1001 f1002 f1003 f1004 ur' ul') hZ996 (hw _ (List.mem_of_getElem? (i := 94) rfl)) (hw _ (List.mem_of_getElem? (i := 93) rfl)) (by decide) (by decide)) (g := (mkF m 146 #[.val (.int p1), .val (.int p2), .val (.int p3), .val (.long q4), .second, .val (.ref ww), .val (.int nn), .val (.int mu), .val (.int z0), .val (.int z1), .val (.int z2), .val (.int z3), .val (.int z4), .val (.int z5), .val (.ref tx), .val .null, .unset] [(.ref tx)])) rfl (by rw [hml]; rfl) (argsL := [(.ref tx)]) (rest := []) (lenOf pd_12 rfl) rfl (by show 2 * 0 + _ ≤ _; exact Nat.le_of_eq rfl) (hb hby at_146) (fun _ _ => ⟨rfl, rfl, (by decide : 16 + 1 ≤ _), (by decide : 128 + 4 ≤ _)⟩)
    dsimp only [Pt.U, Pt.locs, Pt.cells, Pt.slots] at X1007 l1007 y1007 z1007 st1007 hQ1007
    subst l1007 y1007 z1007
    obtain ⟨rfl, Nq1007, Kp1007⟩ := hQ1007
    have N1007 := Fr.app N996 Nq1007
    have k1007 : Kt p e below m (s₁.setTop (entryFrame m #[(.int p1), (.int p2), (.int p3), (.long q4)] maxLocals)) T1007 149 #[.val (.int p1), .val (.int p2), .val (.int p3), .val (.long q4), .second, .val (.ref ww), .val (.int nn), .val (.int mu), .val (.int z0), .val (.int z1), .val (.int z2), .val (.int z3), .val (.int z4), .val (.int z5), .val (.ref tx), .val .null, .unset] [(own_tag cs aU aG aM aO)] := fun t ht => k1006 t (st1007 t ht)
    have f1008 : n0 ≤ T1007.heap.size := Nat.le_trans f997 Kp1007.1
    have f1009 : Old Z n0 T1007.heap := f998.keep Kp1007 all0
    have f1010 : CHr Z consts_1 s.vm h0 T996.vm T1007.heap := f999.trans (CHr.keep Kp1007 sf0 f999.1)
    have f1011 : T996.heap.size ≤ T1007.heap.size := Nat.le_trans hk996 Kp1007.1
    have f1012 : Exa Z T1007.heap tx "java/lang/String" := f1001.keep Kp1007
    have f1013 : Fld Z T1007.heap tx "java/lang/String" "coder" "B" (.int (0 : Int32)) := f1002.keep Kp1007 nin0
    have f1014 : Fld Z T1007.heap tx "java/lang/String" "value" "[B" (.ref tt) := f1003.keep Kp1007 nin0
    have f1015 : Arv Z T1007.heap tt kt .byte (Int32.ofNat cs.length) (own_by cs) (.int (0 : Int32)) := f1004.keep Kp1007 nin0
    have hgot : (own_tag cs aU aG aM aO) = .null := hwant.symm.trans hwn
    rw [hgot] at k1007
    have k1016 : Kt p e below m (s₁.setTop (entryFrame m #[(.int p1), (.int p2), (.int p3), (.long q4)] maxLocals)) T1007 163 #[.val (.int p1), .val (.int p2), .val (.int p3), .val (.long q4), .second, .val (.ref ww), .val (.int nn), .val (.int mu), .val (.int z0), .val (.int z1), .val (.int z2), .val (.int z3), .val (.int z4), .val (.int z5), .val (.ref tx), .val .null, .val .null] [(.int (1 : Int32))] := by
      intro t ht
      refine k1007 t ?_
      show Steps p.tables e below (T1007.setTop (mkF m 149 #[.val (.int p1), .val (.int p2), .val (.int p3), .val (.long q4), .second, .val (.ref ww), .val (.int nn), .val (.int mu), .val (.int z0), .val (.int z1), .val (.int z2), .val (.int z3), .val (.int z4), .val (.int z5), .val (.ref tx), .val .null, .unset] [.null])) t
      refine XS.astore X1007.here hx rfl (hb hby at_149) rfl rfl (l' := #[.val (.int p1), .val (.int p2), .val (.int p3), .val (.long q4), .second, .val (.ref ww), .val (.int nn), .val (.int mu), .val (.int z0), .val (.int z1), .val (.int z2), .val (.int z3), .val (.int z4), .val (.int z5), .val (.ref tx), .val .null, .val .null]) rfl ?_
      show Steps p.tables e below (T1007.setTop (mkF m 151 #[.val (.int p1), .val (.int p2), .val (.int p3), .val (.long q4), .second, .val (.ref ww), .val (.int nn), .val (.int mu), .val (.int z0), .val (.int z1), .val (.int z2), .val (.int z3), .val (.int z4), .val (.int z5), .val (.ref tx), .val .null, .val .null] [])) t
      refine XS.aload X1007.here hx rfl (hb hby at_151) rfl rfl ?_
      show Steps p.tables e below (T1007.setTop (mkF m 153 #[.val (.int p1), .val (.int p2), .val (.int p3), .val (.long q4), .second, .val (.ref ww), .val (.int nn), .val (.int mu), .val (.int z0), .val (.int z1), .val (.int z2), .val (.int z3), .val (.int z4), .val (.int z5), .val (.ref tx), .val .null, .val .null] [.null])) t
      refine XS.aload X1007.here hx rfl (hb hby at_153) rfl rfl ?_
      show Steps p.tables e below (T1007.setTop (mkF m 155 #[.val (.int p1), .val (.int p2), .val (.int p3), .val (.long q4), .second, .val (.ref ww), .val (.int nn), .val (.int mu), .val (.int z0), .val (.int z1), .val (.int z2), .val (.int z3), .val (.int z4), .val (.int z5), .val (.ref tx), .val .null, .val .null] [.null, .null])) t
      refine Jvm.RoadKit.acmp (g := (mkF m 155 #[.val (.int p1), .val (.int p2), .val (.int p3), .val (.long q4), .second, .val (.ref ww), .val (.int nn), .val (.int mu), .val (.int z0), .val (.int z1), .val (.int z2), .val (.int z3), .val (.int z4), .val (.int z5), .val (.ref tx), .val .null, .val .null] [.null, .null])) X1007 hx rfl rfl rfl (pc0 := 155) (pc' := 158) (same := true) rfl (hb hby at_155) rfl (decide_eq_true rfl) (by decide) (by decide) ?_
      show Steps p.tables e below (T1007.setTop (mkF m 158 #[.val (.int p1), .val (.int p2), .val (.int p3), .val (.long q4), .second, .val (.ref ww), .val (.int nn), .val (.int mu), .val (.int z0), .val (.int z1), .val (.int z2), .val (.int z3), .val (.int z4), .val (.int z5), .val (.ref tx), .val .null, .val .null] [])) t
      refine XS.iconst X1007.here hx rfl (hb hby at_158) ?_
      show Steps p.tables e below (T1007.setTop (mkF m 159 #[.val (.int p1), .val (.int p2), .val (.int p3), .val (.long q4), .second, .val (.ref ww), .val (.int nn), .val (.int mu), .val (.int z0), .val (.int z1), .val (.int z2), .val (.int z3), .val (.int z4), .val (.int z5), .val (.ref tx), .val .null, .val .null] [(.int (1 : Int32))])) t
      refine XS.goto X1007.here hx rfl (pc0 := 159) (pc' := 163) rfl (hb hby at_159) (by decide) (by decide) ?_
      exact ht
    obtain ⟨fs, hr, hrun, hended, -, hW, hbk, hsame⟩ := Stand.leaveW (s := s) (vm₁ := T996.vm) X1007 (hS996) (by exact f1011) (v := some (.int (1 : Int32))) (fun h => by rw [Bd.returns] at h; cases h)
    refine ⟨_, _, k1016 _ ?_, hrun, hended, _, _, rfl, ?_, ?_, ⟨_, rfl⟩, hW, hbk, hsame.mono (by decide) (by decide)⟩
    · exact retN X1007 hx (t := .boolean) Bd.returns (by simp) (hb hby at_163) hr
    · show Q0 Z p1 p2 p3 q4 G1 G3 va kv aU aG aM aO yU tU kU yG tG kG yM tM kM yO tO kO h0 n0 _ T1007.heap _
      exact ⟨rfl, N1007⟩
    · show CHr Z consts_1 s.vm s.heap T1007.vm T1007.heap
      rw [hh]
      exact f1010.trans (CHv.at (s := s) (vm0 := T996.vm) X1007 hZ996 hEL f1010.1)
  · rw [hwn] at k1005
    have k1017 : Kt p e below m (s₁.setTop (entryFrame m #[(.int p1), (.int p2), (.int p3), (.long q4)] maxLocals)) T996 146 #[.val (.int p1), .val (.int p2), .val (.int p3), .val (.long q4), .second, .val (.ref ww), .val (.int nn), .val (.int mu), .val (.int z0), .val (.int z1), .val (.int z2), .val (.int z3), .val (.int z4), .val (.int z5), .val (.ref tx), .val (.ref wa), .unset] [(.ref tx)] := by
      intro t ht
      refine k1005 t ?_
      show Steps p.tables e below (T996.setTop (mkF m 142 #[.val (.int p1), .val (.int p2), .val (.int p3), .val (.long q4), .second, .val (.ref ww), .val (.int nn), .val (.int mu), .val (.int z0), .val (.int z1), .val (.int z2), .val (.int z3), .val (.int z4), .val (.int z5), .val (.ref tx), .unset, .unset] [(.ref wa)])) t
      refine XS.astore X996.here hx rfl (hb hby at_142) rfl rfl (l' := #[.val (.int p1), .val (.int p2), .val (.int p3), .val (.long q4), .second, .val (.ref ww), .val (.int nn), .val (.int mu), .val (.int z0), .val (.int z1), .val (.int z2), .val (.int z3), .val (.int z4), .val (.int z5), .val (.ref tx), .val (.ref wa), .unset]) rfl ?_
      show Steps p.tables e below (T996.setTop (mkF m 144 #[.val (.int p1), .val (.int p2), .val (.int p3), .val (.long q4), .second, .val (.ref ww), .val (.int nn), .val (.int mu), .val (.int z0), .val (.int z1), .val (.int z2), .val (.int z3), .val (.int z4), .val (.int z5), .val (.ref tx), .val (.ref wa), .unset] [])) t
      refine XS.aload X996.here hx rfl (hb hby at_144) rfl rfl ?_
      exact ht
    obtain ⟨_, _, ⟨T1018, L1018, c1018, n1018⟩, -, X1018, ⟨Lc1018, hQ1018, l1018, y1018, z1018⟩, st1018⟩ := Jvm.LawKit.callS X996 hx (y := (⟨"com/example/lockstile/lockstile/namespace/AclEntry$Tag", "named", "(Ljava/lang/String;)Lcom/example/lockstile/lockstile/namespace/AclEntry$Tag;"⟩ : MethodName)) hown996 (mvT hZ996 (hw _ (List.mem_of_getElem? (i := 91) rfl))) (mvT hZ996 (hw _ (List.mem_of_getElem? (i := 92) rfl))) (mvT hZ996 (hw _ (List.mem_of_getElem? (i := 93) rfl))) (mvT hZ996 (hw _ (List.mem_of_getElem? (i := 94) rfl))) (by decide) (backOf (W := 0) (rmnm l Z a0 hw [] tx tt kt cs G1 va kv aU aG aM aO yU tU kU yG tG kG yM tM kM yO tO kO T996.heap n0 f997 S1 P5 f998 SV (VV.ext f998.2) (EV.ext f998.2) (TaU.ext f998.2) (yUE.ext f998.2) (yUC.ext f998.2) (yUV.ext f998.2) (yUK.ext f998.2) (TaG.ext f998.2) (yGE.ext f998.2) (yGC.ext f998.2) (yGV.ext f998.2) (yGK.ext f998.2) (TaM.ext f998.2) (yME.ext f998.2) (yMC.ext f998.2) (yMV.ext f998.2) (yMK.ext f998.2) (TaO.ext f998.2) (yOE.ext f998.2) (yOC.ext f998.2) (yOV.ext f998.2) (yOK.ext f998.2) f1001 f1002 f1003 f1004 ur' ul') hZ996 (hw _ (List.mem_of_getElem? (i := 94) rfl)) (hw _ (List.mem_of_getElem? (i := 93) rfl)) (by decide) (by decide)) (g := (mkF m 146 #[.val (.int p1), .val (.int p2), .val (.int p3), .val (.long q4), .second, .val (.ref ww), .val (.int nn), .val (.int mu), .val (.int z0), .val (.int z1), .val (.int z2), .val (.int z3), .val (.int z4), .val (.int z5), .val (.ref tx), .val (.ref wa), .unset] [(.ref tx)])) rfl (by rw [hml]; rfl) (argsL := [(.ref tx)]) (rest := []) (lenOf pd_12 rfl) rfl (by show 2 * 0 + _ ≤ _; exact Nat.le_of_eq rfl) (hb hby at_146) (fun _ _ => ⟨rfl, rfl, (by decide : 16 + 1 ≤ _), (by decide : 128 + 4 ≤ _)⟩)
    dsimp only [Pt.U, Pt.locs, Pt.cells, Pt.slots] at X1018 l1018 y1018 z1018 st1018 hQ1018
    subst l1018 y1018 z1018
    obtain ⟨rfl, Nq1018, Kp1018⟩ := hQ1018
    have N1018 := Fr.app N996 Nq1018
    have k1018 : Kt p e below m (s₁.setTop (entryFrame m #[(.int p1), (.int p2), (.int p3), (.long q4)] maxLocals)) T1018 149 #[.val (.int p1), .val (.int p2), .val (.int p3), .val (.long q4), .second, .val (.ref ww), .val (.int nn), .val (.int mu), .val (.int z0), .val (.int z1), .val (.int z2), .val (.int z3), .val (.int z4), .val (.int z5), .val (.ref tx), .val (.ref wa), .unset] [(own_tag cs aU aG aM aO)] := fun t ht => k1017 t (st1018 t ht)
    have f1019 : n0 ≤ T1018.heap.size := Nat.le_trans f997 Kp1018.1
    have f1020 : Old Z n0 T1018.heap := f998.keep Kp1018 all0
    have f1021 : CHr Z consts_1 s.vm h0 T996.vm T1018.heap := f999.trans (CHr.keep Kp1018 sf0 f999.1)
    have f1022 : T996.heap.size ≤ T1018.heap.size := Nat.le_trans hk996 Kp1018.1
    have f1023 : Exa Z T1018.heap tx "java/lang/String" := f1001.keep Kp1018
    have f1024 : Fld Z T1018.heap tx "java/lang/String" "coder" "B" (.int (0 : Int32)) := f1002.keep Kp1018 nin0
    have f1025 : Fld Z T1018.heap tx "java/lang/String" "value" "[B" (.ref tt) := f1003.keep Kp1018 nin0
    have f1026 : Arv Z T1018.heap tt kt .byte (Int32.ofNat cs.length) (own_by cs) (.int (0 : Int32)) := f1004.keep Kp1018 nin0
    have hgot : (own_tag cs aU aG aM aO) = (.ref wa) := hwant.symm.trans hwn
    rw [hgot] at k1018
    have k1027 : Kt p e below m (s₁.setTop (entryFrame m #[(.int p1), (.int p2), (.int p3), (.long q4)] maxLocals)) T1018 163 #[.val (.int p1), .val (.int p2), .val (.int p3), .val (.long q4), .second, .val (.ref ww), .val (.int nn), .val (.int mu), .val (.int z0), .val (.int z1), .val (.int z2), .val (.int z3), .val (.int z4), .val (.int z5), .val (.ref tx), .val (.ref wa), .val (.ref wa)] [(.int (1 : Int32))] := by
      intro t ht
      refine k1018 t ?_
      show Steps p.tables e below (T1018.setTop (mkF m 149 #[.val (.int p1), .val (.int p2), .val (.int p3), .val (.long q4), .second, .val (.ref ww), .val (.int nn), .val (.int mu), .val (.int z0), .val (.int z1), .val (.int z2), .val (.int z3), .val (.int z4), .val (.int z5), .val (.ref tx), .val (.ref wa), .unset] [(.ref wa)])) t
      refine XS.astore X1018.here hx rfl (hb hby at_149) rfl rfl (l' := #[.val (.int p1), .val (.int p2), .val (.int p3), .val (.long q4), .second, .val (.ref ww), .val (.int nn), .val (.int mu), .val (.int z0), .val (.int z1), .val (.int z2), .val (.int z3), .val (.int z4), .val (.int z5), .val (.ref tx), .val (.ref wa), .val (.ref wa)]) rfl ?_
      show Steps p.tables e below (T1018.setTop (mkF m 151 #[.val (.int p1), .val (.int p2), .val (.int p3), .val (.long q4), .second, .val (.ref ww), .val (.int nn), .val (.int mu), .val (.int z0), .val (.int z1), .val (.int z2), .val (.int z3), .val (.int z4), .val (.int z5), .val (.ref tx), .val (.ref wa), .val (.ref wa)] [])) t
      refine XS.aload X1018.here hx rfl (hb hby at_151) rfl rfl ?_
      show Steps p.tables e below (T1018.setTop (mkF m 153 #[.val (.int p1), .val (.int p2), .val (.int p3), .val (.long q4), .second, .val (.ref ww), .val (.int nn), .val (.int mu), .val (.int z0), .val (.int z1), .val (.int z2), .val (.int z3), .val (.int z4), .val (.int z5), .val (.ref tx), .val (.ref wa), .val (.ref wa)] [(.ref wa)])) t
      refine XS.aload X1018.here hx rfl (hb hby at_153) rfl rfl ?_
      show Steps p.tables e below (T1018.setTop (mkF m 155 #[.val (.int p1), .val (.int p2), .val (.int p3), .val (.long q4), .second, .val (.ref ww), .val (.int nn), .val (.int mu), .val (.int z0), .val (.int z1), .val (.int z2), .val (.int z3), .val (.int z4), .val (.int z5), .val (.ref tx), .val (.ref wa), .val (.ref wa)] [(.ref wa), (.ref wa)])) t
      refine Jvm.RoadKit.acmp (g := (mkF m 155 #[.val (.int p1), .val (.int p2), .val (.int p3), .val (.long q4), .second, .val (.ref ww), .val (.int nn), .val (.int mu), .val (.int z0), .val (.int z1), .val (.int z2), .val (.int z3), .val (.int z4), .val (.int z5), .val (.ref tx), .val (.ref wa), .val (.ref wa)] [(.ref wa), (.ref wa)])) X1018 hx rfl rfl rfl (pc0 := 155) (pc' := 158) (same := true) rfl (hb hby at_155) rfl (decide_eq_true rfl) (by decide) (by decide) ?_
      show Steps p.tables e below (T1018.setTop (mkF m 158 #[.val (.int p1), .val (.int p2), .val (.int p3), .val (.long q4), .second, .val (.ref ww), .val (.int nn), .val (.int mu), .val (.int z0), .val (.int z1), .val (.int z2), .val (.int z3), .val (.int z4), .val (.int z5), .val (.ref tx), .val (.ref wa), .val (.ref wa)] [])) t
      refine XS.iconst X1018.here hx rfl (hb hby at_158) ?_
      show Steps p.tables e below (T1018.setTop (mkF m 159 #[.val (.int p1), .val (.int p2), .val (.int p3), .val (.long q4), .second, .val (.ref ww), .val (.int nn), .val (.int mu), .val (.int z0), .val (.int z1), .val (.int z2), .val (.int z3), .val (.int z4), .val (.int z5), .val (.ref tx), .val (.ref wa), .val (.ref wa)] [(.int (1 : Int32))])) t
      refine XS.goto X1018.here hx rfl (pc0 := 159) (pc' := 163) rfl (hb hby at_159) (by decide) (by decide) ?_
      exact ht
    obtain ⟨fs, hr, hrun, hended, -, hW, hbk, hsame⟩ := Stand.leaveW (s := s) (vm₁ := T996.vm) X1018 (hS996) (by exact f1022) (v := some (.int (1 : Int32))) (fun h => by rw [Bd.returns] at h; cases h)
    refine ⟨_, _, k1027 _ ?_, hrun, hended, _, _, rfl, ?_, ?_, ⟨_, rfl⟩, hW, hbk, hsame.mono (by decide) (by decide)⟩
    · exact retN X1018 hx (t := .boolean) Bd.returns (by simp) (hb hby at_163) hr
    · show Q0 Z p1 p2 p3 q4 G1 G3 va kv aU aG aM aO yU tU kU yG tG kG yM tM kM yO tO kO h0 n0 _ T1018.heap _
      exact ⟨rfl, N1018⟩
    · show CHr Z consts_1 s.vm s.heap T1018.vm T1018.heap
      rw [hh]
      exact f1021.trans (CHv.at (s := s) (vm0 := T996.vm) X1018 hZ996 hEL f1021.1)
set_option maxRecDepth 65536 in
set_option maxHeartbeats 40000000 in
theorem comes_1 {Post : Tables → Env → Array Value → State → Outcome → State → Prop} (hpost : ∀ tb e args s v u, (limb_1_1.after args s (.returned v) u = true ∧ limb_1_2.after args s (.returned v) u = true ∧ True) → ReturnedEndW s (.returned v) u (Jvm.fieldLocs frame_1_writes args s ++ Jvm.arrayLocs frame_1_arrays args s ++ Jvm.staticLocs frame_1_statics s) 32 5248 → Post tb e args s (.returned v) u) :
    ArmFor flags0 classFile x code maxLocals ret World_1 tables_1 room_1 Calls_1 rest_1 Pre_1 Post := by
  intro l hfl _ _ p e ha hc hk s m args below hf hA hF happ hP
  obtain ⟨hcalls, hrest, hpre⟩ := hP
  obtain ⟨-, -, -, hnamed, -, -, -, hat⟩ := (Spec.applies_iff hf).mp happ
  obtain ⟨hg, hn⟩ := and_e (Cond.before_iff.mp (show (Jvm.Cond.and given_1 narrow_1).before args s = true from hpre))
  obtain ⟨hcount, g0⟩ := and_e hg
  obtain ⟨ga0, g1⟩ := and_e g0
  obtain ⟨ga1, g2⟩ := and_e g1
  obtain ⟨ga2, g3⟩ := and_e g2
  obtain ⟨w0, w1, w2, w3, rfl⟩ : ∃ w0 w1 w2 w3 : Value, args = #[w0, w1, w2, w3] := by
    have hs : args.size = 4 := by simpa [Cond.value, given_1] using hcount
    obtain ⟨L⟩ := args
    match L, hs with
    | [w0, w1, w2, w3], _ => exact ⟨w0, w1, w2, w3, rfl⟩
  have hw := fun d (hd : d ∈ tables_1) => atoms_spec (ws := Jvm.Cond.code x code maxLocals ret :: tables_1) hat d (List.mem_cons_of_mem _ hd)
  have hfit : Fit s := fun {y c} hc i hi => by
    obtain ⟨ha, rfl⟩ := Array.getElem?_eq_some_iff.mp hc
    have q := List.all_eq_true.mp ((Array.all_eq_true_iff_forall_mem.mp hF) _ (Array.getElem_mem ha)) i (List.mem_range.mpr hi)
    simpa [Array.getElem?_eq_getElem hi] using q
  obtain ⟨i0, ei0⟩ := is_v ga0
  obtain rfl : w0 = (.int i0) := Option.some.inj ei0
  obtain ⟨i1, ei1⟩ := is_v ga1
  obtain rfl : w1 = (.int i1) := Option.some.inj ei1
  obtain ⟨i2, ei2⟩ := is_v ga2
  obtain rfl : w2 = (.int i2) := Option.some.inj ei2
  obtain ⟨i3, ei3⟩ := isL_v g3
  obtain rfl : w3 = (.long i3) := Option.some.inj ei3
  obtain ⟨hsets, hown0⟩ := atoms_of _ (rest_1_c_eq ▸ (show rest_1_c.before _ s = true from hrest))
  obtain ⟨G1, eG⟩ := is_v (Cond.before_iff.mp (hsets _ (List.mem_of_getElem? (i := 1) rfl)))
  have S1 : Sta s s.heap "java/lang/String" "COMPACT_STRINGS" "Z" (.int G1) := Sta.start eG (Or.inl (hsets _ (List.mem_of_getElem? (i := 0) rfl)))
  have P5 : ¬ (G1 = (0 : Int32)) := gotF (Cond.eq_ints eG (Term.int_eval (0))) (not_v (Cond.before_iff.mp (hsets _ (List.mem_of_getElem? (i := 2) rfl))))
  obtain ⟨G3, eG3, r3⟩ := isR_v (Cond.before_iff.mp (hsets _ (List.mem_of_getElem? (i := 8) rfl)))
  have S3 : Sta s s.heap "jdk/internal/util/Preconditions" "SIOOBE_FORMATTER" "Ljava/util/function/BiFunction;" G3 := Sta.start eG3 (Or.inl (hsets _ (List.mem_of_getElem? (i := 7) rfl)))
  have hEL : EW s _ consts_1 := (EW.cons (hw _ (List.mem_of_getElem? (i := 4) rfl)) (by decide +kernel) (EW.cons (hw _ (List.mem_of_getElem? (i := 88) rfl)) (by decide +kernel) (EW.cons (hw _ (List.mem_of_getElem? (i := 89) rfl)) (by decide +kernel) (EW.cons (hw _ (List.mem_of_getElem? (i := 90) rfl)) (by decide +kernel) (EW.cons (hw _ (List.mem_of_getElem? (i := 117) rfl)) (by decide +kernel) EW.nil)))))
  have hCV : CHv s consts_1 s.vm s.heap := CHv.start hEL (show ∀ p ∈ consts_1, Jvm.Lit.constHeld s p.1 p.2 from hcalls.1) (hsets _ (List.mem_of_getElem? (i := 2) rfl)) (hw _ (List.mem_of_getElem? (i := 7) rfl)) (hw _ (List.mem_of_getElem? (i := 6) rfl))
  have z0 := hn
  obtain ⟨c0, z1⟩ := and_e z0
  obtain ⟨c1, z2⟩ := and_e z1
  obtain ⟨c2, z3⟩ := and_e z2
  obtain ⟨c3, z4⟩ := and_e z3
  obtain ⟨c4, z5⟩ := and_e z4
  obtain ⟨c5, z6⟩ := and_e z5
  obtain ⟨c6, z7⟩ := and_e z6
  obtain ⟨c7, z8⟩ := and_e z7
  obtain ⟨c8, z9⟩ := and_e z8
  obtain ⟨c9, z10⟩ := and_e z9
  obtain ⟨c10, z11⟩ := and_e z10
  obtain ⟨c11, z12⟩ := and_e z11
  obtain ⟨c12, z13⟩ := and_e z12
  obtain ⟨c13, z14⟩ := and_e z13
  obtain ⟨c14, z15⟩ := and_e z14
  obtain ⟨c15, z16⟩ := and_e z15
  obtain ⟨c16, z17⟩ := and_e z16
  obtain ⟨c17, z18⟩ := and_e z17
  obtain ⟨c18, z19⟩ := and_e z18
  obtain ⟨c19, z20⟩ := and_e z19
  obtain ⟨c20, z21⟩ := and_e z20
  obtain ⟨c21, z22⟩ := and_e z21
  obtain ⟨c22, z23⟩ := and_e z22
  obtain ⟨c23, z24⟩ := and_e z23
  obtain ⟨c24, z25⟩ := and_e z24
  obtain ⟨c25, z26⟩ := and_e z25
  obtain ⟨c26, z27⟩ := and_e z26
  obtain ⟨c27, z28⟩ := and_e z27
  obtain ⟨c28, z29⟩ := and_e z28
  obtain ⟨c29, z30⟩ := and_e z29
  obtain ⟨c30, z31⟩ := and_e z30
  obtain ⟨c31, z32⟩ := and_e z31
  obtain ⟨c32, z33⟩ := and_e z32
  obtain ⟨c33, z34⟩ := and_e z33
  obtain ⟨c34, z35⟩ := and_e z34
  obtain ⟨c35, z36⟩ := and_e z35
  obtain ⟨c36, z37⟩ := and_e z36
  obtain ⟨c37, z38⟩ := and_e z37
  obtain ⟨c38, z39⟩ := and_e z38
  obtain ⟨c39, z40⟩ := and_e z39
  obtain ⟨c40, z41⟩ := and_e z40
  obtain ⟨c41, z42⟩ := and_e z41
  obtain ⟨c42, z43⟩ := and_e z42
  obtain ⟨c43, z44⟩ := and_e z43
  have c44 := z44
  obtain ⟨aU, eaU⟩ := exa_v c3
  have SaU : Sta s s.heap "com/example/lockstile/lockstile/namespace/AclEntry$Tag" "USER" "Lcom/example/lockstile/lockstile/namespace/AclEntry$Tag;" (.ref aU) := Sta.start eaU (Or.inr ⟨(hw _ (List.mem_of_getElem? (i := 93) rfl)), (hw _ (List.mem_of_getElem? (i := 107) rfl))⟩)
  obtain ⟨aG, eaG⟩ := exa_v c5
  have SaG : Sta s s.heap "com/example/lockstile/lockstile/namespace/AclEntry$Tag" "GROUP" "Lcom/example/lockstile/lockstile/namespace/AclEntry$Tag;" (.ref aG) := Sta.start eaG (Or.inr ⟨(hw _ (List.mem_of_getElem? (i := 93) rfl)), (hw _ (List.mem_of_getElem? (i := 108) rfl))⟩)
  obtain ⟨aM, eaM⟩ := exa_v c7
  have SaM : Sta s s.heap "com/example/lockstile/lockstile/namespace/AclEntry$Tag" "MASK" "Lcom/example/lockstile/lockstile/namespace/AclEntry$Tag;" (.ref aM) := Sta.start eaM (Or.inr ⟨(hw _ (List.mem_of_getElem? (i := 93) rfl)), (hw _ (List.mem_of_getElem? (i := 109) rfl))⟩)
  obtain ⟨aO, eaO⟩ := exa_v c9
  have SaO : Sta s s.heap "com/example/lockstile/lockstile/namespace/AclEntry$Tag" "OTHER" "Lcom/example/lockstile/lockstile/namespace/AclEntry$Tag;" (.ref aO) := Sta.start eaO (Or.inr ⟨(hw _ (List.mem_of_getElem? (i := 93) rfl)), (hw _ (List.mem_of_getElem? (i := 110) rfl))⟩)
  obtain ⟨va, eva⟩ := arr_v c0
  have SV : Sta s s.heap "com/example/lockstile/lockstile/namespace/AclEntry$Tag" "$VALUES" "[Lcom/example/lockstile/lockstile/namespace/AclEntry$Tag;" (.ref va) := Sta.start eva (Or.inl (hw _ (List.mem_of_getElem? (i := 111) rfl)))
  obtain ⟨cv, Av⟩ := Arr.start eva c0
  have EV : Exa s s.heap va "[Lcom/example/lockstile/lockstile/namespace/AclEntry$Tag;" := Exa.start eva c1
  obtain ⟨lv, zv⟩ := own_lenN eva (Av.fin (Vm.Alike.refl _)) c2
  have el0 : cv.slots[0]? = some (.ref aU) := (elem_in (own_eqR c4 eaU) eva (Term.int_eval _) Av.1).2
  have el1 : cv.slots[1]? = some (.ref aG) := (elem_in (own_eqR c6 eaG) eva (Term.int_eval _) Av.1).2
  have el2 : cv.slots[2]? = some (.ref aM) := (elem_in (own_eqR c8 eaM) eva (Term.int_eval _) Av.1).2
  have el3 : cv.slots[3]? = some (.ref aO) := (elem_in (own_eqR c10 eaO) eva (Term.int_eval _) Av.1).2
  have VV : Arv s s.heap va cv.cls (.object "com/example/lockstile/lockstile/namespace/AclEntry$Tag") (4 : Int32) [(.ref aU), (.ref aG), (.ref aM), (.ref aO)] .null := Arv.start hfit Av lv zv (by decide) rfl ⟨el0, el1, el2, el3, trivial⟩
  obtain ⟨yU, eyU⟩ := exa_v c11
  have TaU : Fld s s.heap aU "com/example/lockstile/lockstile/namespace/AclEntry$Tag" "text" "Ljava/lang/String;" (.ref yU) := Fld.start ((fld_at eaU).symm.trans eyU)
  have yUE : Exa s s.heap yU "java/lang/String" := Exa.start eyU c11
  have yUC : Fld s s.heap yU "java/lang/String" "coder" "B" (.int (0 : Int32)) := Fld.start ((fld_at eyU).symm.trans (own_eqI c12))
  obtain ⟨tU, etU⟩ := arr_v c13
  have yUV : Fld s s.heap yU "java/lang/String" "value" "[B" (.ref tU) := Fld.start ((fld_at eyU).symm.trans etU)
  obtain ⟨ctU, AtU⟩ := Arr.start etU c13
  obtain ⟨ltU, ztU⟩ := own_lenN etU (AtU.fin (Vm.Alike.refl _)) c14
  have btU0 : ctU.slots[0]? = some (.int (117 : Int32)) := (elem_in (own_eqI c27) etU (Term.int_eval _) AtU.1).2
  have btU1 : ctU.slots[1]? = some (.int (115 : Int32)) := (elem_in (own_eqI c29) etU (Term.int_eval _) AtU.1).2
  have btU2 : ctU.slots[2]? = some (.int (101 : Int32)) := (elem_in (own_eqI c30) etU (Term.int_eval _) AtU.1).2
  have btU3 : ctU.slots[3]? = some (.int (114 : Int32)) := (elem_in (own_eqI c31) etU (Term.int_eval _) AtU.1).2
  have yUK : Arv s s.heap tU ctU.cls .byte (Int32.ofNat own_user.length) (own_by own_user) (.int (0 : Int32)) := by rw [own_user_by]; exact Arv.start hfit AtU ltU ztU (by decide) (by decide) ⟨btU0, btU1, btU2, btU3, trivial⟩
  obtain ⟨yG, eyG⟩ := exa_v c15
  have TaG : Fld s s.heap aG "com/example/lockstile/lockstile/namespace/AclEntry$Tag" "text" "Ljava/lang/String;" (.ref yG) := Fld.start ((fld_at eaG).symm.trans eyG)
  have yGE : Exa s s.heap yG "java/lang/String" := Exa.start eyG c15
  have yGC : Fld s s.heap yG "java/lang/String" "coder" "B" (.int (0 : Int32)) := Fld.start ((fld_at eyG).symm.trans (own_eqI c16))
  obtain ⟨tG, etG⟩ := arr_v c17
  have yGV : Fld s s.heap yG "java/lang/String" "value" "[B" (.ref tG) := Fld.start ((fld_at eyG).symm.trans etG)
  obtain ⟨ctG, AtG⟩ := Arr.start etG c17
  obtain ⟨ltG, ztG⟩ := own_lenN etG (AtG.fin (Vm.Alike.refl _)) c18
  have btG0 : ctG.slots[0]? = some (.int (103 : Int32)) := (elem_in (own_eqI c35) etG (Term.int_eval _) AtG.1).2
  have btG1 : ctG.slots[1]? = some (.int (114 : Int32)) := (elem_in (own_eqI c36) etG (Term.int_eval _) AtG.1).2
  have btG2 : ctG.slots[2]? = some (.int (111 : Int32)) := (elem_in (own_eqI c37) etG (Term.int_eval _) AtG.1).2
  have btG3 : ctG.slots[3]? = some (.int (117 : Int32)) := (elem_in (own_eqI c38) etG (Term.int_eval _) AtG.1).2
  have btG4 : ctG.slots[4]? = some (.int (112 : Int32)) := (elem_in (own_eqI c39) etG (Term.int_eval _) AtG.1).2
  have yGK : Arv s s.heap tG ctG.cls .byte (Int32.ofNat own_group.length) (own_by own_group) (.int (0 : Int32)) := by rw [own_group_by]; exact Arv.start hfit AtG ltG ztG (by decide) (by decide) ⟨btG0, btG1, btG2, btG3, btG4, trivial⟩
  obtain ⟨yM, eyM⟩ := exa_v c19
  have TaM : Fld s s.heap aM "com/example/lockstile/lockstile/namespace/AclEntry$Tag" "text" "Ljava/lang/String;" (.ref yM) := Fld.start ((fld_at eaM).symm.trans eyM)
  have yME : Exa s s.heap yM "java/lang/String" := Exa.start eyM c19
  have yMC : Fld s s.heap yM "java/lang/String" "coder" "B" (.int (0 : Int32)) := Fld.start ((fld_at eyM).symm.trans (own_eqI c20))
  obtain ⟨tM, etM⟩ := arr_v c21
  have yMV : Fld s s.heap yM "java/lang/String" "value" "[B" (.ref tM) := Fld.start ((fld_at eyM).symm.trans etM)
  obtain ⟨ctM, AtM⟩ := Arr.start etM c21
  obtain ⟨ltM, ztM⟩ := own_lenN etM (AtM.fin (Vm.Alike.refl _)) c22
  have btM0 : ctM.slots[0]? = some (.int (109 : Int32)) := (elem_in (own_eqI c28) etM (Term.int_eval _) AtM.1).2
  have btM1 : ctM.slots[1]? = some (.int (97 : Int32)) := (elem_in (own_eqI c32) etM (Term.int_eval _) AtM.1).2
  have btM2 : ctM.slots[2]? = some (.int (115 : Int32)) := (elem_in (own_eqI c33) etM (Term.int_eval _) AtM.1).2
  have btM3 : ctM.slots[3]? = some (.int (107 : Int32)) := (elem_in (own_eqI c34) etM (Term.int_eval _) AtM.1).2
  have yMK : Arv s s.heap tM ctM.cls .byte (Int32.ofNat own_mask.length) (own_by own_mask) (.int (0 : Int32)) := by rw [own_mask_by]; exact Arv.start hfit AtM ltM ztM (by decide) (by decide) ⟨btM0, btM1, btM2, btM3, trivial⟩
  obtain ⟨yO, eyO⟩ := exa_v c23
  have TaO : Fld s s.heap aO "com/example/lockstile/lockstile/namespace/AclEntry$Tag" "text" "Ljava/lang/String;" (.ref yO) := Fld.start ((fld_at eaO).symm.trans eyO)
  have yOE : Exa s s.heap yO "java/lang/String" := Exa.start eyO c23
  have yOC : Fld s s.heap yO "java/lang/String" "coder" "B" (.int (0 : Int32)) := Fld.start ((fld_at eyO).symm.trans (own_eqI c24))
  obtain ⟨tO, etO⟩ := arr_v c25
  have yOV : Fld s s.heap yO "java/lang/String" "value" "[B" (.ref tO) := Fld.start ((fld_at eyO).symm.trans etO)
  obtain ⟨ctO, AtO⟩ := Arr.start etO c25
  obtain ⟨ltO, ztO⟩ := own_lenN etO (AtO.fin (Vm.Alike.refl _)) c26
  have btO0 : ctO.slots[0]? = some (.int (111 : Int32)) := (elem_in (own_eqI c40) etO (Term.int_eval _) AtO.1).2
  have btO1 : ctO.slots[1]? = some (.int (116 : Int32)) := (elem_in (own_eqI c41) etO (Term.int_eval _) AtO.1).2
  have btO2 : ctO.slots[2]? = some (.int (104 : Int32)) := (elem_in (own_eqI c42) etO (Term.int_eval _) AtO.1).2
  have btO3 : ctO.slots[3]? = some (.int (101 : Int32)) := (elem_in (own_eqI c43) etO (Term.int_eval _) AtO.1).2
  have btO4 : ctO.slots[4]? = some (.int (114 : Int32)) := (elem_in (own_eqI c44) etO (Term.int_eval _) AtO.1).2
  have yOK : Arv s s.heap tO ctO.cls .byte (Int32.ofNat own_other.length) (own_by own_other) (.int (0 : Int32)) := by rw [own_other_by]; exact Arv.start hfit AtO ltO ztO (by decide) (by decide) ⟨btO0, btO1, btO2, btO3, btO4, trivial⟩
  obtain ⟨n, o, h1, h2, h3, _, L, rfl, ⟨rfl, N⟩, -, hq⟩ := rm0 l s _ hw tables_1 i0 i1 i2 i3 G1 G3 va _ aU aG aM aO yU tU _ yG tG _ yM tM _ yO tO _ s.heap s.heap.size (Nat.le_refl _) hEL S1 P5 (Old.start s) S3 r3 SaU SaG SaM SaO SV VV EV TaU yUE yUC yUV yUK TaG yGE yGC yGV yGK TaM yME yMC yMV yMK TaO yOE yOC yOV yOK p e ha hc hk s m _ below hf ((Spec.applies_iff_loose hf).mp happ).1 ⟨rfl, State.Warmed39.refl s, rfl, hCV, all0⟩ trivial
  refine ⟨n, _, h1, h2, h3, hpost _ _ _ _ _ _ ⟨Cond.after_iff.mpr rfl, Cond.after_iff.mpr (eq_i res_at (Term.int_eval (1)) rfl), trivial⟩ ⟨hq.1, hq.2.1, hq.2.2.1, (hq.2.2.2.sift fun y hy => Or.inr (N y hy)).mono (by decide) (by decide)⟩⟩
theorem main_1_1 : Claimed_1_1 := comes_1 fun _ _ _ _ _ _ h hF => ⟨h.1, hF⟩
theorem main_1_2 : Claimed_1_2 := comes_1 fun _ _ _ _ _ _ h hF => ⟨h.2.1, hF⟩
end Jvm.Pilot.@@N@@
namespace Jvm.Pilot.@@N@@
open Jvm Jvm.ClassFile Sem Op Lib Jvm.Free Jvm.Stand Jvm.Pilot.@@N@@.Jvm.D
/-! MADE BY PROGRAM (witnessworld.py) out of the Statement's table words and the real class files: 22 classes; the members and pool entries that the words name. The judged class is class 1, her method 1. -/
namespace start1
open Jvm.ClassFile
def u (s : String) : CpInfo := .utf8 (stringToUtf16 s)
/-- a pool by its gaps: so many unusable entries, then the entry; so many at the end -/
def gap : Nat → List CpInfo → List CpInfo
  | 0, r => r
  | n + 1, r => .unusable :: gap n r
def poolList (es : List (Nat × CpInfo)) (last : Nat) : List CpInfo := es.foldr (fun e r => gap e.1 (e.2 :: r)) (gap last [])
def pool (es : List (Nat × CpInfo)) (last : Nat) : Array CpInfo := ⟨poolList es last⟩
def fileOf (pool : Array CpInfo) (this : Nat) (attrs : Array Attribute := #[]) (ms : Array MethodInfo := #[]) (fl : Nat := 33) (sup : Nat := 0) (ifs : Array Nat := #[]) (fds : Array FieldInfo := #[]) : ClassFile where
  minorVersion := 0
  majorVersion := 65
  constantPool := pool
  accessFlags := fl
  thisClass := this
  superClass := sup
  interfaces := ifs
  fields := fds
  methods := ms
  attributes := attrs
def plain (name : String) (sup : Option ClassId) : Class where
  name := name
  kind := .ordinary
  loader := none
  accessFlags := 33
  super := sup
  interfaces := #[]
  cf := none
  fields := #[]
  methods := #[]
  instanceTypes := #[]
  staticTypes := #[]
  resolved := #[]
  callSites := []
  init := .initialized
  statics := none
  mirror := none

def pool0 : Array CpInfo := pool [(5, u "<init>"), (0, u "()V"), (1, .class_ 10), (1, u "java/lang/Object"), (85, u "clone"), (0, u "()Ljava/lang/Object;")] 26

def k0c0 : Code := { maxStack := 0, maxLocals := 1, code := object_method_1_code, exceptionTable := #[], attributes := #[] }
def k0m0 : Method := { name := "<init>", desc := "()V", sig := { parameters := [], returnType := none }, accessFlags := 1, code := some k0c0 }
def k0m1 : Method := { name := "clone", desc := "()Ljava/lang/Object;", sig := { parameters := [], returnType := some (.object "java/lang/Object") }, accessFlags := 260, code := none }
/-- java/lang/Object -/
def k0 : Class := { plain "java/lang/Object" none with
  accessFlags := 33
  interfaces := #[]
  cf := some (fileOf pool0 8 #[] #[{ accessFlags := 1, nameIndex := 5, descriptorIndex := 6, attributes := #[] }, { accessFlags := 260, nameIndex := 96, descriptorIndex := 97, attributes := #[] }] 33 0 #[] #[])
  fields := #[]
  methods := #[k0m0, k0m1]
  instanceTypes := #[]
  staticTypes := #[]
  resolved := Array.replicate 124 none
  statics := none }

def pool1 : Array CpInfo := pool [(2, .class_ 4), (1, u "java/lang/Object"), (0, u "<init>"), (0, u "()V"), (0, .methodref 8 9), (0, .class_ 10), (0, .nameAndType 11 12), (0, u "com/example/lockstile/lockstile/namespace/AclEntryNamedPinLaw"), (0, u "word"), (0, u "(I)Ljava/lang/String;"), (0, .methodref 14 15), (0, .class_ 16), (0, .nameAndType 17 18), (0, u "java/lang/String"), (0, u "length"), (0, u "()I"), (0, .methodref 8 20), (0, .nameAndType 21 22), (0, u "pick"), (0, u "(Ljava/lang/String;IZIJ)C"), (0, .methodref 8 24), (0, .nameAndType 25 26), (0, u "make"), (0, u "(ICCCCCC)Ljava/lang/String;"), (0, .methodref 8 28), (0, .nameAndType 29 30), (0, u "expected"), (0, u "(Ljava/lang/String;)Lcom/example/lockstile/lockstile/namespace/AclEntry$Tag;"), (0, .methodref 32 33), (0, .class_ 34), (0, .nameAndType 35 30), (0, u "com/example/lockstile/lockstile/namespace/AclEntry$Tag"), (0, u "named"), (0, .string 37), (0, u "user"), (0, .string 39), (0, u "group"), (0, .string 41), (0, u "mask"), (0, .string 43), (0, u "other"), (0, .long 255), (1, .methodref 14 47), (0, .nameAndType 48 49), (0, u "charAt"), (0, u "(I)C"), (0, .methodref 14 51), (0, .nameAndType 5 52), (0, u "([C)V"), (0, .methodref 14 54), (0, .nameAndType 55 56), (0, u "equals"), (0, u "(Ljava/lang/Object;)Z"), (0, .fieldref 32 58), (0, .nameAndType 59 60), (0, u "USER"), (0, u "Lcom/example/lockstile/lockstile/namespace/AclEntry$Tag;"), (0, .fieldref 32 62), (0, .nameAndType 63 60), (0, u "GROUP"), (0, .fieldref 32 65), (0, .nameAndType 66 60), (0, u "MASK"), (0, .fieldref 32 68), (0, .nameAndType 69 60), (0, u "OTHER"), (2, u "law"), (0, u "(IIIJ)Z")] 7

def k1m0 : Method := { name := "<init>", desc := "()V", sig := { parameters := [], returnType := none }, accessFlags := 1, code := none }
def k1c1 : Code := { maxStack := 7, maxLocals := 17, code := code, exceptionTable := #[], attributes := #[] }
def k1m1 : Method := { name := "law", desc := "(IIIJ)Z", sig := { parameters := [.int, .int, .int, .long], returnType := some .boolean }, accessFlags := 9, code := some k1c1 }
def k1c2 : Code := { maxStack := 2, maxLocals := 1, code := method_3_code, exceptionTable := #[], attributes := #[] }
def k1m2 : Method := { name := "word", desc := "(I)Ljava/lang/String;", sig := { parameters := [.int], returnType := some (.object "java/lang/String") }, accessFlags := 10, code := some k1c2 }
def k1c3 : Code := { maxStack := 4, maxLocals := 7, code := method_4_code, exceptionTable := #[], attributes := #[] }
def k1m3 : Method := { name := "pick", desc := "(Ljava/lang/String;IZIJ)C", sig := { parameters := [(.object "java/lang/String"), .int, .boolean, .int, .long], returnType := some .char }, accessFlags := 10, code := some k1c3 }
def k1c4 : Code := { maxStack := 6, maxLocals := 7, code := method_5_code, exceptionTable := #[], attributes := #[] }
def k1m4 : Method := { name := "make", desc := "(ICCCCCC)Ljava/lang/String;", sig := { parameters := [.int, .char, .char, .char, .char, .char, .char], returnType := some (.object "java/lang/String") }, accessFlags := 10, code := some k1c4 }
def k1c5 : Code := { maxStack := 2, maxLocals := 1, code := method_6_code, exceptionTable := #[], attributes := #[] }
def k1m5 : Method := { name := "expected", desc := "(Ljava/lang/String;)Lcom/example/lockstile/lockstile/namespace/AclEntry$Tag;", sig := { parameters := [(.object "java/lang/String")], returnType := some (.object "com/example/lockstile/lockstile/namespace/AclEntry$Tag") }, accessFlags := 10, code := some k1c5 }
/-- com/example/lockstile/lockstile/namespace/AclEntryNamedPinLaw -/
def k1 : Class := { plain "com/example/lockstile/lockstile/namespace/AclEntryNamedPinLaw" (some 0) with
  accessFlags := 49
  interfaces := #[]
  cf := some (fileOf pool1 8 #[] #[{ accessFlags := 1, nameIndex := 5, descriptorIndex := 6, attributes := #[] }, { accessFlags := 9, nameIndex := 72, descriptorIndex := 73, attributes := #[] }, { accessFlags := 10, nameIndex := 11, descriptorIndex := 12, attributes := #[] }, { accessFlags := 10, nameIndex := 21, descriptorIndex := 22, attributes := #[] }, { accessFlags := 10, nameIndex := 25, descriptorIndex := 26, attributes := #[] }, { accessFlags := 10, nameIndex := 29, descriptorIndex := 30, attributes := #[] }] 49 2 #[] #[])
  fields := #[]
  methods := #[k1m0, k1m1, k1m2, k1m3, k1m4, k1m5]
  instanceTypes := #[]
  staticTypes := #[]
  resolved := Array.replicate 81 none
  statics := none }

def pool2 : Array CpInfo := pool [(1, .class_ 2), (0, u "java/io/Serializable"), (0, .class_ 4), (0, u "java/lang/Object")] 2

/-- java/io/Serializable -/
def k2 : Class := { plain "java/io/Serializable" (some 0) with
  accessFlags := 1537
  interfaces := #[]
  cf := some (fileOf pool2 1 #[] #[] 1537 3 #[] #[])
  fields := #[]
  methods := #[]
  instanceTypes := #[]
  staticTypes := #[]
  resolved := Array.replicate 7 none
  statics := none }

def pool3 : Array CpInfo := pool [(1, .class_ 2), (0, u "java/lang/Comparable"), (0, .class_ 4), (0, u "java/lang/Object")] 7

/-- java/lang/Comparable -/
def k3 : Class := { plain "java/lang/Comparable" (some 0) with
  accessFlags := 1537
  interfaces := #[]
  cf := some (fileOf pool3 1 #[] #[] 1537 3 #[] #[])
  fields := #[]
  methods := #[]
  instanceTypes := #[]
  staticTypes := #[]
  resolved := Array.replicate 12 none
  statics := none }

def pool4 : Array CpInfo := pool [(2, .class_ 4), (1, u "java/lang/CharSequence"), (42, .class_ 48), (0, u "java/lang/CharSequence$1CodePointIterator"), (10, .class_ 60), (0, u "java/lang/CharSequence$1CharIterator"), (5, .class_ 67), (0, u "java/lang/Object")] 63

/-- java/lang/CharSequence -/
def k4 : Class := { plain "java/lang/CharSequence" (some 0) with
  accessFlags := 1537
  interfaces := #[]
  cf := some (fileOf pool4 2 #[.nestMembers #[47, 59]] #[] 1537 66 #[] #[])
  fields := #[]
  methods := #[]
  instanceTypes := #[]
  staticTypes := #[]
  resolved := Array.replicate 131 none
  statics := none }

def pool5 : Array CpInfo := pool [(1, .class_ 2), (0, u "java/lang/constant/Constable"), (0, .class_ 4), (0, u "java/lang/Object")] 6

/-- java/lang/constant/Constable -/
def k5 : Class := { plain "java/lang/constant/Constable" (some 0) with
  accessFlags := 1537
  interfaces := #[]
  cf := some (fileOf pool5 1 #[] #[] 1537 3 #[] #[])
  fields := #[]
  methods := #[]
  instanceTypes := #[]
  staticTypes := #[]
  resolved := Array.replicate 11 none
  statics := none }

def pool6 : Array CpInfo := pool [(1, .class_ 2), (0, u "java/lang/constant/ConstantDesc"), (0, .class_ 4), (0, u "java/lang/Object")] 32

/-- java/lang/constant/ConstantDesc -/
def k6 : Class := { plain "java/lang/constant/ConstantDesc" (some 0) with
  accessFlags := 1537
  interfaces := #[]
  cf := some (fileOf pool6 1 #[] #[] 1537 3 #[] #[])
  fields := #[]
  methods := #[]
  instanceTypes := #[]
  staticTypes := #[]
  resolved := Array.replicate 37 none
  statics := none }

def pool7 : Array CpInfo := pool [(1, .methodref 2 3), (0, .class_ 4), (0, .nameAndType 5 6), (0, u "java/lang/Object"), (0, u "<init>"), (0, u "()V"), (0, .string 8), (0, u ""), (0, .fieldref 10 11), (0, .class_ 12), (0, .nameAndType 13 14), (0, u "java/lang/String"), (0, u "value"), (0, u "[B"), (0, .fieldref 10 16), (0, .nameAndType 17 18), (0, u "coder"), (0, u "B"), (2, u "hash"), (0, u "I"), (2, u "hashIsZero"), (0, u "Z"), (0, .methodref 10 28), (0, .nameAndType 5 29), (0, u "([CIILjava/lang/Void;)V"), (8, .fieldref 10 39), (0, .nameAndType 40 26), (0, u "COMPACT_STRINGS"), (1, .class_ 44), (1, u "java/lang/StringUTF16"), (0, u "compress"), (1, .methodref 42 48), (0, .nameAndType 49 50), (0, u "coderFromArrayLen"), (0, u "([BI)B"), (56, .class_ 109), (1, u "java/lang/StringLatin1"), (32, u "()Z"), (34, .methodref 42 178), (0, .nameAndType 45 179), (0, u "([CII)[B"), (154, u "()I"), (0, .methodref 10 336), (0, .nameAndType 17 337), (0, u "()B"), (25, u "([BI)C"), (27, u "(II)V"), (35, u "(I)C"), (64, .methodref 10 493), (0, .nameAndType 494 142), (0, u "isLatin1"), (0, .methodref 107 496), (0, .nameAndType 497 363), (0, u "charAt"), (3, u "checkIndex"), (5, u "length"), (33, .methodref 107 542), (0, .nameAndType 543 544), (0, u "equals"), (0, u "([B[B)Z"), (28, u "(Ljava/lang/Object;)Z"), (1, .class_ 576), (0, u "java/lang/CharSequence"), (22, u "CASE_INSENSITIVE_ORDER"), (0, u "Ljava/util/Comparator;"), (409, u "([C)V"), (42, .fieldref 1054 1055), (0, .class_ 1056), (0, .nameAndType 1057 1058), (0, u "jdk/internal/util/Preconditions"), (0, u "SIOOBE_FORMATTER"), (0, u "Ljava/util/function/BiFunction;"), (0, .methodref 1054 1060), (0, .nameAndType 501 1061), (0, u "(IILjava/util/function/BiFunction;)I"), (39, u "serialPersistentFields"), (0, u "[Ljava/io/ObjectStreamField;"), (0, .class_ 1104), (0, u "java/lang/String$CaseInsensitiveComparator"), (1, .class_ 1107), (0, u "java/io/Serializable"), (0, .class_ 1109), (0, u "java/lang/Comparable"), (0, .class_ 1111), (0, u "java/lang/constant/Constable"), (0, .class_ 1113), (0, u "java/lang/constant/ConstantDesc"), (2, u "serialVersionUID"), (0, u "J"), (3, u "REPL"), (0, u "C"), (2, u "LATIN1"), (1, u "UTF16")] 323

def k7m0 : Method := { name := "<init>", desc := "()V", sig := { parameters := [], returnType := none }, accessFlags := 1, code := none }
def k7c1 : Code := { maxStack := 5, maxLocals := 2, code := jdk_42_method_3_code, exceptionTable := #[], attributes := #[] }
def k7m1 : Method := { name := "<init>", desc := "([C)V", sig := { parameters := [(.array .char)], returnType := none }, accessFlags := 1, code := some k7c1 }
def k7c2 : Code := { maxStack := 2, maxLocals := 1, code := jdk_42_method_54_code, exceptionTable := #[], attributes := #[] }
def k7m2 : Method := { name := "length", desc := "()I", sig := { parameters := [], returnType := some .int }, accessFlags := 1, code := some k7c2 }
def k7c3 : Code := { maxStack := 2, maxLocals := 2, code := jdk_42_method_56_code, exceptionTable := #[], attributes := #[] }
def k7m3 : Method := { name := "charAt", desc := "(I)C", sig := { parameters := [.int], returnType := some .char }, accessFlags := 1, code := some k7c3 }
def k7c4 : Code := { maxStack := 2, maxLocals := 3, code := jdk_42_method_66_code, exceptionTable := #[], attributes := #[] }
def k7m4 : Method := { name := "equals", desc := "(Ljava/lang/Object;)Z", sig := { parameters := [(.object "java/lang/Object")], returnType := some .boolean }, accessFlags := 1, code := some k7c4 }
def k7c5 : Code := { maxStack := 4, maxLocals := 6, code := jdk_42_method_149_code, exceptionTable := #[], attributes := #[] }
def k7m5 : Method := { name := "<init>", desc := "([CIILjava/lang/Void;)V", sig := { parameters := [(.array .char), .int, .int, (.object "java/lang/Void")], returnType := none }, accessFlags := 2, code := some k7c5 }
def k7c6 : Code := { maxStack := 1, maxLocals := 1, code := jdk_42_method_152_code, exceptionTable := #[], attributes := #[] }
def k7m6 : Method := { name := "coder", desc := "()B", sig := { parameters := [], returnType := some .byte }, accessFlags := 0, code := some k7c6 }
def k7c7 : Code := { maxStack := 1, maxLocals := 1, code := jdk_42_method_154_code, exceptionTable := #[], attributes := #[] }
def k7m7 : Method := { name := "isLatin1", desc := "()Z", sig := { parameters := [], returnType := some .boolean }, accessFlags := 0, code := some k7c7 }
def k7c8 : Code := { maxStack := 3, maxLocals := 2, code := jdk_42_method_155_code, exceptionTable := #[], attributes := #[] }
def k7m8 : Method := { name := "checkIndex", desc := "(II)V", sig := { parameters := [.int, .int], returnType := none }, accessFlags := 8, code := some k7c8 }
/-- java/lang/String -/
def k7 : Class := { plain "java/lang/String" (some 0) with
  accessFlags := 49
  interfaces := #[2, 3, 4, 5, 6]
  cf := some (fileOf pool7 10 #[.nestMembers #[1103]] #[{ accessFlags := 1, nameIndex := 5, descriptorIndex := 6, attributes := #[] }, { accessFlags := 1, nameIndex := 5, descriptorIndex := 1010, attributes := #[] }, { accessFlags := 1, nameIndex := 507, descriptorIndex := 334, attributes := #[] }, { accessFlags := 1, nameIndex := 497, descriptorIndex := 427, attributes := #[] }, { accessFlags := 1, nameIndex := 543, descriptorIndex := 573, attributes := #[] }, { accessFlags := 2, nameIndex := 5, descriptorIndex := 29, attributes := #[] }, { accessFlags := 0, nameIndex := 17, descriptorIndex := 337, attributes := #[] }, { accessFlags := 0, nameIndex := 494, descriptorIndex := 142, attributes := #[] }, { accessFlags := 8, nameIndex := 501, descriptorIndex := 391, attributes := #[] }] 49 2 #[1106, 1108, 575, 1110, 1112] #[{ accessFlags := 18, nameIndex := 13, descriptorIndex := 14, attributes := #[] }, { accessFlags := 18, nameIndex := 17, descriptorIndex := 18, attributes := #[] }, { accessFlags := 2, nameIndex := 21, descriptorIndex := 22, attributes := #[] }, { accessFlags := 2, nameIndex := 25, descriptorIndex := 26, attributes := #[] }, { accessFlags := 26, nameIndex := 1116, descriptorIndex := 1117, attributes := #[] }, { accessFlags := 24, nameIndex := 40, descriptorIndex := 26, attributes := #[] }, { accessFlags := 26, nameIndex := 1101, descriptorIndex := 1102, attributes := #[] }, { accessFlags := 26, nameIndex := 1121, descriptorIndex := 1122, attributes := #[] }, { accessFlags := 25, nameIndex := 599, descriptorIndex := 600, attributes := #[] }, { accessFlags := 24, nameIndex := 1125, descriptorIndex := 18, attributes := #[] }, { accessFlags := 24, nameIndex := 1127, descriptorIndex := 18, attributes := #[] }])
  fields := #[{ name := "value", type := (.array .byte), accessFlags := 18, slot := 0, constantValue := 0 }, { name := "coder", type := .byte, accessFlags := 18, slot := 1, constantValue := 0 }, { name := "hash", type := .int, accessFlags := 2, slot := 2, constantValue := 0 }, { name := "hashIsZero", type := .boolean, accessFlags := 2, slot := 3, constantValue := 0 }, { name := "serialVersionUID", type := .long, accessFlags := 26, slot := 0, constantValue := 0 }, { name := "COMPACT_STRINGS", type := .boolean, accessFlags := 24, slot := 1, constantValue := 0 }, { name := "serialPersistentFields", type := (.array (.object "java/io/ObjectStreamField")), accessFlags := 26, slot := 2, constantValue := 0 }, { name := "REPL", type := .char, accessFlags := 26, slot := 3, constantValue := 0 }, { name := "CASE_INSENSITIVE_ORDER", type := (.object "java/util/Comparator"), accessFlags := 25, slot := 4, constantValue := 0 }, { name := "LATIN1", type := .byte, accessFlags := 24, slot := 5, constantValue := 0 }, { name := "UTF16", type := .byte, accessFlags := 24, slot := 6, constantValue := 0 }]
  methods := #[k7m0, k7m1, k7m2, k7m3, k7m4, k7m5, k7m6, k7m7, k7m8]
  instanceTypes := #[(.array .byte), .byte, .int, .boolean]
  staticTypes := #[.long, .boolean, (.array (.object "java/io/ObjectStreamField")), .char, (.object "java/util/Comparator"), .byte, .byte]
  resolved := Array.replicate 1451 none
  statics := some 0 }

def pool8 : Array CpInfo := pool [(1, .class_ 2), (0, u "java/lang/String"), (1, .class_ 6), (1, u "java/lang/Object"), (0, u "<init>"), (0, u "()V"), (0, .methodref 1 10), (0, .nameAndType 11 12), (0, u "checkIndex"), (0, u "(II)V"), (1, .class_ 16), (1, u "java/lang/StringLatin1"), (36, u "([BI)C"), (67, u "$assertionsDisabled"), (0, u "Z"), (98, .class_ 223), (1, u "java/lang/StringLatin1$LinesSpliterator"), (28, u "charAt"), (28, u "equals"), (0, u "([B[B)Z"), (107, .class_ 391), (0, u "java/lang/StringLatin1$CharsSpliterator")] 3

def k8m0 : Method := { name := "<init>", desc := "()V", sig := { parameters := [], returnType := none }, accessFlags := 0, code := none }
def k8c1 : Code := { maxStack := 2, maxLocals := 2, code := jdk_43_method_2_code, exceptionTable := #[], attributes := #[] }
def k8m1 : Method := { name := "charAt", desc := "([BI)C", sig := { parameters := [(.array .byte), .int], returnType := some .char }, accessFlags := 9, code := some k8c1 }
def k8c2 : Code := { maxStack := 3, maxLocals := 3, code := jdk_43_method_13_code, exceptionTable := #[], attributes := #[] }
def k8m2 : Method := { name := "equals", desc := "([B[B)Z", sig := { parameters := [(.array .byte), (.array .byte)], returnType := some .boolean }, accessFlags := 9, code := some k8c2 }
/-- java/lang/StringLatin1 -/
def k8 : Class := { plain "java/lang/StringLatin1" (some 0) with
  accessFlags := 48
  interfaces := #[]
  cf := some (fileOf pool8 14 #[.nestMembers #[390, 221]] #[{ accessFlags := 0, nameIndex := 7, descriptorIndex := 8, attributes := #[] }, { accessFlags := 9, nameIndex := 252, descriptorIndex := 53, attributes := #[] }, { accessFlags := 9, nameIndex := 281, descriptorIndex := 282, attributes := #[] }] 48 4 #[] #[{ accessFlags := 4120, nameIndex := 121, descriptorIndex := 122, attributes := #[] }])
  fields := #[{ name := "$assertionsDisabled", type := .boolean, accessFlags := 4120, slot := 0, constantValue := 0 }]
  methods := #[k8m0, k8m1, k8m2]
  instanceTypes := #[]
  staticTypes := #[.boolean]
  resolved := Array.replicate 395 none
  statics := none }

def pool9 : Array CpInfo := pool [(2, .class_ 4), (1, u "java/lang/Object"), (0, u "<init>"), (0, u "()V"), (17, .class_ 26), (1, u "jdk/internal/util/Preconditions"), (6, u "checkIndex"), (21, .class_ 56), (0, u "jdk/internal/util/Preconditions$4"), (57, .class_ 115), (0, u "jdk/internal/util/Preconditions$1"), (7, u "SIOOBE_FORMATTER"), (0, u "Ljava/util/function/BiFunction;"), (0, .class_ 126), (0, u "jdk/internal/util/Preconditions$2"), (3, u "AIOOBE_FORMATTER"), (0, .class_ 132), (0, u "jdk/internal/util/Preconditions$3"), (3, u "IOOBE_FORMATTER"), (41, u "(IILjava/util/function/BiFunction;)I")] 15

def k9m0 : Method := { name := "<init>", desc := "()V", sig := { parameters := [], returnType := none }, accessFlags := 1, code := none }
def k9c1 : Code := { maxStack := 3, maxLocals := 3, code := jdk_41_method_11_code, exceptionTable := #[], attributes := #[] }
def k9m1 : Method := { name := "checkIndex", desc := "(IILjava/util/function/BiFunction;)I", sig := { parameters := [.int, .int, (.object "java/util/function/BiFunction")], returnType := some .int }, accessFlags := 9, code := some k9c1 }
/-- jdk/internal/util/Preconditions -/
def k9 : Class := { plain "jdk/internal/util/Preconditions" (some 0) with
  accessFlags := 33
  interfaces := #[]
  cf := some (fileOf pool9 24 #[.nestMembers #[55, 131, 125, 114]] #[{ accessFlags := 1, nameIndex := 5, descriptorIndex := 6, attributes := #[] }, { accessFlags := 9, nameIndex := 33, descriptorIndex := 178, attributes := #[] }] 33 2 #[] #[{ accessFlags := 25, nameIndex := 123, descriptorIndex := 124, attributes := #[] }, { accessFlags := 25, nameIndex := 130, descriptorIndex := 124, attributes := #[] }, { accessFlags := 25, nameIndex := 136, descriptorIndex := 124, attributes := #[] }])
  fields := #[{ name := "SIOOBE_FORMATTER", type := (.object "java/util/function/BiFunction"), accessFlags := 25, slot := 0, constantValue := 0 }, { name := "AIOOBE_FORMATTER", type := (.object "java/util/function/BiFunction"), accessFlags := 25, slot := 1, constantValue := 0 }, { name := "IOOBE_FORMATTER", type := (.object "java/util/function/BiFunction"), accessFlags := 25, slot := 2, constantValue := 0 }]
  methods := #[k9m0, k9m1]
  instanceTypes := #[]
  staticTypes := #[(.object "java/util/function/BiFunction"), (.object "java/util/function/BiFunction"), (.object "java/util/function/BiFunction")]
  resolved := Array.replicate 194 none
  statics := some 1 }

def pool10 : Array CpInfo := pool [(6, .class_ 8), (1, u "java/lang/Object"), (0, u "<init>"), (0, u "()V"), (1, .class_ 14), (1, u "java/lang/StringUTF16"), (31, u "$assertionsDisabled"), (0, u "Z"), (13, u "HI_BYTE_SHIFT"), (0, u "I"), (2, u "LO_BYTE_SHIFT"), (49, .methodref 12 116), (0, .nameAndType 117 118), (0, u "compress"), (0, u "([CI[BII)I"), (3, u "([CII)[B"), (138, u "coderFromArrayLen"), (0, u "([BI)B"), (106, .class_ 371), (1, u "java/lang/StringUTF16$LinesSpliterator"), (58, u "MAX_LENGTH"), (196, .class_ 628), (0, u "java/lang/StringUTF16$CodePointsSpliterator"), (0, .class_ 630), (0, u "java/lang/StringUTF16$CharsSpliterator")] 4

def k10m0 : Method := { name := "<init>", desc := "()V", sig := { parameters := [], returnType := none }, accessFlags := 0, code := none }
def k10c1 : Code := { maxStack := 2, maxLocals := 2, code := jdk_52_method_15_code, exceptionTable := #[], attributes := #[] }
def k10m1 : Method := { name := "coderFromArrayLen", desc := "([BI)B", sig := { parameters := [(.array .byte), .int], returnType := some .byte }, accessFlags := 8, code := some k10c1 }
def k10c2 : Code := { maxStack := 5, maxLocals := 6, code := jdk_52_method_16_code, exceptionTable := #[], attributes := #[] }
def k10m2 : Method := { name := "compress", desc := "([CII)[B", sig := { parameters := [(.array .char), .int, .int], returnType := some (.array .byte) }, accessFlags := 9, code := some k10c2 }
def k10c3 : Code := { maxStack := 3, maxLocals := 7, code := jdk_52_method_21_code, exceptionTable := #[], attributes := #[] }
def k10m3 : Method := { name := "compress", desc := "([CI[BII)I", sig := { parameters := [(.array .char), .int, (.array .byte), .int, .int], returnType := some .int }, accessFlags := 9, code := some k10c3 }
/-- java/lang/StringUTF16 -/
def k10 : Class := { plain "java/lang/StringUTF16" (some 0) with
  accessFlags := 48
  interfaces := #[]
  cf := some (fileOf pool10 12 #[.nestMembers #[627, 629, 369]] #[{ accessFlags := 0, nameIndex := 9, descriptorIndex := 10, attributes := #[] }, { accessFlags := 8, nameIndex := 261, descriptorIndex := 262, attributes := #[] }, { accessFlags := 9, nameIndex := 117, descriptorIndex := 122, attributes := #[] }, { accessFlags := 9, nameIndex := 117, descriptorIndex := 118, attributes := #[] }] 48 6 #[] #[{ accessFlags := 26, nameIndex := 61, descriptorIndex := 62, attributes := #[] }, { accessFlags := 26, nameIndex := 65, descriptorIndex := 62, attributes := #[] }, { accessFlags := 24, nameIndex := 430, descriptorIndex := 62, attributes := #[] }, { accessFlags := 4120, nameIndex := 46, descriptorIndex := 47, attributes := #[] }])
  fields := #[{ name := "HI_BYTE_SHIFT", type := .int, accessFlags := 26, slot := 0, constantValue := 0 }, { name := "LO_BYTE_SHIFT", type := .int, accessFlags := 26, slot := 1, constantValue := 0 }, { name := "MAX_LENGTH", type := .int, accessFlags := 24, slot := 2, constantValue := 0 }, { name := "$assertionsDisabled", type := .boolean, accessFlags := 4120, slot := 3, constantValue := 0 }]
  methods := #[k10m0, k10m1, k10m2, k10m3]
  instanceTypes := #[]
  staticTypes := #[.int, .int, .int, .boolean]
  resolved := Array.replicate 635 none
  statics := none }

def pool11 : Array CpInfo := pool [(2, .class_ 4), (1, u "java/lang/Enum"), (0, u "name"), (0, u "Ljava/lang/String;"), (2, u "ordinal"), (0, u "I"), (1, .class_ 14), (1, u "java/lang/Object"), (4, u "hash"), (86, .class_ 108), (1, u "java/lang/Enum$EnumDesc"), (2, .class_ 112), (0, u "java/lang/constant/Constable"), (0, .class_ 114), (0, u "java/lang/Comparable"), (0, .class_ 116), (0, u "java/io/Serializable")] 87

/-- java/lang/Enum -/
def k11 : Class := { plain "java/lang/Enum" (some 0) with
  accessFlags := 1057
  interfaces := #[5, 3, 2]
  cf := some (fileOf pool11 2 #[.nestMembers #[106]] #[] 1057 12 #[111, 113, 115] #[{ accessFlags := 18, nameIndex := 5, descriptorIndex := 6, attributes := #[] }, { accessFlags := 18, nameIndex := 9, descriptorIndex := 10, attributes := #[] }, { accessFlags := 2, nameIndex := 19, descriptorIndex := 10, attributes := #[] }])
  fields := #[{ name := "name", type := (.object "java/lang/String"), accessFlags := 18, slot := 0, constantValue := 0 }, { name := "ordinal", type := .int, accessFlags := 18, slot := 1, constantValue := 0 }, { name := "hash", type := .int, accessFlags := 2, slot := 2, constantValue := 0 }]
  methods := #[]
  instanceTypes := #[(.object "java/lang/String"), .int, .int]
  staticTypes := #[]
  resolved := Array.replicate 204 none
  statics := none }

def pool12 : Array CpInfo := pool [(1, .class_ 2), (0, u "com/example/lockstile/lockstile/namespace/AclEntry$Tag"), (2, u "USER"), (0, u "Lcom/example/lockstile/lockstile/namespace/AclEntry$Tag;"), (2, u "GROUP"), (2, u "MASK"), (2, u "OTHER"), (0, .fieldref 1 17), (0, .nameAndType 18 19), (0, u "$VALUES"), (0, u "[Lcom/example/lockstile/lockstile/namespace/AclEntry$Tag;"), (0, .methodref 21 22), (0, .class_ 19), (0, .nameAndType 23 24), (0, u "clone"), (0, u "()Ljava/lang/Object;"), (1, .class_ 28), (1, u "java/lang/Enum"), (6, .fieldref 1 36), (0, .nameAndType 37 38), (0, u "text"), (0, u "Ljava/lang/String;"), (0, .methodref 1 40), (0, .nameAndType 41 42), (0, u "values"), (0, u "()[Lcom/example/lockstile/lockstile/namespace/AclEntry$Tag;"), (0, .methodref 44 45), (0, .class_ 46), (0, .nameAndType 47 48), (0, u "java/lang/String"), (0, u "equals"), (0, u "(Ljava/lang/Object;)Z"), (20, u "(Ljava/lang/String;)Lcom/example/lockstile/lockstile/namespace/AclEntry$Tag;"), (3, u "named"), (9, .class_ 84), (0, u "com/example/lockstile/lockstile/namespace/AclEntry")] 2

def k12c0 : Code := { maxStack := 1, maxLocals := 0, code := prog_10_method_1_code, exceptionTable := #[], attributes := #[] }
def k12m0 : Method := { name := "values", desc := "()[Lcom/example/lockstile/lockstile/namespace/AclEntry$Tag;", sig := { parameters := [], returnType := some (.array (.object "com/example/lockstile/lockstile/namespace/AclEntry$Tag")) }, accessFlags := 9, code := some k12c0 }
def k12c1 : Code := { maxStack := 2, maxLocals := 5, code := prog_10_method_4_code, exceptionTable := #[], attributes := #[] }
def k12m1 : Method := { name := "named", desc := "(Ljava/lang/String;)Lcom/example/lockstile/lockstile/namespace/AclEntry$Tag;", sig := { parameters := [(.object "java/lang/String")], returnType := some (.object "com/example/lockstile/lockstile/namespace/AclEntry$Tag") }, accessFlags := 8, code := some k12c1 }
/-- com/example/lockstile/lockstile/namespace/AclEntry$Tag -/
def k12 : Class := { plain "com/example/lockstile/lockstile/namespace/AclEntry$Tag" (some 11) with
  accessFlags := 16433
  interfaces := #[]
  cf := some (fileOf pool12 1 #[.nestHost 83] #[{ accessFlags := 9, nameIndex := 41, descriptorIndex := 42, attributes := #[] }, { accessFlags := 8, nameIndex := 73, descriptorIndex := 69, attributes := #[] }] 16433 26 #[] #[{ accessFlags := 16409, nameIndex := 5, descriptorIndex := 6, attributes := #[] }, { accessFlags := 16409, nameIndex := 9, descriptorIndex := 6, attributes := #[] }, { accessFlags := 16409, nameIndex := 12, descriptorIndex := 6, attributes := #[] }, { accessFlags := 16409, nameIndex := 15, descriptorIndex := 6, attributes := #[] }, { accessFlags := 18, nameIndex := 37, descriptorIndex := 38, attributes := #[] }, { accessFlags := 4122, nameIndex := 18, descriptorIndex := 19, attributes := #[] }])
  fields := #[{ name := "USER", type := (.object "com/example/lockstile/lockstile/namespace/AclEntry$Tag"), accessFlags := 16409, slot := 0, constantValue := 0 }, { name := "GROUP", type := (.object "com/example/lockstile/lockstile/namespace/AclEntry$Tag"), accessFlags := 16409, slot := 1, constantValue := 0 }, { name := "MASK", type := (.object "com/example/lockstile/lockstile/namespace/AclEntry$Tag"), accessFlags := 16409, slot := 2, constantValue := 0 }, { name := "OTHER", type := (.object "com/example/lockstile/lockstile/namespace/AclEntry$Tag"), accessFlags := 16409, slot := 3, constantValue := 0 }, { name := "text", type := (.object "java/lang/String"), accessFlags := 18, slot := 3, constantValue := 0 }, { name := "$VALUES", type := (.array (.object "com/example/lockstile/lockstile/namespace/AclEntry$Tag")), accessFlags := 4122, slot := 4, constantValue := 0 }]
  methods := #[k12m0, k12m1]
  instanceTypes := #[(.object "java/lang/String"), .int, .int, (.object "java/lang/String")]
  staticTypes := #[(.object "com/example/lockstile/lockstile/namespace/AclEntry$Tag"), (.object "com/example/lockstile/lockstile/namespace/AclEntry$Tag"), (.object "com/example/lockstile/lockstile/namespace/AclEntry$Tag"), (.object "com/example/lockstile/lockstile/namespace/AclEntry$Tag"), (.array (.object "com/example/lockstile/lockstile/namespace/AclEntry$Tag"))]
  resolved := Array.replicate 87 none
  statics := some 2 }

def pool13 : Array CpInfo := pool [(1, .class_ 2), (0, u "java/lang/Cloneable"), (0, .class_ 4), (0, u "java/lang/Object")] 2

/-- java/lang/Cloneable -/
def k13 : Class := { plain "java/lang/Cloneable" (some 0) with
  accessFlags := 1537
  interfaces := #[]
  cf := some (fileOf pool13 1 #[] #[] 1537 3 #[] #[])
  fields := #[]
  methods := #[]
  instanceTypes := #[]
  staticTypes := #[]
  resolved := Array.replicate 7 none
  statics := none }

def pool14 : Array CpInfo := pool [(9, u "<init>"), (6, .class_ 18), (1, u "java/lang/Object"), (0, u "()V"), (1, .class_ 23), (1, u "jdk/internal/util/ArraysSupport"), (0, u "LOG2_ARRAY_LONG_INDEX_SCALE"), (0, u "I"), (2, u "U"), (0, u "Ljdk/internal/misc/Unsafe;"), (8, u "BIG_ENDIAN"), (0, u "Z"), (8, u "LOG2_BYTE_BIT_SIZE"), (4, u "LOG2_ARRAY_INT_INDEX_SCALE"), (54, u "JLA"), (0, u "Ljdk/internal/access/JavaLangAccess;"), (11, u "LOG2_ARRAY_BOOLEAN_INDEX_SCALE"), (9, u "LOG2_ARRAY_BYTE_INDEX_SCALE"), (5, u "LOG2_ARRAY_CHAR_INDEX_SCALE"), (5, u "LOG2_ARRAY_SHORT_INDEX_SCALE"), (18, u "LOG2_ARRAY_FLOAT_INDEX_SCALE"), (24, u "LOG2_ARRAY_DOUBLE_INDEX_SCALE"), (89, u "T_BOOLEAN"), (2, u "T_CHAR"), (1, u "T_FLOAT"), (1, u "T_DOUBLE"), (1, u "T_BYTE"), (1, u "T_SHORT"), (1, u "T_INT"), (1, u "T_LONG"), (1, u "SOFT_MAX_ARRAY_LENGTH")] 83

def k14m0 : Method := { name := "<init>", desc := "()V", sig := { parameters := [], returnType := none }, accessFlags := 2, code := none }
/-- jdk/internal/util/ArraysSupport -/
def k14 : Class := { plain "jdk/internal/util/ArraysSupport" (some 0) with
  accessFlags := 33
  interfaces := #[]
  cf := some (fileOf pool14 21 #[] #[{ accessFlags := 2, nameIndex := 9, descriptorIndex := 19, attributes := #[] }] 33 16 #[] #[{ accessFlags := 24, nameIndex := 28, descriptorIndex := 29, attributes := #[] }, { accessFlags := 26, nameIndex := 38, descriptorIndex := 39, attributes := #[] }, { accessFlags := 25, nameIndex := 121, descriptorIndex := 25, attributes := #[] }, { accessFlags := 25, nameIndex := 131, descriptorIndex := 25, attributes := #[] }, { accessFlags := 25, nameIndex := 137, descriptorIndex := 25, attributes := #[] }, { accessFlags := 25, nameIndex := 143, descriptorIndex := 25, attributes := #[] }, { accessFlags := 25, nameIndex := 53, descriptorIndex := 25, attributes := #[] }, { accessFlags := 25, nameIndex := 24, descriptorIndex := 25, attributes := #[] }, { accessFlags := 25, nameIndex := 162, descriptorIndex := 25, attributes := #[] }, { accessFlags := 25, nameIndex := 187, descriptorIndex := 25, attributes := #[] }, { accessFlags := 26, nameIndex := 48, descriptorIndex := 25, attributes := #[] }, { accessFlags := 25, nameIndex := 277, descriptorIndex := 25, attributes := #[] }, { accessFlags := 25, nameIndex := 280, descriptorIndex := 25, attributes := #[] }, { accessFlags := 25, nameIndex := 282, descriptorIndex := 25, attributes := #[] }, { accessFlags := 25, nameIndex := 284, descriptorIndex := 25, attributes := #[] }, { accessFlags := 25, nameIndex := 286, descriptorIndex := 25, attributes := #[] }, { accessFlags := 25, nameIndex := 288, descriptorIndex := 25, attributes := #[] }, { accessFlags := 25, nameIndex := 290, descriptorIndex := 25, attributes := #[] }, { accessFlags := 25, nameIndex := 292, descriptorIndex := 25, attributes := #[] }, { accessFlags := 26, nameIndex := 108, descriptorIndex := 109, attributes := #[] }, { accessFlags := 25, nameIndex := 294, descriptorIndex := 25, attributes := #[] }])
  fields := #[{ name := "U", type := (.object "jdk/internal/misc/Unsafe"), accessFlags := 24, slot := 0, constantValue := 0 }, { name := "BIG_ENDIAN", type := .boolean, accessFlags := 26, slot := 1, constantValue := 0 }, { name := "LOG2_ARRAY_BOOLEAN_INDEX_SCALE", type := .int, accessFlags := 25, slot := 2, constantValue := 0 }, { name := "LOG2_ARRAY_BYTE_INDEX_SCALE", type := .int, accessFlags := 25, slot := 3, constantValue := 0 }, { name := "LOG2_ARRAY_CHAR_INDEX_SCALE", type := .int, accessFlags := 25, slot := 4, constantValue := 0 }, { name := "LOG2_ARRAY_SHORT_INDEX_SCALE", type := .int, accessFlags := 25, slot := 5, constantValue := 0 }, { name := "LOG2_ARRAY_INT_INDEX_SCALE", type := .int, accessFlags := 25, slot := 6, constantValue := 0 }, { name := "LOG2_ARRAY_LONG_INDEX_SCALE", type := .int, accessFlags := 25, slot := 7, constantValue := 0 }, { name := "LOG2_ARRAY_FLOAT_INDEX_SCALE", type := .int, accessFlags := 25, slot := 8, constantValue := 0 }, { name := "LOG2_ARRAY_DOUBLE_INDEX_SCALE", type := .int, accessFlags := 25, slot := 9, constantValue := 0 }, { name := "LOG2_BYTE_BIT_SIZE", type := .int, accessFlags := 26, slot := 10, constantValue := 0 }, { name := "T_BOOLEAN", type := .int, accessFlags := 25, slot := 11, constantValue := 0 }, { name := "T_CHAR", type := .int, accessFlags := 25, slot := 12, constantValue := 0 }, { name := "T_FLOAT", type := .int, accessFlags := 25, slot := 13, constantValue := 0 }, { name := "T_DOUBLE", type := .int, accessFlags := 25, slot := 14, constantValue := 0 }, { name := "T_BYTE", type := .int, accessFlags := 25, slot := 15, constantValue := 0 }, { name := "T_SHORT", type := .int, accessFlags := 25, slot := 16, constantValue := 0 }, { name := "T_INT", type := .int, accessFlags := 25, slot := 17, constantValue := 0 }, { name := "T_LONG", type := .int, accessFlags := 25, slot := 18, constantValue := 0 }, { name := "JLA", type := (.object "jdk/internal/access/JavaLangAccess"), accessFlags := 26, slot := 19, constantValue := 0 }, { name := "SOFT_MAX_ARRAY_LENGTH", type := .int, accessFlags := 25, slot := 20, constantValue := 0 }]
  methods := #[k14m0]
  instanceTypes := #[]
  staticTypes := #[(.object "jdk/internal/misc/Unsafe"), .boolean, .int, .int, .int, .int, .int, .int, .int, .int, .int, .int, .int, .int, .int, .int, .int, .int, .int, (.object "jdk/internal/access/JavaLangAccess"), .int]
  resolved := Array.replicate 378 none
  statics := none }

/-- the primitive byte -/
def k15 : Class := { plain "byte" none with kind := .primitive 'B', accessFlags := 0x411 }
/-- [B -/
def k16 : Class := { plain "[B" (some 0) with kind := .array 15 .byte, interfaces := #[13, 2], accessFlags := 1041 }

/-- the primitive char -/
def k17 : Class := { plain "char" none with kind := .primitive 'C', accessFlags := 0x411 }
/-- [C -/
def k18 : Class := { plain "[C" (some 0) with kind := .array 17 .char, interfaces := #[13, 2], accessFlags := 1041 }

/-- the primitive int -/
def k19 : Class := { plain "int" none with kind := .primitive 'I', accessFlags := 0x411 }
/-- [I -/
def k20 : Class := { plain "[I" (some 0) with kind := .array 19 .int, interfaces := #[13, 2], accessFlags := 1041 }

/-- [Lcom/example/lockstile/lockstile/namespace/AclEntry$Tag; -/
def k21 : Class := { plain "[Lcom/example/lockstile/lockstile/namespace/AclEntry$Tag;" (some 0) with kind := .array 12 (.object "com/example/lockstile/lockstile/namespace/AclEntry$Tag"), interfaces := #[13, 2], accessFlags := 1041 }

def heap : Heap := #[{ cls := 7, slots := #[.long 0, .int 1, .null, .int 0, .null, .int 0, .int 0], vm := .statics 7 },
  { cls := 9, slots := #[.null, .null, .null], vm := .statics 9 },
  { cls := 12, slots := #[.ref 4, .ref 5, .ref 6, .ref 7, .ref 3], vm := .statics 12 },
  { cls := 21, slots := #[.ref 4, .ref 5, .ref 6, .ref 7], vm := .none },
  { cls := 12, slots := #[.null, .int 0, .int 0, .ref 8], vm := .none },
  { cls := 12, slots := #[.null, .int 1, .int 0, .ref 9], vm := .none },
  { cls := 12, slots := #[.null, .int 2, .int 0, .ref 10], vm := .none },
  { cls := 12, slots := #[.null, .int 3, .int 0, .ref 11], vm := .none },
  { cls := 7, slots := #[.ref 12, .int 0, .int 0, .int 0], vm := .none },
  { cls := 7, slots := #[.ref 13, .int 0, .int 0, .int 0], vm := .none },
  { cls := 7, slots := #[.ref 14, .int 0, .int 0, .int 0], vm := .none },
  { cls := 7, slots := #[.ref 15, .int 0, .int 0, .int 0], vm := .none },
  { cls := 16, slots := #[.int 117, .int 115, .int 101, .int 114], vm := .none },
  { cls := 16, slots := #[.int 103, .int 114, .int 111, .int 117, .int 112], vm := .none },
  { cls := 16, slots := #[.int 109, .int 97, .int 115, .int 107], vm := .none },
  { cls := 16, slots := #[.int 111, .int 116, .int 104, .int 101, .int 114], vm := .none }]
def classes : Array Class := #[k0, k1, k2, k3, k4, k5, k6, k7, k8, k9, k10, k11, k12, k13, k14, k15, k16, k17, k18, k19, k20, k21]
def interned : List (Array UInt16 × Addr) := []
def slotsUsed : Nat := 69
def theMethod : MethodId := ⟨1, 1⟩
def args0 : Array Value := #[.int 5, .int 7, .int 1, .long 2]
def aboutOver (below : List Frame) : State where
  vm := { classes := classes, interned := interned.toArray }
  heap := heap
  slotsUsed := slotsUsed
  threads := #[{ frames := .invoking theMethod args0 :: below }]
def below0 : List Frame := [.native { method := ⟨0, 0⟩, args := #[] }]
def about1 : State := aboutOver below0
def p0 : Program := .bare "" "" ""
def e0 : Env := launch0.env 0 0 0
theorem w_frames : about1.frames = Frame.invoking theMethod args0 :: below0 := rfl
set_option maxRecDepth 65536 in
theorem w_args : argsFit about1.vm theMethod args0 = true := by decide +kernel
set_option maxRecDepth 65536 in
theorem w_heap : heapFits about1 = true := by decide +kernel
set_option maxRecDepth 65536 in
theorem w_runnable : about1.curStatus? = some .runnable := by decide +kernel
set_option maxRecDepth 65536 in
theorem w_alone : about1.alone = true := by decide +kernel
set_option maxRecDepth 65536 in
theorem w_named : about1.methodNamed? x = some theMethod := by decide +kernel
set_option maxRecDepth 65536 in
theorem w_hears : about1.hears theMethod below0 = true := by decide +kernel
set_option maxRecDepth 65536 in
theorem w_ripe : about1.ripe theMethod args0 below0 = true := by decide +kernel
theorem w_running : about1.status = .running := rfl
set_option maxRecDepth 65536 in
theorem w_room : about1.hasRoom e0.platform room_1 = true :=
  launch0.hasRoom_least _ room_1 (by decide +kernel) (by decide +kernel) (by decide +kernel) (by decide +kernel) (by decide +kernel) (by decide +kernel)
theorem allAtoms_all (ts : List Jvm.Cond) (a : Array Jvm.Value) (st : Jvm.State) : (allAtoms ts).before a st = ts.all (fun c => c.before a st) := by
  induction ts with
  | nil => rfl
  | cons c t ih =>
    show (Jvm.Cond.and c (allAtoms t)).before a st = _
    rw [Jvm.Cond.before_and, ih, List.all_cons]
def words1 : List Jvm.Cond := Jvm.Cond.code x code maxLocals ret :: tables_1
/-- a 'code' word, met by the world's own term for the bytes: nothing is compared byte by byte -/
theorem code_word {y : MethodName} {bytes : ByteArray} {mx : Nat} {rt : Option FieldType} {a : Array Value} {s : State} {m : MethodId} {meth : Method} {c : Code} (h1 : s.methodNamed? y = some m) (h2 : s.vm.method? m = some meth) (h3 : meth.code = some c) (h4 : c.code = bytes)
    (h5 : (c.maxLocals == mx && c.exceptionTable.isEmpty && decide (c.maxStack ≤ mostOperands) && decide (meth.sig.returnType = rt) && !meth.locks && decide (parseMethodDescriptor y.desc = some meth.sig)) = true) : (Jvm.Cond.code y bytes mx rt).before a s = true := by
  simp only [Bool.and_eq_true, beq_iff_eq, Bool.not_eq_true', decide_eq_true_eq] at h5
  obtain ⟨⟨⟨⟨⟨g1, g2⟩, g3⟩, g4⟩, g5⟩, g6⟩ := h5
  simp [Cond.before, Cond.holds, Cond.value, h1, h2, h3, h4, g1, g2, g3, g4, g5, g6]
def isCode : Jvm.Cond → Bool
  | .code _ _ _ _ => true
  | _ => false
theorem all_split {L : List Jvm.Cond} {P : Jvm.Cond → Bool} (h1 : L.all (fun c => isCode c || P c) = true) (h2 : ∀ c ∈ L.filter isCode, P c = true) : L.all P = true := by
  refine List.all_eq_true.mpr fun c hc => ?_
  have h := List.all_eq_true.mp h1 c hc
  rcases Bool.eq_false_or_eq_true (isCode c) with hi | hi
  · exact h2 c (List.mem_filter.mpr ⟨hc, hi⟩)
  · simpa [hi] using h
set_option maxRecDepth 65536 in
theorem w_c0 : (Jvm.Cond.code x code maxLocals ret).before args0 about1 = true := code_word (m := ⟨1, 1⟩) (meth := k1m1) (c := k1c1) (by decide +kernel) rfl rfl rfl (by decide +kernel)
set_option maxRecDepth 65536 in
theorem w_c1 : (Jvm.Cond.code ({ cls := "com/example/lockstile/lockstile/namespace/AclEntryNamedPinLaw", name := "word", desc := "(I)Ljava/lang/String;" } : Jvm.MethodName) method_3_code (1 : Nat) (Option.some (Jvm.ClassFile.FieldType.object "java/lang/String"))).before args0 about1 = true := code_word (m := ⟨1, 2⟩) (meth := k1m2) (c := k1c2) (by decide +kernel) rfl rfl rfl (by decide +kernel)
set_option maxRecDepth 65536 in
theorem w_c2 : (Jvm.Cond.code ({ cls := "com/example/lockstile/lockstile/namespace/AclEntryNamedPinLaw", name := "pick", desc := "(Ljava/lang/String;IZIJ)C" } : Jvm.MethodName) method_4_code (7 : Nat) (Option.some Jvm.ClassFile.FieldType.char)).before args0 about1 = true := code_word (m := ⟨1, 3⟩) (meth := k1m3) (c := k1c3) (by decide +kernel) rfl rfl rfl (by decide +kernel)
set_option maxRecDepth 65536 in
theorem w_c3 : (Jvm.Cond.code ({ cls := "java/lang/String", name := "length", desc := "()I" } : Jvm.MethodName) jdk_42_method_54_code (1 : Nat) (Option.some Jvm.ClassFile.FieldType.int)).before args0 about1 = true := code_word (m := ⟨7, 2⟩) (meth := k7m2) (c := k7c2) (by decide +kernel) rfl rfl rfl (by decide +kernel)
set_option maxRecDepth 65536 in
theorem w_c4 : (Jvm.Cond.code ({ cls := "java/lang/String", name := "coder", desc := "()B" } : Jvm.MethodName) jdk_42_method_152_code (1 : Nat) (Option.some Jvm.ClassFile.FieldType.byte)).before args0 about1 = true := code_word (m := ⟨7, 6⟩) (meth := k7m6) (c := k7c6) (by decide +kernel) rfl rfl rfl (by decide +kernel)
set_option maxRecDepth 65536 in
theorem w_c5 : (Jvm.Cond.code ({ cls := "java/lang/String", name := "charAt", desc := "(I)C" } : Jvm.MethodName) jdk_42_method_56_code (2 : Nat) (Option.some Jvm.ClassFile.FieldType.char)).before args0 about1 = true := code_word (m := ⟨7, 3⟩) (meth := k7m3) (c := k7c3) (by decide +kernel) rfl rfl rfl (by decide +kernel)
set_option maxRecDepth 65536 in
theorem w_c6 : (Jvm.Cond.code ({ cls := "java/lang/String", name := "isLatin1", desc := "()Z" } : Jvm.MethodName) jdk_42_method_154_code (1 : Nat) (Option.some Jvm.ClassFile.FieldType.boolean)).before args0 about1 = true := code_word (m := ⟨7, 7⟩) (meth := k7m7) (c := k7c7) (by decide +kernel) rfl rfl rfl (by decide +kernel)
set_option maxRecDepth 65536 in
theorem w_c7 : (Jvm.Cond.code ({ cls := "java/lang/StringLatin1", name := "charAt", desc := "([BI)C" } : Jvm.MethodName) jdk_43_method_2_code (2 : Nat) (Option.some Jvm.ClassFile.FieldType.char)).before args0 about1 = true := code_word (m := ⟨8, 1⟩) (meth := k8m1) (c := k8c1) (by decide +kernel) rfl rfl rfl (by decide +kernel)
set_option maxRecDepth 65536 in
theorem w_c8 : (Jvm.Cond.code ({ cls := "java/lang/String", name := "checkIndex", desc := "(II)V" } : Jvm.MethodName) jdk_42_method_155_code (2 : Nat) (Option.none : Option Jvm.ClassFile.FieldType)).before args0 about1 = true := code_word (m := ⟨7, 8⟩) (meth := k7m8) (c := k7c8) (by decide +kernel) rfl rfl rfl (by decide +kernel)
set_option maxRecDepth 65536 in
theorem w_c9 : (Jvm.Cond.code ({ cls := "jdk/internal/util/Preconditions", name := "checkIndex", desc := "(IILjava/util/function/BiFunction;)I" } : Jvm.MethodName) jdk_41_method_11_code (3 : Nat) (Option.some Jvm.ClassFile.FieldType.int)).before args0 about1 = true := code_word (m := ⟨9, 1⟩) (meth := k9m1) (c := k9c1) (by decide +kernel) rfl rfl rfl (by decide +kernel)
set_option maxRecDepth 65536 in
theorem w_c10 : (Jvm.Cond.code ({ cls := "com/example/lockstile/lockstile/namespace/AclEntryNamedPinLaw", name := "make", desc := "(ICCCCCC)Ljava/lang/String;" } : Jvm.MethodName) method_5_code (7 : Nat) (Option.some (Jvm.ClassFile.FieldType.object "java/lang/String"))).before args0 about1 = true := code_word (m := ⟨1, 4⟩) (meth := k1m4) (c := k1c4) (by decide +kernel) rfl rfl rfl (by decide +kernel)
set_option maxRecDepth 65536 in
theorem w_c11 : (Jvm.Cond.code ({ cls := "java/lang/String", name := "<init>", desc := "([C)V" } : Jvm.MethodName) jdk_42_method_3_code (2 : Nat) (Option.none : Option Jvm.ClassFile.FieldType)).before args0 about1 = true := code_word (m := ⟨7, 1⟩) (meth := k7m1) (c := k7c1) (by decide +kernel) rfl rfl rfl (by decide +kernel)
set_option maxRecDepth 65536 in
theorem w_c12 : (Jvm.Cond.code ({ cls := "java/lang/String", name := "<init>", desc := "([CIILjava/lang/Void;)V" } : Jvm.MethodName) jdk_42_method_149_code (6 : Nat) (Option.none : Option Jvm.ClassFile.FieldType)).before args0 about1 = true := code_word (m := ⟨7, 5⟩) (meth := k7m5) (c := k7c5) (by decide +kernel) rfl rfl rfl (by decide +kernel)
set_option maxRecDepth 65536 in
theorem w_c13 : (Jvm.Cond.code ({ cls := "java/lang/Object", name := "<init>", desc := "()V" } : Jvm.MethodName) object_method_1_code (1 : Nat) (Option.none : Option Jvm.ClassFile.FieldType)).before args0 about1 = true := code_word (m := ⟨0, 0⟩) (meth := k0m0) (c := k0c0) (by decide +kernel) rfl rfl rfl (by decide +kernel)
set_option maxRecDepth 65536 in
theorem w_c14 : (Jvm.Cond.code ({ cls := "java/lang/StringUTF16", name := "compress", desc := "([CII)[B" } : Jvm.MethodName) jdk_52_method_16_code (6 : Nat) (Option.some (Jvm.ClassFile.FieldType.array Jvm.ClassFile.FieldType.byte))).before args0 about1 = true := code_word (m := ⟨10, 2⟩) (meth := k10m2) (c := k10c2) (by decide +kernel) rfl rfl rfl (by decide +kernel)
set_option maxRecDepth 65536 in
theorem w_c15 : (Jvm.Cond.code ({ cls := "java/lang/StringUTF16", name := "compress", desc := "([CI[BII)I" } : Jvm.MethodName) jdk_52_method_21_code (7 : Nat) (Option.some Jvm.ClassFile.FieldType.int)).before args0 about1 = true := code_word (m := ⟨10, 3⟩) (meth := k10m3) (c := k10c3) (by decide +kernel) rfl rfl rfl (by decide +kernel)
set_option maxRecDepth 65536 in
theorem w_c16 : (Jvm.Cond.code ({ cls := "java/lang/StringUTF16", name := "coderFromArrayLen", desc := "([BI)B" } : Jvm.MethodName) jdk_52_method_15_code (2 : Nat) (Option.some Jvm.ClassFile.FieldType.byte)).before args0 about1 = true := code_word (m := ⟨10, 1⟩) (meth := k10m1) (c := k10c1) (by decide +kernel) rfl rfl rfl (by decide +kernel)
set_option maxRecDepth 65536 in
theorem w_c17 : (Jvm.Cond.code ({ cls := "com/example/lockstile/lockstile/namespace/AclEntryNamedPinLaw", name := "expected", desc := "(Ljava/lang/String;)Lcom/example/lockstile/lockstile/namespace/AclEntry$Tag;" } : Jvm.MethodName) method_6_code (1 : Nat) (Option.some (Jvm.ClassFile.FieldType.object "com/example/lockstile/lockstile/namespace/AclEntry$Tag"))).before args0 about1 = true := code_word (m := ⟨1, 5⟩) (meth := k1m5) (c := k1c5) (by decide +kernel) rfl rfl rfl (by decide +kernel)
set_option maxRecDepth 65536 in
theorem w_c18 : (Jvm.Cond.code ({ cls := "java/lang/String", name := "equals", desc := "(Ljava/lang/Object;)Z" } : Jvm.MethodName) jdk_42_method_66_code (3 : Nat) (Option.some Jvm.ClassFile.FieldType.boolean)).before args0 about1 = true := code_word (m := ⟨7, 4⟩) (meth := k7m4) (c := k7c4) (by decide +kernel) rfl rfl rfl (by decide +kernel)
set_option maxRecDepth 65536 in
theorem w_c19 : (Jvm.Cond.code ({ cls := "java/lang/StringLatin1", name := "equals", desc := "([B[B)Z" } : Jvm.MethodName) jdk_43_method_13_code (3 : Nat) (Option.some Jvm.ClassFile.FieldType.boolean)).before args0 about1 = true := code_word (m := ⟨8, 2⟩) (meth := k8m2) (c := k8c2) (by decide +kernel) rfl rfl rfl (by decide +kernel)
set_option maxRecDepth 65536 in
theorem w_c20 : (Jvm.Cond.code ({ cls := "com/example/lockstile/lockstile/namespace/AclEntry$Tag", name := "named", desc := "(Ljava/lang/String;)Lcom/example/lockstile/lockstile/namespace/AclEntry$Tag;" } : Jvm.MethodName) prog_10_method_4_code (5 : Nat) (Option.some (Jvm.ClassFile.FieldType.object "com/example/lockstile/lockstile/namespace/AclEntry$Tag"))).before args0 about1 = true := code_word (m := ⟨12, 1⟩) (meth := k12m1) (c := k12c1) (by decide +kernel) rfl rfl rfl (by decide +kernel)
set_option maxRecDepth 65536 in
theorem w_c21 : (Jvm.Cond.code ({ cls := "com/example/lockstile/lockstile/namespace/AclEntry$Tag", name := "values", desc := "()[Lcom/example/lockstile/lockstile/namespace/AclEntry$Tag;" } : Jvm.MethodName) prog_10_method_1_code (0 : Nat) (Option.some (Jvm.ClassFile.FieldType.array (Jvm.ClassFile.FieldType.object "com/example/lockstile/lockstile/namespace/AclEntry$Tag")))).before args0 about1 = true := code_word (m := ⟨12, 0⟩) (meth := k12m0) (c := k12c0) (by decide +kernel) rfl rfl rfl (by decide +kernel)
def codes1 : List Jvm.Cond := [Jvm.Cond.code x code maxLocals ret, Jvm.Cond.code ({ cls := "com/example/lockstile/lockstile/namespace/AclEntryNamedPinLaw", name := "word", desc := "(I)Ljava/lang/String;" } : Jvm.MethodName) method_3_code (1 : Nat) (Option.some (Jvm.ClassFile.FieldType.object "java/lang/String")), Jvm.Cond.code ({ cls := "com/example/lockstile/lockstile/namespace/AclEntryNamedPinLaw", name := "pick", desc := "(Ljava/lang/String;IZIJ)C" } : Jvm.MethodName) method_4_code (7 : Nat) (Option.some Jvm.ClassFile.FieldType.char), Jvm.Cond.code ({ cls := "java/lang/String", name := "length", desc := "()I" } : Jvm.MethodName) jdk_42_method_54_code (1 : Nat) (Option.some Jvm.ClassFile.FieldType.int), Jvm.Cond.code ({ cls := "java/lang/String", name := "coder", desc := "()B" } : Jvm.MethodName) jdk_42_method_152_code (1 : Nat) (Option.some Jvm.ClassFile.FieldType.byte), Jvm.Cond.code ({ cls := "java/lang/String", name := "charAt", desc := "(I)C" } : Jvm.MethodName) jdk_42_method_56_code (2 : Nat) (Option.some Jvm.ClassFile.FieldType.char), Jvm.Cond.code ({ cls := "java/lang/String", name := "isLatin1", desc := "()Z" } : Jvm.MethodName) jdk_42_method_154_code (1 : Nat) (Option.some Jvm.ClassFile.FieldType.boolean), Jvm.Cond.code ({ cls := "java/lang/StringLatin1", name := "charAt", desc := "([BI)C" } : Jvm.MethodName) jdk_43_method_2_code (2 : Nat) (Option.some Jvm.ClassFile.FieldType.char), Jvm.Cond.code ({ cls := "java/lang/String", name := "checkIndex", desc := "(II)V" } : Jvm.MethodName) jdk_42_method_155_code (2 : Nat) (Option.none : Option Jvm.ClassFile.FieldType), Jvm.Cond.code ({ cls := "jdk/internal/util/Preconditions", name := "checkIndex", desc := "(IILjava/util/function/BiFunction;)I" } : Jvm.MethodName) jdk_41_method_11_code (3 : Nat) (Option.some Jvm.ClassFile.FieldType.int), Jvm.Cond.code ({ cls := "com/example/lockstile/lockstile/namespace/AclEntryNamedPinLaw", name := "make", desc := "(ICCCCCC)Ljava/lang/String;" } : Jvm.MethodName) method_5_code (7 : Nat) (Option.some (Jvm.ClassFile.FieldType.object "java/lang/String")), Jvm.Cond.code ({ cls := "java/lang/String", name := "<init>", desc := "([C)V" } : Jvm.MethodName) jdk_42_method_3_code (2 : Nat) (Option.none : Option Jvm.ClassFile.FieldType), Jvm.Cond.code ({ cls := "java/lang/String", name := "<init>", desc := "([CIILjava/lang/Void;)V" } : Jvm.MethodName) jdk_42_method_149_code (6 : Nat) (Option.none : Option Jvm.ClassFile.FieldType), Jvm.Cond.code ({ cls := "java/lang/Object", name := "<init>", desc := "()V" } : Jvm.MethodName) object_method_1_code (1 : Nat) (Option.none : Option Jvm.ClassFile.FieldType), Jvm.Cond.code ({ cls := "java/lang/StringUTF16", name := "compress", desc := "([CII)[B" } : Jvm.MethodName) jdk_52_method_16_code (6 : Nat) (Option.some (Jvm.ClassFile.FieldType.array Jvm.ClassFile.FieldType.byte)), Jvm.Cond.code ({ cls := "java/lang/StringUTF16", name := "compress", desc := "([CI[BII)I" } : Jvm.MethodName) jdk_52_method_21_code (7 : Nat) (Option.some Jvm.ClassFile.FieldType.int), Jvm.Cond.code ({ cls := "java/lang/StringUTF16", name := "coderFromArrayLen", desc := "([BI)B" } : Jvm.MethodName) jdk_52_method_15_code (2 : Nat) (Option.some Jvm.ClassFile.FieldType.byte), Jvm.Cond.code ({ cls := "com/example/lockstile/lockstile/namespace/AclEntryNamedPinLaw", name := "expected", desc := "(Ljava/lang/String;)Lcom/example/lockstile/lockstile/namespace/AclEntry$Tag;" } : Jvm.MethodName) method_6_code (1 : Nat) (Option.some (Jvm.ClassFile.FieldType.object "com/example/lockstile/lockstile/namespace/AclEntry$Tag")), Jvm.Cond.code ({ cls := "java/lang/String", name := "equals", desc := "(Ljava/lang/Object;)Z" } : Jvm.MethodName) jdk_42_method_66_code (3 : Nat) (Option.some Jvm.ClassFile.FieldType.boolean), Jvm.Cond.code ({ cls := "java/lang/StringLatin1", name := "equals", desc := "([B[B)Z" } : Jvm.MethodName) jdk_43_method_13_code (3 : Nat) (Option.some Jvm.ClassFile.FieldType.boolean), Jvm.Cond.code ({ cls := "com/example/lockstile/lockstile/namespace/AclEntry$Tag", name := "named", desc := "(Ljava/lang/String;)Lcom/example/lockstile/lockstile/namespace/AclEntry$Tag;" } : Jvm.MethodName) prog_10_method_4_code (5 : Nat) (Option.some (Jvm.ClassFile.FieldType.object "com/example/lockstile/lockstile/namespace/AclEntry$Tag")), Jvm.Cond.code ({ cls := "com/example/lockstile/lockstile/namespace/AclEntry$Tag", name := "values", desc := "()[Lcom/example/lockstile/lockstile/namespace/AclEntry$Tag;" } : Jvm.MethodName) prog_10_method_1_code (0 : Nat) (Option.some (Jvm.ClassFile.FieldType.array (Jvm.ClassFile.FieldType.object "com/example/lockstile/lockstile/namespace/AclEntry$Tag")))]
set_option maxRecDepth 65536 in
theorem codes_eq : words1.filter isCode = codes1 := rfl
theorem w_codes : ∀ c ∈ words1.filter isCode, c.before args0 about1 = true := by
  rw [codes_eq]
  intro c hc
  simp only [codes1, List.mem_cons, List.not_mem_nil, or_false] at hc
  rcases hc with rfl | rfl | rfl | rfl | rfl | rfl | rfl | rfl | rfl | rfl | rfl | rfl | rfl | rfl | rfl | rfl | rfl | rfl | rfl | rfl | rfl | rfl
  · exact w_c0
  · exact w_c1
  · exact w_c2
  · exact w_c3
  · exact w_c4
  · exact w_c5
  · exact w_c6
  · exact w_c7
  · exact w_c8
  · exact w_c9
  · exact w_c10
  · exact w_c11
  · exact w_c12
  · exact w_c13
  · exact w_c14
  · exact w_c15
  · exact w_c16
  · exact w_c17
  · exact w_c18
  · exact w_c19
  · exact w_c20
  · exact w_c21
set_option maxRecDepth 65536 in
theorem w_t1 : (words1.take 24).all (fun c => isCode c || c.before args0 about1) = true := by decide +kernel
set_option maxRecDepth 65536 in
theorem w_t2 : ((words1.drop 24).take 24).all (fun c => isCode c || c.before args0 about1) = true := by decide +kernel
set_option maxRecDepth 65536 in
theorem w_t3 : (((words1.drop 24).drop 24).take 24).all (fun c => isCode c || c.before args0 about1) = true := by decide +kernel
set_option maxRecDepth 65536 in
theorem w_t4 : ((((words1.drop 24).drop 24).drop 24).take 24).all (fun c => isCode c || c.before args0 about1) = true := by decide +kernel
set_option maxRecDepth 65536 in
theorem w_t5 : (((((words1.drop 24).drop 24).drop 24).drop 24).take 24).all (fun c => isCode c || c.before args0 about1) = true := by decide +kernel
set_option maxRecDepth 65536 in
theorem w_t6 : (((((words1.drop 24).drop 24).drop 24).drop 24).drop 24).all (fun c => isCode c || c.before args0 about1) = true := by decide +kernel
theorem w_tables : (allAtoms (Jvm.Cond.code x code maxLocals ret :: tables_1)).before args0 about1 = true := by
  rw [allAtoms_all]
  show words1.all (fun c => c.before args0 about1) = true
  refine all_split ?_ w_codes
  rw [← List.take_append_drop 24 words1, List.all_append, w_t1, ← List.take_append_drop 24 (words1.drop 24), List.all_append, w_t2, ← List.take_append_drop 24 ((words1.drop 24).drop 24), List.all_append, w_t3, ← List.take_append_drop 24 (((words1.drop 24).drop 24).drop 24), List.all_append, w_t4, ← List.take_append_drop 24 ((((words1.drop 24).drop 24).drop 24).drop 24), List.all_append, w_t5, w_t6]
  rfl
set_option maxRecDepth 65536 in
theorem w_rest : rest_1_c.before args0 about1 = true := by decide +kernel
set_option maxRecDepth 65536 in
theorem w_case : (Jvm.Cond.and given_1 narrow_1).before args0 about1 = true := by decide +kernel
set_option maxRecDepth 65536 in
theorem w_consts : constsHeld consts_1 about1 := Jvm.Lit.constsHeldB_iff.mp (by decide +kernel)
theorem w_applies : (headSpec (Jvm.Cond.code x code maxLocals ret :: tables_1) room_1).applies x e0.platform about1 = true :=
  (Spec.applies_iff w_frames).mpr ⟨w_running, w_runnable, w_alone, w_named, w_hears, w_ripe, w_room, w_tables⟩
theorem atStart : AtStart classFile x code maxLocals ret World_1 tables_1 room_1 Calls_1 rest_1 Pre_1 launch0 p0 e0 about1 theMethod args0 below0 :=
  ⟨lists_1, trivial, launch0.admits_env _ _ _, launch0.least_env, fairChoices_fair.cas, fairChoices_fair.clock, w_frames, w_args, w_heap, w_applies, ⟨w_consts, trivial⟩, w_rest, w_case⟩
end start1
theorem witness_1 : WitnessClaimed_1 := ⟨start1.p0, start1.e0, start1.about1, start1.theMethod, start1.args0, start1.below0, start1.atStart⟩
end Jvm.Pilot.@@N@@
