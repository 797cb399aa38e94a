import JvmDerived
import JvmDerived.Pilot.@@N@@Statement
import JvmDerived.Pilot.@@N@@Code
set_option linter.unusedVariables false
set_option linter.unusedSimpArgs false
namespace Jvm.RoadKit
open Sem ClassFile Op Lib Jvm.Stand Jvm.Free Jvm.LawKit
section New
variable {p : Program} {l : Launch} {e : Env} {R : Room} {s : State} {m : MethodId} {args : Array Value} {below : List Frame} {meth : Method} {c : Code} {T : State} {locs : List Loc} {cells slots : Nat}
theorem retI (X : Stand p l e R s m args below meth c T locs cells slots) (hx : p.tables.exec = Jvm.exec) {pc : Nat} {Ls : Array Slot} {z : Int32} {rest : List Value} (hret : meth.sig.returnType = some .int) (hd : decode c.code pc = .ok (.ireturn, 1)) {fs : List Frame}
    (hl : ∀ (f : JFrame) (acts : List Action), f.method = m → f.locked = none → f.entered = [] → (doReturn e (T.setTop f) acts (some (.int z))).1 = T.setFrames fs) : Steps p.tables e below (T.setTop (mkF m pc Ls (.int z :: rest))) (T.setFrames fs) := by
  have hm' : T.vm.method? m = some meth := X.method'
  have hn : narrow .int (.int z) = .int z := rfl
  show Steps p.tables e below (T.setTop { method := m, pc := pc, locals := Ls, stack := _ :: rest, locked := none }) _
  jvm_step X.here [X.here.top, hx, hd, hm', hret, hn]
  first | (intro acts; rw [hl _ acts rfl rfl rfl]) | rw [hl _ _ rfl rfl rfl]
  exact Steps.refl _
end New
end Jvm.RoadKit
/- laws to paste: Road.backV, codOf (cut by pick.py; bodies as the Statement names them) -/
namespace Jvm.Pilot.@@N@@
namespace StrChars
open Jvm Sem ClassFile Op Lib Jvm.Stand Jvm.Free.XT Jvm.Free.ALB Jvm.Free.JM Jvm.Free
open Jvm.Lib.Cold (StaticIs)
/-- a char array whose places are chars -/
def Ch (a : Addr) (A : Cell) (U : State) : Prop := Arr .char a A U ∧ Typed .char A
theorem Ch.mv {a : Addr} {A : Cell} {U U' : State} (h : Ch a A U) (hal : U.vm.Alike U'.vm) (hh : U'.heap = U.heap) : Ch a A U' := ⟨h.1.mv hal hh, h.2⟩
theorem Ch.keep {a : Addr} {A : Cell} {U U' : State} (h : Ch a A U) (hal : U.vm.Alike U'.vm) (hk : U'.heap[a]? = some A) : Ch a A U' := ⟨h.1.keep hal hk, h.2⟩
/-- what place i of a char[]'s cell holds -/
def cv (A : Cell) (i : Nat) : Int32 := match A.slots[i]? with | some (.int x) => x | _ => 0
theorem Ch.get {a : Addr} {A : Cell} {U : State} (h : Ch a A U) {i : Nat} (hi : i < A.slots.size) : A.slots[i]? = some (.int (cv A i)) := by
  have e := Array.getElem?_eq_getElem hi
  have f := h.2 i _ e
  unfold cv; rw [e]
  generalize A.slots[i] = v at f
  cases v <;> simp [fits] at f ⊢
/-- the byte that i2b leaves of a char -/
def lo8 (x : Int32) : Int32 := x.toInt8.toInt32
theorem fits_lo8 (y : Int32) : fits .byte (.int (lo8 y)) = true := by
  have h1 := y.toInt8.le_toInt
  have h2 := y.toInt8.toInt_lt
  simp only [lo8, fits, Bool.and_eq_true, decide_eq_true_eq, Int32.le_iff_toInt_le, Int8.toInt_toInt32, show (-128 : Int32).toInt = -128 from by decide, show (127 : Int32).toInt = 127 from by decide]
  omega
/-- A' is A but that each place j of lo .. hi - 1 holds f j -/
def Laid (A A' : Cell) (lo hi : Nat) (f : Nat → Value) : Prop := A'.cls = A.cls ∧ A'.vm = A.vm ∧ A'.slots.size = A.slots.size ∧ ∀ i, A'.slots[i]? = if lo ≤ i ∧ i < hi then some (f i) else A.slots[i]?
theorem Laid.zero (A : Cell) (lo : Nat) (f : Nat → Value) : Laid A A lo (lo + 0) f := ⟨rfl, rfl, rfl, fun i => by rw [if_neg (by omega)]⟩
theorem Laid.step {A Ak : Cell} {lo k : Nat} {f : Nat → Value} {v : Value} (h : Laid A Ak lo k f) (hlo : lo ≤ k) (hk : k < Ak.slots.size) (hv : v = f k) : Laid A (Ak.setSlot k v) lo (k + 1) f := by
  refine ⟨h.1, h.2.1, by simpa [Cell.setSlot] using h.2.2.1, fun i => ?_⟩
  by_cases e : k = i
  · subst e; rw [Cell.slots_setSlot_self v hk, if_pos (by omega), hv]
  · rw [Cell.slots_setSlot_ne v e, h.2.2.2 i]
    by_cases q : lo ≤ i ∧ i < k
    · rw [if_pos q, if_pos (by omega)]
    · rw [if_neg q, if_neg (by omega)]
def U16 : String := "java/lang/StringUTF16"
namespace Cmp5
def yN : MethodName := ⟨"java/lang/StringUTF16", "compress", "([CI[BII)I"⟩
abbrev yB : ByteArray := jdk_52_method_21_code
theorem d0 : decode yB 0 = .ok (.iconst 0, 1) := by decide +kernel
theorem d1 : decode yB 1 = .ok (.istore 5, 2) := by decide +kernel
theorem d3 : decode yB 3 = .ok (.iload 5, 2) := by decide +kernel
theorem d5 : decode yB 5 = .ok (.iload 4, 2) := by decide +kernel
theorem d7 : decode yB 7 = .ok (.if_icmp (.ge) 37, 3) := by decide +kernel
theorem d10 : decode yB 10 = .ok (.aload_n 0, 1) := by decide +kernel
theorem d11 : decode yB 11 = .ok (.iload_n 1, 1) := by decide +kernel
theorem d12 : decode yB 12 = .ok (.caload, 1) := by decide +kernel
theorem d13 : decode yB 13 = .ok (.istore 6, 2) := by decide +kernel
theorem d15 : decode yB 15 = .ok (.iload 6, 2) := by decide +kernel
theorem d17 : decode yB 17 = .ok (.sipush 255, 3) := by decide +kernel
theorem d20 : decode yB 20 = .ok (.if_icmp (.le) 6, 3) := by decide +kernel
theorem d26 : decode yB 26 = .ok (.aload_n 2, 1) := by decide +kernel
theorem d27 : decode yB 27 = .ok (.iload_n 3, 1) := by decide +kernel
theorem d28 : decode yB 28 = .ok (.iload 6, 2) := by decide +kernel
theorem d30 : decode yB 30 = .ok (.i2b, 1) := by decide +kernel
theorem d31 : decode yB 31 = .ok (.bastore, 1) := by decide +kernel
theorem d32 : decode yB 32 = .ok (.iinc 1 1, 3) := by decide +kernel
theorem d35 : decode yB 35 = .ok (.iinc 3 1, 3) := by decide +kernel
theorem d38 : decode yB 38 = .ok (.iinc 5 1, 3) := by decide +kernel
theorem d41 : decode yB 41 = .ok (.goto (-38), 3) := by decide +kernel
theorem d44 : decode yB 44 = .ok (.iload 4, 2) := by decide +kernel
theorem d46 : decode yB 46 = .ok (.ireturn, 1) := by decide +kernel
def site : List Cond := []
def tab : Cond := tabOf yN yB 7 (some .int) site
def P (b : Addr) (A : Cell) (d : Addr) (B : Cell) (o q len : Nat) (args : Array Value) (s : State) : Prop := args = #[.ref b, .int (Int32.ofNat o), .ref d, .int (Int32.ofNat q), .int (Int32.ofNat len)] ∧ Ch b A s ∧ Arr .byte d B s ∧ b ≠ d ∧ o + len ≤ A.slots.size ∧ q + len ≤ B.slots.size ∧ ∀ i, i < len → ¬ 255 < cv A (o + i)
def E (b : Addr) (A : Cell) (d : Addr) (B : Cell) (o q len : Nat) (r : Option Value) (s u : State) : Prop := r = some (.int (Int32.ofNat len)) ∧ ∃ B', Put d B' s u ∧ Laid B B' q (q + len) (fun j => Value.int (lo8 (cv A (o + (j - q)))))
/-- no char of the range above 255: len; the places written hold each char's low byte -/
theorem law (l : Launch) (b : Addr) (A : Cell) (d : Addr) (B : Cell) (o q len : Nat) : Law l yN 5 5 0 0 yB 7 (some .int) site (P b A d B o q len) (E b A d B o q len) (copyLocs d q len) 0 0 := by
  refine Law.of_walk (plainFor_of_name (by decide +kernel)) (by decide +kernel) (by decide +kernel) (by decide) (fun _ _ h => by rw [h.1]; rfl) (fun _ U U' hal hh h => ⟨h.1, h.2.1.mv hal hh, h.2.2.1.mv hal hh, h.2.2.2⟩) (fun r U U' V V' h1 hal h2 h => ⟨h.1, h.2.elim fun B' q => ⟨B', q.1.mv h1 h2, q.2⟩⟩) ?_
  intro p e s m args below meth c s₁ X0 hexec hbytes hml hret hlk hnm hown hh0 W hP
  obtain ⟨rfl, hA, hB, hne, l1, l2, hp⟩ := hP
  have c1 : Steps p.tables e below (s₁.setTop (entryFrame m #[.ref b, .int (Int32.ofNat o), .ref d, .int (Int32.ofNat q), .int (Int32.ofNat len)] 7)) (s₁.setTop (mkF m 0 #[.val (.ref b), .val (.int (Int32.ofNat o)), .val (.ref d), .val (.int (Int32.ofNat q)), .val (.int (Int32.ofNat len)), .unset, .unset] [])) := entry rfl
  have hA0 := hA.1.mv X0.warmed.alike hh0
  have hB0 := hB.mv X0.warmed.alike hh0
  have a31 := hA.1.2.2.2
  have c2 : Steps p.tables e below (s₁.setTop (entryFrame m #[.ref b, .int (Int32.ofNat o), .ref d, .int (Int32.ofNat q), .int (Int32.ofNat len)] 7)) (s₁.setTop (mkF m 3 #[.val (.ref b), .val (.int (Int32.ofNat o)), .val (.ref d), .val (.int (Int32.ofNat q)), .val (.int (Int32.ofNat len)), .val (.int 0), .unset] [])) := c1.trans (by
    refine iconstV X0.here hexec rfl 0 (hb hbytes d0) (by decide) ?_
    refine XS.istore X0.here hexec rfl (hb hbytes d1) rfl rfl ?_
    exact Steps.refl _)
  have loop : ∀ (r i : Nat), i + r = len → ∀ (z : Slot), (z = .unset ∨ ∃ w, z = .val w ∧ w.category = 1) → ∀ (Tl : State) (Bk : Cell), Stand p l e { frames := 0, locals := 0, cells := 0, slots := 0 } s m #[.ref b, .int (Int32.ofNat o), .ref d, .int (Int32.ofNat q), .int (Int32.ofNat len)] below meth c Tl ([] ++ copyLocs d q i) 0 0 → Put d Bk s₁ Tl → Laid B Bk q (q + i) (fun j => Value.int (lo8 (cv A (o + (j - q))))) →
      Steps p.tables e below (s₁.setTop (entryFrame m #[.ref b, .int (Int32.ofNat o), .ref d, .int (Int32.ofNat q), .int (Int32.ofNat len)] 7)) (Tl.setTop (mkF m 3 #[.val (.ref b), .val (.int (Int32.ofNat (o + i))), .val (.ref d), .val (.int (Int32.ofNat (q + i))), .val (.int (Int32.ofNat len)), .val (.int (Int32.ofNat i)), z] [])) → ∃ (T' : State) (B' : Cell) (z' : Slot), Stand p l e { frames := 0, locals := 0, cells := 0, slots := 0 } s m #[.ref b, .int (Int32.ofNat o), .ref d, .int (Int32.ofNat q), .int (Int32.ofNat len)] below meth c T' ([] ++ copyLocs d q len) 0 0 ∧ Put d B' s₁ T' ∧ Laid B B' q (q + len) (fun j => Value.int (lo8 (cv A (o + (j - q))))) ∧
      Steps p.tables e below (s₁.setTop (entryFrame m #[.ref b, .int (Int32.ofNat o), .ref d, .int (Int32.ofNat q), .int (Int32.ofNat len)] 7)) (T'.setTop (mkF m 3 #[.val (.ref b), .val (.int (Int32.ofNat (o + len))), .val (.ref d), .val (.int (Int32.ofNat (q + len))), .val (.int (Int32.ofNat len)), .val (.int (Int32.ofNat len)), z'] [])) := by
    intro r
    induction r with
    | zero =>
      intro i hi z hz Tl Bk Xl pl fl cl
      have hil : i = len := by omega
      rw [hil] at Xl fl cl
      exact ⟨Tl, Bk, z, Xl, pl, fl, cl⟩
    | succ r ih =>
      intro i hi z hz Tl Bk Xl pl fl cl
      have all := X0.warmed.alike.symm.trans Xl.warmed.alike
      have hAl := hA0.keep all (pl.other hne hA0.1)
      have hBk := hB0.like all pl.1 fl.1 fl.2.1 fl.2.2.1
      have hlt : q + i < Bk.slots.size := by rw [fl.2.2.1]; omega
      have c3 : Steps p.tables e below (s₁.setTop (entryFrame m #[.ref b, .int (Int32.ofNat o), .ref d, .int (Int32.ofNat q), .int (Int32.ofNat len)] 7)) (Tl.setTop (mkF m 12 #[.val (.ref b), .val (.int (Int32.ofNat (o + i))), .val (.ref d), .val (.int (Int32.ofNat (q + i))), .val (.int (Int32.ofNat len)), .val (.int (Int32.ofNat i)), z] [.int (Int32.ofNat (o + i)), .ref b])) := cl.trans (by
        refine XS.iload Xl.here hexec rfl (hb hbytes d3) rfl ?_
        refine XS.iload Xl.here hexec rfl (hb hbytes d5) rfl ?_
        refine XS.icmpNo Xl.here hexec rfl (hb hbytes d7) rfl (ii_ge_f (lt32 (by omega) (by omega))) ?_
        refine XS.aloadN Xl.here hexec rfl (hb hbytes d10) rfl rfl ?_
        refine XS.iloadN Xl.here hexec rfl (hb hbytes d11) rfl ?_
        exact Steps.refl _)
      have c4 : Steps p.tables e below (s₁.setTop (entryFrame m #[.ref b, .int (Int32.ofNat o), .ref d, .int (Int32.ofNat q), .int (Int32.ofNat len)] 7)) (Tl.setTop (mkF m 13 #[.val (.ref b), .val (.int (Int32.ofNat (o + i))), .val (.ref d), .val (.int (Int32.ofNat (q + i))), .val (.int (Int32.ofNat len)), .val (.int (Int32.ofNat i)), z] [.int (cv A (o + i))])) := c3.trans (by
        refine Xl.aget hexec hAl rfl (hA.get (i := o + i) (by omega)) rfl rfl (hb hbytes d12) ?_
        exact Steps.refl _)
      have c5 : Steps p.tables e below (s₁.setTop (entryFrame m #[.ref b, .int (Int32.ofNat o), .ref d, .int (Int32.ofNat q), .int (Int32.ofNat len)] 7)) (Tl.setTop (mkF m 15 #[.val (.ref b), .val (.int (Int32.ofNat (o + i))), .val (.ref d), .val (.int (Int32.ofNat (q + i))), .val (.int (Int32.ofNat len)), .val (.int (Int32.ofNat i)), .val (.int (cv A (o + i)))] [])) := c4.trans (by
        refine XS.istoreS Xl.here hexec rfl (hb hbytes d13) rfl rfl hz ?_
        exact Steps.refl _)
      have c6 : Steps p.tables e below (s₁.setTop (entryFrame m #[.ref b, .int (Int32.ofNat o), .ref d, .int (Int32.ofNat q), .int (Int32.ofNat len)] 7)) (Tl.setTop (mkF m 31 #[.val (.ref b), .val (.int (Int32.ofNat (o + i))), .val (.ref d), .val (.int (Int32.ofNat (q + i))), .val (.int (Int32.ofNat len)), .val (.int (Int32.ofNat i)), .val (.int (cv A (o + i)))] [.int (lo8 (cv A (o + i))), .int (Int32.ofNat (q + i)), .ref d])) := c5.trans (by
        refine XS.iload Xl.here hexec rfl (hb hbytes d15) rfl ?_
        refine sipushV Xl.here hexec rfl 255 (hb hbytes d17) (by decide) ?_
        refine XS.icmpYes Xl.here hexec rfl (pc0 := 20) rfl (hb hbytes d20) rfl (ii_le_t (hp i (by omega))) (by decide) rfl ?_
        refine XS.aloadN Xl.here hexec rfl (hb hbytes d26) rfl rfl ?_
        refine XS.iloadN Xl.here hexec rfl (hb hbytes d27) rfl ?_
        refine XS.iload Xl.here hexec rfl (hb hbytes d28) rfl ?_
        refine i2b Xl.here hexec rfl (hb hbytes d30) rfl ?_
        exact Steps.refl _)
      obtain ⟨T7, X7, p7, st7⟩ := Xl.aput hexec hBk rfl hlt rfl (fits_lo8 (cv A (o + i))) (g := (mkF m 31 #[.val (.ref b), .val (.int (Int32.ofNat (o + i))), .val (.ref d), .val (.int (Int32.ofNat (q + i))), .val (.int (Int32.ofNat len)), .val (.int (Int32.ofNat i)), .val (.int (cv A (o + i)))] [.int (lo8 (cv A (o + i))), .int (Int32.ofNat (q + i)), .ref d])) rfl (rest := []) rfl (hb hbytes d31)
      have c8 : Steps p.tables e below (s₁.setTop (entryFrame m #[.ref b, .int (Int32.ofNat o), .ref d, .int (Int32.ofNat q), .int (Int32.ofNat len)] 7)) (T7.setTop (mkF m 32 #[.val (.ref b), .val (.int (Int32.ofNat (o + i))), .val (.ref d), .val (.int (Int32.ofNat (q + i))), .val (.int (Int32.ofNat len)), .val (.int (Int32.ofNat i)), .val (.int (cv A (o + i)))] [])) := c6.trans (st7 _ (Steps.refl _))
      have c9 : Steps p.tables e below (s₁.setTop (entryFrame m #[.ref b, .int (Int32.ofNat o), .ref d, .int (Int32.ofNat q), .int (Int32.ofNat len)] 7)) (T7.setTop (mkF m 3 #[.val (.ref b), .val (.int (Int32.ofNat (o + i) + 1)), .val (.ref d), .val (.int (Int32.ofNat (q + i) + 1)), .val (.int (Int32.ofNat len)), .val (.int (Int32.ofNat i + 1)), .val (.int (cv A (o + i)))] [])) := c8.trans (by
        refine iincV X7.here hexec rfl 1 (hb hbytes d32) (by decide) rfl rfl ?_
        refine iincV X7.here hexec rfl 1 (hb hbytes d35) (by decide) rfl rfl ?_
        refine iincV X7.here hexec rfl 1 (hb hbytes d38) (by decide) rfl rfl ?_
        refine XS.goto X7.here hexec rfl (pc0 := 41) rfl (hb hbytes d41) (by decide) rfl ?_
        exact Steps.refl _)
      have c10 : Steps p.tables e below (s₁.setTop (entryFrame m #[.ref b, .int (Int32.ofNat o), .ref d, .int (Int32.ofNat q), .int (Int32.ofNat len)] 7)) (T7.setTop (mkF m 3 #[.val (.ref b), .val (.int (Int32.ofNat (o + (i + 1)))), .val (.ref d), .val (.int (Int32.ofNat (q + (i + 1)))), .val (.int (Int32.ofNat len)), .val (.int (Int32.ofNat (i + 1))), .val (.int (cv A (o + i)))] [])) := by
        have := c9
        rw [succ32, succ32, succ32] at this
        exact this
      exact ih (i + 1) (by omega) _ (Or.inr ⟨_, rfl, rfl⟩) T7 _ (by rw [copyLocs_step, ← List.append_assoc]; exact X7) (pl.trans p7) (fl.step (by omega) hlt (by simp)) c10
  obtain ⟨T9, B9, z9, X9, p9, f9, g9⟩ := loop len 0 (by omega) .unset (Or.inl rfl) s₁ B (by simpa [copyLocs] using X0) ⟨hB0.1, fun _ _ => rfl, rfl⟩ (Laid.zero _ _ _) c2
  have c11 : Steps p.tables e below (s₁.setTop (entryFrame m #[.ref b, .int (Int32.ofNat o), .ref d, .int (Int32.ofNat q), .int (Int32.ofNat len)] 7)) (T9.setTop (mkF m 46 #[.val (.ref b), .val (.int (Int32.ofNat (o + len))), .val (.ref d), .val (.int (Int32.ofNat (q + len))), .val (.int (Int32.ofNat len)), .val (.int (Int32.ofNat len)), z9] [.int (Int32.ofNat len)])) := g9.trans (by
    refine XS.iload X9.here hexec rfl (hb hbytes d3) rfl ?_
    refine XS.iload X9.here hexec rfl (hb hbytes d5) rfl ?_
    refine XS.icmpYes X9.here hexec rfl (pc0 := 7) rfl (hb hbytes d7) rfl (ii_ge_t (nlt32 (by omega) (Nat.le_refl _))) (by decide) rfl ?_
    refine XS.iload X9.here hexec rfl (hb hbytes d44) rfl ?_
    exact Steps.refl _)
  exact ⟨T9, some (.int (Int32.ofNat len)), _, _, _, X9, by simp, rfl, rfl, (fun h => by cases h), ⟨rfl, B9, p9.from hh0, f9⟩, fun fs hl => c11.trans (X9.ireturnOut hexec hret rfl (Or.inl rfl) (hb hbytes d46) hl)⟩
end Cmp5
namespace Cmp3
def yN : MethodName := ⟨"java/lang/StringUTF16", "compress", "([CII)[B"⟩
abbrev yB : ByteArray := jdk_52_method_16_code
theorem d0 : decode yB 0 = .ok (.iload_n 2, 1) := by decide +kernel
theorem d1 : decode yB 1 = .ok (.newarray .byte, 2) := by decide +kernel
theorem d3 : decode yB 3 = .ok (.astore_n 3, 1) := by decide +kernel
theorem d4 : decode yB 4 = .ok (.aload_n 0, 1) := by decide +kernel
theorem d5 : decode yB 5 = .ok (.iload_n 1, 1) := by decide +kernel
theorem d6 : decode yB 6 = .ok (.aload_n 3, 1) := by decide +kernel
theorem d7 : decode yB 7 = .ok (.iconst 0, 1) := by decide +kernel
theorem d8 : decode yB 8 = .ok (.iload_n 2, 1) := by decide +kernel
theorem d9 : decode yB 9 = .ok (.invokestatic 115, 3) := by decide +kernel
theorem d12 : decode yB 12 = .ok (.istore 4, 2) := by decide +kernel
theorem d14 : decode yB 14 = .ok (.iload 4, 2) := by decide +kernel
theorem d16 : decode yB 16 = .ok (.iload_n 2, 1) := by decide +kernel
theorem d17 : decode yB 17 = .ok (.if_icmp (.eq) 40, 3) := by decide +kernel
theorem d57 : decode yB 57 = .ok (.aload_n 3, 1) := by decide +kernel
theorem d58 : decode yB 58 = .ok (.areturn, 1) := by decide +kernel
def site : List Cond := [.arrayClass .byte, Cmp5.tab] ++ staticW U16 115 Cmp5.yN
def tab : Cond := tabOf yN yB 6 (some (.array .byte)) site
def P (b : Addr) (A : Cell) (o len : Nat) (args : Array Value) (s : State) : Prop := args = #[.ref b, .int (Int32.ofNat o), .int (Int32.ofNat len)] ∧ Ch b A s ∧ o + len ≤ A.slots.size ∧ len ≤ 536870912 ∧ ∀ i, i < len → ¬ 255 < cv A (o + i)
def E (b : Addr) (A : Cell) (o len : Nat) (r : Option Value) (s u : State) : Prop := NewArr .byte "[B" len (fun j => .int (lo8 (cv A (o + j)))) r s u ∧ u.heap.size = s.heap.size + 1
/-- no char of the range above 255: a new byte[] of their low bytes -/
theorem law (l : Launch) (b : Addr) (A : Cell) (o len : Nat) : Law l yN 3 3 1 18 yB 6 (some (.array .byte)) site (P b A o len) (E b A o len) [] 1 len := by
  refine Law.of_walk (plainFor_of_name (by decide +kernel)) (by decide +kernel) (by decide +kernel) (by decide) (fun _ _ h => by rw [h.1]; rfl) (fun _ U U' hal hh h => ⟨h.1, h.2.1.mv hal hh, h.2.2⟩) (fun r U U' V V' h1 hal h2 h => ⟨NewArr.mv r U U' V V' h1 hal h2 h.1, by rw [h1, h2]; exact h.2⟩) ?_
  intro p e s m args below meth c s₁ X0 hexec hbytes hml hret hlk hnm hown hh0 W hP
  obtain ⟨rfl, hA, l1, l2, hp⟩ := hP
  have a31 := hA.1.2.2.2
  have c1 : Steps p.tables e below (s₁.setTop (entryFrame m #[.ref b, .int (Int32.ofNat o), .int (Int32.ofNat len)] 6)) (s₁.setTop (mkF m 0 #[.val (.ref b), .val (.int (Int32.ofNat o)), .val (.int (Int32.ofNat len)), .unset, .unset, .unset] [])) := entry rfl
  have c2 : Steps p.tables e below (s₁.setTop (entryFrame m #[.ref b, .int (Int32.ofNat o), .int (Int32.ofNat len)] 6)) (s₁.setTop (mkF m 1 #[.val (.ref b), .val (.int (Int32.ofNat o)), .val (.int (Int32.ofNat len)), .unset, .unset, .unset] [.int (Int32.ofNat len)])) := c1.trans (by
    refine XS.iloadN X0.here hexec rfl (hb hbytes d0) rfl ?_
    exact Steps.refl _)
  obtain ⟨T3, B3, X3, ba3, bs3, bv3, bh3, bf3, st3⟩ := X0.anew hexec (atype := .byte) (wk W (.arrayClass .byte)) rfl (by show len * 1 ≤ _; omega) (by omega) (g := (mkF m 1 #[.val (.ref b), .val (.int (Int32.ofNat o)), .val (.int (Int32.ofNat len)), .unset, .unset, .unset] [.int (Int32.ofNat len)])) rfl (hb hbytes d1) (rest := []) rfl (Nat.le_refl _) (by show 0 + len ≤ len; omega)
  rw [hh0] at ba3 st3
  have kp3 : XT.Kept s T3 := (XT.Kept.of_eq hh0).push bh3
  have hA3 := hA.keep X3.warmed.alike (kp3 _ _ hA.1.1)
  have hne : b ≠ s.heap.size := hA.1.ne
  have c4 : Steps p.tables e below (s₁.setTop (entryFrame m #[.ref b, .int (Int32.ofNat o), .int (Int32.ofNat len)] 6)) (T3.setTop (mkF m 3 #[.val (.ref b), .val (.int (Int32.ofNat o)), .val (.int (Int32.ofNat len)), .unset, .unset, .unset] [.ref s.heap.size])) := c2.trans (st3 _ (Steps.refl _))
  have c5 : Steps p.tables e below (s₁.setTop (entryFrame m #[.ref b, .int (Int32.ofNat o), .int (Int32.ofNat len)] 6)) (T3.setTop (mkF m 9 #[.val (.ref b), .val (.int (Int32.ofNat o)), .val (.int (Int32.ofNat len)), .val (.ref s.heap.size), .unset, .unset] [.int (Int32.ofNat len), .int 0, .ref s.heap.size, .int (Int32.ofNat o), .ref b])) := c4.trans (by
    refine XS.astoreN X3.here hexec rfl (hb hbytes d3) rfl rfl rfl ?_
    refine XS.aloadN X3.here hexec rfl (hb hbytes d4) rfl rfl ?_
    refine XS.iloadN X3.here hexec rfl (hb hbytes d5) rfl ?_
    refine XS.aloadN X3.here hexec rfl (hb hbytes d6) rfl rfl ?_
    refine iconstV X3.here hexec rfl 0 (hb hbytes d7) (by decide) ?_
    refine XS.iloadN X3.here hexec rfl (hb hbytes d8) rfl ?_
    exact Steps.refl _)
  obtain ⟨v6, T6, X6, E6, g6⟩ := X3.callS hexec (Cmp5.law l b A s.heap.size B3 o 0 len) hown (wks W (staticW U16 115 Cmp5.yN)) (wk W Cmp5.tab) (W := 0) (Nat.le_of_ble_eq_true rfl) (Nat.le_of_ble_eq_true rfl) (Nat.le_refl _) (by show 0 + len + 0 ≤ len; omega) (g := (mkF m 9 #[.val (.ref b), .val (.int (Int32.ofNat o)), .val (.int (Int32.ofNat len)), .val (.ref s.heap.size), .unset, .unset] [.int (Int32.ofNat len), .int (Int32.ofNat 0), .ref s.heap.size, .int (Int32.ofNat o), .ref b])) rfl (by rw [hml]; rfl) c5 (argsL := [.ref b, .int (Int32.ofNat o), .ref s.heap.size, .int (Int32.ofNat 0), .int (Int32.ofNat len)]) (rest := []) rfl rfl (by show 2 * 0 + 0 ≤ _; decide) (hb hbytes d9) (⟨rfl, hA3, ba3, hne, l1, by rw [bs3]; simp, hp⟩)
  obtain ⟨rfl, B6, p6, f6⟩ := E6
  have c7 : Steps p.tables e below (s₁.setTop (entryFrame m #[.ref b, .int (Int32.ofNat o), .int (Int32.ofNat len)] 6)) (T6.setTop (mkF m 12 #[.val (.ref b), .val (.int (Int32.ofNat o)), .val (.int (Int32.ofNat len)), .val (.ref s.heap.size), .unset, .unset] [.int (Int32.ofNat len)])) := g6
  have c8 : Steps p.tables e below (s₁.setTop (entryFrame m #[.ref b, .int (Int32.ofNat o), .int (Int32.ofNat len)] 6)) (T6.setTop (mkF m 58 #[.val (.ref b), .val (.int (Int32.ofNat o)), .val (.int (Int32.ofNat len)), .val (.ref s.heap.size), .val (.int (Int32.ofNat len)), .unset] [.ref s.heap.size])) := c7.trans (by
    refine XS.istore X6.here hexec rfl (hb hbytes d12) rfl rfl ?_
    refine XS.iload X6.here hexec rfl (hb hbytes d14) rfl ?_
    refine XS.iloadN X6.here hexec rfl (hb hbytes d16) rfl ?_
    refine XS.icmpYes X6.here hexec rfl (pc0 := 17) rfl (hb hbytes d17) rfl (ii_eq_t rfl) (by decide) rfl ?_
    refine XS.aloadN X6.here hexec rfl (hb hbytes d57) rfl rfl ?_
    exact Steps.refl _)
  have X8 := X6.wide (L' := []) (cells' := 1) (slots' := len) (fun x hx hlt => by
    simp only [List.nil_append, copyLocs, List.mem_map, List.mem_range] at hx
    obtain ⟨i, -, rfl⟩ := hx
    exact absurd hlt (Nat.lt_irrefl _)) (Nat.le_refl _) (by omega)
  exact ⟨T6, some (.ref s.heap.size), _, _, _, X8, rfl, rfl, rfl, (fun h => by cases h), ⟨⟨rfl, B6, ba3.like (X3.warmed.alike.symm.trans X6.warmed.alike) p6.1 f6.1 f6.2.1 f6.2.2.1, f6.2.1.trans bv3, by rw [X6.warmed.alike.findClass, f6.1]; exact bf3, by rw [f6.2.2.1, bs3]; simp, fun j hj => by rw [f6.2.2.2 j, if_pos (by omega)]; rfl, kp3.put p6 (Nat.le_refl _)⟩, by rw [p6.2.2, bh3, hh0]; simp⟩, fun fs hl => c8.trans (X8.areturnOut hexec rfl hret rfl (hb hbytes d58) hl)⟩
end Cmp3
namespace CodL
def yN : MethodName := ⟨"java/lang/StringUTF16", "coderFromArrayLen", "([BI)B"⟩
abbrev yB : ByteArray := jdk_52_method_15_code
theorem d0 : decode yB 0 = .ok (.iload_n 1, 1) := by decide +kernel
theorem d1 : decode yB 1 = .ok (.aload_n 0, 1) := by decide +kernel
theorem d2 : decode yB 2 = .ok (.arraylength, 1) := by decide +kernel
theorem d3 : decode yB 3 = .ok (.isub, 1) := by decide +kernel
theorem d4 : decode yB 4 = .ok (.bipush 31, 2) := by decide +kernel
theorem d6 : decode yB 6 = .ok (.iushr, 1) := by decide +kernel
theorem d7 : decode yB 7 = .ok (.i2b, 1) := by decide +kernel
theorem d8 : decode yB 8 = .ok (.ireturn, 1) := by decide +kernel
def site : List Cond := []
def tab : Cond := tabOf yN yB 2 (some .byte) site
def P (d : Addr) (B : Cell) (args : Array Value) (s : State) : Prop := args = #[.ref d, .int (Int32.ofNat B.slots.size)] ∧ Arr .byte d B s
def E (r : Option Value) (s u : State) : Prop := XT.PureE (some (.int 0)) r s u
/-- an array as long as the number of chars: LATIN1 -/
theorem law (l : Launch) (d : Addr) (B : Cell) : Law l yN 2 2 0 0 yB 2 (some .byte) site (P d B) E [] 0 0 := by
  refine Law.of_walk (plainFor_of_name (by decide +kernel)) (by decide +kernel) (by decide +kernel) (by decide) (fun _ _ h => by rw [h.1]; rfl) (fun _ U U' hal hh h => ⟨h.1, h.2.mv hal hh⟩) (fun r U U' V V' h1 hal h2 h => XT.PureE.mv r U U' V V' h1 hal h2 h) ?_
  intro p e s m args below meth c s₁ X0 hexec hbytes hml hret hlk hnm hown hh0 W hP
  obtain ⟨rfl, hB⟩ := hP
  have hB0 := hB.mv X0.warmed.alike hh0
  have c1 : Steps p.tables e below (s₁.setTop (entryFrame m #[.ref d, .int (Int32.ofNat B.slots.size)] 2)) (s₁.setTop (mkF m 0 #[.val (.ref d), .val (.int (Int32.ofNat B.slots.size))] [])) := entry rfl
  have c2 : Steps p.tables e below (s₁.setTop (entryFrame m #[.ref d, .int (Int32.ofNat B.slots.size)] 2)) (s₁.setTop (mkF m 2 #[.val (.ref d), .val (.int (Int32.ofNat B.slots.size))] [.ref d, .int (Int32.ofNat B.slots.size)])) := c1.trans (by
    refine XS.iloadN X0.here hexec rfl (hb hbytes d0) rfl ?_
    refine XS.aloadN X0.here hexec rfl (hb hbytes d1) rfl rfl ?_
    exact Steps.refl _)
  have c3 : Steps p.tables e below (s₁.setTop (entryFrame m #[.ref d, .int (Int32.ofNat B.slots.size)] 2)) (s₁.setTop (mkF m 8 #[.val (.ref d), .val (.int (Int32.ofNat B.slots.size))] [.int (lo8 (ushr (Int32.ofNat B.slots.size - Int32.ofNat B.slots.size) 31))])) := c2.trans (by
    refine X0.alen hexec hB0 rfl rfl (hb hbytes d2) ?_
    refine XS.isub X0.here hexec rfl (hb hbytes d3) rfl ?_
    refine bipushV X0.here hexec rfl 31 (hb hbytes d4) (by decide) ?_
    refine iushr X0.here hexec rfl (hb hbytes d6) rfl ?_
    refine i2b X0.here hexec rfl (hb hbytes d7) rfl ?_
    exact Steps.refl _)
  have e0 : lo8 (ushr (Int32.ofNat B.slots.size - Int32.ofNat B.slots.size) 31) = 0 := by rw [Int32.sub_self]; decide
  rw [e0] at c3
  exact ⟨s₁, some (.int 0), _, _, _, X0, rfl, rfl, rfl, (fun h => by cases h), ⟨rfl, hh0⟩, fun fs hl => c3.trans (X0.ireturnOut hexec hret rfl (Or.inr (Or.inr (Or.inl rfl))) (hb hbytes d8) hl)⟩
end CodL
/-- the String at a is Latin-1 over a new byte[] (the heap's one new cell): the low bytes of the len chars of A from o on; every cell but a is kept -/
def Got (a : Addr) (D : Cell) (fV fC : Field) (A : Cell) (o len : Nat) (r : Option Value) (s u : State) : Prop := r = none ∧ ∃ D' V : Cell, Blank "java/lang/String" a D' u ∧ Same D D' [fV.slot, fC.slot] ∧ D'.slots[fV.slot]? = some (.ref s.heap.size) ∧ D'.slots[fC.slot]? = some (.int 0) ∧ Arr .byte s.heap.size V u ∧ V.vm = .none ∧ u.vm.findClass "[B" = some V.cls ∧ V.slots.size = len ∧ (∀ j, j < len → V.slots[j]? = some (.int (lo8 (cv A (o + j))))) ∧ (∀ (y : Addr) (c : Cell), y ≠ a → s.heap[y]? = some c → u.heap[y]? = some c) ∧ u.heap.size = s.heap.size + 1
theorem Got.mv {a : Addr} {D A : Cell} {fV fC : Field} {o len : Nat} : ∀ r (U U' V V' : State), U'.heap = U.heap → V.vm.Alike V'.vm → V'.heap = V.heap → Got a D fV fC A o len r U V → Got a D fV fC A o len r U' V' :=
  fun r U U' V V' h1 hal h2 ⟨e0, D', X, a1, a2, a3, a4, a5, a6, a7, a8, a9, a10, a11⟩ => ⟨e0, D', X, a1.mv hal h2, a2, by rw [h1]; exact a3, a4, by rw [h1]; exact a5.mv hal h2, a6, by rw [hal.findClass]; exact a7, a8, a9, by rw [h1, h2]; exact a10, by rw [h1, h2]; exact a11⟩
namespace New4
def yN : MethodName := ⟨"java/lang/String", "<init>", "([CIILjava/lang/Void;)V"⟩
abbrev yB : ByteArray := jdk_42_method_149_code
theorem d0 : decode yB 0 = .ok (.aload_n 0, 1) := by decide +kernel
theorem d1 : decode yB 1 = .ok (.invokespecial 1, 3) := by decide +kernel
theorem d4 : decode yB 4 = .ok (.iload_n 3, 1) := by decide +kernel
theorem d5 : decode yB 5 = .ok (.ifCond (.ne) 22, 3) := by decide +kernel
theorem d27 : decode yB 27 = .ok (.getstatic 38, 3) := by decide +kernel
theorem d30 : decode yB 30 = .ok (.ifCond (.eq) 28, 3) := by decide +kernel
theorem d33 : decode yB 33 = .ok (.aload_n 1, 1) := by decide +kernel
theorem d34 : decode yB 34 = .ok (.iload_n 2, 1) := by decide +kernel
theorem d35 : decode yB 35 = .ok (.iload_n 3, 1) := by decide +kernel
theorem d36 : decode yB 36 = .ok (.invokestatic 177, 3) := by decide +kernel
theorem d39 : decode yB 39 = .ok (.astore 5, 2) := by decide +kernel
theorem d41 : decode yB 41 = .ok (.aload_n 0, 1) := by decide +kernel
theorem d42 : decode yB 42 = .ok (.aload 5, 2) := by decide +kernel
theorem d44 : decode yB 44 = .ok (.iload_n 3, 1) := by decide +kernel
theorem d45 : decode yB 45 = .ok (.invokestatic 47, 3) := by decide +kernel
theorem d48 : decode yB 48 = .ok (.putfield 15, 3) := by decide +kernel
theorem d51 : decode yB 51 = .ok (.aload_n 0, 1) := by decide +kernel
theorem d52 : decode yB 52 = .ok (.aload 5, 2) := by decide +kernel
theorem d54 : decode yB 54 = .ok (.putfield 9, 3) := by decide +kernel
theorem d57 : decode yB 57 = .ok (.return_, 1) := by decide +kernel
def site : List Cond := [.fieldLink "java/lang/String" 38 "java/lang/String" "COMPACT_STRINGS" "Z", Cmp3.tab, CodL.tab, .laysFinal "java/lang/String" "java/lang/String" "value" "[B", .fieldLink "java/lang/String" 9 "java/lang/String" "value" "[B", .laysFinal "java/lang/String" "java/lang/String" "coder" "B", .fieldLink "java/lang/String" 15 "java/lang/String" "coder" "B"] ++ objW "java/lang/String" 1 ++ staticW "java/lang/String" 177 Cmp3.yN ++ staticW "java/lang/String" 47 CodL.yN
def tab : Cond := tabOf yN yB 6 none site
def P (a : Addr) (D : Cell) (fV fC : Field) (b : Addr) (A : Cell) (z : Int32) (o len : Nat) (args : Array Value) (s : State) : Prop := args = #[.ref a, .ref b, .int (Int32.ofNat o), .int (Int32.ofNat len), .null] ∧ Blank "java/lang/String" a D s ∧ Found "java/lang/String" "value" "[B" fV s ∧ Found "java/lang/String" "coder" "B" fC s ∧ Ch b A s ∧ StaticIs s "java/lang/String" "COMPACT_STRINGS" "Z" (.int z) ∧ ¬ z = 0 ∧ 0 < len ∧ o + len ≤ A.slots.size ∧ len ≤ 536870912 ∧ ∀ i, i < len → ¬ 255 < cv A (o + i)
def E (a : Addr) (D : Cell) (fV fC : Field) (A : Cell) (o len : Nat) (r : Option Value) (s u : State) : Prop := Got a D fV fC A o len r s u
/-- len > 0, no char of the range above 255: a Latin-1 String of their low bytes -/
theorem law (l : Launch) (a : Addr) (D : Cell) (fV fC : Field) (b : Addr) (A : Cell) (z : Int32) (o len : Nat) : Law l yN 5 4 2 35 yB 6 none site (P a D fV fC b A z o len) (E a D fV fC A o len) [⟨a, fC.slot⟩, ⟨a, fV.slot⟩] 1 len := by
  refine Law.of_walk (plainFor_of_name (by decide +kernel)) (by decide +kernel) (by decide +kernel) (by decide) (fun _ _ h => by rw [h.1]; rfl) (fun _ U U' hal hh h => ⟨h.1, h.2.1.mv hal hh, h.2.2.1.al hal, h.2.2.2.1.al hal, h.2.2.2.2.1.mv hal hh, h.2.2.2.2.2.1.there hal hh, h.2.2.2.2.2.2⟩) (fun r U U' V V' h1 hal h2 h => Got.mv r U U' V V' h1 hal h2 h) ?_
  intro p e s m args below meth c s₁ X0 hexec hbytes hml hret hlk hnm hown hh0 W hP
  obtain ⟨rfl, hB, f1, f2, hA, s1, hz, l0, l1, l2, hp⟩ := hP
  have a31 := hA.1.2.2.2
  have c1 : Steps p.tables e below (s₁.setTop (entryFrame m #[.ref a, .ref b, .int (Int32.ofNat o), .int (Int32.ofNat len), .null] 6)) (s₁.setTop (mkF m 0 #[.val (.ref a), .val (.ref b), .val (.int (Int32.ofNat o)), .val (.int (Int32.ofNat len)), .val .null, .unset] [])) := entry rfl
  have c2 : Steps p.tables e below (s₁.setTop (entryFrame m #[.ref a, .ref b, .int (Int32.ofNat o), .int (Int32.ofNat len), .null] 6)) (s₁.setTop (mkF m 1 #[.val (.ref a), .val (.ref b), .val (.int (Int32.ofNat o)), .val (.int (Int32.ofNat len)), .val .null, .unset] [.ref a])) := c1.trans (by
    refine XS.aloadN X0.here hexec rfl (hb hbytes d0) rfl rfl ?_
    exact Steps.refl _)
  obtain ⟨T3, X3, q3, st3⟩ := X0.oinit hexec hown (wks W (objW "java/lang/String" 1)) (g := (mkF m 1 #[.val (.ref a), .val (.ref b), .val (.int (Int32.ofNat o)), .val (.int (Int32.ofNat len)), .val .null, .unset] [.ref a])) rfl (by rw [hml]; rfl) (rest := []) rfl (hb hbytes d1) (W := 0) (by show 2 * 0 + 0 ≤ _; decide) (Nat.le_of_ble_eq_true rfl) (Nat.le_of_ble_eq_true rfl)
  have hh3 := q3.trans hh0
  have c4 : Steps p.tables e below (s₁.setTop (entryFrame m #[.ref a, .ref b, .int (Int32.ofNat o), .int (Int32.ofNat len), .null] 6)) (T3.setTop (mkF m 27 #[.val (.ref a), .val (.ref b), .val (.int (Int32.ofNat o)), .val (.int (Int32.ofNat len)), .val .null, .unset] [])) := (c2.trans (st3 _ (Steps.refl _))).trans (by
    refine XS.iloadN X3.here hexec rfl (hb hbytes d4) rfl ?_
    refine XS.ifYes X3.here hexec rfl (pc0 := 5) rfl (hb hbytes d5) rfl (i0_ne_t (nz32 (by omega) l0)) (by decide) rfl ?_
    exact Steps.refl _)
  obtain ⟨T5, X5, q5, st5⟩ := X3.sget hexec hown (wk W (.fieldLink "java/lang/String" 38 "java/lang/String" "COMPACT_STRINGS" "Z")) s1 (fun _ _ h => by rw [hh3]; exact h) (g := (mkF m 27 #[.val (.ref a), .val (.ref b), .val (.int (Int32.ofNat o)), .val (.int (Int32.ofNat len)), .val .null, .unset] [])) rfl (hb hbytes d27)
  have hh5 := q5.trans hh3
  have c6 : Steps p.tables e below (s₁.setTop (entryFrame m #[.ref a, .ref b, .int (Int32.ofNat o), .int (Int32.ofNat len), .null] 6)) (T5.setTop (mkF m 30 #[.val (.ref a), .val (.ref b), .val (.int (Int32.ofNat o)), .val (.int (Int32.ofNat len)), .val .null, .unset] [.int z])) := c4.trans (st5 _ (Steps.refl _))
  have c7 : Steps p.tables e below (s₁.setTop (entryFrame m #[.ref a, .ref b, .int (Int32.ofNat o), .int (Int32.ofNat len), .null] 6)) (T5.setTop (mkF m 36 #[.val (.ref a), .val (.ref b), .val (.int (Int32.ofNat o)), .val (.int (Int32.ofNat len)), .val .null, .unset] [.int (Int32.ofNat len), .int (Int32.ofNat o), .ref b])) := c6.trans (by
    refine XS.ifNo X5.here hexec rfl (hb hbytes d30) rfl (i0_eq_f hz) ?_
    refine XS.aloadN X5.here hexec rfl (hb hbytes d33) rfl rfl ?_
    refine XS.iloadN X5.here hexec rfl (hb hbytes d34) rfl ?_
    refine XS.iloadN X5.here hexec rfl (hb hbytes d35) rfl ?_
    exact Steps.refl _)
  obtain ⟨v8, T8, X8, E8, g8⟩ := X5.callS hexec (Cmp3.law l b A o len) hown (wks W (staticW "java/lang/String" 177 Cmp3.yN)) (wk W Cmp3.tab) (W := 0) (Nat.le_of_ble_eq_true rfl) (Nat.le_of_ble_eq_true rfl) (Nat.le_refl _) (by show 0 + len ≤ len; omega) (g := (mkF m 36 #[.val (.ref a), .val (.ref b), .val (.int (Int32.ofNat o)), .val (.int (Int32.ofNat len)), .val .null, .unset] [.int (Int32.ofNat len), .int (Int32.ofNat o), .ref b])) rfl (by rw [hml]; rfl) c7 (argsL := [.ref b, .int (Int32.ofNat o), .int (Int32.ofNat len)]) (rest := []) rfl rfl (by show 2 * 0 + 0 ≤ _; decide) (hb hbytes d36) (⟨rfl, hA.mv X5.warmed.alike hh5, l1, l2, hp⟩)
  obtain ⟨e8, z8⟩ := E8
  obtain ⟨rfl, N, n1, n2, n3, n4, n5, n6⟩ := NewArr.mv _ T5 s _ _ hh5.symm (Vm.Alike.refl _) rfl e8
  rw [hh5] at z8
  have hB1 := hB.keep X8.warmed.alike (n6 _ _ hB.1)
  have hne : s.heap.size ≠ a := (Nat.ne_of_lt (Array.getElem?_eq_some_iff.mp hB.1).1).symm
  have c9 : Steps p.tables e below (s₁.setTop (entryFrame m #[.ref a, .ref b, .int (Int32.ofNat o), .int (Int32.ofNat len), .null] 6)) (T8.setTop (mkF m 39 #[.val (.ref a), .val (.ref b), .val (.int (Int32.ofNat o)), .val (.int (Int32.ofNat len)), .val .null, .unset] [.ref s.heap.size])) := g8
  have c10 : Steps p.tables e below (s₁.setTop (entryFrame m #[.ref a, .ref b, .int (Int32.ofNat o), .int (Int32.ofNat len), .null] 6)) (T8.setTop (mkF m 45 #[.val (.ref a), .val (.ref b), .val (.int (Int32.ofNat o)), .val (.int (Int32.ofNat len)), .val .null, .val (.ref s.heap.size)] [.int (Int32.ofNat N.slots.size), .ref s.heap.size, .ref a])) := by
    have hc : Steps p.tables e below (s₁.setTop (entryFrame m #[.ref a, .ref b, .int (Int32.ofNat o), .int (Int32.ofNat len), .null] 6)) (T8.setTop (mkF m 45 #[.val (.ref a), .val (.ref b), .val (.int (Int32.ofNat o)), .val (.int (Int32.ofNat len)), .val .null, .val (.ref s.heap.size)] [.int (Int32.ofNat len), .ref s.heap.size, .ref a])) := c9.trans (by
      refine XS.astore X8.here hexec rfl (hb hbytes d39) rfl rfl rfl ?_
      refine XS.aloadN X8.here hexec rfl (hb hbytes d41) rfl rfl ?_
      refine XS.aload X8.here hexec rfl (hb hbytes d42) rfl rfl ?_
      refine XS.iloadN X8.here hexec rfl (hb hbytes d44) rfl ?_
      exact Steps.refl _)
    rw [n4]; exact hc
  obtain ⟨v11, T11, X11, E11, g11⟩ := X8.callS hexec (CodL.law l s.heap.size N) hown (wks W (staticW "java/lang/String" 47 CodL.yN)) (wk W CodL.tab) (W := 1) (Nat.le_of_ble_eq_true rfl) (Nat.le_of_ble_eq_true rfl) (Nat.le_refl _) (by show 0 + len + 0 ≤ len; omega) (g := (mkF m 45 #[.val (.ref a), .val (.ref b), .val (.int (Int32.ofNat o)), .val (.int (Int32.ofNat len)), .val .null, .val (.ref s.heap.size)] [.int (Int32.ofNat N.slots.size), .ref s.heap.size, .ref a])) rfl (by rw [hml]; rfl) c10 (argsL := [.ref s.heap.size, .int (Int32.ofNat N.slots.size)]) (rest := [.ref a]) rfl rfl (by show 2 * 0 + (1 + 0) ≤ _; decide) (hb hbytes d45) (⟨rfl, n1⟩)
  obtain ⟨rfl, q11⟩ := E11
  have hB11 := hB1.mv (X8.warmed.alike.symm.trans X11.warmed.alike) q11
  have c12 : Steps p.tables e below (s₁.setTop (entryFrame m #[.ref a, .ref b, .int (Int32.ofNat o), .int (Int32.ofNat len), .null] 6)) (T11.setTop (mkF m 48 #[.val (.ref a), .val (.ref b), .val (.int (Int32.ofNat o)), .val (.int (Int32.ofNat len)), .val .null, .val (.ref s.heap.size)] [.int 0, .ref a])) := g11
  obtain ⟨T13, X13, p13, bl13, sl13, st13⟩ := X11.finit hexec hown (wk W (.fieldLink "java/lang/String" 15 "java/lang/String" "coder" "B")) (Or.inr ⟨_, (wk W (.laysFinal "java/lang/String" "java/lang/String" "coder" "B"))⟩) (Or.inl ⟨rfl, hnm⟩) f2 (Or.inl rfl) hB11 (t := .byte) (by decide +kernel) rfl (g := (mkF m 48 #[.val (.ref a), .val (.ref b), .val (.int (Int32.ofNat o)), .val (.int (Int32.ofNat len)), .val .null, .val (.ref s.heap.size)] [.int 0, .ref a])) rfl (rest := []) rfl (hb hbytes d48)
  have c14 : Steps p.tables e below (s₁.setTop (entryFrame m #[.ref a, .ref b, .int (Int32.ofNat o), .int (Int32.ofNat len), .null] 6)) (T13.setTop (mkF m 54 #[.val (.ref a), .val (.ref b), .val (.int (Int32.ofNat o)), .val (.int (Int32.ofNat len)), .val .null, .val (.ref s.heap.size)] [.ref s.heap.size, .ref a])) := (c12.trans (st13 _ (Steps.refl _))).trans (by
    refine XS.aloadN X13.here hexec rfl (hb hbytes d51) rfl rfl ?_
    refine XS.aload X13.here hexec rfl (hb hbytes d52) rfl rfl ?_
    exact Steps.refl _)
  obtain ⟨T15, X15, p15, bl15, sl15, st15⟩ := X13.finit hexec hown (wk W (.fieldLink "java/lang/String" 9 "java/lang/String" "value" "[B")) (Or.inr ⟨_, (wk W (.laysFinal "java/lang/String" "java/lang/String" "value" "[B"))⟩) (Or.inl ⟨rfl, hnm⟩) f1 (Or.inl rfl) bl13 (t := (.array .byte)) (by decide +kernel) rfl (g := (mkF m 54 #[.val (.ref a), .val (.ref b), .val (.int (Int32.ofNat o)), .val (.int (Int32.ofNat len)), .val .null, .val (.ref s.heap.size)] [.ref s.heap.size, .ref a])) rfl (rest := []) rfl (hb hbytes d54)
  have c16 : Steps p.tables e below (s₁.setTop (entryFrame m #[.ref a, .ref b, .int (Int32.ofNat o), .int (Int32.ofNat len), .null] 6)) (T15.setTop (mkF m 57 #[.val (.ref a), .val (.ref b), .val (.int (Int32.ofNat o)), .val (.int (Int32.ofNat len)), .val .null, .val (.ref s.heap.size)] [])) := c14.trans (st15 _ (Steps.refl _))
  have ap := apart (Or.inr ⟨_, (wk W (.laysFinal "java/lang/String" "java/lang/String" "value" "[B"))⟩) (Or.inr ⟨_, (wk W (.laysFinal "java/lang/String" "java/lang/String" "coder" "B"))⟩) f1 f2 (t₁ := .array .byte) (t₂ := .byte) (by decide +kernel) (by decide +kernel) (by decide)
  have al := X8.warmed.alike.symm.trans X15.warmed.alike
  have n7 : T11.heap[s.heap.size]? = some N := by rw [q11]; exact n1.1
  exact ⟨T15, none, _, _, _, X15, by simp, rfl, by omega, (fun _ => rfl), ⟨rfl, _, N, bl15, ((Same.refl D _).set _ (by simp)).set _ (by simp), sl15, (Cell.slots_setSlot_ne _ ap).trans sl13, n1.keep al (p15.other hne (p13.other hne n7)), n2, by rw [al.findClass]; exact n3, n4, n5, fun y c h1 h2 => p15.other h1 (p13.other h1 (by rw [q11]; exact n6 y c h2)), by rw [p15.2.2, p13.2.2, q11]; exact z8⟩, fun fs hl => c16.trans (X15.returnOut hexec hret (hb hbytes d57) hl)⟩
end New4
namespace New1
def yN : MethodName := ⟨"java/lang/String", "<init>", "([C)V"⟩
abbrev yB : ByteArray := jdk_42_method_3_code
theorem d0 : decode yB 0 = .ok (.aload_n 0, 1) := by decide +kernel
theorem d1 : decode yB 1 = .ok (.aload_n 1, 1) := by decide +kernel
theorem d2 : decode yB 2 = .ok (.iconst 0, 1) := by decide +kernel
theorem d3 : decode yB 3 = .ok (.aload_n 1, 1) := by decide +kernel
theorem d4 : decode yB 4 = .ok (.arraylength, 1) := by decide +kernel
theorem d5 : decode yB 5 = .ok (.aconst_null, 1) := by decide +kernel
theorem d6 : decode yB 6 = .ok (.invokespecial 27, 3) := by decide +kernel
theorem d9 : decode yB 9 = .ok (.return_, 1) := by decide +kernel
def site : List Cond := [New4.tab] ++ initW "java/lang/String" 27 New4.yN
def tab : Cond := tabOf yN yB 2 none site
def P (a : Addr) (D : Cell) (fV fC : Field) (b : Addr) (A : Cell) (z : Int32) (args : Array Value) (s : State) : Prop := args = #[.ref a, .ref b] ∧ Blank "java/lang/String" a D s ∧ Found "java/lang/String" "value" "[B" fV s ∧ Found "java/lang/String" "coder" "B" fC s ∧ Ch b A s ∧ StaticIs s "java/lang/String" "COMPACT_STRINGS" "Z" (.int z) ∧ ¬ z = 0 ∧ 0 < A.slots.size ∧ A.slots.size ≤ 536870912 ∧ ∀ i, i < A.slots.size → ¬ 255 < cv A i
def E (a : Addr) (D : Cell) (fV fC : Field) (A : Cell) (r : Option Value) (s u : State) : Prop := Got a D fV fC A 0 A.slots.size r s u
/-- new String(chars), not empty, no char above 255: a Latin-1 String of their low bytes -/
theorem law (l : Launch) (a : Addr) (D : Cell) (fV fC : Field) (b : Addr) (A : Cell) (z : Int32) : Law l yN 2 1 3 52 yB 2 none site (P a D fV fC b A z) (E a D fV fC A) [⟨a, fC.slot⟩, ⟨a, fV.slot⟩] 1 A.slots.size := by
  refine Law.of_walk (plainFor_of_name (by decide +kernel)) (by decide +kernel) (by decide +kernel) (by decide) (fun _ _ h => by rw [h.1]; rfl) (fun _ U U' hal hh h => ⟨h.1, h.2.1.mv hal hh, h.2.2.1.al hal, h.2.2.2.1.al hal, h.2.2.2.2.1.mv hal hh, h.2.2.2.2.2.1.there hal hh, h.2.2.2.2.2.2⟩) (fun r U U' V V' h1 hal h2 h => Got.mv r U U' V V' h1 hal h2 h) ?_
  intro p e s m args below meth c s₁ X0 hexec hbytes hml hret hlk hnm hown hh0 W hP
  obtain ⟨rfl, hB, f1, f2, hA, s1, hz, l0, l2, hp⟩ := hP
  have c1 : Steps p.tables e below (s₁.setTop (entryFrame m #[.ref a, .ref b] 2)) (s₁.setTop (mkF m 0 #[.val (.ref a), .val (.ref b)] [])) := entry rfl
  have c2 : Steps p.tables e below (s₁.setTop (entryFrame m #[.ref a, .ref b] 2)) (s₁.setTop (mkF m 6 #[.val (.ref a), .val (.ref b)] [.null, .int (Int32.ofNat A.slots.size), .int 0, .ref b, .ref a])) := c1.trans (by
    refine XS.aloadN X0.here hexec rfl (hb hbytes d0) rfl rfl ?_
    refine XS.aloadN X0.here hexec rfl (hb hbytes d1) rfl rfl ?_
    refine iconstV X0.here hexec rfl 0 (hb hbytes d2) (by decide) ?_
    refine XS.aloadN X0.here hexec rfl (hb hbytes d3) rfl rfl ?_
    refine X0.alen hexec (hA.1.mv X0.warmed.alike hh0) rfl rfl (hb hbytes d4) ?_
    refine XS.aconstNull X0.here hexec rfl (hb hbytes d5) ?_
    exact Steps.refl _)
  obtain ⟨v3, T3, X3, E3, g3⟩ := X0.callN hexec (New4.law l a D fV fC b A z 0 A.slots.size) rfl hown (wks W (initW "java/lang/String" 27 New4.yN)) (W New4.tab (by simp only [site, List.mem_cons, List.mem_append, true_or, or_true])) (W := 0) (Nat.le_of_ble_eq_true rfl) (Nat.le_of_ble_eq_true rfl) (Nat.le_refl _) (by show 0 + A.slots.size ≤ A.slots.size; omega) (g := (mkF m 6 #[.val (.ref a), .val (.ref b)] [.null, .int (Int32.ofNat A.slots.size), .int (Int32.ofNat 0), .ref b, .ref a])) rfl (by rw [hml]; rfl) c2 (argsL := [.ref b, .int (Int32.ofNat 0), .int (Int32.ofNat A.slots.size), .null]) (rest := []) rfl rfl (by show 2 * 0 + 0 ≤ _; decide) (hb hbytes d6) (⟨rfl, hB.mv X0.warmed.alike hh0, f1.al X0.warmed.alike, f2.al X0.warmed.alike, hA.mv X0.warmed.alike hh0, s1.there X0.warmed.alike hh0, hz, l0, by omega, l2, fun i hi => by rw [Nat.zero_add]; exact hp i hi⟩)
  have e0 := Got.mv _ s₁ s _ _ hh0.symm (Vm.Alike.refl _) rfl E3
  obtain rfl := e0.1
  have c4 : Steps p.tables e below (s₁.setTop (entryFrame m #[.ref a, .ref b] 2)) (T3.setTop (mkF m 9 #[.val (.ref a), .val (.ref b)] [])) := g3
  exact ⟨T3, none, _, _, _, X3, by simp, rfl, by omega, (fun _ => rfl), e0, fun fs hl => c4.trans (X3.returnOut hexec hret (hb hbytes d9) hl)⟩
theorem pays {l : Launch} {R : Room} {p : Program} {e : Env} {below : List Frame} {s : State} {sargs : Array Value} {len W : Nat} (a : Addr) (D : Cell) (fV fC : Field) (b : Addr) (A : Cell) (z : Int32) (htab : tab.before sargs s = true) (hfr : 4 ≤ R.frames) (hlo : W + 65 ≤ R.locals) :
    Back l R p e below s sargs yN len W (fun A₁ a₁ => A₁.cells + 1 ≤ R.cells ∧ A₁.slots + A.slots.size ≤ R.slots ∧ P a D fV fC b A z a₁ A₁.U) (fun A₁ _ v₁ B₁ => E a D fV fC A v₁ A₁.U B₁.U ∧ B₁.locs = A₁.locs ++ [⟨a, fC.slot⟩, ⟨a, fV.slot⟩] ∧ B₁.cells = A₁.cells + 1 ∧ B₁.slots = A₁.slots + A.slots.size) :=
  (law l a D fV fC b A z).pays htab hfr (by omega)
end New1
end StrChars
namespace StrChars.Road
open Jvm Sem ClassFile Op Lib Jvm.Stand Jvm.Free Jvm.Free.XT
open Jvm.Lib.Cold (StaticIs)
abbrev ST : String := "java/lang/String"
/-- every table word that New1's law asks, flat -/
abbrev words : List Jvm.Cond := [.code New1.yN New1.yB 2 none, .initialized ST, .methodLink ST 27 New4.yN, .instanceMethod New4.yN,
  .code New4.yN New4.yB 6 none, .fieldLink ST 38 ST "COMPACT_STRINGS" "Z", .laysFinal ST ST "value" "[B", .fieldLink ST 9 ST "value" "[B", .laysFinal ST ST "coder" "B", .fieldLink ST 15 ST "coder" "B",
  .methodLink ST 1 Lib.objectInit, .instanceMethod Lib.objectInit, .code Lib.objectInit ⟨#[0xb1]⟩ 1 none, .methodLink ST 177 Cmp3.yN, .static Cmp3.yN, .methodLink ST 47 CodL.yN, .static CodL.yN,
  .code Cmp3.yN Cmp3.yB 6 (some (.array .byte)), .initialized U16, .arrayClass .byte, .methodLink U16 115 Cmp5.yN, .static Cmp5.yN, .code Cmp5.yN Cmp5.yB 7 (some .int), .code CodL.yN CodL.yB 2 (some .byte)]
theorem tab_of {a : Array Value} {s : State} (h : ∀ w ∈ words, w.before a s = true) : New1.tab.before a s = true := by
  have h5 : Cmp5.tab.before a s = true := unparts (wk h (.code Cmp5.yN Cmp5.yB 7 (some .int))) (wks h (.initialized Cmp5.yN.cls :: Cmp5.site))
  have hc : CodL.tab.before a s = true := unparts (wk h (.code CodL.yN CodL.yB 2 (some .byte))) (wks h (.initialized CodL.yN.cls :: CodL.site))
  have q5 : ∀ w ∈ Cmp5.tab :: words, w.before a s = true := fun w hw => (List.mem_cons.mp hw).elim (fun e => e ▸ h5) (h w)
  have h3 : Cmp3.tab.before a s = true := unparts (wk q5 (.code Cmp3.yN Cmp3.yB 6 (some (.array .byte)))) (wks q5 (.initialized Cmp3.yN.cls :: Cmp3.site))
  have q3 : ∀ w ∈ Cmp3.tab :: CodL.tab :: words, w.before a s = true := fun w hw => (List.mem_cons.mp hw).elim (fun e => e ▸ h3) fun hw => (List.mem_cons.mp hw).elim (fun e => e ▸ hc) (h w)
  have h4 : New4.tab.before a s = true := unparts (wk q3 (.code New4.yN New4.yB 6 none)) (wks q3 (.initialized New4.yN.cls :: New4.site))
  have q4 : ∀ w ∈ New4.tab :: words, w.before a s = true := fun w hw => (List.mem_cons.mp hw).elim (fun e => e ▸ h4) (h w)
  exact unparts (wk q4 (.code New1.yN New1.yB 2 none)) (wks q4 (.initialized New1.yN.cls :: New1.site))
/-- the words ride from the start Z to the walk's own state -/
theorem moved {Z s : State} {a0 args : Array Value} (hZ : Z.Warmed39 s.vm) (hw : ∀ d ∈ words, d.before a0 Z = true) : ∀ d ∈ words, d.before args s = true := fun d hd => by
  have q := hw d hd
  have t : ∀ d ∈ words, d = .arrayClass .byte ∨ (d.onTables && d.keepsFace) = true := by decide +kernel
  rcases t d hd with rfl | t
  · exact RoadKit.mvA hZ q
  · exact RoadKit.mv hZ q t
/-- WHAT COMES BACK, over the tables of the start Z: h the heap at the call, h' behind it -/
def Q (Z : State) (x : Addr) (A : Cell) (h : Heap) (v : Option Value) (h' : Heap) (L : List Loc) : Prop := v = none ∧ (∀ y ∈ L, y.base = x) ∧ RoadKit.Keep h h' [x] ∧ h'.size = h.size + 1 ∧ RoadKit.Exa Z h' x ST ∧ RoadKit.Fld Z h' x ST "value" "[B" (.ref h.size) ∧ RoadKit.Fld Z h' x ST "coder" "B" (.int 0) ∧
  (∃ V : Cell, RoadKit.Arr Z h' h.size V .byte ∧ V.vm = .none ∧ Z.vm.findClass "[B" = some V.cls ∧ V.slots.size = A.slots.size ∧ ∀ j, j < A.slots.size → V.slots[j]? = some (.int (lo8 (cv A j)))) ∧
  ∀ (O n d : String) (w : Value), RoadKit.Fld Z h x O n d w → RoadKit.slotOf Z O n d ≠ RoadKit.slotOf Z ST "value" "[B" → RoadKit.slotOf Z O n d ≠ RoadKit.slotOf Z ST "coder" "B" → RoadKit.Fld Z h' x O n d w
/-- **new String(chars) AT A CALL, IN THE ROAD'S FORM**: for specialBack behind newO: x the fresh String, b the char[] with the cell A -/
theorem back {p : Program} {l : Launch} {e : Env} {R : Room} {s : State} {args : Array Value} {below : List Frame} {len W : Nat} {Z : State} {a0 : Array Value} {h : Heap} (hZ : Z.Warmed39 s.vm) (hw : ∀ d ∈ words, d.before a0 Z = true) {kI : Nat} (wi : (Jvm.Cond.instantiable ST kI).before a0 Z = true)
    {x b : Addr} {A : Cell} {z : Int32} {v0 c0 : Value} (E : RoadKit.Exa Z h x ST) (V : RoadKit.Fld Z h x ST "value" "[B" v0) (C : RoadKit.Fld Z h x ST "coder" "B" c0) (K : RoadKit.Arr Z h b A .char) (hty : Typed .char A) (S : RoadKit.Sta Z h ST "COMPACT_STRINGS" "Z" (.int z)) (hz : ¬ z = 0)
    (l0 : 0 < A.slots.size) (l2 : A.slots.size ≤ 536870912) (hp : ∀ i, i < A.slots.size → ¬ 255 < cv A i) (hfr : 4 ≤ R.frames) (hlo : W + 65 ≤ R.locals) :
    Back l R p e below s args New1.yN len W (fun P a => a = #[.ref x, .ref b] ∧ P.U.heap = h ∧ P.cells + 1 ≤ R.cells ∧ P.slots + A.slots.size ≤ R.slots)
      (fun P _ v B => ∃ L, Q Z x A h v B.U.heap L ∧ B.locs = P.locs ++ L ∧ B.cells = P.cells + 1 ∧ B.slots = P.slots + A.slots.size) := by
  intro m meth c P g ig mk a X hg hsize hdg hW hn hp'
  obtain ⟨rfl, rfl, r1, r2⟩ := hp'
  have al : Z.vm.Alike P.U.vm := hZ.alike.trans X.warmed.alike
  obtain ⟨D, cfV, kV, iV, fV, hD, gV, stV, knV, obV, asV, slV⟩ := id V
  obtain ⟨D', cfC, kC, iC, fC, hD', gC, stC, -, -, asC, slC⟩ := id C
  cases hD.symm.trans hD'
  obtain ⟨D2, kD, e1, e2, e3, e4, e5⟩ := id E
  cases hD.symm.trans e1
  obtain ⟨c2, k2, i1, i2, i3, -⟩ := Cond.instantiable_spec wi
  cases e2.symm.trans i1
  cases e3.symm.trans i2
  obtain ⟨kU, u1, u2⟩ := al.2.2 _ _ e3
  have hB : Blank ST x D P.U := ⟨hD, ⟨knV, fun q hq => by rw [hq] at obV; cases obV⟩, by rw [al.findClass]; exact e2, kU, u1, by rw [u2]; exact i3, by rw [u2]; exact e5 i3⟩
  have F1 : Found ST "value" "[B" fV P.U := ⟨SBG.found_only al ⟨cfV, kV, iV, gV⟩, stV⟩
  have F2 : Found ST "coder" "B" fC P.U := ⟨SBG.found_only al ⟨cfC, kC, iC, gC⟩, stC⟩
  have hA : Ch b A P.U := ⟨⟨K.1, State.isArrayOf_alike al K.2.1, K.2.2, by omega⟩, hty⟩
  have hS : StaticIs P.U ST "COMPACT_STRINGS" "Z" (.int z) := by
    obtain ⟨cfS, iS, kS, fS, st, cS, t1, t2, t3, t4, t5, t6, t7⟩ := S
    exact StaticIs.there (s := { Z with heap := P.U.heap }) ⟨cfS, iS, kS, fS, st, cS, t1, t2, t3, t4, t5, (fun q => by rw [q] at t6; cases t6), t7⟩ al rfl
  obtain ⟨v, B, X', ⟨⟨hv, E', V', q1, q2, q3, q4, q5, q6, q7, q8, q9, q10, q11⟩, hl, hc, hs⟩, st⟩ := New1.pays x D fV fC b A z (tab_of (moved hZ hw)) hfr hlo m meth c P g ig mk _ X hg hsize hdg hW hn ⟨r1, r2, rfl, hB, F1, F2, hA, hS, hz, l0, l2, hp⟩
  have al' : Z.vm.Alike B.U.vm := hZ.alike.trans X'.warmed.alike
  have hsz : E'.slots.size = D.slots.size := by
    obtain ⟨-, -, -, kB, w1, w2, w3⟩ := q1
    obtain ⟨kB', y1, y2⟩ := al'.2.2 _ _ e3
    rw [q2.2.1] at w1
    cases w1.symm.trans y1
    rw [w3, e5 i3, y2]
  refine ⟨v, B, X', ⟨_, ⟨hv, ?_, ⟨by omega, fun y cy hy hn' => q10 y cy (by simpa using hn') hy, fun y cy hy => ?_⟩, q11, ⟨E', _, q1.1, by rw [q2.2.1]; exact e2, by rw [q2.2.1]; exact e3, by rw [q2.1]; exact obV, fun _ => by rw [hsz]; exact e5 i3⟩,
    ⟨E', cfV, kV, iV, fV, q1.1, gV, stV, by rw [q2.1]; exact knV, by rw [q2.1]; exact obV, by rw [q2.2.1]; exact asV, q3⟩, ⟨E', cfC, kC, iC, fC, q1.1, gC, stC, by rw [q2.1]; exact knV, by rw [q2.1]; exact obV, by rw [q2.2.1]; exact asC, q4⟩,
    ⟨V', ⟨q5.1, State.isArrayOf_alike al'.symm q5.2.1, q5.2.2.1⟩, q6, by rw [← al'.findClass]; exact q7, q8, fun j hj => by have := q9 j hj; rwa [Nat.zero_add] at this⟩, fun O n d w F n1 n2 => ?_⟩, hl, hc, hs⟩, st⟩
  · intro y hy
    simp only [List.mem_cons, List.not_mem_nil, or_false] at hy
    rcases hy with rfl | rfl <;> rfl
  · by_cases q : y = x
    · subst q
      cases hD.symm.trans hy
      exact ⟨E', q1.1, q2.2.1, q2.1, hsz⟩
    · exact ⟨cy, q10 y cy q hy, rfl, rfl, rfl⟩
  · obtain ⟨D3, cf, k, i, f, g1, g2, g3, g4, g5, g6, g7⟩ := F
    cases hD.symm.trans g1
    simp only [RoadKit.slotOf, g2, gV, gC, Option.map_some, Option.getD_some] at n1 n2
    exact ⟨E', cf, k, i, f, q1.1, g2, g3, by rw [q2.1]; exact g4, by rw [q2.1]; exact g5, by rw [q2.2.1]; exact g6, by rw [q2.2.2 f.slot (by simp [n1, n2])]; exact g7⟩
end StrChars.Road
namespace StrChars.Road
open Jvm Sem ClassFile Op Lib Jvm.Stand Jvm.Free Jvm.Free.XT
/-- WHAT COMES BACK, the byte[] as a list of values -/
def QA (Z : State) (x : Addr) (zn : Int32) (cs : List Int32) (h : Heap) (v : Option Value) (h' : Heap) (L : List Loc) : Prop := v = none ∧ (∀ y ∈ L, y.base = x) ∧ RoadKit.Keep h h' [x] ∧ h'.size = h.size + 1 ∧ RoadKit.Exa Z h' x ST ∧ RoadKit.Fld Z h' x ST "value" "[B" (.ref h.size) ∧ RoadKit.Fld Z h' x ST "coder" "B" (.int 0) ∧
  (∃ kb, Z.vm.findClass "[B" = some kb ∧ RoadKit.Arv Z h' h.size kb .byte zn (cs.map fun c => .int (lo8 c)) (.int 0)) ∧
  ∀ (O n d : String) (w : Value), RoadKit.Fld Z h x O n d w → RoadKit.slotOf Z O n d ≠ RoadKit.slotOf Z ST "value" "[B" → RoadKit.slotOf Z O n d ≠ RoadKit.slotOf Z ST "coder" "B" → RoadKit.Fld Z h' x O n d w
/-- **new String(chars) AT A CALL, THE ARRAYS AS LISTS**: the char[] at b holds cs, not empty, no char above 255 -/
theorem backArv {p : Program} {l : Launch} {e : Env} {R : Room} {s : State} {args : Array Value} {below : List Frame} {len W : Nat} {Z : State} {a0 : Array Value} {h : Heap} (hZ : Z.Warmed39 s.vm) (hw : ∀ d ∈ words, d.before a0 Z = true) {kI : Nat} (wi : (Jvm.Cond.instantiable ST kI).before a0 Z = true)
    {x b : Addr} {k : ClassId} {zn z : Int32} {cs : List Int32} {dv v0 c0 : Value} (E : RoadKit.Exa Z h x ST) (V : RoadKit.Fld Z h x ST "value" "[B" v0) (C : RoadKit.Fld Z h x ST "coder" "B" c0) (K : RoadKit.Arv Z h b k .char zn (cs.map Value.int) dv) (S : RoadKit.Sta Z h ST "COMPACT_STRINGS" "Z" (.int z)) (hz : ¬ z = 0)
    (hlen : zn.toNatClampNeg = cs.length) (h0 : 0 < cs.length) (hbig : cs.length ≤ 536870912) (hall : ∀ c ∈ cs, ¬ 255 < c) (hfr : 4 ≤ R.frames) (hlo : W + 65 ≤ R.locals) :
    Back l R p e below s args New1.yN len W (fun P a => a = #[.ref x, .ref b] ∧ P.U.heap = h ∧ P.cells + 1 ≤ R.cells ∧ P.slots + cs.length ≤ R.slots)
      (fun P _ v B => ∃ L, QA Z x zn cs h v B.U.heap L ∧ B.locs = P.locs ++ L ∧ B.cells = P.cells + 1 ∧ B.slots = P.slots + cs.length) := by
  obtain ⟨A, K1, K2, K3, K4, K5, K6⟩ := K
  have e : A.slots.size = cs.length := K3.trans hlen
  have hat : ∀ (i : Nat) (hi : i < cs.length), A.slots[i]? = some (.int cs[i]) := fun i hi => by rw [K5 i (by omega)]; simp [List.getD_eq_getElem?_getD, hi]
  have hcv : ∀ (i : Nat) (hi : i < cs.length), cv A i = cs[i] := fun i hi => by unfold cv; rw [hat i hi]
  have hty : Typed .char A := fun i v hv => by
    have hi : i < A.slots.size := (Array.getElem?_eq_some_iff.mp hv).1
    have q := K5 i hi
    rw [hv] at q
    rw [Option.some.inj q]
    exact K6 i hi
  refine Back.mono (back hZ hw wi E V C K1 hty S hz (by omega) (by omega) (fun i hi => by rw [hcv i (by omega)]; exact hall _ (List.getElem_mem _)) hfr hlo) (fun P a hp => ⟨hp.1, hp.2.1, hp.2.2.1, by rw [e]; exact hp.2.2.2⟩) (fun P a v B hp hq => ?_)
  obtain ⟨L, ⟨q1, q2, q3, q4, q5, q6, q7, ⟨V', v1, v2, v3, v4, v5⟩, q9⟩, hl, hc, hs⟩ := hq
  refine ⟨L, ⟨q1, q2, q3, q4, q5, q6, q7, ⟨V'.cls, v3, V', v1, rfl, by rw [v4, e, hlen], K4, fun i hi => ?_, fun i hi => ?_⟩, q9⟩, hl, hc, by rw [hs, e]⟩
  · have hi' : i < cs.length := by omega
    rw [v5 i (by omega), hcv i hi']; simp [List.getD_eq_getElem?_getD, hi']
  · have hi' : i < cs.length := by omega
    simp only [List.getD_eq_getElem?_getD, List.getElem?_map, List.getElem?_eq_getElem hi', Option.map_some, Option.getD_some]
    exact fits_lo8 _
end StrChars.Road
namespace StrChars.Road
open Jvm Sem ClassFile Op Lib Jvm.Stand Jvm.Free Jvm.Free.XT
/-- WHAT COMES BACK, in the writer's own shape -/
def QV (Z : State) (x : Addr) (N : Int32) (bs : List Int32) (h : Heap) (n0 : Nat) (v : Option Value) (h' : Heap) (L : List Loc) : Prop := v = none ∧ RoadKit.Fr n0 L ∧ RoadKit.Keep h h' [x] ∧ RoadKit.Exa Z h' x ST ∧ RoadKit.Fld Z h' x ST "coder" "B" (.int 0) ∧
  ∃ (t : Addr) (kb : ClassId), n0 ≤ t ∧ h.size ≤ t ∧ ¬ t = x ∧ RoadKit.Fld Z h' x ST "value" "[B" (.ref t) ∧ RoadKit.Arv Z h' t kb .byte N (bs.map Value.int) (.int 0)
/-- **new String(chars) AT A CALL, FOR THE WRITER**: a char[] of n known ints, each 0 to 255 -/
theorem backV {p : Program} {l : Launch} {e : Env} {R : Room} {s : State} {args : Array Value} {below : List Frame} {len W : Nat} {Z : State} {a0 : Array Value} {h : Heap} (hZ : Z.Warmed39 s.vm) (hw : ∀ d ∈ words, d.before a0 Z = true) {kI : Nat} (wi : (Jvm.Cond.instantiable ST kI).before a0 Z = true)
    {x b : Addr} {kC : ClassId} {cs bs : List Int32} {d v0 c0 : Value} {z N : Int32} {n n0 : Nat} (hx0 : n0 ≤ x) (hh0 : n0 ≤ h.size) (E : RoadKit.Exa Z h x ST) (V : RoadKit.Fld Z h x ST "value" "[B" v0) (C : RoadKit.Fld Z h x ST "coder" "B" c0) (K : RoadKit.Arv Z h b kC .char N (cs.map Value.int) d) (S : RoadKit.Sta Z h ST "COMPACT_STRINGS" "Z" (.int z)) (hz : ¬ z = 0)
    (hn : cs.length = n) (hN : N = Int32.ofNat n) (l0 : 0 < n) (l2 : n ≤ 4000) (hp : ∀ c ∈ cs, ¬ c < 0 ∧ ¬ (255 : Int32) < c) (hb : bs = cs.map (fun c => c.toInt8.toInt32)) (hfr : 4 ≤ R.frames) (hlo : W + 65 ≤ R.locals) :
    Back l R p e below s args (⟨"java/lang/String", "<init>", "([C)V"⟩ : MethodName) len W (fun P a => a = #[.ref x, .ref b] ∧ P.U.heap = h ∧ P.cells + 1 ≤ R.cells ∧ P.slots + n ≤ R.slots)
      (fun P _ v B => ∃ L, QV Z x N bs h n0 v B.U.heap L ∧ B.locs = P.locs ++ L ∧ B.cells = P.cells + 1 ∧ B.slots = P.slots + n) := by
  subst hn hN hb
  refine Back.mono (backArv hZ hw wi E V C K S hz (n32 (by omega)) l0 (by omega) (fun c hc => (hp c hc).2) hfr hlo) (fun P a hp => hp) (fun P a v B hp hq => ?_)
  obtain ⟨L, ⟨q1, q2, q3, q4, q5, q6, q7, ⟨kb, v1, v2⟩, q9⟩, hl, hc, hs⟩ := hq
  exact ⟨L, ⟨q1, fun y hy => by rw [q2 y hy]; exact hx0, q3, q5, q7, h.size, kb, hh0, Nat.le_refl _, Nat.ne_of_gt E.lt, q6, by rw [List.map_map]; exact v2⟩, hl, hc, hs⟩
end StrChars.Road
namespace StrChars
open Jvm Sem ClassFile Op Lib Jvm.Stand Jvm.Free.XT Jvm.Free.ALB Jvm.Free.JM Jvm.Free
open Jvm.Lib.Cold (StaticIs)
def hi8 (x : Int32) : Int32 := lo8 (x >>> ((8 : Int32) &&& 31))
end StrChars
namespace StrChars.Road
open Jvm Sem ClassFile Op Lib Jvm.Stand Jvm.Free Jvm.Free.XT
open Jvm.Lib.Cold (StaticIs)
/-- the bytes of the chars cs, low before high -/
def wideBytes : List Int32 → List Value
  | [] => []
  | c :: cs => .int (lo8 c) :: .int (hi8 c) :: wideBytes cs
/-- an array of N2 bytes vs codes the chars cs by the coder cd -/
def CodA (cs : List Int32) (cd N2 : Int32) (vs : List Value) : Prop := (cd = 0 ∧ N2 = Int32.ofNat cs.length ∧ vs = (cs.map fun c => Value.int (lo8 c)) ∧ ∀ c ∈ cs, ¬ 255 < c) ∨ (cd = 1 ∧ N2 = Int32.ofNat (2 * cs.length) ∧ vs = wideBytes cs ∧ ∃ c ∈ cs, 255 < c)
end StrChars.Road
namespace StrChars.Road
open Jvm Sem ClassFile Op Lib Jvm.Stand Jvm.Free Jvm.Free.XT
open Jvm.Lib.Cold (StaticIs)
/-- what backV says of its String, as the contracts of this text ask it: cs's low bytes, coder 0 -/
theorem codOf {cs : List Int32} {n : Nat} (hn : cs.length = n) (hb : ∀ c ∈ cs, ¬ 255 < c) : CodA cs 0 (Int32.ofNat n) ((cs.map lo8).map Value.int) := Or.inl ⟨rfl, by rw [hn], by simp [List.map_map, Function.comp_def], hb⟩
end StrChars.Road
end Jvm.Pilot.@@N@@

namespace Jvm.Pilot.@@N@@
open Jvm Jvm.ClassFile Sem Op Lib Jvm.Free Jvm.Stand Jvm.LawKit Jvm.RoadKit Bundle Jvm.Pilot.@@N@@.Jvm.D
theorem own_w {Z : State} {a0 : Array Value} (hw : ∀ d ∈ tables_1, d.before a0 Z = true) (i : Nat) {d : Jvm.Cond} (h : tables_1[i]? = some d) : d.before a0 Z = true := hw d (List.mem_of_getElem? h)
abbrev own_Go (p : Program) (e : Env) (below : List Frame) (Φ : State → Outcome → Prop) (T : State) (g : JFrame) : Prop := ∃ s₂ o, Steps p.tables e below (T.setTop g) s₂ ∧ Φ s₂ o
section OwnGo
variable {p : Program} {e : Env} {below : List Frame} {Φ : State → Outcome → Prop} {T T' : State} {g g' : JFrame}
theorem own_step (st : ∀ target, Steps p.tables e below (T'.setTop g') target → Steps p.tables e below (T.setTop g) target) (k : own_Go p e below Φ T' g') : own_Go p e below Φ T g := by
  obtain ⟨t, o, h, r⟩ := k
  exact ⟨t, o, st t h, r⟩
theorem own_jump (st : Steps p.tables e below (T.setTop g) (T'.setTop g')) (k : own_Go p e below Φ T' g') : own_Go p e below Φ T g := by
  obtain ⟨t, o, h, r⟩ := k
  exact ⟨t, o, st.trans h, r⟩
theorem own_cast (q : g = g') (k : own_Go p e below Φ T g') : own_Go p e below Φ T g := q ▸ k
theorem own_insKeep {Z : State} {h h' : Heap} {a : Addr} {C : String} {ws : List Addr} (F : Ins Z h a C true) (K : Keep h h' ws) : Ins Z h' a C true := by
  obtain ⟨cell, cT, h1, h2, h3⟩ := F
  obtain ⟨c', q1, q2, q3, -⟩ := K.2.2 _ _ h1
  exact ⟨c', cT, q1, h2, by rw [q2, q3]; exact h3⟩
end OwnGo
section OwnCall
variable {p : Program} {l : Launch} {e : Env} {R : Room} {s : State} {m : MethodId} {args : Array Value} {below : List Frame} {meth : Method} {c : Code} {T : State} {locs : List Loc} {cells slots : Nat} {Z : State} {a0 : Array Value} {h : Heap}
  {own : String} {index : Nat} {y z : MethodName} {bytes : ByteArray} {maxL W k n : Nat} {ret : Option FieldType} {as' : Array Value} {Q : Option Value → Heap → List Loc → Prop} {g : JFrame} {argsL rest : List Value} {a : Addr} {C : String} {J J' : Vm → Prop}
/-- who pays a call: what it asks, what it leaves -/
abbrev own_Pay (l : Launch) (R : Room) (p : Program) (e : Env) (below : List Frame) (s : State) (args : Array Value) (y : MethodName) (len W : Nat) (as' : Array Value) (h : Heap) (k n : Nat) (Q : Option Value → Heap → List Loc → Prop) : Prop :=
  Back l R p e below s args y len W (fun A a => a = as' ∧ A.U.heap = h ∧ A.cells + k ≤ R.cells ∧ A.slots + n ≤ R.slots) (fun A _ v B => ∃ L, Q v B.U.heap L ∧ B.locs = A.locs ++ L ∧ B.cells = A.cells + k ∧ B.slots = A.slots + n)
abbrev own_PayW (l : Launch) (R : Room) (p : Program) (e : Env) (below : List Frame) (s : State) (args : Array Value) (y : MethodName) (len W : Nat) (as' : Array Value) (h : Heap) (k n : Nat) (J J' : Vm → Prop) (Q : Option Value → Heap → List Loc → Prop) : Prop :=
  BackS l R p e below s args y len W (fun A a => a = as' ∧ A.U.heap = h ∧ A.cells + k ≤ R.cells ∧ A.slots + n ≤ R.slots ∧ J A.U.vm) (fun A _ v B => ∃ L, (Q v B.U.heap L ∧ J' B.U.vm) ∧ B.locs = A.locs ++ L ∧ B.cells = A.cells + k ∧ B.slots = A.slots + n)
theorem own_cS (X : Stand p l e R s m args below meth c T locs cells slots) (hx : p.tables.exec = Jvm.exec) (hZ : Z.Warmed39 s.vm) (hown : s.vm.findClass own = some m.cls) (w1 : (Jvm.Cond.methodLink own index y).before a0 Z = true) (w2 : (Jvm.Cond.static y).before a0 Z = true) (w3 : (Jvm.Cond.initialized y.cls).before a0 Z = true) (w4 : (Jvm.Cond.code y bytes maxL ret).before a0 Z = true)
    (hy : y.cls ≠ "java/lang/invoke/MethodHandle" ∧ y.cls ≠ "java/lang/invoke/VarHandle") (hK : own_Pay l R p e below s args y 3 W as' h k n Q) (hg : g.method = m) (hsize : g.locals.size = c.maxLocals) (hlen : ∀ sig, parseMethodDescriptor y.desc = some sig → argsL.length = sig.parameters.length) (hstack : g.stack = argsL.reverse ++ rest)
    (hW : 2 * g.monitorRoom + (rest.map fun v => v.category).sum ≤ W) (hdg : decode c.code g.pc = .ok (.invokestatic index, 3)) (ha : argsL.toArray = as') (eT : T.heap = h) (hc : cells + k ≤ R.cells) (hs : slots + n ≤ R.slots) :
    ∃ v T' L, Stand p l e R s m args below meth c T' (locs ++ L) (cells + k) (slots + n) ∧ Q v T'.heap L ∧ Steps p.tables e below (T.setTop g) (T'.setTop { g with pc := g.pc + 3, stack := v.toList ++ rest }) := by
  obtain ⟨v, vm₁, ⟨T', L', c', n'⟩, -, X', ⟨L, hQ, e1, e2, e3⟩, st⟩ := Jvm.LawKit.callS X hx hown (mvT hZ w1) (mvT hZ w2) (mvT hZ w3) (mvT hZ w4) hy hK hg hsize hlen hstack hW hdg (fun _ _ => ⟨ha, eT, hc, hs⟩)
  dsimp only [Pt.U, Pt.locs, Pt.cells, Pt.slots] at X' e1 e2 e3 st hQ
  subst e1 e2 e3
  exact ⟨v, T', L, X', hQ, st _ (Steps.refl _)⟩
theorem own_cI (X : Stand p l e R s m args below meth c T locs cells slots) (hx : p.tables.exec = Jvm.exec) (hZ : Z.Warmed39 s.vm) (hy1 : y.name = "<init>") (hown : s.vm.findClass own = some m.cls) (w1 : (Jvm.Cond.methodLink own index y).before a0 Z = true) (w2 : (Jvm.Cond.instanceMethod y).before a0 Z = true) (w4 : (Jvm.Cond.code y bytes maxL none).before a0 Z = true)
    (hy : y.cls ≠ "java/lang/invoke/MethodHandle" ∧ y.cls ≠ "java/lang/invoke/VarHandle") (hK : own_Pay l R p e below s args y 3 W as' h k n Q) (hg : g.method = m) (hsize : g.locals.size = c.maxLocals) (hlen : ∀ sig, parseMethodDescriptor y.desc = some sig → argsL.length = sig.parameters.length) (hstack : g.stack = argsL.reverse ++ .ref a :: rest)
    (hW : 2 * g.monitorRoom + (rest.map fun v => v.category).sum ≤ W) (hdg : decode c.code g.pc = .ok (.invokespecial index, 3)) (ha : (.ref a :: argsL).toArray = as') (eT : T.heap = h) (hc : cells + k ≤ R.cells) (hs : slots + n ≤ R.slots) :
    ∃ v T' L, Stand p l e R s m args below meth c T' (locs ++ L) (cells + k) (slots + n) ∧ Q v T'.heap L ∧ Steps p.tables e below (T.setTop g) (T'.setTop { g with pc := g.pc + 3, stack := v.toList ++ rest }) := by
  obtain ⟨v, vm₁, ⟨T', L', c', n'⟩, -, X', ⟨L, hQ, e1, e2, e3⟩, st⟩ := X.specialBack hx hy1 hown (mvT hZ w1) (mvT hZ w2) (mvT hZ w4) hy hK hg hsize (Steps.refl _) hlen hstack hW hdg (fun _ _ => ⟨ha, eT, hc, hs⟩)
  dsimp only [Pt.U, Pt.locs, Pt.cells, Pt.slots] at X' e1 e2 e3 st hQ
  subst e1 e2 e3
  exact ⟨v, T', L, X', hQ, st⟩
theorem own_cV (X : Stand p l e R s m args below meth c T locs cells slots) (hx : p.tables.exec = Jvm.exec) (hZ : Z.Warmed39 s.vm) (hown : s.vm.findClass own = some m.cls) (w1 : (Jvm.Cond.methodLink own index y).before a0 Z = true) (w2 : (Jvm.Cond.declares y).before a0 Z = true) (hnf : NotFace s y) (w3 : (Jvm.Cond.selects C y z).before a0 Z = true) (w4 : (Jvm.Cond.instanceMethod z).before a0 Z = true)
    (hy : y.cls ≠ "java/lang/invoke/MethodHandle" ∧ y.cls ≠ "java/lang/invoke/VarHandle") (hK : own_Pay l R p e below s args z 3 W as' h k n Q) (E : Exa Z h a C) (hg : g.method = m) (hsize : g.locals.size = c.maxLocals) (hlen : ∀ sig, parseMethodDescriptor y.desc = some sig → argsL.length = sig.parameters.length) (hstack : g.stack = argsL.reverse ++ .ref a :: rest)
    (hW : 2 * g.monitorRoom + (rest.map fun v => v.category).sum ≤ W) (hdg : decode c.code g.pc = .ok (.invokevirtual index, 3)) (ha : (.ref a :: argsL).toArray = as') (eT : T.heap = h) (hc : cells + k ≤ R.cells) (hs : slots + n ≤ R.slots) :
    ∃ v T' L, Stand p l e R s m args below meth c T' (locs ++ L) (cells + k) (slots + n) ∧ Q v T'.heap L ∧ Steps p.tables e below (T.setTop g) (T'.setTop { g with pc := g.pc + 3, stack := v.toList ++ rest }) := by
  obtain ⟨cq, kq, q1, q2, q3⟩ := isOf hZ eT E
  obtain ⟨v, vm₁, ⟨T', L', c', n'⟩, -, X', ⟨L, hQ, e1, e2, e3⟩, st⟩ := X.virtualBack hx hown (mvT hZ w1) (mvT hZ w2) hnf (mvT hZ w3) (mvT hZ w4) hy hK q1 q3 hg hsize (Steps.refl _) hlen hstack hW hdg (fun _ _ => ⟨ha, eT, hc, hs⟩)
  dsimp only [Pt.U, Pt.locs, Pt.cells, Pt.slots] at X' e1 e2 e3 st hQ
  subst e1 e2 e3
  exact ⟨v, T', L, X', hQ, st⟩
end OwnCall
/-- a String of Latin-1 signs: its object, its byte[], its signs -/
def own_Str (Z : State) (h : Heap) (a t : Addr) (cs : List Int32) : Prop :=
  Exa Z h a "java/lang/String" ∧ Fld Z h a "java/lang/String" "coder" "B" (.int (0 : Int32)) ∧ Fld Z h a "java/lang/String" "value" "[B" (.ref t) ∧ (∃ kb, Arv Z h t kb .byte (Int32.ofNat cs.length) ((cs.map fun c => c.toInt8.toInt32).map Value.int) (.int 0)) ∧ (∀ c ∈ cs, ¬ c < 0 ∧ ¬ (255 : Int32) < c) ∧ cs.length ≤ 4000
section OwnStr
variable {Z : State} {h h' : Heap} {a t : Addr} {cs ds : List Int32} {ws : List Addr}
theorem own_Str.lt (F : own_Str Z h a t cs) : a < h.size := F.1.lt
theorem own_Str.ltT (F : own_Str Z h a t cs) : t < h.size := by obtain ⟨-, -, -, ⟨kb, A⟩, -⟩ := F; exact A.lt
theorem own_Str.ext (F : own_Str Z h a t cs) (E : Ext h h') : own_Str Z h' a t cs := by
  obtain ⟨f1, f2, f3, ⟨kb, f4⟩, f5⟩ := F
  exact ⟨f1.ext E, f2.ext E, f3.ext E, ⟨kb, f4.ext E⟩, f5⟩
theorem own_Str.keep (F : own_Str Z h a t cs) (K : Keep h h' ws) (qa : a ∉ ws) (qt : t ∉ ws) : own_Str Z h' a t cs := by
  obtain ⟨f1, f2, f3, ⟨kb, f4⟩, f5⟩ := F
  exact ⟨f1.keep K, f2.keep K qa, f3.keep K qa, ⟨kb, f4.keep K qt⟩, f5⟩
theorem own_neT {x : Addr} {C : String} {a0 : Array Value} {n : Nat} (E : Exa Z h x C) (F : own_Str Z h a t cs) (w : (Jvm.Cond.instantiable C n).before a0 Z = true) : x ≠ t := by
  obtain ⟨-, -, -, ⟨kb, f4⟩, -⟩ := F
  exact Exa.neArv E f4 w
theorem own_narLit : ∀ x : Int32, ¬ x < 0 → ¬ (65535 : Int32) < x → nar .char x = x := fun x h0 h1 => by
  have q := c_i2c x
  have r := rng32 x
  rw [Int32.lt_iff_toInt_lt] at h0 h1
  have e0 : (0 : Int32).toInt = 0 := rfl
  have e1 : (65535 : Int32).toInt = 65535 := rfl
  exact Int32.toInt_inj.mp (by show (x.toUInt32.toUInt16.toUInt32.toInt32).toInt = _; omega)
theorem own_up (hp : ∀ c ∈ cs, ¬ c < 0 ∧ ¬ (255 : Int32) < c) : ∀ c ∈ cs, ¬ c < 0 ∧ ¬ (65535 : Int32) < c := fun c hc => ⟨(hp c hc).1, fun q => (hp c hc).2 (by rw [Int32.lt_iff_toInt_lt] at q ⊢; have e1 : (65535 : Int32).toInt = 65535 := rfl; have e2 : (255 : Int32).toInt = 255 := rfl; omega)⟩
theorem own_sgc {c : Int32} (h : ¬ c < (0 : Int32) ∧ ¬ (255 : Int32) < c) : ¬ c < 0 ∧ ¬ (65535 : Int32) < c := own_up (cs := [c]) (fun x hx => by cases List.mem_singleton.mp hx; exact h) c (List.mem_singleton.mpr rfl)
theorem own_Str.sgD {i : Nat} (F : own_Str Z h a t cs) (hi : i < cs.length) : ¬ cs.getD i 0 < (0 : Int32) ∧ ¬ (255 : Int32) < cs.getD i 0 := by
  have e : cs.getD i 0 = cs[i] := by simp [List.getD, List.getElem?_eq_getElem hi]
  rw [e]
  exact F.2.2.2.2.1 _ (List.getElem_mem hi)
theorem own_Str.cast (F : own_Str Z h a t cs) (e : cs = ds) : own_Str Z h a t ds := e ▸ F
theorem own_nar255 (x : Int32) : nar .char (x &&& (255 : Int32)) = x &&& (255 : Int32) := i2c_mask x
theorem own_narB (x : Int32) : x.toInt8.toInt32.toInt8.toInt32 = x.toInt8.toInt32 := by
  rw [Int8.toInt8_toInt32]
theorem own_and255 (x : Int32) : ¬ x &&& (255 : Int32) < 0 ∧ ¬ (255 : Int32) < x &&& (255 : Int32) := by
  have h := c_and x 255 (by decide)
  have e : (255 : Int32).toInt = 255 := rfl
  rw [e] at h
  exact ⟨fun q => by rw [Int32.lt_iff_toInt_lt] at q; have e0 : (0 : Int32).toInt = 0 := rfl; omega, fun q => by rw [Int32.lt_iff_toInt_lt, e] at q; omega⟩
end OwnStr
theorem own_newS {p : Program} {l : Launch} {e : Env} {R : Room} {s : State} {args : Array Value} {below : List Frame} {len W : Nat} {Z : State} {a0 : Array Value} {h : Heap} (hZ : Z.Warmed39 s.vm) (hw : ∀ d ∈ tables_1, d.before a0 Z = true)
    {x b : Addr} {kC : ClassId} {cs : List Int32} {vs : List Value} {d v0 c0 : Value} {z N : Int32} {n n0 : Nat} (hx0 : n0 ≤ x) (hh0 : n0 ≤ h.size) (E : Exa Z h x "java/lang/String") (V : Fld Z h x "java/lang/String" "value" "[B" v0) (C : Fld Z h x "java/lang/String" "coder" "B" c0) (K : Arv Z h b kC .char N vs d) (S : Sta Z h "java/lang/String" "COMPACT_STRINGS" "Z" (.int z)) (hz : ¬ z = 0)
    (hv : vs = cs.map Value.int) (hn : cs.length = n) (hN : N = Int32.ofNat n) (l0 : 0 < n) (l2 : n ≤ 4000) (hp : ∀ c ∈ cs, ¬ c < 0 ∧ ¬ (255 : Int32) < c) (hfr : 4 ≤ R.frames) (hlo : W + 65 ≤ R.locals) :
    own_Pay l R p e below s args (⟨"java/lang/String", "<init>", "([C)V"⟩ : MethodName) len W #[.ref x, .ref b] h 1 n (fun v h' L => ∃ t, v = none ∧ Fr n0 L ∧ Keep h h' [x] ∧ h.size ≤ t ∧ own_Str Z h' x t cs) := by
  have hws : ∀ d ∈ StrChars.Road.words, d.before a0 Z = true := fun d hd => hw d ((by decide +kernel : ∀ d ∈ StrChars.Road.words, d ∈ tables_1) d hd)
  subst hv
  refine Back.mono (StrChars.Road.backV hZ hws (kI := 4) (hw _ ((by decide +kernel : Jvm.Cond.instantiable "java/lang/String" 4 ∈ tables_1))) (bs := cs.map fun c => c.toInt8.toInt32) hx0 hh0 E V C K S hz hn hN l0 l2 hp rfl hfr hlo) (fun P a hp => hp) (fun P a v B _ hq => ?_)
  obtain ⟨L, ⟨q1, q2, q3, q4, q5, t, kb, -, q6, -, q7, q8⟩, hl, hc, hs⟩ := hq
  exact ⟨L, ⟨t, q1, q2, q3, q6, q4, q5, q7, ⟨kb, by rw [hn, ← hN]; exact q8⟩, hp, by omega⟩, hl, hc, hs⟩
theorem own_one {c : Int32} (h0 : ¬ c < 0) (h1 : ¬ (255 : Int32) < c) : ∀ x ∈ [c], ¬ x < 0 ∧ ¬ (255 : Int32) < x := fun x hx => by
  cases List.mem_singleton.mp hx
  exact ⟨h0, h1⟩
section OwnWide
variable {p : Program} {l : Launch} {e : Env} {R : Room} {s : State} {args : Array Value} {below : List Frame} {Z : State} {a0 : Array Value} {h : Heap} {vm0 vm1 : Vm} {Ts Ts' : List String} {J J' : Vm → Prop}
theorem own_IB_warm (I : IB Z s.vm Ts) (hw : s.WarmedH vm1) : IB Z vm1 Ts := by
  obtain ⟨more, h1, h2⟩ := I
  exact ⟨more, by rw [hw.interned_eq]; exact h1, h2⟩
theorem own_IB_mono (I : IB Z vm0 Ts) (h : ∀ t ∈ Ts, t ∈ Ts') : IB Z vm0 Ts' := by
  obtain ⟨more, h1, h2⟩ := I
  exact ⟨more, h1, fun q hq => by obtain ⟨t, ht, e⟩ := h2 q hq; exact ⟨t, h t ht, e⟩⟩
theorem own_endMono {s t : State} {o : Outcome} {L : List Loc} {k n k' n' : Nat} (h : ReturnedEndW s o t L k n) (hk : k ≤ k') (hn : n ≤ n') : ReturnedEndW s o t L k' n' := ⟨h.1, h.2.1, h.2.2.1, h.2.2.2.mono hk hn⟩
theorem own_backI {y : MethodName} {bytes : ByteArray} {maxL : Nat} {ret : Option FieldType} {rm : Room} {len W : Nat} {as' : Array Value} {Q : Option Value → Heap → List Loc → Prop}
    (hM : MetFree l y (head1 [Cond.code y bytes maxL ret] rm) (fun a U => a = as' ∧ Z.Warmed39 U.vm ∧ U.heap = h ∧ J U.vm) (fun _ _ _ _ _ => True) (fun _ U o U' => ∃ v L, o = .returned v ∧ Q v U'.heap L ∧ J' U'.vm ∧ ReturnedEndW U o U' L rm.cells rm.slots))
    (hZ : Z.Warmed39 s.vm) (wc : (Cond.code y bytes maxL ret).before a0 Z = true) (wz : (Cond.initialized y.cls).before a0 Z = true) (hf : rm.frames + 1 ≤ R.frames) (hl : W + (maxL + 11) + rm.locals ≤ R.locals) :
    BackS l R p e below s args y len W (fun A a => a = as' ∧ A.U.heap = h ∧ A.cells + rm.cells ≤ R.cells ∧ A.slots + rm.slots ≤ R.slots ∧ J A.U.vm)
      (fun A _ v B => ∃ L, (Q v B.U.heap L ∧ J' B.U.vm) ∧ B.locs = A.locs ++ L ∧ B.cells = A.cells + rm.cells ∧ B.slots = A.slots + rm.slots) :=
  BackS.of_freeW (bytes := bytes) (maxL := maxL) (ret := ret) (E := fun _ _ o t L k n => k = rm.cells ∧ n = rm.slots ∧ ∃ v, o = .returned v ∧ Q v t.heap L ∧ J' t.vm) hM hf hl
    (fun m meth c A a Y hp => have hU : Z.Warmed39 A.U.vm := wtrans hZ Y.warmed
      ⟨by show (Cond.and _ .tt).before a A.U = true; rw [Cond.before_and, mv hU wc]; rfl, mv hU wc, mv hU wz, hp.2.2.1, hp.2.2.2.1⟩)
    (fun m meth c A a g mk Y hp => ⟨hp.1, wtrans hZ Y.warmed, hp.2.1, hp.2.2.2.2⟩) (fun _ _ _ _ _ _ _ _ _ => trivial)
    (fun _ _ _ _ ⟨v, L, h1, h2, h3, h4⟩ => ⟨L, _, _, h4, rfl, rfl, v, h1, h2, h3⟩)
    (fun m meth c A a g mk v t L k n Y hp _ _ ⟨e1, e2, v', e3, e4, e5⟩ => by cases e3; subst e1 e2; exact ⟨L, ⟨e4, e5⟩, rfl, rfl, rfl⟩)
end OwnWide
section OwnStart
variable {args : Array Value} {s : State} {t u : Term} {a : Addr} {cl : Cell} {ty : FieldType} {z k : Int32}
theorem own_eqInt (h : (Jvm.Cond.eq t (.int k)).value args s none s [] = some true) : t.eval args s none [] s = some (.int k) := by
  obtain ⟨x, y, h1, h2, h3, -⟩ := cmp_v (Or.inl h)
  cases h2
  cases x <;> simp [Kin, Value.isRef] at h3
  have := gotT (Cond.eq_ints h1 (Term.int_eval k)) h
  rw [h1, this]
theorem own_eqRef (h : (Jvm.Cond.eq t u).value args s none s [] = some true) (hu : u.eval args s none [] s = some (.ref a)) : t.eval args s none [] s = some (.ref a) := by
  obtain ⟨x, y, h1, h2, h3, h4⟩ := cmp_v (Or.inl h)
  cases hu.symm.trans h2
  have hx : x.isRef = true := by cases x <;> simp [Kin, Value.isRef] at h3 h4 ⊢
  have := gotT (eq_R h1 hu hx rfl) h
  rw [h1, this]
theorem own_len (h : (Term.length t).eval args s none [] s = some (.int z)) (ht : t.eval args s none [] s = some (.ref a)) (A : Arr s s.heap a cl ty) : cl.slots.size < 2 ^ 31 ∧ cl.slots.size.toInt32 = z := by
  have ha : s.arrayAt? a = some cl := Arr.fin (Vm.Alike.refl _) A
  simp only [Term.eval, ht, ha, Option.bind_eq_bind, Option.bind_some] at h
  split at h
  · rename_i q
    exact ⟨q, by simpa using h⟩
  · cases h
theorem own_elem {v : Value} {i : Nat} {j : Int32} (h : (Term.elem t (.int j)).eval args s none [] s = some v) (ht : t.eval args s none [] s = some (.ref a)) (A : Arr s s.heap a cl ty) (hi : j.toNatClampNeg = i) : cl.slots[i]? = some v := by
  have q := (elem_in h ht (Term.int_eval j) A.1).2
  rw [hi] at q
  exact q
theorem own_fld {C n d : String} {v : Value} (h : (Term.field t C n d).eval args s none [] s = some v) (ht : t.eval args s none [] s = some (.ref a)) : Fld s s.heap a C n d v := Fld.start (by rw [← fld_at ht]; exact h)
end OwnStart
def own_St (Z : State) (zc : Int32) (wO : Addr) : Prop := (Sta Z Z.heap "java/lang/String" "COMPACT_STRINGS" "Z" (.int zc)) ∧ (¬ zc = (0 : Int32)) ∧ (Sta Z Z.heap "com/example/schedule_to_run/scheduletorun/engine/Outcome" "CANCELLED" "Lcom/example/schedule_to_run/scheduletorun/engine/Outcome;" (.ref wO)) ∧ (Exa Z Z.heap wO "com/example/schedule_to_run/scheduletorun/engine/Outcome") ∧ (Jvm.Lit.compactW.before #[] Z = true) ∧ (Jvm.Lit.constHeld Z "java/lang/String" 7)
theorem dc_j42_m149_0 : decode jdk_42_method_149_code 0 = .ok (.aload_n 0, 1) := by decide +kernel
theorem dc_j42_m149_1 : decode jdk_42_method_149_code 1 = .ok (.invokespecial 1, 3) := by decide +kernel
theorem dc_j42_m149_4 : decode jdk_42_method_149_code 4 = .ok (.iload_n 3, 1) := by decide +kernel
theorem dc_j42_m149_5 : decode jdk_42_method_149_code 5 = .ok (.ifCond .ne 22, 3) := by decide +kernel
theorem dc_j42_m149_8 : decode jdk_42_method_149_code 8 = .ok (.aload_n 0, 1) := by decide +kernel
theorem dc_j42_m149_9 : decode jdk_42_method_149_code 9 = .ok (.ldc 7, 2) := by decide +kernel
theorem dc_j42_m149_11 : decode jdk_42_method_149_code 11 = .ok (.getfield 9, 3) := by decide +kernel
theorem dc_j42_m149_14 : decode jdk_42_method_149_code 14 = .ok (.putfield 9, 3) := by decide +kernel
theorem dc_j42_m149_17 : decode jdk_42_method_149_code 17 = .ok (.aload_n 0, 1) := by decide +kernel
theorem dc_j42_m149_18 : decode jdk_42_method_149_code 18 = .ok (.ldc 7, 2) := by decide +kernel
theorem dc_j42_m149_20 : decode jdk_42_method_149_code 20 = .ok (.getfield 15, 3) := by decide +kernel
theorem dc_j42_m149_23 : decode jdk_42_method_149_code 23 = .ok (.putfield 15, 3) := by decide +kernel
theorem dc_j42_m149_26 : decode jdk_42_method_149_code 26 = .ok (.return_, 1) := by decide +kernel
theorem pn_java_lang_String : plainName "java/lang/String" = true := by first | (simp [plainName, overriddenIn]; done) | decide +kernel
theorem ef_rmI4 (mm_ : MethodId) (x : Addr) (b : Addr) : entryFrame mm_ #[(.ref x), (.ref b), (.int (0 : Int32)), (.int (0 : Int32)), .null] 6 = (mkF mm_ 0 #[.val (.ref x), .val (.ref b), .val (.int (0 : Int32)), .val (.int (0 : Int32)), .val .null, .unset] []) := by first | (simp [entryFrame, mkF, argsToLocals, Value.category]; done) | rfl
def QrmI4 (Z : State) (x : Addr) (b : Addr) (tz : List String) (h0 : Heap) (n0 : Nat) (vv_ : Option Value) (hh_ : Heap) (LL_ : List Loc) : Prop := ∃ (t : Addr), (vv_ = none) ∧ (Fr n0 LL_) ∧ (Keep h0 hh_ [x]) ∧ (own_Str Z hh_ x t [])
set_option maxRecDepth 65536 in
set_option maxHeartbeats 40000000 in
theorem rmI4 (l : Launch) (Z : State) (a0 : Array Value) (hw : ∀ d ∈ tables_1, d.before a0 Z = true) (ws : List Jvm.Cond) (x : Addr) (b : Addr) (tz : List String) {zc : Int32} {wO : Addr} (h0 : Heap) (n0 : Nat) (O0 : Old Z n0 h0) (G_ : own_St Z zc wO) (pr0 : Exa Z h0 x "java/lang/String") (pr1 : Fld Z h0 x "java/lang/String" "value" "[B" .null) (pr2 : Fld Z h0 x "java/lang/String" "coder" "B" (.int (0 : Int32))) (g_x : n0 ≤ x) (hnz : "" ∉ tz) :
    MetFree l (⟨"java/lang/String", "<init>", "([CIILjava/lang/Void;)V"⟩ : MethodName) (head1 (Jvm.Cond.code (⟨"java/lang/String", "<init>", "([CIILjava/lang/Void;)V"⟩ : MethodName) jdk_42_method_149_code 6 none :: ws) ({ frames := 1, cells := 2, slots := 4, locals := 12 } : Room)) (fun aa_ UU_ => aa_ = #[(.ref x), (.ref b), (.int (0 : Int32)), (.int (0 : Int32)), .null] ∧ Z.Warmed39 UU_.vm ∧ UU_.heap = h0 ∧ (IB Z UU_.vm tz)) (fun _ _ _ _ _ => True) (fun _ UU_ oo_ UV_ => ∃ vv_ LL_, oo_ = .returned vv_ ∧ QrmI4 Z x b tz h0 n0 vv_ UV_.heap LL_ ∧ IB Z UV_.vm ("" :: tz) ∧ ReturnedEndW UU_ oo_ UV_ LL_ ({ frames := 1, cells := 2, slots := 4, locals := 12 } : Room).cells ({ frames := 1, cells := 2, slots := 4, locals := 12 } : Room).slots) := by
  refine MetFree.of_bodySF (plainFor_of_name pn_java_lang_String) hisR ?_
  intro pp_ ee_ ss_ mm_ args_ bb_ me_ cc_ s₁ Bd hml0 hP hK
  obtain ⟨rfl, hZ, hh, hI⟩ := hP
  have hx := Bd.exec
  have hby := Bd.bytes
  have hml : cc_.maxLocals = 6 := hml0
  have hown : ss_.vm.findClass "java/lang/String" = some mm_.cls := findClass_of_methodNamed Bd.named
  have hnm := (name_of_methodNamed Bd.named Bd.method).1
  have X0 : Stand pp_ l ee_ ({ frames := 1, cells := 2, slots := 4, locals := 12 } : Room) ss_ mm_ #[(.ref x), (.ref b), (.int (0 : Int32)), (.int (0 : Int32)), .null] bb_ me_ cc_ s₁ [] 0 0 := Stand.of_body Bd
  have e0 : s₁.heap = h0 := by rw [← hh, Bd.state]; rfl
  have N0 := Fr.nil n0
  have X0 : Stand pp_ l ee_ _ (ss_.setVm ss_.vm) mm_ _ bb_ me_ cc_ s₁ [] 0 0 := X0
  have hZ : Z.Warmed39 (ss_.setVm ss_.vm).vm := hZ
  have hown : (ss_.setVm ss_.vm).vm.findClass "java/lang/String" = some mm_.cls := hown
  have hS0 : ss_.Since ss_.vm 0 := (State.WarmedH.refl ss_).since 0
  have hkeep_ : ∀ (b : Addr) (cl : Cell), Z.heap[b]? = some cl → ss_.heap[b]? = some cl := by rw [hh]; exact O0.2.2
  have own_atoms_ : ∀ a ∈ Bundle.stringAtoms, a.before a0 Z = true := fun d hd => hw d ((by decide +kernel : ∀ d ∈ Bundle.stringAtoms, d ∈ tables_1) d hd)
  show own_Go pp_ ee_ bb_ (fun s₂ oo_ => s₂.status = .running ∧ Ended s₂ bb_ oo_ ∧ (∃ vv_ LL_, oo_ = .returned vv_ ∧ QrmI4 Z x b tz h0 n0 vv_ s₂.heap LL_ ∧ IB Z s₂.vm ("" :: tz) ∧ ReturnedEndW ss_ oo_ s₂ LL_ ({ frames := 1, cells := 2, slots := 4, locals := 12 } : Room).cells ({ frames := 1, cells := 2, slots := 4, locals := 12 } : Room).slots)) s₁ (entryFrame mm_ #[(.ref x), (.ref b), (.int (0 : Int32)), (.int (0 : Int32)), .null] 6)
  refine own_cast (ef_rmI4 mm_ x b) ?_
  have Z0 : n0 ≤ h0.size := by have q := O0.2.1; rw [O0.1] at q; exact q
  have K0 : Keep h0 h0 [x] := Keep.refl _ _
  obtain ⟨G_cs, G_cs0, G_S1, G_E2, G_cw, G_h_java_lang_String_7⟩ := id G_
  have own_cw_ : Jvm.Lit.compactW.before a0 Z = true := G_cw
  show own_Go _ _ _ _ s₁ (mkF mm_ 0 #[.val (.ref x), .val (.ref b), .val (.int (0 : Int32)), .val (.int (0 : Int32)), .val .null, .unset] [])
  refine own_step (fun t_ k_ => XS.aloadN X0.here hx rfl (hb hby dc_j42_m149_0) rfl rfl k_) ?_
  show own_Go _ _ _ _ s₁ (mkF mm_ 1 #[.val (.ref x), .val (.ref b), .val (.int (0 : Int32)), .val (.int (0 : Int32)), .val .null, .unset] [(.ref x)])
  obtain ⟨T1, X1, e1, st1⟩ := initO X0 hx hZ hown (own_w hw 15 rfl) (own_w hw 16 rfl) (own_w hw 17 rfl) e0 (g := (mkF mm_ 1 #[.val (.ref x), .val (.ref b), .val (.int (0 : Int32)), .val (.int (0 : Int32)), .val .null, .unset] [(.ref x)])) rfl (by rw [hml]; rfl) rfl (hb hby dc_j42_m149_1) (by decide) (W := 0) (by show 2 * 0 + _ ≤ _; exact Nat.le_of_eq rfl) (by decide)
  refine own_step st1 ?_
  show own_Go _ _ _ _ T1 (mkF mm_ 4 #[.val (.ref x), .val (.ref b), .val (.int (0 : Int32)), .val (.int (0 : Int32)), .val .null, .unset] [])
  refine own_step (fun t_ k_ => XS.iloadN X1.here hx rfl (hb hby dc_j42_m149_4) rfl  k_) ?_
  show own_Go _ _ _ _ T1 (mkF mm_ 5 #[.val (.ref x), .val (.ref b), .val (.int (0 : Int32)), .val (.int (0 : Int32)), .val .null, .unset] [(.int (0 : Int32))])
  refine own_step (fun t_ k_ => XS.ifNo X1.here hx rfl (hb hby dc_j42_m149_5) rfl ((if0 _ _).trans (teq (by decide : (0 : Int32) = (0 : Int32))).2) k_) ?_
  show own_Go _ _ _ _ T1 (mkF mm_ 8 #[.val (.ref x), .val (.ref b), .val (.int (0 : Int32)), .val (.int (0 : Int32)), .val .null, .unset] [])
  refine own_step (fun t_ k_ => XS.aloadN X1.here hx rfl (hb hby dc_j42_m149_8) rfl rfl k_) ?_
  show own_Go _ _ _ _ T1 (mkF mm_ 9 #[.val (.ref x), .val (.ref b), .val (.int (0 : Int32)), .val (.int (0 : Int32)), .val .null, .unset] [(.ref x)])
  obtain ⟨a2, T2, h2, k2, t2, kb2, X2, e2, E2, hS2, hk2, hZ2, hown2, Ex2, Fc2, Fv2, V2, -, -, I2, L2, st2⟩ := ldcSVL (s := ss_) (vm0 := ss_.vm) X1 hx hZ hown (own_w hw 18 rfl) own_atoms_ e1 hS0 (Nat.zero_le _) (by rw [hh]; exact (Fr.nil _)) hkeep_ hI (by first | assumption | decide) (G_h_java_lang_String_7) own_cw_ (vs := []) (z := (0 : Int32)) ⟨by decide, rfl⟩ (by decide) (by decide) (g := (mkF mm_ 9 #[.val (.ref x), .val (.ref b), .val (.int (0 : Int32)), .val (.int (0 : Int32)), .val .null, .unset] [(.ref x)])) rfl (hb hby dc_j42_m149_9) (n := 0) (by decide) (by decide) (by decide) (by decide)
  have Ls2 : own_Str Z h2 a2 t2 [] := ⟨Ex2, Fc2, Fv2, ⟨kb2, V2⟩, by decide, by decide⟩
  refine own_step st2 ?_
  show own_Go _ _ _ _ T2 (mkF mm_ 11 #[.val (.ref x), .val (.ref b), .val (.int (0 : Int32)), .val (.int (0 : Int32)), .val .null, .unset] [(.ref a2), (.ref x)])
  obtain ⟨T3, X3, e3, st3⟩ := getF X2 hx hZ2 hown2 (host := "") (Or.inl (own_w hw 24 rfl)) Via.refl e2 Fv2 (g := (mkF mm_ 11 #[.val (.ref x), .val (.ref b), .val (.int (0 : Int32)), .val (.int (0 : Int32)), .val .null, .unset] [(.ref a2), (.ref x)])) rfl rfl (hb hby dc_j42_m149_11)
  refine own_step st3 ?_
  show own_Go _ _ _ _ T3 (mkF mm_ 14 #[.val (.ref x), .val (.ref b), .val (.int (0 : Int32)), .val (.int (0 : Int32)), .val .null, .unset] [(.ref t2), (.ref x)])
  have f4 : Fld Z h2 x "java/lang/String" "value" "[B" .null := (pr1.ext E2)
  have f5 : Exa Z h2 x "java/lang/String" := (pr0.ext E2)
  obtain ⟨T6, h6, X6, e6, W6, st6⟩ := putF X3 hx hZ2 hown2 (host := "") (Or.inl (own_w hw 24 rfl)) Via.refl e3 f4 f5 (Or.inr ⟨(own_w hw 20 rfl), rfl, hnm⟩) (own_w hw 5 rfl) (ty := (.array .byte)) (by decide) rfl rfl (g := (mkF mm_ 14 #[.val (.ref x), .val (.ref b), .val (.int (0 : Int32)), .val (.int (0 : Int32)), .val .null, .unset] [(.ref t2), (.ref x)])) rfl rfl (hb hby dc_j42_m149_14)
  have F6 := f4.same W6
  have N6 := Fr.snoc X6 N0 g_x
  refine own_step st6 ?_
  show own_Go _ _ _ _ T6 (mkF mm_ 17 #[.val (.ref x), .val (.ref b), .val (.int (0 : Int32)), .val (.int (0 : Int32)), .val .null, .unset] [])
  refine own_step (fun t_ k_ => XS.aloadN X6.here hx rfl (hb hby dc_j42_m149_17) rfl rfl k_) ?_
  show own_Go _ _ _ _ T6 (mkF mm_ 18 #[.val (.ref x), .val (.ref b), .val (.int (0 : Int32)), .val (.int (0 : Int32)), .val .null, .unset] [(.ref x)])
  refine own_step (ldcAgain (s := ss_) (vm0 := T2.vm) X6 hx hZ2 hown2 (own_w hw 18 rfl) L2 (g := (mkF mm_ 18 #[.val (.ref x), .val (.ref b), .val (.int (0 : Int32)), .val (.int (0 : Int32)), .val .null, .unset] [(.ref x)])) rfl (hb hby dc_j42_m149_18)) ?_
  show own_Go _ _ _ _ T6 (mkF mm_ 20 #[.val (.ref x), .val (.ref b), .val (.int (0 : Int32)), .val (.int (0 : Int32)), .val .null, .unset] [(.ref a2), (.ref x)])
  have f8 : Fld Z h6 a2 "java/lang/String" "coder" "B" (.int (0 : Int32)) := (Fc2.other W6 (Or.inr (slot_ne (Or.inr (own_w hw 21 rfl)) (Or.inr (own_w hw 20 rfl)) (by decide) (t := .byte) (t' := (.array .byte)) (by decide) (by decide))))
  obtain ⟨T9, X9, e9, st9⟩ := getF X6 hx hZ2 hown2 (host := "") (Or.inl (own_w hw 25 rfl)) Via.refl e6 f8 (g := (mkF mm_ 20 #[.val (.ref x), .val (.ref b), .val (.int (0 : Int32)), .val (.int (0 : Int32)), .val .null, .unset] [(.ref a2), (.ref x)])) rfl rfl (hb hby dc_j42_m149_20)
  refine own_step st9 ?_
  show own_Go _ _ _ _ T9 (mkF mm_ 23 #[.val (.ref x), .val (.ref b), .val (.int (0 : Int32)), .val (.int (0 : Int32)), .val .null, .unset] [(.int (0 : Int32)), (.ref x)])
  have f10 : Fld Z h6 x "java/lang/String" "coder" "B" (.int (0 : Int32)) := ((pr2.ext E2).other W6 (Or.inr (slot_ne (Or.inr (own_w hw 21 rfl)) (Or.inr (own_w hw 20 rfl)) (by decide) (t := .byte) (t' := (.array .byte)) (by decide) (by decide))))
  have f11 : Exa Z h6 x "java/lang/String" := (f5.wr W6)
  obtain ⟨T12, h12, X12, e12, W12, st12⟩ := putFN X9 hx hZ2 hown2 (own_w hw 25 rfl) Via.refl e9 f10 f11 (Or.inr ⟨(own_w hw 21 rfl), rfl, hnm⟩) (own_w hw 5 rfl) (ty := .byte) (v' := (.int (0 : Int32))) (by decide) rfl rfl (g := (mkF mm_ 23 #[.val (.ref x), .val (.ref b), .val (.int (0 : Int32)), .val (.int (0 : Int32)), .val .null, .unset] [(.int (0 : Int32)), (.ref x)])) rfl rfl (hb hby dc_j42_m149_23)
  have F12 := f10.same W12
  have N12 := Fr.snoc X12 N6 g_x
  refine own_step st12 ?_
  show own_Go _ _ _ _ T12 (mkF mm_ 26 #[.val (.ref x), .val (.ref b), .val (.int (0 : Int32)), .val (.int (0 : Int32)), .val .null, .unset] [])
  have f13 : Exa Z h12 x "java/lang/String" := (f11.wr W12)
  have f14 : Fld Z h12 x "java/lang/String" "value" "[B" (.ref t2) := (F6.other W12 (Or.inr (slot_ne (Or.inr (own_w hw 20 rfl)) (Or.inr (own_w hw 21 rfl)) (by decide) (t := (.array .byte)) (t' := .byte) (by decide) (by decide))))
  have f15 : Arv Z h12 t2 kb2 .byte (0 : Int32) [] (.int 0) := ((V2.other W6 (Ne.symm (Exa.neArv f5 V2 (own_w hw 5 rfl)))).other W12 (Ne.symm (Exa.neArv f11 (V2.other W6 (Ne.symm (Exa.neArv f5 V2 (own_w hw 5 rfl)))) (own_w hw 5 rfl))))
  have Pk16 : own_Str Z h12 x t2 [] := ⟨f13, F12, f14, ⟨_, f15⟩, by decide, Nat.le_of_ble_eq_true rfl⟩
  have K17 : Keep h0 h12 [x] := (((K0.ext E2).wr W6 (Or.inl (List.mem_of_getElem? (i := 0) rfl))).wr W12 (Or.inl (List.mem_of_getElem? (i := 0) rfl)))
  obtain ⟨fs, hr, hrun, hended, hEnd⟩ := X12.leaveW hS2 (by rw [e12]; exact (Nat.le_trans (Nat.le_trans hk2 (Keep.of_wr W6).1) (Keep.of_wr W12).1)) (v := none) (fun _ => rfl)
  refine ⟨_, _, ?_, hrun, hended, _, _, rfl, ?_, own_IB_mono (own_IB_warm I2 X12.warmed) (by intro t_ h_; first | exact h_ | exact List.mem_cons_of_mem _ h_ | (revert t_ h_; decide)), own_endMono hEnd (by decide) (by decide)⟩
  · exact X12.returnOut hx Bd.returns (hb hby dc_j42_m149_26) hr
  · show QrmI4 Z x b tz h0 n0 none T12.heap _
    rw [e12]
    exact ⟨t2, rfl, N12, K17, Pk16⟩
theorem dc_j42_m3_0 : decode jdk_42_method_3_code 0 = .ok (.aload_n 0, 1) := by decide +kernel
theorem dc_j42_m3_1 : decode jdk_42_method_3_code 1 = .ok (.aload_n 1, 1) := by decide +kernel
theorem dc_j42_m3_2 : decode jdk_42_method_3_code 2 = .ok (.iconst 0, 1) := by decide +kernel
theorem dc_j42_m3_3 : decode jdk_42_method_3_code 3 = .ok (.aload_n 1, 1) := by decide +kernel
theorem dc_j42_m3_4 : decode jdk_42_method_3_code 4 = .ok (.arraylength, 1) := by decide +kernel
theorem dc_j42_m3_5 : decode jdk_42_method_3_code 5 = .ok (.aconst_null, 1) := by decide +kernel
theorem dc_j42_m3_6 : decode jdk_42_method_3_code 6 = .ok (.invokespecial 27, 3) := by decide +kernel
theorem pd_0 : parseMethodDescriptor "([CIILjava/lang/Void;)V" = some ⟨[(.array .char), .int, .int, (.object "java/lang/Void")], none⟩ := by decide +kernel
theorem dc_j42_m3_9 : decode jdk_42_method_3_code 9 = .ok (.return_, 1) := by decide +kernel
theorem ef_rmI1 (mm_ : MethodId) (x : Addr) (b : Addr) : entryFrame mm_ #[(.ref x), (.ref b)] 2 = (mkF mm_ 0 #[.val (.ref x), .val (.ref b)] []) := by first | (simp [entryFrame, mkF, argsToLocals, Value.category]; done) | rfl
def QrmI1 (Z : State) (x : Addr) (b : Addr) (k : ClassId) (d : Value) (tz : List String) (h0 : Heap) (n0 : Nat) (vv_ : Option Value) (hh_ : Heap) (LL_ : List Loc) : Prop := ∃ (t : Addr), (vv_ = none) ∧ (Fr n0 LL_) ∧ (Keep h0 hh_ [x]) ∧ (own_Str Z hh_ x t [])
set_option maxRecDepth 65536 in
set_option maxHeartbeats 40000000 in
theorem rmI1 (l : Launch) (Z : State) (a0 : Array Value) (hw : ∀ d ∈ tables_1, d.before a0 Z = true) (ws : List Jvm.Cond) (x : Addr) (b : Addr) (k : ClassId) (d : Value) (tz : List String) {zc : Int32} {wO : Addr} (h0 : Heap) (n0 : Nat) (O0 : Old Z n0 h0) (G_ : own_St Z zc wO) (pr0 : Exa Z h0 x "java/lang/String") (pr1 : Fld Z h0 x "java/lang/String" "value" "[B" .null) (pr2 : Fld Z h0 x "java/lang/String" "coder" "B" (.int (0 : Int32))) (g_x : n0 ≤ x) (hnz : "" ∉ tz) (pr5 : Arv Z h0 b k .char (0 : Int32) [] d) :
    MetFree l (⟨"java/lang/String", "<init>", "([C)V"⟩ : MethodName) (head1 (Jvm.Cond.code (⟨"java/lang/String", "<init>", "([C)V"⟩ : MethodName) jdk_42_method_3_code 2 none :: ws) ({ frames := 2, cells := 2, slots := 4, locals := 29 } : Room)) (fun aa_ UU_ => aa_ = #[(.ref x), (.ref b)] ∧ Z.Warmed39 UU_.vm ∧ UU_.heap = h0 ∧ (IB Z UU_.vm tz)) (fun _ _ _ _ _ => True) (fun _ UU_ oo_ UV_ => ∃ vv_ LL_, oo_ = .returned vv_ ∧ QrmI1 Z x b k d tz h0 n0 vv_ UV_.heap LL_ ∧ IB Z UV_.vm ("" :: tz) ∧ ReturnedEndW UU_ oo_ UV_ LL_ ({ frames := 2, cells := 2, slots := 4, locals := 29 } : Room).cells ({ frames := 2, cells := 2, slots := 4, locals := 29 } : Room).slots) := by
  refine MetFree.of_bodySF (plainFor_of_name pn_java_lang_String) hisR ?_
  intro pp_ ee_ ss_ mm_ args_ bb_ me_ cc_ s₁ Bd hml0 hP hK
  obtain ⟨rfl, hZ, hh, hI⟩ := hP
  have hx := Bd.exec
  have hby := Bd.bytes
  have hml : cc_.maxLocals = 2 := hml0
  have hown : ss_.vm.findClass "java/lang/String" = some mm_.cls := findClass_of_methodNamed Bd.named
  have hnm := (name_of_methodNamed Bd.named Bd.method).1
  have X0 : Stand pp_ l ee_ ({ frames := 2, cells := 2, slots := 4, locals := 29 } : Room) ss_ mm_ #[(.ref x), (.ref b)] bb_ me_ cc_ s₁ [] 0 0 := Stand.of_body Bd
  have e0 : s₁.heap = h0 := by rw [← hh, Bd.state]; rfl
  have N0 := Fr.nil n0
  have X0 : Stand pp_ l ee_ _ (ss_.setVm ss_.vm) mm_ _ bb_ me_ cc_ s₁ [] 0 0 := X0
  have hZ : Z.Warmed39 (ss_.setVm ss_.vm).vm := hZ
  have hown : (ss_.setVm ss_.vm).vm.findClass "java/lang/String" = some mm_.cls := hown
  have hS0 : ss_.Since ss_.vm 0 := (State.WarmedH.refl ss_).since 0
  have hkeep_ : ∀ (b : Addr) (cl : Cell), Z.heap[b]? = some cl → ss_.heap[b]? = some cl := by rw [hh]; exact O0.2.2
  have own_atoms_ : ∀ a ∈ Bundle.stringAtoms, a.before a0 Z = true := fun d hd => hw d ((by decide +kernel : ∀ d ∈ Bundle.stringAtoms, d ∈ tables_1) d hd)
  show own_Go pp_ ee_ bb_ (fun s₂ oo_ => s₂.status = .running ∧ Ended s₂ bb_ oo_ ∧ (∃ vv_ LL_, oo_ = .returned vv_ ∧ QrmI1 Z x b k d tz h0 n0 vv_ s₂.heap LL_ ∧ IB Z s₂.vm ("" :: tz) ∧ ReturnedEndW ss_ oo_ s₂ LL_ ({ frames := 2, cells := 2, slots := 4, locals := 29 } : Room).cells ({ frames := 2, cells := 2, slots := 4, locals := 29 } : Room).slots)) s₁ (entryFrame mm_ #[(.ref x), (.ref b)] 2)
  refine own_cast (ef_rmI1 mm_ x b) ?_
  have Z0 : n0 ≤ h0.size := by have q := O0.2.1; rw [O0.1] at q; exact q
  have K0 : Keep h0 h0 [x] := Keep.refl _ _
  obtain ⟨G_cs, G_cs0, G_S1, G_E2, G_cw, G_h_java_lang_String_7⟩ := id G_
  have own_cw_ : Jvm.Lit.compactW.before a0 Z = true := G_cw
  show own_Go _ _ _ _ s₁ (mkF mm_ 0 #[.val (.ref x), .val (.ref b)] [])
  refine own_step (fun t_ k_ => XS.aloadN X0.here hx rfl (hb hby dc_j42_m3_0) rfl rfl (XS.aloadN X0.here hx rfl (hb hby dc_j42_m3_1) rfl rfl (XS.iconst X0.here hx rfl (hb hby dc_j42_m3_2) (XS.aloadN X0.here hx rfl (hb hby dc_j42_m3_3) rfl rfl k_)))) ?_
  show own_Go _ _ _ _ s₁ (mkF mm_ 4 #[.val (.ref x), .val (.ref b)] [(.ref b), (.int (0 : Int32)), (.ref b), (.ref x)])
  obtain ⟨cl1, Ar1, -, S1, M1, -, -⟩ := id pr5
  refine own_step (fun t_ k_ => X0.arraylength hx (by rw [e0]; exact Ar1.1) (State.isArrayOf_alike hZ.alike Ar1.2.1) (g := (mkF mm_ 4 #[.val (.ref x), .val (.ref b)] [(.ref b), (.int (0 : Int32)), (.ref b), (.ref x)])) rfl rfl (hb hby dc_j42_m3_4) t_ (by rw [len_of S1 M1]; exact k_)) ?_
  show own_Go _ _ _ _ s₁ (mkF mm_ 5 #[.val (.ref x), .val (.ref b)] [(.int (0 : Int32)), (.int (0 : Int32)), (.ref b), (.ref x)])
  refine own_step (fun t_ k_ => XS.aconstNull X0.here hx rfl (hb hby dc_j42_m3_5) k_) ?_
  show own_Go _ _ _ _ s₁ (mkF mm_ 6 #[.val (.ref x), .val (.ref b)] [.null, (.int (0 : Int32)), (.int (0 : Int32)), (.ref b), (.ref x)])
  obtain ⟨_, _, ⟨T2, Lx2, kx2, nx2⟩, -, X2, hS2, hG2, ⟨Lc2, hQ2, l2, y2, z2⟩, st2⟩ := X0.specialBackS hx (y := (⟨"java/lang/String", "<init>", "([CIILjava/lang/Void;)V"⟩ : MethodName)) rfl hown (mvT hZ (own_w hw 11 rfl)) (mvT hZ (own_w hw 12 rfl)) (mvT hZ (own_w hw 14 rfl)) (by decide) (own_backI (J := fun q_ => IB Z q_ tz) (J' := fun q_ => IB Z q_ ("" :: tz)) (W := 0) (rmI4 l Z a0 hw [] x b tz h0 n0 O0 G_ pr0 pr1 pr2 g_x hnz) hZ (own_w hw 14 rfl) (own_w hw 6 rfl) (by decide) (by decide)) (g := (mkF mm_ 6 #[.val (.ref x), .val (.ref b)] [.null, (.int (0 : Int32)), (.int (0 : Int32)), (.ref b), (.ref x)])) rfl (by rw [hml]; rfl) (Steps.refl _) (a := x) (argsL := [(.ref b), (.int (0 : Int32)), (.int (0 : Int32)), .null]) (rest := []) (lenOf pd_0 rfl) rfl (by show 2 * 0 + _ ≤ _; exact Nat.le_of_eq rfl) (hb hby dc_j42_m3_6) (fun vm_ hvm_ => ⟨rfl, e0, (by decide : 0 + 2 ≤ _), (by decide : 0 + 4 ≤ _), own_IB_mono (own_IB_warm hI hvm_) (by intro t_ h_; first | exact h_ | exact List.mem_cons_of_mem _ h_ | (revert t_ h_; decide))⟩)
  dsimp only [Pt.U, Pt.locs, Pt.cells, Pt.slots] at X2 l2 y2 z2 st2 hQ2 hS2 hG2
  subst l2 y2 z2
  obtain ⟨X2, hS2, hZ2, hown2⟩ := rebS (n1 := h0.size) hS0 (Nat.zero_le _) X2 hS2 (by rw [← e0]; exact hG2) hZ hown
  obtain ⟨hQ2, hIq2⟩ := hQ2
  obtain ⟨t_2, rfl, Nq2, Kc2, r2_0⟩ := hQ2
  have N2 := Fr.app N0 Nq2
  refine own_jump st2 ?_
  show own_Go _ _ _ _ T2 (mkF mm_ 9 #[.val (.ref x), .val (.ref b)] [])
  have K3 : Keep h0 T2.heap [x] := (K0.trans Kc2 (allS (Or.inl (List.mem_of_getElem? (i := 0) rfl)) all0))
  obtain ⟨fs, hr, hrun, hended, hEnd⟩ := X2.leaveW hS2 (Nat.le_refl _) (v := none) (fun _ => rfl)
  refine ⟨_, _, ?_, hrun, hended, _, _, rfl, ?_, own_IB_mono (own_IB_warm hIq2 X2.warmed) (by intro t_ h_; first | exact h_ | exact List.mem_cons_of_mem _ h_ | (revert t_ h_; decide)), own_endMono hEnd (by decide) (by decide)⟩
  · exact X2.returnOut hx Bd.returns (hb hby dc_j42_m3_9) hr
  · show QrmI1 Z x b k d tz h0 n0 none T2.heap _
    exact ⟨t_2, rfl, N2, K3, r2_0⟩
theorem dc_j43_m3_0 : decode jdk_43_method_3_code 0 = .ok (.iload_n 0, 1) := by decide +kernel
theorem dc_j43_m3_1 : decode jdk_43_method_3_code 1 = .ok (.sipush 255, 3) := by decide +kernel
theorem dc_j43_m3_4 : decode jdk_43_method_3_code 4 = .ok (.if_icmp .gt 7, 3) := by decide +kernel
theorem dc_j43_m3_7 : decode jdk_43_method_3_code 7 = .ok (.iconst 1, 1) := by decide +kernel
theorem dc_j43_m3_8 : decode jdk_43_method_3_code 8 = .ok (.goto 4, 3) := by decide +kernel
theorem dc_j43_m3_12 : decode jdk_43_method_3_code 12 = .ok (.ireturn, 1) := by decide +kernel
theorem pn_java_lang_StringLatin1 : plainName "java/lang/StringLatin1" = true := by first | (simp [plainName, overriddenIn]; done) | decide +kernel
theorem ef_rmCE (mm_ : MethodId) (c : Int32) : entryFrame mm_ #[(.int c)] 1 = (mkF mm_ 0 #[.val (.int c)] []) := by first | (simp [entryFrame, mkF, argsToLocals, Value.category]; done) | rfl
def QrmCE (Z : State) (c : Int32) (h0 : Heap) (n0 : Nat) (vv_ : Option Value) (hh_ : Heap) (LL_ : List Loc) : Prop := (vv_ = some (.int (1 : Int32))) ∧ (LL_ = []) ∧ (hh_ = h0)
set_option maxRecDepth 65536 in
set_option maxHeartbeats 40000000 in
theorem rmCE (l : Launch) (Z : State) (a0 : Array Value) (hw : ∀ d ∈ tables_1, d.before a0 Z = true) (ws : List Jvm.Cond) (c : Int32) (h0 : Heap) (n0 : Nat) (O0 : Old Z n0 h0) (hc1 : ¬ ((255 : Int32) < c)) :
    MetFree l (⟨"java/lang/StringLatin1", "canEncode", "(C)Z"⟩ : MethodName) (head1 (Jvm.Cond.code (⟨"java/lang/StringLatin1", "canEncode", "(C)Z"⟩ : MethodName) jdk_43_method_3_code 1 (some .boolean) :: ws) ({ frames := 0, cells := 0, slots := 0, locals := 0 } : Room)) (fun aa_ UU_ => aa_ = #[(.int c)] ∧ Z.Warmed39 UU_.vm ∧ UU_.heap = h0) (fun _ _ _ _ _ => True) (fun _ UU_ oo_ UV_ => ∃ vv_ LL_, oo_ = .returned vv_ ∧ QrmCE Z c h0 n0 vv_ UV_.heap LL_ ∧ FrameEnd UU_ oo_ UV_ LL_ ({ frames := 0, cells := 0, slots := 0, locals := 0 } : Room).cells ({ frames := 0, cells := 0, slots := 0, locals := 0 } : Room).slots) := by
  refine MetFree.of_bodySF (plainFor_of_name pn_java_lang_StringLatin1) hisR ?_
  intro pp_ ee_ ss_ mm_ args_ bb_ me_ cc_ s₁ Bd hml0 hP hK
  obtain ⟨rfl, hZ, hh⟩ := hP
  have hx := Bd.exec
  have hby := Bd.bytes
  have hml : cc_.maxLocals = 1 := hml0
  have hown : ss_.vm.findClass "java/lang/StringLatin1" = some mm_.cls := findClass_of_methodNamed Bd.named
  have hnm := (name_of_methodNamed Bd.named Bd.method).1
  have X0 : Stand pp_ l ee_ ({ frames := 0, cells := 0, slots := 0, locals := 0 } : Room) ss_ mm_ #[(.int c)] bb_ me_ cc_ s₁ [] 0 0 := Stand.of_body Bd
  have e0 : s₁.heap = h0 := by rw [← hh, Bd.state]; rfl
  have N0 := Fr.nil n0
  show own_Go pp_ ee_ bb_ (fun s₂ oo_ => s₂.status = .running ∧ Ended s₂ bb_ oo_ ∧ (∃ vv_ LL_, oo_ = .returned vv_ ∧ QrmCE Z c h0 n0 vv_ s₂.heap LL_ ∧ FrameEnd ss_ oo_ s₂ LL_ ({ frames := 0, cells := 0, slots := 0, locals := 0 } : Room).cells ({ frames := 0, cells := 0, slots := 0, locals := 0 } : Room).slots)) s₁ (entryFrame mm_ #[(.int c)] 1)
  refine own_cast (ef_rmCE mm_ c) ?_
  have Z0 : n0 ≤ h0.size := by have q := O0.2.1; rw [O0.1] at q; exact q
  have K0 : Keep h0 h0 [] := Keep.refl _ _
  show own_Go _ _ _ _ s₁ (mkF mm_ 0 #[.val (.int c)] [])
  refine own_step (fun t_ k_ => XS.iloadN X0.here hx rfl (hb hby dc_j43_m3_0) rfl  (XS.sipush X0.here hx rfl (hb hby dc_j43_m3_1) k_)) ?_
  show own_Go _ _ _ _ s₁ (mkF mm_ 4 #[.val (.int c)] [(.int (255 : Int32)), (.int c)])
  refine own_step (fun t_ k_ => XS.icmpNo X0.here hx rfl (hb hby dc_j43_m3_4) rfl (flt hc1).2.2.1 k_) ?_
  show own_Go _ _ _ _ s₁ (mkF mm_ 7 #[.val (.int c)] [])
  refine own_step (fun t_ k_ => XS.iconst X0.here hx rfl (hb hby dc_j43_m3_7) (XS.goto X0.here hx rfl (pc0 := 8) (pc' := 12) rfl (hb hby dc_j43_m3_8) (by decide) (by decide) k_)) ?_
  show own_Go _ _ _ _ s₁ (mkF mm_ 12 #[.val (.int c)] [(.int (1 : Int32))])
  obtain ⟨fs, hr, hrun, hended, hW, hsame⟩ := X0.leave (v := some (.int (1 : Int32))) (fun h => by rw [Bd.returns] at h; cases h)
  refine ⟨_, _, ?_, hrun, hended, _, _, rfl, ?_, ⟨_, rfl⟩, hW, hsame.mono (by decide) (by decide)⟩
  · exact retN X0 hx (t := .boolean) Bd.returns (by simp) (hb hby dc_j43_m3_12) hr
  · show QrmCE Z c h0 n0 (some (.int (1 : Int32))) s₁.heap _
    rw [e0]
    exact ⟨rfl, rfl, rfl⟩
theorem dc_j43_m46_0 : decode jdk_43_method_46_code 0 = .ok (.iconst 1, 1) := by decide +kernel
theorem dc_j43_m46_1 : decode jdk_43_method_46_code 1 = .ok (.newarray .byte, 2) := by decide +kernel
theorem dc_j43_m46_3 : decode jdk_43_method_46_code 3 = .ok (.dup, 1) := by decide +kernel
theorem dc_j43_m46_4 : decode jdk_43_method_46_code 4 = .ok (.iconst 0, 1) := by decide +kernel
theorem dc_j43_m46_5 : decode jdk_43_method_46_code 5 = .ok (.iload_n 0, 1) := by decide +kernel
theorem dc_j43_m46_6 : decode jdk_43_method_46_code 6 = .ok (.i2b, 1) := by decide +kernel
theorem dc_j43_m46_7 : decode jdk_43_method_46_code 7 = .ok (.bastore, 1) := by decide +kernel
theorem dc_j43_m46_8 : decode jdk_43_method_46_code 8 = .ok (.areturn, 1) := by decide +kernel
theorem ef_rmTB (mm_ : MethodId) (c : Int32) : entryFrame mm_ #[(.int c)] 1 = (mkF mm_ 0 #[.val (.int c)] []) := by first | (simp [entryFrame, mkF, argsToLocals, Value.category]; done) | rfl
def QrmTB (Z : State) (c : Int32) (h0 : Heap) (n0 : Nat) (vv_ : Option Value) (hh_ : Heap) (LL_ : List Loc) : Prop := ∃ (r : Addr), ∃ (k : ClassId), (vv_ = some (.ref r)) ∧ (Fr n0 LL_) ∧ (Keep h0 hh_ []) ∧ (h0.size ≤ r) ∧ (Arv Z hh_ r k .byte (1 : Int32) [(.int (c.toInt8.toInt32))] (.int (0 : Int32)))
set_option maxRecDepth 65536 in
set_option maxHeartbeats 40000000 in
theorem rmTB (l : Launch) (Z : State) (a0 : Array Value) (hw : ∀ d ∈ tables_1, d.before a0 Z = true) (ws : List Jvm.Cond) (c : Int32) (h0 : Heap) (n0 : Nat) (O0 : Old Z n0 h0) :
    MetFree l (⟨"java/lang/StringLatin1", "toBytes", "(C)[B"⟩ : MethodName) (head1 (Jvm.Cond.code (⟨"java/lang/StringLatin1", "toBytes", "(C)[B"⟩ : MethodName) jdk_43_method_46_code 1 (some (.array .byte)) :: ws) ({ frames := 0, cells := 1, slots := 1, locals := 0 } : Room)) (fun aa_ UU_ => aa_ = #[(.int c)] ∧ Z.Warmed39 UU_.vm ∧ UU_.heap = h0) (fun _ _ _ _ _ => True) (fun _ UU_ oo_ UV_ => ∃ vv_ LL_, oo_ = .returned vv_ ∧ QrmTB Z c h0 n0 vv_ UV_.heap LL_ ∧ FrameEnd UU_ oo_ UV_ LL_ ({ frames := 0, cells := 1, slots := 1, locals := 0 } : Room).cells ({ frames := 0, cells := 1, slots := 1, locals := 0 } : Room).slots) := by
  refine MetFree.of_bodySF (plainFor_of_name pn_java_lang_StringLatin1) hisR ?_
  intro pp_ ee_ ss_ mm_ args_ bb_ me_ cc_ s₁ Bd hml0 hP hK
  obtain ⟨rfl, hZ, hh⟩ := hP
  have hx := Bd.exec
  have hby := Bd.bytes
  have hml : cc_.maxLocals = 1 := hml0
  have hown : ss_.vm.findClass "java/lang/StringLatin1" = some mm_.cls := findClass_of_methodNamed Bd.named
  have hnm := (name_of_methodNamed Bd.named Bd.method).1
  have X0 : Stand pp_ l ee_ ({ frames := 0, cells := 1, slots := 1, locals := 0 } : Room) ss_ mm_ #[(.int c)] bb_ me_ cc_ s₁ [] 0 0 := Stand.of_body Bd
  have e0 : s₁.heap = h0 := by rw [← hh, Bd.state]; rfl
  have N0 := Fr.nil n0
  show own_Go pp_ ee_ bb_ (fun s₂ oo_ => s₂.status = .running ∧ Ended s₂ bb_ oo_ ∧ (∃ vv_ LL_, oo_ = .returned vv_ ∧ QrmTB Z c h0 n0 vv_ s₂.heap LL_ ∧ FrameEnd ss_ oo_ s₂ LL_ ({ frames := 0, cells := 1, slots := 1, locals := 0 } : Room).cells ({ frames := 0, cells := 1, slots := 1, locals := 0 } : Room).slots)) s₁ (entryFrame mm_ #[(.int c)] 1)
  refine own_cast (ef_rmTB mm_ c) ?_
  have Z0 : n0 ≤ h0.size := by have q := O0.2.1; rw [O0.1] at q; exact q
  have K0 : Keep h0 h0 [] := Keep.refl _ _
  show own_Go _ _ _ _ s₁ (mkF mm_ 0 #[.val (.int c)] [])
  refine own_step (fun t_ k_ => XS.iconst X0.here hx rfl (hb hby dc_j43_m46_0) k_) ?_
  show own_Go _ _ _ _ s₁ (mkF mm_ 1 #[.val (.int c)] [(.int (1 : Int32))])
  obtain ⟨T1, h1, k1, X1, e1, E1, A1, st1⟩ := newP X0 hx hZ (own_w hw 19 rfl) e0 (g := (mkF mm_ 1 #[.val (.int c)] [(.int (1 : Int32))])) rfl (hb hby dc_j43_m46_1) rfl (by decide) (cap := 1) (by decide) (by decide) (by decide) (by decide)
  obtain ⟨b1, q1⟩ : ∃ z, z = h0.size := ⟨_, rfl⟩
  rw [← q1] at A1 st1
  have lo_b1 : h0.size ≤ b1 := Nat.le_trans K0.1 (Nat.le_of_eq q1.symm)
  have g_b1 : n0 ≤ b1 := Nat.le_trans Z0 lo_b1
  refine own_step st1 ?_
  have V1 : Arv Z h1 b1 k1 .byte (1 : Int32) [(.int (0 : Int32))] (.int (0 : Int32)) := (Arv.new A1 (by decide)).pad (pad_rep [] (.int (0 : Int32)) 1)
  show own_Go _ _ _ _ T1 (mkF mm_ 3 #[.val (.int c)] [(.ref b1)])
  refine own_step (fun t_ k_ => XS.dup X1.here hx rfl (hb hby dc_j43_m46_3) rfl rfl (XS.iconst X1.here hx rfl (hb hby dc_j43_m46_4) (XS.iloadN X1.here hx rfl (hb hby dc_j43_m46_5) rfl  (XS.i2b X1.here hx rfl (hb hby dc_j43_m46_6) rfl k_)))) ?_
  show own_Go _ _ _ _ T1 (mkF mm_ 7 #[.val (.int c)] [(.int (c.toInt8.toInt32)), (.int (0 : Int32)), (.ref b1), (.ref b1)])
  obtain ⟨cl2, Ar2, q2, S2, M2, H2, G2⟩ := id V1
  have hin2 : ¬ ((0 : Int32) < 0 ∨ cl2.slots.size ≤ ((0 : Int32)).toNatClampNeg) := inb_of S2 ⟨by decide, by decide⟩
  obtain ⟨T2, h2, X2, e2, W2, st2⟩ := stB X1 hx hZ e1 Ar2 (j := (0 : Int32)) hin2 (g := (mkF mm_ 7 #[.val (.int c)] [(.int (c.toInt8.toInt32)), (.int (0 : Int32)), (.ref b1), (.ref b1)])) rfl rfl (hb hby dc_j43_m46_7)
  have V2 : Arv Z h2 b1 k1 .byte (1 : Int32) [(.int (c.toInt8.toInt32))] (.int (0 : Int32)) := by
    have q := Arv.set Ar2 q2 S2 M2 H2 G2 (fits_nar_byte _) W2 0 rfl (Nat.le_of_ble_eq_true rfl)
    rw [own_narB] at q
    exact q
  have N2 := Fr.snoc X2 N0 g_b1
  refine own_step st2 ?_
  show own_Go _ _ _ _ T2 (mkF mm_ 8 #[.val (.int c)] [(.ref b1)])
  have K3 : Keep h0 h2 [] := ((K0.ext E1).wr W2 (Or.inr lo_b1))
  obtain ⟨fs, hr, hrun, hended, hW, hsame⟩ := X2.leave (v := some (.ref b1)) (fun h => by rw [Bd.returns] at h; cases h)
  refine ⟨_, _, ?_, hrun, hended, _, _, rfl, ?_, ⟨_, rfl⟩, hW, hsame.mono (by decide) (by decide)⟩
  · jvm_step X2.here [X2.here.top, hx, (hb hby dc_j43_m46_8), X2.method', Bd.returns, Value.isRef, FieldType.isReference]
    first | (intro acts; rw [hr _ acts rfl rfl rfl]) | rw [hr _ _ rfl rfl rfl]
    exact Steps.refl _
  · show QrmTB Z c h0 n0 (some (.ref b1)) T2.heap _
    rw [e2]
    exact ⟨b1, k1, rfl, N2, K3, lo_b1, V2⟩
theorem dc_j42_m151_0 : decode jdk_42_method_151_code 0 = .ok (.aload_n 0, 1) := by decide +kernel
theorem dc_j42_m151_1 : decode jdk_42_method_151_code 1 = .ok (.invokespecial 1, 3) := by decide +kernel
theorem dc_j42_m151_4 : decode jdk_42_method_151_code 4 = .ok (.aload_n 0, 1) := by decide +kernel
theorem dc_j42_m151_5 : decode jdk_42_method_151_code 5 = .ok (.aload_n 1, 1) := by decide +kernel
theorem dc_j42_m151_6 : decode jdk_42_method_151_code 6 = .ok (.putfield 9, 3) := by decide +kernel
theorem dc_j42_m151_9 : decode jdk_42_method_151_code 9 = .ok (.aload_n 0, 1) := by decide +kernel
theorem dc_j42_m151_10 : decode jdk_42_method_151_code 10 = .ok (.iload_n 2, 1) := by decide +kernel
theorem dc_j42_m151_11 : decode jdk_42_method_151_code 11 = .ok (.putfield 15, 3) := by decide +kernel
theorem dc_j42_m151_14 : decode jdk_42_method_151_code 14 = .ok (.return_, 1) := by decide +kernel
theorem ef_rmIB (mm_ : MethodId) (x : Addr) (b : Addr) : entryFrame mm_ #[(.ref x), (.ref b), (.int (0 : Int32))] 3 = (mkF mm_ 0 #[.val (.ref x), .val (.ref b), .val (.int (0 : Int32))] []) := by first | (simp [entryFrame, mkF, argsToLocals, Value.category]; done) | rfl
def QrmIB (Z : State) (x : Addr) (b : Addr) (h0 : Heap) (n0 : Nat) (vv_ : Option Value) (hh_ : Heap) (LL_ : List Loc) : Prop := (vv_ = none) ∧ (Fr n0 LL_) ∧ (Keep h0 hh_ [x]) ∧ (Fld Z hh_ x "java/lang/String" "value" "[B" (.ref b)) ∧ (Fld Z hh_ x "java/lang/String" "coder" "B" (.int (0 : Int32)))
set_option maxRecDepth 65536 in
set_option maxHeartbeats 40000000 in
theorem rmIB (l : Launch) (Z : State) (a0 : Array Value) (hw : ∀ d ∈ tables_1, d.before a0 Z = true) (ws : List Jvm.Cond) (x : Addr) (b : Addr) (h0 : Heap) (n0 : Nat) (O0 : Old Z n0 h0) (pr0 : Exa Z h0 x "java/lang/String") (pr1 : Fld Z h0 x "java/lang/String" "value" "[B" .null) (pr2 : Fld Z h0 x "java/lang/String" "coder" "B" (.int (0 : Int32))) (g_x : n0 ≤ x) :
    MetFree l (⟨"java/lang/String", "<init>", "([BB)V"⟩ : MethodName) (head1 (Jvm.Cond.code (⟨"java/lang/String", "<init>", "([BB)V"⟩ : MethodName) jdk_42_method_151_code 3 none :: ws) ({ frames := 1, cells := 0, slots := 0, locals := 12 } : Room)) (fun aa_ UU_ => aa_ = #[(.ref x), (.ref b), (.int (0 : Int32))] ∧ Z.Warmed39 UU_.vm ∧ UU_.heap = h0) (fun _ _ _ _ _ => True) (fun _ UU_ oo_ UV_ => ∃ vv_ LL_, oo_ = .returned vv_ ∧ QrmIB Z x b h0 n0 vv_ UV_.heap LL_ ∧ FrameEnd UU_ oo_ UV_ LL_ ({ frames := 1, cells := 0, slots := 0, locals := 12 } : Room).cells ({ frames := 1, cells := 0, slots := 0, locals := 12 } : Room).slots) := by
  refine MetFree.of_bodySF (plainFor_of_name pn_java_lang_String) hisR ?_
  intro pp_ ee_ ss_ mm_ args_ bb_ me_ cc_ s₁ Bd hml0 hP hK
  obtain ⟨rfl, hZ, hh⟩ := hP
  have hx := Bd.exec
  have hby := Bd.bytes
  have hml : cc_.maxLocals = 3 := hml0
  have hown : ss_.vm.findClass "java/lang/String" = some mm_.cls := findClass_of_methodNamed Bd.named
  have hnm := (name_of_methodNamed Bd.named Bd.method).1
  have X0 : Stand pp_ l ee_ ({ frames := 1, cells := 0, slots := 0, locals := 12 } : Room) ss_ mm_ #[(.ref x), (.ref b), (.int (0 : Int32))] bb_ me_ cc_ s₁ [] 0 0 := Stand.of_body Bd
  have e0 : s₁.heap = h0 := by rw [← hh, Bd.state]; rfl
  have N0 := Fr.nil n0
  show own_Go pp_ ee_ bb_ (fun s₂ oo_ => s₂.status = .running ∧ Ended s₂ bb_ oo_ ∧ (∃ vv_ LL_, oo_ = .returned vv_ ∧ QrmIB Z x b h0 n0 vv_ s₂.heap LL_ ∧ FrameEnd ss_ oo_ s₂ LL_ ({ frames := 1, cells := 0, slots := 0, locals := 12 } : Room).cells ({ frames := 1, cells := 0, slots := 0, locals := 12 } : Room).slots)) s₁ (entryFrame mm_ #[(.ref x), (.ref b), (.int (0 : Int32))] 3)
  refine own_cast (ef_rmIB mm_ x b) ?_
  have Z0 : n0 ≤ h0.size := by have q := O0.2.1; rw [O0.1] at q; exact q
  have K0 : Keep h0 h0 [x] := Keep.refl _ _
  show own_Go _ _ _ _ s₁ (mkF mm_ 0 #[.val (.ref x), .val (.ref b), .val (.int (0 : Int32))] [])
  refine own_step (fun t_ k_ => XS.aloadN X0.here hx rfl (hb hby dc_j42_m151_0) rfl rfl k_) ?_
  show own_Go _ _ _ _ s₁ (mkF mm_ 1 #[.val (.ref x), .val (.ref b), .val (.int (0 : Int32))] [(.ref x)])
  obtain ⟨T1, X1, e1, st1⟩ := initO X0 hx hZ hown (own_w hw 15 rfl) (own_w hw 16 rfl) (own_w hw 17 rfl) e0 (g := (mkF mm_ 1 #[.val (.ref x), .val (.ref b), .val (.int (0 : Int32))] [(.ref x)])) rfl (by rw [hml]; rfl) rfl (hb hby dc_j42_m151_1) (by decide) (W := 0) (by show 2 * 0 + _ ≤ _; exact Nat.le_of_eq rfl) (by decide)
  refine own_step st1 ?_
  show own_Go _ _ _ _ T1 (mkF mm_ 4 #[.val (.ref x), .val (.ref b), .val (.int (0 : Int32))] [])
  refine own_step (fun t_ k_ => XS.aloadN X1.here hx rfl (hb hby dc_j42_m151_4) rfl rfl (XS.aloadN X1.here hx rfl (hb hby dc_j42_m151_5) rfl rfl k_)) ?_
  show own_Go _ _ _ _ T1 (mkF mm_ 6 #[.val (.ref x), .val (.ref b), .val (.int (0 : Int32))] [(.ref b), (.ref x)])
  obtain ⟨T2, h2, X2, e2, W2, st2⟩ := putF X1 hx hZ hown (host := "") (Or.inl (own_w hw 24 rfl)) Via.refl e1 pr1 pr0 (Or.inr ⟨(own_w hw 20 rfl), rfl, hnm⟩) (own_w hw 5 rfl) (ty := (.array .byte)) (by decide) rfl rfl (g := (mkF mm_ 6 #[.val (.ref x), .val (.ref b), .val (.int (0 : Int32))] [(.ref b), (.ref x)])) rfl rfl (hb hby dc_j42_m151_6)
  have F2 := pr1.same W2
  have N2 := Fr.snoc X2 N0 g_x
  refine own_step st2 ?_
  show own_Go _ _ _ _ T2 (mkF mm_ 9 #[.val (.ref x), .val (.ref b), .val (.int (0 : Int32))] [])
  refine own_step (fun t_ k_ => XS.aloadN X2.here hx rfl (hb hby dc_j42_m151_9) rfl rfl (XS.iloadN X2.here hx rfl (hb hby dc_j42_m151_10) rfl  k_)) ?_
  show own_Go _ _ _ _ T2 (mkF mm_ 11 #[.val (.ref x), .val (.ref b), .val (.int (0 : Int32))] [(.int (0 : Int32)), (.ref x)])
  have f3 : Fld Z h2 x "java/lang/String" "coder" "B" (.int (0 : Int32)) := (pr2.other W2 (Or.inr (slot_ne (Or.inr (own_w hw 21 rfl)) (Or.inr (own_w hw 20 rfl)) (by decide) (t := .byte) (t' := (.array .byte)) (by decide) (by decide))))
  have f4 : Exa Z h2 x "java/lang/String" := (pr0.wr W2)
  obtain ⟨T5, h5, X5, e5, W5, st5⟩ := putFN X2 hx hZ hown (own_w hw 25 rfl) Via.refl e2 f3 f4 (Or.inr ⟨(own_w hw 21 rfl), rfl, hnm⟩) (own_w hw 5 rfl) (ty := .byte) (v' := (.int (0 : Int32))) (by decide) rfl rfl (g := (mkF mm_ 11 #[.val (.ref x), .val (.ref b), .val (.int (0 : Int32))] [(.int (0 : Int32)), (.ref x)])) rfl rfl (hb hby dc_j42_m151_11)
  have F5 := f3.same W5
  have N5 := Fr.snoc X5 N2 g_x
  refine own_step st5 ?_
  show own_Go _ _ _ _ T5 (mkF mm_ 14 #[.val (.ref x), .val (.ref b), .val (.int (0 : Int32))] [])
  have K6 : Keep h0 h5 [x] := ((K0.wr W2 (Or.inl (List.mem_of_getElem? (i := 0) rfl))).wr W5 (Or.inl (List.mem_of_getElem? (i := 0) rfl)))
  have f7 : Fld Z h5 x "java/lang/String" "value" "[B" (.ref b) := (F2.other W5 (Or.inr (slot_ne (Or.inr (own_w hw 20 rfl)) (Or.inr (own_w hw 21 rfl)) (by decide) (t := (.array .byte)) (t' := .byte) (by decide) (by decide))))
  obtain ⟨fs, hr, hrun, hended, hW, hsame⟩ := X5.leave (v := none) (fun _ => rfl)
  refine ⟨_, _, ?_, hrun, hended, _, _, rfl, ?_, ⟨_, rfl⟩, hW, hsame.mono (by decide) (by decide)⟩
  · exact X5.returnOut hx Bd.returns (hb hby dc_j42_m151_14) hr
  · show QrmIB Z x b h0 n0 none T5.heap _
    rw [e5]
    exact ⟨rfl, N5, K6, f7, F5⟩
theorem dc_j42_m139_0 : decode jdk_42_method_139_code 0 = .ok (.getstatic 38, 3) := by decide +kernel
theorem dc_j42_m139_3 : decode jdk_42_method_139_code 3 = .ok (.ifCond .eq 23, 3) := by decide +kernel
theorem dc_j42_m139_6 : decode jdk_42_method_139_code 6 = .ok (.iload_n 0, 1) := by decide +kernel
theorem dc_j42_m139_7 : decode jdk_42_method_139_code 7 = .ok (.invokestatic 1015, 3) := by decide +kernel
theorem pd_1 : parseMethodDescriptor "(C)Z" = some ⟨[.char], some .boolean⟩ := by decide +kernel
theorem dc_j42_m139_10 : decode jdk_42_method_139_code 10 = .ok (.ifCond .eq 16, 3) := by decide +kernel
theorem dc_j42_m139_13 : decode jdk_42_method_139_code 13 = .ok (.new 10, 3) := by decide +kernel
theorem dc_j42_m139_16 : decode jdk_42_method_139_code 16 = .ok (.dup, 1) := by decide +kernel
theorem dc_j42_m139_17 : decode jdk_42_method_139_code 17 = .ok (.iload_n 0, 1) := by decide +kernel
theorem dc_j42_m139_18 : decode jdk_42_method_139_code 18 = .ok (.invokestatic 1018, 3) := by decide +kernel
theorem pd_2 : parseMethodDescriptor "(C)[B" = some ⟨[.char], some (.array .byte)⟩ := by decide +kernel
theorem dc_j42_m139_21 : decode jdk_42_method_139_code 21 = .ok (.iconst 0, 1) := by decide +kernel
theorem dc_j42_m139_22 : decode jdk_42_method_139_code 22 = .ok (.invokespecial 209, 3) := by decide +kernel
theorem pd_3 : parseMethodDescriptor "([BB)V" = some ⟨[(.array .byte), .byte], none⟩ := by decide +kernel
theorem dc_j42_m139_25 : decode jdk_42_method_139_code 25 = .ok (.areturn, 1) := by decide +kernel
theorem ef_rmVC (mm_ : MethodId) (c : Int32) : entryFrame mm_ #[(.int c)] 1 = (mkF mm_ 0 #[.val (.int c)] []) := by first | (simp [entryFrame, mkF, argsToLocals, Value.category]; done) | rfl
def QrmVC (Z : State) (c : Int32) (h0 : Heap) (n0 : Nat) (vv_ : Option Value) (hh_ : Heap) (LL_ : List Loc) : Prop := ∃ (r : Addr), ∃ (t : Addr), (vv_ = some (.ref r)) ∧ (Fr n0 LL_) ∧ (Keep h0 hh_ []) ∧ (h0.size ≤ r) ∧ (own_Str Z hh_ r t [c])
set_option maxRecDepth 65536 in
set_option maxHeartbeats 40000000 in
theorem rmVC (l : Launch) (Z : State) (a0 : Array Value) (hw : ∀ d ∈ tables_1, d.before a0 Z = true) (ws : List Jvm.Cond) (c : Int32) {zc : Int32} {wO : Addr} (h0 : Heap) (n0 : Nat) (O0 : Old Z n0 h0) (G_ : own_St Z zc wO) (sg_c : ¬ c < (0 : Int32) ∧ ¬ (255 : Int32) < c) :
    MetFree l (⟨"java/lang/String", "valueOf", "(C)Ljava/lang/String;"⟩ : MethodName) (head1 (Jvm.Cond.code (⟨"java/lang/String", "valueOf", "(C)Ljava/lang/String;"⟩ : MethodName) jdk_42_method_139_code 1 (some (.object "java/lang/String")) :: ws) ({ frames := 2, cells := 2, slots := 5, locals := 27 } : Room)) (fun aa_ UU_ => aa_ = #[(.int c)] ∧ Z.Warmed39 UU_.vm ∧ UU_.heap = h0) (fun _ _ _ _ _ => True) (fun _ UU_ oo_ UV_ => ∃ vv_ LL_, oo_ = .returned vv_ ∧ QrmVC Z c h0 n0 vv_ UV_.heap LL_ ∧ FrameEnd UU_ oo_ UV_ LL_ ({ frames := 2, cells := 2, slots := 5, locals := 27 } : Room).cells ({ frames := 2, cells := 2, slots := 5, locals := 27 } : Room).slots) := by
  refine MetFree.of_bodySF (plainFor_of_name pn_java_lang_String) hisR ?_
  intro pp_ ee_ ss_ mm_ args_ bb_ me_ cc_ s₁ Bd hml0 hP hK
  obtain ⟨rfl, hZ, hh⟩ := hP
  have hx := Bd.exec
  have hby := Bd.bytes
  have hml : cc_.maxLocals = 1 := hml0
  have hown : ss_.vm.findClass "java/lang/String" = some mm_.cls := findClass_of_methodNamed Bd.named
  have hnm := (name_of_methodNamed Bd.named Bd.method).1
  have X0 : Stand pp_ l ee_ ({ frames := 2, cells := 2, slots := 5, locals := 27 } : Room) ss_ mm_ #[(.int c)] bb_ me_ cc_ s₁ [] 0 0 := Stand.of_body Bd
  have e0 : s₁.heap = h0 := by rw [← hh, Bd.state]; rfl
  have N0 := Fr.nil n0
  show own_Go pp_ ee_ bb_ (fun s₂ oo_ => s₂.status = .running ∧ Ended s₂ bb_ oo_ ∧ (∃ vv_ LL_, oo_ = .returned vv_ ∧ QrmVC Z c h0 n0 vv_ s₂.heap LL_ ∧ FrameEnd ss_ oo_ s₂ LL_ ({ frames := 2, cells := 2, slots := 5, locals := 27 } : Room).cells ({ frames := 2, cells := 2, slots := 5, locals := 27 } : Room).slots)) s₁ (entryFrame mm_ #[(.int c)] 1)
  refine own_cast (ef_rmVC mm_ c) ?_
  have Z0 : n0 ≤ h0.size := by have q := O0.2.1; rw [O0.1] at q; exact q
  have K0 : Keep h0 h0 [] := Keep.refl _ _
  obtain ⟨G_cs, G_cs0, G_S1, G_E2, G_cw, G_h_java_lang_String_7⟩ := id G_
  show own_Go _ _ _ _ s₁ (mkF mm_ 0 #[.val (.int c)] [])
  obtain ⟨T1, X1, e1, st1⟩ := getS2 X0 hx hZ hown (host := "") (Or.inl (own_w hw 73 rfl)) Via.refl e0 (G_cs.ext O0.2) (g := (mkF mm_ 0 #[.val (.int c)] [])) rfl (hb hby dc_j42_m139_0)
  refine own_step st1 ?_
  show own_Go _ _ _ _ T1 (mkF mm_ 3 #[.val (.int c)] [(.int zc)])
  refine own_step (fun t_ k_ => XS.ifNo X1.here hx rfl (hb hby dc_j42_m139_3) rfl ((if0 _ _).trans (feq G_cs0).1) k_) ?_
  show own_Go _ _ _ _ T1 (mkF mm_ 6 #[.val (.int c)] [])
  refine own_step (fun t_ k_ => XS.iloadN X1.here hx rfl (hb hby dc_j42_m139_6) rfl  k_) ?_
  show own_Go _ _ _ _ T1 (mkF mm_ 7 #[.val (.int c)] [(.int c)])
  obtain ⟨_, T2, Lc2, X2, hQ2, st2⟩ := own_cS X1 hx hZ hown (own_w hw 87 rfl) (own_w hw 88 rfl) (own_w hw 89 rfl) (own_w hw 90 rfl) (by decide) (backOf (W := 0) (rmCE l Z a0 hw [] c h0 n0 O0 sg_c.2) hZ (own_w hw 90 rfl) (own_w hw 89 rfl) (by decide) (by decide)) (g := (mkF mm_ 7 #[.val (.int c)] [(.int c)])) rfl (by rw [hml]; rfl) (argsL := [(.int c)]) (rest := []) (lenOf pd_1 rfl) rfl (by show 2 * 0 + _ ≤ _; exact Nat.le_of_eq rfl) (hb hby dc_j42_m139_7) rfl e1 (by decide) (by decide)
  obtain ⟨rfl, rfl, Eh2⟩ := hQ2
  have N2 := Fr.app N0 (Fr.nil n0)
  refine own_jump st2 ?_
  show own_Go _ _ _ _ T2 (mkF mm_ 10 #[.val (.int c)] [(.int (1 : Int32))])
  refine own_step (fun t_ k_ => XS.ifNo X2.here hx rfl (hb hby dc_j42_m139_10) rfl ((if0 _ _).trans (feq (by decide : ¬ ((1 : Int32) = (0 : Int32)))).1) k_) ?_
  show own_Go _ _ _ _ T2 (mkF mm_ 13 #[.val (.int c)] [])
  obtain ⟨T3, h3, X3, e3, E3, A3, D3, -, st3⟩ := newO X2 hx hZ hown (own_w hw 91 rfl) (own_w hw 5 rfl) (own_w hw 6 rfl) Eh2 (g := (mkF mm_ 13 #[.val (.int c)] [])) rfl (hb hby dc_j42_m139_13) (by decide) (by decide)
  obtain ⟨b3, q3⟩ : ∃ z, z = h0.size := ⟨_, rfl⟩
  rw [← q3] at A3 D3 st3
  have lo_b3 : h0.size ≤ b3 := Nat.le_trans K0.1 (Nat.le_of_eq q3.symm)
  have g_b3 : n0 ≤ b3 := Nat.le_trans Z0 lo_b3
  refine own_step st3 ?_
  have F3_value : Fld Z h3 b3 "java/lang/String" "value" "[B" .null := D3 (Or.inr (own_w hw 20 rfl)) (ty := (.array .byte)) (by decide)
  have F3_coder : Fld Z h3 b3 "java/lang/String" "coder" "B" (.int (0 : Int32)) := D3 (Or.inr (own_w hw 21 rfl)) (ty := .byte) (by decide)
  show own_Go _ _ _ _ T3 (mkF mm_ 16 #[.val (.int c)] [(.ref b3)])
  refine own_step (fun t_ k_ => XS.dup X3.here hx rfl (hb hby dc_j42_m139_16) rfl rfl (XS.iloadN X3.here hx rfl (hb hby dc_j42_m139_17) rfl  k_)) ?_
  show own_Go _ _ _ _ T3 (mkF mm_ 18 #[.val (.int c)] [(.int c), (.ref b3), (.ref b3)])
  have O5 : Old Z n0 h3 := (O0.ext E3)
  obtain ⟨_, T4, Lc4, X4, hQ4, st4⟩ := own_cS X3 hx hZ hown (own_w hw 92 rfl) (own_w hw 93 rfl) (own_w hw 89 rfl) (own_w hw 94 rfl) (by decide) (backOf (W := 2) (rmTB l Z a0 hw [] c h3 n0 O5 ) hZ (own_w hw 94 rfl) (own_w hw 89 rfl) (by decide) (by decide)) (g := (mkF mm_ 18 #[.val (.int c)] [(.int c), (.ref b3), (.ref b3)])) rfl (by rw [hml]; rfl) (argsL := [(.int c)]) (rest := [(.ref b3), (.ref b3)]) (lenOf pd_2 rfl) rfl (by show 2 * 0 + _ ≤ _; exact Nat.le_of_eq rfl) (hb hby dc_j42_m139_18) rfl e3 (by decide) (by decide)
  obtain ⟨r_4, k_4, rfl, Nq4, Kc4, r4_0, r4_1⟩ := hQ4
  have N4 := Fr.app N2 Nq4
  have K6 : Keep h0 h3 [] := (K0.ext E3)
  have lo_r_4 : h0.size ≤ r_4 := Nat.le_trans K6.1 r4_0
  have g_r_4 : n0 ≤ r_4 := Nat.le_trans Z0 lo_r_4
  refine own_jump st4 ?_
  show own_Go _ _ _ _ T4 (mkF mm_ 21 #[.val (.int c)] [(.ref r_4), (.ref b3), (.ref b3)])
  refine own_step (fun t_ k_ => XS.iconst X4.here hx rfl (hb hby dc_j42_m139_21) k_) ?_
  show own_Go _ _ _ _ T4 (mkF mm_ 22 #[.val (.int c)] [(.int (0 : Int32)), (.ref r_4), (.ref b3), (.ref b3)])
  have f8 : Exa Z T4.heap b3 "java/lang/String" := (A3.keep Kc4)
  have f9 : Fld Z T4.heap b3 "java/lang/String" "value" "[B" .null := (F3_value.keep Kc4 nin0)
  have f10 : Fld Z T4.heap b3 "java/lang/String" "coder" "B" (.int (0 : Int32)) := (F3_coder.keep Kc4 nin0)
  have O11 : Old Z n0 T4.heap := (O5.keep Kc4 all0)
  obtain ⟨_, T7, Lc7, X7, hQ7, st7⟩ := own_cI X4 hx hZ rfl hown (own_w hw 95 rfl) (own_w hw 96 rfl) (own_w hw 97 rfl) (by decide) (backOf (W := 1) (rmIB l Z a0 hw [] b3 r_4 T4.heap n0 O11 f8 f9 f10 g_b3) hZ (own_w hw 97 rfl) (own_w hw 6 rfl) (by decide) (by decide)) (g := (mkF mm_ 22 #[.val (.int c)] [(.int (0 : Int32)), (.ref r_4), (.ref b3), (.ref b3)])) rfl (by rw [hml]; rfl) (a := b3) (argsL := [(.ref r_4), (.int (0 : Int32))]) (rest := [(.ref b3)]) (lenOf pd_3 rfl) rfl (by show 2 * 0 + _ ≤ _; exact Nat.le_of_eq rfl) (hb hby dc_j42_m139_22) rfl rfl (by decide) (by decide)
  obtain ⟨rfl, Nq7, Kc7, r7_0, r7_1⟩ := hQ7
  have N7 := Fr.app N4 Nq7
  refine own_jump st7 ?_
  show own_Go _ _ _ _ T7 (mkF mm_ 25 #[.val (.int c)] [(.ref b3)])
  have f12 : Exa Z T7.heap b3 "java/lang/String" := (f8.keep Kc7)
  have f13 : Arv Z T7.heap r_4 k_4 .byte (1 : Int32) [(.int (c.toInt8.toInt32))] (.int (0 : Int32)) := (r4_1.keep Kc7 (ninS (Ne.symm (Nat.ne_of_lt (Nat.lt_of_lt_of_le A3.lt r4_0))) nin0))
  have Pk14 : own_Str Z T7.heap b3 r_4 [c] := ⟨f12, r7_1, r7_0, ⟨_, f13⟩, own_one sg_c.1 sg_c.2, Nat.le_of_ble_eq_true rfl⟩
  have K15 : Keep h0 T7.heap [] := ((K6.trans Kc4 all0).trans Kc7 (allS (Or.inr lo_b3) all0))
  obtain ⟨fs, hr, hrun, hended, hW, hsame⟩ := X7.leave (v := some (.ref b3)) (fun h => by rw [Bd.returns] at h; cases h)
  refine ⟨_, _, ?_, hrun, hended, _, _, rfl, ?_, ⟨_, rfl⟩, hW, hsame.mono (by decide) (by decide)⟩
  · jvm_step X7.here [X7.here.top, hx, (hb hby dc_j42_m139_25), X7.method', Bd.returns, Value.isRef, FieldType.isReference]
    first | (intro acts; rw [hr _ acts rfl rfl rfl]) | rw [hr _ _ rfl rfl rfl]
    exact Steps.refl _
  · show QrmVC Z c h0 n0 (some (.ref b3)) T7.heap _
    exact ⟨b3, r_4, rfl, N7, K15, lo_b3, Pk14⟩
theorem dc_j42_m66_0 : decode jdk_42_method_66_code 0 = .ok (.aload_n 0, 1) := by decide +kernel
theorem dc_j42_m66_1 : decode jdk_42_method_66_code 1 = .ok (.aload_n 1, 1) := by decide +kernel
theorem dc_j42_m66_2 : decode jdk_42_method_66_code 2 = .ok (.if_acmp .ne 5, 3) := by decide +kernel
theorem dc_j42_m66_5 : decode jdk_42_method_66_code 5 = .ok (.iconst 1, 1) := by decide +kernel
theorem dc_j42_m66_6 : decode jdk_42_method_66_code 6 = .ok (.ireturn, 1) := by decide +kernel
theorem ef_rmEqS (mm_ : MethodId) (a : Addr) : entryFrame mm_ #[(.ref a), (.ref a)] 3 = (mkF mm_ 0 #[.val (.ref a), .val (.ref a), .unset] []) := by first | (simp [entryFrame, mkF, argsToLocals, Value.category]; done) | rfl
def QrmEqS (Z : State) (a : Addr) (a : Addr) (h0 : Heap) (n0 : Nat) (vv_ : Option Value) (hh_ : Heap) (LL_ : List Loc) : Prop := (vv_ = some (.int (1 : Int32))) ∧ (LL_ = []) ∧ (hh_ = h0)
set_option maxRecDepth 65536 in
set_option maxHeartbeats 40000000 in
theorem rmEqS (l : Launch) (Z : State) (a0 : Array Value) (hw : ∀ d ∈ tables_1, d.before a0 Z = true) (ws : List Jvm.Cond) (a : Addr) (a : Addr) (h0 : Heap) (n0 : Nat) (O0 : Old Z n0 h0) :
    MetFree l (⟨"java/lang/String", "equals", "(Ljava/lang/Object;)Z"⟩ : MethodName) (head1 (Jvm.Cond.code (⟨"java/lang/String", "equals", "(Ljava/lang/Object;)Z"⟩ : MethodName) jdk_42_method_66_code 3 (some .boolean) :: ws) ({ frames := 0, cells := 0, slots := 0, locals := 0 } : Room)) (fun aa_ UU_ => aa_ = #[(.ref a), (.ref a)] ∧ Z.Warmed39 UU_.vm ∧ UU_.heap = h0) (fun _ _ _ _ _ => True) (fun _ UU_ oo_ UV_ => ∃ vv_ LL_, oo_ = .returned vv_ ∧ QrmEqS Z a a h0 n0 vv_ UV_.heap LL_ ∧ FrameEnd UU_ oo_ UV_ LL_ ({ frames := 0, cells := 0, slots := 0, locals := 0 } : Room).cells ({ frames := 0, cells := 0, slots := 0, locals := 0 } : Room).slots) := by
  refine MetFree.of_bodySF (plainFor_of_name pn_java_lang_String) hisR ?_
  intro pp_ ee_ ss_ mm_ args_ bb_ me_ cc_ s₁ Bd hml0 hP hK
  obtain ⟨rfl, hZ, hh⟩ := hP
  have hx := Bd.exec
  have hby := Bd.bytes
  have hml : cc_.maxLocals = 3 := hml0
  have hown : ss_.vm.findClass "java/lang/String" = some mm_.cls := findClass_of_methodNamed Bd.named
  have hnm := (name_of_methodNamed Bd.named Bd.method).1
  have X0 : Stand pp_ l ee_ ({ frames := 0, cells := 0, slots := 0, locals := 0 } : Room) ss_ mm_ #[(.ref a), (.ref a)] bb_ me_ cc_ s₁ [] 0 0 := Stand.of_body Bd
  have e0 : s₁.heap = h0 := by rw [← hh, Bd.state]; rfl
  have N0 := Fr.nil n0
  show own_Go pp_ ee_ bb_ (fun s₂ oo_ => s₂.status = .running ∧ Ended s₂ bb_ oo_ ∧ (∃ vv_ LL_, oo_ = .returned vv_ ∧ QrmEqS Z a a h0 n0 vv_ s₂.heap LL_ ∧ FrameEnd ss_ oo_ s₂ LL_ ({ frames := 0, cells := 0, slots := 0, locals := 0 } : Room).cells ({ frames := 0, cells := 0, slots := 0, locals := 0 } : Room).slots)) s₁ (entryFrame mm_ #[(.ref a), (.ref a)] 3)
  refine own_cast (ef_rmEqS mm_ a) ?_
  have Z0 : n0 ≤ h0.size := by have q := O0.2.1; rw [O0.1] at q; exact q
  have K0 : Keep h0 h0 [] := Keep.refl _ _
  show own_Go _ _ _ _ s₁ (mkF mm_ 0 #[.val (.ref a), .val (.ref a), .unset] [])
  refine own_step (fun t_ k_ => XS.aloadN X0.here hx rfl (hb hby dc_j42_m66_0) rfl rfl (XS.aloadN X0.here hx rfl (hb hby dc_j42_m66_1) rfl rfl k_)) ?_
  show own_Go _ _ _ _ s₁ (mkF mm_ 2 #[.val (.ref a), .val (.ref a), .unset] [(.ref a), (.ref a)])
  refine own_step (fun t_ k_ => Jvm.RoadKit.acmp (g := (mkF mm_ 2 #[.val (.ref a), .val (.ref a), .unset] [(.ref a), (.ref a)])) X0 hx rfl rfl rfl (pc0 := 2) (pc' := 5) (same := true) rfl (hb hby dc_j42_m66_2) rfl (decide_eq_true rfl) (by decide) (by decide) (XS.iconst X0.here hx rfl (hb hby dc_j42_m66_5) k_)) ?_
  show own_Go _ _ _ _ s₁ (mkF mm_ 6 #[.val (.ref a), .val (.ref a), .unset] [(.int (1 : Int32))])
  obtain ⟨fs, hr, hrun, hended, hW, hsame⟩ := X0.leave (v := some (.int (1 : Int32))) (fun h => by rw [Bd.returns] at h; cases h)
  refine ⟨_, _, ?_, hrun, hended, _, _, rfl, ?_, ⟨_, rfl⟩, hW, hsame.mono (by decide) (by decide)⟩
  · exact retN X0 hx (t := .boolean) Bd.returns (by simp) (hb hby dc_j42_m66_6) hr
  · show QrmEqS Z a a h0 n0 (some (.int (1 : Int32))) s₁.heap _
    rw [e0]
    exact ⟨rfl, rfl, rfl⟩
theorem dc_m3_0 : decode method_3_code 0 = .ok (.iload_n 1, 1) := by decide +kernel
theorem dc_m3_1 : decode method_3_code 1 = .ok (.sipush 255, 3) := by decide +kernel
theorem dc_m3_4 : decode method_3_code 4 = .ok (.iand, 1) := by decide +kernel
theorem dc_m3_5 : decode method_3_code 5 = .ok (.i2c, 1) := by decide +kernel
theorem dc_m3_6 : decode method_3_code 6 = .ok (.istore 4, 2) := by decide +kernel
theorem dc_m3_8 : decode method_3_code 8 = .ok (.iload_n 2, 1) := by decide +kernel
theorem dc_m3_9 : decode method_3_code 9 = .ok (.sipush 255, 3) := by decide +kernel
theorem dc_m3_12 : decode method_3_code 12 = .ok (.iand, 1) := by decide +kernel
theorem dc_m3_13 : decode method_3_code 13 = .ok (.i2c, 1) := by decide +kernel
theorem dc_m3_14 : decode method_3_code 14 = .ok (.istore 5, 2) := by decide +kernel
theorem dc_m3_16 : decode method_3_code 16 = .ok (.iload_n 3, 1) := by decide +kernel
theorem dc_m3_17 : decode method_3_code 17 = .ok (.sipush 255, 3) := by decide +kernel
theorem dc_m3_20 : decode method_3_code 20 = .ok (.iand, 1) := by decide +kernel
theorem dc_m3_21 : decode method_3_code 21 = .ok (.i2c, 1) := by decide +kernel
theorem dc_m3_22 : decode method_3_code 22 = .ok (.istore 6, 2) := by decide +kernel
theorem dc_m3_24 : decode method_3_code 24 = .ok (.iload_n 0, 1) := by decide +kernel
theorem dc_m3_25 : decode method_3_code 25 = .ok (.ifCond .ne 14, 3) := by decide +kernel
theorem dc_m3_28 : decode method_3_code 28 = .ok (.new 24, 3) := by decide +kernel
theorem dc_m3_31 : decode method_3_code 31 = .ok (.dup, 1) := by decide +kernel
theorem dc_m3_32 : decode method_3_code 32 = .ok (.iconst 0, 1) := by decide +kernel
theorem dc_m3_33 : decode method_3_code 33 = .ok (.newarray .char, 2) := by decide +kernel
theorem dc_m3_35 : decode method_3_code 35 = .ok (.invokespecial 46, 3) := by decide +kernel
theorem pd_4 : parseMethodDescriptor "([C)V" = some ⟨[(.array .char)], none⟩ := by decide +kernel
theorem dc_m3_38 : decode method_3_code 38 = .ok (.areturn, 1) := by decide +kernel
theorem dc_m3_39 : decode method_3_code 39 = .ok (.iload_n 0, 1) := by decide +kernel
theorem dc_m3_40 : decode method_3_code 40 = .ok (.iconst 1, 1) := by decide +kernel
theorem dc_m3_41 : decode method_3_code 41 = .ok (.if_icmp .ne 9, 3) := by decide +kernel
theorem dc_m3_44 : decode method_3_code 44 = .ok (.iload 4, 2) := by decide +kernel
theorem dc_m3_46 : decode method_3_code 46 = .ok (.invokestatic 49, 3) := by decide +kernel
theorem pd_5 : parseMethodDescriptor "(C)Ljava/lang/String;" = some ⟨[.char], some (.object "java/lang/String")⟩ := by decide +kernel
theorem dc_m3_49 : decode method_3_code 49 = .ok (.areturn, 1) := by decide +kernel
theorem dc_m3_50 : decode method_3_code 50 = .ok (.iload_n 0, 1) := by decide +kernel
theorem dc_m3_51 : decode method_3_code 51 = .ok (.iconst 2, 1) := by decide +kernel
theorem dc_m3_52 : decode method_3_code 52 = .ok (.if_icmp .ne 24, 3) := by decide +kernel
theorem dc_m3_55 : decode method_3_code 55 = .ok (.new 24, 3) := by decide +kernel
theorem dc_m3_58 : decode method_3_code 58 = .ok (.dup, 1) := by decide +kernel
theorem dc_m3_59 : decode method_3_code 59 = .ok (.iconst 2, 1) := by decide +kernel
theorem dc_m3_60 : decode method_3_code 60 = .ok (.newarray .char, 2) := by decide +kernel
theorem dc_m3_62 : decode method_3_code 62 = .ok (.dup, 1) := by decide +kernel
theorem dc_m3_63 : decode method_3_code 63 = .ok (.iconst 0, 1) := by decide +kernel
theorem dc_m3_64 : decode method_3_code 64 = .ok (.iload 4, 2) := by decide +kernel
theorem dc_m3_66 : decode method_3_code 66 = .ok (.castore, 1) := by decide +kernel
theorem dc_m3_67 : decode method_3_code 67 = .ok (.dup, 1) := by decide +kernel
theorem dc_m3_68 : decode method_3_code 68 = .ok (.iconst 1, 1) := by decide +kernel
theorem dc_m3_69 : decode method_3_code 69 = .ok (.iload 5, 2) := by decide +kernel
theorem dc_m3_71 : decode method_3_code 71 = .ok (.castore, 1) := by decide +kernel
theorem dc_m3_72 : decode method_3_code 72 = .ok (.invokespecial 46, 3) := by decide +kernel
theorem dc_m3_75 : decode method_3_code 75 = .ok (.areturn, 1) := by decide +kernel
theorem dc_m3_76 : decode method_3_code 76 = .ok (.new 24, 3) := by decide +kernel
theorem dc_m3_79 : decode method_3_code 79 = .ok (.dup, 1) := by decide +kernel
theorem dc_m3_80 : decode method_3_code 80 = .ok (.iconst 3, 1) := by decide +kernel
theorem dc_m3_81 : decode method_3_code 81 = .ok (.newarray .char, 2) := by decide +kernel
theorem dc_m3_83 : decode method_3_code 83 = .ok (.dup, 1) := by decide +kernel
theorem dc_m3_84 : decode method_3_code 84 = .ok (.iconst 0, 1) := by decide +kernel
theorem dc_m3_85 : decode method_3_code 85 = .ok (.iload 4, 2) := by decide +kernel
theorem dc_m3_87 : decode method_3_code 87 = .ok (.castore, 1) := by decide +kernel
theorem dc_m3_88 : decode method_3_code 88 = .ok (.dup, 1) := by decide +kernel
theorem dc_m3_89 : decode method_3_code 89 = .ok (.iconst 1, 1) := by decide +kernel
theorem dc_m3_90 : decode method_3_code 90 = .ok (.iload 5, 2) := by decide +kernel
theorem dc_m3_92 : decode method_3_code 92 = .ok (.castore, 1) := by decide +kernel
theorem dc_m3_93 : decode method_3_code 93 = .ok (.dup, 1) := by decide +kernel
theorem dc_m3_94 : decode method_3_code 94 = .ok (.iconst 2, 1) := by decide +kernel
theorem dc_m3_95 : decode method_3_code 95 = .ok (.iload 6, 2) := by decide +kernel
theorem dc_m3_97 : decode method_3_code 97 = .ok (.castore, 1) := by decide +kernel
theorem dc_m3_98 : decode method_3_code 98 = .ok (.invokespecial 46, 3) := by decide +kernel
theorem dc_m3_101 : decode method_3_code 101 = .ok (.areturn, 1) := by decide +kernel
theorem pn_com_example_schedule_to_run_scheduletorun_engine_AttemptResultCancelledPinLaw : plainName "com/example/schedule_to_run/scheduletorun/engine/AttemptResultCancelledPinLaw" = true := by first | (simp [plainName, overriddenIn]; done) | decide +kernel
theorem ef_rmDs (mm_ : MethodId) (n : Int32) (a : Int32) (b : Int32) (c : Int32) : entryFrame mm_ #[(.int n), (.int a), (.int b), (.int c)] 7 = (mkF mm_ 0 #[.val (.int n), .val (.int a), .val (.int b), .val (.int c), .unset, .unset, .unset] []) := by first | (simp [entryFrame, mkF, argsToLocals, Value.category]; done) | rfl
def QrmDs (Z : State) (n : Int32) (a : Int32) (b : Int32) (c : Int32) (h0 : Heap) (n0 : Nat) (vv_ : Option Value) (hh_ : Heap) (LL_ : List Loc) : Prop := ∃ (r : Addr), ∃ (t : Addr), ∃ (cs : List Int32), (vv_ = some (.ref r)) ∧ (Fr n0 LL_) ∧ (Keep h0 hh_ []) ∧ (h0.size ≤ r) ∧ (own_Str Z hh_ r t cs)
set_option maxRecDepth 65536 in
set_option maxHeartbeats 40000000 in
theorem rmDs (l : Launch) (Z : State) (a0 : Array Value) (hw : ∀ d ∈ tables_1, d.before a0 Z = true) (ws : List Jvm.Cond) (n : Int32) (a : Int32) (b : Int32) (c : Int32) {zc : Int32} {wO : Addr} (h0 : Heap) (n0 : Nat) (O0 : Old Z n0 h0) (G_ : own_St Z zc wO) :
    MetFree l (⟨"com/example/schedule_to_run/scheduletorun/engine/AttemptResultCancelledPinLaw", "makeString", "(IIII)Ljava/lang/String;"⟩ : MethodName) (head1 (Jvm.Cond.code (⟨"com/example/schedule_to_run/scheduletorun/engine/AttemptResultCancelledPinLaw", "makeString", "(IIII)Ljava/lang/String;"⟩ : MethodName) method_3_code 7 (some (.object "java/lang/String")) :: ws) ({ frames := 4, cells := 4, slots := 10, locals := 66 } : Room)) (fun aa_ UU_ => aa_ = #[(.int n), (.int a), (.int b), (.int c)] ∧ Z.Warmed39 UU_.vm ∧ UU_.heap = h0 ∧ (IB Z UU_.vm [])) (fun _ _ _ _ _ => True) (fun _ UU_ oo_ UV_ => ∃ vv_ LL_, oo_ = .returned vv_ ∧ QrmDs Z n a b c h0 n0 vv_ UV_.heap LL_ ∧ IB Z UV_.vm [""] ∧ ReturnedEndW UU_ oo_ UV_ LL_ ({ frames := 4, cells := 4, slots := 10, locals := 66 } : Room).cells ({ frames := 4, cells := 4, slots := 10, locals := 66 } : Room).slots) := by
  refine MetFree.of_bodySF (plainFor_of_name pn_com_example_schedule_to_run_scheduletorun_engine_AttemptResultCancelledPinLaw) hisR ?_
  intro pp_ ee_ ss_ mm_ args_ bb_ me_ cc_ s₁ Bd hml0 hP hK
  obtain ⟨rfl, hZ, hh, hI⟩ := hP
  have hx := Bd.exec
  have hby := Bd.bytes
  have hml : cc_.maxLocals = 7 := hml0
  have hown : ss_.vm.findClass "com/example/schedule_to_run/scheduletorun/engine/AttemptResultCancelledPinLaw" = some mm_.cls := findClass_of_methodNamed Bd.named
  have hnm := (name_of_methodNamed Bd.named Bd.method).1
  have X0 : Stand pp_ l ee_ ({ frames := 4, cells := 4, slots := 10, locals := 66 } : Room) ss_ mm_ #[(.int n), (.int a), (.int b), (.int c)] bb_ me_ cc_ s₁ [] 0 0 := Stand.of_body Bd
  have e0 : s₁.heap = h0 := by rw [← hh, Bd.state]; rfl
  have N0 := Fr.nil n0
  have X0 : Stand pp_ l ee_ _ (ss_.setVm ss_.vm) mm_ _ bb_ me_ cc_ s₁ [] 0 0 := X0
  have hZ : Z.Warmed39 (ss_.setVm ss_.vm).vm := hZ
  have hown : (ss_.setVm ss_.vm).vm.findClass "com/example/schedule_to_run/scheduletorun/engine/AttemptResultCancelledPinLaw" = some mm_.cls := hown
  have hS0 : ss_.Since ss_.vm 0 := (State.WarmedH.refl ss_).since 0
  have hkeep_ : ∀ (b : Addr) (cl : Cell), Z.heap[b]? = some cl → ss_.heap[b]? = some cl := by rw [hh]; exact O0.2.2
  have own_atoms_ : ∀ a ∈ Bundle.stringAtoms, a.before a0 Z = true := fun d hd => hw d ((by decide +kernel : ∀ d ∈ Bundle.stringAtoms, d ∈ tables_1) d hd)
  show own_Go pp_ ee_ bb_ (fun s₂ oo_ => s₂.status = .running ∧ Ended s₂ bb_ oo_ ∧ (∃ vv_ LL_, oo_ = .returned vv_ ∧ QrmDs Z n a b c h0 n0 vv_ s₂.heap LL_ ∧ IB Z s₂.vm [""] ∧ ReturnedEndW ss_ oo_ s₂ LL_ ({ frames := 4, cells := 4, slots := 10, locals := 66 } : Room).cells ({ frames := 4, cells := 4, slots := 10, locals := 66 } : Room).slots)) s₁ (entryFrame mm_ #[(.int n), (.int a), (.int b), (.int c)] 7)
  refine own_cast (ef_rmDs mm_ n a b c) ?_
  have Z0 : n0 ≤ h0.size := by have q := O0.2.1; rw [O0.1] at q; exact q
  have K0 : Keep h0 h0 [] := Keep.refl _ _
  obtain ⟨G_cs, G_cs0, G_S1, G_E2, G_cw, G_h_java_lang_String_7⟩ := id G_
  have own_cw_ : Jvm.Lit.compactW.before a0 Z = true := G_cw
  show own_Go _ _ _ _ s₁ (mkF mm_ 0 #[.val (.int n), .val (.int a), .val (.int b), .val (.int c), .unset, .unset, .unset] [])
  refine own_step (fun t_ k_ => XS.iloadN X0.here hx rfl (hb hby dc_m3_0) rfl  (XS.sipush X0.here hx rfl (hb hby dc_m3_1) (XS.iand X0.here hx rfl (hb hby dc_m3_4) rfl k_))) ?_
  show own_Go _ _ _ _ s₁ (mkF mm_ 5 #[.val (.int n), .val (.int a), .val (.int b), .val (.int c), .unset, .unset, .unset] [(.int (a &&& (255 : Int32)))])
  refine own_step (fun t_ k_ => XS.i2c X0.here hx rfl (hb hby dc_m3_5) rfl (by rw [i2c_mask]; exact (XS.istore X0.here hx rfl (hb hby dc_m3_6) rfl (l' := #[.val (.int n), .val (.int a), .val (.int b), .val (.int c), .val (.int (a &&& (255 : Int32))), .unset, .unset]) rfl (XS.iloadN X0.here hx rfl (hb hby dc_m3_8) rfl  (XS.sipush X0.here hx rfl (hb hby dc_m3_9) (XS.iand X0.here hx rfl (hb hby dc_m3_12) rfl k_)))))) ?_
  show own_Go _ _ _ _ s₁ (mkF mm_ 13 #[.val (.int n), .val (.int a), .val (.int b), .val (.int c), .val (.int (a &&& (255 : Int32))), .unset, .unset] [(.int (b &&& (255 : Int32)))])
  refine own_step (fun t_ k_ => XS.i2c X0.here hx rfl (hb hby dc_m3_13) rfl (by rw [i2c_mask]; exact (XS.istore X0.here hx rfl (hb hby dc_m3_14) rfl (l' := #[.val (.int n), .val (.int a), .val (.int b), .val (.int c), .val (.int (a &&& (255 : Int32))), .val (.int (b &&& (255 : Int32))), .unset]) rfl (XS.iloadN X0.here hx rfl (hb hby dc_m3_16) rfl  (XS.sipush X0.here hx rfl (hb hby dc_m3_17) (XS.iand X0.here hx rfl (hb hby dc_m3_20) rfl k_)))))) ?_
  show own_Go _ _ _ _ s₁ (mkF mm_ 21 #[.val (.int n), .val (.int a), .val (.int b), .val (.int c), .val (.int (a &&& (255 : Int32))), .val (.int (b &&& (255 : Int32))), .unset] [(.int (c &&& (255 : Int32)))])
  refine own_step (fun t_ k_ => XS.i2c X0.here hx rfl (hb hby dc_m3_21) rfl (by rw [i2c_mask]; exact (XS.istore X0.here hx rfl (hb hby dc_m3_22) rfl (l' := #[.val (.int n), .val (.int a), .val (.int b), .val (.int c), .val (.int (a &&& (255 : Int32))), .val (.int (b &&& (255 : Int32))), .val (.int (c &&& (255 : Int32)))]) rfl (XS.iloadN X0.here hx rfl (hb hby dc_m3_24) rfl  k_)))) ?_
  show own_Go _ _ _ _ s₁ (mkF mm_ 25 #[.val (.int n), .val (.int a), .val (.int b), .val (.int c), .val (.int (a &&& (255 : Int32))), .val (.int (b &&& (255 : Int32))), .val (.int (c &&& (255 : Int32)))] [(.int n)])
  by_cases hc25_1 : n = (0 : Int32)
  · skip
    refine own_step (fun t_ k_ => XS.ifNo X0.here hx rfl (hb hby dc_m3_25) rfl ((if0 _ _).trans (teq hc25_1).2) k_) ?_
    show own_Go _ _ _ _ s₁ (mkF mm_ 28 #[.val (.int n), .val (.int a), .val (.int b), .val (.int c), .val (.int (a &&& (255 : Int32))), .val (.int (b &&& (255 : Int32))), .val (.int (c &&& (255 : Int32)))] [])
    obtain ⟨T2, h2, X2, e2, E2, A2, D2, -, st2⟩ := newO X0 hx hZ hown (own_w hw 4 rfl) (own_w hw 5 rfl) (own_w hw 6 rfl) e0 (g := (mkF mm_ 28 #[.val (.int n), .val (.int a), .val (.int b), .val (.int c), .val (.int (a &&& (255 : Int32))), .val (.int (b &&& (255 : Int32))), .val (.int (c &&& (255 : Int32)))] [])) rfl (hb hby dc_m3_28) (by decide) (by decide)
    obtain ⟨b2, q2⟩ : ∃ z, z = h0.size := ⟨_, rfl⟩
    rw [← q2] at A2 D2 st2
    have lo_b2 : h0.size ≤ b2 := Nat.le_trans K0.1 (Nat.le_of_eq q2.symm)
    have g_b2 : n0 ≤ b2 := Nat.le_trans Z0 lo_b2
    refine own_step st2 ?_
    have F2_value : Fld Z h2 b2 "java/lang/String" "value" "[B" .null := D2 (Or.inr (own_w hw 20 rfl)) (ty := (.array .byte)) (by decide)
    have F2_coder : Fld Z h2 b2 "java/lang/String" "coder" "B" (.int (0 : Int32)) := D2 (Or.inr (own_w hw 21 rfl)) (ty := .byte) (by decide)
    show own_Go _ _ _ _ T2 (mkF mm_ 31 #[.val (.int n), .val (.int a), .val (.int b), .val (.int c), .val (.int (a &&& (255 : Int32))), .val (.int (b &&& (255 : Int32))), .val (.int (c &&& (255 : Int32)))] [(.ref b2)])
    refine own_step (fun t_ k_ => XS.dup X2.here hx rfl (hb hby dc_m3_31) rfl rfl (XS.iconst X2.here hx rfl (hb hby dc_m3_32) k_)) ?_
    show own_Go _ _ _ _ T2 (mkF mm_ 33 #[.val (.int n), .val (.int a), .val (.int b), .val (.int c), .val (.int (a &&& (255 : Int32))), .val (.int (b &&& (255 : Int32))), .val (.int (c &&& (255 : Int32)))] [(.int (0 : Int32)), (.ref b2), (.ref b2)])
    obtain ⟨T3, h3, k3, X3, e3, E3, A3, st3⟩ := newP X2 hx hZ (own_w hw 7 rfl) e2 (g := (mkF mm_ 33 #[.val (.int n), .val (.int a), .val (.int b), .val (.int c), .val (.int (a &&& (255 : Int32))), .val (.int (b &&& (255 : Int32))), .val (.int (c &&& (255 : Int32)))] [(.int (0 : Int32)), (.ref b2), (.ref b2)])) rfl (hb hby dc_m3_33) rfl (by decide) (cap := 0) (by decide) (by decide) (by decide) (by decide)
    obtain ⟨b3, q3⟩ : ∃ z, z = h2.size := ⟨_, rfl⟩
    rw [← q3] at A3 st3
    have K4 : Keep h0 h2 [] := (K0.ext E2)
    have lo_b3 : h0.size ≤ b3 := Nat.le_trans K4.1 (Nat.le_of_eq q3.symm)
    have g_b3 : n0 ≤ b3 := Nat.le_trans Z0 lo_b3
    refine own_step st3 ?_
    have V3 : Arv Z h3 b3 k3 .char (0 : Int32) [] (.int (0 : Int32)) := (Arv.new A3 (by decide)).pad (pad_rep [] (.int (0 : Int32)) 0)
    show own_Go _ _ _ _ T3 (mkF mm_ 35 #[.val (.int n), .val (.int a), .val (.int b), .val (.int c), .val (.int (a &&& (255 : Int32))), .val (.int (b &&& (255 : Int32))), .val (.int (c &&& (255 : Int32)))] [(.ref b3), (.ref b2), (.ref b2)])
    have f6 : Exa Z h3 b2 "java/lang/String" := (A2.ext E3)
    have f7 : Fld Z h3 b2 "java/lang/String" "value" "[B" .null := (F2_value.ext E3)
    have f8 : Fld Z h3 b2 "java/lang/String" "coder" "B" (.int (0 : Int32)) := (F2_coder.ext E3)
    have O9 : Old Z n0 h3 := ((O0.ext E2).ext E3)
    obtain ⟨_, _, ⟨T5, Lx5, kx5, nx5⟩, -, X5, hS5, hG5, ⟨Lc5, hQ5, l5, y5, z5⟩, st5⟩ := X3.specialBackS hx (y := (⟨"java/lang/String", "<init>", "([C)V"⟩ : MethodName)) rfl hown (mvT hZ (own_w hw 8 rfl)) (mvT hZ (own_w hw 9 rfl)) (mvT hZ (own_w hw 10 rfl)) (by decide) (own_backI (J := fun q_ => IB Z q_ []) (J' := fun q_ => IB Z q_ ("" :: [])) (W := 1) (rmI1 l Z a0 hw [] b2 b3 k3 (.int (0 : Int32)) [] h3 n0 O9 G_ f6 f7 f8 g_b2 (by first | assumption | decide | (simp; done)) V3) hZ (own_w hw 10 rfl) (own_w hw 6 rfl) (by decide) (by decide)) (g := (mkF mm_ 35 #[.val (.int n), .val (.int a), .val (.int b), .val (.int c), .val (.int (a &&& (255 : Int32))), .val (.int (b &&& (255 : Int32))), .val (.int (c &&& (255 : Int32)))] [(.ref b3), (.ref b2), (.ref b2)])) rfl (by rw [hml]; rfl) (Steps.refl _) (a := b2) (argsL := [(.ref b3)]) (rest := [(.ref b2)]) (lenOf pd_4 rfl) rfl (by show 2 * 0 + _ ≤ _; exact Nat.le_of_eq rfl) (hb hby dc_m3_35) (fun vm_ hvm_ => ⟨rfl, e3, (by decide : 2 + 2 ≤ _), (by decide : 4 + 4 ≤ _), own_IB_mono (own_IB_warm hI hvm_) (by intro t_ h_; first | exact h_ | exact List.mem_cons_of_mem _ h_ | (revert t_ h_; decide))⟩)
    dsimp only [Pt.U, Pt.locs, Pt.cells, Pt.slots] at X5 l5 y5 z5 st5 hQ5 hS5 hG5
    subst l5 y5 z5
    obtain ⟨X5, hS5, hZ5, hown5⟩ := rebS (n1 := h3.size) hS0 (Nat.le_trans (Nat.le_trans (Nat.zero_le _) E2.1) E3.1) X5 hS5 (by rw [← e3]; exact hG5) hZ hown
    obtain ⟨hQ5, hIq5⟩ := hQ5
    obtain ⟨t_5, rfl, Nq5, Kc5, r5_0⟩ := hQ5
    have N5 := Fr.app N0 Nq5
    refine own_jump st5 ?_
    show own_Go _ _ _ _ T5 (mkF mm_ 38 #[.val (.int n), .val (.int a), .val (.int b), .val (.int c), .val (.int (a &&& (255 : Int32))), .val (.int (b &&& (255 : Int32))), .val (.int (c &&& (255 : Int32)))] [(.ref b2)])
    have K10 : Keep h0 T5.heap [] := ((K4.ext E3).trans Kc5 (allS (Or.inr lo_b2) all0))
    obtain ⟨fs, hr, hrun, hended, hEnd⟩ := X5.leaveW hS5 (Nat.le_refl _) (v := some (.ref b2)) (fun h => by rw [Bd.returns] at h; cases h)
    refine ⟨_, _, ?_, hrun, hended, _, _, rfl, ?_, own_IB_mono (own_IB_warm hIq5 X5.warmed) (by intro t_ h_; first | exact h_ | exact List.mem_cons_of_mem _ h_ | (revert t_ h_; decide)), own_endMono hEnd (by decide) (by decide)⟩
    · jvm_step X5.here [X5.here.top, hx, (hb hby dc_m3_38), X5.method', Bd.returns, Value.isRef, FieldType.isReference]
      first | (intro acts; rw [hr _ acts rfl rfl rfl]) | rw [hr _ _ rfl rfl rfl]
      exact Steps.refl _
    · show QrmDs Z n a b c h0 n0 (some (.ref b2)) T5.heap _
      exact ⟨b2, t_5, [], rfl, N5, K10, lo_b2, r5_0⟩
  · skip
    refine own_step (fun t_ k_ => XS.ifYes X0.here hx rfl (pc0 := 25) (pc' := 39) rfl (hb hby dc_m3_25) rfl ((if0 _ _).trans (feq hc25_1).2) (by decide) (by decide) k_) ?_
    show own_Go _ _ _ _ s₁ (mkF mm_ 39 #[.val (.int n), .val (.int a), .val (.int b), .val (.int c), .val (.int (a &&& (255 : Int32))), .val (.int (b &&& (255 : Int32))), .val (.int (c &&& (255 : Int32)))] [])
    refine own_step (fun t_ k_ => XS.iloadN X0.here hx rfl (hb hby dc_m3_39) rfl  (XS.iconst X0.here hx rfl (hb hby dc_m3_40) k_)) ?_
    show own_Go _ _ _ _ s₁ (mkF mm_ 41 #[.val (.int n), .val (.int a), .val (.int b), .val (.int c), .val (.int (a &&& (255 : Int32))), .val (.int (b &&& (255 : Int32))), .val (.int (c &&& (255 : Int32)))] [(.int (1 : Int32)), (.int n)])
    by_cases hc41_11 : n = (1 : Int32)
    · skip
      refine own_step (fun t_ k_ => XS.icmpNo X0.here hx rfl (hb hby dc_m3_41) rfl (teq hc41_11).2 k_) ?_
      show own_Go _ _ _ _ s₁ (mkF mm_ 44 #[.val (.int n), .val (.int a), .val (.int b), .val (.int c), .val (.int (a &&& (255 : Int32))), .val (.int (b &&& (255 : Int32))), .val (.int (c &&& (255 : Int32)))] [])
      refine own_step (fun t_ k_ => XS.iload X0.here hx rfl (hb hby dc_m3_44) rfl  k_) ?_
      show own_Go _ _ _ _ s₁ (mkF mm_ 46 #[.val (.int n), .val (.int a), .val (.int b), .val (.int c), .val (.int (a &&& (255 : Int32))), .val (.int (b &&& (255 : Int32))), .val (.int (c &&& (255 : Int32)))] [(.int (a &&& (255 : Int32)))])
      obtain ⟨_, T12, Lc12, X12, hQ12, st12⟩ := own_cS X0 hx hZ hown (own_w hw 84 rfl) (own_w hw 85 rfl) (own_w hw 6 rfl) (own_w hw 86 rfl) (by decide) (backOf (W := 0) (rmVC l Z a0 hw [] (a &&& (255 : Int32)) h0 n0 O0 G_ (own_and255 _)) hZ (own_w hw 86 rfl) (own_w hw 6 rfl) (by decide) (by decide)) (g := (mkF mm_ 46 #[.val (.int n), .val (.int a), .val (.int b), .val (.int c), .val (.int (a &&& (255 : Int32))), .val (.int (b &&& (255 : Int32))), .val (.int (c &&& (255 : Int32)))] [(.int (a &&& (255 : Int32)))])) rfl (by rw [hml]; rfl) (argsL := [(.int (a &&& (255 : Int32)))]) (rest := []) (lenOf pd_5 rfl) rfl (by show 2 * 0 + _ ≤ _; exact Nat.le_of_eq rfl) (hb hby dc_m3_46) rfl e0 (by decide) (by decide)
      obtain ⟨r_12, t_12, rfl, Nq12, Kc12, r12_0, r12_1⟩ := hQ12
      have N12 := Fr.app N0 Nq12
      have lo_r_12 : h0.size ≤ r_12 := Nat.le_trans K0.1 r12_0
      have g_r_12 : n0 ≤ r_12 := Nat.le_trans Z0 lo_r_12
      refine own_jump st12 ?_
      show own_Go _ _ _ _ T12 (mkF mm_ 49 #[.val (.int n), .val (.int a), .val (.int b), .val (.int c), .val (.int (a &&& (255 : Int32))), .val (.int (b &&& (255 : Int32))), .val (.int (c &&& (255 : Int32)))] [(.ref r_12)])
      have K13 : Keep h0 T12.heap [] := (K0.trans Kc12 all0)
      obtain ⟨fs, hr, hrun, hended, hEnd⟩ := X12.leaveW hS0 (Nat.le_trans (Nat.zero_le _) Kc12.1) (v := some (.ref r_12)) (fun h => by rw [Bd.returns] at h; cases h)
      refine ⟨_, _, ?_, hrun, hended, _, _, rfl, ?_, own_IB_mono (own_IB_warm hI X12.warmed) (by intro t_ h_; first | exact h_ | exact List.mem_cons_of_mem _ h_ | (revert t_ h_; decide)), own_endMono hEnd (by decide) (by decide)⟩
      · jvm_step X12.here [X12.here.top, hx, (hb hby dc_m3_49), X12.method', Bd.returns, Value.isRef, FieldType.isReference]
        first | (intro acts; rw [hr _ acts rfl rfl rfl]) | rw [hr _ _ rfl rfl rfl]
        exact Steps.refl _
      · show QrmDs Z n a b c h0 n0 (some (.ref r_12)) T12.heap _
        exact ⟨r_12, t_12, [(a &&& (255 : Int32))], rfl, N12, K13, lo_r_12, r12_1⟩
    · skip
      refine own_step (fun t_ k_ => XS.icmpYes X0.here hx rfl (pc0 := 41) (pc' := 50) rfl (hb hby dc_m3_41) rfl (feq hc41_11).2 (by decide) (by decide) k_) ?_
      show own_Go _ _ _ _ s₁ (mkF mm_ 50 #[.val (.int n), .val (.int a), .val (.int b), .val (.int c), .val (.int (a &&& (255 : Int32))), .val (.int (b &&& (255 : Int32))), .val (.int (c &&& (255 : Int32)))] [])
      refine own_step (fun t_ k_ => XS.iloadN X0.here hx rfl (hb hby dc_m3_50) rfl  (XS.iconst X0.here hx rfl (hb hby dc_m3_51) k_)) ?_
      show own_Go _ _ _ _ s₁ (mkF mm_ 52 #[.val (.int n), .val (.int a), .val (.int b), .val (.int c), .val (.int (a &&& (255 : Int32))), .val (.int (b &&& (255 : Int32))), .val (.int (c &&& (255 : Int32)))] [(.int (2 : Int32)), (.int n)])
      by_cases hc52_14 : n = (2 : Int32)
      · skip
        refine own_step (fun t_ k_ => XS.icmpNo X0.here hx rfl (hb hby dc_m3_52) rfl (teq hc52_14).2 k_) ?_
        show own_Go _ _ _ _ s₁ (mkF mm_ 55 #[.val (.int n), .val (.int a), .val (.int b), .val (.int c), .val (.int (a &&& (255 : Int32))), .val (.int (b &&& (255 : Int32))), .val (.int (c &&& (255 : Int32)))] [])
        obtain ⟨T15, h15, X15, e15, E15, A15, D15, -, st15⟩ := newO X0 hx hZ hown (own_w hw 4 rfl) (own_w hw 5 rfl) (own_w hw 6 rfl) e0 (g := (mkF mm_ 55 #[.val (.int n), .val (.int a), .val (.int b), .val (.int c), .val (.int (a &&& (255 : Int32))), .val (.int (b &&& (255 : Int32))), .val (.int (c &&& (255 : Int32)))] [])) rfl (hb hby dc_m3_55) (by decide) (by decide)
        obtain ⟨b15, q15⟩ : ∃ z, z = h0.size := ⟨_, rfl⟩
        rw [← q15] at A15 D15 st15
        have lo_b15 : h0.size ≤ b15 := Nat.le_trans K0.1 (Nat.le_of_eq q15.symm)
        have g_b15 : n0 ≤ b15 := Nat.le_trans Z0 lo_b15
        refine own_step st15 ?_
        have F15_value : Fld Z h15 b15 "java/lang/String" "value" "[B" .null := D15 (Or.inr (own_w hw 20 rfl)) (ty := (.array .byte)) (by decide)
        have F15_coder : Fld Z h15 b15 "java/lang/String" "coder" "B" (.int (0 : Int32)) := D15 (Or.inr (own_w hw 21 rfl)) (ty := .byte) (by decide)
        show own_Go _ _ _ _ T15 (mkF mm_ 58 #[.val (.int n), .val (.int a), .val (.int b), .val (.int c), .val (.int (a &&& (255 : Int32))), .val (.int (b &&& (255 : Int32))), .val (.int (c &&& (255 : Int32)))] [(.ref b15)])
        refine own_step (fun t_ k_ => XS.dup X15.here hx rfl (hb hby dc_m3_58) rfl rfl (XS.iconst X15.here hx rfl (hb hby dc_m3_59) k_)) ?_
        show own_Go _ _ _ _ T15 (mkF mm_ 60 #[.val (.int n), .val (.int a), .val (.int b), .val (.int c), .val (.int (a &&& (255 : Int32))), .val (.int (b &&& (255 : Int32))), .val (.int (c &&& (255 : Int32)))] [(.int (2 : Int32)), (.ref b15), (.ref b15)])
        obtain ⟨T16, h16, k16, X16, e16, E16, A16, st16⟩ := newP X15 hx hZ (own_w hw 7 rfl) e15 (g := (mkF mm_ 60 #[.val (.int n), .val (.int a), .val (.int b), .val (.int c), .val (.int (a &&& (255 : Int32))), .val (.int (b &&& (255 : Int32))), .val (.int (c &&& (255 : Int32)))] [(.int (2 : Int32)), (.ref b15), (.ref b15)])) rfl (hb hby dc_m3_60) rfl (by decide) (cap := 2) (by decide) (by decide) (by decide) (by decide)
        obtain ⟨b16, q16⟩ : ∃ z, z = h15.size := ⟨_, rfl⟩
        rw [← q16] at A16 st16
        have K17 : Keep h0 h15 [] := (K0.ext E15)
        have lo_b16 : h0.size ≤ b16 := Nat.le_trans K17.1 (Nat.le_of_eq q16.symm)
        have g_b16 : n0 ≤ b16 := Nat.le_trans Z0 lo_b16
        refine own_step st16 ?_
        have V16 : Arv Z h16 b16 k16 .char (2 : Int32) [(.int (0 : Int32)), (.int (0 : Int32))] (.int (0 : Int32)) := (Arv.new A16 (by decide)).pad (pad_rep [] (.int (0 : Int32)) 2)
        show own_Go _ _ _ _ T16 (mkF mm_ 62 #[.val (.int n), .val (.int a), .val (.int b), .val (.int c), .val (.int (a &&& (255 : Int32))), .val (.int (b &&& (255 : Int32))), .val (.int (c &&& (255 : Int32)))] [(.ref b16), (.ref b15), (.ref b15)])
        refine own_step (fun t_ k_ => XS.dup X16.here hx rfl (hb hby dc_m3_62) rfl rfl (XS.iconst X16.here hx rfl (hb hby dc_m3_63) (XS.iload X16.here hx rfl (hb hby dc_m3_64) rfl  k_))) ?_
        show own_Go _ _ _ _ T16 (mkF mm_ 66 #[.val (.int n), .val (.int a), .val (.int b), .val (.int c), .val (.int (a &&& (255 : Int32))), .val (.int (b &&& (255 : Int32))), .val (.int (c &&& (255 : Int32)))] [(.int (a &&& (255 : Int32))), (.int (0 : Int32)), (.ref b16), (.ref b16), (.ref b15), (.ref b15)])
        obtain ⟨cl18, Ar18, q18, S18, M18, H18, G18⟩ := id V16
        have hin18 : ¬ ((0 : Int32) < 0 ∨ cl18.slots.size ≤ ((0 : Int32)).toNatClampNeg) := inb_of S18 ⟨by decide, by decide⟩
        obtain ⟨T18, h18, X18, e18, W18, st18⟩ := stC X16 hx hZ e16 Ar18 (j := (0 : Int32)) hin18 (g := (mkF mm_ 66 #[.val (.int n), .val (.int a), .val (.int b), .val (.int c), .val (.int (a &&& (255 : Int32))), .val (.int (b &&& (255 : Int32))), .val (.int (c &&& (255 : Int32)))] [(.int (a &&& (255 : Int32))), (.int (0 : Int32)), (.ref b16), (.ref b16), (.ref b15), (.ref b15)])) rfl rfl (hb hby dc_m3_66)
        have V18 : Arv Z h18 b16 k16 .char (2 : Int32) [(.int (a &&& (255 : Int32))), (.int (0 : Int32))] (.int (0 : Int32)) := by
          have q := Arv.set Ar18 q18 S18 M18 H18 G18 (fits_nar_char _) W18 0 rfl (Nat.le_of_ble_eq_true rfl)
          rw [own_nar255] at q
          exact q
        have N18 := Fr.snoc X18 N0 g_b16
        refine own_step st18 ?_
        show own_Go _ _ _ _ T18 (mkF mm_ 67 #[.val (.int n), .val (.int a), .val (.int b), .val (.int c), .val (.int (a &&& (255 : Int32))), .val (.int (b &&& (255 : Int32))), .val (.int (c &&& (255 : Int32)))] [(.ref b16), (.ref b15), (.ref b15)])
        refine own_step (fun t_ k_ => XS.dup X18.here hx rfl (hb hby dc_m3_67) rfl rfl (XS.iconst X18.here hx rfl (hb hby dc_m3_68) (XS.iload X18.here hx rfl (hb hby dc_m3_69) rfl  k_))) ?_
        show own_Go _ _ _ _ T18 (mkF mm_ 71 #[.val (.int n), .val (.int a), .val (.int b), .val (.int c), .val (.int (a &&& (255 : Int32))), .val (.int (b &&& (255 : Int32))), .val (.int (c &&& (255 : Int32)))] [(.int (b &&& (255 : Int32))), (.int (1 : Int32)), (.ref b16), (.ref b16), (.ref b15), (.ref b15)])
        obtain ⟨cl19, Ar19, q19, S19, M19, H19, G19⟩ := id V18
        have hin19 : ¬ ((1 : Int32) < 0 ∨ cl19.slots.size ≤ ((1 : Int32)).toNatClampNeg) := inb_of S19 ⟨by decide, by decide⟩
        obtain ⟨T19, h19, X19, e19, W19, st19⟩ := stC X18 hx hZ e18 Ar19 (j := (1 : Int32)) hin19 (g := (mkF mm_ 71 #[.val (.int n), .val (.int a), .val (.int b), .val (.int c), .val (.int (a &&& (255 : Int32))), .val (.int (b &&& (255 : Int32))), .val (.int (c &&& (255 : Int32)))] [(.int (b &&& (255 : Int32))), (.int (1 : Int32)), (.ref b16), (.ref b16), (.ref b15), (.ref b15)])) rfl rfl (hb hby dc_m3_71)
        have V19 : Arv Z h19 b16 k16 .char (2 : Int32) [(.int (a &&& (255 : Int32))), (.int (b &&& (255 : Int32)))] (.int (0 : Int32)) := by
          have q := Arv.set Ar19 q19 S19 M19 H19 G19 (fits_nar_char _) W19 1 rfl (Nat.le_of_ble_eq_true rfl)
          rw [own_nar255] at q
          exact q
        have N19 := Fr.snoc X19 N18 g_b16
        refine own_step st19 ?_
        show own_Go _ _ _ _ T19 (mkF mm_ 72 #[.val (.int n), .val (.int a), .val (.int b), .val (.int c), .val (.int (a &&& (255 : Int32))), .val (.int (b &&& (255 : Int32))), .val (.int (c &&& (255 : Int32)))] [(.ref b16), (.ref b15), (.ref b15)])
        have hp21 : ∀ ch_ ∈ ([(a &&& (255 : Int32)), (b &&& (255 : Int32))] : List Int32), ¬ ch_ < 0 ∧ ¬ (255 : Int32) < ch_ := by
          intro ch_ hc
          simp only [List.mem_cons, List.not_mem_nil, or_false] at hc
          rcases hc with rfl | rfl
          · exact own_and255 _
          · exact own_and255 _
        have f22 : Exa Z h19 b15 "java/lang/String" := (((A15.ext E16).wr W18).wr W19)
        have f23 : Fld Z h19 b15 "java/lang/String" "value" "[B" .null := (((F15_value.ext E16).other W18 (Or.inl (Nat.ne_of_lt (Nat.lt_of_lt_of_le A15.lt (Nat.le_of_eq q16.symm))))).other W19 (Or.inl (Nat.ne_of_lt (Nat.lt_of_lt_of_le A15.lt (Nat.le_of_eq q16.symm)))))
        have f24 : Fld Z h19 b15 "java/lang/String" "coder" "B" (.int (0 : Int32)) := (((F15_coder.ext E16).other W18 (Or.inl (Nat.ne_of_lt (Nat.lt_of_lt_of_le A15.lt (Nat.le_of_eq q16.symm))))).other W19 (Or.inl (Nat.ne_of_lt (Nat.lt_of_lt_of_le A15.lt (Nat.le_of_eq q16.symm)))))
        have O25 : Old Z n0 h19 := ((((O0.ext E15).ext E16).wr W18 g_b16).wr W19 g_b16)
        have K26 : Keep h0 h19 [] := (((K17.ext E16).wr W18 (Or.inr lo_b16)).wr W19 (Or.inr lo_b16))
        obtain ⟨_, T20, Lc20, X20, hQ20, st20⟩ := own_cI X19 hx hZ rfl hown (own_w hw 8 rfl) (own_w hw 9 rfl) (own_w hw 10 rfl) (by decide) (own_newS (W := 1) hZ hw (cs := [(a &&& (255 : Int32)), (b &&& (255 : Int32))]) (n := 2) g_b15 (Nat.le_trans Z0 K26.1) f22 f23 f24 V19 (G_cs.ext O25.2) G_cs0 rfl rfl rfl (by decide) (by decide) hp21 (by decide) (by decide)) (g := (mkF mm_ 72 #[.val (.int n), .val (.int a), .val (.int b), .val (.int c), .val (.int (a &&& (255 : Int32))), .val (.int (b &&& (255 : Int32))), .val (.int (c &&& (255 : Int32)))] [(.ref b16), (.ref b15), (.ref b15)])) rfl (by rw [hml]; rfl) (a := b15) (argsL := [(.ref b16)]) (rest := [(.ref b15)]) (lenOf pd_4 rfl) rfl (by show 2 * 0 + _ ≤ _; exact Nat.le_of_eq rfl) (hb hby dc_m3_72) rfl e19 (by decide) (by decide)
        obtain ⟨t20, rfl, Nq20, Kc20, lo20, Fs20⟩ := hQ20
        have N20 := Fr.app N19 Nq20
        have lo_t20 : h0.size ≤ t20 := Nat.le_trans K26.1 lo20
        have g_t20 : n0 ≤ t20 := Nat.le_trans Z0 lo_t20
        refine own_jump st20 ?_
        show own_Go _ _ _ _ T20 (mkF mm_ 75 #[.val (.int n), .val (.int a), .val (.int b), .val (.int c), .val (.int (a &&& (255 : Int32))), .val (.int (b &&& (255 : Int32))), .val (.int (c &&& (255 : Int32)))] [(.ref b15)])
        have K27 : Keep h0 T20.heap [] := (K26.trans Kc20 (allS (Or.inr lo_b15) all0))
        obtain ⟨fs, hr, hrun, hended, hEnd⟩ := X20.leaveW hS0 (Nat.le_trans (Nat.le_trans (Nat.le_trans (Nat.le_trans (Nat.le_trans (Nat.zero_le _) E15.1) E16.1) (Keep.of_wr W18).1) (Keep.of_wr W19).1) Kc20.1) (v := some (.ref b15)) (fun h => by rw [Bd.returns] at h; cases h)
        refine ⟨_, _, ?_, hrun, hended, _, _, rfl, ?_, own_IB_mono (own_IB_warm hI X20.warmed) (by intro t_ h_; first | exact h_ | exact List.mem_cons_of_mem _ h_ | (revert t_ h_; decide)), own_endMono hEnd (by decide) (by decide)⟩
        · jvm_step X20.here [X20.here.top, hx, (hb hby dc_m3_75), X20.method', Bd.returns, Value.isRef, FieldType.isReference]
          first | (intro acts; rw [hr _ acts rfl rfl rfl]) | rw [hr _ _ rfl rfl rfl]
          exact Steps.refl _
        · show QrmDs Z n a b c h0 n0 (some (.ref b15)) T20.heap _
          exact ⟨b15, t20, [(a &&& (255 : Int32)), (b &&& (255 : Int32))], rfl, N20, K27, lo_b15, Fs20⟩
      · skip
        refine own_step (fun t_ k_ => XS.icmpYes X0.here hx rfl (pc0 := 52) (pc' := 76) rfl (hb hby dc_m3_52) rfl (feq hc52_14).2 (by decide) (by decide) k_) ?_
        show own_Go _ _ _ _ s₁ (mkF mm_ 76 #[.val (.int n), .val (.int a), .val (.int b), .val (.int c), .val (.int (a &&& (255 : Int32))), .val (.int (b &&& (255 : Int32))), .val (.int (c &&& (255 : Int32)))] [])
        obtain ⟨T28, h28, X28, e28, E28, A28, D28, -, st28⟩ := newO X0 hx hZ hown (own_w hw 4 rfl) (own_w hw 5 rfl) (own_w hw 6 rfl) e0 (g := (mkF mm_ 76 #[.val (.int n), .val (.int a), .val (.int b), .val (.int c), .val (.int (a &&& (255 : Int32))), .val (.int (b &&& (255 : Int32))), .val (.int (c &&& (255 : Int32)))] [])) rfl (hb hby dc_m3_76) (by decide) (by decide)
        obtain ⟨b28, q28⟩ : ∃ z, z = h0.size := ⟨_, rfl⟩
        rw [← q28] at A28 D28 st28
        have lo_b28 : h0.size ≤ b28 := Nat.le_trans K0.1 (Nat.le_of_eq q28.symm)
        have g_b28 : n0 ≤ b28 := Nat.le_trans Z0 lo_b28
        refine own_step st28 ?_
        have F28_value : Fld Z h28 b28 "java/lang/String" "value" "[B" .null := D28 (Or.inr (own_w hw 20 rfl)) (ty := (.array .byte)) (by decide)
        have F28_coder : Fld Z h28 b28 "java/lang/String" "coder" "B" (.int (0 : Int32)) := D28 (Or.inr (own_w hw 21 rfl)) (ty := .byte) (by decide)
        show own_Go _ _ _ _ T28 (mkF mm_ 79 #[.val (.int n), .val (.int a), .val (.int b), .val (.int c), .val (.int (a &&& (255 : Int32))), .val (.int (b &&& (255 : Int32))), .val (.int (c &&& (255 : Int32)))] [(.ref b28)])
        refine own_step (fun t_ k_ => XS.dup X28.here hx rfl (hb hby dc_m3_79) rfl rfl (XS.iconst X28.here hx rfl (hb hby dc_m3_80) k_)) ?_
        show own_Go _ _ _ _ T28 (mkF mm_ 81 #[.val (.int n), .val (.int a), .val (.int b), .val (.int c), .val (.int (a &&& (255 : Int32))), .val (.int (b &&& (255 : Int32))), .val (.int (c &&& (255 : Int32)))] [(.int (3 : Int32)), (.ref b28), (.ref b28)])
        obtain ⟨T29, h29, k29, X29, e29, E29, A29, st29⟩ := newP X28 hx hZ (own_w hw 7 rfl) e28 (g := (mkF mm_ 81 #[.val (.int n), .val (.int a), .val (.int b), .val (.int c), .val (.int (a &&& (255 : Int32))), .val (.int (b &&& (255 : Int32))), .val (.int (c &&& (255 : Int32)))] [(.int (3 : Int32)), (.ref b28), (.ref b28)])) rfl (hb hby dc_m3_81) rfl (by decide) (cap := 3) (by decide) (by decide) (by decide) (by decide)
        obtain ⟨b29, q29⟩ : ∃ z, z = h28.size := ⟨_, rfl⟩
        rw [← q29] at A29 st29
        have K30 : Keep h0 h28 [] := (K0.ext E28)
        have lo_b29 : h0.size ≤ b29 := Nat.le_trans K30.1 (Nat.le_of_eq q29.symm)
        have g_b29 : n0 ≤ b29 := Nat.le_trans Z0 lo_b29
        refine own_step st29 ?_
        have V29 : Arv Z h29 b29 k29 .char (3 : Int32) [(.int (0 : Int32)), (.int (0 : Int32)), (.int (0 : Int32))] (.int (0 : Int32)) := (Arv.new A29 (by decide)).pad (pad_rep [] (.int (0 : Int32)) 3)
        show own_Go _ _ _ _ T29 (mkF mm_ 83 #[.val (.int n), .val (.int a), .val (.int b), .val (.int c), .val (.int (a &&& (255 : Int32))), .val (.int (b &&& (255 : Int32))), .val (.int (c &&& (255 : Int32)))] [(.ref b29), (.ref b28), (.ref b28)])
        refine own_step (fun t_ k_ => XS.dup X29.here hx rfl (hb hby dc_m3_83) rfl rfl (XS.iconst X29.here hx rfl (hb hby dc_m3_84) (XS.iload X29.here hx rfl (hb hby dc_m3_85) rfl  k_))) ?_
        show own_Go _ _ _ _ T29 (mkF mm_ 87 #[.val (.int n), .val (.int a), .val (.int b), .val (.int c), .val (.int (a &&& (255 : Int32))), .val (.int (b &&& (255 : Int32))), .val (.int (c &&& (255 : Int32)))] [(.int (a &&& (255 : Int32))), (.int (0 : Int32)), (.ref b29), (.ref b29), (.ref b28), (.ref b28)])
        obtain ⟨cl31, Ar31, q31, S31, M31, H31, G31⟩ := id V29
        have hin31 : ¬ ((0 : Int32) < 0 ∨ cl31.slots.size ≤ ((0 : Int32)).toNatClampNeg) := inb_of S31 ⟨by decide, by decide⟩
        obtain ⟨T31, h31, X31, e31, W31, st31⟩ := stC X29 hx hZ e29 Ar31 (j := (0 : Int32)) hin31 (g := (mkF mm_ 87 #[.val (.int n), .val (.int a), .val (.int b), .val (.int c), .val (.int (a &&& (255 : Int32))), .val (.int (b &&& (255 : Int32))), .val (.int (c &&& (255 : Int32)))] [(.int (a &&& (255 : Int32))), (.int (0 : Int32)), (.ref b29), (.ref b29), (.ref b28), (.ref b28)])) rfl rfl (hb hby dc_m3_87)
        have V31 : Arv Z h31 b29 k29 .char (3 : Int32) [(.int (a &&& (255 : Int32))), (.int (0 : Int32)), (.int (0 : Int32))] (.int (0 : Int32)) := by
          have q := Arv.set Ar31 q31 S31 M31 H31 G31 (fits_nar_char _) W31 0 rfl (Nat.le_of_ble_eq_true rfl)
          rw [own_nar255] at q
          exact q
        have N31 := Fr.snoc X31 N0 g_b29
        refine own_step st31 ?_
        show own_Go _ _ _ _ T31 (mkF mm_ 88 #[.val (.int n), .val (.int a), .val (.int b), .val (.int c), .val (.int (a &&& (255 : Int32))), .val (.int (b &&& (255 : Int32))), .val (.int (c &&& (255 : Int32)))] [(.ref b29), (.ref b28), (.ref b28)])
        refine own_step (fun t_ k_ => XS.dup X31.here hx rfl (hb hby dc_m3_88) rfl rfl (XS.iconst X31.here hx rfl (hb hby dc_m3_89) (XS.iload X31.here hx rfl (hb hby dc_m3_90) rfl  k_))) ?_
        show own_Go _ _ _ _ T31 (mkF mm_ 92 #[.val (.int n), .val (.int a), .val (.int b), .val (.int c), .val (.int (a &&& (255 : Int32))), .val (.int (b &&& (255 : Int32))), .val (.int (c &&& (255 : Int32)))] [(.int (b &&& (255 : Int32))), (.int (1 : Int32)), (.ref b29), (.ref b29), (.ref b28), (.ref b28)])
        obtain ⟨cl32, Ar32, q32, S32, M32, H32, G32⟩ := id V31
        have hin32 : ¬ ((1 : Int32) < 0 ∨ cl32.slots.size ≤ ((1 : Int32)).toNatClampNeg) := inb_of S32 ⟨by decide, by decide⟩
        obtain ⟨T32, h32, X32, e32, W32, st32⟩ := stC X31 hx hZ e31 Ar32 (j := (1 : Int32)) hin32 (g := (mkF mm_ 92 #[.val (.int n), .val (.int a), .val (.int b), .val (.int c), .val (.int (a &&& (255 : Int32))), .val (.int (b &&& (255 : Int32))), .val (.int (c &&& (255 : Int32)))] [(.int (b &&& (255 : Int32))), (.int (1 : Int32)), (.ref b29), (.ref b29), (.ref b28), (.ref b28)])) rfl rfl (hb hby dc_m3_92)
        have V32 : Arv Z h32 b29 k29 .char (3 : Int32) [(.int (a &&& (255 : Int32))), (.int (b &&& (255 : Int32))), (.int (0 : Int32))] (.int (0 : Int32)) := by
          have q := Arv.set Ar32 q32 S32 M32 H32 G32 (fits_nar_char _) W32 1 rfl (Nat.le_of_ble_eq_true rfl)
          rw [own_nar255] at q
          exact q
        have N32 := Fr.snoc X32 N31 g_b29
        refine own_step st32 ?_
        show own_Go _ _ _ _ T32 (mkF mm_ 93 #[.val (.int n), .val (.int a), .val (.int b), .val (.int c), .val (.int (a &&& (255 : Int32))), .val (.int (b &&& (255 : Int32))), .val (.int (c &&& (255 : Int32)))] [(.ref b29), (.ref b28), (.ref b28)])
        refine own_step (fun t_ k_ => XS.dup X32.here hx rfl (hb hby dc_m3_93) rfl rfl (XS.iconst X32.here hx rfl (hb hby dc_m3_94) (XS.iload X32.here hx rfl (hb hby dc_m3_95) rfl  k_))) ?_
        show own_Go _ _ _ _ T32 (mkF mm_ 97 #[.val (.int n), .val (.int a), .val (.int b), .val (.int c), .val (.int (a &&& (255 : Int32))), .val (.int (b &&& (255 : Int32))), .val (.int (c &&& (255 : Int32)))] [(.int (c &&& (255 : Int32))), (.int (2 : Int32)), (.ref b29), (.ref b29), (.ref b28), (.ref b28)])
        obtain ⟨cl33, Ar33, q33, S33, M33, H33, G33⟩ := id V32
        have hin33 : ¬ ((2 : Int32) < 0 ∨ cl33.slots.size ≤ ((2 : Int32)).toNatClampNeg) := inb_of S33 ⟨by decide, by decide⟩
        obtain ⟨T33, h33, X33, e33, W33, st33⟩ := stC X32 hx hZ e32 Ar33 (j := (2 : Int32)) hin33 (g := (mkF mm_ 97 #[.val (.int n), .val (.int a), .val (.int b), .val (.int c), .val (.int (a &&& (255 : Int32))), .val (.int (b &&& (255 : Int32))), .val (.int (c &&& (255 : Int32)))] [(.int (c &&& (255 : Int32))), (.int (2 : Int32)), (.ref b29), (.ref b29), (.ref b28), (.ref b28)])) rfl rfl (hb hby dc_m3_97)
        have V33 : Arv Z h33 b29 k29 .char (3 : Int32) [(.int (a &&& (255 : Int32))), (.int (b &&& (255 : Int32))), (.int (c &&& (255 : Int32)))] (.int (0 : Int32)) := by
          have q := Arv.set Ar33 q33 S33 M33 H33 G33 (fits_nar_char _) W33 2 rfl (Nat.le_of_ble_eq_true rfl)
          rw [own_nar255] at q
          exact q
        have N33 := Fr.snoc X33 N32 g_b29
        refine own_step st33 ?_
        show own_Go _ _ _ _ T33 (mkF mm_ 98 #[.val (.int n), .val (.int a), .val (.int b), .val (.int c), .val (.int (a &&& (255 : Int32))), .val (.int (b &&& (255 : Int32))), .val (.int (c &&& (255 : Int32)))] [(.ref b29), (.ref b28), (.ref b28)])
        have hp35 : ∀ ch_ ∈ ([(a &&& (255 : Int32)), (b &&& (255 : Int32)), (c &&& (255 : Int32))] : List Int32), ¬ ch_ < 0 ∧ ¬ (255 : Int32) < ch_ := by
          intro ch_ hc
          simp only [List.mem_cons, List.not_mem_nil, or_false] at hc
          rcases hc with rfl | rfl | rfl
          · exact own_and255 _
          · exact own_and255 _
          · exact own_and255 _
        have f36 : Exa Z h33 b28 "java/lang/String" := ((((A28.ext E29).wr W31).wr W32).wr W33)
        have f37 : Fld Z h33 b28 "java/lang/String" "value" "[B" .null := ((((F28_value.ext E29).other W31 (Or.inl (Nat.ne_of_lt (Nat.lt_of_lt_of_le A28.lt (Nat.le_of_eq q29.symm))))).other W32 (Or.inl (Nat.ne_of_lt (Nat.lt_of_lt_of_le A28.lt (Nat.le_of_eq q29.symm))))).other W33 (Or.inl (Nat.ne_of_lt (Nat.lt_of_lt_of_le A28.lt (Nat.le_of_eq q29.symm)))))
        have f38 : Fld Z h33 b28 "java/lang/String" "coder" "B" (.int (0 : Int32)) := ((((F28_coder.ext E29).other W31 (Or.inl (Nat.ne_of_lt (Nat.lt_of_lt_of_le A28.lt (Nat.le_of_eq q29.symm))))).other W32 (Or.inl (Nat.ne_of_lt (Nat.lt_of_lt_of_le A28.lt (Nat.le_of_eq q29.symm))))).other W33 (Or.inl (Nat.ne_of_lt (Nat.lt_of_lt_of_le A28.lt (Nat.le_of_eq q29.symm)))))
        have O39 : Old Z n0 h33 := (((((O0.ext E28).ext E29).wr W31 g_b29).wr W32 g_b29).wr W33 g_b29)
        have K40 : Keep h0 h33 [] := ((((K30.ext E29).wr W31 (Or.inr lo_b29)).wr W32 (Or.inr lo_b29)).wr W33 (Or.inr lo_b29))
        obtain ⟨_, T34, Lc34, X34, hQ34, st34⟩ := own_cI X33 hx hZ rfl hown (own_w hw 8 rfl) (own_w hw 9 rfl) (own_w hw 10 rfl) (by decide) (own_newS (W := 1) hZ hw (cs := [(a &&& (255 : Int32)), (b &&& (255 : Int32)), (c &&& (255 : Int32))]) (n := 3) g_b28 (Nat.le_trans Z0 K40.1) f36 f37 f38 V33 (G_cs.ext O39.2) G_cs0 rfl rfl rfl (by decide) (by decide) hp35 (by decide) (by decide)) (g := (mkF mm_ 98 #[.val (.int n), .val (.int a), .val (.int b), .val (.int c), .val (.int (a &&& (255 : Int32))), .val (.int (b &&& (255 : Int32))), .val (.int (c &&& (255 : Int32)))] [(.ref b29), (.ref b28), (.ref b28)])) rfl (by rw [hml]; rfl) (a := b28) (argsL := [(.ref b29)]) (rest := [(.ref b28)]) (lenOf pd_4 rfl) rfl (by show 2 * 0 + _ ≤ _; exact Nat.le_of_eq rfl) (hb hby dc_m3_98) rfl e33 (by decide) (by decide)
        obtain ⟨t34, rfl, Nq34, Kc34, lo34, Fs34⟩ := hQ34
        have N34 := Fr.app N33 Nq34
        have lo_t34 : h0.size ≤ t34 := Nat.le_trans K40.1 lo34
        have g_t34 : n0 ≤ t34 := Nat.le_trans Z0 lo_t34
        refine own_jump st34 ?_
        show own_Go _ _ _ _ T34 (mkF mm_ 101 #[.val (.int n), .val (.int a), .val (.int b), .val (.int c), .val (.int (a &&& (255 : Int32))), .val (.int (b &&& (255 : Int32))), .val (.int (c &&& (255 : Int32)))] [(.ref b28)])
        have K41 : Keep h0 T34.heap [] := (K40.trans Kc34 (allS (Or.inr lo_b28) all0))
        obtain ⟨fs, hr, hrun, hended, hEnd⟩ := X34.leaveW hS0 (Nat.le_trans (Nat.le_trans (Nat.le_trans (Nat.le_trans (Nat.le_trans (Nat.le_trans (Nat.zero_le _) E28.1) E29.1) (Keep.of_wr W31).1) (Keep.of_wr W32).1) (Keep.of_wr W33).1) Kc34.1) (v := some (.ref b28)) (fun h => by rw [Bd.returns] at h; cases h)
        refine ⟨_, _, ?_, hrun, hended, _, _, rfl, ?_, own_IB_mono (own_IB_warm hI X34.warmed) (by intro t_ h_; first | exact h_ | exact List.mem_cons_of_mem _ h_ | (revert t_ h_; decide)), own_endMono hEnd (by decide) (by decide)⟩
        · jvm_step X34.here [X34.here.top, hx, (hb hby dc_m3_101), X34.method', Bd.returns, Value.isRef, FieldType.isReference]
          first | (intro acts; rw [hr _ acts rfl rfl rfl]) | rw [hr _ _ rfl rfl rfl]
          exact Steps.refl _
        · show QrmDs Z n a b c h0 n0 (some (.ref b28)) T34.heap _
          exact ⟨b28, t34, [(a &&& (255 : Int32)), (b &&& (255 : Int32)), (c &&& (255 : Int32))], rfl, N34, K41, lo_b28, Fs34⟩
theorem dc_p4_m1_0 : decode prog_4_method_1_code 0 = .ok (.aload_n 0, 1) := by decide +kernel
theorem dc_p4_m1_1 : decode prog_4_method_1_code 1 = .ok (.invokespecial 1, 3) := by decide +kernel
theorem dc_p4_m1_4 : decode prog_4_method_1_code 4 = .ok (.aload_n 0, 1) := by decide +kernel
theorem dc_p4_m1_5 : decode prog_4_method_1_code 5 = .ok (.aload_n 1, 1) := by decide +kernel
theorem dc_p4_m1_6 : decode prog_4_method_1_code 6 = .ok (.putfield 7, 3) := by decide +kernel
theorem dc_p4_m1_9 : decode prog_4_method_1_code 9 = .ok (.aload_n 0, 1) := by decide +kernel
theorem dc_p4_m1_10 : decode prog_4_method_1_code 10 = .ok (.aload_n 2, 1) := by decide +kernel
theorem dc_p4_m1_11 : decode prog_4_method_1_code 11 = .ok (.putfield 13, 3) := by decide +kernel
theorem dc_p4_m1_14 : decode prog_4_method_1_code 14 = .ok (.aload_n 0, 1) := by decide +kernel
theorem dc_p4_m1_15 : decode prog_4_method_1_code 15 = .ok (.aload_n 3, 1) := by decide +kernel
theorem dc_p4_m1_16 : decode prog_4_method_1_code 16 = .ok (.putfield 17, 3) := by decide +kernel
theorem dc_p4_m1_19 : decode prog_4_method_1_code 19 = .ok (.aload_n 0, 1) := by decide +kernel
theorem dc_p4_m1_20 : decode prog_4_method_1_code 20 = .ok (.aload 4, 2) := by decide +kernel
theorem dc_p4_m1_22 : decode prog_4_method_1_code 22 = .ok (.putfield 20, 3) := by decide +kernel
theorem dc_p4_m1_25 : decode prog_4_method_1_code 25 = .ok (.return_, 1) := by decide +kernel
theorem pn_com_example_schedule_to_run_scheduletorun_engine_AttemptResult : plainName "com/example/schedule_to_run/scheduletorun/engine/AttemptResult" = true := by first | (simp [plainName, overriddenIn]; done) | decide +kernel
theorem ef_rmN0 (mm_ : MethodId) (x : Addr) (o : Addr) : entryFrame mm_ #[(.ref x), (.ref o), .null, .null, .null] 5 = (mkF mm_ 0 #[.val (.ref x), .val (.ref o), .val .null, .val .null, .val .null] []) := by first | (simp [entryFrame, mkF, argsToLocals, Value.category]; done) | rfl
def QrmN0 (Z : State) (x : Addr) (o : Addr) (h0 : Heap) (n0 : Nat) (vv_ : Option Value) (hh_ : Heap) (LL_ : List Loc) : Prop := (vv_ = none) ∧ (Fr n0 LL_) ∧ (Keep h0 hh_ [x]) ∧ (Fld Z hh_ x "com/example/schedule_to_run/scheduletorun/engine/AttemptResult" "outcome" "Lcom/example/schedule_to_run/scheduletorun/engine/Outcome;" (.ref o)) ∧ (Fld Z hh_ x "com/example/schedule_to_run/scheduletorun/engine/AttemptResult" "exitStatus" "Ljava/lang/Integer;" .null) ∧ (Fld Z hh_ x "com/example/schedule_to_run/scheduletorun/engine/AttemptResult" "httpStatus" "Ljava/lang/Integer;" .null) ∧ (Fld Z hh_ x "com/example/schedule_to_run/scheduletorun/engine/AttemptResult" "error" "Ljava/lang/String;" .null)
set_option maxRecDepth 65536 in
set_option maxHeartbeats 40000000 in
theorem rmN0 (l : Launch) (Z : State) (a0 : Array Value) (hw : ∀ d ∈ tables_1, d.before a0 Z = true) (ws : List Jvm.Cond) (x : Addr) (o : Addr) (h0 : Heap) (n0 : Nat) (O0 : Old Z n0 h0) (pr0 : Exa Z h0 x "com/example/schedule_to_run/scheduletorun/engine/AttemptResult") (g_x : n0 ≤ x) (pr2 : Fld Z h0 x "com/example/schedule_to_run/scheduletorun/engine/AttemptResult" "outcome" "Lcom/example/schedule_to_run/scheduletorun/engine/Outcome;" .null) (pr3 : Fld Z h0 x "com/example/schedule_to_run/scheduletorun/engine/AttemptResult" "exitStatus" "Ljava/lang/Integer;" .null) (pr4 : Fld Z h0 x "com/example/schedule_to_run/scheduletorun/engine/AttemptResult" "httpStatus" "Ljava/lang/Integer;" .null) (pr5 : Fld Z h0 x "com/example/schedule_to_run/scheduletorun/engine/AttemptResult" "error" "Ljava/lang/String;" .null) :
    MetFree l (⟨"com/example/schedule_to_run/scheduletorun/engine/AttemptResult", "<init>", "(Lcom/example/schedule_to_run/scheduletorun/engine/Outcome;Ljava/lang/Integer;Ljava/lang/Integer;Ljava/lang/String;)V"⟩ : MethodName) (head1 (Jvm.Cond.code (⟨"com/example/schedule_to_run/scheduletorun/engine/AttemptResult", "<init>", "(Lcom/example/schedule_to_run/scheduletorun/engine/Outcome;Ljava/lang/Integer;Ljava/lang/Integer;Ljava/lang/String;)V"⟩ : MethodName) prog_4_method_1_code 5 none :: ws) ({ frames := 1, cells := 0, slots := 0, locals := 12 } : Room)) (fun aa_ UU_ => aa_ = #[(.ref x), (.ref o), .null, .null, .null] ∧ Z.Warmed39 UU_.vm ∧ UU_.heap = h0) (fun _ _ _ _ _ => True) (fun _ UU_ oo_ UV_ => ∃ vv_ LL_, oo_ = .returned vv_ ∧ QrmN0 Z x o h0 n0 vv_ UV_.heap LL_ ∧ FrameEnd UU_ oo_ UV_ LL_ ({ frames := 1, cells := 0, slots := 0, locals := 12 } : Room).cells ({ frames := 1, cells := 0, slots := 0, locals := 12 } : Room).slots) := by
  refine MetFree.of_bodySF (plainFor_of_name pn_com_example_schedule_to_run_scheduletorun_engine_AttemptResult) hisR ?_
  intro pp_ ee_ ss_ mm_ args_ bb_ me_ cc_ s₁ Bd hml0 hP hK
  obtain ⟨rfl, hZ, hh⟩ := hP
  have hx := Bd.exec
  have hby := Bd.bytes
  have hml : cc_.maxLocals = 5 := hml0
  have hown : ss_.vm.findClass "com/example/schedule_to_run/scheduletorun/engine/AttemptResult" = some mm_.cls := findClass_of_methodNamed Bd.named
  have hnm := (name_of_methodNamed Bd.named Bd.method).1
  have X0 : Stand pp_ l ee_ ({ frames := 1, cells := 0, slots := 0, locals := 12 } : Room) ss_ mm_ #[(.ref x), (.ref o), .null, .null, .null] bb_ me_ cc_ s₁ [] 0 0 := Stand.of_body Bd
  have e0 : s₁.heap = h0 := by rw [← hh, Bd.state]; rfl
  have N0 := Fr.nil n0
  show own_Go pp_ ee_ bb_ (fun s₂ oo_ => s₂.status = .running ∧ Ended s₂ bb_ oo_ ∧ (∃ vv_ LL_, oo_ = .returned vv_ ∧ QrmN0 Z x o h0 n0 vv_ s₂.heap LL_ ∧ FrameEnd ss_ oo_ s₂ LL_ ({ frames := 1, cells := 0, slots := 0, locals := 12 } : Room).cells ({ frames := 1, cells := 0, slots := 0, locals := 12 } : Room).slots)) s₁ (entryFrame mm_ #[(.ref x), (.ref o), .null, .null, .null] 5)
  refine own_cast (ef_rmN0 mm_ x o) ?_
  have Z0 : n0 ≤ h0.size := by have q := O0.2.1; rw [O0.1] at q; exact q
  have K0 : Keep h0 h0 [x] := Keep.refl _ _
  show own_Go _ _ _ _ s₁ (mkF mm_ 0 #[.val (.ref x), .val (.ref o), .val .null, .val .null, .val .null] [])
  refine own_step (fun t_ k_ => XS.aloadN X0.here hx rfl (hb hby dc_p4_m1_0) rfl rfl k_) ?_
  show own_Go _ _ _ _ s₁ (mkF mm_ 1 #[.val (.ref x), .val (.ref o), .val .null, .val .null, .val .null] [(.ref x)])
  obtain ⟨T1, X1, e1, st1⟩ := initO X0 hx hZ hown (own_w hw 38 rfl) (own_w hw 16 rfl) (own_w hw 17 rfl) e0 (g := (mkF mm_ 1 #[.val (.ref x), .val (.ref o), .val .null, .val .null, .val .null] [(.ref x)])) rfl (by rw [hml]; rfl) rfl (hb hby dc_p4_m1_1) (by decide) (W := 0) (by show 2 * 0 + _ ≤ _; exact Nat.le_of_eq rfl) (by decide)
  refine own_step st1 ?_
  show own_Go _ _ _ _ T1 (mkF mm_ 4 #[.val (.ref x), .val (.ref o), .val .null, .val .null, .val .null] [])
  refine own_step (fun t_ k_ => XS.aloadN X1.here hx rfl (hb hby dc_p4_m1_4) rfl rfl (XS.aloadN X1.here hx rfl (hb hby dc_p4_m1_5) rfl rfl k_)) ?_
  show own_Go _ _ _ _ T1 (mkF mm_ 6 #[.val (.ref x), .val (.ref o), .val .null, .val .null, .val .null] [(.ref o), (.ref x)])
  obtain ⟨T2, h2, X2, e2, W2, st2⟩ := putF X1 hx hZ hown (host := "") (Or.inl (own_w hw 39 rfl)) Via.refl e1 pr2 pr0 (Or.inr ⟨(own_w hw 40 rfl), rfl, hnm⟩) (own_w hw 31 rfl) (ty := (.object "com/example/schedule_to_run/scheduletorun/engine/Outcome")) (by decide) rfl rfl (g := (mkF mm_ 6 #[.val (.ref x), .val (.ref o), .val .null, .val .null, .val .null] [(.ref o), (.ref x)])) rfl rfl (hb hby dc_p4_m1_6)
  have F2 := pr2.same W2
  have N2 := Fr.snoc X2 N0 g_x
  refine own_step st2 ?_
  show own_Go _ _ _ _ T2 (mkF mm_ 9 #[.val (.ref x), .val (.ref o), .val .null, .val .null, .val .null] [])
  refine own_step (fun t_ k_ => XS.aloadN X2.here hx rfl (hb hby dc_p4_m1_9) rfl rfl (XS.aloadN X2.here hx rfl (hb hby dc_p4_m1_10) rfl rfl k_)) ?_
  show own_Go _ _ _ _ T2 (mkF mm_ 11 #[.val (.ref x), .val (.ref o), .val .null, .val .null, .val .null] [.null, (.ref x)])
  have f3 : Fld Z h2 x "com/example/schedule_to_run/scheduletorun/engine/AttemptResult" "exitStatus" "Ljava/lang/Integer;" .null := (pr3.other W2 (Or.inr (slot_ne (Or.inr (own_w hw 42 rfl)) (Or.inr (own_w hw 40 rfl)) (by decide) (t := (.object "java/lang/Integer")) (t' := (.object "com/example/schedule_to_run/scheduletorun/engine/Outcome")) (by decide) (by decide))))
  have f4 : Exa Z h2 x "com/example/schedule_to_run/scheduletorun/engine/AttemptResult" := (pr0.wr W2)
  obtain ⟨T5, h5, X5, e5, W5, st5⟩ := putF X2 hx hZ hown (host := "") (Or.inl (own_w hw 41 rfl)) Via.refl e2 f3 f4 (Or.inr ⟨(own_w hw 42 rfl), rfl, hnm⟩) (own_w hw 31 rfl) (ty := (.object "java/lang/Integer")) (by decide) rfl rfl (g := (mkF mm_ 11 #[.val (.ref x), .val (.ref o), .val .null, .val .null, .val .null] [.null, (.ref x)])) rfl rfl (hb hby dc_p4_m1_11)
  have F5 := f3.same W5
  have N5 := Fr.snoc X5 N2 g_x
  refine own_step st5 ?_
  show own_Go _ _ _ _ T5 (mkF mm_ 14 #[.val (.ref x), .val (.ref o), .val .null, .val .null, .val .null] [])
  refine own_step (fun t_ k_ => XS.aloadN X5.here hx rfl (hb hby dc_p4_m1_14) rfl rfl (XS.aloadN X5.here hx rfl (hb hby dc_p4_m1_15) rfl rfl k_)) ?_
  show own_Go _ _ _ _ T5 (mkF mm_ 16 #[.val (.ref x), .val (.ref o), .val .null, .val .null, .val .null] [.null, (.ref x)])
  have f6 : Fld Z h5 x "com/example/schedule_to_run/scheduletorun/engine/AttemptResult" "httpStatus" "Ljava/lang/Integer;" .null := ((pr4.other W2 (Or.inr (slot_ne (Or.inr (own_w hw 44 rfl)) (Or.inr (own_w hw 40 rfl)) (by decide) (t := (.object "java/lang/Integer")) (t' := (.object "com/example/schedule_to_run/scheduletorun/engine/Outcome")) (by decide) (by decide)))).other W5 (Or.inr (slot_ne (Or.inr (own_w hw 44 rfl)) (Or.inr (own_w hw 42 rfl)) (by decide) (t := (.object "java/lang/Integer")) (t' := (.object "java/lang/Integer")) (by decide) (by decide))))
  have f7 : Exa Z h5 x "com/example/schedule_to_run/scheduletorun/engine/AttemptResult" := (f4.wr W5)
  obtain ⟨T8, h8, X8, e8, W8, st8⟩ := putF X5 hx hZ hown (host := "") (Or.inl (own_w hw 43 rfl)) Via.refl e5 f6 f7 (Or.inr ⟨(own_w hw 44 rfl), rfl, hnm⟩) (own_w hw 31 rfl) (ty := (.object "java/lang/Integer")) (by decide) rfl rfl (g := (mkF mm_ 16 #[.val (.ref x), .val (.ref o), .val .null, .val .null, .val .null] [.null, (.ref x)])) rfl rfl (hb hby dc_p4_m1_16)
  have F8 := f6.same W8
  have N8 := Fr.snoc X8 N5 g_x
  refine own_step st8 ?_
  show own_Go _ _ _ _ T8 (mkF mm_ 19 #[.val (.ref x), .val (.ref o), .val .null, .val .null, .val .null] [])
  refine own_step (fun t_ k_ => XS.aloadN X8.here hx rfl (hb hby dc_p4_m1_19) rfl rfl (XS.aload X8.here hx rfl (hb hby dc_p4_m1_20) rfl rfl k_)) ?_
  show own_Go _ _ _ _ T8 (mkF mm_ 22 #[.val (.ref x), .val (.ref o), .val .null, .val .null, .val .null] [.null, (.ref x)])
  have f9 : Fld Z h8 x "com/example/schedule_to_run/scheduletorun/engine/AttemptResult" "error" "Ljava/lang/String;" .null := (((pr5.other W2 (Or.inr (slot_ne (Or.inr (own_w hw 46 rfl)) (Or.inr (own_w hw 40 rfl)) (by decide) (t := (.object "java/lang/String")) (t' := (.object "com/example/schedule_to_run/scheduletorun/engine/Outcome")) (by decide) (by decide)))).other W5 (Or.inr (slot_ne (Or.inr (own_w hw 46 rfl)) (Or.inr (own_w hw 42 rfl)) (by decide) (t := (.object "java/lang/String")) (t' := (.object "java/lang/Integer")) (by decide) (by decide)))).other W8 (Or.inr (slot_ne (Or.inr (own_w hw 46 rfl)) (Or.inr (own_w hw 44 rfl)) (by decide) (t := (.object "java/lang/String")) (t' := (.object "java/lang/Integer")) (by decide) (by decide))))
  have f10 : Exa Z h8 x "com/example/schedule_to_run/scheduletorun/engine/AttemptResult" := (f7.wr W8)
  obtain ⟨T11, h11, X11, e11, W11, st11⟩ := putF X8 hx hZ hown (host := "") (Or.inl (own_w hw 45 rfl)) Via.refl e8 f9 f10 (Or.inr ⟨(own_w hw 46 rfl), rfl, hnm⟩) (own_w hw 31 rfl) (ty := (.object "java/lang/String")) (by decide) rfl rfl (g := (mkF mm_ 22 #[.val (.ref x), .val (.ref o), .val .null, .val .null, .val .null] [.null, (.ref x)])) rfl rfl (hb hby dc_p4_m1_22)
  have F11 := f9.same W11
  have N11 := Fr.snoc X11 N8 g_x
  refine own_step st11 ?_
  show own_Go _ _ _ _ T11 (mkF mm_ 25 #[.val (.ref x), .val (.ref o), .val .null, .val .null, .val .null] [])
  have K12 : Keep h0 h11 [x] := ((((K0.wr W2 (Or.inl (List.mem_of_getElem? (i := 0) rfl))).wr W5 (Or.inl (List.mem_of_getElem? (i := 0) rfl))).wr W8 (Or.inl (List.mem_of_getElem? (i := 0) rfl))).wr W11 (Or.inl (List.mem_of_getElem? (i := 0) rfl)))
  have f13 : Fld Z h11 x "com/example/schedule_to_run/scheduletorun/engine/AttemptResult" "outcome" "Lcom/example/schedule_to_run/scheduletorun/engine/Outcome;" (.ref o) := (((F2.other W5 (Or.inr (slot_ne (Or.inr (own_w hw 40 rfl)) (Or.inr (own_w hw 42 rfl)) (by decide) (t := (.object "com/example/schedule_to_run/scheduletorun/engine/Outcome")) (t' := (.object "java/lang/Integer")) (by decide) (by decide)))).other W8 (Or.inr (slot_ne (Or.inr (own_w hw 40 rfl)) (Or.inr (own_w hw 44 rfl)) (by decide) (t := (.object "com/example/schedule_to_run/scheduletorun/engine/Outcome")) (t' := (.object "java/lang/Integer")) (by decide) (by decide)))).other W11 (Or.inr (slot_ne (Or.inr (own_w hw 40 rfl)) (Or.inr (own_w hw 46 rfl)) (by decide) (t := (.object "com/example/schedule_to_run/scheduletorun/engine/Outcome")) (t' := (.object "java/lang/String")) (by decide) (by decide))))
  have f14 : Fld Z h11 x "com/example/schedule_to_run/scheduletorun/engine/AttemptResult" "exitStatus" "Ljava/lang/Integer;" .null := ((F5.other W8 (Or.inr (slot_ne (Or.inr (own_w hw 42 rfl)) (Or.inr (own_w hw 44 rfl)) (by decide) (t := (.object "java/lang/Integer")) (t' := (.object "java/lang/Integer")) (by decide) (by decide)))).other W11 (Or.inr (slot_ne (Or.inr (own_w hw 42 rfl)) (Or.inr (own_w hw 46 rfl)) (by decide) (t := (.object "java/lang/Integer")) (t' := (.object "java/lang/String")) (by decide) (by decide))))
  have f15 : Fld Z h11 x "com/example/schedule_to_run/scheduletorun/engine/AttemptResult" "httpStatus" "Ljava/lang/Integer;" .null := (F8.other W11 (Or.inr (slot_ne (Or.inr (own_w hw 44 rfl)) (Or.inr (own_w hw 46 rfl)) (by decide) (t := (.object "java/lang/Integer")) (t' := (.object "java/lang/String")) (by decide) (by decide))))
  obtain ⟨fs, hr, hrun, hended, hW, hsame⟩ := X11.leave (v := none) (fun _ => rfl)
  refine ⟨_, _, ?_, hrun, hended, _, _, rfl, ?_, ⟨_, rfl⟩, hW, hsame.mono (by decide) (by decide)⟩
  · exact X11.returnOut hx Bd.returns (hb hby dc_p4_m1_25) hr
  · show QrmN0 Z x o h0 n0 none T11.heap _
    rw [e11]
    exact ⟨rfl, N11, K12, f13, f14, f15, F11⟩
theorem ef_rmN1 (mm_ : MethodId) (x : Addr) (o : Addr) (s : Addr) : entryFrame mm_ #[(.ref x), (.ref o), .null, .null, (.ref s)] 5 = (mkF mm_ 0 #[.val (.ref x), .val (.ref o), .val .null, .val .null, .val (.ref s)] []) := by first | (simp [entryFrame, mkF, argsToLocals, Value.category]; done) | rfl
def QrmN1 (Z : State) (x : Addr) (o : Addr) (s : Addr) (h0 : Heap) (n0 : Nat) (vv_ : Option Value) (hh_ : Heap) (LL_ : List Loc) : Prop := (vv_ = none) ∧ (Fr n0 LL_) ∧ (Keep h0 hh_ [x]) ∧ (Fld Z hh_ x "com/example/schedule_to_run/scheduletorun/engine/AttemptResult" "outcome" "Lcom/example/schedule_to_run/scheduletorun/engine/Outcome;" (.ref o)) ∧ (Fld Z hh_ x "com/example/schedule_to_run/scheduletorun/engine/AttemptResult" "exitStatus" "Ljava/lang/Integer;" .null) ∧ (Fld Z hh_ x "com/example/schedule_to_run/scheduletorun/engine/AttemptResult" "httpStatus" "Ljava/lang/Integer;" .null) ∧ (Fld Z hh_ x "com/example/schedule_to_run/scheduletorun/engine/AttemptResult" "error" "Ljava/lang/String;" (.ref s))
set_option maxRecDepth 65536 in
set_option maxHeartbeats 40000000 in
theorem rmN1 (l : Launch) (Z : State) (a0 : Array Value) (hw : ∀ d ∈ tables_1, d.before a0 Z = true) (ws : List Jvm.Cond) (x : Addr) (o : Addr) (s : Addr) (h0 : Heap) (n0 : Nat) (O0 : Old Z n0 h0) (pr0 : Exa Z h0 x "com/example/schedule_to_run/scheduletorun/engine/AttemptResult") (g_x : n0 ≤ x) (pr2 : Fld Z h0 x "com/example/schedule_to_run/scheduletorun/engine/AttemptResult" "outcome" "Lcom/example/schedule_to_run/scheduletorun/engine/Outcome;" .null) (pr3 : Fld Z h0 x "com/example/schedule_to_run/scheduletorun/engine/AttemptResult" "exitStatus" "Ljava/lang/Integer;" .null) (pr4 : Fld Z h0 x "com/example/schedule_to_run/scheduletorun/engine/AttemptResult" "httpStatus" "Ljava/lang/Integer;" .null) (pr5 : Fld Z h0 x "com/example/schedule_to_run/scheduletorun/engine/AttemptResult" "error" "Ljava/lang/String;" .null) :
    MetFree l (⟨"com/example/schedule_to_run/scheduletorun/engine/AttemptResult", "<init>", "(Lcom/example/schedule_to_run/scheduletorun/engine/Outcome;Ljava/lang/Integer;Ljava/lang/Integer;Ljava/lang/String;)V"⟩ : MethodName) (head1 (Jvm.Cond.code (⟨"com/example/schedule_to_run/scheduletorun/engine/AttemptResult", "<init>", "(Lcom/example/schedule_to_run/scheduletorun/engine/Outcome;Ljava/lang/Integer;Ljava/lang/Integer;Ljava/lang/String;)V"⟩ : MethodName) prog_4_method_1_code 5 none :: ws) ({ frames := 1, cells := 0, slots := 0, locals := 12 } : Room)) (fun aa_ UU_ => aa_ = #[(.ref x), (.ref o), .null, .null, (.ref s)] ∧ Z.Warmed39 UU_.vm ∧ UU_.heap = h0) (fun _ _ _ _ _ => True) (fun _ UU_ oo_ UV_ => ∃ vv_ LL_, oo_ = .returned vv_ ∧ QrmN1 Z x o s h0 n0 vv_ UV_.heap LL_ ∧ FrameEnd UU_ oo_ UV_ LL_ ({ frames := 1, cells := 0, slots := 0, locals := 12 } : Room).cells ({ frames := 1, cells := 0, slots := 0, locals := 12 } : Room).slots) := by
  refine MetFree.of_bodySF (plainFor_of_name pn_com_example_schedule_to_run_scheduletorun_engine_AttemptResult) hisR ?_
  intro pp_ ee_ ss_ mm_ args_ bb_ me_ cc_ s₁ Bd hml0 hP hK
  obtain ⟨rfl, hZ, hh⟩ := hP
  have hx := Bd.exec
  have hby := Bd.bytes
  have hml : cc_.maxLocals = 5 := hml0
  have hown : ss_.vm.findClass "com/example/schedule_to_run/scheduletorun/engine/AttemptResult" = some mm_.cls := findClass_of_methodNamed Bd.named
  have hnm := (name_of_methodNamed Bd.named Bd.method).1
  have X0 : Stand pp_ l ee_ ({ frames := 1, cells := 0, slots := 0, locals := 12 } : Room) ss_ mm_ #[(.ref x), (.ref o), .null, .null, (.ref s)] bb_ me_ cc_ s₁ [] 0 0 := Stand.of_body Bd
  have e0 : s₁.heap = h0 := by rw [← hh, Bd.state]; rfl
  have N0 := Fr.nil n0
  show own_Go pp_ ee_ bb_ (fun s₂ oo_ => s₂.status = .running ∧ Ended s₂ bb_ oo_ ∧ (∃ vv_ LL_, oo_ = .returned vv_ ∧ QrmN1 Z x o s h0 n0 vv_ s₂.heap LL_ ∧ FrameEnd ss_ oo_ s₂ LL_ ({ frames := 1, cells := 0, slots := 0, locals := 12 } : Room).cells ({ frames := 1, cells := 0, slots := 0, locals := 12 } : Room).slots)) s₁ (entryFrame mm_ #[(.ref x), (.ref o), .null, .null, (.ref s)] 5)
  refine own_cast (ef_rmN1 mm_ x o s) ?_
  have Z0 : n0 ≤ h0.size := by have q := O0.2.1; rw [O0.1] at q; exact q
  have K0 : Keep h0 h0 [x] := Keep.refl _ _
  show own_Go _ _ _ _ s₁ (mkF mm_ 0 #[.val (.ref x), .val (.ref o), .val .null, .val .null, .val (.ref s)] [])
  refine own_step (fun t_ k_ => XS.aloadN X0.here hx rfl (hb hby dc_p4_m1_0) rfl rfl k_) ?_
  show own_Go _ _ _ _ s₁ (mkF mm_ 1 #[.val (.ref x), .val (.ref o), .val .null, .val .null, .val (.ref s)] [(.ref x)])
  obtain ⟨T1, X1, e1, st1⟩ := initO X0 hx hZ hown (own_w hw 38 rfl) (own_w hw 16 rfl) (own_w hw 17 rfl) e0 (g := (mkF mm_ 1 #[.val (.ref x), .val (.ref o), .val .null, .val .null, .val (.ref s)] [(.ref x)])) rfl (by rw [hml]; rfl) rfl (hb hby dc_p4_m1_1) (by decide) (W := 0) (by show 2 * 0 + _ ≤ _; exact Nat.le_of_eq rfl) (by decide)
  refine own_step st1 ?_
  show own_Go _ _ _ _ T1 (mkF mm_ 4 #[.val (.ref x), .val (.ref o), .val .null, .val .null, .val (.ref s)] [])
  refine own_step (fun t_ k_ => XS.aloadN X1.here hx rfl (hb hby dc_p4_m1_4) rfl rfl (XS.aloadN X1.here hx rfl (hb hby dc_p4_m1_5) rfl rfl k_)) ?_
  show own_Go _ _ _ _ T1 (mkF mm_ 6 #[.val (.ref x), .val (.ref o), .val .null, .val .null, .val (.ref s)] [(.ref o), (.ref x)])
  obtain ⟨T2, h2, X2, e2, W2, st2⟩ := putF X1 hx hZ hown (host := "") (Or.inl (own_w hw 39 rfl)) Via.refl e1 pr2 pr0 (Or.inr ⟨(own_w hw 40 rfl), rfl, hnm⟩) (own_w hw 31 rfl) (ty := (.object "com/example/schedule_to_run/scheduletorun/engine/Outcome")) (by decide) rfl rfl (g := (mkF mm_ 6 #[.val (.ref x), .val (.ref o), .val .null, .val .null, .val (.ref s)] [(.ref o), (.ref x)])) rfl rfl (hb hby dc_p4_m1_6)
  have F2 := pr2.same W2
  have N2 := Fr.snoc X2 N0 g_x
  refine own_step st2 ?_
  show own_Go _ _ _ _ T2 (mkF mm_ 9 #[.val (.ref x), .val (.ref o), .val .null, .val .null, .val (.ref s)] [])
  refine own_step (fun t_ k_ => XS.aloadN X2.here hx rfl (hb hby dc_p4_m1_9) rfl rfl (XS.aloadN X2.here hx rfl (hb hby dc_p4_m1_10) rfl rfl k_)) ?_
  show own_Go _ _ _ _ T2 (mkF mm_ 11 #[.val (.ref x), .val (.ref o), .val .null, .val .null, .val (.ref s)] [.null, (.ref x)])
  have f3 : Fld Z h2 x "com/example/schedule_to_run/scheduletorun/engine/AttemptResult" "exitStatus" "Ljava/lang/Integer;" .null := (pr3.other W2 (Or.inr (slot_ne (Or.inr (own_w hw 42 rfl)) (Or.inr (own_w hw 40 rfl)) (by decide) (t := (.object "java/lang/Integer")) (t' := (.object "com/example/schedule_to_run/scheduletorun/engine/Outcome")) (by decide) (by decide))))
  have f4 : Exa Z h2 x "com/example/schedule_to_run/scheduletorun/engine/AttemptResult" := (pr0.wr W2)
  obtain ⟨T5, h5, X5, e5, W5, st5⟩ := putF X2 hx hZ hown (host := "") (Or.inl (own_w hw 41 rfl)) Via.refl e2 f3 f4 (Or.inr ⟨(own_w hw 42 rfl), rfl, hnm⟩) (own_w hw 31 rfl) (ty := (.object "java/lang/Integer")) (by decide) rfl rfl (g := (mkF mm_ 11 #[.val (.ref x), .val (.ref o), .val .null, .val .null, .val (.ref s)] [.null, (.ref x)])) rfl rfl (hb hby dc_p4_m1_11)
  have F5 := f3.same W5
  have N5 := Fr.snoc X5 N2 g_x
  refine own_step st5 ?_
  show own_Go _ _ _ _ T5 (mkF mm_ 14 #[.val (.ref x), .val (.ref o), .val .null, .val .null, .val (.ref s)] [])
  refine own_step (fun t_ k_ => XS.aloadN X5.here hx rfl (hb hby dc_p4_m1_14) rfl rfl (XS.aloadN X5.here hx rfl (hb hby dc_p4_m1_15) rfl rfl k_)) ?_
  show own_Go _ _ _ _ T5 (mkF mm_ 16 #[.val (.ref x), .val (.ref o), .val .null, .val .null, .val (.ref s)] [.null, (.ref x)])
  have f6 : Fld Z h5 x "com/example/schedule_to_run/scheduletorun/engine/AttemptResult" "httpStatus" "Ljava/lang/Integer;" .null := ((pr4.other W2 (Or.inr (slot_ne (Or.inr (own_w hw 44 rfl)) (Or.inr (own_w hw 40 rfl)) (by decide) (t := (.object "java/lang/Integer")) (t' := (.object "com/example/schedule_to_run/scheduletorun/engine/Outcome")) (by decide) (by decide)))).other W5 (Or.inr (slot_ne (Or.inr (own_w hw 44 rfl)) (Or.inr (own_w hw 42 rfl)) (by decide) (t := (.object "java/lang/Integer")) (t' := (.object "java/lang/Integer")) (by decide) (by decide))))
  have f7 : Exa Z h5 x "com/example/schedule_to_run/scheduletorun/engine/AttemptResult" := (f4.wr W5)
  obtain ⟨T8, h8, X8, e8, W8, st8⟩ := putF X5 hx hZ hown (host := "") (Or.inl (own_w hw 43 rfl)) Via.refl e5 f6 f7 (Or.inr ⟨(own_w hw 44 rfl), rfl, hnm⟩) (own_w hw 31 rfl) (ty := (.object "java/lang/Integer")) (by decide) rfl rfl (g := (mkF mm_ 16 #[.val (.ref x), .val (.ref o), .val .null, .val .null, .val (.ref s)] [.null, (.ref x)])) rfl rfl (hb hby dc_p4_m1_16)
  have F8 := f6.same W8
  have N8 := Fr.snoc X8 N5 g_x
  refine own_step st8 ?_
  show own_Go _ _ _ _ T8 (mkF mm_ 19 #[.val (.ref x), .val (.ref o), .val .null, .val .null, .val (.ref s)] [])
  refine own_step (fun t_ k_ => XS.aloadN X8.here hx rfl (hb hby dc_p4_m1_19) rfl rfl (XS.aload X8.here hx rfl (hb hby dc_p4_m1_20) rfl rfl k_)) ?_
  show own_Go _ _ _ _ T8 (mkF mm_ 22 #[.val (.ref x), .val (.ref o), .val .null, .val .null, .val (.ref s)] [(.ref s), (.ref x)])
  have f9 : Fld Z h8 x "com/example/schedule_to_run/scheduletorun/engine/AttemptResult" "error" "Ljava/lang/String;" .null := (((pr5.other W2 (Or.inr (slot_ne (Or.inr (own_w hw 46 rfl)) (Or.inr (own_w hw 40 rfl)) (by decide) (t := (.object "java/lang/String")) (t' := (.object "com/example/schedule_to_run/scheduletorun/engine/Outcome")) (by decide) (by decide)))).other W5 (Or.inr (slot_ne (Or.inr (own_w hw 46 rfl)) (Or.inr (own_w hw 42 rfl)) (by decide) (t := (.object "java/lang/String")) (t' := (.object "java/lang/Integer")) (by decide) (by decide)))).other W8 (Or.inr (slot_ne (Or.inr (own_w hw 46 rfl)) (Or.inr (own_w hw 44 rfl)) (by decide) (t := (.object "java/lang/String")) (t' := (.object "java/lang/Integer")) (by decide) (by decide))))
  have f10 : Exa Z h8 x "com/example/schedule_to_run/scheduletorun/engine/AttemptResult" := (f7.wr W8)
  obtain ⟨T11, h11, X11, e11, W11, st11⟩ := putF X8 hx hZ hown (host := "") (Or.inl (own_w hw 45 rfl)) Via.refl e8 f9 f10 (Or.inr ⟨(own_w hw 46 rfl), rfl, hnm⟩) (own_w hw 31 rfl) (ty := (.object "java/lang/String")) (by decide) rfl rfl (g := (mkF mm_ 22 #[.val (.ref x), .val (.ref o), .val .null, .val .null, .val (.ref s)] [(.ref s), (.ref x)])) rfl rfl (hb hby dc_p4_m1_22)
  have F11 := f9.same W11
  have N11 := Fr.snoc X11 N8 g_x
  refine own_step st11 ?_
  show own_Go _ _ _ _ T11 (mkF mm_ 25 #[.val (.ref x), .val (.ref o), .val .null, .val .null, .val (.ref s)] [])
  have K12 : Keep h0 h11 [x] := ((((K0.wr W2 (Or.inl (List.mem_of_getElem? (i := 0) rfl))).wr W5 (Or.inl (List.mem_of_getElem? (i := 0) rfl))).wr W8 (Or.inl (List.mem_of_getElem? (i := 0) rfl))).wr W11 (Or.inl (List.mem_of_getElem? (i := 0) rfl)))
  have f13 : Fld Z h11 x "com/example/schedule_to_run/scheduletorun/engine/AttemptResult" "outcome" "Lcom/example/schedule_to_run/scheduletorun/engine/Outcome;" (.ref o) := (((F2.other W5 (Or.inr (slot_ne (Or.inr (own_w hw 40 rfl)) (Or.inr (own_w hw 42 rfl)) (by decide) (t := (.object "com/example/schedule_to_run/scheduletorun/engine/Outcome")) (t' := (.object "java/lang/Integer")) (by decide) (by decide)))).other W8 (Or.inr (slot_ne (Or.inr (own_w hw 40 rfl)) (Or.inr (own_w hw 44 rfl)) (by decide) (t := (.object "com/example/schedule_to_run/scheduletorun/engine/Outcome")) (t' := (.object "java/lang/Integer")) (by decide) (by decide)))).other W11 (Or.inr (slot_ne (Or.inr (own_w hw 40 rfl)) (Or.inr (own_w hw 46 rfl)) (by decide) (t := (.object "com/example/schedule_to_run/scheduletorun/engine/Outcome")) (t' := (.object "java/lang/String")) (by decide) (by decide))))
  have f14 : Fld Z h11 x "com/example/schedule_to_run/scheduletorun/engine/AttemptResult" "exitStatus" "Ljava/lang/Integer;" .null := ((F5.other W8 (Or.inr (slot_ne (Or.inr (own_w hw 42 rfl)) (Or.inr (own_w hw 44 rfl)) (by decide) (t := (.object "java/lang/Integer")) (t' := (.object "java/lang/Integer")) (by decide) (by decide)))).other W11 (Or.inr (slot_ne (Or.inr (own_w hw 42 rfl)) (Or.inr (own_w hw 46 rfl)) (by decide) (t := (.object "java/lang/Integer")) (t' := (.object "java/lang/String")) (by decide) (by decide))))
  have f15 : Fld Z h11 x "com/example/schedule_to_run/scheduletorun/engine/AttemptResult" "httpStatus" "Ljava/lang/Integer;" .null := (F8.other W11 (Or.inr (slot_ne (Or.inr (own_w hw 44 rfl)) (Or.inr (own_w hw 46 rfl)) (by decide) (t := (.object "java/lang/Integer")) (t' := (.object "java/lang/String")) (by decide) (by decide))))
  obtain ⟨fs, hr, hrun, hended, hW, hsame⟩ := X11.leave (v := none) (fun _ => rfl)
  refine ⟨_, _, ?_, hrun, hended, _, _, rfl, ?_, ⟨_, rfl⟩, hW, hsame.mono (by decide) (by decide)⟩
  · exact X11.returnOut hx Bd.returns (hb hby dc_p4_m1_25) hr
  · show QrmN1 Z x o s h0 n0 none T11.heap _
    rw [e11]
    exact ⟨rfl, N11, K12, f13, f14, f15, F11⟩
theorem dc_p4_m7_0 : decode prog_4_method_7_code 0 = .ok (.new 8, 3) := by decide +kernel
theorem dc_p4_m7_3 : decode prog_4_method_7_code 3 = .ok (.dup, 1) := by decide +kernel
theorem dc_p4_m7_4 : decode prog_4_method_7_code 4 = .ok (.getstatic 44, 3) := by decide +kernel
theorem dc_p4_m7_7 : decode prog_4_method_7_code 7 = .ok (.aconst_null, 1) := by decide +kernel
theorem dc_p4_m7_8 : decode prog_4_method_7_code 8 = .ok (.aconst_null, 1) := by decide +kernel
theorem dc_p4_m7_9 : decode prog_4_method_7_code 9 = .ok (.aload_n 0, 1) := by decide +kernel
theorem dc_p4_m7_10 : decode prog_4_method_7_code 10 = .ok (.invokespecial 29, 3) := by decide +kernel
theorem pd_6 : parseMethodDescriptor "(Lcom/example/schedule_to_run/scheduletorun/engine/Outcome;Ljava/lang/Integer;Ljava/lang/Integer;Ljava/lang/String;)V" = some ⟨[(.object "com/example/schedule_to_run/scheduletorun/engine/Outcome"), (.object "java/lang/Integer"), (.object "java/lang/Integer"), (.object "java/lang/String")], none⟩ := by decide +kernel
theorem dc_p4_m7_13 : decode prog_4_method_7_code 13 = .ok (.areturn, 1) := by decide +kernel
theorem ef_rmF0 (mm_ : MethodId)  : entryFrame mm_ #[.null] 1 = (mkF mm_ 0 #[.val .null] []) := by first | (simp [entryFrame, mkF, argsToLocals, Value.category]; done) | rfl
def QrmF0 (Z : State) (wO : Addr) (h0 : Heap) (n0 : Nat) (vv_ : Option Value) (hh_ : Heap) (LL_ : List Loc) : Prop := ∃ (r : Addr), (vv_ = some (.ref r)) ∧ (Fr n0 LL_) ∧ (Keep h0 hh_ []) ∧ (h0.size ≤ r) ∧ (Exa Z hh_ r "com/example/schedule_to_run/scheduletorun/engine/AttemptResult") ∧ (Fld Z hh_ r "com/example/schedule_to_run/scheduletorun/engine/AttemptResult" "outcome" "Lcom/example/schedule_to_run/scheduletorun/engine/Outcome;" (.ref wO)) ∧ (Fld Z hh_ r "com/example/schedule_to_run/scheduletorun/engine/AttemptResult" "exitStatus" "Ljava/lang/Integer;" .null) ∧ (Fld Z hh_ r "com/example/schedule_to_run/scheduletorun/engine/AttemptResult" "httpStatus" "Ljava/lang/Integer;" .null) ∧ (Fld Z hh_ r "com/example/schedule_to_run/scheduletorun/engine/AttemptResult" "error" "Ljava/lang/String;" .null)
set_option maxRecDepth 65536 in
set_option maxHeartbeats 40000000 in
theorem rmF0 (l : Launch) (Z : State) (a0 : Array Value) (hw : ∀ d ∈ tables_1, d.before a0 Z = true) (ws : List Jvm.Cond) {zc : Int32} {wO : Addr} (h0 : Heap) (n0 : Nat) (O0 : Old Z n0 h0) (G_ : own_St Z zc wO) :
    MetFree l (⟨"com/example/schedule_to_run/scheduletorun/engine/AttemptResult", "cancelled", "(Ljava/lang/String;)Lcom/example/schedule_to_run/scheduletorun/engine/AttemptResult;"⟩ : MethodName) (head1 (Jvm.Cond.code (⟨"com/example/schedule_to_run/scheduletorun/engine/AttemptResult", "cancelled", "(Ljava/lang/String;)Lcom/example/schedule_to_run/scheduletorun/engine/AttemptResult;"⟩ : MethodName) prog_4_method_7_code 1 (some (.object "com/example/schedule_to_run/scheduletorun/engine/AttemptResult")) :: ws) ({ frames := 2, cells := 1, slots := 4, locals := 29 } : Room)) (fun aa_ UU_ => aa_ = #[.null] ∧ Z.Warmed39 UU_.vm ∧ UU_.heap = h0) (fun _ _ _ _ _ => True) (fun _ UU_ oo_ UV_ => ∃ vv_ LL_, oo_ = .returned vv_ ∧ QrmF0 Z wO h0 n0 vv_ UV_.heap LL_ ∧ FrameEnd UU_ oo_ UV_ LL_ ({ frames := 2, cells := 1, slots := 4, locals := 29 } : Room).cells ({ frames := 2, cells := 1, slots := 4, locals := 29 } : Room).slots) := by
  refine MetFree.of_bodySF (plainFor_of_name pn_com_example_schedule_to_run_scheduletorun_engine_AttemptResult) hisR ?_
  intro pp_ ee_ ss_ mm_ args_ bb_ me_ cc_ s₁ Bd hml0 hP hK
  obtain ⟨rfl, hZ, hh⟩ := hP
  have hx := Bd.exec
  have hby := Bd.bytes
  have hml : cc_.maxLocals = 1 := hml0
  have hown : ss_.vm.findClass "com/example/schedule_to_run/scheduletorun/engine/AttemptResult" = some mm_.cls := findClass_of_methodNamed Bd.named
  have hnm := (name_of_methodNamed Bd.named Bd.method).1
  have X0 : Stand pp_ l ee_ ({ frames := 2, cells := 1, slots := 4, locals := 29 } : Room) ss_ mm_ #[.null] bb_ me_ cc_ s₁ [] 0 0 := Stand.of_body Bd
  have e0 : s₁.heap = h0 := by rw [← hh, Bd.state]; rfl
  have N0 := Fr.nil n0
  show own_Go pp_ ee_ bb_ (fun s₂ oo_ => s₂.status = .running ∧ Ended s₂ bb_ oo_ ∧ (∃ vv_ LL_, oo_ = .returned vv_ ∧ QrmF0 Z wO h0 n0 vv_ s₂.heap LL_ ∧ FrameEnd ss_ oo_ s₂ LL_ ({ frames := 2, cells := 1, slots := 4, locals := 29 } : Room).cells ({ frames := 2, cells := 1, slots := 4, locals := 29 } : Room).slots)) s₁ (entryFrame mm_ #[.null] 1)
  refine own_cast (ef_rmF0 mm_ ) ?_
  have Z0 : n0 ≤ h0.size := by have q := O0.2.1; rw [O0.1] at q; exact q
  have K0 : Keep h0 h0 [] := Keep.refl _ _
  obtain ⟨G_cs, G_cs0, G_S1, G_E2, G_cw, G_h_java_lang_String_7⟩ := id G_
  show own_Go _ _ _ _ s₁ (mkF mm_ 0 #[.val .null] [])
  obtain ⟨T1, h1, X1, e1, E1, A1, D1, -, st1⟩ := newO X0 hx hZ hown (own_w hw 30 rfl) (own_w hw 31 rfl) (own_w hw 28 rfl) e0 (g := (mkF mm_ 0 #[.val .null] [])) rfl (hb hby dc_p4_m7_0) (by decide) (by decide)
  obtain ⟨b1, q1⟩ : ∃ z, z = h0.size := ⟨_, rfl⟩
  rw [← q1] at A1 D1 st1
  have lo_b1 : h0.size ≤ b1 := Nat.le_trans K0.1 (Nat.le_of_eq q1.symm)
  have g_b1 : n0 ≤ b1 := Nat.le_trans Z0 lo_b1
  refine own_step st1 ?_
  have F1_outcome : Fld Z h1 b1 "com/example/schedule_to_run/scheduletorun/engine/AttemptResult" "outcome" "Lcom/example/schedule_to_run/scheduletorun/engine/Outcome;" .null := D1 (Or.inr (own_w hw 40 rfl)) (ty := (.object "com/example/schedule_to_run/scheduletorun/engine/Outcome")) (by decide)
  have F1_exitStatus : Fld Z h1 b1 "com/example/schedule_to_run/scheduletorun/engine/AttemptResult" "exitStatus" "Ljava/lang/Integer;" .null := D1 (Or.inr (own_w hw 42 rfl)) (ty := (.object "java/lang/Integer")) (by decide)
  have F1_httpStatus : Fld Z h1 b1 "com/example/schedule_to_run/scheduletorun/engine/AttemptResult" "httpStatus" "Ljava/lang/Integer;" .null := D1 (Or.inr (own_w hw 44 rfl)) (ty := (.object "java/lang/Integer")) (by decide)
  have F1_error : Fld Z h1 b1 "com/example/schedule_to_run/scheduletorun/engine/AttemptResult" "error" "Ljava/lang/String;" .null := D1 (Or.inr (own_w hw 46 rfl)) (ty := (.object "java/lang/String")) (by decide)
  show own_Go _ _ _ _ T1 (mkF mm_ 3 #[.val .null] [(.ref b1)])
  refine own_step (fun t_ k_ => XS.dup X1.here hx rfl (hb hby dc_p4_m7_3) rfl rfl k_) ?_
  show own_Go _ _ _ _ T1 (mkF mm_ 4 #[.val .null] [(.ref b1), (.ref b1)])
  have O2 : Old Z n0 h1 := (O0.ext E1)
  obtain ⟨T3, X3, e3, st3⟩ := getS2 X1 hx hZ hown (host := "") (Or.inl (own_w hw 32 rfl)) Via.refl e1 (G_S1.ext O2.2) (g := (mkF mm_ 4 #[.val .null] [(.ref b1), (.ref b1)])) rfl (hb hby dc_p4_m7_4)
  refine own_step st3 ?_
  show own_Go _ _ _ _ T3 (mkF mm_ 7 #[.val .null] [(.ref wO), (.ref b1), (.ref b1)])
  refine own_step (fun t_ k_ => XS.aconstNull X3.here hx rfl (hb hby dc_p4_m7_7) (XS.aconstNull X3.here hx rfl (hb hby dc_p4_m7_8) (XS.aloadN X3.here hx rfl (hb hby dc_p4_m7_9) rfl rfl k_))) ?_
  show own_Go _ _ _ _ T3 (mkF mm_ 10 #[.val .null] [.null, .null, .null, (.ref wO), (.ref b1), (.ref b1)])
  obtain ⟨_, T4, Lc4, X4, hQ4, st4⟩ := own_cI X3 hx hZ rfl hown (own_w hw 35 rfl) (own_w hw 36 rfl) (own_w hw 37 rfl) (by decide) (backOf (W := 1) (rmN0 l Z a0 hw [] b1 wO h1 n0 O2 A1 g_b1 F1_outcome F1_exitStatus F1_httpStatus F1_error) hZ (own_w hw 37 rfl) (own_w hw 28 rfl) (by decide) (by decide)) (g := (mkF mm_ 10 #[.val .null] [.null, .null, .null, (.ref wO), (.ref b1), (.ref b1)])) rfl (by rw [hml]; rfl) (a := b1) (argsL := [(.ref wO), .null, .null, .null]) (rest := [(.ref b1)]) (lenOf pd_6 rfl) rfl (by show 2 * 0 + _ ≤ _; exact Nat.le_of_eq rfl) (hb hby dc_p4_m7_10) rfl e3 (by decide) (by decide)
  obtain ⟨rfl, Nq4, Kc4, r4_0, r4_1, r4_2, r4_3⟩ := hQ4
  have N4 := Fr.app N0 Nq4
  refine own_jump st4 ?_
  show own_Go _ _ _ _ T4 (mkF mm_ 13 #[.val .null] [(.ref b1)])
  have K5 : Keep h0 T4.heap [] := ((K0.ext E1).trans Kc4 (allS (Or.inr lo_b1) all0))
  have f6 : Exa Z T4.heap b1 "com/example/schedule_to_run/scheduletorun/engine/AttemptResult" := (A1.keep Kc4)
  obtain ⟨fs, hr, hrun, hended, hW, hsame⟩ := X4.leave (v := some (.ref b1)) (fun h => by rw [Bd.returns] at h; cases h)
  refine ⟨_, _, ?_, hrun, hended, _, _, rfl, ?_, ⟨_, rfl⟩, hW, hsame.mono (by decide) (by decide)⟩
  · jvm_step X4.here [X4.here.top, hx, (hb hby dc_p4_m7_13), X4.method', Bd.returns, Value.isRef, FieldType.isReference]
    first | (intro acts; rw [hr _ acts rfl rfl rfl]) | rw [hr _ _ rfl rfl rfl]
    exact Steps.refl _
  · show QrmF0 Z wO h0 n0 (some (.ref b1)) T4.heap _
    exact ⟨b1, rfl, N4, K5, lo_b1, f6, r4_0, r4_1, r4_2, r4_3⟩
theorem ef_rmF1 (mm_ : MethodId) (s : Addr) : entryFrame mm_ #[(.ref s)] 1 = (mkF mm_ 0 #[.val (.ref s)] []) := by first | (simp [entryFrame, mkF, argsToLocals, Value.category]; done) | rfl
def QrmF1 (Z : State) (s : Addr) (wO : Addr) (h0 : Heap) (n0 : Nat) (vv_ : Option Value) (hh_ : Heap) (LL_ : List Loc) : Prop := ∃ (r : Addr), (vv_ = some (.ref r)) ∧ (Fr n0 LL_) ∧ (Keep h0 hh_ []) ∧ (h0.size ≤ r) ∧ (Exa Z hh_ r "com/example/schedule_to_run/scheduletorun/engine/AttemptResult") ∧ (Fld Z hh_ r "com/example/schedule_to_run/scheduletorun/engine/AttemptResult" "outcome" "Lcom/example/schedule_to_run/scheduletorun/engine/Outcome;" (.ref wO)) ∧ (Fld Z hh_ r "com/example/schedule_to_run/scheduletorun/engine/AttemptResult" "exitStatus" "Ljava/lang/Integer;" .null) ∧ (Fld Z hh_ r "com/example/schedule_to_run/scheduletorun/engine/AttemptResult" "httpStatus" "Ljava/lang/Integer;" .null) ∧ (Fld Z hh_ r "com/example/schedule_to_run/scheduletorun/engine/AttemptResult" "error" "Ljava/lang/String;" (.ref s))
set_option maxRecDepth 65536 in
set_option maxHeartbeats 40000000 in
theorem rmF1 (l : Launch) (Z : State) (a0 : Array Value) (hw : ∀ d ∈ tables_1, d.before a0 Z = true) (ws : List Jvm.Cond) (s : Addr) {zc : Int32} {wO : Addr} (h0 : Heap) (n0 : Nat) (O0 : Old Z n0 h0) (G_ : own_St Z zc wO) :
    MetFree l (⟨"com/example/schedule_to_run/scheduletorun/engine/AttemptResult", "cancelled", "(Ljava/lang/String;)Lcom/example/schedule_to_run/scheduletorun/engine/AttemptResult;"⟩ : MethodName) (head1 (Jvm.Cond.code (⟨"com/example/schedule_to_run/scheduletorun/engine/AttemptResult", "cancelled", "(Ljava/lang/String;)Lcom/example/schedule_to_run/scheduletorun/engine/AttemptResult;"⟩ : MethodName) prog_4_method_7_code 1 (some (.object "com/example/schedule_to_run/scheduletorun/engine/AttemptResult")) :: ws) ({ frames := 2, cells := 1, slots := 4, locals := 29 } : Room)) (fun aa_ UU_ => aa_ = #[(.ref s)] ∧ Z.Warmed39 UU_.vm ∧ UU_.heap = h0) (fun _ _ _ _ _ => True) (fun _ UU_ oo_ UV_ => ∃ vv_ LL_, oo_ = .returned vv_ ∧ QrmF1 Z s wO h0 n0 vv_ UV_.heap LL_ ∧ FrameEnd UU_ oo_ UV_ LL_ ({ frames := 2, cells := 1, slots := 4, locals := 29 } : Room).cells ({ frames := 2, cells := 1, slots := 4, locals := 29 } : Room).slots) := by
  refine MetFree.of_bodySF (plainFor_of_name pn_com_example_schedule_to_run_scheduletorun_engine_AttemptResult) hisR ?_
  intro pp_ ee_ ss_ mm_ args_ bb_ me_ cc_ s₁ Bd hml0 hP hK
  obtain ⟨rfl, hZ, hh⟩ := hP
  have hx := Bd.exec
  have hby := Bd.bytes
  have hml : cc_.maxLocals = 1 := hml0
  have hown : ss_.vm.findClass "com/example/schedule_to_run/scheduletorun/engine/AttemptResult" = some mm_.cls := findClass_of_methodNamed Bd.named
  have hnm := (name_of_methodNamed Bd.named Bd.method).1
  have X0 : Stand pp_ l ee_ ({ frames := 2, cells := 1, slots := 4, locals := 29 } : Room) ss_ mm_ #[(.ref s)] bb_ me_ cc_ s₁ [] 0 0 := Stand.of_body Bd
  have e0 : s₁.heap = h0 := by rw [← hh, Bd.state]; rfl
  have N0 := Fr.nil n0
  show own_Go pp_ ee_ bb_ (fun s₂ oo_ => s₂.status = .running ∧ Ended s₂ bb_ oo_ ∧ (∃ vv_ LL_, oo_ = .returned vv_ ∧ QrmF1 Z s wO h0 n0 vv_ s₂.heap LL_ ∧ FrameEnd ss_ oo_ s₂ LL_ ({ frames := 2, cells := 1, slots := 4, locals := 29 } : Room).cells ({ frames := 2, cells := 1, slots := 4, locals := 29 } : Room).slots)) s₁ (entryFrame mm_ #[(.ref s)] 1)
  refine own_cast (ef_rmF1 mm_ s) ?_
  have Z0 : n0 ≤ h0.size := by have q := O0.2.1; rw [O0.1] at q; exact q
  have K0 : Keep h0 h0 [] := Keep.refl _ _
  obtain ⟨G_cs, G_cs0, G_S1, G_E2, G_cw, G_h_java_lang_String_7⟩ := id G_
  show own_Go _ _ _ _ s₁ (mkF mm_ 0 #[.val (.ref s)] [])
  obtain ⟨T1, h1, X1, e1, E1, A1, D1, -, st1⟩ := newO X0 hx hZ hown (own_w hw 30 rfl) (own_w hw 31 rfl) (own_w hw 28 rfl) e0 (g := (mkF mm_ 0 #[.val (.ref s)] [])) rfl (hb hby dc_p4_m7_0) (by decide) (by decide)
  obtain ⟨b1, q1⟩ : ∃ z, z = h0.size := ⟨_, rfl⟩
  rw [← q1] at A1 D1 st1
  have lo_b1 : h0.size ≤ b1 := Nat.le_trans K0.1 (Nat.le_of_eq q1.symm)
  have g_b1 : n0 ≤ b1 := Nat.le_trans Z0 lo_b1
  refine own_step st1 ?_
  have F1_outcome : Fld Z h1 b1 "com/example/schedule_to_run/scheduletorun/engine/AttemptResult" "outcome" "Lcom/example/schedule_to_run/scheduletorun/engine/Outcome;" .null := D1 (Or.inr (own_w hw 40 rfl)) (ty := (.object "com/example/schedule_to_run/scheduletorun/engine/Outcome")) (by decide)
  have F1_exitStatus : Fld Z h1 b1 "com/example/schedule_to_run/scheduletorun/engine/AttemptResult" "exitStatus" "Ljava/lang/Integer;" .null := D1 (Or.inr (own_w hw 42 rfl)) (ty := (.object "java/lang/Integer")) (by decide)
  have F1_httpStatus : Fld Z h1 b1 "com/example/schedule_to_run/scheduletorun/engine/AttemptResult" "httpStatus" "Ljava/lang/Integer;" .null := D1 (Or.inr (own_w hw 44 rfl)) (ty := (.object "java/lang/Integer")) (by decide)
  have F1_error : Fld Z h1 b1 "com/example/schedule_to_run/scheduletorun/engine/AttemptResult" "error" "Ljava/lang/String;" .null := D1 (Or.inr (own_w hw 46 rfl)) (ty := (.object "java/lang/String")) (by decide)
  show own_Go _ _ _ _ T1 (mkF mm_ 3 #[.val (.ref s)] [(.ref b1)])
  refine own_step (fun t_ k_ => XS.dup X1.here hx rfl (hb hby dc_p4_m7_3) rfl rfl k_) ?_
  show own_Go _ _ _ _ T1 (mkF mm_ 4 #[.val (.ref s)] [(.ref b1), (.ref b1)])
  have O2 : Old Z n0 h1 := (O0.ext E1)
  obtain ⟨T3, X3, e3, st3⟩ := getS2 X1 hx hZ hown (host := "") (Or.inl (own_w hw 32 rfl)) Via.refl e1 (G_S1.ext O2.2) (g := (mkF mm_ 4 #[.val (.ref s)] [(.ref b1), (.ref b1)])) rfl (hb hby dc_p4_m7_4)
  refine own_step st3 ?_
  show own_Go _ _ _ _ T3 (mkF mm_ 7 #[.val (.ref s)] [(.ref wO), (.ref b1), (.ref b1)])
  refine own_step (fun t_ k_ => XS.aconstNull X3.here hx rfl (hb hby dc_p4_m7_7) (XS.aconstNull X3.here hx rfl (hb hby dc_p4_m7_8) (XS.aloadN X3.here hx rfl (hb hby dc_p4_m7_9) rfl rfl k_))) ?_
  show own_Go _ _ _ _ T3 (mkF mm_ 10 #[.val (.ref s)] [(.ref s), .null, .null, (.ref wO), (.ref b1), (.ref b1)])
  obtain ⟨_, T4, Lc4, X4, hQ4, st4⟩ := own_cI X3 hx hZ rfl hown (own_w hw 35 rfl) (own_w hw 36 rfl) (own_w hw 37 rfl) (by decide) (backOf (W := 1) (rmN1 l Z a0 hw [] b1 wO s h1 n0 O2 A1 g_b1 F1_outcome F1_exitStatus F1_httpStatus F1_error) hZ (own_w hw 37 rfl) (own_w hw 28 rfl) (by decide) (by decide)) (g := (mkF mm_ 10 #[.val (.ref s)] [(.ref s), .null, .null, (.ref wO), (.ref b1), (.ref b1)])) rfl (by rw [hml]; rfl) (a := b1) (argsL := [(.ref wO), .null, .null, (.ref s)]) (rest := [(.ref b1)]) (lenOf pd_6 rfl) rfl (by show 2 * 0 + _ ≤ _; exact Nat.le_of_eq rfl) (hb hby dc_p4_m7_10) rfl e3 (by decide) (by decide)
  obtain ⟨rfl, Nq4, Kc4, r4_0, r4_1, r4_2, r4_3⟩ := hQ4
  have N4 := Fr.app N0 Nq4
  refine own_jump st4 ?_
  show own_Go _ _ _ _ T4 (mkF mm_ 13 #[.val (.ref s)] [(.ref b1)])
  have K5 : Keep h0 T4.heap [] := ((K0.ext E1).trans Kc4 (allS (Or.inr lo_b1) all0))
  have f6 : Exa Z T4.heap b1 "com/example/schedule_to_run/scheduletorun/engine/AttemptResult" := (A1.keep Kc4)
  obtain ⟨fs, hr, hrun, hended, hW, hsame⟩ := X4.leave (v := some (.ref b1)) (fun h => by rw [Bd.returns] at h; cases h)
  refine ⟨_, _, ?_, hrun, hended, _, _, rfl, ?_, ⟨_, rfl⟩, hW, hsame.mono (by decide) (by decide)⟩
  · jvm_step X4.here [X4.here.top, hx, (hb hby dc_p4_m7_13), X4.method', Bd.returns, Value.isRef, FieldType.isReference]
    first | (intro acts; rw [hr _ acts rfl rfl rfl]) | rw [hr _ _ rfl rfl rfl]
    exact Steps.refl _
  · show QrmF1 Z s wO h0 n0 (some (.ref b1)) T4.heap _
    exact ⟨b1, rfl, N4, K5, lo_b1, f6, r4_0, r4_1, r4_2, r4_3⟩
theorem dc_p4_m9_0 : decode prog_4_method_9_code 0 = .ok (.aload_n 0, 1) := by decide +kernel
theorem dc_p4_m9_1 : decode prog_4_method_9_code 1 = .ok (.getfield 7, 3) := by decide +kernel
theorem dc_p4_m9_4 : decode prog_4_method_9_code 4 = .ok (.areturn, 1) := by decide +kernel
theorem ef_rmGO (mm_ : MethodId) (a : Addr) : entryFrame mm_ #[(.ref a)] 1 = (mkF mm_ 0 #[.val (.ref a)] []) := by first | (simp [entryFrame, mkF, argsToLocals, Value.category]; done) | rfl
def QrmGO (Z : State) (a : Addr) (v : Addr) (h0 : Heap) (n0 : Nat) (vv_ : Option Value) (hh_ : Heap) (LL_ : List Loc) : Prop := (vv_ = some (.ref v)) ∧ (LL_ = []) ∧ (hh_ = h0)
set_option maxRecDepth 65536 in
set_option maxHeartbeats 40000000 in
theorem rmGO (l : Launch) (Z : State) (a0 : Array Value) (hw : ∀ d ∈ tables_1, d.before a0 Z = true) (ws : List Jvm.Cond) (a : Addr) (v : Addr) (h0 : Heap) (n0 : Nat) (O0 : Old Z n0 h0) (pr0 : Fld Z h0 a "com/example/schedule_to_run/scheduletorun/engine/AttemptResult" "outcome" "Lcom/example/schedule_to_run/scheduletorun/engine/Outcome;" (.ref v)) :
    MetFree l (⟨"com/example/schedule_to_run/scheduletorun/engine/AttemptResult", "getOutcome", "()Lcom/example/schedule_to_run/scheduletorun/engine/Outcome;"⟩ : MethodName) (head1 (Jvm.Cond.code (⟨"com/example/schedule_to_run/scheduletorun/engine/AttemptResult", "getOutcome", "()Lcom/example/schedule_to_run/scheduletorun/engine/Outcome;"⟩ : MethodName) prog_4_method_9_code 1 (some (.object "com/example/schedule_to_run/scheduletorun/engine/Outcome")) :: ws) ({ frames := 0, cells := 0, slots := 0, locals := 0 } : Room)) (fun aa_ UU_ => aa_ = #[(.ref a)] ∧ Z.Warmed39 UU_.vm ∧ UU_.heap = h0) (fun _ _ _ _ _ => True) (fun _ UU_ oo_ UV_ => ∃ vv_ LL_, oo_ = .returned vv_ ∧ QrmGO Z a v h0 n0 vv_ UV_.heap LL_ ∧ FrameEnd UU_ oo_ UV_ LL_ ({ frames := 0, cells := 0, slots := 0, locals := 0 } : Room).cells ({ frames := 0, cells := 0, slots := 0, locals := 0 } : Room).slots) := by
  refine MetFree.of_bodySF (plainFor_of_name pn_com_example_schedule_to_run_scheduletorun_engine_AttemptResult) hisR ?_
  intro pp_ ee_ ss_ mm_ args_ bb_ me_ cc_ s₁ Bd hml0 hP hK
  obtain ⟨rfl, hZ, hh⟩ := hP
  have hx := Bd.exec
  have hby := Bd.bytes
  have hml : cc_.maxLocals = 1 := hml0
  have hown : ss_.vm.findClass "com/example/schedule_to_run/scheduletorun/engine/AttemptResult" = some mm_.cls := findClass_of_methodNamed Bd.named
  have hnm := (name_of_methodNamed Bd.named Bd.method).1
  have X0 : Stand pp_ l ee_ ({ frames := 0, cells := 0, slots := 0, locals := 0 } : Room) ss_ mm_ #[(.ref a)] bb_ me_ cc_ s₁ [] 0 0 := Stand.of_body Bd
  have e0 : s₁.heap = h0 := by rw [← hh, Bd.state]; rfl
  have N0 := Fr.nil n0
  show own_Go pp_ ee_ bb_ (fun s₂ oo_ => s₂.status = .running ∧ Ended s₂ bb_ oo_ ∧ (∃ vv_ LL_, oo_ = .returned vv_ ∧ QrmGO Z a v h0 n0 vv_ s₂.heap LL_ ∧ FrameEnd ss_ oo_ s₂ LL_ ({ frames := 0, cells := 0, slots := 0, locals := 0 } : Room).cells ({ frames := 0, cells := 0, slots := 0, locals := 0 } : Room).slots)) s₁ (entryFrame mm_ #[(.ref a)] 1)
  refine own_cast (ef_rmGO mm_ a) ?_
  have Z0 : n0 ≤ h0.size := by have q := O0.2.1; rw [O0.1] at q; exact q
  have K0 : Keep h0 h0 [] := Keep.refl _ _
  show own_Go _ _ _ _ s₁ (mkF mm_ 0 #[.val (.ref a)] [])
  refine own_step (fun t_ k_ => XS.aloadN X0.here hx rfl (hb hby dc_p4_m9_0) rfl rfl k_) ?_
  show own_Go _ _ _ _ s₁ (mkF mm_ 1 #[.val (.ref a)] [(.ref a)])
  obtain ⟨T1, X1, e1, st1⟩ := getF X0 hx hZ hown (host := "") (Or.inl (own_w hw 39 rfl)) Via.refl e0 pr0 (g := (mkF mm_ 1 #[.val (.ref a)] [(.ref a)])) rfl rfl (hb hby dc_p4_m9_1)
  refine own_step st1 ?_
  show own_Go _ _ _ _ T1 (mkF mm_ 4 #[.val (.ref a)] [(.ref v)])
  obtain ⟨fs, hr, hrun, hended, hW, hsame⟩ := X1.leave (v := some (.ref v)) (fun h => by rw [Bd.returns] at h; cases h)
  refine ⟨_, _, ?_, hrun, hended, _, _, rfl, ?_, ⟨_, rfl⟩, hW, hsame.mono (by decide) (by decide)⟩
  · jvm_step X1.here [X1.here.top, hx, (hb hby dc_p4_m9_4), X1.method', Bd.returns, Value.isRef, FieldType.isReference]
    first | (intro acts; rw [hr _ acts rfl rfl rfl]) | rw [hr _ _ rfl rfl rfl]
    exact Steps.refl _
  · show QrmGO Z a v h0 n0 (some (.ref v)) T1.heap _
    rw [e1]
    exact ⟨rfl, rfl, rfl⟩
theorem dc_p4_m11_0 : decode prog_4_method_11_code 0 = .ok (.aload_n 0, 1) := by decide +kernel
theorem dc_p4_m11_1 : decode prog_4_method_11_code 1 = .ok (.getfield 17, 3) := by decide +kernel
theorem dc_p4_m11_4 : decode prog_4_method_11_code 4 = .ok (.areturn, 1) := by decide +kernel
theorem ef_rmGHn (mm_ : MethodId) (a : Addr) : entryFrame mm_ #[(.ref a)] 1 = (mkF mm_ 0 #[.val (.ref a)] []) := by first | (simp [entryFrame, mkF, argsToLocals, Value.category]; done) | rfl
def QrmGHn (Z : State) (a : Addr) (h0 : Heap) (n0 : Nat) (vv_ : Option Value) (hh_ : Heap) (LL_ : List Loc) : Prop := (vv_ = some .null) ∧ (LL_ = []) ∧ (hh_ = h0)
set_option maxRecDepth 65536 in
set_option maxHeartbeats 40000000 in
theorem rmGHn (l : Launch) (Z : State) (a0 : Array Value) (hw : ∀ d ∈ tables_1, d.before a0 Z = true) (ws : List Jvm.Cond) (a : Addr) (h0 : Heap) (n0 : Nat) (O0 : Old Z n0 h0) (pr0 : Fld Z h0 a "com/example/schedule_to_run/scheduletorun/engine/AttemptResult" "httpStatus" "Ljava/lang/Integer;" .null) :
    MetFree l (⟨"com/example/schedule_to_run/scheduletorun/engine/AttemptResult", "getHttpStatus", "()Ljava/lang/Integer;"⟩ : MethodName) (head1 (Jvm.Cond.code (⟨"com/example/schedule_to_run/scheduletorun/engine/AttemptResult", "getHttpStatus", "()Ljava/lang/Integer;"⟩ : MethodName) prog_4_method_11_code 1 (some (.object "java/lang/Integer")) :: ws) ({ frames := 0, cells := 0, slots := 0, locals := 0 } : Room)) (fun aa_ UU_ => aa_ = #[(.ref a)] ∧ Z.Warmed39 UU_.vm ∧ UU_.heap = h0) (fun _ _ _ _ _ => True) (fun _ UU_ oo_ UV_ => ∃ vv_ LL_, oo_ = .returned vv_ ∧ QrmGHn Z a h0 n0 vv_ UV_.heap LL_ ∧ FrameEnd UU_ oo_ UV_ LL_ ({ frames := 0, cells := 0, slots := 0, locals := 0 } : Room).cells ({ frames := 0, cells := 0, slots := 0, locals := 0 } : Room).slots) := by
  refine MetFree.of_bodySF (plainFor_of_name pn_com_example_schedule_to_run_scheduletorun_engine_AttemptResult) hisR ?_
  intro pp_ ee_ ss_ mm_ args_ bb_ me_ cc_ s₁ Bd hml0 hP hK
  obtain ⟨rfl, hZ, hh⟩ := hP
  have hx := Bd.exec
  have hby := Bd.bytes
  have hml : cc_.maxLocals = 1 := hml0
  have hown : ss_.vm.findClass "com/example/schedule_to_run/scheduletorun/engine/AttemptResult" = some mm_.cls := findClass_of_methodNamed Bd.named
  have hnm := (name_of_methodNamed Bd.named Bd.method).1
  have X0 : Stand pp_ l ee_ ({ frames := 0, cells := 0, slots := 0, locals := 0 } : Room) ss_ mm_ #[(.ref a)] bb_ me_ cc_ s₁ [] 0 0 := Stand.of_body Bd
  have e0 : s₁.heap = h0 := by rw [← hh, Bd.state]; rfl
  have N0 := Fr.nil n0
  show own_Go pp_ ee_ bb_ (fun s₂ oo_ => s₂.status = .running ∧ Ended s₂ bb_ oo_ ∧ (∃ vv_ LL_, oo_ = .returned vv_ ∧ QrmGHn Z a h0 n0 vv_ s₂.heap LL_ ∧ FrameEnd ss_ oo_ s₂ LL_ ({ frames := 0, cells := 0, slots := 0, locals := 0 } : Room).cells ({ frames := 0, cells := 0, slots := 0, locals := 0 } : Room).slots)) s₁ (entryFrame mm_ #[(.ref a)] 1)
  refine own_cast (ef_rmGHn mm_ a) ?_
  have Z0 : n0 ≤ h0.size := by have q := O0.2.1; rw [O0.1] at q; exact q
  have K0 : Keep h0 h0 [] := Keep.refl _ _
  show own_Go _ _ _ _ s₁ (mkF mm_ 0 #[.val (.ref a)] [])
  refine own_step (fun t_ k_ => XS.aloadN X0.here hx rfl (hb hby dc_p4_m11_0) rfl rfl k_) ?_
  show own_Go _ _ _ _ s₁ (mkF mm_ 1 #[.val (.ref a)] [(.ref a)])
  obtain ⟨T1, X1, e1, st1⟩ := getF X0 hx hZ hown (host := "") (Or.inl (own_w hw 43 rfl)) Via.refl e0 pr0 (g := (mkF mm_ 1 #[.val (.ref a)] [(.ref a)])) rfl rfl (hb hby dc_p4_m11_1)
  refine own_step st1 ?_
  show own_Go _ _ _ _ T1 (mkF mm_ 4 #[.val (.ref a)] [.null])
  obtain ⟨fs, hr, hrun, hended, hW, hsame⟩ := X1.leave (v := some .null) (fun h => by rw [Bd.returns] at h; cases h)
  refine ⟨_, _, ?_, hrun, hended, _, _, rfl, ?_, ⟨_, rfl⟩, hW, hsame.mono (by decide) (by decide)⟩
  · jvm_step X1.here [X1.here.top, hx, (hb hby dc_p4_m11_4), X1.method', Bd.returns, Value.isRef, FieldType.isReference]
    first | (intro acts; rw [hr _ acts rfl rfl rfl]) | rw [hr _ _ rfl rfl rfl]
    exact Steps.refl _
  · show QrmGHn Z a h0 n0 (some .null) T1.heap _
    rw [e1]
    exact ⟨rfl, rfl, rfl⟩
theorem dc_p4_m12_0 : decode prog_4_method_12_code 0 = .ok (.aload_n 0, 1) := by decide +kernel
theorem dc_p4_m12_1 : decode prog_4_method_12_code 1 = .ok (.getfield 20, 3) := by decide +kernel
theorem dc_p4_m12_4 : decode prog_4_method_12_code 4 = .ok (.areturn, 1) := by decide +kernel
theorem ef_rmGEn (mm_ : MethodId) (a : Addr) : entryFrame mm_ #[(.ref a)] 1 = (mkF mm_ 0 #[.val (.ref a)] []) := by first | (simp [entryFrame, mkF, argsToLocals, Value.category]; done) | rfl
def QrmGEn (Z : State) (a : Addr) (h0 : Heap) (n0 : Nat) (vv_ : Option Value) (hh_ : Heap) (LL_ : List Loc) : Prop := (vv_ = some .null) ∧ (LL_ = []) ∧ (hh_ = h0)
set_option maxRecDepth 65536 in
set_option maxHeartbeats 40000000 in
theorem rmGEn (l : Launch) (Z : State) (a0 : Array Value) (hw : ∀ d ∈ tables_1, d.before a0 Z = true) (ws : List Jvm.Cond) (a : Addr) (h0 : Heap) (n0 : Nat) (O0 : Old Z n0 h0) (pr0 : Fld Z h0 a "com/example/schedule_to_run/scheduletorun/engine/AttemptResult" "error" "Ljava/lang/String;" .null) :
    MetFree l (⟨"com/example/schedule_to_run/scheduletorun/engine/AttemptResult", "getError", "()Ljava/lang/String;"⟩ : MethodName) (head1 (Jvm.Cond.code (⟨"com/example/schedule_to_run/scheduletorun/engine/AttemptResult", "getError", "()Ljava/lang/String;"⟩ : MethodName) prog_4_method_12_code 1 (some (.object "java/lang/String")) :: ws) ({ frames := 0, cells := 0, slots := 0, locals := 0 } : Room)) (fun aa_ UU_ => aa_ = #[(.ref a)] ∧ Z.Warmed39 UU_.vm ∧ UU_.heap = h0) (fun _ _ _ _ _ => True) (fun _ UU_ oo_ UV_ => ∃ vv_ LL_, oo_ = .returned vv_ ∧ QrmGEn Z a h0 n0 vv_ UV_.heap LL_ ∧ FrameEnd UU_ oo_ UV_ LL_ ({ frames := 0, cells := 0, slots := 0, locals := 0 } : Room).cells ({ frames := 0, cells := 0, slots := 0, locals := 0 } : Room).slots) := by
  refine MetFree.of_bodySF (plainFor_of_name pn_com_example_schedule_to_run_scheduletorun_engine_AttemptResult) hisR ?_
  intro pp_ ee_ ss_ mm_ args_ bb_ me_ cc_ s₁ Bd hml0 hP hK
  obtain ⟨rfl, hZ, hh⟩ := hP
  have hx := Bd.exec
  have hby := Bd.bytes
  have hml : cc_.maxLocals = 1 := hml0
  have hown : ss_.vm.findClass "com/example/schedule_to_run/scheduletorun/engine/AttemptResult" = some mm_.cls := findClass_of_methodNamed Bd.named
  have hnm := (name_of_methodNamed Bd.named Bd.method).1
  have X0 : Stand pp_ l ee_ ({ frames := 0, cells := 0, slots := 0, locals := 0 } : Room) ss_ mm_ #[(.ref a)] bb_ me_ cc_ s₁ [] 0 0 := Stand.of_body Bd
  have e0 : s₁.heap = h0 := by rw [← hh, Bd.state]; rfl
  have N0 := Fr.nil n0
  show own_Go pp_ ee_ bb_ (fun s₂ oo_ => s₂.status = .running ∧ Ended s₂ bb_ oo_ ∧ (∃ vv_ LL_, oo_ = .returned vv_ ∧ QrmGEn Z a h0 n0 vv_ s₂.heap LL_ ∧ FrameEnd ss_ oo_ s₂ LL_ ({ frames := 0, cells := 0, slots := 0, locals := 0 } : Room).cells ({ frames := 0, cells := 0, slots := 0, locals := 0 } : Room).slots)) s₁ (entryFrame mm_ #[(.ref a)] 1)
  refine own_cast (ef_rmGEn mm_ a) ?_
  have Z0 : n0 ≤ h0.size := by have q := O0.2.1; rw [O0.1] at q; exact q
  have K0 : Keep h0 h0 [] := Keep.refl _ _
  show own_Go _ _ _ _ s₁ (mkF mm_ 0 #[.val (.ref a)] [])
  refine own_step (fun t_ k_ => XS.aloadN X0.here hx rfl (hb hby dc_p4_m12_0) rfl rfl k_) ?_
  show own_Go _ _ _ _ s₁ (mkF mm_ 1 #[.val (.ref a)] [(.ref a)])
  obtain ⟨T1, X1, e1, st1⟩ := getF X0 hx hZ hown (host := "") (Or.inl (own_w hw 45 rfl)) Via.refl e0 pr0 (g := (mkF mm_ 1 #[.val (.ref a)] [(.ref a)])) rfl rfl (hb hby dc_p4_m12_1)
  refine own_step st1 ?_
  show own_Go _ _ _ _ T1 (mkF mm_ 4 #[.val (.ref a)] [.null])
  obtain ⟨fs, hr, hrun, hended, hW, hsame⟩ := X1.leave (v := some .null) (fun h => by rw [Bd.returns] at h; cases h)
  refine ⟨_, _, ?_, hrun, hended, _, _, rfl, ?_, ⟨_, rfl⟩, hW, hsame.mono (by decide) (by decide)⟩
  · jvm_step X1.here [X1.here.top, hx, (hb hby dc_p4_m12_4), X1.method', Bd.returns, Value.isRef, FieldType.isReference]
    first | (intro acts; rw [hr _ acts rfl rfl rfl]) | rw [hr _ _ rfl rfl rfl]
    exact Steps.refl _
  · show QrmGEn Z a h0 n0 (some .null) T1.heap _
    rw [e1]
    exact ⟨rfl, rfl, rfl⟩
theorem ef_rmGE (mm_ : MethodId) (a : Addr) : entryFrame mm_ #[(.ref a)] 1 = (mkF mm_ 0 #[.val (.ref a)] []) := by first | (simp [entryFrame, mkF, argsToLocals, Value.category]; done) | rfl
def QrmGE (Z : State) (a : Addr) (v : Addr) (h0 : Heap) (n0 : Nat) (vv_ : Option Value) (hh_ : Heap) (LL_ : List Loc) : Prop := (vv_ = some (.ref v)) ∧ (LL_ = []) ∧ (hh_ = h0)
set_option maxRecDepth 65536 in
set_option maxHeartbeats 40000000 in
theorem rmGE (l : Launch) (Z : State) (a0 : Array Value) (hw : ∀ d ∈ tables_1, d.before a0 Z = true) (ws : List Jvm.Cond) (a : Addr) (v : Addr) (h0 : Heap) (n0 : Nat) (O0 : Old Z n0 h0) (pr0 : Fld Z h0 a "com/example/schedule_to_run/scheduletorun/engine/AttemptResult" "error" "Ljava/lang/String;" (.ref v)) :
    MetFree l (⟨"com/example/schedule_to_run/scheduletorun/engine/AttemptResult", "getError", "()Ljava/lang/String;"⟩ : MethodName) (head1 (Jvm.Cond.code (⟨"com/example/schedule_to_run/scheduletorun/engine/AttemptResult", "getError", "()Ljava/lang/String;"⟩ : MethodName) prog_4_method_12_code 1 (some (.object "java/lang/String")) :: ws) ({ frames := 0, cells := 0, slots := 0, locals := 0 } : Room)) (fun aa_ UU_ => aa_ = #[(.ref a)] ∧ Z.Warmed39 UU_.vm ∧ UU_.heap = h0) (fun _ _ _ _ _ => True) (fun _ UU_ oo_ UV_ => ∃ vv_ LL_, oo_ = .returned vv_ ∧ QrmGE Z a v h0 n0 vv_ UV_.heap LL_ ∧ FrameEnd UU_ oo_ UV_ LL_ ({ frames := 0, cells := 0, slots := 0, locals := 0 } : Room).cells ({ frames := 0, cells := 0, slots := 0, locals := 0 } : Room).slots) := by
  refine MetFree.of_bodySF (plainFor_of_name pn_com_example_schedule_to_run_scheduletorun_engine_AttemptResult) hisR ?_
  intro pp_ ee_ ss_ mm_ args_ bb_ me_ cc_ s₁ Bd hml0 hP hK
  obtain ⟨rfl, hZ, hh⟩ := hP
  have hx := Bd.exec
  have hby := Bd.bytes
  have hml : cc_.maxLocals = 1 := hml0
  have hown : ss_.vm.findClass "com/example/schedule_to_run/scheduletorun/engine/AttemptResult" = some mm_.cls := findClass_of_methodNamed Bd.named
  have hnm := (name_of_methodNamed Bd.named Bd.method).1
  have X0 : Stand pp_ l ee_ ({ frames := 0, cells := 0, slots := 0, locals := 0 } : Room) ss_ mm_ #[(.ref a)] bb_ me_ cc_ s₁ [] 0 0 := Stand.of_body Bd
  have e0 : s₁.heap = h0 := by rw [← hh, Bd.state]; rfl
  have N0 := Fr.nil n0
  show own_Go pp_ ee_ bb_ (fun s₂ oo_ => s₂.status = .running ∧ Ended s₂ bb_ oo_ ∧ (∃ vv_ LL_, oo_ = .returned vv_ ∧ QrmGE Z a v h0 n0 vv_ s₂.heap LL_ ∧ FrameEnd ss_ oo_ s₂ LL_ ({ frames := 0, cells := 0, slots := 0, locals := 0 } : Room).cells ({ frames := 0, cells := 0, slots := 0, locals := 0 } : Room).slots)) s₁ (entryFrame mm_ #[(.ref a)] 1)
  refine own_cast (ef_rmGE mm_ a) ?_
  have Z0 : n0 ≤ h0.size := by have q := O0.2.1; rw [O0.1] at q; exact q
  have K0 : Keep h0 h0 [] := Keep.refl _ _
  show own_Go _ _ _ _ s₁ (mkF mm_ 0 #[.val (.ref a)] [])
  refine own_step (fun t_ k_ => XS.aloadN X0.here hx rfl (hb hby dc_p4_m12_0) rfl rfl k_) ?_
  show own_Go _ _ _ _ s₁ (mkF mm_ 1 #[.val (.ref a)] [(.ref a)])
  obtain ⟨T1, X1, e1, st1⟩ := getF X0 hx hZ hown (host := "") (Or.inl (own_w hw 45 rfl)) Via.refl e0 pr0 (g := (mkF mm_ 1 #[.val (.ref a)] [(.ref a)])) rfl rfl (hb hby dc_p4_m12_1)
  refine own_step st1 ?_
  show own_Go _ _ _ _ T1 (mkF mm_ 4 #[.val (.ref a)] [(.ref v)])
  obtain ⟨fs, hr, hrun, hended, hW, hsame⟩ := X1.leave (v := some (.ref v)) (fun h => by rw [Bd.returns] at h; cases h)
  refine ⟨_, _, ?_, hrun, hended, _, _, rfl, ?_, ⟨_, rfl⟩, hW, hsame.mono (by decide) (by decide)⟩
  · jvm_step X1.here [X1.here.top, hx, (hb hby dc_p4_m12_4), X1.method', Bd.returns, Value.isRef, FieldType.isReference]
    first | (intro acts; rw [hr _ acts rfl rfl rfl]) | rw [hr _ _ rfl rfl rfl]
    exact Steps.refl _
  · show QrmGE Z a v h0 n0 (some (.ref v)) T1.heap _
    rw [e1]
    exact ⟨rfl, rfl, rfl⟩
theorem dc_p4_m10_0 : decode prog_4_method_10_code 0 = .ok (.aload_n 0, 1) := by decide +kernel
theorem dc_p4_m10_1 : decode prog_4_method_10_code 1 = .ok (.getfield 13, 3) := by decide +kernel
theorem dc_p4_m10_4 : decode prog_4_method_10_code 4 = .ok (.areturn, 1) := by decide +kernel
theorem ef_rmGXn (mm_ : MethodId) (a : Addr) : entryFrame mm_ #[(.ref a)] 1 = (mkF mm_ 0 #[.val (.ref a)] []) := by first | (simp [entryFrame, mkF, argsToLocals, Value.category]; done) | rfl
def QrmGXn (Z : State) (a : Addr) (h0 : Heap) (n0 : Nat) (vv_ : Option Value) (hh_ : Heap) (LL_ : List Loc) : Prop := (vv_ = some .null) ∧ (LL_ = []) ∧ (hh_ = h0)
set_option maxRecDepth 65536 in
set_option maxHeartbeats 40000000 in
theorem rmGXn (l : Launch) (Z : State) (a0 : Array Value) (hw : ∀ d ∈ tables_1, d.before a0 Z = true) (ws : List Jvm.Cond) (a : Addr) (h0 : Heap) (n0 : Nat) (O0 : Old Z n0 h0) (pr0 : Fld Z h0 a "com/example/schedule_to_run/scheduletorun/engine/AttemptResult" "exitStatus" "Ljava/lang/Integer;" .null) :
    MetFree l (⟨"com/example/schedule_to_run/scheduletorun/engine/AttemptResult", "getExitStatus", "()Ljava/lang/Integer;"⟩ : MethodName) (head1 (Jvm.Cond.code (⟨"com/example/schedule_to_run/scheduletorun/engine/AttemptResult", "getExitStatus", "()Ljava/lang/Integer;"⟩ : MethodName) prog_4_method_10_code 1 (some (.object "java/lang/Integer")) :: ws) ({ frames := 0, cells := 0, slots := 0, locals := 0 } : Room)) (fun aa_ UU_ => aa_ = #[(.ref a)] ∧ Z.Warmed39 UU_.vm ∧ UU_.heap = h0) (fun _ _ _ _ _ => True) (fun _ UU_ oo_ UV_ => ∃ vv_ LL_, oo_ = .returned vv_ ∧ QrmGXn Z a h0 n0 vv_ UV_.heap LL_ ∧ FrameEnd UU_ oo_ UV_ LL_ ({ frames := 0, cells := 0, slots := 0, locals := 0 } : Room).cells ({ frames := 0, cells := 0, slots := 0, locals := 0 } : Room).slots) := by
  refine MetFree.of_bodySF (plainFor_of_name pn_com_example_schedule_to_run_scheduletorun_engine_AttemptResult) hisR ?_
  intro pp_ ee_ ss_ mm_ args_ bb_ me_ cc_ s₁ Bd hml0 hP hK
  obtain ⟨rfl, hZ, hh⟩ := hP
  have hx := Bd.exec
  have hby := Bd.bytes
  have hml : cc_.maxLocals = 1 := hml0
  have hown : ss_.vm.findClass "com/example/schedule_to_run/scheduletorun/engine/AttemptResult" = some mm_.cls := findClass_of_methodNamed Bd.named
  have hnm := (name_of_methodNamed Bd.named Bd.method).1
  have X0 : Stand pp_ l ee_ ({ frames := 0, cells := 0, slots := 0, locals := 0 } : Room) ss_ mm_ #[(.ref a)] bb_ me_ cc_ s₁ [] 0 0 := Stand.of_body Bd
  have e0 : s₁.heap = h0 := by rw [← hh, Bd.state]; rfl
  have N0 := Fr.nil n0
  show own_Go pp_ ee_ bb_ (fun s₂ oo_ => s₂.status = .running ∧ Ended s₂ bb_ oo_ ∧ (∃ vv_ LL_, oo_ = .returned vv_ ∧ QrmGXn Z a h0 n0 vv_ s₂.heap LL_ ∧ FrameEnd ss_ oo_ s₂ LL_ ({ frames := 0, cells := 0, slots := 0, locals := 0 } : Room).cells ({ frames := 0, cells := 0, slots := 0, locals := 0 } : Room).slots)) s₁ (entryFrame mm_ #[(.ref a)] 1)
  refine own_cast (ef_rmGXn mm_ a) ?_
  have Z0 : n0 ≤ h0.size := by have q := O0.2.1; rw [O0.1] at q; exact q
  have K0 : Keep h0 h0 [] := Keep.refl _ _
  show own_Go _ _ _ _ s₁ (mkF mm_ 0 #[.val (.ref a)] [])
  refine own_step (fun t_ k_ => XS.aloadN X0.here hx rfl (hb hby dc_p4_m10_0) rfl rfl k_) ?_
  show own_Go _ _ _ _ s₁ (mkF mm_ 1 #[.val (.ref a)] [(.ref a)])
  obtain ⟨T1, X1, e1, st1⟩ := getF X0 hx hZ hown (host := "") (Or.inl (own_w hw 41 rfl)) Via.refl e0 pr0 (g := (mkF mm_ 1 #[.val (.ref a)] [(.ref a)])) rfl rfl (hb hby dc_p4_m10_1)
  refine own_step st1 ?_
  show own_Go _ _ _ _ T1 (mkF mm_ 4 #[.val (.ref a)] [.null])
  obtain ⟨fs, hr, hrun, hended, hW, hsame⟩ := X1.leave (v := some .null) (fun h => by rw [Bd.returns] at h; cases h)
  refine ⟨_, _, ?_, hrun, hended, _, _, rfl, ?_, ⟨_, rfl⟩, hW, hsame.mono (by decide) (by decide)⟩
  · jvm_step X1.here [X1.here.top, hx, (hb hby dc_p4_m10_4), X1.method', Bd.returns, Value.isRef, FieldType.isReference]
    first | (intro acts; rw [hr _ acts rfl rfl rfl]) | rw [hr _ _ rfl rfl rfl]
    exact Steps.refl _
  · show QrmGXn Z a h0 n0 (some .null) T1.heap _
    rw [e1]
    exact ⟨rfl, rfl, rfl⟩
theorem pd_7 : parseMethodDescriptor "(IIII)Ljava/lang/String;" = some ⟨[.int, .int, .int, .int], some (.object "java/lang/String")⟩ := by decide +kernel
theorem pd_8 : parseMethodDescriptor "(Ljava/lang/String;)Lcom/example/schedule_to_run/scheduletorun/engine/AttemptResult;" = some ⟨[(.object "java/lang/String")], some (.object "com/example/schedule_to_run/scheduletorun/engine/AttemptResult")⟩ := by decide +kernel
theorem pd_9 : parseMethodDescriptor "()Ljava/lang/String;" = some ⟨[], some (.object "java/lang/String")⟩ := by decide +kernel
theorem pd_10 : parseMethodDescriptor "(Ljava/lang/Object;)Z" = some ⟨[(.object "java/lang/Object")], some .boolean⟩ := by decide +kernel
theorem pd_11 : parseMethodDescriptor "()Lcom/example/schedule_to_run/scheduletorun/engine/Outcome;" = some ⟨[], some (.object "com/example/schedule_to_run/scheduletorun/engine/Outcome")⟩ := by decide +kernel
theorem pd_12 : parseMethodDescriptor "()Ljava/lang/Integer;" = some ⟨[], some (.object "java/lang/Integer")⟩ := by decide +kernel
theorem ef_rm0 (mm_ : MethodId) (p1 : Int32) (p2 : Int32) (p3 : Int32) (p4 : Int32) : entryFrame mm_ #[(.int p1), (.int p2), (.int p3), (.int p4)] maxLocals = (mkF mm_ 0 #[.val (.int p1), .val (.int p2), .val (.int p3), .val (.int p4), .unset, .unset, .unset, .unset, .unset, .unset] []) := by first | (simp [entryFrame, mkF, argsToLocals, Value.category, maxLocals]; done) | rfl
def Qrm0 (Z : State) (p1 : Int32) (p2 : Int32) (p3 : Int32) (p4 : Int32) (h0 : Heap) (n0 : Nat) (vv_ : Option Value) (hh_ : Heap) (LL_ : List Loc) : Prop := (vv_ = some (.int (1 : Int32))) ∧ (Fr n0 LL_) ∧ (Keep h0 hh_ [])
set_option maxRecDepth 65536 in
set_option maxHeartbeats 40000000 in
theorem rm0 (l : Launch) (Z : State) (a0 : Array Value) (hw : ∀ d ∈ tables_1, d.before a0 Z = true) (ws : List Jvm.Cond) (p1 : Int32) (p2 : Int32) (p3 : Int32) (p4 : Int32) {zc : Int32} {wO : Addr} (h0 : Heap) (n0 : Nat) (O0 : Old Z n0 h0) (G_ : own_St Z zc wO) (hn0 : h0.size = n0) :
    MetFree l x (head1 (Jvm.Cond.code x code maxLocals ret :: ws) room_1) (fun aa_ UU_ => aa_ = #[(.int p1), (.int p2), (.int p3), (.int p4)] ∧ Z.Warmed39 UU_.vm ∧ UU_.heap = h0 ∧ (IB Z UU_.vm [])) (fun _ _ _ _ _ => True) (fun _ UU_ oo_ UV_ => ∃ vv_ LL_, oo_ = .returned vv_ ∧ Qrm0 Z p1 p2 p3 p4 h0 n0 vv_ UV_.heap LL_ ∧ IB Z UV_.vm [""] ∧ ReturnedEndW UU_ oo_ UV_ LL_ room_1.cells room_1.slots) := by
  refine MetFree.of_bodySF (plainFor_of_name pn_com_example_schedule_to_run_scheduletorun_engine_AttemptResultCancelledPinLaw) hisR ?_
  intro pp_ ee_ ss_ mm_ args_ bb_ me_ cc_ s₁ Bd hml0 hP hK
  obtain ⟨rfl, hZ, hh, hI⟩ := hP
  have hx := Bd.exec
  have hby := Bd.bytes
  have hml : cc_.maxLocals = 10 := hml0
  have hown : ss_.vm.findClass "com/example/schedule_to_run/scheduletorun/engine/AttemptResultCancelledPinLaw" = some mm_.cls := findClass_of_methodNamed Bd.named
  have hnm := (name_of_methodNamed Bd.named Bd.method).1
  have X0 : Stand pp_ l ee_ room_1 ss_ mm_ #[(.int p1), (.int p2), (.int p3), (.int p4)] bb_ me_ cc_ s₁ [] 0 0 := Stand.of_body Bd
  have e0 : s₁.heap = h0 := by rw [← hh, Bd.state]; rfl
  have N0 := Fr.nil n0
  have X0 : Stand pp_ l ee_ _ (ss_.setVm ss_.vm) mm_ _ bb_ me_ cc_ s₁ [] 0 0 := X0
  have hZ : Z.Warmed39 (ss_.setVm ss_.vm).vm := hZ
  have hown : (ss_.setVm ss_.vm).vm.findClass "com/example/schedule_to_run/scheduletorun/engine/AttemptResultCancelledPinLaw" = some mm_.cls := hown
  have hS0 : ss_.Since ss_.vm 0 := (State.WarmedH.refl ss_).since 0
  have hkeep_ : ∀ (b : Addr) (cl : Cell), Z.heap[b]? = some cl → ss_.heap[b]? = some cl := by rw [hh]; exact O0.2.2
  have own_atoms_ : ∀ a ∈ Bundle.stringAtoms, a.before a0 Z = true := fun d hd => hw d ((by decide +kernel : ∀ d ∈ Bundle.stringAtoms, d ∈ tables_1) d hd)
  show own_Go pp_ ee_ bb_ (fun s₂ oo_ => s₂.status = .running ∧ Ended s₂ bb_ oo_ ∧ (∃ vv_ LL_, oo_ = .returned vv_ ∧ Qrm0 Z p1 p2 p3 p4 h0 n0 vv_ s₂.heap LL_ ∧ IB Z s₂.vm [""] ∧ ReturnedEndW ss_ oo_ s₂ LL_ room_1.cells room_1.slots)) s₁ (entryFrame mm_ #[(.int p1), (.int p2), (.int p3), (.int p4)] maxLocals)
  refine own_cast (ef_rm0 mm_ p1 p2 p3 p4) ?_
  have Z0 : n0 ≤ h0.size := by have q := O0.2.1; rw [O0.1] at q; exact q
  have K0 : Keep h0 h0 [] := Keep.refl _ _
  obtain ⟨G_cs, G_cs0, G_S1, G_E2, G_cw, G_h_java_lang_String_7⟩ := id G_
  have own_cw_ : Jvm.Lit.compactW.before a0 Z = true := G_cw
  show own_Go _ _ _ _ s₁ (mkF mm_ 0 #[.val (.int p1), .val (.int p2), .val (.int p3), .val (.int p4), .unset, .unset, .unset, .unset, .unset, .unset] [])
  refine own_step (fun t_ k_ => XS.iloadN X0.here hx rfl (hb hby at_0) rfl  (XS.iconst X0.here hx rfl (hb hby at_1) (XS.iand X0.here hx rfl (hb hby at_2) rfl k_))) ?_
  show own_Go _ _ _ _ s₁ (mkF mm_ 3 #[.val (.int p1), .val (.int p2), .val (.int p3), .val (.int p4), .unset, .unset, .unset, .unset, .unset, .unset] [(.int (p1 &&& (1 : Int32)))])
  by_cases hc3_1 : (p1 &&& (1 : Int32)) = (0 : Int32)
  · skip
    refine own_step (fun t_ k_ => XS.ifYes X0.here hx rfl (pc0 := 3) (pc' := 10) rfl (hb hby at_3) rfl ((if0 _ _).trans (teq hc3_1).1) (by decide) (by decide) k_) ?_
    show own_Go _ _ _ _ s₁ (mkF mm_ 10 #[.val (.int p1), .val (.int p2), .val (.int p3), .val (.int p4), .unset, .unset, .unset, .unset, .unset, .unset] [])
    refine own_step (fun t_ k_ => XS.iconst X0.here hx rfl (hb hby at_10) (XS.istore X0.here hx rfl (hb hby at_11) rfl (l' := #[.val (.int p1), .val (.int p2), .val (.int p3), .val (.int p4), .val (.int (0 : Int32)), .unset, .unset, .unset, .unset, .unset]) rfl (XS.iloadN X0.here hx rfl (hb hby at_13) rfl  (XS.iconst X0.here hx rfl (hb hby at_14) (XS.iushr X0.here hx rfl (hb hby at_15) rfl (XS.iconst X0.here hx rfl (hb hby at_16) (XS.iand X0.here hx rfl (hb hby at_17) rfl (XS.istore X0.here hx rfl (hb hby at_18) rfl (l' := #[.val (.int p1), .val (.int p2), .val (.int p3), .val (.int p4), .val (.int (0 : Int32)), .val (.int (((p1.toUInt32 >>> ((1 : Int32) &&& 31).toUInt32).toInt32) &&& (3 : Int32))), .unset, .unset, .unset, .unset]) rfl (XS.aconstNull X0.here hx rfl (hb hby at_20) (XS.astore X0.here hx rfl (hb hby at_21) rfl rfl (l' := #[.val (.int p1), .val (.int p2), .val (.int p3), .val (.int p4), .val (.int (0 : Int32)), .val (.int (((p1.toUInt32 >>> ((1 : Int32) &&& 31).toUInt32).toInt32) &&& (3 : Int32))), .val .null, .unset, .unset, .unset]) rfl (XS.iload X0.here hx rfl (hb hby at_23) rfl  k_))))))))))) ?_
    show own_Go _ _ _ _ s₁ (mkF mm_ 25 #[.val (.int p1), .val (.int p2), .val (.int p3), .val (.int p4), .val (.int (0 : Int32)), .val (.int (((p1.toUInt32 >>> ((1 : Int32) &&& 31).toUInt32).toInt32) &&& (3 : Int32))), .val .null, .unset, .unset, .unset] [(.int (0 : Int32))])
    refine own_step (fun t_ k_ => XS.ifNo X0.here hx rfl (hb hby at_25) rfl ((if0 _ _).trans (teq (by decide : (0 : Int32) = (0 : Int32))).2) k_) ?_
    show own_Go _ _ _ _ s₁ (mkF mm_ 28 #[.val (.int p1), .val (.int p2), .val (.int p3), .val (.int p4), .val (.int (0 : Int32)), .val (.int (((p1.toUInt32 >>> ((1 : Int32) &&& 31).toUInt32).toInt32) &&& (3 : Int32))), .val .null, .unset, .unset, .unset] [])
    refine own_step (fun t_ k_ => XS.iload X0.here hx rfl (hb hby at_28) rfl  (XS.iloadN X0.here hx rfl (hb hby at_30) rfl  (XS.iloadN X0.here hx rfl (hb hby at_31) rfl  (XS.iloadN X0.here hx rfl (hb hby at_32) rfl  k_)))) ?_
    show own_Go _ _ _ _ s₁ (mkF mm_ 33 #[.val (.int p1), .val (.int p2), .val (.int p3), .val (.int p4), .val (.int (0 : Int32)), .val (.int (((p1.toUInt32 >>> ((1 : Int32) &&& 31).toUInt32).toInt32) &&& (3 : Int32))), .val .null, .unset, .unset, .unset] [(.int p4), (.int p3), (.int p2), (.int (((p1.toUInt32 >>> ((1 : Int32) &&& 31).toUInt32).toInt32) &&& (3 : Int32)))])
    obtain ⟨_, _, ⟨T2, Lx2, kx2, nx2⟩, -, X2, hS2, hG2, ⟨Lc2, hQ2, l2, y2, z2⟩, st2⟩ := Jvm.RoadKit.callSS X0 hx (y := (⟨"com/example/schedule_to_run/scheduletorun/engine/AttemptResultCancelledPinLaw", "makeString", "(IIII)Ljava/lang/String;"⟩ : MethodName)) hown (mvT hZ (own_w hw 0 rfl)) (mvT hZ (own_w hw 1 rfl)) (mvT hZ (own_w hw 2 rfl)) (mvT hZ (own_w hw 3 rfl)) (by decide) (own_backI (J := fun q_ => IB Z q_ []) (J' := fun q_ => IB Z q_ [""]) (W := 0) (rmDs l Z a0 hw [] (((p1.toUInt32 >>> ((1 : Int32) &&& 31).toUInt32).toInt32) &&& (3 : Int32)) p2 p3 p4 h0 n0 O0 G_ ) hZ (own_w hw 3 rfl) (own_w hw 2 rfl) (by decide) (by decide)) (g := (mkF mm_ 33 #[.val (.int p1), .val (.int p2), .val (.int p3), .val (.int p4), .val (.int (0 : Int32)), .val (.int (((p1.toUInt32 >>> ((1 : Int32) &&& 31).toUInt32).toInt32) &&& (3 : Int32))), .val .null, .unset, .unset, .unset] [(.int p4), (.int p3), (.int p2), (.int (((p1.toUInt32 >>> ((1 : Int32) &&& 31).toUInt32).toInt32) &&& (3 : Int32)))])) rfl (by rw [hml]; rfl) (argsL := [(.int (((p1.toUInt32 >>> ((1 : Int32) &&& 31).toUInt32).toInt32) &&& (3 : Int32))), (.int p2), (.int p3), (.int p4)]) (rest := []) (lenOf pd_7 rfl) rfl (by show 2 * 0 + _ ≤ _; exact Nat.le_of_eq rfl) (hb hby at_33) (fun vm_ hvm_ => ⟨rfl, e0, (by decide : 0 + 4 ≤ _), (by decide : 0 + 10 ≤ _), own_IB_mono (own_IB_warm hI hvm_) (by intro t_ h_; first | exact h_ | exact List.mem_cons_of_mem _ h_ | (revert t_ h_; decide))⟩)
    dsimp only [Pt.U, Pt.locs, Pt.cells, Pt.slots] at X2 l2 y2 z2 st2 hQ2 hS2 hG2
    subst l2 y2 z2
    obtain ⟨X2, hS2, hZ2, hown2⟩ := rebS (n1 := h0.size) hS0 (Nat.zero_le _) X2 hS2 (by rw [← e0]; exact hG2) hZ hown
    obtain ⟨hQ2, hIq2⟩ := hQ2
    obtain ⟨r_2, t_2, cs_2, rfl, Nq2, Kc2, r2_0, r2_1⟩ := hQ2
    have N2 := Fr.app N0 Nq2
    have lo_r_2 : h0.size ≤ r_2 := Nat.le_trans K0.1 r2_0
    have g_r_2 : n0 ≤ r_2 := Nat.le_trans Z0 lo_r_2
    refine own_jump st2 ?_
    show own_Go _ _ _ _ T2 (mkF mm_ 36 #[.val (.int p1), .val (.int p2), .val (.int p3), .val (.int p4), .val (.int (0 : Int32)), .val (.int (((p1.toUInt32 >>> ((1 : Int32) &&& 31).toUInt32).toInt32) &&& (3 : Int32))), .val .null, .unset, .unset, .unset] [(.ref r_2)])
    refine own_step (fun t_ k_ => XS.astore X2.here hx rfl (hb hby at_36) rfl rfl (l' := #[.val (.int p1), .val (.int p2), .val (.int p3), .val (.int p4), .val (.int (0 : Int32)), .val (.int (((p1.toUInt32 >>> ((1 : Int32) &&& 31).toUInt32).toInt32) &&& (3 : Int32))), .val (.ref r_2), .unset, .unset, .unset]) rfl (XS.aload X2.here hx rfl (hb hby at_38) rfl rfl k_)) ?_
    show own_Go _ _ _ _ T2 (mkF mm_ 40 #[.val (.int p1), .val (.int p2), .val (.int p3), .val (.int p4), .val (.int (0 : Int32)), .val (.int (((p1.toUInt32 >>> ((1 : Int32) &&& 31).toUInt32).toInt32) &&& (3 : Int32))), .val (.ref r_2), .unset, .unset, .unset] [(.ref r_2)])
    have O4 : Old Z n0 T2.heap := (O0.keep Kc2 all0)
    obtain ⟨_, T3, Lc3, X3, hQ3, st3⟩ := own_cS X2 hx hZ2 hown2 (own_w hw 26 rfl) (own_w hw 27 rfl) (own_w hw 28 rfl) (own_w hw 29 rfl) (by decide) (backOf (W := 0) (rmF1 l Z a0 hw [] r_2 T2.heap n0 O4 G_ ) hZ2 (own_w hw 29 rfl) (own_w hw 28 rfl) (by decide) (by decide)) (g := (mkF mm_ 40 #[.val (.int p1), .val (.int p2), .val (.int p3), .val (.int p4), .val (.int (0 : Int32)), .val (.int (((p1.toUInt32 >>> ((1 : Int32) &&& 31).toUInt32).toInt32) &&& (3 : Int32))), .val (.ref r_2), .unset, .unset, .unset] [(.ref r_2)])) rfl (by rw [hml]; rfl) (argsL := [(.ref r_2)]) (rest := []) (lenOf pd_8 rfl) rfl (by show 2 * 0 + _ ≤ _; exact Nat.le_of_eq rfl) (hb hby at_40) rfl rfl (by decide) (by decide)
    obtain ⟨r_3, rfl, Nq3, Kc3, r3_0, r3_1, r3_2, r3_3, r3_4, r3_5⟩ := hQ3
    have N3 := Fr.app N2 Nq3
    have K5 : Keep h0 T2.heap [] := (K0.trans Kc2 all0)
    have lo_r_3 : h0.size ≤ r_3 := Nat.le_trans K5.1 r3_0
    have g_r_3 : n0 ≤ r_3 := Nat.le_trans Z0 lo_r_3
    refine own_jump st3 ?_
    show own_Go _ _ _ _ T3 (mkF mm_ 43 #[.val (.int p1), .val (.int p2), .val (.int p3), .val (.int p4), .val (.int (0 : Int32)), .val (.int (((p1.toUInt32 >>> ((1 : Int32) &&& 31).toUInt32).toInt32) &&& (3 : Int32))), .val (.ref r_2), .unset, .unset, .unset] [(.ref r_3)])
    refine own_step (fun t_ k_ => XS.astore X3.here hx rfl (hb hby at_43) rfl rfl (l' := #[.val (.int p1), .val (.int p2), .val (.int p3), .val (.int p4), .val (.int (0 : Int32)), .val (.int (((p1.toUInt32 >>> ((1 : Int32) &&& 31).toUInt32).toInt32) &&& (3 : Int32))), .val (.ref r_2), .val (.ref r_3), .unset, .unset]) rfl (XS.aload X3.here hx rfl (hb hby at_45) rfl rfl k_)) ?_
    show own_Go _ _ _ _ T3 (mkF mm_ 47 #[.val (.int p1), .val (.int p2), .val (.int p3), .val (.int p4), .val (.int (0 : Int32)), .val (.int (((p1.toUInt32 >>> ((1 : Int32) &&& 31).toUInt32).toInt32) &&& (3 : Int32))), .val (.ref r_2), .val (.ref r_3), .unset, .unset] [(.ref r_3)])
    refine own_step (fun t_ k_ => XS.ifnonnullYes X3.here hx rfl (pc0 := 47) (pc' := 52) rfl (hb hby at_47) rfl (by decide) (by decide) (XS.aload X3.here hx rfl (hb hby at_52) rfl rfl k_)) ?_
    show own_Go _ _ _ _ T3 (mkF mm_ 54 #[.val (.int p1), .val (.int p2), .val (.int p3), .val (.int p4), .val (.int (0 : Int32)), .val (.int (((p1.toUInt32 >>> ((1 : Int32) &&& 31).toUInt32).toInt32) &&& (3 : Int32))), .val (.ref r_2), .val (.ref r_3), .unset, .unset] [(.ref r_3)])
    have O7 : Old Z n0 T3.heap := (O4.keep Kc3 all0)
    obtain ⟨_, T6, Lc6, X6, hQ6, st6⟩ := own_cV X3 hx hZ2 hown2 (own_w hw 47 rfl) (own_w hw 48 rfl) (notFace_of_selects (args := #[]) (mvT hZ2 (own_w hw 50 rfl))) (own_w hw 50 rfl) (own_w hw 49 rfl) (by decide) (backOf (W := 0) (rmGE l Z a0 hw [] r_3 r_2 T3.heap n0 O7 r3_5) hZ2 (own_w hw 51 rfl) (own_w hw 28 rfl) (by decide) (by decide)) r3_1 (g := (mkF mm_ 54 #[.val (.int p1), .val (.int p2), .val (.int p3), .val (.int p4), .val (.int (0 : Int32)), .val (.int (((p1.toUInt32 >>> ((1 : Int32) &&& 31).toUInt32).toInt32) &&& (3 : Int32))), .val (.ref r_2), .val (.ref r_3), .unset, .unset] [(.ref r_3)])) rfl (by rw [hml]; rfl) (argsL := []) (rest := []) (lenOf pd_9 rfl) rfl (by show 2 * 0 + _ ≤ _; exact Nat.le_of_eq rfl) (hb hby at_54) rfl rfl (by decide) (by decide)
    obtain ⟨rfl, rfl, Eh6⟩ := hQ6
    have N6 := Fr.app N3 (Fr.nil n0)
    refine own_jump st6 ?_
    show own_Go _ _ _ _ T6 (mkF mm_ 57 #[.val (.int p1), .val (.int p2), .val (.int p3), .val (.int p4), .val (.int (0 : Int32)), .val (.int (((p1.toUInt32 >>> ((1 : Int32) &&& 31).toUInt32).toInt32) &&& (3 : Int32))), .val (.ref r_2), .val (.ref r_3), .unset, .unset] [(.ref r_2)])
    refine own_step (fun t_ k_ => XS.astore X6.here hx rfl (hb hby at_57) rfl rfl (l' := #[.val (.int p1), .val (.int p2), .val (.int p3), .val (.int p4), .val (.int (0 : Int32)), .val (.int (((p1.toUInt32 >>> ((1 : Int32) &&& 31).toUInt32).toInt32) &&& (3 : Int32))), .val (.ref r_2), .val (.ref r_3), .val (.ref r_2), .unset]) rfl (XS.aload X6.here hx rfl (hb hby at_59) rfl rfl k_)) ?_
    show own_Go _ _ _ _ T6 (mkF mm_ 61 #[.val (.int p1), .val (.int p2), .val (.int p3), .val (.int p4), .val (.int (0 : Int32)), .val (.int (((p1.toUInt32 >>> ((1 : Int32) &&& 31).toUInt32).toInt32) &&& (3 : Int32))), .val (.ref r_2), .val (.ref r_3), .val (.ref r_2), .unset] [(.ref r_2)])
    refine own_step (fun t_ k_ => XS.ifnonnullYes X6.here hx rfl (pc0 := 61) (pc' := 77) rfl (hb hby at_61) rfl (by decide) (by decide) (XS.aload X6.here hx rfl (hb hby at_77) rfl rfl (XS.aload X6.here hx rfl (hb hby at_79) rfl rfl k_))) ?_
    show own_Go _ _ _ _ T6 (mkF mm_ 81 #[.val (.int p1), .val (.int p2), .val (.int p3), .val (.int p4), .val (.int (0 : Int32)), .val (.int (((p1.toUInt32 >>> ((1 : Int32) &&& 31).toUInt32).toInt32) &&& (3 : Int32))), .val (.ref r_2), .val (.ref r_3), .val (.ref r_2), .unset] [(.ref r_2), (.ref r_2)])
    have f9 : own_Str Z T3.heap r_2 t_2 cs_2 := (r2_1.keep Kc3 nin0 nin0)
    obtain ⟨_, T8, Lc8, X8, hQ8, st8⟩ := own_cV X6 hx hZ2 hown2 (own_w hw 52 rfl) (own_w hw 53 rfl) (notFace_of_selects (args := #[]) (mvT hZ2 (own_w hw 55 rfl))) (own_w hw 55 rfl) (own_w hw 54 rfl) (by decide) (backOf (W := 0) (rmEqS l Z a0 hw [] r_2 r_2 T3.heap n0 O7 ) hZ2 (own_w hw 56 rfl) (own_w hw 6 rfl) (by decide) (by decide)) f9.1 (g := (mkF mm_ 81 #[.val (.int p1), .val (.int p2), .val (.int p3), .val (.int p4), .val (.int (0 : Int32)), .val (.int (((p1.toUInt32 >>> ((1 : Int32) &&& 31).toUInt32).toInt32) &&& (3 : Int32))), .val (.ref r_2), .val (.ref r_3), .val (.ref r_2), .unset] [(.ref r_2), (.ref r_2)])) rfl (by rw [hml]; rfl) (argsL := [(.ref r_2)]) (rest := []) (lenOf pd_10 rfl) rfl (by show 2 * 0 + _ ≤ _; exact Nat.le_of_eq rfl) (hb hby at_81) rfl Eh6 (by decide) (by decide)
    obtain ⟨rfl, rfl, Eh8⟩ := hQ8
    have N8 := Fr.app N6 (Fr.nil n0)
    refine own_jump st8 ?_
    show own_Go _ _ _ _ T8 (mkF mm_ 84 #[.val (.int p1), .val (.int p2), .val (.int p3), .val (.int p4), .val (.int (0 : Int32)), .val (.int (((p1.toUInt32 >>> ((1 : Int32) &&& 31).toUInt32).toInt32) &&& (3 : Int32))), .val (.ref r_2), .val (.ref r_3), .val (.ref r_2), .unset] [(.int (1 : Int32))])
    refine own_step (fun t_ k_ => XS.istore X8.here hx rfl (hb hby at_84) rfl (l' := #[.val (.int p1), .val (.int p2), .val (.int p3), .val (.int p4), .val (.int (0 : Int32)), .val (.int (((p1.toUInt32 >>> ((1 : Int32) &&& 31).toUInt32).toInt32) &&& (3 : Int32))), .val (.ref r_2), .val (.ref r_3), .val (.ref r_2), .val (.int (1 : Int32))]) rfl (XS.aload X8.here hx rfl (hb hby at_86) rfl rfl k_)) ?_
    show own_Go _ _ _ _ T8 (mkF mm_ 88 #[.val (.int p1), .val (.int p2), .val (.int p3), .val (.int p4), .val (.int (0 : Int32)), .val (.int (((p1.toUInt32 >>> ((1 : Int32) &&& 31).toUInt32).toInt32) &&& (3 : Int32))), .val (.ref r_2), .val (.ref r_3), .val (.ref r_2), .val (.int (1 : Int32))] [(.ref r_3)])
    obtain ⟨_, T10, Lc10, X10, hQ10, st10⟩ := own_cV X8 hx hZ2 hown2 (own_w hw 57 rfl) (own_w hw 58 rfl) (notFace_of_selects (args := #[]) (mvT hZ2 (own_w hw 60 rfl))) (own_w hw 60 rfl) (own_w hw 59 rfl) (by decide) (backOf (W := 0) (rmGO l Z a0 hw [] r_3 wO T3.heap n0 O7 r3_2) hZ2 (own_w hw 61 rfl) (own_w hw 28 rfl) (by decide) (by decide)) r3_1 (g := (mkF mm_ 88 #[.val (.int p1), .val (.int p2), .val (.int p3), .val (.int p4), .val (.int (0 : Int32)), .val (.int (((p1.toUInt32 >>> ((1 : Int32) &&& 31).toUInt32).toInt32) &&& (3 : Int32))), .val (.ref r_2), .val (.ref r_3), .val (.ref r_2), .val (.int (1 : Int32))] [(.ref r_3)])) rfl (by rw [hml]; rfl) (argsL := []) (rest := []) (lenOf pd_11 rfl) rfl (by show 2 * 0 + _ ≤ _; exact Nat.le_of_eq rfl) (hb hby at_88) rfl Eh8 (by decide) (by decide)
    obtain ⟨rfl, rfl, Eh10⟩ := hQ10
    have N10 := Fr.app N8 (Fr.nil n0)
    refine own_jump st10 ?_
    show own_Go _ _ _ _ T10 (mkF mm_ 91 #[.val (.int p1), .val (.int p2), .val (.int p3), .val (.int p4), .val (.int (0 : Int32)), .val (.int (((p1.toUInt32 >>> ((1 : Int32) &&& 31).toUInt32).toInt32) &&& (3 : Int32))), .val (.ref r_2), .val (.ref r_3), .val (.ref r_2), .val (.int (1 : Int32))] [(.ref wO)])
    obtain ⟨T11, X11, e11, st11⟩ := getS2 X10 hx hZ2 hown2 (host := "") (Or.inl (own_w hw 62 rfl)) Via.refl Eh10 (G_S1.ext O7.2) (g := (mkF mm_ 91 #[.val (.int p1), .val (.int p2), .val (.int p3), .val (.int p4), .val (.int (0 : Int32)), .val (.int (((p1.toUInt32 >>> ((1 : Int32) &&& 31).toUInt32).toInt32) &&& (3 : Int32))), .val (.ref r_2), .val (.ref r_3), .val (.ref r_2), .val (.int (1 : Int32))] [(.ref wO)])) rfl (hb hby at_91)
    refine own_step st11 ?_
    show own_Go _ _ _ _ T11 (mkF mm_ 94 #[.val (.int p1), .val (.int p2), .val (.int p3), .val (.int p4), .val (.int (0 : Int32)), .val (.int (((p1.toUInt32 >>> ((1 : Int32) &&& 31).toUInt32).toInt32) &&& (3 : Int32))), .val (.ref r_2), .val (.ref r_3), .val (.ref r_2), .val (.int (1 : Int32))] [(.ref wO), (.ref wO)])
    refine own_step (fun t_ k_ => Jvm.RoadKit.acmp (g := (mkF mm_ 94 #[.val (.int p1), .val (.int p2), .val (.int p3), .val (.int p4), .val (.int (0 : Int32)), .val (.int (((p1.toUInt32 >>> ((1 : Int32) &&& 31).toUInt32).toInt32) &&& (3 : Int32))), .val (.ref r_2), .val (.ref r_3), .val (.ref r_2), .val (.int (1 : Int32))] [(.ref wO), (.ref wO)])) X11 hx rfl rfl rfl (pc0 := 94) (pc' := 97) (same := true) rfl (hb hby at_94) rfl (decide_eq_true rfl) (by decide) (by decide) (XS.aload X11.here hx rfl (hb hby at_97) rfl rfl k_)) ?_
    show own_Go _ _ _ _ T11 (mkF mm_ 99 #[.val (.int p1), .val (.int p2), .val (.int p3), .val (.int p4), .val (.int (0 : Int32)), .val (.int (((p1.toUInt32 >>> ((1 : Int32) &&& 31).toUInt32).toInt32) &&& (3 : Int32))), .val (.ref r_2), .val (.ref r_3), .val (.ref r_2), .val (.int (1 : Int32))] [(.ref r_3)])
    obtain ⟨_, T12, Lc12, X12, hQ12, st12⟩ := own_cV X11 hx hZ2 hown2 (own_w hw 63 rfl) (own_w hw 64 rfl) (notFace_of_selects (args := #[]) (mvT hZ2 (own_w hw 66 rfl))) (own_w hw 66 rfl) (own_w hw 65 rfl) (by decide) (backOf (W := 0) (rmGXn l Z a0 hw [] r_3 T3.heap n0 O7 r3_3) hZ2 (own_w hw 67 rfl) (own_w hw 28 rfl) (by decide) (by decide)) r3_1 (g := (mkF mm_ 99 #[.val (.int p1), .val (.int p2), .val (.int p3), .val (.int p4), .val (.int (0 : Int32)), .val (.int (((p1.toUInt32 >>> ((1 : Int32) &&& 31).toUInt32).toInt32) &&& (3 : Int32))), .val (.ref r_2), .val (.ref r_3), .val (.ref r_2), .val (.int (1 : Int32))] [(.ref r_3)])) rfl (by rw [hml]; rfl) (argsL := []) (rest := []) (lenOf pd_12 rfl) rfl (by show 2 * 0 + _ ≤ _; exact Nat.le_of_eq rfl) (hb hby at_99) rfl e11 (by decide) (by decide)
    obtain ⟨rfl, rfl, Eh12⟩ := hQ12
    have N12 := Fr.app N10 (Fr.nil n0)
    refine own_jump st12 ?_
    show own_Go _ _ _ _ T12 (mkF mm_ 102 #[.val (.int p1), .val (.int p2), .val (.int p3), .val (.int p4), .val (.int (0 : Int32)), .val (.int (((p1.toUInt32 >>> ((1 : Int32) &&& 31).toUInt32).toInt32) &&& (3 : Int32))), .val (.ref r_2), .val (.ref r_3), .val (.ref r_2), .val (.int (1 : Int32))] [.null])
    refine own_step (fun t_ k_ => XS.ifnonnullNo X12.here hx rfl (hb hby at_102) rfl (XS.aload X12.here hx rfl (hb hby at_105) rfl rfl k_)) ?_
    show own_Go _ _ _ _ T12 (mkF mm_ 107 #[.val (.int p1), .val (.int p2), .val (.int p3), .val (.int p4), .val (.int (0 : Int32)), .val (.int (((p1.toUInt32 >>> ((1 : Int32) &&& 31).toUInt32).toInt32) &&& (3 : Int32))), .val (.ref r_2), .val (.ref r_3), .val (.ref r_2), .val (.int (1 : Int32))] [(.ref r_3)])
    obtain ⟨_, T13, Lc13, X13, hQ13, st13⟩ := own_cV X12 hx hZ2 hown2 (own_w hw 68 rfl) (own_w hw 69 rfl) (notFace_of_selects (args := #[]) (mvT hZ2 (own_w hw 71 rfl))) (own_w hw 71 rfl) (own_w hw 70 rfl) (by decide) (backOf (W := 0) (rmGHn l Z a0 hw [] r_3 T3.heap n0 O7 r3_4) hZ2 (own_w hw 72 rfl) (own_w hw 28 rfl) (by decide) (by decide)) r3_1 (g := (mkF mm_ 107 #[.val (.int p1), .val (.int p2), .val (.int p3), .val (.int p4), .val (.int (0 : Int32)), .val (.int (((p1.toUInt32 >>> ((1 : Int32) &&& 31).toUInt32).toInt32) &&& (3 : Int32))), .val (.ref r_2), .val (.ref r_3), .val (.ref r_2), .val (.int (1 : Int32))] [(.ref r_3)])) rfl (by rw [hml]; rfl) (argsL := []) (rest := []) (lenOf pd_12 rfl) rfl (by show 2 * 0 + _ ≤ _; exact Nat.le_of_eq rfl) (hb hby at_107) rfl Eh12 (by decide) (by decide)
    obtain ⟨rfl, rfl, Eh13⟩ := hQ13
    have N13 := Fr.app N12 (Fr.nil n0)
    refine own_jump st13 ?_
    show own_Go _ _ _ _ T13 (mkF mm_ 110 #[.val (.int p1), .val (.int p2), .val (.int p3), .val (.int p4), .val (.int (0 : Int32)), .val (.int (((p1.toUInt32 >>> ((1 : Int32) &&& 31).toUInt32).toInt32) &&& (3 : Int32))), .val (.ref r_2), .val (.ref r_3), .val (.ref r_2), .val (.int (1 : Int32))] [.null])
    refine own_step (fun t_ k_ => XS.ifnonnullNo X13.here hx rfl (hb hby at_110) rfl (XS.iload X13.here hx rfl (hb hby at_113) rfl  k_)) ?_
    show own_Go _ _ _ _ T13 (mkF mm_ 115 #[.val (.int p1), .val (.int p2), .val (.int p3), .val (.int p4), .val (.int (0 : Int32)), .val (.int (((p1.toUInt32 >>> ((1 : Int32) &&& 31).toUInt32).toInt32) &&& (3 : Int32))), .val (.ref r_2), .val (.ref r_3), .val (.ref r_2), .val (.int (1 : Int32))] [(.int (1 : Int32))])
    refine own_step (fun t_ k_ => XS.ifNo X13.here hx rfl (hb hby at_115) rfl ((if0 _ _).trans (feq (by decide : ¬ ((1 : Int32) = (0 : Int32)))).1) k_) ?_
    show own_Go _ _ _ _ T13 (mkF mm_ 118 #[.val (.int p1), .val (.int p2), .val (.int p3), .val (.int p4), .val (.int (0 : Int32)), .val (.int (((p1.toUInt32 >>> ((1 : Int32) &&& 31).toUInt32).toInt32) &&& (3 : Int32))), .val (.ref r_2), .val (.ref r_3), .val (.ref r_2), .val (.int (1 : Int32))] [])
    refine own_step (fun t_ k_ => XS.iconst X13.here hx rfl (hb hby at_118) (XS.goto X13.here hx rfl (pc0 := 119) (pc' := 123) rfl (hb hby at_119) (by decide) (by decide) k_)) ?_
    show own_Go _ _ _ _ T13 (mkF mm_ 123 #[.val (.int p1), .val (.int p2), .val (.int p3), .val (.int p4), .val (.int (0 : Int32)), .val (.int (((p1.toUInt32 >>> ((1 : Int32) &&& 31).toUInt32).toInt32) &&& (3 : Int32))), .val (.ref r_2), .val (.ref r_3), .val (.ref r_2), .val (.int (1 : Int32))] [(.int (1 : Int32))])
    have K14 : Keep h0 T3.heap [] := (K5.trans Kc3 all0)
    obtain ⟨fs, hr, hrun, hended, hEnd⟩ := X13.leaveW hS2 (by rw [Eh13]; exact (Nat.le_trans (Nat.le_refl _) Kc3.1)) (v := some (.int (1 : Int32))) (fun h => by rw [Bd.returns] at h; cases h)
    refine ⟨_, _, ?_, hrun, hended, _, _, rfl, ?_, own_IB_mono (own_IB_warm hIq2 X13.warmed) (by intro t_ h_; first | exact h_ | exact List.mem_cons_of_mem _ h_ | (revert t_ h_; decide)), own_endMono hEnd (by decide) (by decide)⟩
    · exact retN X13 hx (t := .boolean) Bd.returns (by simp) (hb hby at_123) hr
    · show Qrm0 Z p1 p2 p3 p4 h0 n0 (some (.int (1 : Int32))) T13.heap _
      rw [Eh13]
      exact ⟨rfl, N13, K14⟩
  · skip
    refine own_step (fun t_ k_ => XS.ifNo X0.here hx rfl (hb hby at_3) rfl ((if0 _ _).trans (feq hc3_1).1) k_) ?_
    show own_Go _ _ _ _ s₁ (mkF mm_ 6 #[.val (.int p1), .val (.int p2), .val (.int p3), .val (.int p4), .unset, .unset, .unset, .unset, .unset, .unset] [])
    refine own_step (fun t_ k_ => XS.iconst X0.here hx rfl (hb hby at_6) (XS.goto X0.here hx rfl (pc0 := 7) (pc' := 11) rfl (hb hby at_7) (by decide) (by decide) (XS.istore X0.here hx rfl (hb hby at_11) rfl (l' := #[.val (.int p1), .val (.int p2), .val (.int p3), .val (.int p4), .val (.int (1 : Int32)), .unset, .unset, .unset, .unset, .unset]) rfl (XS.iloadN X0.here hx rfl (hb hby at_13) rfl  (XS.iconst X0.here hx rfl (hb hby at_14) (XS.iushr X0.here hx rfl (hb hby at_15) rfl (XS.iconst X0.here hx rfl (hb hby at_16) (XS.iand X0.here hx rfl (hb hby at_17) rfl (XS.istore X0.here hx rfl (hb hby at_18) rfl (l' := #[.val (.int p1), .val (.int p2), .val (.int p3), .val (.int p4), .val (.int (1 : Int32)), .val (.int (((p1.toUInt32 >>> ((1 : Int32) &&& 31).toUInt32).toInt32) &&& (3 : Int32))), .unset, .unset, .unset, .unset]) rfl (XS.aconstNull X0.here hx rfl (hb hby at_20) (XS.astore X0.here hx rfl (hb hby at_21) rfl rfl (l' := #[.val (.int p1), .val (.int p2), .val (.int p3), .val (.int p4), .val (.int (1 : Int32)), .val (.int (((p1.toUInt32 >>> ((1 : Int32) &&& 31).toUInt32).toInt32) &&& (3 : Int32))), .val .null, .unset, .unset, .unset]) rfl (XS.iload X0.here hx rfl (hb hby at_23) rfl  k_)))))))))))) ?_
    show own_Go _ _ _ _ s₁ (mkF mm_ 25 #[.val (.int p1), .val (.int p2), .val (.int p3), .val (.int p4), .val (.int (1 : Int32)), .val (.int (((p1.toUInt32 >>> ((1 : Int32) &&& 31).toUInt32).toInt32) &&& (3 : Int32))), .val .null, .unset, .unset, .unset] [(.int (1 : Int32))])
    refine own_step (fun t_ k_ => XS.ifYes X0.here hx rfl (pc0 := 25) (pc' := 38) rfl (hb hby at_25) rfl ((if0 _ _).trans (feq (by decide : ¬ ((1 : Int32) = (0 : Int32)))).2) (by decide) (by decide) k_) ?_
    show own_Go _ _ _ _ s₁ (mkF mm_ 38 #[.val (.int p1), .val (.int p2), .val (.int p3), .val (.int p4), .val (.int (1 : Int32)), .val (.int (((p1.toUInt32 >>> ((1 : Int32) &&& 31).toUInt32).toInt32) &&& (3 : Int32))), .val .null, .unset, .unset, .unset] [])
    refine own_step (fun t_ k_ => XS.aload X0.here hx rfl (hb hby at_38) rfl rfl k_) ?_
    show own_Go _ _ _ _ s₁ (mkF mm_ 40 #[.val (.int p1), .val (.int p2), .val (.int p3), .val (.int p4), .val (.int (1 : Int32)), .val (.int (((p1.toUInt32 >>> ((1 : Int32) &&& 31).toUInt32).toInt32) &&& (3 : Int32))), .val .null, .unset, .unset, .unset] [.null])
    obtain ⟨_, T15, Lc15, X15, hQ15, st15⟩ := own_cS X0 hx hZ hown (own_w hw 26 rfl) (own_w hw 27 rfl) (own_w hw 28 rfl) (own_w hw 29 rfl) (by decide) (backOf (W := 0) (rmF0 l Z a0 hw []  h0 n0 O0 G_ ) hZ (own_w hw 29 rfl) (own_w hw 28 rfl) (by decide) (by decide)) (g := (mkF mm_ 40 #[.val (.int p1), .val (.int p2), .val (.int p3), .val (.int p4), .val (.int (1 : Int32)), .val (.int (((p1.toUInt32 >>> ((1 : Int32) &&& 31).toUInt32).toInt32) &&& (3 : Int32))), .val .null, .unset, .unset, .unset] [.null])) rfl (by rw [hml]; rfl) (argsL := [.null]) (rest := []) (lenOf pd_8 rfl) rfl (by show 2 * 0 + _ ≤ _; exact Nat.le_of_eq rfl) (hb hby at_40) rfl e0 (by decide) (by decide)
    obtain ⟨r_15, rfl, Nq15, Kc15, r15_0, r15_1, r15_2, r15_3, r15_4, r15_5⟩ := hQ15
    have N15 := Fr.app N0 Nq15
    have lo_r_15 : h0.size ≤ r_15 := Nat.le_trans K0.1 r15_0
    have g_r_15 : n0 ≤ r_15 := Nat.le_trans Z0 lo_r_15
    refine own_jump st15 ?_
    show own_Go _ _ _ _ T15 (mkF mm_ 43 #[.val (.int p1), .val (.int p2), .val (.int p3), .val (.int p4), .val (.int (1 : Int32)), .val (.int (((p1.toUInt32 >>> ((1 : Int32) &&& 31).toUInt32).toInt32) &&& (3 : Int32))), .val .null, .unset, .unset, .unset] [(.ref r_15)])
    refine own_step (fun t_ k_ => XS.astore X15.here hx rfl (hb hby at_43) rfl rfl (l' := #[.val (.int p1), .val (.int p2), .val (.int p3), .val (.int p4), .val (.int (1 : Int32)), .val (.int (((p1.toUInt32 >>> ((1 : Int32) &&& 31).toUInt32).toInt32) &&& (3 : Int32))), .val .null, .val (.ref r_15), .unset, .unset]) rfl (XS.aload X15.here hx rfl (hb hby at_45) rfl rfl k_)) ?_
    show own_Go _ _ _ _ T15 (mkF mm_ 47 #[.val (.int p1), .val (.int p2), .val (.int p3), .val (.int p4), .val (.int (1 : Int32)), .val (.int (((p1.toUInt32 >>> ((1 : Int32) &&& 31).toUInt32).toInt32) &&& (3 : Int32))), .val .null, .val (.ref r_15), .unset, .unset] [(.ref r_15)])
    refine own_step (fun t_ k_ => XS.ifnonnullYes X15.here hx rfl (pc0 := 47) (pc' := 52) rfl (hb hby at_47) rfl (by decide) (by decide) (XS.aload X15.here hx rfl (hb hby at_52) rfl rfl k_)) ?_
    show own_Go _ _ _ _ T15 (mkF mm_ 54 #[.val (.int p1), .val (.int p2), .val (.int p3), .val (.int p4), .val (.int (1 : Int32)), .val (.int (((p1.toUInt32 >>> ((1 : Int32) &&& 31).toUInt32).toInt32) &&& (3 : Int32))), .val .null, .val (.ref r_15), .unset, .unset] [(.ref r_15)])
    have O17 : Old Z n0 T15.heap := (O0.keep Kc15 all0)
    obtain ⟨_, T16, Lc16, X16, hQ16, st16⟩ := own_cV X15 hx hZ hown (own_w hw 47 rfl) (own_w hw 48 rfl) (notFace_of_selects (args := #[]) (mvT hZ (own_w hw 50 rfl))) (own_w hw 50 rfl) (own_w hw 49 rfl) (by decide) (backOf (W := 0) (rmGEn l Z a0 hw [] r_15 T15.heap n0 O17 r15_5) hZ (own_w hw 51 rfl) (own_w hw 28 rfl) (by decide) (by decide)) r15_1 (g := (mkF mm_ 54 #[.val (.int p1), .val (.int p2), .val (.int p3), .val (.int p4), .val (.int (1 : Int32)), .val (.int (((p1.toUInt32 >>> ((1 : Int32) &&& 31).toUInt32).toInt32) &&& (3 : Int32))), .val .null, .val (.ref r_15), .unset, .unset] [(.ref r_15)])) rfl (by rw [hml]; rfl) (argsL := []) (rest := []) (lenOf pd_9 rfl) rfl (by show 2 * 0 + _ ≤ _; exact Nat.le_of_eq rfl) (hb hby at_54) rfl rfl (by decide) (by decide)
    obtain ⟨rfl, rfl, Eh16⟩ := hQ16
    have N16 := Fr.app N15 (Fr.nil n0)
    refine own_jump st16 ?_
    show own_Go _ _ _ _ T16 (mkF mm_ 57 #[.val (.int p1), .val (.int p2), .val (.int p3), .val (.int p4), .val (.int (1 : Int32)), .val (.int (((p1.toUInt32 >>> ((1 : Int32) &&& 31).toUInt32).toInt32) &&& (3 : Int32))), .val .null, .val (.ref r_15), .unset, .unset] [.null])
    refine own_step (fun t_ k_ => XS.astore X16.here hx rfl (hb hby at_57) rfl rfl (l' := #[.val (.int p1), .val (.int p2), .val (.int p3), .val (.int p4), .val (.int (1 : Int32)), .val (.int (((p1.toUInt32 >>> ((1 : Int32) &&& 31).toUInt32).toInt32) &&& (3 : Int32))), .val .null, .val (.ref r_15), .val .null, .unset]) rfl (XS.aload X16.here hx rfl (hb hby at_59) rfl rfl k_)) ?_
    show own_Go _ _ _ _ T16 (mkF mm_ 61 #[.val (.int p1), .val (.int p2), .val (.int p3), .val (.int p4), .val (.int (1 : Int32)), .val (.int (((p1.toUInt32 >>> ((1 : Int32) &&& 31).toUInt32).toInt32) &&& (3 : Int32))), .val .null, .val (.ref r_15), .val .null, .unset] [.null])
    refine own_step (fun t_ k_ => XS.ifnonnullNo X16.here hx rfl (hb hby at_61) rfl (XS.aload X16.here hx rfl (hb hby at_64) rfl rfl k_)) ?_
    show own_Go _ _ _ _ T16 (mkF mm_ 66 #[.val (.int p1), .val (.int p2), .val (.int p3), .val (.int p4), .val (.int (1 : Int32)), .val (.int (((p1.toUInt32 >>> ((1 : Int32) &&& 31).toUInt32).toInt32) &&& (3 : Int32))), .val .null, .val (.ref r_15), .val .null, .unset] [.null])
    refine own_step (fun t_ k_ => XS.ifnonnullNo X16.here hx rfl (hb hby at_66) rfl (XS.iconst X16.here hx rfl (hb hby at_69) (XS.goto X16.here hx rfl (pc0 := 70) (pc' := 84) rfl (hb hby at_70) (by decide) (by decide) (XS.istore X16.here hx rfl (hb hby at_84) rfl (l' := #[.val (.int p1), .val (.int p2), .val (.int p3), .val (.int p4), .val (.int (1 : Int32)), .val (.int (((p1.toUInt32 >>> ((1 : Int32) &&& 31).toUInt32).toInt32) &&& (3 : Int32))), .val .null, .val (.ref r_15), .val .null, .val (.int (1 : Int32))]) rfl (XS.aload X16.here hx rfl (hb hby at_86) rfl rfl k_))))) ?_
    show own_Go _ _ _ _ T16 (mkF mm_ 88 #[.val (.int p1), .val (.int p2), .val (.int p3), .val (.int p4), .val (.int (1 : Int32)), .val (.int (((p1.toUInt32 >>> ((1 : Int32) &&& 31).toUInt32).toInt32) &&& (3 : Int32))), .val .null, .val (.ref r_15), .val .null, .val (.int (1 : Int32))] [(.ref r_15)])
    obtain ⟨_, T18, Lc18, X18, hQ18, st18⟩ := own_cV X16 hx hZ hown (own_w hw 57 rfl) (own_w hw 58 rfl) (notFace_of_selects (args := #[]) (mvT hZ (own_w hw 60 rfl))) (own_w hw 60 rfl) (own_w hw 59 rfl) (by decide) (backOf (W := 0) (rmGO l Z a0 hw [] r_15 wO T15.heap n0 O17 r15_2) hZ (own_w hw 61 rfl) (own_w hw 28 rfl) (by decide) (by decide)) r15_1 (g := (mkF mm_ 88 #[.val (.int p1), .val (.int p2), .val (.int p3), .val (.int p4), .val (.int (1 : Int32)), .val (.int (((p1.toUInt32 >>> ((1 : Int32) &&& 31).toUInt32).toInt32) &&& (3 : Int32))), .val .null, .val (.ref r_15), .val .null, .val (.int (1 : Int32))] [(.ref r_15)])) rfl (by rw [hml]; rfl) (argsL := []) (rest := []) (lenOf pd_11 rfl) rfl (by show 2 * 0 + _ ≤ _; exact Nat.le_of_eq rfl) (hb hby at_88) rfl Eh16 (by decide) (by decide)
    obtain ⟨rfl, rfl, Eh18⟩ := hQ18
    have N18 := Fr.app N16 (Fr.nil n0)
    refine own_jump st18 ?_
    show own_Go _ _ _ _ T18 (mkF mm_ 91 #[.val (.int p1), .val (.int p2), .val (.int p3), .val (.int p4), .val (.int (1 : Int32)), .val (.int (((p1.toUInt32 >>> ((1 : Int32) &&& 31).toUInt32).toInt32) &&& (3 : Int32))), .val .null, .val (.ref r_15), .val .null, .val (.int (1 : Int32))] [(.ref wO)])
    obtain ⟨T19, X19, e19, st19⟩ := getS2 X18 hx hZ hown (host := "") (Or.inl (own_w hw 62 rfl)) Via.refl Eh18 (G_S1.ext O17.2) (g := (mkF mm_ 91 #[.val (.int p1), .val (.int p2), .val (.int p3), .val (.int p4), .val (.int (1 : Int32)), .val (.int (((p1.toUInt32 >>> ((1 : Int32) &&& 31).toUInt32).toInt32) &&& (3 : Int32))), .val .null, .val (.ref r_15), .val .null, .val (.int (1 : Int32))] [(.ref wO)])) rfl (hb hby at_91)
    refine own_step st19 ?_
    show own_Go _ _ _ _ T19 (mkF mm_ 94 #[.val (.int p1), .val (.int p2), .val (.int p3), .val (.int p4), .val (.int (1 : Int32)), .val (.int (((p1.toUInt32 >>> ((1 : Int32) &&& 31).toUInt32).toInt32) &&& (3 : Int32))), .val .null, .val (.ref r_15), .val .null, .val (.int (1 : Int32))] [(.ref wO), (.ref wO)])
    refine own_step (fun t_ k_ => Jvm.RoadKit.acmp (g := (mkF mm_ 94 #[.val (.int p1), .val (.int p2), .val (.int p3), .val (.int p4), .val (.int (1 : Int32)), .val (.int (((p1.toUInt32 >>> ((1 : Int32) &&& 31).toUInt32).toInt32) &&& (3 : Int32))), .val .null, .val (.ref r_15), .val .null, .val (.int (1 : Int32))] [(.ref wO), (.ref wO)])) X19 hx rfl rfl rfl (pc0 := 94) (pc' := 97) (same := true) rfl (hb hby at_94) rfl (decide_eq_true rfl) (by decide) (by decide) (XS.aload X19.here hx rfl (hb hby at_97) rfl rfl k_)) ?_
    show own_Go _ _ _ _ T19 (mkF mm_ 99 #[.val (.int p1), .val (.int p2), .val (.int p3), .val (.int p4), .val (.int (1 : Int32)), .val (.int (((p1.toUInt32 >>> ((1 : Int32) &&& 31).toUInt32).toInt32) &&& (3 : Int32))), .val .null, .val (.ref r_15), .val .null, .val (.int (1 : Int32))] [(.ref r_15)])
    obtain ⟨_, T20, Lc20, X20, hQ20, st20⟩ := own_cV X19 hx hZ hown (own_w hw 63 rfl) (own_w hw 64 rfl) (notFace_of_selects (args := #[]) (mvT hZ (own_w hw 66 rfl))) (own_w hw 66 rfl) (own_w hw 65 rfl) (by decide) (backOf (W := 0) (rmGXn l Z a0 hw [] r_15 T15.heap n0 O17 r15_3) hZ (own_w hw 67 rfl) (own_w hw 28 rfl) (by decide) (by decide)) r15_1 (g := (mkF mm_ 99 #[.val (.int p1), .val (.int p2), .val (.int p3), .val (.int p4), .val (.int (1 : Int32)), .val (.int (((p1.toUInt32 >>> ((1 : Int32) &&& 31).toUInt32).toInt32) &&& (3 : Int32))), .val .null, .val (.ref r_15), .val .null, .val (.int (1 : Int32))] [(.ref r_15)])) rfl (by rw [hml]; rfl) (argsL := []) (rest := []) (lenOf pd_12 rfl) rfl (by show 2 * 0 + _ ≤ _; exact Nat.le_of_eq rfl) (hb hby at_99) rfl e19 (by decide) (by decide)
    obtain ⟨rfl, rfl, Eh20⟩ := hQ20
    have N20 := Fr.app N18 (Fr.nil n0)
    refine own_jump st20 ?_
    show own_Go _ _ _ _ T20 (mkF mm_ 102 #[.val (.int p1), .val (.int p2), .val (.int p3), .val (.int p4), .val (.int (1 : Int32)), .val (.int (((p1.toUInt32 >>> ((1 : Int32) &&& 31).toUInt32).toInt32) &&& (3 : Int32))), .val .null, .val (.ref r_15), .val .null, .val (.int (1 : Int32))] [.null])
    refine own_step (fun t_ k_ => XS.ifnonnullNo X20.here hx rfl (hb hby at_102) rfl (XS.aload X20.here hx rfl (hb hby at_105) rfl rfl k_)) ?_
    show own_Go _ _ _ _ T20 (mkF mm_ 107 #[.val (.int p1), .val (.int p2), .val (.int p3), .val (.int p4), .val (.int (1 : Int32)), .val (.int (((p1.toUInt32 >>> ((1 : Int32) &&& 31).toUInt32).toInt32) &&& (3 : Int32))), .val .null, .val (.ref r_15), .val .null, .val (.int (1 : Int32))] [(.ref r_15)])
    obtain ⟨_, T21, Lc21, X21, hQ21, st21⟩ := own_cV X20 hx hZ hown (own_w hw 68 rfl) (own_w hw 69 rfl) (notFace_of_selects (args := #[]) (mvT hZ (own_w hw 71 rfl))) (own_w hw 71 rfl) (own_w hw 70 rfl) (by decide) (backOf (W := 0) (rmGHn l Z a0 hw [] r_15 T15.heap n0 O17 r15_4) hZ (own_w hw 72 rfl) (own_w hw 28 rfl) (by decide) (by decide)) r15_1 (g := (mkF mm_ 107 #[.val (.int p1), .val (.int p2), .val (.int p3), .val (.int p4), .val (.int (1 : Int32)), .val (.int (((p1.toUInt32 >>> ((1 : Int32) &&& 31).toUInt32).toInt32) &&& (3 : Int32))), .val .null, .val (.ref r_15), .val .null, .val (.int (1 : Int32))] [(.ref r_15)])) rfl (by rw [hml]; rfl) (argsL := []) (rest := []) (lenOf pd_12 rfl) rfl (by show 2 * 0 + _ ≤ _; exact Nat.le_of_eq rfl) (hb hby at_107) rfl Eh20 (by decide) (by decide)
    obtain ⟨rfl, rfl, Eh21⟩ := hQ21
    have N21 := Fr.app N20 (Fr.nil n0)
    refine own_jump st21 ?_
    show own_Go _ _ _ _ T21 (mkF mm_ 110 #[.val (.int p1), .val (.int p2), .val (.int p3), .val (.int p4), .val (.int (1 : Int32)), .val (.int (((p1.toUInt32 >>> ((1 : Int32) &&& 31).toUInt32).toInt32) &&& (3 : Int32))), .val .null, .val (.ref r_15), .val .null, .val (.int (1 : Int32))] [.null])
    refine own_step (fun t_ k_ => XS.ifnonnullNo X21.here hx rfl (hb hby at_110) rfl (XS.iload X21.here hx rfl (hb hby at_113) rfl  k_)) ?_
    show own_Go _ _ _ _ T21 (mkF mm_ 115 #[.val (.int p1), .val (.int p2), .val (.int p3), .val (.int p4), .val (.int (1 : Int32)), .val (.int (((p1.toUInt32 >>> ((1 : Int32) &&& 31).toUInt32).toInt32) &&& (3 : Int32))), .val .null, .val (.ref r_15), .val .null, .val (.int (1 : Int32))] [(.int (1 : Int32))])
    refine own_step (fun t_ k_ => XS.ifNo X21.here hx rfl (hb hby at_115) rfl ((if0 _ _).trans (feq (by decide : ¬ ((1 : Int32) = (0 : Int32)))).1) k_) ?_
    show own_Go _ _ _ _ T21 (mkF mm_ 118 #[.val (.int p1), .val (.int p2), .val (.int p3), .val (.int p4), .val (.int (1 : Int32)), .val (.int (((p1.toUInt32 >>> ((1 : Int32) &&& 31).toUInt32).toInt32) &&& (3 : Int32))), .val .null, .val (.ref r_15), .val .null, .val (.int (1 : Int32))] [])
    refine own_step (fun t_ k_ => XS.iconst X21.here hx rfl (hb hby at_118) (XS.goto X21.here hx rfl (pc0 := 119) (pc' := 123) rfl (hb hby at_119) (by decide) (by decide) k_)) ?_
    show own_Go _ _ _ _ T21 (mkF mm_ 123 #[.val (.int p1), .val (.int p2), .val (.int p3), .val (.int p4), .val (.int (1 : Int32)), .val (.int (((p1.toUInt32 >>> ((1 : Int32) &&& 31).toUInt32).toInt32) &&& (3 : Int32))), .val .null, .val (.ref r_15), .val .null, .val (.int (1 : Int32))] [(.int (1 : Int32))])
    have K22 : Keep h0 T15.heap [] := (K0.trans Kc15 all0)
    obtain ⟨fs, hr, hrun, hended, hEnd⟩ := X21.leaveW hS0 (by rw [Eh21]; exact (Nat.le_trans (Nat.zero_le _) Kc15.1)) (v := some (.int (1 : Int32))) (fun h => by rw [Bd.returns] at h; cases h)
    refine ⟨_, _, ?_, hrun, hended, _, _, rfl, ?_, own_IB_mono (own_IB_warm hI X21.warmed) (by intro t_ h_; first | exact h_ | exact List.mem_cons_of_mem _ h_ | (revert t_ h_; decide)), own_endMono hEnd (by decide) (by decide)⟩
    · exact retN X21 hx (t := .boolean) Bd.returns (by simp) (hb hby at_123) hr
    · show Qrm0 Z p1 p2 p3 p4 h0 n0 (some (.int (1 : Int32))) T21.heap _
      rw [Eh21]
      exact ⟨rfl, N21, K22⟩
set_option maxRecDepth 65536 in
set_option maxHeartbeats 40000000 in
theorem comes_1 {Post : Tables → Env → Array Value → State → Outcome → State → Prop} (hpost : ∀ tb e args s v u, (limb_1_1.after args s (.returned v) u = true ∧ limb_1_2.after args s (.returned v) u = true ∧ True) → ReturnedEndW s (.returned v) u (Jvm.fieldLocs frame_1_writes args s ++ Jvm.arrayLocs frame_1_arrays args s ++ Jvm.staticLocs frame_1_statics s) 24 1152 → Post tb e args s (.returned v) u) :
    ArmFor flags0 classFile x code maxLocals ret World_1 tables_1 room_1 Calls_1 rest_1 Pre_1 Post := by
  intro l hfl _ _ p e ha hc hk s m args below hf hA hF happ hP
  obtain ⟨hcalls, hrest, hpre⟩ := hP
  obtain ⟨-, -, -, hnamed, -, -, -, hat⟩ := (Spec.applies_iff hf).mp happ
  obtain ⟨hg, hn⟩ := and_e (Cond.before_iff.mp (show (Jvm.Cond.and given_1 narrow_1).before args s = true from hpre))
  obtain ⟨ga, gb0⟩ := and_e hg
  obtain ⟨w0_, w1_, w2_, w3_, rfl⟩ : ∃ w0_ w1_ w2_ w3_ : Value, args = #[w0_, w1_, w2_, w3_] := by
    have hs : args.size = 4 := by simpa [Cond.value, given_1] using ga
    obtain ⟨L⟩ := args
    match L, hs with
    | [w0_, w1_, w2_, w3_], _ => exact ⟨w0_, w1_, w2_, w3_, rfl⟩
  have hw := fun d (hd : d ∈ tables_1) => atoms_spec (ws := Jvm.Cond.code x code maxLocals ret :: tables_1) hat d (List.mem_cons_of_mem _ hd)
  have hfit : Fit s := fun {y c} hc i hi => by
    obtain ⟨ha, rfl⟩ := Array.getElem?_eq_some_iff.mp hc
    have q := List.all_eq_true.mp ((Array.all_eq_true_iff_forall_mem.mp hF) _ (Array.getElem_mem ha)) i (List.mem_range.mpr hi)
    simpa [Array.getElem?_eq_getElem hi] using q
  obtain ⟨hsets, hown0⟩ := atoms_of _ (rest_1_c_eq ▸ (show rest_1_c.before _ s = true from hrest))
  obtain ⟨gc0, gb1⟩ := and_e gb0
  obtain ⟨i0, ei0⟩ := is_v gc0
  obtain rfl : w0_ = (.int i0) := Option.some.inj ei0
  obtain ⟨gc1, gb2⟩ := and_e gb1
  obtain ⟨i1, ei1⟩ := is_v gc1
  obtain rfl : w1_ = (.int i1) := Option.some.inj ei1
  obtain ⟨gc2, gb3⟩ := and_e gb2
  obtain ⟨i2, ei2⟩ := is_v gc2
  obtain rfl : w2_ = (.int i2) := Option.some.inj ei2
  obtain ⟨i3, ei3⟩ := is_v gb3
  obtain rfl : w3_ = (.int i3) := Option.some.inj ei3
  obtain ⟨zc, ev_zc⟩ := is_v (Cond.before_iff.mp (hsets _ (List.mem_of_getElem? (i := 1) rfl)))
  have G_cs : Sta s s.heap "java/lang/String" "COMPACT_STRINGS" "Z" (.int zc) := Sta.start ev_zc (Or.inl (hsets _ (List.mem_of_getElem? (i := 0) rfl)))
  have G_cs0 : ¬ zc = (0 : Int32) := gotF (Cond.eq_ints ev_zc (Term.int_eval (0))) (not_v (Cond.before_iff.mp (hsets _ (List.mem_of_getElem? (i := 2) rfl))))
  obtain ⟨wO, ev_wO⟩ := exa_v hn
  have G_S1 : Sta s s.heap "com/example/schedule_to_run/scheduletorun/engine/Outcome" "CANCELLED" "Lcom/example/schedule_to_run/scheduletorun/engine/Outcome;" (.ref wO) := Sta.start ev_wO (Or.inr ⟨(own_w hw 33 rfl), (own_w hw 34 rfl)⟩)
  have G_E2 : Exa s s.heap wO "com/example/schedule_to_run/scheduletorun/engine/Outcome" := Exa.start ev_wO hn
  have G_cw : Jvm.Lit.compactW.before #[] s = true := (hsets _ (List.mem_of_getElem? (i := 2) rfl))
  have G_h_java_lang_String_7 : Jvm.Lit.constHeld s "java/lang/String" 7 := hcalls.1 ("java/lang/String", 7) (List.mem_of_getElem? (i := 0) rfl)
  obtain ⟨n, o, h1, h2, h3, _, L, rfl, ⟨rfl, N, -⟩, hq⟩ := rm0 l s _ hw tables_1 i0 i1 i2 i3 s.heap s.heap.size (Old.start s) (⟨G_cs, G_cs0, G_S1, G_E2, G_cw, G_h_java_lang_String_7⟩ : own_St s (zc) (wO)) rfl p e ha hc hk s m _ below hf ((Spec.applies_iff_loose hf).mp happ).1 ⟨rfl, State.Warmed39.refl s, rfl, IB.start⟩ trivial
  refine ⟨n, _, h1, h2, h3, hpost _ _ _ _ _ _ ⟨Cond.after_iff.mpr rfl, Cond.after_iff.mpr (eq_i res_at (Term.int_eval (1)) rfl), trivial⟩ ⟨hq.2.1, hq.2.2.1, hq.2.2.2.1, (hq.2.2.2.2.sift fun y hy => Or.inr (N y hy)).mono (by decide) (by decide)⟩⟩
theorem main_1_1 : Claimed_1_1 := comes_1 fun _ _ _ _ _ _ h hF => ⟨h.1, hF⟩
theorem main_1_2 : Claimed_1_2 := comes_1 fun _ _ _ _ _ _ h hF => ⟨h.2.1, hF⟩
end Jvm.Pilot.@@N@@
namespace Jvm.Pilot.@@N@@
open Jvm Jvm.ClassFile Sem Op Lib Jvm.Free Jvm.Stand Jvm.Pilot.@@N@@.Jvm.D
/-! MADE BY PROGRAM (witnessworld.py) out of the Statement's table words and the real class files: 22 classes; the members and pool entries that the words name. The judged class is class 1, her method 1. -/
namespace start1
open Jvm.ClassFile
def u (s : String) : CpInfo := .utf8 (stringToUtf16 s)
/-- a pool by its gaps: so many unusable entries, then the entry; so many at the end -/
def gap : Nat → List CpInfo → List CpInfo
  | 0, r => r
  | n + 1, r => .unusable :: gap n r
def poolList (es : List (Nat × CpInfo)) (last : Nat) : List CpInfo := es.foldr (fun e r => gap e.1 (e.2 :: r)) (gap last [])
def pool (es : List (Nat × CpInfo)) (last : Nat) : Array CpInfo := ⟨poolList es last⟩
def fileOf (pool : Array CpInfo) (this : Nat) (attrs : Array Attribute := #[]) (ms : Array MethodInfo := #[]) (fl : Nat := 33) (sup : Nat := 0) (ifs : Array Nat := #[]) (fds : Array FieldInfo := #[]) : ClassFile where
  minorVersion := 0
  majorVersion := 65
  constantPool := pool
  accessFlags := fl
  thisClass := this
  superClass := sup
  interfaces := ifs
  fields := fds
  methods := ms
  attributes := attrs
def plain (name : String) (sup : Option ClassId) : Class where
  name := name
  kind := .ordinary
  loader := none
  accessFlags := 33
  super := sup
  interfaces := #[]
  cf := none
  fields := #[]
  methods := #[]
  instanceTypes := #[]
  staticTypes := #[]
  resolved := #[]
  callSites := []
  init := .initialized
  statics := none
  mirror := none

def pool0 : Array CpInfo := pool [(5, u "<init>"), (0, u "()V"), (1, .class_ 10), (1, u "java/lang/Object")] 113

def k0c0 : Code := { maxStack := 0, maxLocals := 1, code := object_method_1_code, exceptionTable := #[], attributes := #[] }
def k0m0 : Method := { name := "<init>", desc := "()V", sig := { parameters := [], returnType := none }, accessFlags := 1, code := some k0c0 }
/-- java/lang/Object -/
def k0 : Class := { plain "java/lang/Object" none with
  accessFlags := 33
  interfaces := #[]
  cf := some (fileOf pool0 8 #[] #[{ accessFlags := 1, nameIndex := 5, descriptorIndex := 6, attributes := #[] }] 33 0 #[] #[])
  fields := #[]
  methods := #[k0m0]
  instanceTypes := #[]
  staticTypes := #[]
  resolved := Array.replicate 124 none
  statics := none }

def pool1 : Array CpInfo := pool [(2, .class_ 4), (1, u "java/lang/Object"), (0, u "<init>"), (0, u "()V"), (0, .methodref 8 9), (0, .class_ 10), (0, .nameAndType 11 12), (0, u "com/example/schedule_to_run/scheduletorun/engine/AttemptResultCancelledPinLaw"), (0, u "makeString"), (0, u "(IIII)Ljava/lang/String;"), (0, .methodref 14 15), (0, .class_ 16), (0, .nameAndType 17 18), (0, u "com/example/schedule_to_run/scheduletorun/engine/AttemptResult"), (0, u "cancelled"), (0, u "(Ljava/lang/String;)Lcom/example/schedule_to_run/scheduletorun/engine/AttemptResult;"), (0, .methodref 14 20), (0, .nameAndType 21 22), (0, u "getError"), (0, u "()Ljava/lang/String;"), (0, .methodref 24 25), (0, .class_ 26), (0, .nameAndType 27 28), (0, u "java/lang/String"), (0, u "equals"), (0, u "(Ljava/lang/Object;)Z"), (0, .methodref 14 30), (0, .nameAndType 31 32), (0, u "getOutcome"), (0, u "()Lcom/example/schedule_to_run/scheduletorun/engine/Outcome;"), (0, .fieldref 34 35), (0, .class_ 36), (0, .nameAndType 37 38), (0, u "com/example/schedule_to_run/scheduletorun/engine/Outcome"), (0, u "CANCELLED"), (0, u "Lcom/example/schedule_to_run/scheduletorun/engine/Outcome;"), (0, .methodref 14 40), (0, .nameAndType 41 42), (0, u "getExitStatus"), (0, u "()Ljava/lang/Integer;"), (0, .methodref 14 44), (0, .nameAndType 45 42), (0, u "getHttpStatus"), (0, .methodref 24 47), (0, .nameAndType 5 48), (0, u "([C)V"), (0, .methodref 24 50), (0, .nameAndType 51 52), (0, u "valueOf"), (0, u "(C)Ljava/lang/String;"), (2, u "law"), (0, u "(IIII)Z")] 3

def k1m0 : Method := { name := "<init>", desc := "()V", sig := { parameters := [], returnType := none }, accessFlags := 1, code := none }
def k1c1 : Code := { maxStack := 4, maxLocals := 10, code := code, exceptionTable := #[], attributes := #[] }
def k1m1 : Method := { name := "law", desc := "(IIII)Z", sig := { parameters := [.int, .int, .int, .int], returnType := some .boolean }, accessFlags := 9, code := some k1c1 }
def k1c2 : Code := { maxStack := 6, maxLocals := 7, code := method_3_code, exceptionTable := #[], attributes := #[] }
def k1m2 : Method := { name := "makeString", desc := "(IIII)Ljava/lang/String;", sig := { parameters := [.int, .int, .int, .int], returnType := some (.object "java/lang/String") }, accessFlags := 10, code := some k1c2 }
/-- com/example/schedule_to_run/scheduletorun/engine/AttemptResultCancelledPinLaw -/
def k1 : Class := { plain "com/example/schedule_to_run/scheduletorun/engine/AttemptResultCancelledPinLaw" (some 0) with
  accessFlags := 49
  interfaces := #[]
  cf := some (fileOf pool1 8 #[] #[{ accessFlags := 1, nameIndex := 5, descriptorIndex := 6, attributes := #[] }, { accessFlags := 9, nameIndex := 55, descriptorIndex := 56, attributes := #[] }, { accessFlags := 10, nameIndex := 11, descriptorIndex := 12, attributes := #[] }] 49 2 #[] #[])
  fields := #[]
  methods := #[k1m0, k1m1, k1m2]
  instanceTypes := #[]
  staticTypes := #[]
  resolved := Array.replicate 60 none
  statics := none }

def pool2 : Array CpInfo := pool [(1, .class_ 2), (0, u "java/io/Serializable"), (0, .class_ 4), (0, u "java/lang/Object")] 2

/-- java/io/Serializable -/
def k2 : Class := { plain "java/io/Serializable" (some 0) with
  accessFlags := 1537
  interfaces := #[]
  cf := some (fileOf pool2 1 #[] #[] 1537 3 #[] #[])
  fields := #[]
  methods := #[]
  instanceTypes := #[]
  staticTypes := #[]
  resolved := Array.replicate 7 none
  statics := none }

def pool3 : Array CpInfo := pool [(1, .class_ 2), (0, u "java/lang/Comparable"), (0, .class_ 4), (0, u "java/lang/Object")] 7

/-- java/lang/Comparable -/
def k3 : Class := { plain "java/lang/Comparable" (some 0) with
  accessFlags := 1537
  interfaces := #[]
  cf := some (fileOf pool3 1 #[] #[] 1537 3 #[] #[])
  fields := #[]
  methods := #[]
  instanceTypes := #[]
  staticTypes := #[]
  resolved := Array.replicate 12 none
  statics := none }

def pool4 : Array CpInfo := pool [(2, .class_ 4), (1, u "java/lang/CharSequence"), (42, .class_ 48), (0, u "java/lang/CharSequence$1CodePointIterator"), (10, .class_ 60), (0, u "java/lang/CharSequence$1CharIterator"), (5, .class_ 67), (0, u "java/lang/Object")] 63

/-- java/lang/CharSequence -/
def k4 : Class := { plain "java/lang/CharSequence" (some 0) with
  accessFlags := 1537
  interfaces := #[]
  cf := some (fileOf pool4 2 #[.nestMembers #[47, 59]] #[] 1537 66 #[] #[])
  fields := #[]
  methods := #[]
  instanceTypes := #[]
  staticTypes := #[]
  resolved := Array.replicate 131 none
  statics := none }

def pool5 : Array CpInfo := pool [(1, .class_ 2), (0, u "java/lang/constant/Constable"), (0, .class_ 4), (0, u "java/lang/Object")] 6

/-- java/lang/constant/Constable -/
def k5 : Class := { plain "java/lang/constant/Constable" (some 0) with
  accessFlags := 1537
  interfaces := #[]
  cf := some (fileOf pool5 1 #[] #[] 1537 3 #[] #[])
  fields := #[]
  methods := #[]
  instanceTypes := #[]
  staticTypes := #[]
  resolved := Array.replicate 11 none
  statics := none }

def pool6 : Array CpInfo := pool [(1, .class_ 2), (0, u "java/lang/constant/ConstantDesc"), (0, .class_ 4), (0, u "java/lang/Object")] 32

/-- java/lang/constant/ConstantDesc -/
def k6 : Class := { plain "java/lang/constant/ConstantDesc" (some 0) with
  accessFlags := 1537
  interfaces := #[]
  cf := some (fileOf pool6 1 #[] #[] 1537 3 #[] #[])
  fields := #[]
  methods := #[]
  instanceTypes := #[]
  staticTypes := #[]
  resolved := Array.replicate 37 none
  statics := none }

def pool7 : Array CpInfo := pool [(1, .methodref 2 3), (0, .class_ 4), (0, .nameAndType 5 6), (0, u "java/lang/Object"), (0, u "<init>"), (0, u "()V"), (0, .string 8), (0, u ""), (0, .fieldref 10 11), (0, .class_ 12), (0, .nameAndType 13 14), (0, u "java/lang/String"), (0, u "value"), (0, u "[B"), (0, .fieldref 10 16), (0, .nameAndType 17 18), (0, u "coder"), (0, u "B"), (2, u "hash"), (0, u "I"), (2, u "hashIsZero"), (0, u "Z"), (0, .methodref 10 28), (0, .nameAndType 5 29), (0, u "([CIILjava/lang/Void;)V"), (8, .fieldref 10 39), (0, .nameAndType 40 26), (0, u "COMPACT_STRINGS"), (1, .class_ 44), (1, u "java/lang/StringUTF16"), (0, u "compress"), (1, .methodref 42 48), (0, .nameAndType 49 50), (0, u "coderFromArrayLen"), (0, u "([BI)B"), (2, u "toBytes"), (53, .class_ 109), (1, u "java/lang/StringLatin1"), (67, .methodref 42 178), (0, .nameAndType 45 179), (0, u "([CII)[B"), (29, .methodref 10 210), (0, .nameAndType 5 211), (0, u "([BB)V"), (157, u "(C)Z"), (173, u "equals"), (29, u "(Ljava/lang/Object;)Z"), (1, .class_ 576), (0, u "java/lang/CharSequence"), (22, u "CASE_INSENSITIVE_ORDER"), (0, u "Ljava/util/Comparator;"), (181, u "valueOf"), (0, u "(C)Ljava/lang/String;"), (226, u "([C)V"), (4, .methodref 107 1016), (0, .nameAndType 1017 369), (0, u "canEncode"), (0, .methodref 107 1019), (0, .nameAndType 53 1020), (0, u "(C)[B"), (80, u "serialPersistentFields"), (0, u "[Ljava/io/ObjectStreamField;"), (0, .class_ 1104), (0, u "java/lang/String$CaseInsensitiveComparator"), (1, .class_ 1107), (0, u "java/io/Serializable"), (0, .class_ 1109), (0, u "java/lang/Comparable"), (0, .class_ 1111), (0, u "java/lang/constant/Constable"), (0, .class_ 1113), (0, u "java/lang/constant/ConstantDesc"), (2, u "serialVersionUID"), (0, u "J"), (3, u "REPL"), (0, u "C"), (2, u "LATIN1"), (1, u "UTF16")] 323

def k7m0 : Method := { name := "<init>", desc := "()V", sig := { parameters := [], returnType := none }, accessFlags := 1, code := none }
def k7c1 : Code := { maxStack := 5, maxLocals := 2, code := jdk_42_method_3_code, exceptionTable := #[], attributes := #[] }
def k7m1 : Method := { name := "<init>", desc := "([C)V", sig := { parameters := [(.array .char)], returnType := none }, accessFlags := 1, code := some k7c1 }
def k7c2 : Code := { maxStack := 2, maxLocals := 3, code := jdk_42_method_66_code, exceptionTable := #[], attributes := #[] }
def k7m2 : Method := { name := "equals", desc := "(Ljava/lang/Object;)Z", sig := { parameters := [(.object "java/lang/Object")], returnType := some .boolean }, accessFlags := 1, code := some k7c2 }
def k7c3 : Code := { maxStack := 4, maxLocals := 1, code := jdk_42_method_139_code, exceptionTable := #[], attributes := #[] }
def k7m3 : Method := { name := "valueOf", desc := "(C)Ljava/lang/String;", sig := { parameters := [.char], returnType := some (.object "java/lang/String") }, accessFlags := 9, code := some k7c3 }
def k7c4 : Code := { maxStack := 4, maxLocals := 6, code := jdk_42_method_149_code, exceptionTable := #[], attributes := #[] }
def k7m4 : Method := { name := "<init>", desc := "([CIILjava/lang/Void;)V", sig := { parameters := [(.array .char), .int, .int, (.object "java/lang/Void")], returnType := none }, accessFlags := 2, code := some k7c4 }
def k7c5 : Code := { maxStack := 2, maxLocals := 3, code := jdk_42_method_151_code, exceptionTable := #[], attributes := #[] }
def k7m5 : Method := { name := "<init>", desc := "([BB)V", sig := { parameters := [(.array .byte), .byte], returnType := none }, accessFlags := 0, code := some k7c5 }
/-- java/lang/String -/
def k7 : Class := { plain "java/lang/String" (some 0) with
  accessFlags := 49
  interfaces := #[2, 3, 4, 5, 6]
  cf := some (fileOf pool7 10 #[.nestMembers #[1103]] #[{ accessFlags := 1, nameIndex := 5, descriptorIndex := 6, attributes := #[] }, { accessFlags := 1, nameIndex := 5, descriptorIndex := 1010, attributes := #[] }, { accessFlags := 1, nameIndex := 543, descriptorIndex := 573, attributes := #[] }, { accessFlags := 9, nameIndex := 782, descriptorIndex := 783, attributes := #[] }, { accessFlags := 2, nameIndex := 5, descriptorIndex := 29, attributes := #[] }, { accessFlags := 0, nameIndex := 5, descriptorIndex := 211, attributes := #[] }] 49 2 #[1106, 1108, 575, 1110, 1112] #[{ accessFlags := 18, nameIndex := 13, descriptorIndex := 14, attributes := #[] }, { accessFlags := 18, nameIndex := 17, descriptorIndex := 18, attributes := #[] }, { accessFlags := 2, nameIndex := 21, descriptorIndex := 22, attributes := #[] }, { accessFlags := 2, nameIndex := 25, descriptorIndex := 26, attributes := #[] }, { accessFlags := 26, nameIndex := 1116, descriptorIndex := 1117, attributes := #[] }, { accessFlags := 24, nameIndex := 40, descriptorIndex := 26, attributes := #[] }, { accessFlags := 26, nameIndex := 1101, descriptorIndex := 1102, attributes := #[] }, { accessFlags := 26, nameIndex := 1121, descriptorIndex := 1122, attributes := #[] }, { accessFlags := 25, nameIndex := 599, descriptorIndex := 600, attributes := #[] }, { accessFlags := 24, nameIndex := 1125, descriptorIndex := 18, attributes := #[] }, { accessFlags := 24, nameIndex := 1127, descriptorIndex := 18, attributes := #[] }])
  fields := #[{ name := "value", type := (.array .byte), accessFlags := 18, slot := 0, constantValue := 0 }, { name := "coder", type := .byte, accessFlags := 18, slot := 1, constantValue := 0 }, { name := "hash", type := .int, accessFlags := 2, slot := 2, constantValue := 0 }, { name := "hashIsZero", type := .boolean, accessFlags := 2, slot := 3, constantValue := 0 }, { name := "serialVersionUID", type := .long, accessFlags := 26, slot := 0, constantValue := 0 }, { name := "COMPACT_STRINGS", type := .boolean, accessFlags := 24, slot := 1, constantValue := 0 }, { name := "serialPersistentFields", type := (.array (.object "java/io/ObjectStreamField")), accessFlags := 26, slot := 2, constantValue := 0 }, { name := "REPL", type := .char, accessFlags := 26, slot := 3, constantValue := 0 }, { name := "CASE_INSENSITIVE_ORDER", type := (.object "java/util/Comparator"), accessFlags := 25, slot := 4, constantValue := 0 }, { name := "LATIN1", type := .byte, accessFlags := 24, slot := 5, constantValue := 0 }, { name := "UTF16", type := .byte, accessFlags := 24, slot := 6, constantValue := 0 }]
  methods := #[k7m0, k7m1, k7m2, k7m3, k7m4, k7m5]
  instanceTypes := #[(.array .byte), .byte, .int, .boolean]
  staticTypes := #[.long, .boolean, (.array (.object "java/io/ObjectStreamField")), .char, (.object "java/util/Comparator"), .byte, .byte]
  resolved := Array.replicate 1451 none
  statics := some 0 }

def pool8 : Array CpInfo := pool [(1, .methodref 2 3), (0, .class_ 4), (0, .nameAndType 5 6), (0, u "java/lang/Object"), (0, u "<init>"), (0, u "()V"), (0, .fieldref 8 9), (0, .class_ 10), (0, .nameAndType 11 12), (0, u "com/example/schedule_to_run/scheduletorun/engine/AttemptResult"), (0, u "outcome"), (0, u "Lcom/example/schedule_to_run/scheduletorun/engine/Outcome;"), (0, .fieldref 8 14), (0, .nameAndType 15 16), (0, u "exitStatus"), (0, u "Ljava/lang/Integer;"), (0, .fieldref 8 18), (0, .nameAndType 19 16), (0, u "httpStatus"), (0, .fieldref 8 21), (0, .nameAndType 22 23), (0, u "error"), (0, u "Ljava/lang/String;"), (1, .class_ 27), (1, u "com/example/schedule_to_run/scheduletorun/engine/Outcome"), (1, .methodref 8 30), (0, .nameAndType 5 31), (0, u "(Lcom/example/schedule_to_run/scheduletorun/engine/Outcome;Ljava/lang/Integer;Ljava/lang/Integer;Ljava/lang/String;)V"), (12, .fieldref 25 45), (0, .nameAndType 46 12), (0, u "CANCELLED"), (14, u "(Ljava/lang/String;)Lcom/example/schedule_to_run/scheduletorun/engine/AttemptResult;"), (0, u "cancelled"), (1, u "getOutcome"), (0, u "()Lcom/example/schedule_to_run/scheduletorun/engine/Outcome;"), (0, u "getExitStatus"), (0, u "()Ljava/lang/Integer;"), (0, u "getHttpStatus"), (0, u "getError"), (0, u "()Ljava/lang/String;")] 2

def k8c0 : Code := { maxStack := 2, maxLocals := 5, code := prog_4_method_1_code, exceptionTable := #[], attributes := #[] }
def k8m0 : Method := { name := "<init>", desc := "(Lcom/example/schedule_to_run/scheduletorun/engine/Outcome;Ljava/lang/Integer;Ljava/lang/Integer;Ljava/lang/String;)V", sig := { parameters := [(.object "com/example/schedule_to_run/scheduletorun/engine/Outcome"), (.object "java/lang/Integer"), (.object "java/lang/Integer"), (.object "java/lang/String")], returnType := none }, accessFlags := 2, code := some k8c0 }
def k8c1 : Code := { maxStack := 6, maxLocals := 1, code := prog_4_method_7_code, exceptionTable := #[], attributes := #[] }
def k8m1 : Method := { name := "cancelled", desc := "(Ljava/lang/String;)Lcom/example/schedule_to_run/scheduletorun/engine/AttemptResult;", sig := { parameters := [(.object "java/lang/String")], returnType := some (.object "com/example/schedule_to_run/scheduletorun/engine/AttemptResult") }, accessFlags := 9, code := some k8c1 }
def k8c2 : Code := { maxStack := 1, maxLocals := 1, code := prog_4_method_9_code, exceptionTable := #[], attributes := #[] }
def k8m2 : Method := { name := "getOutcome", desc := "()Lcom/example/schedule_to_run/scheduletorun/engine/Outcome;", sig := { parameters := [], returnType := some (.object "com/example/schedule_to_run/scheduletorun/engine/Outcome") }, accessFlags := 1, code := some k8c2 }
def k8c3 : Code := { maxStack := 1, maxLocals := 1, code := prog_4_method_10_code, exceptionTable := #[], attributes := #[] }
def k8m3 : Method := { name := "getExitStatus", desc := "()Ljava/lang/Integer;", sig := { parameters := [], returnType := some (.object "java/lang/Integer") }, accessFlags := 1, code := some k8c3 }
def k8c4 : Code := { maxStack := 1, maxLocals := 1, code := prog_4_method_11_code, exceptionTable := #[], attributes := #[] }
def k8m4 : Method := { name := "getHttpStatus", desc := "()Ljava/lang/Integer;", sig := { parameters := [], returnType := some (.object "java/lang/Integer") }, accessFlags := 1, code := some k8c4 }
def k8c5 : Code := { maxStack := 1, maxLocals := 1, code := prog_4_method_12_code, exceptionTable := #[], attributes := #[] }
def k8m5 : Method := { name := "getError", desc := "()Ljava/lang/String;", sig := { parameters := [], returnType := some (.object "java/lang/String") }, accessFlags := 1, code := some k8c5 }
/-- com/example/schedule_to_run/scheduletorun/engine/AttemptResult -/
def k8 : Class := { plain "com/example/schedule_to_run/scheduletorun/engine/AttemptResult" (some 0) with
  accessFlags := 49
  interfaces := #[]
  cf := some (fileOf pool8 8 #[] #[{ accessFlags := 2, nameIndex := 5, descriptorIndex := 31, attributes := #[] }, { accessFlags := 9, nameIndex := 62, descriptorIndex := 61, attributes := #[] }, { accessFlags := 1, nameIndex := 64, descriptorIndex := 65, attributes := #[] }, { accessFlags := 1, nameIndex := 66, descriptorIndex := 67, attributes := #[] }, { accessFlags := 1, nameIndex := 68, descriptorIndex := 67, attributes := #[] }, { accessFlags := 1, nameIndex := 69, descriptorIndex := 70, attributes := #[] }] 49 2 #[] #[{ accessFlags := 18, nameIndex := 11, descriptorIndex := 12, attributes := #[] }, { accessFlags := 18, nameIndex := 15, descriptorIndex := 16, attributes := #[] }, { accessFlags := 18, nameIndex := 19, descriptorIndex := 16, attributes := #[] }, { accessFlags := 18, nameIndex := 22, descriptorIndex := 23, attributes := #[] }])
  fields := #[{ name := "outcome", type := (.object "com/example/schedule_to_run/scheduletorun/engine/Outcome"), accessFlags := 18, slot := 0, constantValue := 0 }, { name := "exitStatus", type := (.object "java/lang/Integer"), accessFlags := 18, slot := 1, constantValue := 0 }, { name := "httpStatus", type := (.object "java/lang/Integer"), accessFlags := 18, slot := 2, constantValue := 0 }, { name := "error", type := (.object "java/lang/String"), accessFlags := 18, slot := 3, constantValue := 0 }]
  methods := #[k8m0, k8m1, k8m2, k8m3, k8m4, k8m5]
  instanceTypes := #[(.object "com/example/schedule_to_run/scheduletorun/engine/Outcome"), (.object "java/lang/Integer"), (.object "java/lang/Integer"), (.object "java/lang/String")]
  staticTypes := #[]
  resolved := Array.replicate 73 none
  statics := none }

def pool9 : Array CpInfo := pool [(2, .class_ 4), (1, u "java/lang/Enum"), (0, u "name"), (0, u "Ljava/lang/String;"), (2, u "ordinal"), (0, u "I"), (1, .class_ 14), (1, u "java/lang/Object"), (4, u "hash"), (86, .class_ 108), (1, u "java/lang/Enum$EnumDesc"), (2, .class_ 112), (0, u "java/lang/constant/Constable"), (0, .class_ 114), (0, u "java/lang/Comparable"), (0, .class_ 116), (0, u "java/io/Serializable")] 87

/-- java/lang/Enum -/
def k9 : Class := { plain "java/lang/Enum" (some 0) with
  accessFlags := 1057
  interfaces := #[5, 3, 2]
  cf := some (fileOf pool9 2 #[.nestMembers #[106]] #[] 1057 12 #[111, 113, 115] #[{ accessFlags := 18, nameIndex := 5, descriptorIndex := 6, attributes := #[] }, { accessFlags := 18, nameIndex := 9, descriptorIndex := 10, attributes := #[] }, { accessFlags := 2, nameIndex := 19, descriptorIndex := 10, attributes := #[] }])
  fields := #[{ name := "name", type := (.object "java/lang/String"), accessFlags := 18, slot := 0, constantValue := 0 }, { name := "ordinal", type := .int, accessFlags := 18, slot := 1, constantValue := 0 }, { name := "hash", type := .int, accessFlags := 2, slot := 2, constantValue := 0 }]
  methods := #[]
  instanceTypes := #[(.object "java/lang/String"), .int, .int]
  staticTypes := #[]
  resolved := Array.replicate 204 none
  statics := none }

def pool10 : Array CpInfo := pool [(1, .class_ 2), (0, u "com/example/schedule_to_run/scheduletorun/engine/Outcome"), (2, u "SUCCEEDED"), (0, u "Lcom/example/schedule_to_run/scheduletorun/engine/Outcome;"), (2, u "FAILED"), (2, u "TIMED_OUT"), (2, u "INTERRUPTED"), (2, u "CANCELLED"), (2, u "$VALUES"), (0, u "[Lcom/example/schedule_to_run/scheduletorun/engine/Outcome;"), (6, .class_ 31), (1, u "java/lang/Enum")] 27

/-- com/example/schedule_to_run/scheduletorun/engine/Outcome -/
def k10 : Class := { plain "com/example/schedule_to_run/scheduletorun/engine/Outcome" (some 9) with
  accessFlags := 16433
  interfaces := #[]
  cf := some (fileOf pool10 1 #[] #[] 16433 29 #[] #[{ accessFlags := 16409, nameIndex := 5, descriptorIndex := 6, attributes := #[] }, { accessFlags := 16409, nameIndex := 9, descriptorIndex := 6, attributes := #[] }, { accessFlags := 16409, nameIndex := 12, descriptorIndex := 6, attributes := #[] }, { accessFlags := 16409, nameIndex := 15, descriptorIndex := 6, attributes := #[] }, { accessFlags := 16409, nameIndex := 18, descriptorIndex := 6, attributes := #[] }, { accessFlags := 4122, nameIndex := 21, descriptorIndex := 22, attributes := #[] }])
  fields := #[{ name := "SUCCEEDED", type := (.object "com/example/schedule_to_run/scheduletorun/engine/Outcome"), accessFlags := 16409, slot := 0, constantValue := 0 }, { name := "FAILED", type := (.object "com/example/schedule_to_run/scheduletorun/engine/Outcome"), accessFlags := 16409, slot := 1, constantValue := 0 }, { name := "TIMED_OUT", type := (.object "com/example/schedule_to_run/scheduletorun/engine/Outcome"), accessFlags := 16409, slot := 2, constantValue := 0 }, { name := "INTERRUPTED", type := (.object "com/example/schedule_to_run/scheduletorun/engine/Outcome"), accessFlags := 16409, slot := 3, constantValue := 0 }, { name := "CANCELLED", type := (.object "com/example/schedule_to_run/scheduletorun/engine/Outcome"), accessFlags := 16409, slot := 4, constantValue := 0 }, { name := "$VALUES", type := (.array (.object "com/example/schedule_to_run/scheduletorun/engine/Outcome")), accessFlags := 4122, slot := 5, constantValue := 0 }]
  methods := #[]
  instanceTypes := #[(.object "java/lang/String"), .int, .int]
  staticTypes := #[(.object "com/example/schedule_to_run/scheduletorun/engine/Outcome"), (.object "com/example/schedule_to_run/scheduletorun/engine/Outcome"), (.object "com/example/schedule_to_run/scheduletorun/engine/Outcome"), (.object "com/example/schedule_to_run/scheduletorun/engine/Outcome"), (.object "com/example/schedule_to_run/scheduletorun/engine/Outcome"), (.array (.object "com/example/schedule_to_run/scheduletorun/engine/Outcome"))]
  resolved := Array.replicate 59 none
  statics := some 1 }

def pool11 : Array CpInfo := pool [(6, .class_ 8), (1, u "java/lang/Object"), (0, u "<init>"), (0, u "()V"), (1, .class_ 14), (1, u "java/lang/StringUTF16"), (31, u "$assertionsDisabled"), (0, u "Z"), (13, u "HI_BYTE_SHIFT"), (0, u "I"), (2, u "LO_BYTE_SHIFT"), (49, .methodref 12 116), (0, .nameAndType 117 118), (0, u "compress"), (0, u "([CI[BII)I"), (3, u "([CII)[B"), (138, u "coderFromArrayLen"), (0, u "([BI)B"), (106, .class_ 371), (1, u "java/lang/StringUTF16$LinesSpliterator"), (58, u "MAX_LENGTH"), (196, .class_ 628), (0, u "java/lang/StringUTF16$CodePointsSpliterator"), (0, .class_ 630), (0, u "java/lang/StringUTF16$CharsSpliterator")] 4

def k11m0 : Method := { name := "<init>", desc := "()V", sig := { parameters := [], returnType := none }, accessFlags := 0, code := none }
def k11c1 : Code := { maxStack := 2, maxLocals := 2, code := jdk_52_method_15_code, exceptionTable := #[], attributes := #[] }
def k11m1 : Method := { name := "coderFromArrayLen", desc := "([BI)B", sig := { parameters := [(.array .byte), .int], returnType := some .byte }, accessFlags := 8, code := some k11c1 }
def k11c2 : Code := { maxStack := 5, maxLocals := 6, code := jdk_52_method_16_code, exceptionTable := #[], attributes := #[] }
def k11m2 : Method := { name := "compress", desc := "([CII)[B", sig := { parameters := [(.array .char), .int, .int], returnType := some (.array .byte) }, accessFlags := 9, code := some k11c2 }
def k11c3 : Code := { maxStack := 3, maxLocals := 7, code := jdk_52_method_21_code, exceptionTable := #[], attributes := #[] }
def k11m3 : Method := { name := "compress", desc := "([CI[BII)I", sig := { parameters := [(.array .char), .int, (.array .byte), .int, .int], returnType := some .int }, accessFlags := 9, code := some k11c3 }
/-- java/lang/StringUTF16 -/
def k11 : Class := { plain "java/lang/StringUTF16" (some 0) with
  accessFlags := 48
  interfaces := #[]
  cf := some (fileOf pool11 12 #[.nestMembers #[627, 629, 369]] #[{ accessFlags := 0, nameIndex := 9, descriptorIndex := 10, attributes := #[] }, { accessFlags := 8, nameIndex := 261, descriptorIndex := 262, attributes := #[] }, { accessFlags := 9, nameIndex := 117, descriptorIndex := 122, attributes := #[] }, { accessFlags := 9, nameIndex := 117, descriptorIndex := 118, attributes := #[] }] 48 6 #[] #[{ accessFlags := 26, nameIndex := 61, descriptorIndex := 62, attributes := #[] }, { accessFlags := 26, nameIndex := 65, descriptorIndex := 62, attributes := #[] }, { accessFlags := 24, nameIndex := 430, descriptorIndex := 62, attributes := #[] }, { accessFlags := 4120, nameIndex := 46, descriptorIndex := 47, attributes := #[] }])
  fields := #[{ name := "HI_BYTE_SHIFT", type := .int, accessFlags := 26, slot := 0, constantValue := 0 }, { name := "LO_BYTE_SHIFT", type := .int, accessFlags := 26, slot := 1, constantValue := 0 }, { name := "MAX_LENGTH", type := .int, accessFlags := 24, slot := 2, constantValue := 0 }, { name := "$assertionsDisabled", type := .boolean, accessFlags := 4120, slot := 3, constantValue := 0 }]
  methods := #[k11m0, k11m1, k11m2, k11m3]
  instanceTypes := #[]
  staticTypes := #[.int, .int, .int, .boolean]
  resolved := Array.replicate 635 none
  statics := none }

def pool12 : Array CpInfo := pool [(4, .class_ 6), (1, u "java/lang/Object"), (0, u "<init>"), (0, u "()V"), (5, .class_ 16), (1, u "java/lang/StringLatin1"), (73, u "canEncode"), (14, u "(C)Z"), (15, u "$assertionsDisabled"), (0, u "Z"), (98, .class_ 223), (1, u "java/lang/StringLatin1$LinesSpliterator"), (156, u "toBytes"), (1, u "(C)[B"), (7, .class_ 391), (0, u "java/lang/StringLatin1$CharsSpliterator")] 3

def k12m0 : Method := { name := "<init>", desc := "()V", sig := { parameters := [], returnType := none }, accessFlags := 0, code := none }
def k12c1 : Code := { maxStack := 2, maxLocals := 1, code := jdk_43_method_3_code, exceptionTable := #[], attributes := #[] }
def k12m1 : Method := { name := "canEncode", desc := "(C)Z", sig := { parameters := [.char], returnType := some .boolean }, accessFlags := 9, code := some k12c1 }
def k12c2 : Code := { maxStack := 4, maxLocals := 1, code := jdk_43_method_46_code, exceptionTable := #[], attributes := #[] }
def k12m2 : Method := { name := "toBytes", desc := "(C)[B", sig := { parameters := [.char], returnType := some (.array .byte) }, accessFlags := 9, code := some k12c2 }
/-- java/lang/StringLatin1 -/
def k12 : Class := { plain "java/lang/StringLatin1" (some 0) with
  accessFlags := 48
  interfaces := #[]
  cf := some (fileOf pool12 14 #[.nestMembers #[390, 221]] #[{ accessFlags := 0, nameIndex := 7, descriptorIndex := 8, attributes := #[] }, { accessFlags := 9, nameIndex := 90, descriptorIndex := 105, attributes := #[] }, { accessFlags := 9, nameIndex := 380, descriptorIndex := 382, attributes := #[] }] 48 4 #[] #[{ accessFlags := 4120, nameIndex := 121, descriptorIndex := 122, attributes := #[] }])
  fields := #[{ name := "$assertionsDisabled", type := .boolean, accessFlags := 4120, slot := 0, constantValue := 0 }]
  methods := #[k12m0, k12m1, k12m2]
  instanceTypes := #[]
  staticTypes := #[.boolean]
  resolved := Array.replicate 395 none
  statics := none }

def pool13 : Array CpInfo := pool [(2, .class_ 4), (1, u "java/lang/Object"), (0, u "<init>"), (0, u "()V"), (17, .class_ 26), (1, u "jdk/internal/util/Preconditions"), (28, .class_ 56), (0, u "jdk/internal/util/Preconditions$4"), (57, .class_ 115), (0, u "jdk/internal/util/Preconditions$1"), (7, u "SIOOBE_FORMATTER"), (0, u "Ljava/util/function/BiFunction;"), (0, .class_ 126), (0, u "jdk/internal/util/Preconditions$2"), (3, u "AIOOBE_FORMATTER"), (0, .class_ 132), (0, u "jdk/internal/util/Preconditions$3"), (3, u "IOOBE_FORMATTER")] 57

def k13m0 : Method := { name := "<init>", desc := "()V", sig := { parameters := [], returnType := none }, accessFlags := 1, code := none }
/-- jdk/internal/util/Preconditions -/
def k13 : Class := { plain "jdk/internal/util/Preconditions" (some 0) with
  accessFlags := 33
  interfaces := #[]
  cf := some (fileOf pool13 24 #[.nestMembers #[55, 131, 125, 114]] #[{ accessFlags := 1, nameIndex := 5, descriptorIndex := 6, attributes := #[] }] 33 2 #[] #[{ accessFlags := 25, nameIndex := 123, descriptorIndex := 124, attributes := #[] }, { accessFlags := 25, nameIndex := 130, descriptorIndex := 124, attributes := #[] }, { accessFlags := 25, nameIndex := 136, descriptorIndex := 124, attributes := #[] }])
  fields := #[{ name := "SIOOBE_FORMATTER", type := (.object "java/util/function/BiFunction"), accessFlags := 25, slot := 0, constantValue := 0 }, { name := "AIOOBE_FORMATTER", type := (.object "java/util/function/BiFunction"), accessFlags := 25, slot := 1, constantValue := 0 }, { name := "IOOBE_FORMATTER", type := (.object "java/util/function/BiFunction"), accessFlags := 25, slot := 2, constantValue := 0 }]
  methods := #[k13m0]
  instanceTypes := #[]
  staticTypes := #[(.object "java/util/function/BiFunction"), (.object "java/util/function/BiFunction"), (.object "java/util/function/BiFunction")]
  resolved := Array.replicate 194 none
  statics := some 2 }

def pool14 : Array CpInfo := pool [(9, u "<init>"), (6, .class_ 18), (1, u "java/lang/Object"), (0, u "()V"), (1, .class_ 23), (1, u "jdk/internal/util/ArraysSupport"), (0, u "LOG2_ARRAY_LONG_INDEX_SCALE"), (0, u "I"), (2, u "U"), (0, u "Ljdk/internal/misc/Unsafe;"), (8, u "BIG_ENDIAN"), (0, u "Z"), (8, u "LOG2_BYTE_BIT_SIZE"), (4, u "LOG2_ARRAY_INT_INDEX_SCALE"), (54, u "JLA"), (0, u "Ljdk/internal/access/JavaLangAccess;"), (11, u "LOG2_ARRAY_BOOLEAN_INDEX_SCALE"), (9, u "LOG2_ARRAY_BYTE_INDEX_SCALE"), (5, u "LOG2_ARRAY_CHAR_INDEX_SCALE"), (5, u "LOG2_ARRAY_SHORT_INDEX_SCALE"), (18, u "LOG2_ARRAY_FLOAT_INDEX_SCALE"), (24, u "LOG2_ARRAY_DOUBLE_INDEX_SCALE"), (89, u "T_BOOLEAN"), (2, u "T_CHAR"), (1, u "T_FLOAT"), (1, u "T_DOUBLE"), (1, u "T_BYTE"), (1, u "T_SHORT"), (1, u "T_INT"), (1, u "T_LONG"), (1, u "SOFT_MAX_ARRAY_LENGTH")] 83

def k14m0 : Method := { name := "<init>", desc := "()V", sig := { parameters := [], returnType := none }, accessFlags := 2, code := none }
/-- jdk/internal/util/ArraysSupport -/
def k14 : Class := { plain "jdk/internal/util/ArraysSupport" (some 0) with
  accessFlags := 33
  interfaces := #[]
  cf := some (fileOf pool14 21 #[] #[{ accessFlags := 2, nameIndex := 9, descriptorIndex := 19, attributes := #[] }] 33 16 #[] #[{ accessFlags := 24, nameIndex := 28, descriptorIndex := 29, attributes := #[] }, { accessFlags := 26, nameIndex := 38, descriptorIndex := 39, attributes := #[] }, { accessFlags := 25, nameIndex := 121, descriptorIndex := 25, attributes := #[] }, { accessFlags := 25, nameIndex := 131, descriptorIndex := 25, attributes := #[] }, { accessFlags := 25, nameIndex := 137, descriptorIndex := 25, attributes := #[] }, { accessFlags := 25, nameIndex := 143, descriptorIndex := 25, attributes := #[] }, { accessFlags := 25, nameIndex := 53, descriptorIndex := 25, attributes := #[] }, { accessFlags := 25, nameIndex := 24, descriptorIndex := 25, attributes := #[] }, { accessFlags := 25, nameIndex := 162, descriptorIndex := 25, attributes := #[] }, { accessFlags := 25, nameIndex := 187, descriptorIndex := 25, attributes := #[] }, { accessFlags := 26, nameIndex := 48, descriptorIndex := 25, attributes := #[] }, { accessFlags := 25, nameIndex := 277, descriptorIndex := 25, attributes := #[] }, { accessFlags := 25, nameIndex := 280, descriptorIndex := 25, attributes := #[] }, { accessFlags := 25, nameIndex := 282, descriptorIndex := 25, attributes := #[] }, { accessFlags := 25, nameIndex := 284, descriptorIndex := 25, attributes := #[] }, { accessFlags := 25, nameIndex := 286, descriptorIndex := 25, attributes := #[] }, { accessFlags := 25, nameIndex := 288, descriptorIndex := 25, attributes := #[] }, { accessFlags := 25, nameIndex := 290, descriptorIndex := 25, attributes := #[] }, { accessFlags := 25, nameIndex := 292, descriptorIndex := 25, attributes := #[] }, { accessFlags := 26, nameIndex := 108, descriptorIndex := 109, attributes := #[] }, { accessFlags := 25, nameIndex := 294, descriptorIndex := 25, attributes := #[] }])
  fields := #[{ name := "U", type := (.object "jdk/internal/misc/Unsafe"), accessFlags := 24, slot := 0, constantValue := 0 }, { name := "BIG_ENDIAN", type := .boolean, accessFlags := 26, slot := 1, constantValue := 0 }, { name := "LOG2_ARRAY_BOOLEAN_INDEX_SCALE", type := .int, accessFlags := 25, slot := 2, constantValue := 0 }, { name := "LOG2_ARRAY_BYTE_INDEX_SCALE", type := .int, accessFlags := 25, slot := 3, constantValue := 0 }, { name := "LOG2_ARRAY_CHAR_INDEX_SCALE", type := .int, accessFlags := 25, slot := 4, constantValue := 0 }, { name := "LOG2_ARRAY_SHORT_INDEX_SCALE", type := .int, accessFlags := 25, slot := 5, constantValue := 0 }, { name := "LOG2_ARRAY_INT_INDEX_SCALE", type := .int, accessFlags := 25, slot := 6, constantValue := 0 }, { name := "LOG2_ARRAY_LONG_INDEX_SCALE", type := .int, accessFlags := 25, slot := 7, constantValue := 0 }, { name := "LOG2_ARRAY_FLOAT_INDEX_SCALE", type := .int, accessFlags := 25, slot := 8, constantValue := 0 }, { name := "LOG2_ARRAY_DOUBLE_INDEX_SCALE", type := .int, accessFlags := 25, slot := 9, constantValue := 0 }, { name := "LOG2_BYTE_BIT_SIZE", type := .int, accessFlags := 26, slot := 10, constantValue := 0 }, { name := "T_BOOLEAN", type := .int, accessFlags := 25, slot := 11, constantValue := 0 }, { name := "T_CHAR", type := .int, accessFlags := 25, slot := 12, constantValue := 0 }, { name := "T_FLOAT", type := .int, accessFlags := 25, slot := 13, constantValue := 0 }, { name := "T_DOUBLE", type := .int, accessFlags := 25, slot := 14, constantValue := 0 }, { name := "T_BYTE", type := .int, accessFlags := 25, slot := 15, constantValue := 0 }, { name := "T_SHORT", type := .int, accessFlags := 25, slot := 16, constantValue := 0 }, { name := "T_INT", type := .int, accessFlags := 25, slot := 17, constantValue := 0 }, { name := "T_LONG", type := .int, accessFlags := 25, slot := 18, constantValue := 0 }, { name := "JLA", type := (.object "jdk/internal/access/JavaLangAccess"), accessFlags := 26, slot := 19, constantValue := 0 }, { name := "SOFT_MAX_ARRAY_LENGTH", type := .int, accessFlags := 25, slot := 20, constantValue := 0 }]
  methods := #[k14m0]
  instanceTypes := #[]
  staticTypes := #[(.object "jdk/internal/misc/Unsafe"), .boolean, .int, .int, .int, .int, .int, .int, .int, .int, .int, .int, .int, .int, .int, .int, .int, .int, .int, (.object "jdk/internal/access/JavaLangAccess"), .int]
  resolved := Array.replicate 378 none
  statics := none }

def pool15 : Array CpInfo := pool [(1, u "java/lang/Cloneable"), (0, .class_ 1), (0, u "java/lang/Object"), (0, .class_ 3)] 3

/-- java/lang/Cloneable -/
def k15 : Class := { plain "java/lang/Cloneable" (some 0) with
  accessFlags := 1537
  interfaces := #[]
  cf := some (fileOf pool15 2 #[] #[] 1537 4 #[] #[])
  fields := #[]
  methods := #[]
  instanceTypes := #[]
  staticTypes := #[]
  resolved := Array.replicate 8 none
  statics := none }

/-- the primitive byte -/
def k16 : Class := { plain "byte" none with kind := .primitive 'B', accessFlags := 0x411 }
/-- [B -/
def k17 : Class := { plain "[B" (some 0) with kind := .array 16 .byte, interfaces := #[15, 2], accessFlags := 1041 }

/-- the primitive char -/
def k18 : Class := { plain "char" none with kind := .primitive 'C', accessFlags := 0x411 }
/-- [C -/
def k19 : Class := { plain "[C" (some 0) with kind := .array 18 .char, interfaces := #[15, 2], accessFlags := 1041 }

/-- the primitive int -/
def k20 : Class := { plain "int" none with kind := .primitive 'I', accessFlags := 0x411 }
/-- [I -/
def k21 : Class := { plain "[I" (some 0) with kind := .array 20 .int, interfaces := #[15, 2], accessFlags := 1041 }

def heap : Heap := #[{ cls := 7, slots := #[.long 0, .int 1, .null, .int 0, .null, .int 0, .int 0], vm := .statics 7 },
  { cls := 10, slots := #[.null, .null, .null, .null, .ref 3, .null], vm := .statics 10 },
  { cls := 13, slots := #[.null, .null, .null], vm := .statics 13 },
  { cls := 10, slots := #[.null, .int 0, .int 0], vm := .none }]
def classes : Array Class := #[k0, k1, k2, k3, k4, k5, k6, k7, k8, k9, k10, k11, k12, k13, k14, k15, k16, k17, k18, k19, k20, k21]
def interned : List (Array UInt16 × Addr) := []
def slotsUsed : Nat := 19
def theMethod : MethodId := ⟨1, 1⟩
def args0 : Array Value := #[.int 3, .int 4, .int 5, .int 6]
def aboutOver (below : List Frame) : State where
  vm := { classes := classes, interned := interned.toArray }
  heap := heap
  slotsUsed := slotsUsed
  threads := #[{ frames := .invoking theMethod args0 :: below }]
def below0 : List Frame := [.native { method := ⟨0, 0⟩, args := #[] }]
def about1 : State := aboutOver below0
def p0 : Program := .bare "" "" ""
def e0 : Env := launch0.env 0 0 0
theorem w_frames : about1.frames = Frame.invoking theMethod args0 :: below0 := rfl
set_option maxRecDepth 65536 in
theorem w_args : argsFit about1.vm theMethod args0 = true := by decide +kernel
set_option maxRecDepth 65536 in
theorem w_heap : heapFits about1 = true := by decide +kernel
set_option maxRecDepth 65536 in
theorem w_runnable : about1.curStatus? = some .runnable := by decide +kernel
set_option maxRecDepth 65536 in
theorem w_alone : about1.alone = true := by decide +kernel
set_option maxRecDepth 65536 in
theorem w_named : about1.methodNamed? x = some theMethod := by decide +kernel
set_option maxRecDepth 65536 in
theorem w_hears : about1.hears theMethod below0 = true := by decide +kernel
set_option maxRecDepth 65536 in
theorem w_ripe : about1.ripe theMethod args0 below0 = true := by decide +kernel
theorem w_running : about1.status = .running := rfl
set_option maxRecDepth 65536 in
theorem w_room : about1.hasRoom e0.platform room_1 = true :=
  launch0.hasRoom_least _ room_1 (by decide +kernel) (by decide +kernel) (by decide +kernel) (by decide +kernel) (by decide +kernel) (by decide +kernel)
theorem allAtoms_all (ts : List Jvm.Cond) (a : Array Jvm.Value) (st : Jvm.State) : (allAtoms ts).before a st = ts.all (fun c => c.before a st) := by
  induction ts with
  | nil => rfl
  | cons c t ih =>
    show (Jvm.Cond.and c (allAtoms t)).before a st = _
    rw [Jvm.Cond.before_and, ih, List.all_cons]
def words1 : List Jvm.Cond := Jvm.Cond.code x code maxLocals ret :: tables_1
/-- a 'code' word, met by the world's own term for the bytes: nothing is compared byte by byte -/
theorem code_word {y : MethodName} {bytes : ByteArray} {mx : Nat} {rt : Option FieldType} {a : Array Value} {s : State} {m : MethodId} {meth : Method} {c : Code} (h1 : s.methodNamed? y = some m) (h2 : s.vm.method? m = some meth) (h3 : meth.code = some c) (h4 : c.code = bytes)
    (h5 : (c.maxLocals == mx && c.exceptionTable.isEmpty && decide (c.maxStack ≤ mostOperands) && decide (meth.sig.returnType = rt) && !meth.locks && decide (parseMethodDescriptor y.desc = some meth.sig)) = true) : (Jvm.Cond.code y bytes mx rt).before a s = true := by
  simp only [Bool.and_eq_true, beq_iff_eq, Bool.not_eq_true', decide_eq_true_eq] at h5
  obtain ⟨⟨⟨⟨⟨g1, g2⟩, g3⟩, g4⟩, g5⟩, g6⟩ := h5
  simp [Cond.before, Cond.holds, Cond.value, h1, h2, h3, h4, g1, g2, g3, g4, g5, g6]
def isCode : Jvm.Cond → Bool
  | .code _ _ _ _ => true
  | _ => false
theorem all_split {L : List Jvm.Cond} {P : Jvm.Cond → Bool} (h1 : L.all (fun c => isCode c || P c) = true) (h2 : ∀ c ∈ L.filter isCode, P c = true) : L.all P = true := by
  refine List.all_eq_true.mpr fun c hc => ?_
  have h := List.all_eq_true.mp h1 c hc
  rcases Bool.eq_false_or_eq_true (isCode c) with hi | hi
  · exact h2 c (List.mem_filter.mpr ⟨hc, hi⟩)
  · simpa [hi] using h
set_option maxRecDepth 65536 in
theorem w_c0 : (Jvm.Cond.code x code maxLocals ret).before args0 about1 = true := code_word (m := ⟨1, 1⟩) (meth := k1m1) (c := k1c1) (by decide +kernel) rfl rfl rfl (by decide +kernel)
set_option maxRecDepth 65536 in
theorem w_c1 : (Jvm.Cond.code ({ cls := "com/example/schedule_to_run/scheduletorun/engine/AttemptResultCancelledPinLaw", name := "makeString", desc := "(IIII)Ljava/lang/String;" } : Jvm.MethodName) method_3_code (7 : Nat) (Option.some (Jvm.ClassFile.FieldType.object "java/lang/String"))).before args0 about1 = true := code_word (m := ⟨1, 2⟩) (meth := k1m2) (c := k1c2) (by decide +kernel) rfl rfl rfl (by decide +kernel)
set_option maxRecDepth 65536 in
theorem w_c2 : (Jvm.Cond.code ({ cls := "java/lang/String", name := "<init>", desc := "([C)V" } : Jvm.MethodName) jdk_42_method_3_code (2 : Nat) (Option.none : Option Jvm.ClassFile.FieldType)).before args0 about1 = true := code_word (m := ⟨7, 1⟩) (meth := k7m1) (c := k7c1) (by decide +kernel) rfl rfl rfl (by decide +kernel)
set_option maxRecDepth 65536 in
theorem w_c3 : (Jvm.Cond.code ({ cls := "java/lang/String", name := "<init>", desc := "([CIILjava/lang/Void;)V" } : Jvm.MethodName) jdk_42_method_149_code (6 : Nat) (Option.none : Option Jvm.ClassFile.FieldType)).before args0 about1 = true := code_word (m := ⟨7, 4⟩) (meth := k7m4) (c := k7c4) (by decide +kernel) rfl rfl rfl (by decide +kernel)
set_option maxRecDepth 65536 in
theorem w_c4 : (Jvm.Cond.code ({ cls := "java/lang/Object", name := "<init>", desc := "()V" } : Jvm.MethodName) object_method_1_code (1 : Nat) (Option.none : Option Jvm.ClassFile.FieldType)).before args0 about1 = true := code_word (m := ⟨0, 0⟩) (meth := k0m0) (c := k0c0) (by decide +kernel) rfl rfl rfl (by decide +kernel)
set_option maxRecDepth 65536 in
theorem w_c5 : (Jvm.Cond.code ({ cls := "com/example/schedule_to_run/scheduletorun/engine/AttemptResult", name := "cancelled", desc := "(Ljava/lang/String;)Lcom/example/schedule_to_run/scheduletorun/engine/AttemptResult;" } : Jvm.MethodName) prog_4_method_7_code (1 : Nat) (Option.some (Jvm.ClassFile.FieldType.object "com/example/schedule_to_run/scheduletorun/engine/AttemptResult"))).before args0 about1 = true := code_word (m := ⟨8, 1⟩) (meth := k8m1) (c := k8c1) (by decide +kernel) rfl rfl rfl (by decide +kernel)
set_option maxRecDepth 65536 in
theorem w_c6 : (Jvm.Cond.code ({ cls := "com/example/schedule_to_run/scheduletorun/engine/AttemptResult", name := "<init>", desc := "(Lcom/example/schedule_to_run/scheduletorun/engine/Outcome;Ljava/lang/Integer;Ljava/lang/Integer;Ljava/lang/String;)V" } : Jvm.MethodName) prog_4_method_1_code (5 : Nat) (Option.none : Option Jvm.ClassFile.FieldType)).before args0 about1 = true := code_word (m := ⟨8, 0⟩) (meth := k8m0) (c := k8c0) (by decide +kernel) rfl rfl rfl (by decide +kernel)
set_option maxRecDepth 65536 in
theorem w_c7 : (Jvm.Cond.code ({ cls := "com/example/schedule_to_run/scheduletorun/engine/AttemptResult", name := "getError", desc := "()Ljava/lang/String;" } : Jvm.MethodName) prog_4_method_12_code (1 : Nat) (Option.some (Jvm.ClassFile.FieldType.object "java/lang/String"))).before args0 about1 = true := code_word (m := ⟨8, 5⟩) (meth := k8m5) (c := k8c5) (by decide +kernel) rfl rfl rfl (by decide +kernel)
set_option maxRecDepth 65536 in
theorem w_c8 : (Jvm.Cond.code ({ cls := "java/lang/String", name := "equals", desc := "(Ljava/lang/Object;)Z" } : Jvm.MethodName) jdk_42_method_66_code (3 : Nat) (Option.some Jvm.ClassFile.FieldType.boolean)).before args0 about1 = true := code_word (m := ⟨7, 2⟩) (meth := k7m2) (c := k7c2) (by decide +kernel) rfl rfl rfl (by decide +kernel)
set_option maxRecDepth 65536 in
theorem w_c9 : (Jvm.Cond.code ({ cls := "com/example/schedule_to_run/scheduletorun/engine/AttemptResult", name := "getOutcome", desc := "()Lcom/example/schedule_to_run/scheduletorun/engine/Outcome;" } : Jvm.MethodName) prog_4_method_9_code (1 : Nat) (Option.some (Jvm.ClassFile.FieldType.object "com/example/schedule_to_run/scheduletorun/engine/Outcome"))).before args0 about1 = true := code_word (m := ⟨8, 2⟩) (meth := k8m2) (c := k8c2) (by decide +kernel) rfl rfl rfl (by decide +kernel)
set_option maxRecDepth 65536 in
theorem w_c10 : (Jvm.Cond.code ({ cls := "com/example/schedule_to_run/scheduletorun/engine/AttemptResult", name := "getExitStatus", desc := "()Ljava/lang/Integer;" } : Jvm.MethodName) prog_4_method_10_code (1 : Nat) (Option.some (Jvm.ClassFile.FieldType.object "java/lang/Integer"))).before args0 about1 = true := code_word (m := ⟨8, 3⟩) (meth := k8m3) (c := k8c3) (by decide +kernel) rfl rfl rfl (by decide +kernel)
set_option maxRecDepth 65536 in
theorem w_c11 : (Jvm.Cond.code ({ cls := "com/example/schedule_to_run/scheduletorun/engine/AttemptResult", name := "getHttpStatus", desc := "()Ljava/lang/Integer;" } : Jvm.MethodName) prog_4_method_11_code (1 : Nat) (Option.some (Jvm.ClassFile.FieldType.object "java/lang/Integer"))).before args0 about1 = true := code_word (m := ⟨8, 4⟩) (meth := k8m4) (c := k8c4) (by decide +kernel) rfl rfl rfl (by decide +kernel)
set_option maxRecDepth 65536 in
theorem w_c12 : (Jvm.Cond.code ({ cls := "java/lang/StringUTF16", name := "compress", desc := "([CII)[B" } : Jvm.MethodName) jdk_52_method_16_code (6 : Nat) (Option.some (Jvm.ClassFile.FieldType.array Jvm.ClassFile.FieldType.byte))).before args0 about1 = true := code_word (m := ⟨11, 2⟩) (meth := k11m2) (c := k11c2) (by decide +kernel) rfl rfl rfl (by decide +kernel)
set_option maxRecDepth 65536 in
theorem w_c13 : (Jvm.Cond.code ({ cls := "java/lang/StringUTF16", name := "compress", desc := "([CI[BII)I" } : Jvm.MethodName) jdk_52_method_21_code (7 : Nat) (Option.some Jvm.ClassFile.FieldType.int)).before args0 about1 = true := code_word (m := ⟨11, 3⟩) (meth := k11m3) (c := k11c3) (by decide +kernel) rfl rfl rfl (by decide +kernel)
set_option maxRecDepth 65536 in
theorem w_c14 : (Jvm.Cond.code ({ cls := "java/lang/StringUTF16", name := "coderFromArrayLen", desc := "([BI)B" } : Jvm.MethodName) jdk_52_method_15_code (2 : Nat) (Option.some Jvm.ClassFile.FieldType.byte)).before args0 about1 = true := code_word (m := ⟨11, 1⟩) (meth := k11m1) (c := k11c1) (by decide +kernel) rfl rfl rfl (by decide +kernel)
set_option maxRecDepth 65536 in
theorem w_c15 : (Jvm.Cond.code ({ cls := "java/lang/String", name := "valueOf", desc := "(C)Ljava/lang/String;" } : Jvm.MethodName) jdk_42_method_139_code (1 : Nat) (Option.some (Jvm.ClassFile.FieldType.object "java/lang/String"))).before args0 about1 = true := code_word (m := ⟨7, 3⟩) (meth := k7m3) (c := k7c3) (by decide +kernel) rfl rfl rfl (by decide +kernel)
set_option maxRecDepth 65536 in
theorem w_c16 : (Jvm.Cond.code ({ cls := "java/lang/StringLatin1", name := "canEncode", desc := "(C)Z" } : Jvm.MethodName) jdk_43_method_3_code (1 : Nat) (Option.some Jvm.ClassFile.FieldType.boolean)).before args0 about1 = true := code_word (m := ⟨12, 1⟩) (meth := k12m1) (c := k12c1) (by decide +kernel) rfl rfl rfl (by decide +kernel)
set_option maxRecDepth 65536 in
theorem w_c17 : (Jvm.Cond.code ({ cls := "java/lang/StringLatin1", name := "toBytes", desc := "(C)[B" } : Jvm.MethodName) jdk_43_method_46_code (1 : Nat) (Option.some (Jvm.ClassFile.FieldType.array Jvm.ClassFile.FieldType.byte))).before args0 about1 = true := code_word (m := ⟨12, 2⟩) (meth := k12m2) (c := k12c2) (by decide +kernel) rfl rfl rfl (by decide +kernel)
set_option maxRecDepth 65536 in
theorem w_c18 : (Jvm.Cond.code ({ cls := "java/lang/String", name := "<init>", desc := "([BB)V" } : Jvm.MethodName) jdk_42_method_151_code (3 : Nat) (Option.none : Option Jvm.ClassFile.FieldType)).before args0 about1 = true := code_word (m := ⟨7, 5⟩) (meth := k7m5) (c := k7c5) (by decide +kernel) rfl rfl rfl (by decide +kernel)
def codes1 : List Jvm.Cond := [Jvm.Cond.code x code maxLocals ret, Jvm.Cond.code ({ cls := "com/example/schedule_to_run/scheduletorun/engine/AttemptResultCancelledPinLaw", name := "makeString", desc := "(IIII)Ljava/lang/String;" } : Jvm.MethodName) method_3_code (7 : Nat) (Option.some (Jvm.ClassFile.FieldType.object "java/lang/String")), Jvm.Cond.code ({ cls := "java/lang/String", name := "<init>", desc := "([C)V" } : Jvm.MethodName) jdk_42_method_3_code (2 : Nat) (Option.none : Option Jvm.ClassFile.FieldType), Jvm.Cond.code ({ cls := "java/lang/String", name := "<init>", desc := "([CIILjava/lang/Void;)V" } : Jvm.MethodName) jdk_42_method_149_code (6 : Nat) (Option.none : Option Jvm.ClassFile.FieldType), Jvm.Cond.code ({ cls := "java/lang/Object", name := "<init>", desc := "()V" } : Jvm.MethodName) object_method_1_code (1 : Nat) (Option.none : Option Jvm.ClassFile.FieldType), Jvm.Cond.code ({ cls := "com/example/schedule_to_run/scheduletorun/engine/AttemptResult", name := "cancelled", desc := "(Ljava/lang/String;)Lcom/example/schedule_to_run/scheduletorun/engine/AttemptResult;" } : Jvm.MethodName) prog_4_method_7_code (1 : Nat) (Option.some (Jvm.ClassFile.FieldType.object "com/example/schedule_to_run/scheduletorun/engine/AttemptResult")), Jvm.Cond.code ({ cls := "com/example/schedule_to_run/scheduletorun/engine/AttemptResult", name := "<init>", desc := "(Lcom/example/schedule_to_run/scheduletorun/engine/Outcome;Ljava/lang/Integer;Ljava/lang/Integer;Ljava/lang/String;)V" } : Jvm.MethodName) prog_4_method_1_code (5 : Nat) (Option.none : Option Jvm.ClassFile.FieldType), Jvm.Cond.code ({ cls := "com/example/schedule_to_run/scheduletorun/engine/AttemptResult", name := "getError", desc := "()Ljava/lang/String;" } : Jvm.MethodName) prog_4_method_12_code (1 : Nat) (Option.some (Jvm.ClassFile.FieldType.object "java/lang/String")), Jvm.Cond.code ({ cls := "java/lang/String", name := "equals", desc := "(Ljava/lang/Object;)Z" } : Jvm.MethodName) jdk_42_method_66_code (3 : Nat) (Option.some Jvm.ClassFile.FieldType.boolean), Jvm.Cond.code ({ cls := "com/example/schedule_to_run/scheduletorun/engine/AttemptResult", name := "getOutcome", desc := "()Lcom/example/schedule_to_run/scheduletorun/engine/Outcome;" } : Jvm.MethodName) prog_4_method_9_code (1 : Nat) (Option.some (Jvm.ClassFile.FieldType.object "com/example/schedule_to_run/scheduletorun/engine/Outcome")), Jvm.Cond.code ({ cls := "com/example/schedule_to_run/scheduletorun/engine/AttemptResult", name := "getExitStatus", desc := "()Ljava/lang/Integer;" } : Jvm.MethodName) prog_4_method_10_code (1 : Nat) (Option.some (Jvm.ClassFile.FieldType.object "java/lang/Integer")), Jvm.Cond.code ({ cls := "com/example/schedule_to_run/scheduletorun/engine/AttemptResult", name := "getHttpStatus", desc := "()Ljava/lang/Integer;" } : Jvm.MethodName) prog_4_method_11_code (1 : Nat) (Option.some (Jvm.ClassFile.FieldType.object "java/lang/Integer")), Jvm.Cond.code ({ cls := "java/lang/StringUTF16", name := "compress", desc := "([CII)[B" } : Jvm.MethodName) jdk_52_method_16_code (6 : Nat) (Option.some (Jvm.ClassFile.FieldType.array Jvm.ClassFile.FieldType.byte)), Jvm.Cond.code ({ cls := "java/lang/StringUTF16", name := "compress", desc := "([CI[BII)I" } : Jvm.MethodName) jdk_52_method_21_code (7 : Nat) (Option.some Jvm.ClassFile.FieldType.int), Jvm.Cond.code ({ cls := "java/lang/StringUTF16", name := "coderFromArrayLen", desc := "([BI)B" } : Jvm.MethodName) jdk_52_method_15_code (2 : Nat) (Option.some Jvm.ClassFile.FieldType.byte), Jvm.Cond.code ({ cls := "java/lang/String", name := "valueOf", desc := "(C)Ljava/lang/String;" } : Jvm.MethodName) jdk_42_method_139_code (1 : Nat) (Option.some (Jvm.ClassFile.FieldType.object "java/lang/String")), Jvm.Cond.code ({ cls := "java/lang/StringLatin1", name := "canEncode", desc := "(C)Z" } : Jvm.MethodName) jdk_43_method_3_code (1 : Nat) (Option.some Jvm.ClassFile.FieldType.boolean), Jvm.Cond.code ({ cls := "java/lang/StringLatin1", name := "toBytes", desc := "(C)[B" } : Jvm.MethodName) jdk_43_method_46_code (1 : Nat) (Option.some (Jvm.ClassFile.FieldType.array Jvm.ClassFile.FieldType.byte)), Jvm.Cond.code ({ cls := "java/lang/String", name := "<init>", desc := "([BB)V" } : Jvm.MethodName) jdk_42_method_151_code (3 : Nat) (Option.none : Option Jvm.ClassFile.FieldType)]
set_option maxRecDepth 65536 in
theorem codes_eq : words1.filter isCode = codes1 := rfl
theorem w_codes : ∀ c ∈ words1.filter isCode, c.before args0 about1 = true := by
  rw [codes_eq]
  intro c hc
  simp only [codes1, List.mem_cons, List.not_mem_nil, or_false] at hc
  rcases hc with rfl | rfl | rfl | rfl | rfl | rfl | rfl | rfl | rfl | rfl | rfl | rfl | rfl | rfl | rfl | rfl | rfl | rfl | rfl
  · exact w_c0
  · exact w_c1
  · exact w_c2
  · exact w_c3
  · exact w_c4
  · exact w_c5
  · exact w_c6
  · exact w_c7
  · exact w_c8
  · exact w_c9
  · exact w_c10
  · exact w_c11
  · exact w_c12
  · exact w_c13
  · exact w_c14
  · exact w_c15
  · exact w_c16
  · exact w_c17
  · exact w_c18
set_option maxRecDepth 65536 in
theorem w_t1 : (words1.take 24).all (fun c => isCode c || c.before args0 about1) = true := by decide +kernel
set_option maxRecDepth 65536 in
theorem w_t2 : ((words1.drop 24).take 24).all (fun c => isCode c || c.before args0 about1) = true := by decide +kernel
set_option maxRecDepth 65536 in
theorem w_t3 : (((words1.drop 24).drop 24).take 24).all (fun c => isCode c || c.before args0 about1) = true := by decide +kernel
set_option maxRecDepth 65536 in
theorem w_t4 : ((((words1.drop 24).drop 24).drop 24).take 24).all (fun c => isCode c || c.before args0 about1) = true := by decide +kernel
set_option maxRecDepth 65536 in
theorem w_t5 : ((((words1.drop 24).drop 24).drop 24).drop 24).all (fun c => isCode c || c.before args0 about1) = true := by decide +kernel
theorem w_tables : (allAtoms (Jvm.Cond.code x code maxLocals ret :: tables_1)).before args0 about1 = true := by
  rw [allAtoms_all]
  show words1.all (fun c => c.before args0 about1) = true
  refine all_split ?_ w_codes
  rw [← List.take_append_drop 24 words1, List.all_append, w_t1, ← List.take_append_drop 24 (words1.drop 24), List.all_append, w_t2, ← List.take_append_drop 24 ((words1.drop 24).drop 24), List.all_append, w_t3, ← List.take_append_drop 24 (((words1.drop 24).drop 24).drop 24), List.all_append, w_t4, w_t5]
  rfl
set_option maxRecDepth 65536 in
theorem w_rest : rest_1_c.before args0 about1 = true := by decide +kernel
set_option maxRecDepth 65536 in
theorem w_case : (Jvm.Cond.and given_1 narrow_1).before args0 about1 = true := by decide +kernel
set_option maxRecDepth 65536 in
theorem w_consts : constsHeld consts_1 about1 := Jvm.Lit.constsHeldB_iff.mp (by decide +kernel)
theorem w_applies : (headSpec (Jvm.Cond.code x code maxLocals ret :: tables_1) room_1).applies x e0.platform about1 = true :=
  (Spec.applies_iff w_frames).mpr ⟨w_running, w_runnable, w_alone, w_named, w_hears, w_ripe, w_room, w_tables⟩
theorem atStart : AtStart classFile x code maxLocals ret World_1 tables_1 room_1 Calls_1 rest_1 Pre_1 launch0 p0 e0 about1 theMethod args0 below0 :=
  ⟨lists_1, trivial, launch0.admits_env _ _ _, launch0.least_env, fairChoices_fair.cas, fairChoices_fair.clock, w_frames, w_args, w_heap, w_applies, ⟨w_consts, trivial⟩, w_rest, w_case⟩
end start1
theorem witness_1 : WitnessClaimed_1 := ⟨start1.p0, start1.e0, start1.about1, start1.theMethod, start1.args0, start1.below0, start1.atStart⟩
end Jvm.Pilot.@@N@@
