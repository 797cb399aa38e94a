import JvmDerived
import JvmDerived.Pilot.@@N@@Statement
import JvmDerived.Pilot.@@N@@Code
set_option linter.unusedVariables false
set_option linter.unusedSimpArgs false
namespace Jvm.RoadKit
open Sem ClassFile Op Lib Jvm.Stand Jvm.Free Jvm.LawKit
section New
variable {p : Program} {l : Launch} {e : Env} {R : Room} {s : State} {m : MethodId} {args : Array Value} {below : List Frame} {meth : Method} {c : Code} {T : State} {locs : List Loc} {cells slots : Nat}
theorem retI (X : Stand p l e R s m args below meth c T locs cells slots) (hx : p.tables.exec = Jvm.exec) {pc : Nat} {Ls : Array Slot} {z : Int32} {rest : List Value} (hret : meth.sig.returnType = some .int) (hd : decode c.code pc = .ok (.ireturn, 1)) {fs : List Frame}
    (hl : ∀ (f : JFrame) (acts : List Action), f.method = m → f.locked = none → f.entered = [] → (doReturn e (T.setTop f) acts (some (.int z))).1 = T.setFrames fs) : Steps p.tables e below (T.setTop (mkF m pc Ls (.int z :: rest))) (T.setFrames fs) := by
  have hm' : T.vm.method? m = some meth := X.method'
  have hn : narrow .int (.int z) = .int z := rfl
  show Steps p.tables e below (T.setTop { method := m, pc := pc, locals := Ls, stack := _ :: rest, locked := none }) _
  jvm_step X.here [X.here.top, hx, hd, hm', hret, hn]
  first | (intro acts; rw [hl _ acts rfl rfl rfl]) | rw [hl _ _ rfl rfl rfl]
  exact Steps.refl _
end New
end Jvm.RoadKit
/- laws to paste: Road.backV, codOf (cut by pick.py; bodies as the Statement names them) -/
namespace Jvm.Pilot.@@N@@
namespace StrChars
open Jvm Sem ClassFile Op Lib Jvm.Stand Jvm.Free.XT Jvm.Free.ALB Jvm.Free.JM Jvm.Free
open Jvm.Lib.Cold (StaticIs)
/-- a char array whose places are chars -/
def Ch (a : Addr) (A : Cell) (U : State) : Prop := Arr .char a A U ∧ Typed .char A
theorem Ch.mv {a : Addr} {A : Cell} {U U' : State} (h : Ch a A U) (hal : U.vm.Alike U'.vm) (hh : U'.heap = U.heap) : Ch a A U' := ⟨h.1.mv hal hh, h.2⟩
theorem Ch.keep {a : Addr} {A : Cell} {U U' : State} (h : Ch a A U) (hal : U.vm.Alike U'.vm) (hk : U'.heap[a]? = some A) : Ch a A U' := ⟨h.1.keep hal hk, h.2⟩
/-- what place i of a char[]'s cell holds -/
def cv (A : Cell) (i : Nat) : Int32 := match A.slots[i]? with | some (.int x) => x | _ => 0
theorem Ch.get {a : Addr} {A : Cell} {U : State} (h : Ch a A U) {i : Nat} (hi : i < A.slots.size) : A.slots[i]? = some (.int (cv A i)) := by
  have e := Array.getElem?_eq_getElem hi
  have f := h.2 i _ e
  unfold cv; rw [e]
  generalize A.slots[i] = v at f
  cases v <;> simp [fits] at f ⊢
/-- the byte that i2b leaves of a char -/
def lo8 (x : Int32) : Int32 := x.toInt8.toInt32
theorem fits_lo8 (y : Int32) : fits .byte (.int (lo8 y)) = true := by
  have h1 := y.toInt8.le_toInt
  have h2 := y.toInt8.toInt_lt
  simp only [lo8, fits, Bool.and_eq_true, decide_eq_true_eq, Int32.le_iff_toInt_le, Int8.toInt_toInt32, show (-128 : Int32).toInt = -128 from by decide, show (127 : Int32).toInt = 127 from by decide]
  omega
/-- A' is A but that each place j of lo .. hi - 1 holds f j -/
def Laid (A A' : Cell) (lo hi : Nat) (f : Nat → Value) : Prop := A'.cls = A.cls ∧ A'.vm = A.vm ∧ A'.slots.size = A.slots.size ∧ ∀ i, A'.slots[i]? = if lo ≤ i ∧ i < hi then some (f i) else A.slots[i]?
theorem Laid.zero (A : Cell) (lo : Nat) (f : Nat → Value) : Laid A A lo (lo + 0) f := ⟨rfl, rfl, rfl, fun i => by rw [if_neg (by omega)]⟩
theorem Laid.step {A Ak : Cell} {lo k : Nat} {f : Nat → Value} {v : Value} (h : Laid A Ak lo k f) (hlo : lo ≤ k) (hk : k < Ak.slots.size) (hv : v = f k) : Laid A (Ak.setSlot k v) lo (k + 1) f := by
  refine ⟨h.1, h.2.1, by simpa [Cell.setSlot] using h.2.2.1, fun i => ?_⟩
  by_cases e : k = i
  · subst e; rw [Cell.slots_setSlot_self v hk, if_pos (by omega), hv]
  · rw [Cell.slots_setSlot_ne v e, h.2.2.2 i]
    by_cases q : lo ≤ i ∧ i < k
    · rw [if_pos q, if_pos (by omega)]
    · rw [if_neg q, if_neg (by omega)]
def U16 : String := "java/lang/StringUTF16"
namespace Cmp5
def yN : MethodName := ⟨"java/lang/StringUTF16", "compress", "([CI[BII)I"⟩
abbrev yB : ByteArray := jdk_52_method_21_code
theorem d0 : decode yB 0 = .ok (.iconst 0, 1) := by decide +kernel
theorem d1 : decode yB 1 = .ok (.istore 5, 2) := by decide +kernel
theorem d3 : decode yB 3 = .ok (.iload 5, 2) := by decide +kernel
theorem d5 : decode yB 5 = .ok (.iload 4, 2) := by decide +kernel
theorem d7 : decode yB 7 = .ok (.if_icmp (.ge) 37, 3) := by decide +kernel
theorem d10 : decode yB 10 = .ok (.aload_n 0, 1) := by decide +kernel
theorem d11 : decode yB 11 = .ok (.iload_n 1, 1) := by decide +kernel
theorem d12 : decode yB 12 = .ok (.caload, 1) := by decide +kernel
theorem d13 : decode yB 13 = .ok (.istore 6, 2) := by decide +kernel
theorem d15 : decode yB 15 = .ok (.iload 6, 2) := by decide +kernel
theorem d17 : decode yB 17 = .ok (.sipush 255, 3) := by decide +kernel
theorem d20 : decode yB 20 = .ok (.if_icmp (.le) 6, 3) := by decide +kernel
theorem d26 : decode yB 26 = .ok (.aload_n 2, 1) := by decide +kernel
theorem d27 : decode yB 27 = .ok (.iload_n 3, 1) := by decide +kernel
theorem d28 : decode yB 28 = .ok (.iload 6, 2) := by decide +kernel
theorem d30 : decode yB 30 = .ok (.i2b, 1) := by decide +kernel
theorem d31 : decode yB 31 = .ok (.bastore, 1) := by decide +kernel
theorem d32 : decode yB 32 = .ok (.iinc 1 1, 3) := by decide +kernel
theorem d35 : decode yB 35 = .ok (.iinc 3 1, 3) := by decide +kernel
theorem d38 : decode yB 38 = .ok (.iinc 5 1, 3) := by decide +kernel
theorem d41 : decode yB 41 = .ok (.goto (-38), 3) := by decide +kernel
theorem d44 : decode yB 44 = .ok (.iload 4, 2) := by decide +kernel
theorem d46 : decode yB 46 = .ok (.ireturn, 1) := by decide +kernel
def site : List Cond := []
def tab : Cond := tabOf yN yB 7 (some .int) site
def P (b : Addr) (A : Cell) (d : Addr) (B : Cell) (o q len : Nat) (args : Array Value) (s : State) : Prop := args = #[.ref b, .int (Int32.ofNat o), .ref d, .int (Int32.ofNat q), .int (Int32.ofNat len)] ∧ Ch b A s ∧ Arr .byte d B s ∧ b ≠ d ∧ o + len ≤ A.slots.size ∧ q + len ≤ B.slots.size ∧ ∀ i, i < len → ¬ 255 < cv A (o + i)
def E (b : Addr) (A : Cell) (d : Addr) (B : Cell) (o q len : Nat) (r : Option Value) (s u : State) : Prop := r = some (.int (Int32.ofNat len)) ∧ ∃ B', Put d B' s u ∧ Laid B B' q (q + len) (fun j => Value.int (lo8 (cv A (o + (j - q)))))
/-- no char of the range above 255: len; the places written hold each char's low byte -/
theorem law (l : Launch) (b : Addr) (A : Cell) (d : Addr) (B : Cell) (o q len : Nat) : Law l yN 5 5 0 0 yB 7 (some .int) site (P b A d B o q len) (E b A d B o q len) (copyLocs d q len) 0 0 := by
  refine Law.of_walk (plainFor_of_name (by decide +kernel)) (by decide +kernel) (by decide +kernel) (by decide) (fun _ _ h => by rw [h.1]; rfl) (fun _ U U' hal hh h => ⟨h.1, h.2.1.mv hal hh, h.2.2.1.mv hal hh, h.2.2.2⟩) (fun r U U' V V' h1 hal h2 h => ⟨h.1, h.2.elim fun B' q => ⟨B', q.1.mv h1 h2, q.2⟩⟩) ?_
  intro p e s m args below meth c s₁ X0 hexec hbytes hml hret hlk hnm hown hh0 W hP
  obtain ⟨rfl, hA, hB, hne, l1, l2, hp⟩ := hP
  have c1 : Steps p.tables e below (s₁.setTop (entryFrame m #[.ref b, .int (Int32.ofNat o), .ref d, .int (Int32.ofNat q), .int (Int32.ofNat len)] 7)) (s₁.setTop (mkF m 0 #[.val (.ref b), .val (.int (Int32.ofNat o)), .val (.ref d), .val (.int (Int32.ofNat q)), .val (.int (Int32.ofNat len)), .unset, .unset] [])) := entry rfl
  have hA0 := hA.1.mv X0.warmed.alike hh0
  have hB0 := hB.mv X0.warmed.alike hh0
  have a31 := hA.1.2.2.2
  have c2 : Steps p.tables e below (s₁.setTop (entryFrame m #[.ref b, .int (Int32.ofNat o), .ref d, .int (Int32.ofNat q), .int (Int32.ofNat len)] 7)) (s₁.setTop (mkF m 3 #[.val (.ref b), .val (.int (Int32.ofNat o)), .val (.ref d), .val (.int (Int32.ofNat q)), .val (.int (Int32.ofNat len)), .val (.int 0), .unset] [])) := c1.trans (by
    refine iconstV X0.here hexec rfl 0 (hb hbytes d0) (by decide) ?_
    refine XS.istore X0.here hexec rfl (hb hbytes d1) rfl rfl ?_
    exact Steps.refl _)
  have loop : ∀ (r i : Nat), i + r = len → ∀ (z : Slot), (z = .unset ∨ ∃ w, z = .val w ∧ w.category = 1) → ∀ (Tl : State) (Bk : Cell), Stand p l e { frames := 0, locals := 0, cells := 0, slots := 0 } s m #[.ref b, .int (Int32.ofNat o), .ref d, .int (Int32.ofNat q), .int (Int32.ofNat len)] below meth c Tl ([] ++ copyLocs d q i) 0 0 → Put d Bk s₁ Tl → Laid B Bk q (q + i) (fun j => Value.int (lo8 (cv A (o + (j - q))))) →
      Steps p.tables e below (s₁.setTop (entryFrame m #[.ref b, .int (Int32.ofNat o), .ref d, .int (Int32.ofNat q), .int (Int32.ofNat len)] 7)) (Tl.setTop (mkF m 3 #[.val (.ref b), .val (.int (Int32.ofNat (o + i))), .val (.ref d), .val (.int (Int32.ofNat (q + i))), .val (.int (Int32.ofNat len)), .val (.int (Int32.ofNat i)), z] [])) → ∃ (T' : State) (B' : Cell) (z' : Slot), Stand p l e { frames := 0, locals := 0, cells := 0, slots := 0 } s m #[.ref b, .int (Int32.ofNat o), .ref d, .int (Int32.ofNat q), .int (Int32.ofNat len)] below meth c T' ([] ++ copyLocs d q len) 0 0 ∧ Put d B' s₁ T' ∧ Laid B B' q (q + len) (fun j => Value.int (lo8 (cv A (o + (j - q))))) ∧
      Steps p.tables e below (s₁.setTop (entryFrame m #[.ref b, .int (Int32.ofNat o), .ref d, .int (Int32.ofNat q), .int (Int32.ofNat len)] 7)) (T'.setTop (mkF m 3 #[.val (.ref b), .val (.int (Int32.ofNat (o + len))), .val (.ref d), .val (.int (Int32.ofNat (q + len))), .val (.int (Int32.ofNat len)), .val (.int (Int32.ofNat len)), z'] [])) := by
    intro r
    induction r with
    | zero =>
      intro i hi z hz Tl Bk Xl pl fl cl
      have hil : i = len := by omega
      rw [hil] at Xl fl cl
      exact ⟨Tl, Bk, z, Xl, pl, fl, cl⟩
    | succ r ih =>
      intro i hi z hz Tl Bk Xl pl fl cl
      have all := X0.warmed.alike.symm.trans Xl.warmed.alike
      have hAl := hA0.keep all (pl.other hne hA0.1)
      have hBk := hB0.like all pl.1 fl.1 fl.2.1 fl.2.2.1
      have hlt : q + i < Bk.slots.size := by rw [fl.2.2.1]; omega
      have c3 : Steps p.tables e below (s₁.setTop (entryFrame m #[.ref b, .int (Int32.ofNat o), .ref d, .int (Int32.ofNat q), .int (Int32.ofNat len)] 7)) (Tl.setTop (mkF m 12 #[.val (.ref b), .val (.int (Int32.ofNat (o + i))), .val (.ref d), .val (.int (Int32.ofNat (q + i))), .val (.int (Int32.ofNat len)), .val (.int (Int32.ofNat i)), z] [.int (Int32.ofNat (o + i)), .ref b])) := cl.trans (by
        refine XS.iload Xl.here hexec rfl (hb hbytes d3) rfl ?_
        refine XS.iload Xl.here hexec rfl (hb hbytes d5) rfl ?_
        refine XS.icmpNo Xl.here hexec rfl (hb hbytes d7) rfl (ii_ge_f (lt32 (by omega) (by omega))) ?_
        refine XS.aloadN Xl.here hexec rfl (hb hbytes d10) rfl rfl ?_
        refine XS.iloadN Xl.here hexec rfl (hb hbytes d11) rfl ?_
        exact Steps.refl _)
      have c4 : Steps p.tables e below (s₁.setTop (entryFrame m #[.ref b, .int (Int32.ofNat o), .ref d, .int (Int32.ofNat q), .int (Int32.ofNat len)] 7)) (Tl.setTop (mkF m 13 #[.val (.ref b), .val (.int (Int32.ofNat (o + i))), .val (.ref d), .val (.int (Int32.ofNat (q + i))), .val (.int (Int32.ofNat len)), .val (.int (Int32.ofNat i)), z] [.int (cv A (o + i))])) := c3.trans (by
        refine Xl.aget hexec hAl rfl (hA.get (i := o + i) (by omega)) rfl rfl (hb hbytes d12) ?_
        exact Steps.refl _)
      have c5 : Steps p.tables e below (s₁.setTop (entryFrame m #[.ref b, .int (Int32.ofNat o), .ref d, .int (Int32.ofNat q), .int (Int32.ofNat len)] 7)) (Tl.setTop (mkF m 15 #[.val (.ref b), .val (.int (Int32.ofNat (o + i))), .val (.ref d), .val (.int (Int32.ofNat (q + i))), .val (.int (Int32.ofNat len)), .val (.int (Int32.ofNat i)), .val (.int (cv A (o + i)))] [])) := c4.trans (by
        refine XS.istoreS Xl.here hexec rfl (hb hbytes d13) rfl rfl hz ?_
        exact Steps.refl _)
      have c6 : Steps p.tables e below (s₁.setTop (entryFrame m #[.ref b, .int (Int32.ofNat o), .ref d, .int (Int32.ofNat q), .int (Int32.ofNat len)] 7)) (Tl.setTop (mkF m 31 #[.val (.ref b), .val (.int (Int32.ofNat (o + i))), .val (.ref d), .val (.int (Int32.ofNat (q + i))), .val (.int (Int32.ofNat len)), .val (.int (Int32.ofNat i)), .val (.int (cv A (o + i)))] [.int (lo8 (cv A (o + i))), .int (Int32.ofNat (q + i)), .ref d])) := c5.trans (by
        refine XS.iload Xl.here hexec rfl (hb hbytes d15) rfl ?_
        refine sipushV Xl.here hexec rfl 255 (hb hbytes d17) (by decide) ?_
        refine XS.icmpYes Xl.here hexec rfl (pc0 := 20) rfl (hb hbytes d20) rfl (ii_le_t (hp i (by omega))) (by decide) rfl ?_
        refine XS.aloadN Xl.here hexec rfl (hb hbytes d26) rfl rfl ?_
        refine XS.iloadN Xl.here hexec rfl (hb hbytes d27) rfl ?_
        refine XS.iload Xl.here hexec rfl (hb hbytes d28) rfl ?_
        refine i2b Xl.here hexec rfl (hb hbytes d30) rfl ?_
        exact Steps.refl _)
      obtain ⟨T7, X7, p7, st7⟩ := Xl.aput hexec hBk rfl hlt rfl (fits_lo8 (cv A (o + i))) (g := (mkF m 31 #[.val (.ref b), .val (.int (Int32.ofNat (o + i))), .val (.ref d), .val (.int (Int32.ofNat (q + i))), .val (.int (Int32.ofNat len)), .val (.int (Int32.ofNat i)), .val (.int (cv A (o + i)))] [.int (lo8 (cv A (o + i))), .int (Int32.ofNat (q + i)), .ref d])) rfl (rest := []) rfl (hb hbytes d31)
      have c8 : Steps p.tables e below (s₁.setTop (entryFrame m #[.ref b, .int (Int32.ofNat o), .ref d, .int (Int32.ofNat q), .int (Int32.ofNat len)] 7)) (T7.setTop (mkF m 32 #[.val (.ref b), .val (.int (Int32.ofNat (o + i))), .val (.ref d), .val (.int (Int32.ofNat (q + i))), .val (.int (Int32.ofNat len)), .val (.int (Int32.ofNat i)), .val (.int (cv A (o + i)))] [])) := c6.trans (st7 _ (Steps.refl _))
      have c9 : Steps p.tables e below (s₁.setTop (entryFrame m #[.ref b, .int (Int32.ofNat o), .ref d, .int (Int32.ofNat q), .int (Int32.ofNat len)] 7)) (T7.setTop (mkF m 3 #[.val (.ref b), .val (.int (Int32.ofNat (o + i) + 1)), .val (.ref d), .val (.int (Int32.ofNat (q + i) + 1)), .val (.int (Int32.ofNat len)), .val (.int (Int32.ofNat i + 1)), .val (.int (cv A (o + i)))] [])) := c8.trans (by
        refine iincV X7.here hexec rfl 1 (hb hbytes d32) (by decide) rfl rfl ?_
        refine iincV X7.here hexec rfl 1 (hb hbytes d35) (by decide) rfl rfl ?_
        refine iincV X7.here hexec rfl 1 (hb hbytes d38) (by decide) rfl rfl ?_
        refine XS.goto X7.here hexec rfl (pc0 := 41) rfl (hb hbytes d41) (by decide) rfl ?_
        exact Steps.refl _)
      have c10 : Steps p.tables e below (s₁.setTop (entryFrame m #[.ref b, .int (Int32.ofNat o), .ref d, .int (Int32.ofNat q), .int (Int32.ofNat len)] 7)) (T7.setTop (mkF m 3 #[.val (.ref b), .val (.int (Int32.ofNat (o + (i + 1)))), .val (.ref d), .val (.int (Int32.ofNat (q + (i + 1)))), .val (.int (Int32.ofNat len)), .val (.int (Int32.ofNat (i + 1))), .val (.int (cv A (o + i)))] [])) := by
        have := c9
        rw [succ32, succ32, succ32] at this
        exact this
      exact ih (i + 1) (by omega) _ (Or.inr ⟨_, rfl, rfl⟩) T7 _ (by rw [copyLocs_step, ← List.append_assoc]; exact X7) (pl.trans p7) (fl.step (by omega) hlt (by simp)) c10
  obtain ⟨T9, B9, z9, X9, p9, f9, g9⟩ := loop len 0 (by omega) .unset (Or.inl rfl) s₁ B (by simpa [copyLocs] using X0) ⟨hB0.1, fun _ _ => rfl, rfl⟩ (Laid.zero _ _ _) c2
  have c11 : Steps p.tables e below (s₁.setTop (entryFrame m #[.ref b, .int (Int32.ofNat o), .ref d, .int (Int32.ofNat q), .int (Int32.ofNat len)] 7)) (T9.setTop (mkF m 46 #[.val (.ref b), .val (.int (Int32.ofNat (o + len))), .val (.ref d), .val (.int (Int32.ofNat (q + len))), .val (.int (Int32.ofNat len)), .val (.int (Int32.ofNat len)), z9] [.int (Int32.ofNat len)])) := g9.trans (by
    refine XS.iload X9.here hexec rfl (hb hbytes d3) rfl ?_
    refine XS.iload X9.here hexec rfl (hb hbytes d5) rfl ?_
    refine XS.icmpYes X9.here hexec rfl (pc0 := 7) rfl (hb hbytes d7) rfl (ii_ge_t (nlt32 (by omega) (Nat.le_refl _))) (by decide) rfl ?_
    refine XS.iload X9.here hexec rfl (hb hbytes d44) rfl ?_
    exact Steps.refl _)
  exact ⟨T9, some (.int (Int32.ofNat len)), _, _, _, X9, by simp, rfl, rfl, (fun h => by cases h), ⟨rfl, B9, p9.from hh0, f9⟩, fun fs hl => c11.trans (X9.ireturnOut hexec hret rfl (Or.inl rfl) (hb hbytes d46) hl)⟩
end Cmp5
namespace Cmp3
def yN : MethodName := ⟨"java/lang/StringUTF16", "compress", "([CII)[B"⟩
abbrev yB : ByteArray := jdk_52_method_16_code
theorem d0 : decode yB 0 = .ok (.iload_n 2, 1) := by decide +kernel
theorem d1 : decode yB 1 = .ok (.newarray .byte, 2) := by decide +kernel
theorem d3 : decode yB 3 = .ok (.astore_n 3, 1) := by decide +kernel
theorem d4 : decode yB 4 = .ok (.aload_n 0, 1) := by decide +kernel
theorem d5 : decode yB 5 = .ok (.iload_n 1, 1) := by decide +kernel
theorem d6 : decode yB 6 = .ok (.aload_n 3, 1) := by decide +kernel
theorem d7 : decode yB 7 = .ok (.iconst 0, 1) := by decide +kernel
theorem d8 : decode yB 8 = .ok (.iload_n 2, 1) := by decide +kernel
theorem d9 : decode yB 9 = .ok (.invokestatic 115, 3) := by decide +kernel
theorem d12 : decode yB 12 = .ok (.istore 4, 2) := by decide +kernel
theorem d14 : decode yB 14 = .ok (.iload 4, 2) := by decide +kernel
theorem d16 : decode yB 16 = .ok (.iload_n 2, 1) := by decide +kernel
theorem d17 : decode yB 17 = .ok (.if_icmp (.eq) 40, 3) := by decide +kernel
theorem d57 : decode yB 57 = .ok (.aload_n 3, 1) := by decide +kernel
theorem d58 : decode yB 58 = .ok (.areturn, 1) := by decide +kernel
def site : List Cond := [.arrayClass .byte, Cmp5.tab] ++ staticW U16 115 Cmp5.yN
def tab : Cond := tabOf yN yB 6 (some (.array .byte)) site
def P (b : Addr) (A : Cell) (o len : Nat) (args : Array Value) (s : State) : Prop := args = #[.ref b, .int (Int32.ofNat o), .int (Int32.ofNat len)] ∧ Ch b A s ∧ o + len ≤ A.slots.size ∧ len ≤ 536870912 ∧ ∀ i, i < len → ¬ 255 < cv A (o + i)
def E (b : Addr) (A : Cell) (o len : Nat) (r : Option Value) (s u : State) : Prop := NewArr .byte "[B" len (fun j => .int (lo8 (cv A (o + j)))) r s u ∧ u.heap.size = s.heap.size + 1
/-- no char of the range above 255: a new byte[] of their low bytes -/
theorem law (l : Launch) (b : Addr) (A : Cell) (o len : Nat) : Law l yN 3 3 1 18 yB 6 (some (.array .byte)) site (P b A o len) (E b A o len) [] 1 len := by
  refine Law.of_walk (plainFor_of_name (by decide +kernel)) (by decide +kernel) (by decide +kernel) (by decide) (fun _ _ h => by rw [h.1]; rfl) (fun _ U U' hal hh h => ⟨h.1, h.2.1.mv hal hh, h.2.2⟩) (fun r U U' V V' h1 hal h2 h => ⟨NewArr.mv r U U' V V' h1 hal h2 h.1, by rw [h1, h2]; exact h.2⟩) ?_
  intro p e s m args below meth c s₁ X0 hexec hbytes hml hret hlk hnm hown hh0 W hP
  obtain ⟨rfl, hA, l1, l2, hp⟩ := hP
  have a31 := hA.1.2.2.2
  have c1 : Steps p.tables e below (s₁.setTop (entryFrame m #[.ref b, .int (Int32.ofNat o), .int (Int32.ofNat len)] 6)) (s₁.setTop (mkF m 0 #[.val (.ref b), .val (.int (Int32.ofNat o)), .val (.int (Int32.ofNat len)), .unset, .unset, .unset] [])) := entry rfl
  have c2 : Steps p.tables e below (s₁.setTop (entryFrame m #[.ref b, .int (Int32.ofNat o), .int (Int32.ofNat len)] 6)) (s₁.setTop (mkF m 1 #[.val (.ref b), .val (.int (Int32.ofNat o)), .val (.int (Int32.ofNat len)), .unset, .unset, .unset] [.int (Int32.ofNat len)])) := c1.trans (by
    refine XS.iloadN X0.here hexec rfl (hb hbytes d0) rfl ?_
    exact Steps.refl _)
  obtain ⟨T3, B3, X3, ba3, bs3, bv3, bh3, bf3, st3⟩ := X0.anew hexec (atype := .byte) (wk W (.arrayClass .byte)) rfl (by show len * 1 ≤ _; omega) (by omega) (g := (mkF m 1 #[.val (.ref b), .val (.int (Int32.ofNat o)), .val (.int (Int32.ofNat len)), .unset, .unset, .unset] [.int (Int32.ofNat len)])) rfl (hb hbytes d1) (rest := []) rfl (Nat.le_refl _) (by show 0 + len ≤ len; omega)
  rw [hh0] at ba3 st3
  have kp3 : XT.Kept s T3 := (XT.Kept.of_eq hh0).push bh3
  have hA3 := hA.keep X3.warmed.alike (kp3 _ _ hA.1.1)
  have hne : b ≠ s.heap.size := hA.1.ne
  have c4 : Steps p.tables e below (s₁.setTop (entryFrame m #[.ref b, .int (Int32.ofNat o), .int (Int32.ofNat len)] 6)) (T3.setTop (mkF m 3 #[.val (.ref b), .val (.int (Int32.ofNat o)), .val (.int (Int32.ofNat len)), .unset, .unset, .unset] [.ref s.heap.size])) := c2.trans (st3 _ (Steps.refl _))
  have c5 : Steps p.tables e below (s₁.setTop (entryFrame m #[.ref b, .int (Int32.ofNat o), .int (Int32.ofNat len)] 6)) (T3.setTop (mkF m 9 #[.val (.ref b), .val (.int (Int32.ofNat o)), .val (.int (Int32.ofNat len)), .val (.ref s.heap.size), .unset, .unset] [.int (Int32.ofNat len), .int 0, .ref s.heap.size, .int (Int32.ofNat o), .ref b])) := c4.trans (by
    refine XS.astoreN X3.here hexec rfl (hb hbytes d3) rfl rfl rfl ?_
    refine XS.aloadN X3.here hexec rfl (hb hbytes d4) rfl rfl ?_
    refine XS.iloadN X3.here hexec rfl (hb hbytes d5) rfl ?_
    refine XS.aloadN X3.here hexec rfl (hb hbytes d6) rfl rfl ?_
    refine iconstV X3.here hexec rfl 0 (hb hbytes d7) (by decide) ?_
    refine XS.iloadN X3.here hexec rfl (hb hbytes d8) rfl ?_
    exact Steps.refl _)
  obtain ⟨v6, T6, X6, E6, g6⟩ := X3.callS hexec (Cmp5.law l b A s.heap.size B3 o 0 len) hown (wks W (staticW U16 115 Cmp5.yN)) (wk W Cmp5.tab) (W := 0) (Nat.le_of_ble_eq_true rfl) (Nat.le_of_ble_eq_true rfl) (Nat.le_refl _) (by show 0 + len + 0 ≤ len; omega) (g := (mkF m 9 #[.val (.ref b), .val (.int (Int32.ofNat o)), .val (.int (Int32.ofNat len)), .val (.ref s.heap.size), .unset, .unset] [.int (Int32.ofNat len), .int (Int32.ofNat 0), .ref s.heap.size, .int (Int32.ofNat o), .ref b])) rfl (by rw [hml]; rfl) c5 (argsL := [.ref b, .int (Int32.ofNat o), .ref s.heap.size, .int (Int32.ofNat 0), .int (Int32.ofNat len)]) (rest := []) rfl rfl (by show 2 * 0 + 0 ≤ _; decide) (hb hbytes d9) (⟨rfl, hA3, ba3, hne, l1, by rw [bs3]; simp, hp⟩)
  obtain ⟨rfl, B6, p6, f6⟩ := E6
  have c7 : Steps p.tables e below (s₁.setTop (entryFrame m #[.ref b, .int (Int32.ofNat o), .int (Int32.ofNat len)] 6)) (T6.setTop (mkF m 12 #[.val (.ref b), .val (.int (Int32.ofNat o)), .val (.int (Int32.ofNat len)), .val (.ref s.heap.size), .unset, .unset] [.int (Int32.ofNat len)])) := g6
  have c8 : Steps p.tables e below (s₁.setTop (entryFrame m #[.ref b, .int (Int32.ofNat o), .int (Int32.ofNat len)] 6)) (T6.setTop (mkF m 58 #[.val (.ref b), .val (.int (Int32.ofNat o)), .val (.int (Int32.ofNat len)), .val (.ref s.heap.size), .val (.int (Int32.ofNat len)), .unset] [.ref s.heap.size])) := c7.trans (by
    refine XS.istore X6.here hexec rfl (hb hbytes d12) rfl rfl ?_
    refine XS.iload X6.here hexec rfl (hb hbytes d14) rfl ?_
    refine XS.iloadN X6.here hexec rfl (hb hbytes d16) rfl ?_
    refine XS.icmpYes X6.here hexec rfl (pc0 := 17) rfl (hb hbytes d17) rfl (ii_eq_t rfl) (by decide) rfl ?_
    refine XS.aloadN X6.here hexec rfl (hb hbytes d57) rfl rfl ?_
    exact Steps.refl _)
  have X8 := X6.wide (L' := []) (cells' := 1) (slots' := len) (fun x hx hlt => by
    simp only [List.nil_append, copyLocs, List.mem_map, List.mem_range] at hx
    obtain ⟨i, -, rfl⟩ := hx
    exact absurd hlt (Nat.lt_irrefl _)) (Nat.le_refl _) (by omega)
  exact ⟨T6, some (.ref s.heap.size), _, _, _, X8, rfl, rfl, rfl, (fun h => by cases h), ⟨⟨rfl, B6, ba3.like (X3.warmed.alike.symm.trans X6.warmed.alike) p6.1 f6.1 f6.2.1 f6.2.2.1, f6.2.1.trans bv3, by rw [X6.warmed.alike.findClass, f6.1]; exact bf3, by rw [f6.2.2.1, bs3]; simp, fun j hj => by rw [f6.2.2.2 j, if_pos (by omega)]; rfl, kp3.put p6 (Nat.le_refl _)⟩, by rw [p6.2.2, bh3, hh0]; simp⟩, fun fs hl => c8.trans (X8.areturnOut hexec rfl hret rfl (hb hbytes d58) hl)⟩
end Cmp3
namespace CodL
def yN : MethodName := ⟨"java/lang/StringUTF16", "coderFromArrayLen", "([BI)B"⟩
abbrev yB : ByteArray := jdk_52_method_15_code
theorem d0 : decode yB 0 = .ok (.iload_n 1, 1) := by decide +kernel
theorem d1 : decode yB 1 = .ok (.aload_n 0, 1) := by decide +kernel
theorem d2 : decode yB 2 = .ok (.arraylength, 1) := by decide +kernel
theorem d3 : decode yB 3 = .ok (.isub, 1) := by decide +kernel
theorem d4 : decode yB 4 = .ok (.bipush 31, 2) := by decide +kernel
theorem d6 : decode yB 6 = .ok (.iushr, 1) := by decide +kernel
theorem d7 : decode yB 7 = .ok (.i2b, 1) := by decide +kernel
theorem d8 : decode yB 8 = .ok (.ireturn, 1) := by decide +kernel
def site : List Cond := []
def tab : Cond := tabOf yN yB 2 (some .byte) site
def P (d : Addr) (B : Cell) (args : Array Value) (s : State) : Prop := args = #[.ref d, .int (Int32.ofNat B.slots.size)] ∧ Arr .byte d B s
def E (r : Option Value) (s u : State) : Prop := XT.PureE (some (.int 0)) r s u
/-- an array as long as the number of chars: LATIN1 -/
theorem law (l : Launch) (d : Addr) (B : Cell) : Law l yN 2 2 0 0 yB 2 (some .byte) site (P d B) E [] 0 0 := by
  refine Law.of_walk (plainFor_of_name (by decide +kernel)) (by decide +kernel) (by decide +kernel) (by decide) (fun _ _ h => by rw [h.1]; rfl) (fun _ U U' hal hh h => ⟨h.1, h.2.mv hal hh⟩) (fun r U U' V V' h1 hal h2 h => XT.PureE.mv r U U' V V' h1 hal h2 h) ?_
  intro p e s m args below meth c s₁ X0 hexec hbytes hml hret hlk hnm hown hh0 W hP
  obtain ⟨rfl, hB⟩ := hP
  have hB0 := hB.mv X0.warmed.alike hh0
  have c1 : Steps p.tables e below (s₁.setTop (entryFrame m #[.ref d, .int (Int32.ofNat B.slots.size)] 2)) (s₁.setTop (mkF m 0 #[.val (.ref d), .val (.int (Int32.ofNat B.slots.size))] [])) := entry rfl
  have c2 : Steps p.tables e below (s₁.setTop (entryFrame m #[.ref d, .int (Int32.ofNat B.slots.size)] 2)) (s₁.setTop (mkF m 2 #[.val (.ref d), .val (.int (Int32.ofNat B.slots.size))] [.ref d, .int (Int32.ofNat B.slots.size)])) := c1.trans (by
    refine XS.iloadN X0.here hexec rfl (hb hbytes d0) rfl ?_
    refine XS.aloadN X0.here hexec rfl (hb hbytes d1) rfl rfl ?_
    exact Steps.refl _)
  have c3 : Steps p.tables e below (s₁.setTop (entryFrame m #[.ref d, .int (Int32.ofNat B.slots.size)] 2)) (s₁.setTop (mkF m 8 #[.val (.ref d), .val (.int (Int32.ofNat B.slots.size))] [.int (lo8 (ushr (Int32.ofNat B.slots.size - Int32.ofNat B.slots.size) 31))])) := c2.trans (by
    refine X0.alen hexec hB0 rfl rfl (hb hbytes d2) ?_
    refine XS.isub X0.here hexec rfl (hb hbytes d3) rfl ?_
    refine bipushV X0.here hexec rfl 31 (hb hbytes d4) (by decide) ?_
    refine iushr X0.here hexec rfl (hb hbytes d6) rfl ?_
    refine i2b X0.here hexec rfl (hb hbytes d7) rfl ?_
    exact Steps.refl _)
  have e0 : lo8 (ushr (Int32.ofNat B.slots.size - Int32.ofNat B.slots.size) 31) = 0 := by rw [Int32.sub_self]; decide
  rw [e0] at c3
  exact ⟨s₁, some (.int 0), _, _, _, X0, rfl, rfl, rfl, (fun h => by cases h), ⟨rfl, hh0⟩, fun fs hl => c3.trans (X0.ireturnOut hexec hret rfl (Or.inr (Or.inr (Or.inl rfl))) (hb hbytes d8) hl)⟩
end CodL
/-- the String at a is Latin-1 over a new byte[] (the heap's one new cell): the low bytes of the len chars of A from o on; every cell but a is kept -/
def Got (a : Addr) (D : Cell) (fV fC : Field) (A : Cell) (o len : Nat) (r : Option Value) (s u : State) : Prop := r = none ∧ ∃ D' V : Cell, Blank "java/lang/String" a D' u ∧ Same D D' [fV.slot, fC.slot] ∧ D'.slots[fV.slot]? = some (.ref s.heap.size) ∧ D'.slots[fC.slot]? = some (.int 0) ∧ Arr .byte s.heap.size V u ∧ V.vm = .none ∧ u.vm.findClass "[B" = some V.cls ∧ V.slots.size = len ∧ (∀ j, j < len → V.slots[j]? = some (.int (lo8 (cv A (o + j))))) ∧ (∀ (y : Addr) (c : Cell), y ≠ a → s.heap[y]? = some c → u.heap[y]? = some c) ∧ u.heap.size = s.heap.size + 1
theorem Got.mv {a : Addr} {D A : Cell} {fV fC : Field} {o len : Nat} : ∀ r (U U' V V' : State), U'.heap = U.heap → V.vm.Alike V'.vm → V'.heap = V.heap → Got a D fV fC A o len r U V → Got a D fV fC A o len r U' V' :=
  fun r U U' V V' h1 hal h2 ⟨e0, D', X, a1, a2, a3, a4, a5, a6, a7, a8, a9, a10, a11⟩ => ⟨e0, D', X, a1.mv hal h2, a2, by rw [h1]; exact a3, a4, by rw [h1]; exact a5.mv hal h2, a6, by rw [hal.findClass]; exact a7, a8, a9, by rw [h1, h2]; exact a10, by rw [h1, h2]; exact a11⟩
namespace New4
def yN : MethodName := ⟨"java/lang/String", "<init>", "([CIILjava/lang/Void;)V"⟩
abbrev yB : ByteArray := jdk_42_method_149_code
theorem d0 : decode yB 0 = .ok (.aload_n 0, 1) := by decide +kernel
theorem d1 : decode yB 1 = .ok (.invokespecial 1, 3) := by decide +kernel
theorem d4 : decode yB 4 = .ok (.iload_n 3, 1) := by decide +kernel
theorem d5 : decode yB 5 = .ok (.ifCond (.ne) 22, 3) := by decide +kernel
theorem d27 : decode yB 27 = .ok (.getstatic 38, 3) := by decide +kernel
theorem d30 : decode yB 30 = .ok (.ifCond (.eq) 28, 3) := by decide +kernel
theorem d33 : decode yB 33 = .ok (.aload_n 1, 1) := by decide +kernel
theorem d34 : decode yB 34 = .ok (.iload_n 2, 1) := by decide +kernel
theorem d35 : decode yB 35 = .ok (.iload_n 3, 1) := by decide +kernel
theorem d36 : decode yB 36 = .ok (.invokestatic 177, 3) := by decide +kernel
theorem d39 : decode yB 39 = .ok (.astore 5, 2) := by decide +kernel
theorem d41 : decode yB 41 = .ok (.aload_n 0, 1) := by decide +kernel
theorem d42 : decode yB 42 = .ok (.aload 5, 2) := by decide +kernel
theorem d44 : decode yB 44 = .ok (.iload_n 3, 1) := by decide +kernel
theorem d45 : decode yB 45 = .ok (.invokestatic 47, 3) := by decide +kernel
theorem d48 : decode yB 48 = .ok (.putfield 15, 3) := by decide +kernel
theorem d51 : decode yB 51 = .ok (.aload_n 0, 1) := by decide +kernel
theorem d52 : decode yB 52 = .ok (.aload 5, 2) := by decide +kernel
theorem d54 : decode yB 54 = .ok (.putfield 9, 3) := by decide +kernel
theorem d57 : decode yB 57 = .ok (.return_, 1) := by decide +kernel
def site : List Cond := [.fieldLink "java/lang/String" 38 "java/lang/String" "COMPACT_STRINGS" "Z", Cmp3.tab, CodL.tab, .laysFinal "java/lang/String" "java/lang/String" "value" "[B", .fieldLink "java/lang/String" 9 "java/lang/String" "value" "[B", .laysFinal "java/lang/String" "java/lang/String" "coder" "B", .fieldLink "java/lang/String" 15 "java/lang/String" "coder" "B"] ++ objW "java/lang/String" 1 ++ staticW "java/lang/String" 177 Cmp3.yN ++ staticW "java/lang/String" 47 CodL.yN
def tab : Cond := tabOf yN yB 6 none site
def P (a : Addr) (D : Cell) (fV fC : Field) (b : Addr) (A : Cell) (z : Int32) (o len : Nat) (args : Array Value) (s : State) : Prop := args = #[.ref a, .ref b, .int (Int32.ofNat o), .int (Int32.ofNat len), .null] ∧ Blank "java/lang/String" a D s ∧ Found "java/lang/String" "value" "[B" fV s ∧ Found "java/lang/String" "coder" "B" fC s ∧ Ch b A s ∧ StaticIs s "java/lang/String" "COMPACT_STRINGS" "Z" (.int z) ∧ ¬ z = 0 ∧ 0 < len ∧ o + len ≤ A.slots.size ∧ len ≤ 536870912 ∧ ∀ i, i < len → ¬ 255 < cv A (o + i)
def E (a : Addr) (D : Cell) (fV fC : Field) (A : Cell) (o len : Nat) (r : Option Value) (s u : State) : Prop := Got a D fV fC A o len r s u
/-- len > 0, no char of the range above 255: a Latin-1 String of their low bytes -/
theorem law (l : Launch) (a : Addr) (D : Cell) (fV fC : Field) (b : Addr) (A : Cell) (z : Int32) (o len : Nat) : Law l yN 5 4 2 35 yB 6 none site (P a D fV fC b A z o len) (E a D fV fC A o len) [⟨a, fC.slot⟩, ⟨a, fV.slot⟩] 1 len := by
  refine Law.of_walk (plainFor_of_name (by decide +kernel)) (by decide +kernel) (by decide +kernel) (by decide) (fun _ _ h => by rw [h.1]; rfl) (fun _ U U' hal hh h => ⟨h.1, h.2.1.mv hal hh, h.2.2.1.al hal, h.2.2.2.1.al hal, h.2.2.2.2.1.mv hal hh, h.2.2.2.2.2.1.there hal hh, h.2.2.2.2.2.2⟩) (fun r U U' V V' h1 hal h2 h => Got.mv r U U' V V' h1 hal h2 h) ?_
  intro p e s m args below meth c s₁ X0 hexec hbytes hml hret hlk hnm hown hh0 W hP
  obtain ⟨rfl, hB, f1, f2, hA, s1, hz, l0, l1, l2, hp⟩ := hP
  have a31 := hA.1.2.2.2
  have c1 : Steps p.tables e below (s₁.setTop (entryFrame m #[.ref a, .ref b, .int (Int32.ofNat o), .int (Int32.ofNat len), .null] 6)) (s₁.setTop (mkF m 0 #[.val (.ref a), .val (.ref b), .val (.int (Int32.ofNat o)), .val (.int (Int32.ofNat len)), .val .null, .unset] [])) := entry rfl
  have c2 : Steps p.tables e below (s₁.setTop (entryFrame m #[.ref a, .ref b, .int (Int32.ofNat o), .int (Int32.ofNat len), .null] 6)) (s₁.setTop (mkF m 1 #[.val (.ref a), .val (.ref b), .val (.int (Int32.ofNat o)), .val (.int (Int32.ofNat len)), .val .null, .unset] [.ref a])) := c1.trans (by
    refine XS.aloadN X0.here hexec rfl (hb hbytes d0) rfl rfl ?_
    exact Steps.refl _)
  obtain ⟨T3, X3, q3, st3⟩ := X0.oinit hexec hown (wks W (objW "java/lang/String" 1)) (g := (mkF m 1 #[.val (.ref a), .val (.ref b), .val (.int (Int32.ofNat o)), .val (.int (Int32.ofNat len)), .val .null, .unset] [.ref a])) rfl (by rw [hml]; rfl) (rest := []) rfl (hb hbytes d1) (W := 0) (by show 2 * 0 + 0 ≤ _; decide) (Nat.le_of_ble_eq_true rfl) (Nat.le_of_ble_eq_true rfl)
  have hh3 := q3.trans hh0
  have c4 : Steps p.tables e below (s₁.setTop (entryFrame m #[.ref a, .ref b, .int (Int32.ofNat o), .int (Int32.ofNat len), .null] 6)) (T3.setTop (mkF m 27 #[.val (.ref a), .val (.ref b), .val (.int (Int32.ofNat o)), .val (.int (Int32.ofNat len)), .val .null, .unset] [])) := (c2.trans (st3 _ (Steps.refl _))).trans (by
    refine XS.iloadN X3.here hexec rfl (hb hbytes d4) rfl ?_
    refine XS.ifYes X3.here hexec rfl (pc0 := 5) rfl (hb hbytes d5) rfl (i0_ne_t (nz32 (by omega) l0)) (by decide) rfl ?_
    exact Steps.refl _)
  obtain ⟨T5, X5, q5, st5⟩ := X3.sget hexec hown (wk W (.fieldLink "java/lang/String" 38 "java/lang/String" "COMPACT_STRINGS" "Z")) s1 (fun _ _ h => by rw [hh3]; exact h) (g := (mkF m 27 #[.val (.ref a), .val (.ref b), .val (.int (Int32.ofNat o)), .val (.int (Int32.ofNat len)), .val .null, .unset] [])) rfl (hb hbytes d27)
  have hh5 := q5.trans hh3
  have c6 : Steps p.tables e below (s₁.setTop (entryFrame m #[.ref a, .ref b, .int (Int32.ofNat o), .int (Int32.ofNat len), .null] 6)) (T5.setTop (mkF m 30 #[.val (.ref a), .val (.ref b), .val (.int (Int32.ofNat o)), .val (.int (Int32.ofNat len)), .val .null, .unset] [.int z])) := c4.trans (st5 _ (Steps.refl _))
  have c7 : Steps p.tables e below (s₁.setTop (entryFrame m #[.ref a, .ref b, .int (Int32.ofNat o), .int (Int32.ofNat len), .null] 6)) (T5.setTop (mkF m 36 #[.val (.ref a), .val (.ref b), .val (.int (Int32.ofNat o)), .val (.int (Int32.ofNat len)), .val .null, .unset] [.int (Int32.ofNat len), .int (Int32.ofNat o), .ref b])) := c6.trans (by
    refine XS.ifNo X5.here hexec rfl (hb hbytes d30) rfl (i0_eq_f hz) ?_
    refine XS.aloadN X5.here hexec rfl (hb hbytes d33) rfl rfl ?_
    refine XS.iloadN X5.here hexec rfl (hb hbytes d34) rfl ?_
    refine XS.iloadN X5.here hexec rfl (hb hbytes d35) rfl ?_
    exact Steps.refl _)
  obtain ⟨v8, T8, X8, E8, g8⟩ := X5.callS hexec (Cmp3.law l b A o len) hown (wks W (staticW "java/lang/String" 177 Cmp3.yN)) (wk W Cmp3.tab) (W := 0) (Nat.le_of_ble_eq_true rfl) (Nat.le_of_ble_eq_true rfl) (Nat.le_refl _) (by show 0 + len ≤ len; omega) (g := (mkF m 36 #[.val (.ref a), .val (.ref b), .val (.int (Int32.ofNat o)), .val (.int (Int32.ofNat len)), .val .null, .unset] [.int (Int32.ofNat len), .int (Int32.ofNat o), .ref b])) rfl (by rw [hml]; rfl) c7 (argsL := [.ref b, .int (Int32.ofNat o), .int (Int32.ofNat len)]) (rest := []) rfl rfl (by show 2 * 0 + 0 ≤ _; decide) (hb hbytes d36) (⟨rfl, hA.mv X5.warmed.alike hh5, l1, l2, hp⟩)
  obtain ⟨e8, z8⟩ := E8
  obtain ⟨rfl, N, n1, n2, n3, n4, n5, n6⟩ := NewArr.mv _ T5 s _ _ hh5.symm (Vm.Alike.refl _) rfl e8
  rw [hh5] at z8
  have hB1 := hB.keep X8.warmed.alike (n6 _ _ hB.1)
  have hne : s.heap.size ≠ a := (Nat.ne_of_lt (Array.getElem?_eq_some_iff.mp hB.1).1).symm
  have c9 : Steps p.tables e below (s₁.setTop (entryFrame m #[.ref a, .ref b, .int (Int32.ofNat o), .int (Int32.ofNat len), .null] 6)) (T8.setTop (mkF m 39 #[.val (.ref a), .val (.ref b), .val (.int (Int32.ofNat o)), .val (.int (Int32.ofNat len)), .val .null, .unset] [.ref s.heap.size])) := g8
  have c10 : Steps p.tables e below (s₁.setTop (entryFrame m #[.ref a, .ref b, .int (Int32.ofNat o), .int (Int32.ofNat len), .null] 6)) (T8.setTop (mkF m 45 #[.val (.ref a), .val (.ref b), .val (.int (Int32.ofNat o)), .val (.int (Int32.ofNat len)), .val .null, .val (.ref s.heap.size)] [.int (Int32.ofNat N.slots.size), .ref s.heap.size, .ref a])) := by
    have hc : Steps p.tables e below (s₁.setTop (entryFrame m #[.ref a, .ref b, .int (Int32.ofNat o), .int (Int32.ofNat len), .null] 6)) (T8.setTop (mkF m 45 #[.val (.ref a), .val (.ref b), .val (.int (Int32.ofNat o)), .val (.int (Int32.ofNat len)), .val .null, .val (.ref s.heap.size)] [.int (Int32.ofNat len), .ref s.heap.size, .ref a])) := c9.trans (by
      refine XS.astore X8.here hexec rfl (hb hbytes d39) rfl rfl rfl ?_
      refine XS.aloadN X8.here hexec rfl (hb hbytes d41) rfl rfl ?_
      refine XS.aload X8.here hexec rfl (hb hbytes d42) rfl rfl ?_
      refine XS.iloadN X8.here hexec rfl (hb hbytes d44) rfl ?_
      exact Steps.refl _)
    rw [n4]; exact hc
  obtain ⟨v11, T11, X11, E11, g11⟩ := X8.callS hexec (CodL.law l s.heap.size N) hown (wks W (staticW "java/lang/String" 47 CodL.yN)) (wk W CodL.tab) (W := 1) (Nat.le_of_ble_eq_true rfl) (Nat.le_of_ble_eq_true rfl) (Nat.le_refl _) (by show 0 + len + 0 ≤ len; omega) (g := (mkF m 45 #[.val (.ref a), .val (.ref b), .val (.int (Int32.ofNat o)), .val (.int (Int32.ofNat len)), .val .null, .val (.ref s.heap.size)] [.int (Int32.ofNat N.slots.size), .ref s.heap.size, .ref a])) rfl (by rw [hml]; rfl) c10 (argsL := [.ref s.heap.size, .int (Int32.ofNat N.slots.size)]) (rest := [.ref a]) rfl rfl (by show 2 * 0 + (1 + 0) ≤ _; decide) (hb hbytes d45) (⟨rfl, n1⟩)
  obtain ⟨rfl, q11⟩ := E11
  have hB11 := hB1.mv (X8.warmed.alike.symm.trans X11.warmed.alike) q11
  have c12 : Steps p.tables e below (s₁.setTop (entryFrame m #[.ref a, .ref b, .int (Int32.ofNat o), .int (Int32.ofNat len), .null] 6)) (T11.setTop (mkF m 48 #[.val (.ref a), .val (.ref b), .val (.int (Int32.ofNat o)), .val (.int (Int32.ofNat len)), .val .null, .val (.ref s.heap.size)] [.int 0, .ref a])) := g11
  obtain ⟨T13, X13, p13, bl13, sl13, st13⟩ := X11.finit hexec hown (wk W (.fieldLink "java/lang/String" 15 "java/lang/String" "coder" "B")) (Or.inr ⟨_, (wk W (.laysFinal "java/lang/String" "java/lang/String" "coder" "B"))⟩) (Or.inl ⟨rfl, hnm⟩) f2 (Or.inl rfl) hB11 (t := .byte) (by decide +kernel) rfl (g := (mkF m 48 #[.val (.ref a), .val (.ref b), .val (.int (Int32.ofNat o)), .val (.int (Int32.ofNat len)), .val .null, .val (.ref s.heap.size)] [.int 0, .ref a])) rfl (rest := []) rfl (hb hbytes d48)
  have c14 : Steps p.tables e below (s₁.setTop (entryFrame m #[.ref a, .ref b, .int (Int32.ofNat o), .int (Int32.ofNat len), .null] 6)) (T13.setTop (mkF m 54 #[.val (.ref a), .val (.ref b), .val (.int (Int32.ofNat o)), .val (.int (Int32.ofNat len)), .val .null, .val (.ref s.heap.size)] [.ref s.heap.size, .ref a])) := (c12.trans (st13 _ (Steps.refl _))).trans (by
    refine XS.aloadN X13.here hexec rfl (hb hbytes d51) rfl rfl ?_
    refine XS.aload X13.here hexec rfl (hb hbytes d52) rfl rfl ?_
    exact Steps.refl _)
  obtain ⟨T15, X15, p15, bl15, sl15, st15⟩ := X13.finit hexec hown (wk W (.fieldLink "java/lang/String" 9 "java/lang/String" "value" "[B")) (Or.inr ⟨_, (wk W (.laysFinal "java/lang/String" "java/lang/String" "value" "[B"))⟩) (Or.inl ⟨rfl, hnm⟩) f1 (Or.inl rfl) bl13 (t := (.array .byte)) (by decide +kernel) rfl (g := (mkF m 54 #[.val (.ref a), .val (.ref b), .val (.int (Int32.ofNat o)), .val (.int (Int32.ofNat len)), .val .null, .val (.ref s.heap.size)] [.ref s.heap.size, .ref a])) rfl (rest := []) rfl (hb hbytes d54)
  have c16 : Steps p.tables e below (s₁.setTop (entryFrame m #[.ref a, .ref b, .int (Int32.ofNat o), .int (Int32.ofNat len), .null] 6)) (T15.setTop (mkF m 57 #[.val (.ref a), .val (.ref b), .val (.int (Int32.ofNat o)), .val (.int (Int32.ofNat len)), .val .null, .val (.ref s.heap.size)] [])) := c14.trans (st15 _ (Steps.refl _))
  have ap := apart (Or.inr ⟨_, (wk W (.laysFinal "java/lang/String" "java/lang/String" "value" "[B"))⟩) (Or.inr ⟨_, (wk W (.laysFinal "java/lang/String" "java/lang/String" "coder" "B"))⟩) f1 f2 (t₁ := .array .byte) (t₂ := .byte) (by decide +kernel) (by decide +kernel) (by decide)
  have al := X8.warmed.alike.symm.trans X15.warmed.alike
  have n7 : T11.heap[s.heap.size]? = some N := by rw [q11]; exact n1.1
  exact ⟨T15, none, _, _, _, X15, by simp, rfl, by omega, (fun _ => rfl), ⟨rfl, _, N, bl15, ((Same.refl D _).set _ (by simp)).set _ (by simp), sl15, (Cell.slots_setSlot_ne _ ap).trans sl13, n1.keep al (p15.other hne (p13.other hne n7)), n2, by rw [al.findClass]; exact n3, n4, n5, fun y c h1 h2 => p15.other h1 (p13.other h1 (by rw [q11]; exact n6 y c h2)), by rw [p15.2.2, p13.2.2, q11]; exact z8⟩, fun fs hl => c16.trans (X15.returnOut hexec hret (hb hbytes d57) hl)⟩
end New4
namespace New1
def yN : MethodName := ⟨"java/lang/String", "<init>", "([C)V"⟩
abbrev yB : ByteArray := jdk_42_method_3_code
theorem d0 : decode yB 0 = .ok (.aload_n 0, 1) := by decide +kernel
theorem d1 : decode yB 1 = .ok (.aload_n 1, 1) := by decide +kernel
theorem d2 : decode yB 2 = .ok (.iconst 0, 1) := by decide +kernel
theorem d3 : decode yB 3 = .ok (.aload_n 1, 1) := by decide +kernel
theorem d4 : decode yB 4 = .ok (.arraylength, 1) := by decide +kernel
theorem d5 : decode yB 5 = .ok (.aconst_null, 1) := by decide +kernel
theorem d6 : decode yB 6 = .ok (.invokespecial 27, 3) := by decide +kernel
theorem d9 : decode yB 9 = .ok (.return_, 1) := by decide +kernel
def site : List Cond := [New4.tab] ++ initW "java/lang/String" 27 New4.yN
def tab : Cond := tabOf yN yB 2 none site
def P (a : Addr) (D : Cell) (fV fC : Field) (b : Addr) (A : Cell) (z : Int32) (args : Array Value) (s : State) : Prop := args = #[.ref a, .ref b] ∧ Blank "java/lang/String" a D s ∧ Found "java/lang/String" "value" "[B" fV s ∧ Found "java/lang/String" "coder" "B" fC s ∧ Ch b A s ∧ StaticIs s "java/lang/String" "COMPACT_STRINGS" "Z" (.int z) ∧ ¬ z = 0 ∧ 0 < A.slots.size ∧ A.slots.size ≤ 536870912 ∧ ∀ i, i < A.slots.size → ¬ 255 < cv A i
def E (a : Addr) (D : Cell) (fV fC : Field) (A : Cell) (r : Option Value) (s u : State) : Prop := Got a D fV fC A 0 A.slots.size r s u
/-- new String(chars), not empty, no char above 255: a Latin-1 String of their low bytes -/
theorem law (l : Launch) (a : Addr) (D : Cell) (fV fC : Field) (b : Addr) (A : Cell) (z : Int32) : Law l yN 2 1 3 52 yB 2 none site (P a D fV fC b A z) (E a D fV fC A) [⟨a, fC.slot⟩, ⟨a, fV.slot⟩] 1 A.slots.size := by
  refine Law.of_walk (plainFor_of_name (by decide +kernel)) (by decide +kernel) (by decide +kernel) (by decide) (fun _ _ h => by rw [h.1]; rfl) (fun _ U U' hal hh h => ⟨h.1, h.2.1.mv hal hh, h.2.2.1.al hal, h.2.2.2.1.al hal, h.2.2.2.2.1.mv hal hh, h.2.2.2.2.2.1.there hal hh, h.2.2.2.2.2.2⟩) (fun r U U' V V' h1 hal h2 h => Got.mv r U U' V V' h1 hal h2 h) ?_
  intro p e s m args below meth c s₁ X0 hexec hbytes hml hret hlk hnm hown hh0 W hP
  obtain ⟨rfl, hB, f1, f2, hA, s1, hz, l0, l2, hp⟩ := hP
  have c1 : Steps p.tables e below (s₁.setTop (entryFrame m #[.ref a, .ref b] 2)) (s₁.setTop (mkF m 0 #[.val (.ref a), .val (.ref b)] [])) := entry rfl
  have c2 : Steps p.tables e below (s₁.setTop (entryFrame m #[.ref a, .ref b] 2)) (s₁.setTop (mkF m 6 #[.val (.ref a), .val (.ref b)] [.null, .int (Int32.ofNat A.slots.size), .int 0, .ref b, .ref a])) := c1.trans (by
    refine XS.aloadN X0.here hexec rfl (hb hbytes d0) rfl rfl ?_
    refine XS.aloadN X0.here hexec rfl (hb hbytes d1) rfl rfl ?_
    refine iconstV X0.here hexec rfl 0 (hb hbytes d2) (by decide) ?_
    refine XS.aloadN X0.here hexec rfl (hb hbytes d3) rfl rfl ?_
    refine X0.alen hexec (hA.1.mv X0.warmed.alike hh0) rfl rfl (hb hbytes d4) ?_
    refine XS.aconstNull X0.here hexec rfl (hb hbytes d5) ?_
    exact Steps.refl _)
  obtain ⟨v3, T3, X3, E3, g3⟩ := X0.callN hexec (New4.law l a D fV fC b A z 0 A.slots.size) rfl hown (wks W (initW "java/lang/String" 27 New4.yN)) (W New4.tab (by simp only [site, List.mem_cons, List.mem_append, true_or, or_true])) (W := 0) (Nat.le_of_ble_eq_true rfl) (Nat.le_of_ble_eq_true rfl) (Nat.le_refl _) (by show 0 + A.slots.size ≤ A.slots.size; omega) (g := (mkF m 6 #[.val (.ref a), .val (.ref b)] [.null, .int (Int32.ofNat A.slots.size), .int (Int32.ofNat 0), .ref b, .ref a])) rfl (by rw [hml]; rfl) c2 (argsL := [.ref b, .int (Int32.ofNat 0), .int (Int32.ofNat A.slots.size), .null]) (rest := []) rfl rfl (by show 2 * 0 + 0 ≤ _; decide) (hb hbytes d6) (⟨rfl, hB.mv X0.warmed.alike hh0, f1.al X0.warmed.alike, f2.al X0.warmed.alike, hA.mv X0.warmed.alike hh0, s1.there X0.warmed.alike hh0, hz, l0, by omega, l2, fun i hi => by rw [Nat.zero_add]; exact hp i hi⟩)
  have e0 := Got.mv _ s₁ s _ _ hh0.symm (Vm.Alike.refl _) rfl E3
  obtain rfl := e0.1
  have c4 : Steps p.tables e below (s₁.setTop (entryFrame m #[.ref a, .ref b] 2)) (T3.setTop (mkF m 9 #[.val (.ref a), .val (.ref b)] [])) := g3
  exact ⟨T3, none, _, _, _, X3, by simp, rfl, by omega, (fun _ => rfl), e0, fun fs hl => c4.trans (X3.returnOut hexec hret (hb hbytes d9) hl)⟩
theorem pays {l : Launch} {R : Room} {p : Program} {e : Env} {below : List Frame} {s : State} {sargs : Array Value} {len W : Nat} (a : Addr) (D : Cell) (fV fC : Field) (b : Addr) (A : Cell) (z : Int32) (htab : tab.before sargs s = true) (hfr : 4 ≤ R.frames) (hlo : W + 65 ≤ R.locals) :
    Back l R p e below s sargs yN len W (fun A₁ a₁ => A₁.cells + 1 ≤ R.cells ∧ A₁.slots + A.slots.size ≤ R.slots ∧ P a D fV fC b A z a₁ A₁.U) (fun A₁ _ v₁ B₁ => E a D fV fC A v₁ A₁.U B₁.U ∧ B₁.locs = A₁.locs ++ [⟨a, fC.slot⟩, ⟨a, fV.slot⟩] ∧ B₁.cells = A₁.cells + 1 ∧ B₁.slots = A₁.slots + A.slots.size) :=
  (law l a D fV fC b A z).pays htab hfr (by omega)
end New1
end StrChars
namespace StrChars.Road
open Jvm Sem ClassFile Op Lib Jvm.Stand Jvm.Free Jvm.Free.XT
open Jvm.Lib.Cold (StaticIs)
abbrev ST : String := "java/lang/String"
/-- every table word that New1's law asks, flat -/
abbrev words : List Jvm.Cond := [.code New1.yN New1.yB 2 none, .initialized ST, .methodLink ST 27 New4.yN, .instanceMethod New4.yN,
  .code New4.yN New4.yB 6 none, .fieldLink ST 38 ST "COMPACT_STRINGS" "Z", .laysFinal ST ST "value" "[B", .fieldLink ST 9 ST "value" "[B", .laysFinal ST ST "coder" "B", .fieldLink ST 15 ST "coder" "B",
  .methodLink ST 1 Lib.objectInit, .instanceMethod Lib.objectInit, .code Lib.objectInit ⟨#[0xb1]⟩ 1 none, .methodLink ST 177 Cmp3.yN, .static Cmp3.yN, .methodLink ST 47 CodL.yN, .static CodL.yN,
  .code Cmp3.yN Cmp3.yB 6 (some (.array .byte)), .initialized U16, .arrayClass .byte, .methodLink U16 115 Cmp5.yN, .static Cmp5.yN, .code Cmp5.yN Cmp5.yB 7 (some .int), .code CodL.yN CodL.yB 2 (some .byte)]
theorem tab_of {a : Array Value} {s : State} (h : ∀ w ∈ words, w.before a s = true) : New1.tab.before a s = true := by
  have h5 : Cmp5.tab.before a s = true := unparts (wk h (.code Cmp5.yN Cmp5.yB 7 (some .int))) (wks h (.initialized Cmp5.yN.cls :: Cmp5.site))
  have hc : CodL.tab.before a s = true := unparts (wk h (.code CodL.yN CodL.yB 2 (some .byte))) (wks h (.initialized CodL.yN.cls :: CodL.site))
  have q5 : ∀ w ∈ Cmp5.tab :: words, w.before a s = true := fun w hw => (List.mem_cons.mp hw).elim (fun e => e ▸ h5) (h w)
  have h3 : Cmp3.tab.before a s = true := unparts (wk q5 (.code Cmp3.yN Cmp3.yB 6 (some (.array .byte)))) (wks q5 (.initialized Cmp3.yN.cls :: Cmp3.site))
  have q3 : ∀ w ∈ Cmp3.tab :: CodL.tab :: words, w.before a s = true := fun w hw => (List.mem_cons.mp hw).elim (fun e => e ▸ h3) fun hw => (List.mem_cons.mp hw).elim (fun e => e ▸ hc) (h w)
  have h4 : New4.tab.before a s = true := unparts (wk q3 (.code New4.yN New4.yB 6 none)) (wks q3 (.initialized New4.yN.cls :: New4.site))
  have q4 : ∀ w ∈ New4.tab :: words, w.before a s = true := fun w hw => (List.mem_cons.mp hw).elim (fun e => e ▸ h4) (h w)
  exact unparts (wk q4 (.code New1.yN New1.yB 2 none)) (wks q4 (.initialized New1.yN.cls :: New1.site))
/-- the words ride from the start Z to the walk's own state -/
theorem moved {Z s : State} {a0 args : Array Value} (hZ : Z.Warmed39 s.vm) (hw : ∀ d ∈ words, d.before a0 Z = true) : ∀ d ∈ words, d.before args s = true := fun d hd => by
  have q := hw d hd
  have t : ∀ d ∈ words, d = .arrayClass .byte ∨ (d.onTables && d.keepsFace) = true := by decide +kernel
  rcases t d hd with rfl | t
  · exact RoadKit.mvA hZ q
  · exact RoadKit.mv hZ q t
/-- WHAT COMES BACK, over the tables of the start Z: h the heap at the call, h' behind it -/
def Q (Z : State) (x : Addr) (A : Cell) (h : Heap) (v : Option Value) (h' : Heap) (L : List Loc) : Prop := v = none ∧ (∀ y ∈ L, y.base = x) ∧ RoadKit.Keep h h' [x] ∧ h'.size = h.size + 1 ∧ RoadKit.Exa Z h' x ST ∧ RoadKit.Fld Z h' x ST "value" "[B" (.ref h.size) ∧ RoadKit.Fld Z h' x ST "coder" "B" (.int 0) ∧
  (∃ V : Cell, RoadKit.Arr Z h' h.size V .byte ∧ V.vm = .none ∧ Z.vm.findClass "[B" = some V.cls ∧ V.slots.size = A.slots.size ∧ ∀ j, j < A.slots.size → V.slots[j]? = some (.int (lo8 (cv A j)))) ∧
  ∀ (O n d : String) (w : Value), RoadKit.Fld Z h x O n d w → RoadKit.slotOf Z O n d ≠ RoadKit.slotOf Z ST "value" "[B" → RoadKit.slotOf Z O n d ≠ RoadKit.slotOf Z ST "coder" "B" → RoadKit.Fld Z h' x O n d w
/-- **new String(chars) AT A CALL, IN THE ROAD'S FORM**: for specialBack behind newO: x the fresh String, b the char[] with the cell A -/
theorem back {p : Program} {l : Launch} {e : Env} {R : Room} {s : State} {args : Array Value} {below : List Frame} {len W : Nat} {Z : State} {a0 : Array Value} {h : Heap} (hZ : Z.Warmed39 s.vm) (hw : ∀ d ∈ words, d.before a0 Z = true) {kI : Nat} (wi : (Jvm.Cond.instantiable ST kI).before a0 Z = true)
    {x b : Addr} {A : Cell} {z : Int32} {v0 c0 : Value} (E : RoadKit.Exa Z h x ST) (V : RoadKit.Fld Z h x ST "value" "[B" v0) (C : RoadKit.Fld Z h x ST "coder" "B" c0) (K : RoadKit.Arr Z h b A .char) (hty : Typed .char A) (S : RoadKit.Sta Z h ST "COMPACT_STRINGS" "Z" (.int z)) (hz : ¬ z = 0)
    (l0 : 0 < A.slots.size) (l2 : A.slots.size ≤ 536870912) (hp : ∀ i, i < A.slots.size → ¬ 255 < cv A i) (hfr : 4 ≤ R.frames) (hlo : W + 65 ≤ R.locals) :
    Back l R p e below s args New1.yN len W (fun P a => a = #[.ref x, .ref b] ∧ P.U.heap = h ∧ P.cells + 1 ≤ R.cells ∧ P.slots + A.slots.size ≤ R.slots)
      (fun P _ v B => ∃ L, Q Z x A h v B.U.heap L ∧ B.locs = P.locs ++ L ∧ B.cells = P.cells + 1 ∧ B.slots = P.slots + A.slots.size) := by
  intro m meth c P g ig mk a X hg hsize hdg hW hn hp'
  obtain ⟨rfl, rfl, r1, r2⟩ := hp'
  have al : Z.vm.Alike P.U.vm := hZ.alike.trans X.warmed.alike
  obtain ⟨D, cfV, kV, iV, fV, hD, gV, stV, knV, obV, asV, slV⟩ := id V
  obtain ⟨D', cfC, kC, iC, fC, hD', gC, stC, -, -, asC, slC⟩ := id C
  cases hD.symm.trans hD'
  obtain ⟨D2, kD, e1, e2, e3, e4, e5⟩ := id E
  cases hD.symm.trans e1
  obtain ⟨c2, k2, i1, i2, i3, -⟩ := Cond.instantiable_spec wi
  cases e2.symm.trans i1
  cases e3.symm.trans i2
  obtain ⟨kU, u1, u2⟩ := al.2.2 _ _ e3
  have hB : Blank ST x D P.U := ⟨hD, ⟨knV, fun q hq => by rw [hq] at obV; cases obV⟩, by rw [al.findClass]; exact e2, kU, u1, by rw [u2]; exact i3, by rw [u2]; exact e5 i3⟩
  have F1 : Found ST "value" "[B" fV P.U := ⟨SBG.found_only al ⟨cfV, kV, iV, gV⟩, stV⟩
  have F2 : Found ST "coder" "B" fC P.U := ⟨SBG.found_only al ⟨cfC, kC, iC, gC⟩, stC⟩
  have hA : Ch b A P.U := ⟨⟨K.1, State.isArrayOf_alike al K.2.1, K.2.2, by omega⟩, hty⟩
  have hS : StaticIs P.U ST "COMPACT_STRINGS" "Z" (.int z) := by
    obtain ⟨cfS, iS, kS, fS, st, cS, t1, t2, t3, t4, t5, t6, t7⟩ := S
    exact StaticIs.there (s := { Z with heap := P.U.heap }) ⟨cfS, iS, kS, fS, st, cS, t1, t2, t3, t4, t5, (fun q => by rw [q] at t6; cases t6), t7⟩ al rfl
  obtain ⟨v, B, X', ⟨⟨hv, E', V', q1, q2, q3, q4, q5, q6, q7, q8, q9, q10, q11⟩, hl, hc, hs⟩, st⟩ := New1.pays x D fV fC b A z (tab_of (moved hZ hw)) hfr hlo m meth c P g ig mk _ X hg hsize hdg hW hn ⟨r1, r2, rfl, hB, F1, F2, hA, hS, hz, l0, l2, hp⟩
  have al' : Z.vm.Alike B.U.vm := hZ.alike.trans X'.warmed.alike
  have hsz : E'.slots.size = D.slots.size := by
    obtain ⟨-, -, -, kB, w1, w2, w3⟩ := q1
    obtain ⟨kB', y1, y2⟩ := al'.2.2 _ _ e3
    rw [q2.2.1] at w1
    cases w1.symm.trans y1
    rw [w3, e5 i3, y2]
  refine ⟨v, B, X', ⟨_, ⟨hv, ?_, ⟨by omega, fun y cy hy hn' => q10 y cy (by simpa using hn') hy, fun y cy hy => ?_⟩, q11, ⟨E', _, q1.1, by rw [q2.2.1]; exact e2, by rw [q2.2.1]; exact e3, by rw [q2.1]; exact obV, fun _ => by rw [hsz]; exact e5 i3⟩,
    ⟨E', cfV, kV, iV, fV, q1.1, gV, stV, by rw [q2.1]; exact knV, by rw [q2.1]; exact obV, by rw [q2.2.1]; exact asV, q3⟩, ⟨E', cfC, kC, iC, fC, q1.1, gC, stC, by rw [q2.1]; exact knV, by rw [q2.1]; exact obV, by rw [q2.2.1]; exact asC, q4⟩,
    ⟨V', ⟨q5.1, State.isArrayOf_alike al'.symm q5.2.1, q5.2.2.1⟩, q6, by rw [← al'.findClass]; exact q7, q8, fun j hj => by have := q9 j hj; rwa [Nat.zero_add] at this⟩, fun O n d w F n1 n2 => ?_⟩, hl, hc, hs⟩, st⟩
  · intro y hy
    simp only [List.mem_cons, List.not_mem_nil, or_false] at hy
    rcases hy with rfl | rfl <;> rfl
  · by_cases q : y = x
    · subst q
      cases hD.symm.trans hy
      exact ⟨E', q1.1, q2.2.1, q2.1, hsz⟩
    · exact ⟨cy, q10 y cy q hy, rfl, rfl, rfl⟩
  · obtain ⟨D3, cf, k, i, f, g1, g2, g3, g4, g5, g6, g7⟩ := F
    cases hD.symm.trans g1
    simp only [RoadKit.slotOf, g2, gV, gC, Option.map_some, Option.getD_some] at n1 n2
    exact ⟨E', cf, k, i, f, q1.1, g2, g3, by rw [q2.1]; exact g4, by rw [q2.1]; exact g5, by rw [q2.2.1]; exact g6, by rw [q2.2.2 f.slot (by simp [n1, n2])]; exact g7⟩
end StrChars.Road
namespace StrChars.Road
open Jvm Sem ClassFile Op Lib Jvm.Stand Jvm.Free Jvm.Free.XT
/-- WHAT COMES BACK, the byte[] as a list of values -/
def QA (Z : State) (x : Addr) (zn : Int32) (cs : List Int32) (h : Heap) (v : Option Value) (h' : Heap) (L : List Loc) : Prop := v = none ∧ (∀ y ∈ L, y.base = x) ∧ RoadKit.Keep h h' [x] ∧ h'.size = h.size + 1 ∧ RoadKit.Exa Z h' x ST ∧ RoadKit.Fld Z h' x ST "value" "[B" (.ref h.size) ∧ RoadKit.Fld Z h' x ST "coder" "B" (.int 0) ∧
  (∃ kb, Z.vm.findClass "[B" = some kb ∧ RoadKit.Arv Z h' h.size kb .byte zn (cs.map fun c => .int (lo8 c)) (.int 0)) ∧
  ∀ (O n d : String) (w : Value), RoadKit.Fld Z h x O n d w → RoadKit.slotOf Z O n d ≠ RoadKit.slotOf Z ST "value" "[B" → RoadKit.slotOf Z O n d ≠ RoadKit.slotOf Z ST "coder" "B" → RoadKit.Fld Z h' x O n d w
/-- **new String(chars) AT A CALL, THE ARRAYS AS LISTS**: the char[] at b holds cs, not empty, no char above 255 -/
theorem backArv {p : Program} {l : Launch} {e : Env} {R : Room} {s : State} {args : Array Value} {below : List Frame} {len W : Nat} {Z : State} {a0 : Array Value} {h : Heap} (hZ : Z.Warmed39 s.vm) (hw : ∀ d ∈ words, d.before a0 Z = true) {kI : Nat} (wi : (Jvm.Cond.instantiable ST kI).before a0 Z = true)
    {x b : Addr} {k : ClassId} {zn z : Int32} {cs : List Int32} {dv v0 c0 : Value} (E : RoadKit.Exa Z h x ST) (V : RoadKit.Fld Z h x ST "value" "[B" v0) (C : RoadKit.Fld Z h x ST "coder" "B" c0) (K : RoadKit.Arv Z h b k .char zn (cs.map Value.int) dv) (S : RoadKit.Sta Z h ST "COMPACT_STRINGS" "Z" (.int z)) (hz : ¬ z = 0)
    (hlen : zn.toNatClampNeg = cs.length) (h0 : 0 < cs.length) (hbig : cs.length ≤ 536870912) (hall : ∀ c ∈ cs, ¬ 255 < c) (hfr : 4 ≤ R.frames) (hlo : W + 65 ≤ R.locals) :
    Back l R p e below s args New1.yN len W (fun P a => a = #[.ref x, .ref b] ∧ P.U.heap = h ∧ P.cells + 1 ≤ R.cells ∧ P.slots + cs.length ≤ R.slots)
      (fun P _ v B => ∃ L, QA Z x zn cs h v B.U.heap L ∧ B.locs = P.locs ++ L ∧ B.cells = P.cells + 1 ∧ B.slots = P.slots + cs.length) := by
  obtain ⟨A, K1, K2, K3, K4, K5, K6⟩ := K
  have e : A.slots.size = cs.length := K3.trans hlen
  have hat : ∀ (i : Nat) (hi : i < cs.length), A.slots[i]? = some (.int cs[i]) := fun i hi => by rw [K5 i (by omega)]; simp [List.getD_eq_getElem?_getD, hi]
  have hcv : ∀ (i : Nat) (hi : i < cs.length), cv A i = cs[i] := fun i hi => by unfold cv; rw [hat i hi]
  have hty : Typed .char A := fun i v hv => by
    have hi : i < A.slots.size := (Array.getElem?_eq_some_iff.mp hv).1
    have q := K5 i hi
    rw [hv] at q
    rw [Option.some.inj q]
    exact K6 i hi
  refine Back.mono (back hZ hw wi E V C K1 hty S hz (by omega) (by omega) (fun i hi => by rw [hcv i (by omega)]; exact hall _ (List.getElem_mem _)) hfr hlo) (fun P a hp => ⟨hp.1, hp.2.1, hp.2.2.1, by rw [e]; exact hp.2.2.2⟩) (fun P a v B hp hq => ?_)
  obtain ⟨L, ⟨q1, q2, q3, q4, q5, q6, q7, ⟨V', v1, v2, v3, v4, v5⟩, q9⟩, hl, hc, hs⟩ := hq
  refine ⟨L, ⟨q1, q2, q3, q4, q5, q6, q7, ⟨V'.cls, v3, V', v1, rfl, by rw [v4, e, hlen], K4, fun i hi => ?_, fun i hi => ?_⟩, q9⟩, hl, hc, by rw [hs, e]⟩
  · have hi' : i < cs.length := by omega
    rw [v5 i (by omega), hcv i hi']; simp [List.getD_eq_getElem?_getD, hi']
  · have hi' : i < cs.length := by omega
    simp only [List.getD_eq_getElem?_getD, List.getElem?_map, List.getElem?_eq_getElem hi', Option.map_some, Option.getD_some]
    exact fits_lo8 _
end StrChars.Road
namespace StrChars.Road
open Jvm Sem ClassFile Op Lib Jvm.Stand Jvm.Free Jvm.Free.XT
/-- WHAT COMES BACK, in the writer's own shape -/
def QV (Z : State) (x : Addr) (N : Int32) (bs : List Int32) (h : Heap) (n0 : Nat) (v : Option Value) (h' : Heap) (L : List Loc) : Prop := v = none ∧ RoadKit.Fr n0 L ∧ RoadKit.Keep h h' [x] ∧ RoadKit.Exa Z h' x ST ∧ RoadKit.Fld Z h' x ST "coder" "B" (.int 0) ∧
  ∃ (t : Addr) (kb : ClassId), n0 ≤ t ∧ h.size ≤ t ∧ ¬ t = x ∧ RoadKit.Fld Z h' x ST "value" "[B" (.ref t) ∧ RoadKit.Arv Z h' t kb .byte N (bs.map Value.int) (.int 0)
/-- **new String(chars) AT A CALL, FOR THE WRITER**: a char[] of n known ints, each 0 to 255 -/
theorem backV {p : Program} {l : Launch} {e : Env} {R : Room} {s : State} {args : Array Value} {below : List Frame} {len W : Nat} {Z : State} {a0 : Array Value} {h : Heap} (hZ : Z.Warmed39 s.vm) (hw : ∀ d ∈ words, d.before a0 Z = true) {kI : Nat} (wi : (Jvm.Cond.instantiable ST kI).before a0 Z = true)
    {x b : Addr} {kC : ClassId} {cs bs : List Int32} {d v0 c0 : Value} {z N : Int32} {n n0 : Nat} (hx0 : n0 ≤ x) (hh0 : n0 ≤ h.size) (E : RoadKit.Exa Z h x ST) (V : RoadKit.Fld Z h x ST "value" "[B" v0) (C : RoadKit.Fld Z h x ST "coder" "B" c0) (K : RoadKit.Arv Z h b kC .char N (cs.map Value.int) d) (S : RoadKit.Sta Z h ST "COMPACT_STRINGS" "Z" (.int z)) (hz : ¬ z = 0)
    (hn : cs.length = n) (hN : N = Int32.ofNat n) (l0 : 0 < n) (l2 : n ≤ 4000) (hp : ∀ c ∈ cs, ¬ c < 0 ∧ ¬ (255 : Int32) < c) (hb : bs = cs.map (fun c => c.toInt8.toInt32)) (hfr : 4 ≤ R.frames) (hlo : W + 65 ≤ R.locals) :
    Back l R p e below s args (⟨"java/lang/String", "<init>", "([C)V"⟩ : MethodName) len W (fun P a => a = #[.ref x, .ref b] ∧ P.U.heap = h ∧ P.cells + 1 ≤ R.cells ∧ P.slots + n ≤ R.slots)
      (fun P _ v B => ∃ L, QV Z x N bs h n0 v B.U.heap L ∧ B.locs = P.locs ++ L ∧ B.cells = P.cells + 1 ∧ B.slots = P.slots + n) := by
  subst hn hN hb
  refine Back.mono (backArv hZ hw wi E V C K S hz (n32 (by omega)) l0 (by omega) (fun c hc => (hp c hc).2) hfr hlo) (fun P a hp => hp) (fun P a v B hp hq => ?_)
  obtain ⟨L, ⟨q1, q2, q3, q4, q5, q6, q7, ⟨kb, v1, v2⟩, q9⟩, hl, hc, hs⟩ := hq
  exact ⟨L, ⟨q1, fun y hy => by rw [q2 y hy]; exact hx0, q3, q5, q7, h.size, kb, hh0, Nat.le_refl _, Nat.ne_of_gt E.lt, q6, by rw [List.map_map]; exact v2⟩, hl, hc, hs⟩
end StrChars.Road
namespace StrChars
open Jvm Sem ClassFile Op Lib Jvm.Stand Jvm.Free.XT Jvm.Free.ALB Jvm.Free.JM Jvm.Free
open Jvm.Lib.Cold (StaticIs)
def hi8 (x : Int32) : Int32 := lo8 (x >>> ((8 : Int32) &&& 31))
end StrChars
namespace StrChars.Road
open Jvm Sem ClassFile Op Lib Jvm.Stand Jvm.Free Jvm.Free.XT
open Jvm.Lib.Cold (StaticIs)
/-- the bytes of the chars cs, low before high -/
def wideBytes : List Int32 → List Value
  | [] => []
  | c :: cs => .int (lo8 c) :: .int (hi8 c) :: wideBytes cs
/-- an array of N2 bytes vs codes the chars cs by the coder cd -/
def CodA (cs : List Int32) (cd N2 : Int32) (vs : List Value) : Prop := (cd = 0 ∧ N2 = Int32.ofNat cs.length ∧ vs = (cs.map fun c => Value.int (lo8 c)) ∧ ∀ c ∈ cs, ¬ 255 < c) ∨ (cd = 1 ∧ N2 = Int32.ofNat (2 * cs.length) ∧ vs = wideBytes cs ∧ ∃ c ∈ cs, 255 < c)
end StrChars.Road
namespace StrChars.Road
open Jvm Sem ClassFile Op Lib Jvm.Stand Jvm.Free Jvm.Free.XT
open Jvm.Lib.Cold (StaticIs)
/-- what backV says of its String, as the contracts of this text ask it: cs's low bytes, coder 0 -/
theorem codOf {cs : List Int32} {n : Nat} (hn : cs.length = n) (hb : ∀ c ∈ cs, ¬ 255 < c) : CodA cs 0 (Int32.ofNat n) ((cs.map lo8).map Value.int) := Or.inl ⟨rfl, by rw [hn], by simp [List.map_map, Function.comp_def], hb⟩
end StrChars.Road
end Jvm.Pilot.@@N@@

namespace Jvm.Pilot.@@N@@
open Jvm Jvm.ClassFile Sem Op Lib Jvm.Free Jvm.Stand Jvm.LawKit Jvm.RoadKit Bundle Jvm.Pilot.@@N@@.Jvm.D
theorem own_w {Z : State} {a0 : Array Value} (hw : ∀ d ∈ tables_1, d.before a0 Z = true) (i : Nat) {d : Jvm.Cond} (h : tables_1[i]? = some d) : d.before a0 Z = true := hw d (List.mem_of_getElem? h)
abbrev own_Go (p : Program) (e : Env) (below : List Frame) (Φ : State → Outcome → Prop) (T : State) (g : JFrame) : Prop := ∃ s₂ o, Steps p.tables e below (T.setTop g) s₂ ∧ Φ s₂ o
section OwnGo
variable {p : Program} {e : Env} {below : List Frame} {Φ : State → Outcome → Prop} {T T' : State} {g g' : JFrame}
theorem own_step (st : ∀ target, Steps p.tables e below (T'.setTop g') target → Steps p.tables e below (T.setTop g) target) (k : own_Go p e below Φ T' g') : own_Go p e below Φ T g := by
  obtain ⟨t, o, h, r⟩ := k
  exact ⟨t, o, st t h, r⟩
theorem own_jump (st : Steps p.tables e below (T.setTop g) (T'.setTop g')) (k : own_Go p e below Φ T' g') : own_Go p e below Φ T g := by
  obtain ⟨t, o, h, r⟩ := k
  exact ⟨t, o, st.trans h, r⟩
theorem own_cast (q : g = g') (k : own_Go p e below Φ T g') : own_Go p e below Φ T g := q ▸ k
theorem own_insKeep {Z : State} {h h' : Heap} {a : Addr} {C : String} {ws : List Addr} (F : Ins Z h a C true) (K : Keep h h' ws) : Ins Z h' a C true := by
  obtain ⟨cell, cT, h1, h2, h3⟩ := F
  obtain ⟨c', q1, q2, q3, -⟩ := K.2.2 _ _ h1
  exact ⟨c', cT, q1, h2, by rw [q2, q3]; exact h3⟩
end OwnGo
section OwnCall
variable {p : Program} {l : Launch} {e : Env} {R : Room} {s : State} {m : MethodId} {args : Array Value} {below : List Frame} {meth : Method} {c : Code} {T : State} {locs : List Loc} {cells slots : Nat} {Z : State} {a0 : Array Value} {h : Heap}
  {own : String} {index : Nat} {y z : MethodName} {bytes : ByteArray} {maxL W k n : Nat} {ret : Option FieldType} {as' : Array Value} {Q : Option Value → Heap → List Loc → Prop} {g : JFrame} {argsL rest : List Value} {a : Addr} {C : String} {J J' : Vm → Prop}
/-- who pays a call: what it asks, what it leaves -/
abbrev own_Pay (l : Launch) (R : Room) (p : Program) (e : Env) (below : List Frame) (s : State) (args : Array Value) (y : MethodName) (len W : Nat) (as' : Array Value) (h : Heap) (k n : Nat) (Q : Option Value → Heap → List Loc → Prop) : Prop :=
  Back l R p e below s args y len W (fun A a => a = as' ∧ A.U.heap = h ∧ A.cells + k ≤ R.cells ∧ A.slots + n ≤ R.slots) (fun A _ v B => ∃ L, Q v B.U.heap L ∧ B.locs = A.locs ++ L ∧ B.cells = A.cells + k ∧ B.slots = A.slots + n)
abbrev own_PayW (l : Launch) (R : Room) (p : Program) (e : Env) (below : List Frame) (s : State) (args : Array Value) (y : MethodName) (len W : Nat) (as' : Array Value) (h : Heap) (k n : Nat) (J J' : Vm → Prop) (Q : Option Value → Heap → List Loc → Prop) : Prop :=
  BackS l R p e below s args y len W (fun A a => a = as' ∧ A.U.heap = h ∧ A.cells + k ≤ R.cells ∧ A.slots + n ≤ R.slots ∧ J A.U.vm) (fun A _ v B => ∃ L, (Q v B.U.heap L ∧ J' B.U.vm) ∧ B.locs = A.locs ++ L ∧ B.cells = A.cells + k ∧ B.slots = A.slots + n)
theorem own_cS (X : Stand p l e R s m args below meth c T locs cells slots) (hx : p.tables.exec = Jvm.exec) (hZ : Z.Warmed39 s.vm) (hown : s.vm.findClass own = some m.cls) (w1 : (Jvm.Cond.methodLink own index y).before a0 Z = true) (w2 : (Jvm.Cond.static y).before a0 Z = true) (w3 : (Jvm.Cond.initialized y.cls).before a0 Z = true) (w4 : (Jvm.Cond.code y bytes maxL ret).before a0 Z = true)
    (hy : y.cls ≠ "java/lang/invoke/MethodHandle" ∧ y.cls ≠ "java/lang/invoke/VarHandle") (hK : own_Pay l R p e below s args y 3 W as' h k n Q) (hg : g.method = m) (hsize : g.locals.size = c.maxLocals) (hlen : ∀ sig, parseMethodDescriptor y.desc = some sig → argsL.length = sig.parameters.length) (hstack : g.stack = argsL.reverse ++ rest)
    (hW : 2 * g.monitorRoom + (rest.map fun v => v.category).sum ≤ W) (hdg : decode c.code g.pc = .ok (.invokestatic index, 3)) (ha : argsL.toArray = as') (eT : T.heap = h) (hc : cells + k ≤ R.cells) (hs : slots + n ≤ R.slots) :
    ∃ v T' L, Stand p l e R s m args below meth c T' (locs ++ L) (cells + k) (slots + n) ∧ Q v T'.heap L ∧ Steps p.tables e below (T.setTop g) (T'.setTop { g with pc := g.pc + 3, stack := v.toList ++ rest }) := by
  obtain ⟨v, vm₁, ⟨T', L', c', n'⟩, -, X', ⟨L, hQ, e1, e2, e3⟩, st⟩ := Jvm.LawKit.callS X hx hown (mvT hZ w1) (mvT hZ w2) (mvT hZ w3) (mvT hZ w4) hy hK hg hsize hlen hstack hW hdg (fun _ _ => ⟨ha, eT, hc, hs⟩)
  dsimp only [Pt.U, Pt.locs, Pt.cells, Pt.slots] at X' e1 e2 e3 st hQ
  subst e1 e2 e3
  exact ⟨v, T', L, X', hQ, st _ (Steps.refl _)⟩
theorem own_cI (X : Stand p l e R s m args below meth c T locs cells slots) (hx : p.tables.exec = Jvm.exec) (hZ : Z.Warmed39 s.vm) (hy1 : y.name = "<init>") (hown : s.vm.findClass own = some m.cls) (w1 : (Jvm.Cond.methodLink own index y).before a0 Z = true) (w2 : (Jvm.Cond.instanceMethod y).before a0 Z = true) (w4 : (Jvm.Cond.code y bytes maxL none).before a0 Z = true)
    (hy : y.cls ≠ "java/lang/invoke/MethodHandle" ∧ y.cls ≠ "java/lang/invoke/VarHandle") (hK : own_Pay l R p e below s args y 3 W as' h k n Q) (hg : g.method = m) (hsize : g.locals.size = c.maxLocals) (hlen : ∀ sig, parseMethodDescriptor y.desc = some sig → argsL.length = sig.parameters.length) (hstack : g.stack = argsL.reverse ++ .ref a :: rest)
    (hW : 2 * g.monitorRoom + (rest.map fun v => v.category).sum ≤ W) (hdg : decode c.code g.pc = .ok (.invokespecial index, 3)) (ha : (.ref a :: argsL).toArray = as') (eT : T.heap = h) (hc : cells + k ≤ R.cells) (hs : slots + n ≤ R.slots) :
    ∃ v T' L, Stand p l e R s m args below meth c T' (locs ++ L) (cells + k) (slots + n) ∧ Q v T'.heap L ∧ Steps p.tables e below (T.setTop g) (T'.setTop { g with pc := g.pc + 3, stack := v.toList ++ rest }) := by
  obtain ⟨v, vm₁, ⟨T', L', c', n'⟩, -, X', ⟨L, hQ, e1, e2, e3⟩, st⟩ := X.specialBack hx hy1 hown (mvT hZ w1) (mvT hZ w2) (mvT hZ w4) hy hK hg hsize (Steps.refl _) hlen hstack hW hdg (fun _ _ => ⟨ha, eT, hc, hs⟩)
  dsimp only [Pt.U, Pt.locs, Pt.cells, Pt.slots] at X' e1 e2 e3 st hQ
  subst e1 e2 e3
  exact ⟨v, T', L, X', hQ, st⟩
theorem own_cV (X : Stand p l e R s m args below meth c T locs cells slots) (hx : p.tables.exec = Jvm.exec) (hZ : Z.Warmed39 s.vm) (hown : s.vm.findClass own = some m.cls) (w1 : (Jvm.Cond.methodLink own index y).before a0 Z = true) (w2 : (Jvm.Cond.declares y).before a0 Z = true) (hnf : NotFace s y) (w3 : (Jvm.Cond.selects C y z).before a0 Z = true) (w4 : (Jvm.Cond.instanceMethod z).before a0 Z = true)
    (hy : y.cls ≠ "java/lang/invoke/MethodHandle" ∧ y.cls ≠ "java/lang/invoke/VarHandle") (hK : own_Pay l R p e below s args z 3 W as' h k n Q) (E : Exa Z h a C) (hg : g.method = m) (hsize : g.locals.size = c.maxLocals) (hlen : ∀ sig, parseMethodDescriptor y.desc = some sig → argsL.length = sig.parameters.length) (hstack : g.stack = argsL.reverse ++ .ref a :: rest)
    (hW : 2 * g.monitorRoom + (rest.map fun v => v.category).sum ≤ W) (hdg : decode c.code g.pc = .ok (.invokevirtual index, 3)) (ha : (.ref a :: argsL).toArray = as') (eT : T.heap = h) (hc : cells + k ≤ R.cells) (hs : slots + n ≤ R.slots) :
    ∃ v T' L, Stand p l e R s m args below meth c T' (locs ++ L) (cells + k) (slots + n) ∧ Q v T'.heap L ∧ Steps p.tables e below (T.setTop g) (T'.setTop { g with pc := g.pc + 3, stack := v.toList ++ rest }) := by
  obtain ⟨cq, kq, q1, q2, q3⟩ := isOf hZ eT E
  obtain ⟨v, vm₁, ⟨T', L', c', n'⟩, -, X', ⟨L, hQ, e1, e2, e3⟩, st⟩ := X.virtualBack hx hown (mvT hZ w1) (mvT hZ w2) hnf (mvT hZ w3) (mvT hZ w4) hy hK q1 q3 hg hsize (Steps.refl _) hlen hstack hW hdg (fun _ _ => ⟨ha, eT, hc, hs⟩)
  dsimp only [Pt.U, Pt.locs, Pt.cells, Pt.slots] at X' e1 e2 e3 st hQ
  subst e1 e2 e3
  exact ⟨v, T', L, X', hQ, st⟩
end OwnCall
section OwnRef
variable {p : Program} {l : Launch} {e : Env} {R : Room} {s : State} {m : MethodId} {args : Array Value} {below : List Frame} {meth : Method} {c : Code} {T : State} {locs : List Loc} {cells slots : Nat} {Z : State} {a0 : Array Value} {h : Heap}
  {own : String} {index : Nat} {y : MethodName} {bytes : ByteArray} {maxL W k n : Nat} {as' : Array Value} {Q : Option Value → Heap → List Loc → Prop} {g : JFrame} {argsL rest : List Value} {a : Addr} {C R0 nm d : String} {v : Value}
/-- getfield through an entry that has been resolved -/
theorem own_getR (X : Stand p l e R s m args below meth c T locs cells slots) (hx : p.tables.exec = Jvm.exec) (hZ : Z.Warmed39 s.vm) (hown : s.vm.findClass own = some m.cls) (w : (Jvm.Cond.fieldRef own index R0 nm d).before a0 Z = true)
    (eT : T.heap = h) (F : Fld Z h a R0 nm d v) (hg : g.method = m) (hs : g.stack = .ref a :: rest) (hd : decode c.code g.pc = .ok (.getfield index, 3)) : Steps p.tables e below (T.setTop g) (T.setTop { g with pc := g.pc + 3, stack := v :: rest }) := by
  have hU : Z.Warmed39 T.vm := wtrans hZ X.warmed
  have hcur : (Z.setVm T.vm).vm.findClass own = some m.cls := by rw [show (Z.setVm T.vm).vm = T.vm from rfl, X.warmed.alike.findClass]; exact hown
  obtain ⟨cc, kk, ii, ff, h1, h2⟩ := Cond.fieldRef_spec hcur (Cond.fieldRef_warmed39 hU w)
  obtain ⟨cell, cf, k, i, f, f1, f2, f3, f4, -, -, f7⟩ := F
  obtain ⟨k', q1, -⟩ := State.fieldFound?_setVm (s := Z) hU.alike f2
  cases q1.symm.trans h1
  exact X.getfieldR hx hg h2 f3 hs (by rw [eT]; exact f1) f4 f7 hd (Steps.refl _)
/-- a constructor, called through an entry that has been resolved -/
theorem own_cIR (X : Stand p l e R s m args below meth c T locs cells slots) (hx : p.tables.exec = Jvm.exec) (hZ : Z.Warmed39 s.vm) (hy1 : y.name = "<init>") (hown : s.vm.findClass own = some m.cls) (wR : (Jvm.Cond.methodRef own index y).before a0 Z = true) (w2 : (Jvm.Cond.instanceMethod y).before a0 Z = true) (w4 : (Jvm.Cond.code y bytes maxL none).before a0 Z = true)
    (hy : y.cls ≠ "java/lang/invoke/MethodHandle" ∧ y.cls ≠ "java/lang/invoke/VarHandle") (hK : own_Pay l R p e below s args y 3 W as' h k n Q) (hg : g.method = m) (hsize : g.locals.size = c.maxLocals) (hlen : ∀ sig, parseMethodDescriptor y.desc = some sig → argsL.length = sig.parameters.length) (hstack : g.stack = argsL.reverse ++ .ref a :: rest)
    (hW : 2 * g.monitorRoom + (rest.map fun v => v.category).sum ≤ W) (hdg : decode c.code g.pc = .ok (.invokespecial index, 3)) (ha : (.ref a :: argsL).toArray = as') (eT : T.heap = h) (hc : cells + k ≤ R.cells) (hs : slots + n ≤ R.slots) :
    ∃ v T' L, Stand p l e R s m args below meth c T' (locs ++ L) (cells + k) (slots + n) ∧ Q v T'.heap L ∧ Steps p.tables e below (T.setTop g) (T'.setTop { g with pc := g.pc + 3, stack := v.toList ++ rest }) := by
  have hU : Z.Warmed39 T.vm := wtrans hZ X.warmed
  obtain ⟨mz, -, hnz, -⟩ := Cond.instanceMethod_spec w2
  have wR' : (Jvm.Cond.methodRef own index y).before a0 (Z.setVm T.vm) = true := Cond.methodRef_warmed39 hU hnz hy wR
  have hcur : (Z.setVm T.vm).vm.findClass own = some m.cls := by rw [show (Z.setVm T.vm).vm = T.vm from rfl, X.warmed.alike.findClass]; exact hown
  obtain ⟨mk, methM, hn, hm, hst, hab⟩ := Cond.instanceMethod_spec (mv (args := args) (s := T) hU w2)
  obtain ⟨methM', cM, hm', -, -, -, -, -, -, hsig⟩ := Cond.code_spec hn (mv (args := args) (s := T) hU w4)
  cases hm.symm.trans hm'
  obtain ⟨r0, c', hfound, hready, hfind, hnr⟩ := Cond.methodRef_named e hcur wR'
  have hn' : (Z.setVm T.vm).methodNamed? y = some mk := hn
  cases (State.methodFound?_of_named hn' hy).symm.trans hfound
  obtain ⟨kk, hkk, hkn⟩ := className_of_methodNamed hn
  have hcls : c' = mk.cls := by
    have q := findClass_of_methodNamed hn
    rw [show T.vm.findClass y.cls = (Z.setVm T.vm).vm.findClass y.cls from rfl, hfind] at q
    exact Option.some.inj q
  subst hcls
  obtain ⟨hname, hdesc⟩ := name_of_methodNamed hn hm
  have hlk : lookupSpecial T.vm mk.cls "<init>" methM.desc = .method mk := by
    have q := lookupSpecial_of_named hn hm hst
    rw [hy1, ← hdesc] at q
    exact q
  obtain ⟨v, ⟨T', L', c'', n''⟩, X', ⟨L, hQ, e1, e2, e3⟩, st⟩ := hK m meth c ⟨T, locs, cells, slots⟩ { g with stack := rest } (.invokespecial index) mk (.ref a :: argsL).toArray X hg hsize hdg hW hn ⟨ha, eT, hc, hs⟩
  dsimp only [Pt.U, Pt.locs, Pt.cells, Pt.slots] at X' e1 e2 e3 st hQ
  subst e1 e2 e3
  refine ⟨v, T', L, X', hQ, Steps.trans ?_ st⟩
  subst hg
  jvm_step X.here [hx, hdg, invokespecial.wp_init (e := e) (s := T) (k := kk) (meth := methM) (m := mk) (a := a) (args := argsL) (rest := rest) (f := g) X.here.top hnr hready hkk hm (hname.trans hy1) hst hab hlk (hlen _ hsig) hstack]
  intro acts
  rw [doInvoke_state]
  exact Steps.refl _
end OwnRef
/-- a String of Latin-1 signs: its object, its byte[], its signs -/
def own_Str (Z : State) (h : Heap) (a t : Addr) (cs : List Int32) : Prop :=
  Exa Z h a "java/lang/String" ∧ Fld Z h a "java/lang/String" "coder" "B" (.int (0 : Int32)) ∧ Fld Z h a "java/lang/String" "value" "[B" (.ref t) ∧ (∃ kb, Arv Z h t kb .byte (Int32.ofNat cs.length) ((cs.map fun c => c.toInt8.toInt32).map Value.int) (.int 0)) ∧ (∀ c ∈ cs, ¬ c < 0 ∧ ¬ (255 : Int32) < c) ∧ cs.length ≤ 4000
section OwnStr
variable {Z : State} {h h' : Heap} {a t : Addr} {cs ds : List Int32} {ws : List Addr}
theorem own_Str.lt (F : own_Str Z h a t cs) : a < h.size := F.1.lt
theorem own_Str.ltT (F : own_Str Z h a t cs) : t < h.size := by obtain ⟨-, -, -, ⟨kb, A⟩, -⟩ := F; exact A.lt
theorem own_Str.ext (F : own_Str Z h a t cs) (E : Ext h h') : own_Str Z h' a t cs := by
  obtain ⟨f1, f2, f3, ⟨kb, f4⟩, f5⟩ := F
  exact ⟨f1.ext E, f2.ext E, f3.ext E, ⟨kb, f4.ext E⟩, f5⟩
theorem own_Str.keep (F : own_Str Z h a t cs) (K : Keep h h' ws) (qa : a ∉ ws) (qt : t ∉ ws) : own_Str Z h' a t cs := by
  obtain ⟨f1, f2, f3, ⟨kb, f4⟩, f5⟩ := F
  exact ⟨f1.keep K, f2.keep K qa, f3.keep K qa, ⟨kb, f4.keep K qt⟩, f5⟩
theorem own_neT {x : Addr} {C : String} {a0 : Array Value} {n : Nat} (E : Exa Z h x C) (F : own_Str Z h a t cs) (w : (Jvm.Cond.instantiable C n).before a0 Z = true) : x ≠ t := by
  obtain ⟨-, -, -, ⟨kb, f4⟩, -⟩ := F
  exact Exa.neArv E f4 w
theorem own_narLit : ∀ x : Int32, ¬ x < 0 → ¬ (65535 : Int32) < x → nar .char x = x := fun x h0 h1 => by
  have q := c_i2c x
  have r := rng32 x
  rw [Int32.lt_iff_toInt_lt] at h0 h1
  have e0 : (0 : Int32).toInt = 0 := rfl
  have e1 : (65535 : Int32).toInt = 65535 := rfl
  exact Int32.toInt_inj.mp (by show (x.toUInt32.toUInt16.toUInt32.toInt32).toInt = _; omega)
theorem own_up (hp : ∀ c ∈ cs, ¬ c < 0 ∧ ¬ (255 : Int32) < c) : ∀ c ∈ cs, ¬ c < 0 ∧ ¬ (65535 : Int32) < c := fun c hc => ⟨(hp c hc).1, fun q => (hp c hc).2 (by rw [Int32.lt_iff_toInt_lt] at q ⊢; have e1 : (65535 : Int32).toInt = 65535 := rfl; have e2 : (255 : Int32).toInt = 255 := rfl; omega)⟩
theorem own_sgc {c : Int32} (h : ¬ c < (0 : Int32) ∧ ¬ (255 : Int32) < c) : ¬ c < 0 ∧ ¬ (65535 : Int32) < c := own_up (cs := [c]) (fun x hx => by cases List.mem_singleton.mp hx; exact h) c (List.mem_singleton.mpr rfl)
theorem own_Str.sgD {i : Nat} (F : own_Str Z h a t cs) (hi : i < cs.length) : ¬ cs.getD i 0 < (0 : Int32) ∧ ¬ (255 : Int32) < cs.getD i 0 := by
  have e : cs.getD i 0 = cs[i] := by simp [List.getD, List.getElem?_eq_getElem hi]
  rw [e]
  exact F.2.2.2.2.1 _ (List.getElem_mem hi)
theorem own_Str.cast (F : own_Str Z h a t cs) (e : cs = ds) : own_Str Z h a t ds := e ▸ F
theorem own_nar255 (x : Int32) : nar .char (x &&& (255 : Int32)) = x &&& (255 : Int32) := i2c_mask x
theorem own_narB (x : Int32) : x.toInt8.toInt32.toInt8.toInt32 = x.toInt8.toInt32 := by
  rw [Int8.toInt8_toInt32]
theorem own_and255 (x : Int32) : ¬ x &&& (255 : Int32) < 0 ∧ ¬ (255 : Int32) < x &&& (255 : Int32) := by
  have h := c_and x 255 (by decide)
  have e : (255 : Int32).toInt = 255 := rfl
  rw [e] at h
  exact ⟨fun q => by rw [Int32.lt_iff_toInt_lt] at q; have e0 : (0 : Int32).toInt = 0 := rfl; omega, fun q => by rw [Int32.lt_iff_toInt_lt, e] at q; omega⟩
end OwnStr
theorem own_newS {p : Program} {l : Launch} {e : Env} {R : Room} {s : State} {args : Array Value} {below : List Frame} {len W : Nat} {Z : State} {a0 : Array Value} {h : Heap} (hZ : Z.Warmed39 s.vm) (hw : ∀ d ∈ tables_1, d.before a0 Z = true)
    {x b : Addr} {kC : ClassId} {cs : List Int32} {vs : List Value} {d v0 c0 : Value} {z N : Int32} {n n0 : Nat} (hx0 : n0 ≤ x) (hh0 : n0 ≤ h.size) (E : Exa Z h x "java/lang/String") (V : Fld Z h x "java/lang/String" "value" "[B" v0) (C : Fld Z h x "java/lang/String" "coder" "B" c0) (K : Arv Z h b kC .char N vs d) (S : Sta Z h "java/lang/String" "COMPACT_STRINGS" "Z" (.int z)) (hz : ¬ z = 0)
    (hv : vs = cs.map Value.int) (hn : cs.length = n) (hN : N = Int32.ofNat n) (l0 : 0 < n) (l2 : n ≤ 4000) (hp : ∀ c ∈ cs, ¬ c < 0 ∧ ¬ (255 : Int32) < c) (hfr : 4 ≤ R.frames) (hlo : W + 65 ≤ R.locals) :
    own_Pay l R p e below s args (⟨"java/lang/String", "<init>", "([C)V"⟩ : MethodName) len W #[.ref x, .ref b] h 1 n (fun v h' L => ∃ t, v = none ∧ Fr n0 L ∧ Keep h h' [x] ∧ h.size ≤ t ∧ own_Str Z h' x t cs) := by
  have hws : ∀ d ∈ StrChars.Road.words, d.before a0 Z = true := fun d hd => hw d ((by decide +kernel : ∀ d ∈ StrChars.Road.words, d ∈ tables_1) d hd)
  subst hv
  refine Back.mono (StrChars.Road.backV hZ hws (kI := 4) (hw _ ((by decide +kernel : Jvm.Cond.instantiable "java/lang/String" 4 ∈ tables_1))) (bs := cs.map fun c => c.toInt8.toInt32) hx0 hh0 E V C K S hz hn hN l0 l2 hp rfl hfr hlo) (fun P a hp => hp) (fun P a v B _ hq => ?_)
  obtain ⟨L, ⟨q1, q2, q3, q4, q5, t, kb, -, q6, -, q7, q8⟩, hl, hc, hs⟩ := hq
  exact ⟨L, ⟨t, q1, q2, q3, q6, q4, q5, q7, ⟨kb, by rw [hn, ← hN]; exact q8⟩, hp, by omega⟩, hl, hc, hs⟩
section OwnWide
variable {p : Program} {l : Launch} {e : Env} {R : Room} {s : State} {args : Array Value} {below : List Frame} {Z : State} {a0 : Array Value} {h : Heap} {vm0 vm1 : Vm} {Ts Ts' : List String} {J J' : Vm → Prop}
theorem own_IB_warm (I : IB Z s.vm Ts) (hw : s.WarmedH vm1) : IB Z vm1 Ts := by
  obtain ⟨more, h1, h2⟩ := I
  exact ⟨more, by rw [hw.interned_eq]; exact h1, h2⟩
theorem own_IB_mono (I : IB Z vm0 Ts) (h : ∀ t ∈ Ts, t ∈ Ts') : IB Z vm0 Ts' := by
  obtain ⟨more, h1, h2⟩ := I
  exact ⟨more, h1, fun q hq => by obtain ⟨t, ht, e⟩ := h2 q hq; exact ⟨t, h t ht, e⟩⟩
theorem own_endMono {s t : State} {o : Outcome} {L : List Loc} {k n k' n' : Nat} (h : ReturnedEndW s o t L k n) (hk : k ≤ k') (hn : n ≤ n') : ReturnedEndW s o t L k' n' := ⟨h.1, h.2.1, h.2.2.1, h.2.2.2.mono hk hn⟩
theorem own_backI {y : MethodName} {bytes : ByteArray} {maxL : Nat} {ret : Option FieldType} {rm : Room} {len W : Nat} {as' : Array Value} {Q : Option Value → Heap → List Loc → Prop}
    (hM : MetFree l y (head1 [Cond.code y bytes maxL ret] rm) (fun a U => a = as' ∧ Z.Warmed39 U.vm ∧ U.heap = h ∧ J U.vm) (fun _ _ _ _ _ => True) (fun _ U o U' => ∃ v L, o = .returned v ∧ Q v U'.heap L ∧ J' U'.vm ∧ ReturnedEndW U o U' L rm.cells rm.slots))
    (hZ : Z.Warmed39 s.vm) (wc : (Cond.code y bytes maxL ret).before a0 Z = true) (wz : (Cond.initialized y.cls).before a0 Z = true) (hf : rm.frames + 1 ≤ R.frames) (hl : W + (maxL + 11) + rm.locals ≤ R.locals) :
    BackS l R p e below s args y len W (fun A a => a = as' ∧ A.U.heap = h ∧ A.cells + rm.cells ≤ R.cells ∧ A.slots + rm.slots ≤ R.slots ∧ J A.U.vm)
      (fun A _ v B => ∃ L, (Q v B.U.heap L ∧ J' B.U.vm) ∧ B.locs = A.locs ++ L ∧ B.cells = A.cells + rm.cells ∧ B.slots = A.slots + rm.slots) :=
  BackS.of_freeW (bytes := bytes) (maxL := maxL) (ret := ret) (E := fun _ _ o t L k n => k = rm.cells ∧ n = rm.slots ∧ ∃ v, o = .returned v ∧ Q v t.heap L ∧ J' t.vm) hM hf hl
    (fun m meth c A a Y hp => have hU : Z.Warmed39 A.U.vm := wtrans hZ Y.warmed
      ⟨by show (Cond.and _ .tt).before a A.U = true; rw [Cond.before_and, mv hU wc]; rfl, mv hU wc, mv hU wz, hp.2.2.1, hp.2.2.2.1⟩)
    (fun m meth c A a g mk Y hp => ⟨hp.1, wtrans hZ Y.warmed, hp.2.1, hp.2.2.2.2⟩) (fun _ _ _ _ _ _ _ _ _ => trivial)
    (fun _ _ _ _ ⟨v, L, h1, h2, h3, h4⟩ => ⟨L, _, _, h4, rfl, rfl, v, h1, h2, h3⟩)
    (fun m meth c A a g mk v t L k n Y hp _ _ ⟨e1, e2, v', e3, e4, e5⟩ => by cases e3; subst e1 e2; exact ⟨L, ⟨e4, e5⟩, rfl, rfl, rfl⟩)
end OwnWide
section OwnStart
variable {args : Array Value} {s : State} {t u : Term} {a : Addr} {cl : Cell} {ty : FieldType} {z k : Int32}
theorem own_eqInt (h : (Jvm.Cond.eq t (.int k)).value args s none s [] = some true) : t.eval args s none [] s = some (.int k) := by
  obtain ⟨x, y, h1, h2, h3, -⟩ := cmp_v (Or.inl h)
  cases h2
  cases x <;> simp [Kin, Value.isRef] at h3
  have := gotT (Cond.eq_ints h1 (Term.int_eval k)) h
  rw [h1, this]
theorem own_eqRef (h : (Jvm.Cond.eq t u).value args s none s [] = some true) (hu : u.eval args s none [] s = some (.ref a)) : t.eval args s none [] s = some (.ref a) := by
  obtain ⟨x, y, h1, h2, h3, h4⟩ := cmp_v (Or.inl h)
  cases hu.symm.trans h2
  have hx : x.isRef = true := by cases x <;> simp [Kin, Value.isRef] at h3 h4 ⊢
  have := gotT (eq_R h1 hu hx rfl) h
  rw [h1, this]
theorem own_len (h : (Term.length t).eval args s none [] s = some (.int z)) (ht : t.eval args s none [] s = some (.ref a)) (A : Arr s s.heap a cl ty) : cl.slots.size < 2 ^ 31 ∧ cl.slots.size.toInt32 = z := by
  have ha : s.arrayAt? a = some cl := Arr.fin (Vm.Alike.refl _) A
  simp only [Term.eval, ht, ha, Option.bind_eq_bind, Option.bind_some] at h
  split at h
  · rename_i q
    exact ⟨q, by simpa using h⟩
  · cases h
theorem own_elem {v : Value} {i : Nat} {j : Int32} (h : (Term.elem t (.int j)).eval args s none [] s = some v) (ht : t.eval args s none [] s = some (.ref a)) (A : Arr s s.heap a cl ty) (hi : j.toNatClampNeg = i) : cl.slots[i]? = some v := by
  have q := (elem_in h ht (Term.int_eval j) A.1).2
  rw [hi] at q
  exact q
theorem own_fld {C n d : String} {v : Value} (h : (Term.field t C n d).eval args s none [] s = some v) (ht : t.eval args s none [] s = some (.ref a)) : Fld s s.heap a C n d v := Fld.start (by rw [← fld_at ht]; exact h)
end OwnStart
def own_St (Z : State) (zc : Int32) : Prop := (Sta Z Z.heap "java/lang/String" "COMPACT_STRINGS" "Z" (.int zc)) ∧ (¬ zc = (0 : Int32))
theorem dc_j42_m66_0 : decode jdk_42_method_66_code 0 = .ok (.aload_n 0, 1) := by decide +kernel
theorem dc_j42_m66_1 : decode jdk_42_method_66_code 1 = .ok (.aload_n 1, 1) := by decide +kernel
theorem dc_j42_m66_2 : decode jdk_42_method_66_code 2 = .ok (.if_acmp .ne 5, 3) := by decide +kernel
theorem dc_j42_m66_5 : decode jdk_42_method_66_code 5 = .ok (.iconst 1, 1) := by decide +kernel
theorem dc_j42_m66_6 : decode jdk_42_method_66_code 6 = .ok (.ireturn, 1) := by decide +kernel
theorem pn_java_lang_String : plainName "java/lang/String" = true := by first | (simp [plainName, overriddenIn]; done) | decide +kernel
theorem ef_rmEqS (mm_ : MethodId) (a : Addr) : entryFrame mm_ #[(.ref a), (.ref a)] 3 = (mkF mm_ 0 #[.val (.ref a), .val (.ref a), .unset] []) := by first | (simp [entryFrame, mkF, argsToLocals, Value.category]; done) | rfl
def QrmEqS (Z : State) (a : Addr) (a : Addr) (h0 : Heap) (n0 : Nat) (vv_ : Option Value) (hh_ : Heap) (LL_ : List Loc) : Prop := (vv_ = some (.int (1 : Int32))) ∧ (LL_ = []) ∧ (hh_ = h0)
set_option maxRecDepth 65536 in
set_option maxHeartbeats 40000000 in
theorem rmEqS (l : Launch) (Z : State) (a0 : Array Value) (hw : ∀ d ∈ tables_1, d.before a0 Z = true) (ws : List Jvm.Cond) (a : Addr) (a : Addr) (h0 : Heap) (n0 : Nat) (O0 : Old Z n0 h0) :
    MetFree l (⟨"java/lang/String", "equals", "(Ljava/lang/Object;)Z"⟩ : MethodName) (head1 (Jvm.Cond.code (⟨"java/lang/String", "equals", "(Ljava/lang/Object;)Z"⟩ : MethodName) jdk_42_method_66_code 3 (some .boolean) :: ws) ({ frames := 0, cells := 0, slots := 0, locals := 0 } : Room)) (fun aa_ UU_ => aa_ = #[(.ref a), (.ref a)] ∧ Z.Warmed39 UU_.vm ∧ UU_.heap = h0) (fun _ _ _ _ _ => True) (fun _ UU_ oo_ UV_ => ∃ vv_ LL_, oo_ = .returned vv_ ∧ QrmEqS Z a a h0 n0 vv_ UV_.heap LL_ ∧ FrameEnd UU_ oo_ UV_ LL_ ({ frames := 0, cells := 0, slots := 0, locals := 0 } : Room).cells ({ frames := 0, cells := 0, slots := 0, locals := 0 } : Room).slots) := by
  refine MetFree.of_bodySF (plainFor_of_name pn_java_lang_String) hisR ?_
  intro pp_ ee_ ss_ mm_ args_ bb_ me_ cc_ s₁ Bd hml0 hP hK
  obtain ⟨rfl, hZ, hh⟩ := hP
  have hx := Bd.exec
  have hby := Bd.bytes
  have hml : cc_.maxLocals = 3 := hml0
  have hown : ss_.vm.findClass "java/lang/String" = some mm_.cls := findClass_of_methodNamed Bd.named
  have hnm := (name_of_methodNamed Bd.named Bd.method).1
  have X0 : Stand pp_ l ee_ ({ frames := 0, cells := 0, slots := 0, locals := 0 } : Room) ss_ mm_ #[(.ref a), (.ref a)] bb_ me_ cc_ s₁ [] 0 0 := Stand.of_body Bd
  have e0 : s₁.heap = h0 := by rw [← hh, Bd.state]; rfl
  have N0 := Fr.nil n0
  show own_Go pp_ ee_ bb_ (fun s₂ oo_ => s₂.status = .running ∧ Ended s₂ bb_ oo_ ∧ (∃ vv_ LL_, oo_ = .returned vv_ ∧ QrmEqS Z a a h0 n0 vv_ s₂.heap LL_ ∧ FrameEnd ss_ oo_ s₂ LL_ ({ frames := 0, cells := 0, slots := 0, locals := 0 } : Room).cells ({ frames := 0, cells := 0, slots := 0, locals := 0 } : Room).slots)) s₁ (entryFrame mm_ #[(.ref a), (.ref a)] 3)
  refine own_cast (ef_rmEqS mm_ a) ?_
  have Z0 : n0 ≤ h0.size := by have q := O0.2.1; rw [O0.1] at q; exact q
  have K0 : Keep h0 h0 [] := Keep.refl _ _
  show own_Go _ _ _ _ s₁ (mkF mm_ 0 #[.val (.ref a), .val (.ref a), .unset] [])
  refine own_step (fun t_ k_ => XS.aloadN X0.here hx rfl (hb hby dc_j42_m66_0) rfl rfl (XS.aloadN X0.here hx rfl (hb hby dc_j42_m66_1) rfl rfl k_)) ?_
  show own_Go _ _ _ _ s₁ (mkF mm_ 2 #[.val (.ref a), .val (.ref a), .unset] [(.ref a), (.ref a)])
  refine own_step (fun t_ k_ => Jvm.RoadKit.acmp (g := (mkF mm_ 2 #[.val (.ref a), .val (.ref a), .unset] [(.ref a), (.ref a)])) X0 hx rfl rfl rfl (pc0 := 2) (pc' := 5) (same := true) rfl (hb hby dc_j42_m66_2) rfl (decide_eq_true rfl) (by decide) (by decide) (XS.iconst X0.here hx rfl (hb hby dc_j42_m66_5) k_)) ?_
  show own_Go _ _ _ _ s₁ (mkF mm_ 6 #[.val (.ref a), .val (.ref a), .unset] [(.int (1 : Int32))])
  obtain ⟨fs, hr, hrun, hended, hW, hsame⟩ := X0.leave (v := some (.int (1 : Int32))) (fun h => by rw [Bd.returns] at h; cases h)
  refine ⟨_, _, ?_, hrun, hended, _, _, rfl, ?_, ⟨_, rfl⟩, hW, hsame.mono (by decide) (by decide)⟩
  · exact retN X0 hx (t := .boolean) Bd.returns (by simp) (hb hby dc_j42_m66_6) hr
  · show QrmEqS Z a a h0 n0 (some (.int (1 : Int32))) s₁.heap _
    rw [e0]
    exact ⟨rfl, rfl, rfl⟩
theorem dc_j31_m11_0 : decode jdk_31_method_11_code 0 = .ok (.aload_n 0, 1) := by decide +kernel
theorem dc_j31_m11_1 : decode jdk_31_method_11_code 1 = .ok (.ifnonnull 12, 3) := by decide +kernel
theorem dc_j31_m11_13 : decode jdk_31_method_11_code 13 = .ok (.aload_n 0, 1) := by decide +kernel
theorem dc_j31_m11_14 : decode jdk_31_method_11_code 14 = .ok (.areturn, 1) := by decide +kernel
theorem pn_java_util_Objects : plainName "java/util/Objects" = true := by first | (simp [plainName, overriddenIn]; done) | decide +kernel
theorem ef_rmNN (mm_ : MethodId) (a : Addr) (b : Addr) : entryFrame mm_ #[(.ref a), (.ref b)] 2 = (mkF mm_ 0 #[.val (.ref a), .val (.ref b)] []) := by first | (simp [entryFrame, mkF, argsToLocals, Value.category]; done) | rfl
def QrmNN (Z : State) (a : Addr) (b : Addr) (h0 : Heap) (n0 : Nat) (vv_ : Option Value) (hh_ : Heap) (LL_ : List Loc) : Prop := (vv_ = some (.ref a)) ∧ (LL_ = []) ∧ (hh_ = h0)
set_option maxRecDepth 65536 in
set_option maxHeartbeats 40000000 in
theorem rmNN (l : Launch) (Z : State) (a0 : Array Value) (hw : ∀ d ∈ tables_1, d.before a0 Z = true) (ws : List Jvm.Cond) (a : Addr) (b : Addr) (h0 : Heap) (n0 : Nat) (O0 : Old Z n0 h0) :
    MetFree l (⟨"java/util/Objects", "requireNonNull", "(Ljava/lang/Object;Ljava/lang/String;)Ljava/lang/Object;"⟩ : MethodName) (head1 (Jvm.Cond.code (⟨"java/util/Objects", "requireNonNull", "(Ljava/lang/Object;Ljava/lang/String;)Ljava/lang/Object;"⟩ : MethodName) jdk_31_method_11_code 2 (some (.object "java/lang/Object")) :: ws) ({ frames := 0, cells := 0, slots := 0, locals := 0 } : Room)) (fun aa_ UU_ => aa_ = #[(.ref a), (.ref b)] ∧ Z.Warmed39 UU_.vm ∧ UU_.heap = h0) (fun _ _ _ _ _ => True) (fun _ UU_ oo_ UV_ => ∃ vv_ LL_, oo_ = .returned vv_ ∧ QrmNN Z a b h0 n0 vv_ UV_.heap LL_ ∧ FrameEnd UU_ oo_ UV_ LL_ ({ frames := 0, cells := 0, slots := 0, locals := 0 } : Room).cells ({ frames := 0, cells := 0, slots := 0, locals := 0 } : Room).slots) := by
  refine MetFree.of_bodySF (plainFor_of_name pn_java_util_Objects) hisR ?_
  intro pp_ ee_ ss_ mm_ args_ bb_ me_ cc_ s₁ Bd hml0 hP hK
  obtain ⟨rfl, hZ, hh⟩ := hP
  have hx := Bd.exec
  have hby := Bd.bytes
  have hml : cc_.maxLocals = 2 := hml0
  have hown : ss_.vm.findClass "java/util/Objects" = some mm_.cls := findClass_of_methodNamed Bd.named
  have hnm := (name_of_methodNamed Bd.named Bd.method).1
  have X0 : Stand pp_ l ee_ ({ frames := 0, cells := 0, slots := 0, locals := 0 } : Room) ss_ mm_ #[(.ref a), (.ref b)] bb_ me_ cc_ s₁ [] 0 0 := Stand.of_body Bd
  have e0 : s₁.heap = h0 := by rw [← hh, Bd.state]; rfl
  have N0 := Fr.nil n0
  show own_Go pp_ ee_ bb_ (fun s₂ oo_ => s₂.status = .running ∧ Ended s₂ bb_ oo_ ∧ (∃ vv_ LL_, oo_ = .returned vv_ ∧ QrmNN Z a b h0 n0 vv_ s₂.heap LL_ ∧ FrameEnd ss_ oo_ s₂ LL_ ({ frames := 0, cells := 0, slots := 0, locals := 0 } : Room).cells ({ frames := 0, cells := 0, slots := 0, locals := 0 } : Room).slots)) s₁ (entryFrame mm_ #[(.ref a), (.ref b)] 2)
  refine own_cast (ef_rmNN mm_ a b) ?_
  have Z0 : n0 ≤ h0.size := by have q := O0.2.1; rw [O0.1] at q; exact q
  have K0 : Keep h0 h0 [] := Keep.refl _ _
  show own_Go _ _ _ _ s₁ (mkF mm_ 0 #[.val (.ref a), .val (.ref b)] [])
  refine own_step (fun t_ k_ => XS.aloadN X0.here hx rfl (hb hby dc_j31_m11_0) rfl rfl k_) ?_
  show own_Go _ _ _ _ s₁ (mkF mm_ 1 #[.val (.ref a), .val (.ref b)] [(.ref a)])
  refine own_step (fun t_ k_ => XS.ifnonnullYes X0.here hx rfl (pc0 := 1) (pc' := 13) rfl (hb hby dc_j31_m11_1) rfl (by decide) (by decide) (XS.aloadN X0.here hx rfl (hb hby dc_j31_m11_13) rfl rfl k_)) ?_
  show own_Go _ _ _ _ s₁ (mkF mm_ 14 #[.val (.ref a), .val (.ref b)] [(.ref a)])
  obtain ⟨fs, hr, hrun, hended, hW, hsame⟩ := X0.leave (v := some (.ref a)) (fun h => by rw [Bd.returns] at h; cases h)
  refine ⟨_, _, ?_, hrun, hended, _, _, rfl, ?_, ⟨_, rfl⟩, hW, hsame.mono (by decide) (by decide)⟩
  · jvm_step X0.here [X0.here.top, hx, (hb hby dc_j31_m11_14), X0.method', Bd.returns, Value.isRef, FieldType.isReference]
    first | (intro acts; rw [hr _ acts rfl rfl rfl]) | rw [hr _ _ rfl rfl rfl]
    exact Steps.refl _
  · show QrmNN Z a b h0 n0 (some (.ref a)) s₁.heap _
    rw [e0]
    exact ⟨rfl, rfl, rfl⟩
theorem dc_m2_0 : decode method_2_code 0 = .ok (.iconst 2, 1) := by decide +kernel
theorem dc_m2_1 : decode method_2_code 1 = .ok (.newarray .char, 2) := by decide +kernel
theorem dc_m2_3 : decode method_2_code 3 = .ok (.astore_n 1, 1) := by decide +kernel
theorem dc_m2_4 : decode method_2_code 4 = .ok (.aload_n 1, 1) := by decide +kernel
theorem dc_m2_5 : decode method_2_code 5 = .ok (.iconst 0, 1) := by decide +kernel
theorem dc_m2_6 : decode method_2_code 6 = .ok (.iload_n 0, 1) := by decide +kernel
theorem dc_m2_7 : decode method_2_code 7 = .ok (.sipush 255, 3) := by decide +kernel
theorem dc_m2_10 : decode method_2_code 10 = .ok (.iand, 1) := by decide +kernel
theorem dc_m2_11 : decode method_2_code 11 = .ok (.i2c, 1) := by decide +kernel
theorem dc_m2_12 : decode method_2_code 12 = .ok (.castore, 1) := by decide +kernel
theorem dc_m2_13 : decode method_2_code 13 = .ok (.aload_n 1, 1) := by decide +kernel
theorem dc_m2_14 : decode method_2_code 14 = .ok (.iconst 1, 1) := by decide +kernel
theorem dc_m2_15 : decode method_2_code 15 = .ok (.iload_n 0, 1) := by decide +kernel
theorem dc_m2_16 : decode method_2_code 16 = .ok (.bipush 8, 2) := by decide +kernel
theorem dc_m2_18 : decode method_2_code 18 = .ok (.iushr, 1) := by decide +kernel
theorem dc_m2_19 : decode method_2_code 19 = .ok (.sipush 255, 3) := by decide +kernel
theorem dc_m2_22 : decode method_2_code 22 = .ok (.iand, 1) := by decide +kernel
theorem dc_m2_23 : decode method_2_code 23 = .ok (.i2c, 1) := by decide +kernel
theorem dc_m2_24 : decode method_2_code 24 = .ok (.castore, 1) := by decide +kernel
theorem dc_m2_25 : decode method_2_code 25 = .ok (.new 7, 3) := by decide +kernel
theorem dc_m2_28 : decode method_2_code 28 = .ok (.dup, 1) := by decide +kernel
theorem dc_m2_29 : decode method_2_code 29 = .ok (.aload_n 1, 1) := by decide +kernel
theorem dc_m2_30 : decode method_2_code 30 = .ok (.invokespecial 9, 3) := by decide +kernel
theorem pd_0 : parseMethodDescriptor "([C)V" = some ⟨[(.array .char)], none⟩ := by decide +kernel
theorem dc_m2_33 : decode method_2_code 33 = .ok (.areturn, 1) := by decide +kernel
theorem pn_com_example_malipo_malipo_core_ledger_PaymentBuilderPinLaw : plainName "com/example/malipo/malipo/core/ledger/PaymentBuilderPinLaw" = true := by first | (simp [plainName, overriddenIn]; done) | decide +kernel
theorem ef_rmS (mm_ : MethodId) (i : Int32) : entryFrame mm_ #[(.int i)] 2 = (mkF mm_ 0 #[.val (.int i), .unset] []) := by first | (simp [entryFrame, mkF, argsToLocals, Value.category]; done) | rfl
def QrmS (Z : State) (i : Int32) (h0 : Heap) (n0 : Nat) (vv_ : Option Value) (hh_ : Heap) (LL_ : List Loc) : Prop := ∃ (r : Addr), ∃ (t : Addr), ∃ (cs : List Int32), (vv_ = some (.ref r)) ∧ (Fr n0 LL_) ∧ (Keep h0 hh_ []) ∧ (h0.size ≤ r) ∧ (own_Str Z hh_ r t cs)
set_option maxRecDepth 65536 in
set_option maxHeartbeats 40000000 in
theorem rmS (l : Launch) (Z : State) (a0 : Array Value) (hw : ∀ d ∈ tables_1, d.before a0 Z = true) (ws : List Jvm.Cond) (i : Int32) {zc : Int32} (h0 : Heap) (n0 : Nat) (O0 : Old Z n0 h0) (G_ : own_St Z zc) :
    MetFree l (⟨"com/example/malipo/malipo/core/ledger/PaymentBuilderPinLaw", "str", "(I)Ljava/lang/String;"⟩ : MethodName) (head1 (Jvm.Cond.code (⟨"com/example/malipo/malipo/core/ledger/PaymentBuilderPinLaw", "str", "(I)Ljava/lang/String;"⟩ : MethodName) method_2_code 2 (some (.object "java/lang/String")) :: ws) ({ frames := 4, cells := 3, slots := 8, locals := 66 } : Room)) (fun aa_ UU_ => aa_ = #[(.int i)] ∧ Z.Warmed39 UU_.vm ∧ UU_.heap = h0) (fun _ _ _ _ _ => True) (fun _ UU_ oo_ UV_ => ∃ vv_ LL_, oo_ = .returned vv_ ∧ QrmS Z i h0 n0 vv_ UV_.heap LL_ ∧ FrameEnd UU_ oo_ UV_ LL_ ({ frames := 4, cells := 3, slots := 8, locals := 66 } : Room).cells ({ frames := 4, cells := 3, slots := 8, locals := 66 } : Room).slots) := by
  refine MetFree.of_bodySF (plainFor_of_name pn_com_example_malipo_malipo_core_ledger_PaymentBuilderPinLaw) hisR ?_
  intro pp_ ee_ ss_ mm_ args_ bb_ me_ cc_ s₁ Bd hml0 hP hK
  obtain ⟨rfl, hZ, hh⟩ := hP
  have hx := Bd.exec
  have hby := Bd.bytes
  have hml : cc_.maxLocals = 2 := hml0
  have hown : ss_.vm.findClass "com/example/malipo/malipo/core/ledger/PaymentBuilderPinLaw" = some mm_.cls := findClass_of_methodNamed Bd.named
  have hnm := (name_of_methodNamed Bd.named Bd.method).1
  have X0 : Stand pp_ l ee_ ({ frames := 4, cells := 3, slots := 8, locals := 66 } : Room) ss_ mm_ #[(.int i)] bb_ me_ cc_ s₁ [] 0 0 := Stand.of_body Bd
  have e0 : s₁.heap = h0 := by rw [← hh, Bd.state]; rfl
  have N0 := Fr.nil n0
  show own_Go pp_ ee_ bb_ (fun s₂ oo_ => s₂.status = .running ∧ Ended s₂ bb_ oo_ ∧ (∃ vv_ LL_, oo_ = .returned vv_ ∧ QrmS Z i h0 n0 vv_ s₂.heap LL_ ∧ FrameEnd ss_ oo_ s₂ LL_ ({ frames := 4, cells := 3, slots := 8, locals := 66 } : Room).cells ({ frames := 4, cells := 3, slots := 8, locals := 66 } : Room).slots)) s₁ (entryFrame mm_ #[(.int i)] 2)
  refine own_cast (ef_rmS mm_ i) ?_
  have Z0 : n0 ≤ h0.size := by have q := O0.2.1; rw [O0.1] at q; exact q
  have K0 : Keep h0 h0 [] := Keep.refl _ _
  obtain ⟨G_cs, G_cs0⟩ := id G_
  show own_Go _ _ _ _ s₁ (mkF mm_ 0 #[.val (.int i), .unset] [])
  refine own_step (fun t_ k_ => XS.iconst X0.here hx rfl (hb hby dc_m2_0) k_) ?_
  show own_Go _ _ _ _ s₁ (mkF mm_ 1 #[.val (.int i), .unset] [(.int (2 : Int32))])
  obtain ⟨T1, h1, k1, X1, e1, E1, A1, st1⟩ := newP X0 hx hZ (own_w hw 4 rfl) e0 (g := (mkF mm_ 1 #[.val (.int i), .unset] [(.int (2 : Int32))])) rfl (hb hby dc_m2_1) rfl (by decide) (cap := 2) (by decide) (by decide) (by decide) (by decide)
  obtain ⟨b1, q1⟩ : ∃ z, z = h0.size := ⟨_, rfl⟩
  rw [← q1] at A1 st1
  have lo_b1 : h0.size ≤ b1 := Nat.le_trans K0.1 (Nat.le_of_eq q1.symm)
  have g_b1 : n0 ≤ b1 := Nat.le_trans Z0 lo_b1
  refine own_step st1 ?_
  have V1 : Arv Z h1 b1 k1 .char (2 : Int32) [(.int (0 : Int32)), (.int (0 : Int32))] (.int (0 : Int32)) := (Arv.new A1 (by decide)).pad (pad_rep [] (.int (0 : Int32)) 2)
  show own_Go _ _ _ _ T1 (mkF mm_ 3 #[.val (.int i), .unset] [(.ref b1)])
  refine own_step (fun t_ k_ => XS.astoreN X1.here hx rfl (hb hby dc_m2_3) rfl rfl (l' := #[.val (.int i), .val (.ref b1)]) rfl (XS.aloadN X1.here hx rfl (hb hby dc_m2_4) rfl rfl (XS.iconst X1.here hx rfl (hb hby dc_m2_5) (XS.iloadN X1.here hx rfl (hb hby dc_m2_6) rfl  (XS.sipush X1.here hx rfl (hb hby dc_m2_7) (XS.iand X1.here hx rfl (hb hby dc_m2_10) rfl k_)))))) ?_
  show own_Go _ _ _ _ T1 (mkF mm_ 11 #[.val (.int i), .val (.ref b1)] [(.int (i &&& (255 : Int32))), (.int (0 : Int32)), (.ref b1)])
  refine own_step (fun t_ k_ => XS.i2c X1.here hx rfl (hb hby dc_m2_11) rfl (by rw [i2c_mask]; exact k_)) ?_
  show own_Go _ _ _ _ T1 (mkF mm_ 12 #[.val (.int i), .val (.ref b1)] [(.int (i &&& (255 : Int32))), (.int (0 : Int32)), (.ref b1)])
  obtain ⟨cl2, Ar2, q2, S2, M2, H2, G2⟩ := id V1
  have hin2 : ¬ ((0 : Int32) < 0 ∨ cl2.slots.size ≤ ((0 : Int32)).toNatClampNeg) := inb_of S2 ⟨by decide, by decide⟩
  obtain ⟨T2, h2, X2, e2, W2, st2⟩ := stC X1 hx hZ e1 Ar2 (j := (0 : Int32)) hin2 (g := (mkF mm_ 12 #[.val (.int i), .val (.ref b1)] [(.int (i &&& (255 : Int32))), (.int (0 : Int32)), (.ref b1)])) rfl rfl (hb hby dc_m2_12)
  have V2 : Arv Z h2 b1 k1 .char (2 : Int32) [(.int (i &&& (255 : Int32))), (.int (0 : Int32))] (.int (0 : Int32)) := by
    have q := Arv.set Ar2 q2 S2 M2 H2 G2 (fits_nar_char _) W2 0 rfl (Nat.le_of_ble_eq_true rfl)
    rw [own_nar255] at q
    exact q
  have N2 := Fr.snoc X2 N0 g_b1
  refine own_step st2 ?_
  show own_Go _ _ _ _ T2 (mkF mm_ 13 #[.val (.int i), .val (.ref b1)] [])
  refine own_step (fun t_ k_ => XS.aloadN X2.here hx rfl (hb hby dc_m2_13) rfl rfl (XS.iconst X2.here hx rfl (hb hby dc_m2_14) (XS.iloadN X2.here hx rfl (hb hby dc_m2_15) rfl  (XS.bipush X2.here hx rfl (hb hby dc_m2_16) (XS.iushr X2.here hx rfl (hb hby dc_m2_18) rfl (XS.sipush X2.here hx rfl (hb hby dc_m2_19) (XS.iand X2.here hx rfl (hb hby dc_m2_22) rfl k_))))))) ?_
  show own_Go _ _ _ _ T2 (mkF mm_ 23 #[.val (.int i), .val (.ref b1)] [(.int (((i.toUInt32 >>> ((8 : Int32) &&& 31).toUInt32).toInt32) &&& (255 : Int32))), (.int (1 : Int32)), (.ref b1)])
  refine own_step (fun t_ k_ => XS.i2c X2.here hx rfl (hb hby dc_m2_23) rfl (by rw [i2c_mask]; exact k_)) ?_
  show own_Go _ _ _ _ T2 (mkF mm_ 24 #[.val (.int i), .val (.ref b1)] [(.int (((i.toUInt32 >>> ((8 : Int32) &&& 31).toUInt32).toInt32) &&& (255 : Int32))), (.int (1 : Int32)), (.ref b1)])
  obtain ⟨cl3, Ar3, q3, S3, M3, H3, G3⟩ := id V2
  have hin3 : ¬ ((1 : Int32) < 0 ∨ cl3.slots.size ≤ ((1 : Int32)).toNatClampNeg) := inb_of S3 ⟨by decide, by decide⟩
  obtain ⟨T3, h3, X3, e3, W3, st3⟩ := stC X2 hx hZ e2 Ar3 (j := (1 : Int32)) hin3 (g := (mkF mm_ 24 #[.val (.int i), .val (.ref b1)] [(.int (((i.toUInt32 >>> ((8 : Int32) &&& 31).toUInt32).toInt32) &&& (255 : Int32))), (.int (1 : Int32)), (.ref b1)])) rfl rfl (hb hby dc_m2_24)
  have V3 : Arv Z h3 b1 k1 .char (2 : Int32) [(.int (i &&& (255 : Int32))), (.int (((i.toUInt32 >>> ((8 : Int32) &&& 31).toUInt32).toInt32) &&& (255 : Int32)))] (.int (0 : Int32)) := by
    have q := Arv.set Ar3 q3 S3 M3 H3 G3 (fits_nar_char _) W3 1 rfl (Nat.le_of_ble_eq_true rfl)
    rw [own_nar255] at q
    exact q
  have N3 := Fr.snoc X3 N2 g_b1
  refine own_step st3 ?_
  show own_Go _ _ _ _ T3 (mkF mm_ 25 #[.val (.int i), .val (.ref b1)] [])
  obtain ⟨T4, h4, X4, e4, E4, A4, D4, -, st4⟩ := newO X3 hx hZ hown (own_w hw 5 rfl) (own_w hw 6 rfl) (own_w hw 7 rfl) e3 (g := (mkF mm_ 25 #[.val (.int i), .val (.ref b1)] [])) rfl (hb hby dc_m2_25) (by decide) (by decide)
  obtain ⟨b4, q4⟩ : ∃ z, z = h3.size := ⟨_, rfl⟩
  rw [← q4] at A4 D4 st4
  have K5 : Keep h0 h3 [] := (((K0.ext E1).wr W2 (Or.inr lo_b1)).wr W3 (Or.inr lo_b1))
  have lo_b4 : h0.size ≤ b4 := Nat.le_trans K5.1 (Nat.le_of_eq q4.symm)
  have g_b4 : n0 ≤ b4 := Nat.le_trans Z0 lo_b4
  refine own_step st4 ?_
  have F4_coder : Fld Z h4 b4 "java/lang/String" "coder" "B" (.int (0 : Int32)) := D4 (Or.inr (own_w hw 31 rfl)) (ty := .byte) (by decide)
  have F4_value : Fld Z h4 b4 "java/lang/String" "value" "[B" .null := D4 (Or.inr (own_w hw 33 rfl)) (ty := (.array .byte)) (by decide)
  show own_Go _ _ _ _ T4 (mkF mm_ 28 #[.val (.int i), .val (.ref b1)] [(.ref b4)])
  refine own_step (fun t_ k_ => XS.dup X4.here hx rfl (hb hby dc_m2_28) rfl rfl (XS.aloadN X4.here hx rfl (hb hby dc_m2_29) rfl rfl k_)) ?_
  show own_Go _ _ _ _ T4 (mkF mm_ 30 #[.val (.int i), .val (.ref b1)] [(.ref b1), (.ref b4), (.ref b4)])
  have hp7 : ∀ ch_ ∈ ([(i &&& (255 : Int32)), (((i.toUInt32 >>> ((8 : Int32) &&& 31).toUInt32).toInt32) &&& (255 : Int32))] : List Int32), ¬ ch_ < 0 ∧ ¬ (255 : Int32) < ch_ := by
    intro ch_ hc
    simp only [List.mem_cons, List.not_mem_nil, or_false] at hc
    rcases hc with rfl | rfl
    · exact own_and255 _
    · exact own_and255 _
  have f8 : Arv Z h4 b1 k1 .char (2 : Int32) [(.int (i &&& (255 : Int32))), (.int (((i.toUInt32 >>> ((8 : Int32) &&& 31).toUInt32).toInt32) &&& (255 : Int32)))] (.int (0 : Int32)) := (V3.ext E4)
  have O9 : Old Z n0 h4 := ((((O0.ext E1).wr W2 g_b1).wr W3 g_b1).ext E4)
  have K10 : Keep h0 h4 [] := (K5.ext E4)
  obtain ⟨_, T6, Lc6, X6, hQ6, st6⟩ := own_cI X4 hx hZ rfl hown (own_w hw 8 rfl) (own_w hw 9 rfl) (own_w hw 10 rfl) (by decide) (own_newS (W := 1) hZ hw (cs := [(i &&& (255 : Int32)), (((i.toUInt32 >>> ((8 : Int32) &&& 31).toUInt32).toInt32) &&& (255 : Int32))]) (n := 2) g_b4 (Nat.le_trans Z0 K10.1) A4 F4_value F4_coder f8 (G_cs.ext O9.2) G_cs0 rfl rfl rfl (by decide) (by decide) hp7 (by decide) (by decide)) (g := (mkF mm_ 30 #[.val (.int i), .val (.ref b1)] [(.ref b1), (.ref b4), (.ref b4)])) rfl (by rw [hml]; rfl) (a := b4) (argsL := [(.ref b1)]) (rest := [(.ref b4)]) (lenOf pd_0 rfl) rfl (by show 2 * 0 + _ ≤ _; exact Nat.le_of_eq rfl) (hb hby dc_m2_30) rfl e4 (by decide) (by decide)
  obtain ⟨t6, rfl, Nq6, Kc6, lo6, Fs6⟩ := hQ6
  have N6 := Fr.app N3 Nq6
  have lo_t6 : h0.size ≤ t6 := Nat.le_trans K10.1 lo6
  have g_t6 : n0 ≤ t6 := Nat.le_trans Z0 lo_t6
  refine own_jump st6 ?_
  show own_Go _ _ _ _ T6 (mkF mm_ 33 #[.val (.int i), .val (.ref b1)] [(.ref b4)])
  have K11 : Keep h0 T6.heap [] := (K10.trans Kc6 (allS (Or.inr lo_b4) all0))
  obtain ⟨fs, hr, hrun, hended, hW, hsame⟩ := X6.leave (v := some (.ref b4)) (fun h => by rw [Bd.returns] at h; cases h)
  refine ⟨_, _, ?_, hrun, hended, _, _, rfl, ?_, ⟨_, rfl⟩, hW, hsame.mono (by decide) (by decide)⟩
  · jvm_step X6.here [X6.here.top, hx, (hb hby dc_m2_33), X6.method', Bd.returns, Value.isRef, FieldType.isReference]
    first | (intro acts; rw [hr _ acts rfl rfl rfl]) | rw [hr _ _ rfl rfl rfl]
    exact Steps.refl _
  · show QrmS Z i h0 n0 (some (.ref b4)) T6.heap _
    exact ⟨b4, t6, [(i &&& (255 : Int32)), (((i.toUInt32 >>> ((8 : Int32) &&& 31).toUInt32).toInt32) &&& (255 : Int32))], rfl, N6, K11, lo_b4, Fs6⟩
theorem dc_p17_m1_0 : decode prog_17_method_1_code 0 = .ok (.aload_n 0, 1) := by decide +kernel
theorem dc_p17_m1_1 : decode prog_17_method_1_code 1 = .ok (.invokespecial 1, 3) := by decide +kernel
theorem dc_p17_m1_4 : decode prog_17_method_1_code 4 = .ok (.aload_n 0, 1) := by decide +kernel
theorem dc_p17_m1_5 : decode prog_17_method_1_code 5 = .ok (.aload_n 1, 1) := by decide +kernel
theorem dc_p17_m1_6 : decode prog_17_method_1_code 6 = .ok (.putfield 7, 3) := by decide +kernel
theorem dc_p17_m1_9 : decode prog_17_method_1_code 9 = .ok (.aload_n 0, 1) := by decide +kernel
theorem dc_p17_m1_10 : decode prog_17_method_1_code 10 = .ok (.aload_n 2, 1) := by decide +kernel
theorem dc_p17_m1_11 : decode prog_17_method_1_code 11 = .ok (.putfield 13, 3) := by decide +kernel
theorem dc_p17_m1_14 : decode prog_17_method_1_code 14 = .ok (.aload_n 0, 1) := by decide +kernel
theorem dc_p17_m1_15 : decode prog_17_method_1_code 15 = .ok (.aload_n 3, 1) := by decide +kernel
theorem dc_p17_m1_16 : decode prog_17_method_1_code 16 = .ok (.putfield 16, 3) := by decide +kernel
theorem dc_p17_m1_19 : decode prog_17_method_1_code 19 = .ok (.aload_n 0, 1) := by decide +kernel
theorem dc_p17_m1_20 : decode prog_17_method_1_code 20 = .ok (.lload 4, 2) := by decide +kernel
theorem dc_p17_m1_22 : decode prog_17_method_1_code 22 = .ok (.putfield 19, 3) := by decide +kernel
theorem dc_p17_m1_25 : decode prog_17_method_1_code 25 = .ok (.return_, 1) := by decide +kernel
theorem pn_com_example_malipo_malipo_core_ledger_Payment_Builder : plainName "com/example/malipo/malipo/core/ledger/Payment$Builder" = true := by first | (simp [plainName, overriddenIn]; done) | decide +kernel
theorem ef_rmBI (mm_ : MethodId) (x : Addr) (u : Addr) (v : Addr) (w : Addr) (q : Int64) : entryFrame mm_ #[(.ref x), (.ref u), (.ref v), (.ref w), (.long q)] 6 = (mkF mm_ 0 #[.val (.ref x), .val (.ref u), .val (.ref v), .val (.ref w), .val (.long q), .second] []) := by first | (simp [entryFrame, mkF, argsToLocals, Value.category]; done) | rfl
def QrmBI (Z : State) (x : Addr) (u : Addr) (v : Addr) (w : Addr) (q : Int64) (h0 : Heap) (n0 : Nat) (vv_ : Option Value) (hh_ : Heap) (LL_ : List Loc) : Prop := (vv_ = none) ∧ (Fr n0 LL_) ∧ (Keep h0 hh_ [x]) ∧ (Fld Z hh_ x "com/example/malipo/malipo/core/ledger/Payment$Builder" "channel" "Ljava/lang/String;" (.ref u)) ∧ (Fld Z hh_ x "com/example/malipo/malipo/core/ledger/Payment$Builder" "orderNo" "Ljava/lang/String;" (.ref v)) ∧ (Fld Z hh_ x "com/example/malipo/malipo/core/ledger/Payment$Builder" "channelOrderNo" "Ljava/lang/String;" (.ref w)) ∧ (Fld Z hh_ x "com/example/malipo/malipo/core/ledger/Payment$Builder" "amount" "J" (.long q)) ∧ (Fld Z hh_ x "com/example/malipo/malipo/core/ledger/Payment$Builder" "openId" "Ljava/lang/String;" .null) ∧ (Fld Z hh_ x "com/example/malipo/malipo/core/ledger/Payment$Builder" "serverId" "Ljava/lang/String;" .null) ∧ (Fld Z hh_ x "com/example/malipo/malipo/core/ledger/Payment$Builder" "paidAt" "Ljava/lang/String;" .null) ∧ (Fld Z hh_ x "com/example/malipo/malipo/core/ledger/Payment$Builder" "extend" "Ljava/lang/String;" .null) ∧ (Fld Z hh_ x "com/example/malipo/malipo/core/ledger/Payment$Builder" "count" "Ljava/lang/Long;" .null) ∧ (Fld Z hh_ x "com/example/malipo/malipo/core/ledger/Payment$Builder" "couponDeduction" "Ljava/lang/Long;" .null)
set_option maxRecDepth 65536 in
set_option maxHeartbeats 40000000 in
theorem rmBI (l : Launch) (Z : State) (a0 : Array Value) (hw : ∀ d ∈ tables_1, d.before a0 Z = true) (ws : List Jvm.Cond) (x : Addr) (u : Addr) (v : Addr) (w : Addr) (q : Int64) (h0 : Heap) (n0 : Nat) (O0 : Old Z n0 h0) (pr0 : Exa Z h0 x "com/example/malipo/malipo/core/ledger/Payment$Builder") (g_x : n0 ≤ x) (pr2 : Fld Z h0 x "com/example/malipo/malipo/core/ledger/Payment$Builder" "channel" "Ljava/lang/String;" .null) (pr3 : Fld Z h0 x "com/example/malipo/malipo/core/ledger/Payment$Builder" "orderNo" "Ljava/lang/String;" .null) (pr4 : Fld Z h0 x "com/example/malipo/malipo/core/ledger/Payment$Builder" "channelOrderNo" "Ljava/lang/String;" .null) (pr5 : Fld Z h0 x "com/example/malipo/malipo/core/ledger/Payment$Builder" "openId" "Ljava/lang/String;" .null) (pr6 : Fld Z h0 x "com/example/malipo/malipo/core/ledger/Payment$Builder" "serverId" "Ljava/lang/String;" .null) (pr7 : Fld Z h0 x "com/example/malipo/malipo/core/ledger/Payment$Builder" "paidAt" "Ljava/lang/String;" .null) (pr8 : Fld Z h0 x "com/example/malipo/malipo/core/ledger/Payment$Builder" "extend" "Ljava/lang/String;" .null) (pr9 : Fld Z h0 x "com/example/malipo/malipo/core/ledger/Payment$Builder" "count" "Ljava/lang/Long;" .null) (pr10 : Fld Z h0 x "com/example/malipo/malipo/core/ledger/Payment$Builder" "couponDeduction" "Ljava/lang/Long;" .null) (pr11 : Fld Z h0 x "com/example/malipo/malipo/core/ledger/Payment$Builder" "amount" "J" (.long (0 : Int64))) :
    MetFree l (⟨"com/example/malipo/malipo/core/ledger/Payment$Builder", "<init>", "(Ljava/lang/String;Ljava/lang/String;Ljava/lang/String;J)V"⟩ : MethodName) (head1 (Jvm.Cond.code (⟨"com/example/malipo/malipo/core/ledger/Payment$Builder", "<init>", "(Ljava/lang/String;Ljava/lang/String;Ljava/lang/String;J)V"⟩ : MethodName) prog_17_method_1_code 6 none :: ws) ({ frames := 1, cells := 0, slots := 0, locals := 12 } : Room)) (fun aa_ UU_ => aa_ = #[(.ref x), (.ref u), (.ref v), (.ref w), (.long q)] ∧ Z.Warmed39 UU_.vm ∧ UU_.heap = h0) (fun _ _ _ _ _ => True) (fun _ UU_ oo_ UV_ => ∃ vv_ LL_, oo_ = .returned vv_ ∧ QrmBI Z x u v w q h0 n0 vv_ UV_.heap LL_ ∧ FrameEnd UU_ oo_ UV_ LL_ ({ frames := 1, cells := 0, slots := 0, locals := 12 } : Room).cells ({ frames := 1, cells := 0, slots := 0, locals := 12 } : Room).slots) := by
  refine MetFree.of_bodySF (plainFor_of_name pn_com_example_malipo_malipo_core_ledger_Payment_Builder) hisR ?_
  intro pp_ ee_ ss_ mm_ args_ bb_ me_ cc_ s₁ Bd hml0 hP hK
  obtain ⟨rfl, hZ, hh⟩ := hP
  have hx := Bd.exec
  have hby := Bd.bytes
  have hml : cc_.maxLocals = 6 := hml0
  have hown : ss_.vm.findClass "com/example/malipo/malipo/core/ledger/Payment$Builder" = some mm_.cls := findClass_of_methodNamed Bd.named
  have hnm := (name_of_methodNamed Bd.named Bd.method).1
  have X0 : Stand pp_ l ee_ ({ frames := 1, cells := 0, slots := 0, locals := 12 } : Room) ss_ mm_ #[(.ref x), (.ref u), (.ref v), (.ref w), (.long q)] bb_ me_ cc_ s₁ [] 0 0 := Stand.of_body Bd
  have e0 : s₁.heap = h0 := by rw [← hh, Bd.state]; rfl
  have N0 := Fr.nil n0
  show own_Go pp_ ee_ bb_ (fun s₂ oo_ => s₂.status = .running ∧ Ended s₂ bb_ oo_ ∧ (∃ vv_ LL_, oo_ = .returned vv_ ∧ QrmBI Z x u v w q h0 n0 vv_ s₂.heap LL_ ∧ FrameEnd ss_ oo_ s₂ LL_ ({ frames := 1, cells := 0, slots := 0, locals := 12 } : Room).cells ({ frames := 1, cells := 0, slots := 0, locals := 12 } : Room).slots)) s₁ (entryFrame mm_ #[(.ref x), (.ref u), (.ref v), (.ref w), (.long q)] 6)
  refine own_cast (ef_rmBI mm_ x u v w q) ?_
  have Z0 : n0 ≤ h0.size := by have q := O0.2.1; rw [O0.1] at q; exact q
  have K0 : Keep h0 h0 [x] := Keep.refl _ _
  show own_Go _ _ _ _ s₁ (mkF mm_ 0 #[.val (.ref x), .val (.ref u), .val (.ref v), .val (.ref w), .val (.long q), .second] [])
  refine own_step (fun t_ k_ => XS.aloadN X0.here hx rfl (hb hby dc_p17_m1_0) rfl rfl k_) ?_
  show own_Go _ _ _ _ s₁ (mkF mm_ 1 #[.val (.ref x), .val (.ref u), .val (.ref v), .val (.ref w), .val (.long q), .second] [(.ref x)])
  obtain ⟨T1, X1, e1, st1⟩ := initO X0 hx hZ hown (own_w hw 44 rfl) (own_w hw 16 rfl) (own_w hw 17 rfl) e0 (g := (mkF mm_ 1 #[.val (.ref x), .val (.ref u), .val (.ref v), .val (.ref w), .val (.long q), .second] [(.ref x)])) rfl (by rw [hml]; rfl) rfl (hb hby dc_p17_m1_1) (by decide) (W := 0) (by show 2 * 0 + _ ≤ _; exact Nat.le_of_eq rfl) (by decide)
  refine own_step st1 ?_
  show own_Go _ _ _ _ T1 (mkF mm_ 4 #[.val (.ref x), .val (.ref u), .val (.ref v), .val (.ref w), .val (.long q), .second] [])
  refine own_step (fun t_ k_ => XS.aloadN X1.here hx rfl (hb hby dc_p17_m1_4) rfl rfl (XS.aloadN X1.here hx rfl (hb hby dc_p17_m1_5) rfl rfl k_)) ?_
  show own_Go _ _ _ _ T1 (mkF mm_ 6 #[.val (.ref x), .val (.ref u), .val (.ref v), .val (.ref w), .val (.long q), .second] [(.ref u), (.ref x)])
  obtain ⟨T2, h2, X2, e2, W2, st2⟩ := putF X1 hx hZ hown (host := "") (Or.inl (own_w hw 45 rfl)) Via.refl e1 pr2 pr0 (Or.inr ⟨(own_w hw 46 rfl), rfl, hnm⟩) (own_w hw 39 rfl) (ty := (.object "java/lang/String")) (by decide) rfl rfl (g := (mkF mm_ 6 #[.val (.ref x), .val (.ref u), .val (.ref v), .val (.ref w), .val (.long q), .second] [(.ref u), (.ref x)])) rfl rfl (hb hby dc_p17_m1_6)
  have F2 := pr2.same W2
  have N2 := Fr.snoc X2 N0 g_x
  refine own_step st2 ?_
  show own_Go _ _ _ _ T2 (mkF mm_ 9 #[.val (.ref x), .val (.ref u), .val (.ref v), .val (.ref w), .val (.long q), .second] [])
  refine own_step (fun t_ k_ => XS.aloadN X2.here hx rfl (hb hby dc_p17_m1_9) rfl rfl (XS.aloadN X2.here hx rfl (hb hby dc_p17_m1_10) rfl rfl k_)) ?_
  show own_Go _ _ _ _ T2 (mkF mm_ 11 #[.val (.ref x), .val (.ref u), .val (.ref v), .val (.ref w), .val (.long q), .second] [(.ref v), (.ref x)])
  have f3 : Fld Z h2 x "com/example/malipo/malipo/core/ledger/Payment$Builder" "orderNo" "Ljava/lang/String;" .null := (pr3.other W2 (Or.inr (slot_ne (Or.inr (own_w hw 48 rfl)) (Or.inr (own_w hw 46 rfl)) (by decide) (t := (.object "java/lang/String")) (t' := (.object "java/lang/String")) (by decide) (by decide))))
  have f4 : Exa Z h2 x "com/example/malipo/malipo/core/ledger/Payment$Builder" := (pr0.wr W2)
  obtain ⟨T5, h5, X5, e5, W5, st5⟩ := putF X2 hx hZ hown (host := "") (Or.inl (own_w hw 47 rfl)) Via.refl e2 f3 f4 (Or.inr ⟨(own_w hw 48 rfl), rfl, hnm⟩) (own_w hw 39 rfl) (ty := (.object "java/lang/String")) (by decide) rfl rfl (g := (mkF mm_ 11 #[.val (.ref x), .val (.ref u), .val (.ref v), .val (.ref w), .val (.long q), .second] [(.ref v), (.ref x)])) rfl rfl (hb hby dc_p17_m1_11)
  have F5 := f3.same W5
  have N5 := Fr.snoc X5 N2 g_x
  refine own_step st5 ?_
  show own_Go _ _ _ _ T5 (mkF mm_ 14 #[.val (.ref x), .val (.ref u), .val (.ref v), .val (.ref w), .val (.long q), .second] [])
  refine own_step (fun t_ k_ => XS.aloadN X5.here hx rfl (hb hby dc_p17_m1_14) rfl rfl (XS.aloadN X5.here hx rfl (hb hby dc_p17_m1_15) rfl rfl k_)) ?_
  show own_Go _ _ _ _ T5 (mkF mm_ 16 #[.val (.ref x), .val (.ref u), .val (.ref v), .val (.ref w), .val (.long q), .second] [(.ref w), (.ref x)])
  have f6 : Fld Z h5 x "com/example/malipo/malipo/core/ledger/Payment$Builder" "channelOrderNo" "Ljava/lang/String;" .null := ((pr4.other W2 (Or.inr (slot_ne (Or.inr (own_w hw 50 rfl)) (Or.inr (own_w hw 46 rfl)) (by decide) (t := (.object "java/lang/String")) (t' := (.object "java/lang/String")) (by decide) (by decide)))).other W5 (Or.inr (slot_ne (Or.inr (own_w hw 50 rfl)) (Or.inr (own_w hw 48 rfl)) (by decide) (t := (.object "java/lang/String")) (t' := (.object "java/lang/String")) (by decide) (by decide))))
  have f7 : Exa Z h5 x "com/example/malipo/malipo/core/ledger/Payment$Builder" := (f4.wr W5)
  obtain ⟨T8, h8, X8, e8, W8, st8⟩ := putF X5 hx hZ hown (host := "") (Or.inl (own_w hw 49 rfl)) Via.refl e5 f6 f7 (Or.inr ⟨(own_w hw 50 rfl), rfl, hnm⟩) (own_w hw 39 rfl) (ty := (.object "java/lang/String")) (by decide) rfl rfl (g := (mkF mm_ 16 #[.val (.ref x), .val (.ref u), .val (.ref v), .val (.ref w), .val (.long q), .second] [(.ref w), (.ref x)])) rfl rfl (hb hby dc_p17_m1_16)
  have F8 := f6.same W8
  have N8 := Fr.snoc X8 N5 g_x
  refine own_step st8 ?_
  show own_Go _ _ _ _ T8 (mkF mm_ 19 #[.val (.ref x), .val (.ref u), .val (.ref v), .val (.ref w), .val (.long q), .second] [])
  refine own_step (fun t_ k_ => XS.aloadN X8.here hx rfl (hb hby dc_p17_m1_19) rfl rfl (XS.lload X8.here hx rfl (hb hby dc_p17_m1_20) rfl  k_)) ?_
  show own_Go _ _ _ _ T8 (mkF mm_ 22 #[.val (.ref x), .val (.ref u), .val (.ref v), .val (.ref w), .val (.long q), .second] [(.long q), (.ref x)])
  have f9 : Fld Z h8 x "com/example/malipo/malipo/core/ledger/Payment$Builder" "amount" "J" (.long (0 : Int64)) := (((pr11.other W2 (Or.inr (slot_ne (Or.inr (own_w hw 52 rfl)) (Or.inr (own_w hw 46 rfl)) (by decide) (t := .long) (t' := (.object "java/lang/String")) (by decide) (by decide)))).other W5 (Or.inr (slot_ne (Or.inr (own_w hw 52 rfl)) (Or.inr (own_w hw 48 rfl)) (by decide) (t := .long) (t' := (.object "java/lang/String")) (by decide) (by decide)))).other W8 (Or.inr (slot_ne (Or.inr (own_w hw 52 rfl)) (Or.inr (own_w hw 50 rfl)) (by decide) (t := .long) (t' := (.object "java/lang/String")) (by decide) (by decide))))
  have f10 : Exa Z h8 x "com/example/malipo/malipo/core/ledger/Payment$Builder" := (f7.wr W8)
  obtain ⟨T11, h11, X11, e11, W11, st11⟩ := putF X8 hx hZ hown (host := "") (Or.inl (own_w hw 51 rfl)) Via.refl e8 f9 f10 (Or.inr ⟨(own_w hw 52 rfl), rfl, hnm⟩) (own_w hw 39 rfl) (ty := .long) (by decide) rfl rfl (g := (mkF mm_ 22 #[.val (.ref x), .val (.ref u), .val (.ref v), .val (.ref w), .val (.long q), .second] [(.long q), (.ref x)])) rfl rfl (hb hby dc_p17_m1_22)
  have F11 := f9.same W11
  have N11 := Fr.snoc X11 N8 g_x
  refine own_step st11 ?_
  show own_Go _ _ _ _ T11 (mkF mm_ 25 #[.val (.ref x), .val (.ref u), .val (.ref v), .val (.ref w), .val (.long q), .second] [])
  have K12 : Keep h0 h11 [x] := ((((K0.wr W2 (Or.inl (List.mem_of_getElem? (i := 0) rfl))).wr W5 (Or.inl (List.mem_of_getElem? (i := 0) rfl))).wr W8 (Or.inl (List.mem_of_getElem? (i := 0) rfl))).wr W11 (Or.inl (List.mem_of_getElem? (i := 0) rfl)))
  have f13 : Fld Z h11 x "com/example/malipo/malipo/core/ledger/Payment$Builder" "channel" "Ljava/lang/String;" (.ref u) := (((F2.other W5 (Or.inr (slot_ne (Or.inr (own_w hw 46 rfl)) (Or.inr (own_w hw 48 rfl)) (by decide) (t := (.object "java/lang/String")) (t' := (.object "java/lang/String")) (by decide) (by decide)))).other W8 (Or.inr (slot_ne (Or.inr (own_w hw 46 rfl)) (Or.inr (own_w hw 50 rfl)) (by decide) (t := (.object "java/lang/String")) (t' := (.object "java/lang/String")) (by decide) (by decide)))).other W11 (Or.inr (slot_ne (Or.inr (own_w hw 46 rfl)) (Or.inr (own_w hw 52 rfl)) (by decide) (t := (.object "java/lang/String")) (t' := .long) (by decide) (by decide))))
  have f14 : Fld Z h11 x "com/example/malipo/malipo/core/ledger/Payment$Builder" "orderNo" "Ljava/lang/String;" (.ref v) := ((F5.other W8 (Or.inr (slot_ne (Or.inr (own_w hw 48 rfl)) (Or.inr (own_w hw 50 rfl)) (by decide) (t := (.object "java/lang/String")) (t' := (.object "java/lang/String")) (by decide) (by decide)))).other W11 (Or.inr (slot_ne (Or.inr (own_w hw 48 rfl)) (Or.inr (own_w hw 52 rfl)) (by decide) (t := (.object "java/lang/String")) (t' := .long) (by decide) (by decide))))
  have f15 : Fld Z h11 x "com/example/malipo/malipo/core/ledger/Payment$Builder" "channelOrderNo" "Ljava/lang/String;" (.ref w) := (F8.other W11 (Or.inr (slot_ne (Or.inr (own_w hw 50 rfl)) (Or.inr (own_w hw 52 rfl)) (by decide) (t := (.object "java/lang/String")) (t' := .long) (by decide) (by decide))))
  have f16 : Fld Z h11 x "com/example/malipo/malipo/core/ledger/Payment$Builder" "openId" "Ljava/lang/String;" .null := ((((pr5.other W2 (Or.inr (slot_ne (Or.inl (own_w hw 87 rfl)) (Or.inr (own_w hw 46 rfl)) (by decide) (t := (.object "java/lang/String")) (t' := (.object "java/lang/String")) (by decide) (by decide)))).other W5 (Or.inr (slot_ne (Or.inl (own_w hw 87 rfl)) (Or.inr (own_w hw 48 rfl)) (by decide) (t := (.object "java/lang/String")) (t' := (.object "java/lang/String")) (by decide) (by decide)))).other W8 (Or.inr (slot_ne (Or.inl (own_w hw 87 rfl)) (Or.inr (own_w hw 50 rfl)) (by decide) (t := (.object "java/lang/String")) (t' := (.object "java/lang/String")) (by decide) (by decide)))).other W11 (Or.inr (slot_ne (Or.inl (own_w hw 87 rfl)) (Or.inr (own_w hw 52 rfl)) (by decide) (t := (.object "java/lang/String")) (t' := .long) (by decide) (by decide))))
  have f17 : Fld Z h11 x "com/example/malipo/malipo/core/ledger/Payment$Builder" "serverId" "Ljava/lang/String;" .null := ((((pr6.other W2 (Or.inr (slot_ne (Or.inl (own_w hw 91 rfl)) (Or.inr (own_w hw 46 rfl)) (by decide) (t := (.object "java/lang/String")) (t' := (.object "java/lang/String")) (by decide) (by decide)))).other W5 (Or.inr (slot_ne (Or.inl (own_w hw 91 rfl)) (Or.inr (own_w hw 48 rfl)) (by decide) (t := (.object "java/lang/String")) (t' := (.object "java/lang/String")) (by decide) (by decide)))).other W8 (Or.inr (slot_ne (Or.inl (own_w hw 91 rfl)) (Or.inr (own_w hw 50 rfl)) (by decide) (t := (.object "java/lang/String")) (t' := (.object "java/lang/String")) (by decide) (by decide)))).other W11 (Or.inr (slot_ne (Or.inl (own_w hw 91 rfl)) (Or.inr (own_w hw 52 rfl)) (by decide) (t := (.object "java/lang/String")) (t' := .long) (by decide) (by decide))))
  have f18 : Fld Z h11 x "com/example/malipo/malipo/core/ledger/Payment$Builder" "paidAt" "Ljava/lang/String;" .null := ((((pr7.other W2 (Or.inr (slot_ne (Or.inl (own_w hw 95 rfl)) (Or.inr (own_w hw 46 rfl)) (by decide) (t := (.object "java/lang/String")) (t' := (.object "java/lang/String")) (by decide) (by decide)))).other W5 (Or.inr (slot_ne (Or.inl (own_w hw 95 rfl)) (Or.inr (own_w hw 48 rfl)) (by decide) (t := (.object "java/lang/String")) (t' := (.object "java/lang/String")) (by decide) (by decide)))).other W8 (Or.inr (slot_ne (Or.inl (own_w hw 95 rfl)) (Or.inr (own_w hw 50 rfl)) (by decide) (t := (.object "java/lang/String")) (t' := (.object "java/lang/String")) (by decide) (by decide)))).other W11 (Or.inr (slot_ne (Or.inl (own_w hw 95 rfl)) (Or.inr (own_w hw 52 rfl)) (by decide) (t := (.object "java/lang/String")) (t' := .long) (by decide) (by decide))))
  have f19 : Fld Z h11 x "com/example/malipo/malipo/core/ledger/Payment$Builder" "extend" "Ljava/lang/String;" .null := ((((pr8.other W2 (Or.inr (slot_ne (Or.inl (own_w hw 99 rfl)) (Or.inr (own_w hw 46 rfl)) (by decide) (t := (.object "java/lang/String")) (t' := (.object "java/lang/String")) (by decide) (by decide)))).other W5 (Or.inr (slot_ne (Or.inl (own_w hw 99 rfl)) (Or.inr (own_w hw 48 rfl)) (by decide) (t := (.object "java/lang/String")) (t' := (.object "java/lang/String")) (by decide) (by decide)))).other W8 (Or.inr (slot_ne (Or.inl (own_w hw 99 rfl)) (Or.inr (own_w hw 50 rfl)) (by decide) (t := (.object "java/lang/String")) (t' := (.object "java/lang/String")) (by decide) (by decide)))).other W11 (Or.inr (slot_ne (Or.inl (own_w hw 99 rfl)) (Or.inr (own_w hw 52 rfl)) (by decide) (t := (.object "java/lang/String")) (t' := .long) (by decide) (by decide))))
  have f20 : Fld Z h11 x "com/example/malipo/malipo/core/ledger/Payment$Builder" "count" "Ljava/lang/Long;" .null := ((((pr9.other W2 (Or.inr (slot_ne (Or.inl (own_w hw 103 rfl)) (Or.inr (own_w hw 46 rfl)) (by decide) (t := (.object "java/lang/Long")) (t' := (.object "java/lang/String")) (by decide) (by decide)))).other W5 (Or.inr (slot_ne (Or.inl (own_w hw 103 rfl)) (Or.inr (own_w hw 48 rfl)) (by decide) (t := (.object "java/lang/Long")) (t' := (.object "java/lang/String")) (by decide) (by decide)))).other W8 (Or.inr (slot_ne (Or.inl (own_w hw 103 rfl)) (Or.inr (own_w hw 50 rfl)) (by decide) (t := (.object "java/lang/Long")) (t' := (.object "java/lang/String")) (by decide) (by decide)))).other W11 (Or.inr (slot_ne (Or.inl (own_w hw 103 rfl)) (Or.inr (own_w hw 52 rfl)) (by decide) (t := (.object "java/lang/Long")) (t' := .long) (by decide) (by decide))))
  have f21 : Fld Z h11 x "com/example/malipo/malipo/core/ledger/Payment$Builder" "couponDeduction" "Ljava/lang/Long;" .null := ((((pr10.other W2 (Or.inr (slot_ne (Or.inl (own_w hw 107 rfl)) (Or.inr (own_w hw 46 rfl)) (by decide) (t := (.object "java/lang/Long")) (t' := (.object "java/lang/String")) (by decide) (by decide)))).other W5 (Or.inr (slot_ne (Or.inl (own_w hw 107 rfl)) (Or.inr (own_w hw 48 rfl)) (by decide) (t := (.object "java/lang/Long")) (t' := (.object "java/lang/String")) (by decide) (by decide)))).other W8 (Or.inr (slot_ne (Or.inl (own_w hw 107 rfl)) (Or.inr (own_w hw 50 rfl)) (by decide) (t := (.object "java/lang/Long")) (t' := (.object "java/lang/String")) (by decide) (by decide)))).other W11 (Or.inr (slot_ne (Or.inl (own_w hw 107 rfl)) (Or.inr (own_w hw 52 rfl)) (by decide) (t := (.object "java/lang/Long")) (t' := .long) (by decide) (by decide))))
  obtain ⟨fs, hr, hrun, hended, hW, hsame⟩ := X11.leave (v := none) (fun _ => rfl)
  refine ⟨_, _, ?_, hrun, hended, _, _, rfl, ?_, ⟨_, rfl⟩, hW, hsame.mono (by decide) (by decide)⟩
  · exact X11.returnOut hx Bd.returns (hb hby dc_p17_m1_25) hr
  · show QrmBI Z x u v w q h0 n0 none T11.heap _
    rw [e11]
    exact ⟨rfl, N11, K12, f13, f14, f15, F11, f16, f17, f18, f19, f20, f21⟩
theorem dc_p16_m2_0 : decode prog_16_method_2_code 0 = .ok (.new 8, 3) := by decide +kernel
theorem dc_p16_m2_3 : decode prog_16_method_2_code 3 = .ok (.dup, 1) := by decide +kernel
theorem dc_p16_m2_4 : decode prog_16_method_2_code 4 = .ok (.aload_n 0, 1) := by decide +kernel
theorem dc_p16_m2_5 : decode prog_16_method_2_code 5 = .ok (.aload_n 1, 1) := by decide +kernel
theorem dc_p16_m2_6 : decode prog_16_method_2_code 6 = .ok (.aload_n 2, 1) := by decide +kernel
theorem dc_p16_m2_7 : decode prog_16_method_2_code 7 = .ok (.lload_n 3, 1) := by decide +kernel
theorem dc_p16_m2_8 : decode prog_16_method_2_code 8 = .ok (.invokespecial 65, 3) := by decide +kernel
theorem pd_1 : parseMethodDescriptor "(Ljava/lang/String;Ljava/lang/String;Ljava/lang/String;J)V" = some ⟨[(.object "java/lang/String"), (.object "java/lang/String"), (.object "java/lang/String"), .long], none⟩ := by decide +kernel
theorem dc_p16_m2_11 : decode prog_16_method_2_code 11 = .ok (.areturn, 1) := by decide +kernel
theorem pn_com_example_malipo_malipo_core_ledger_Payment : plainName "com/example/malipo/malipo/core/ledger/Payment" = true := by first | (simp [plainName, overriddenIn]; done) | decide +kernel
theorem ef_rmB (mm_ : MethodId) (u : Addr) (v : Addr) (w : Addr) (q : Int64) : entryFrame mm_ #[(.ref u), (.ref v), (.ref w), (.long q)] 5 = (mkF mm_ 0 #[.val (.ref u), .val (.ref v), .val (.ref w), .val (.long q), .second] []) := by first | (simp [entryFrame, mkF, argsToLocals, Value.category]; done) | rfl
def QrmB (Z : State) (u : Addr) (v : Addr) (w : Addr) (q : Int64) (h0 : Heap) (n0 : Nat) (vv_ : Option Value) (hh_ : Heap) (LL_ : List Loc) : Prop := ∃ (r : Addr), (vv_ = some (.ref r)) ∧ (Fr n0 LL_) ∧ (Keep h0 hh_ []) ∧ (h0.size ≤ r) ∧ (Exa Z hh_ r "com/example/malipo/malipo/core/ledger/Payment$Builder") ∧ (Fld Z hh_ r "com/example/malipo/malipo/core/ledger/Payment$Builder" "channel" "Ljava/lang/String;" (.ref u)) ∧ (Fld Z hh_ r "com/example/malipo/malipo/core/ledger/Payment$Builder" "orderNo" "Ljava/lang/String;" (.ref v)) ∧ (Fld Z hh_ r "com/example/malipo/malipo/core/ledger/Payment$Builder" "channelOrderNo" "Ljava/lang/String;" (.ref w)) ∧ (Fld Z hh_ r "com/example/malipo/malipo/core/ledger/Payment$Builder" "amount" "J" (.long q)) ∧ (Fld Z hh_ r "com/example/malipo/malipo/core/ledger/Payment$Builder" "openId" "Ljava/lang/String;" .null) ∧ (Fld Z hh_ r "com/example/malipo/malipo/core/ledger/Payment$Builder" "serverId" "Ljava/lang/String;" .null) ∧ (Fld Z hh_ r "com/example/malipo/malipo/core/ledger/Payment$Builder" "paidAt" "Ljava/lang/String;" .null) ∧ (Fld Z hh_ r "com/example/malipo/malipo/core/ledger/Payment$Builder" "extend" "Ljava/lang/String;" .null) ∧ (Fld Z hh_ r "com/example/malipo/malipo/core/ledger/Payment$Builder" "count" "Ljava/lang/Long;" .null) ∧ (Fld Z hh_ r "com/example/malipo/malipo/core/ledger/Payment$Builder" "couponDeduction" "Ljava/lang/Long;" .null)
set_option maxRecDepth 65536 in
set_option maxHeartbeats 40000000 in
theorem rmB (l : Launch) (Z : State) (a0 : Array Value) (hw : ∀ d ∈ tables_1, d.before a0 Z = true) (ws : List Jvm.Cond) (u : Addr) (v : Addr) (w : Addr) (q : Int64) (h0 : Heap) (n0 : Nat) (O0 : Old Z n0 h0) :
    MetFree l (⟨"com/example/malipo/malipo/core/ledger/Payment", "builder", "(Ljava/lang/String;Ljava/lang/String;Ljava/lang/String;J)Lcom/example/malipo/malipo/core/ledger/Payment$Builder;"⟩ : MethodName) (head1 (Jvm.Cond.code (⟨"com/example/malipo/malipo/core/ledger/Payment", "builder", "(Ljava/lang/String;Ljava/lang/String;Ljava/lang/String;J)Lcom/example/malipo/malipo/core/ledger/Payment$Builder;"⟩ : MethodName) prog_16_method_2_code 5 (some (.object "com/example/malipo/malipo/core/ledger/Payment$Builder")) :: ws) ({ frames := 2, cells := 1, slots := 10, locals := 30 } : Room)) (fun aa_ UU_ => aa_ = #[(.ref u), (.ref v), (.ref w), (.long q)] ∧ Z.Warmed39 UU_.vm ∧ UU_.heap = h0) (fun _ _ _ _ _ => True) (fun _ UU_ oo_ UV_ => ∃ vv_ LL_, oo_ = .returned vv_ ∧ QrmB Z u v w q h0 n0 vv_ UV_.heap LL_ ∧ FrameEnd UU_ oo_ UV_ LL_ ({ frames := 2, cells := 1, slots := 10, locals := 30 } : Room).cells ({ frames := 2, cells := 1, slots := 10, locals := 30 } : Room).slots) := by
  refine MetFree.of_bodySF (plainFor_of_name pn_com_example_malipo_malipo_core_ledger_Payment) hisR ?_
  intro pp_ ee_ ss_ mm_ args_ bb_ me_ cc_ s₁ Bd hml0 hP hK
  obtain ⟨rfl, hZ, hh⟩ := hP
  have hx := Bd.exec
  have hby := Bd.bytes
  have hml : cc_.maxLocals = 5 := hml0
  have hown : ss_.vm.findClass "com/example/malipo/malipo/core/ledger/Payment" = some mm_.cls := findClass_of_methodNamed Bd.named
  have hnm := (name_of_methodNamed Bd.named Bd.method).1
  have X0 : Stand pp_ l ee_ ({ frames := 2, cells := 1, slots := 10, locals := 30 } : Room) ss_ mm_ #[(.ref u), (.ref v), (.ref w), (.long q)] bb_ me_ cc_ s₁ [] 0 0 := Stand.of_body Bd
  have e0 : s₁.heap = h0 := by rw [← hh, Bd.state]; rfl
  have N0 := Fr.nil n0
  show own_Go pp_ ee_ bb_ (fun s₂ oo_ => s₂.status = .running ∧ Ended s₂ bb_ oo_ ∧ (∃ vv_ LL_, oo_ = .returned vv_ ∧ QrmB Z u v w q h0 n0 vv_ s₂.heap LL_ ∧ FrameEnd ss_ oo_ s₂ LL_ ({ frames := 2, cells := 1, slots := 10, locals := 30 } : Room).cells ({ frames := 2, cells := 1, slots := 10, locals := 30 } : Room).slots)) s₁ (entryFrame mm_ #[(.ref u), (.ref v), (.ref w), (.long q)] 5)
  refine own_cast (ef_rmB mm_ u v w q) ?_
  have Z0 : n0 ≤ h0.size := by have q := O0.2.1; rw [O0.1] at q; exact q
  have K0 : Keep h0 h0 [] := Keep.refl _ _
  show own_Go _ _ _ _ s₁ (mkF mm_ 0 #[.val (.ref u), .val (.ref v), .val (.ref w), .val (.long q), .second] [])
  obtain ⟨T1, h1, X1, e1, E1, A1, D1, -, st1⟩ := newO X0 hx hZ hown (own_w hw 38 rfl) (own_w hw 39 rfl) (own_w hw 40 rfl) e0 (g := (mkF mm_ 0 #[.val (.ref u), .val (.ref v), .val (.ref w), .val (.long q), .second] [])) rfl (hb hby dc_p16_m2_0) (by decide) (by decide)
  obtain ⟨b1, q1⟩ : ∃ z, z = h0.size := ⟨_, rfl⟩
  rw [← q1] at A1 D1 st1
  have lo_b1 : h0.size ≤ b1 := Nat.le_trans K0.1 (Nat.le_of_eq q1.symm)
  have g_b1 : n0 ≤ b1 := Nat.le_trans Z0 lo_b1
  refine own_step st1 ?_
  have F1_channel : Fld Z h1 b1 "com/example/malipo/malipo/core/ledger/Payment$Builder" "channel" "Ljava/lang/String;" .null := D1 (Or.inr (own_w hw 46 rfl)) (ty := (.object "java/lang/String")) (by decide)
  have F1_orderNo : Fld Z h1 b1 "com/example/malipo/malipo/core/ledger/Payment$Builder" "orderNo" "Ljava/lang/String;" .null := D1 (Or.inr (own_w hw 48 rfl)) (ty := (.object "java/lang/String")) (by decide)
  have F1_channelOrderNo : Fld Z h1 b1 "com/example/malipo/malipo/core/ledger/Payment$Builder" "channelOrderNo" "Ljava/lang/String;" .null := D1 (Or.inr (own_w hw 50 rfl)) (ty := (.object "java/lang/String")) (by decide)
  have F1_amount : Fld Z h1 b1 "com/example/malipo/malipo/core/ledger/Payment$Builder" "amount" "J" (.long (0 : Int64)) := D1 (Or.inr (own_w hw 52 rfl)) (ty := .long) (by decide)
  have F1_openId : Fld Z h1 b1 "com/example/malipo/malipo/core/ledger/Payment$Builder" "openId" "Ljava/lang/String;" .null := D1 (Or.inl (own_w hw 87 rfl)) (ty := (.object "java/lang/String")) (by decide)
  have F1_serverId : Fld Z h1 b1 "com/example/malipo/malipo/core/ledger/Payment$Builder" "serverId" "Ljava/lang/String;" .null := D1 (Or.inl (own_w hw 91 rfl)) (ty := (.object "java/lang/String")) (by decide)
  have F1_paidAt : Fld Z h1 b1 "com/example/malipo/malipo/core/ledger/Payment$Builder" "paidAt" "Ljava/lang/String;" .null := D1 (Or.inl (own_w hw 95 rfl)) (ty := (.object "java/lang/String")) (by decide)
  have F1_extend : Fld Z h1 b1 "com/example/malipo/malipo/core/ledger/Payment$Builder" "extend" "Ljava/lang/String;" .null := D1 (Or.inl (own_w hw 99 rfl)) (ty := (.object "java/lang/String")) (by decide)
  have F1_count : Fld Z h1 b1 "com/example/malipo/malipo/core/ledger/Payment$Builder" "count" "Ljava/lang/Long;" .null := D1 (Or.inl (own_w hw 103 rfl)) (ty := (.object "java/lang/Long")) (by decide)
  have F1_couponDeduction : Fld Z h1 b1 "com/example/malipo/malipo/core/ledger/Payment$Builder" "couponDeduction" "Ljava/lang/Long;" .null := D1 (Or.inl (own_w hw 107 rfl)) (ty := (.object "java/lang/Long")) (by decide)
  show own_Go _ _ _ _ T1 (mkF mm_ 3 #[.val (.ref u), .val (.ref v), .val (.ref w), .val (.long q), .second] [(.ref b1)])
  refine own_step (fun t_ k_ => XS.dup X1.here hx rfl (hb hby dc_p16_m2_3) rfl rfl (XS.aloadN X1.here hx rfl (hb hby dc_p16_m2_4) rfl rfl (XS.aloadN X1.here hx rfl (hb hby dc_p16_m2_5) rfl rfl (XS.aloadN X1.here hx rfl (hb hby dc_p16_m2_6) rfl rfl (XS.lloadN X1.here hx rfl (hb hby dc_p16_m2_7) rfl  k_))))) ?_
  show own_Go _ _ _ _ T1 (mkF mm_ 8 #[.val (.ref u), .val (.ref v), .val (.ref w), .val (.long q), .second] [(.long q), (.ref w), (.ref v), (.ref u), (.ref b1), (.ref b1)])
  have O3 : Old Z n0 h1 := (O0.ext E1)
  obtain ⟨_, T2, Lc2, X2, hQ2, st2⟩ := own_cIR X1 hx hZ rfl hown (own_w hw 41 rfl) (own_w hw 42 rfl) (own_w hw 43 rfl) (by decide) (backOf (W := 1) (rmBI l Z a0 hw [] b1 u v w q h1 n0 O3 A1 g_b1 F1_channel F1_orderNo F1_channelOrderNo F1_openId F1_serverId F1_paidAt F1_extend F1_count F1_couponDeduction F1_amount) hZ (own_w hw 43 rfl) (own_w hw 40 rfl) (by decide) (by decide)) (g := (mkF mm_ 8 #[.val (.ref u), .val (.ref v), .val (.ref w), .val (.long q), .second] [(.long q), (.ref w), (.ref v), (.ref u), (.ref b1), (.ref b1)])) rfl (by rw [hml]; rfl) (a := b1) (argsL := [(.ref u), (.ref v), (.ref w), (.long q)]) (rest := [(.ref b1)]) (lenOf pd_1 rfl) rfl (by show 2 * 0 + _ ≤ _; exact Nat.le_of_eq rfl) (hb hby dc_p16_m2_8) rfl e1 (by decide) (by decide)
  obtain ⟨rfl, Nq2, Kc2, r2_0, r2_1, r2_2, r2_3, r2_4, r2_5, r2_6, r2_7, r2_8, r2_9⟩ := hQ2
  have N2 := Fr.app N0 Nq2
  refine own_jump st2 ?_
  show own_Go _ _ _ _ T2 (mkF mm_ 11 #[.val (.ref u), .val (.ref v), .val (.ref w), .val (.long q), .second] [(.ref b1)])
  have K4 : Keep h0 T2.heap [] := ((K0.ext E1).trans Kc2 (allS (Or.inr lo_b1) all0))
  have f5 : Exa Z T2.heap b1 "com/example/malipo/malipo/core/ledger/Payment$Builder" := (A1.keep Kc2)
  obtain ⟨fs, hr, hrun, hended, hW, hsame⟩ := X2.leave (v := some (.ref b1)) (fun h => by rw [Bd.returns] at h; cases h)
  refine ⟨_, _, ?_, hrun, hended, _, _, rfl, ?_, ⟨_, rfl⟩, hW, hsame.mono (by decide) (by decide)⟩
  · jvm_step X2.here [X2.here.top, hx, (hb hby dc_p16_m2_11), X2.method', Bd.returns, Value.isRef, FieldType.isReference]
    first | (intro acts; rw [hr _ acts rfl rfl rfl]) | rw [hr _ _ rfl rfl rfl]
    exact Steps.refl _
  · show QrmB Z u v w q h0 n0 (some (.ref b1)) T2.heap _
    exact ⟨b1, rfl, N2, K4, lo_b1, f5, r2_0, r2_1, r2_2, r2_3, r2_4, r2_5, r2_6, r2_7, r2_8, r2_9⟩
theorem dc_p16_m1_0 : decode prog_16_method_1_code 0 = .ok (.aload_n 0, 1) := by decide +kernel
theorem dc_p16_m1_1 : decode prog_16_method_1_code 1 = .ok (.invokespecial 1, 3) := by decide +kernel
theorem dc_p16_m1_4 : decode prog_16_method_1_code 4 = .ok (.aload_n 0, 1) := by decide +kernel
theorem dc_p16_m1_5 : decode prog_16_method_1_code 5 = .ok (.aload_n 1, 1) := by decide +kernel
theorem dc_p16_m1_6 : decode prog_16_method_1_code 6 = .ok (.getfield 7, 3) := by decide +kernel
theorem dc_p16_m1_9 : decode prog_16_method_1_code 9 = .ok (.ldc 13, 2) := by decide +kernel
theorem dc_p16_m1_11 : decode prog_16_method_1_code 11 = .ok (.invokestatic 14, 3) := by decide +kernel
theorem pd_2 : parseMethodDescriptor "(Ljava/lang/Object;Ljava/lang/String;)Ljava/lang/Object;" = some ⟨[(.object "java/lang/Object"), (.object "java/lang/String")], some (.object "java/lang/Object")⟩ := by decide +kernel
theorem dc_p16_m1_14 : decode prog_16_method_1_code 14 = .ok (.checkcast 20, 3) := by decide +kernel
theorem dc_p16_m1_17 : decode prog_16_method_1_code 17 = .ok (.putfield 22, 3) := by decide +kernel
theorem dc_p16_m1_20 : decode prog_16_method_1_code 20 = .ok (.aload_n 0, 1) := by decide +kernel
theorem dc_p16_m1_21 : decode prog_16_method_1_code 21 = .ok (.aload_n 1, 1) := by decide +kernel
theorem dc_p16_m1_22 : decode prog_16_method_1_code 22 = .ok (.getfield 25, 3) := by decide +kernel
theorem dc_p16_m1_25 : decode prog_16_method_1_code 25 = .ok (.ldc 28, 2) := by decide +kernel
theorem dc_p16_m1_27 : decode prog_16_method_1_code 27 = .ok (.invokestatic 14, 3) := by decide +kernel
theorem dc_p16_m1_30 : decode prog_16_method_1_code 30 = .ok (.checkcast 20, 3) := by decide +kernel
theorem dc_p16_m1_33 : decode prog_16_method_1_code 33 = .ok (.putfield 29, 3) := by decide +kernel
theorem dc_p16_m1_36 : decode prog_16_method_1_code 36 = .ok (.aload_n 0, 1) := by decide +kernel
theorem dc_p16_m1_37 : decode prog_16_method_1_code 37 = .ok (.aload_n 1, 1) := by decide +kernel
theorem dc_p16_m1_38 : decode prog_16_method_1_code 38 = .ok (.getfield 30, 3) := by decide +kernel
theorem dc_p16_m1_41 : decode prog_16_method_1_code 41 = .ok (.ldc 33, 2) := by decide +kernel
theorem dc_p16_m1_43 : decode prog_16_method_1_code 43 = .ok (.invokestatic 14, 3) := by decide +kernel
theorem dc_p16_m1_46 : decode prog_16_method_1_code 46 = .ok (.checkcast 20, 3) := by decide +kernel
theorem dc_p16_m1_49 : decode prog_16_method_1_code 49 = .ok (.putfield 34, 3) := by decide +kernel
theorem dc_p16_m1_52 : decode prog_16_method_1_code 52 = .ok (.aload_n 0, 1) := by decide +kernel
theorem dc_p16_m1_53 : decode prog_16_method_1_code 53 = .ok (.aload_n 1, 1) := by decide +kernel
theorem dc_p16_m1_54 : decode prog_16_method_1_code 54 = .ok (.getfield 35, 3) := by decide +kernel
theorem dc_p16_m1_57 : decode prog_16_method_1_code 57 = .ok (.putfield 39, 3) := by decide +kernel
theorem dc_p16_m1_60 : decode prog_16_method_1_code 60 = .ok (.aload_n 0, 1) := by decide +kernel
theorem dc_p16_m1_61 : decode prog_16_method_1_code 61 = .ok (.aload_n 1, 1) := by decide +kernel
theorem dc_p16_m1_62 : decode prog_16_method_1_code 62 = .ok (.getfield 40, 3) := by decide +kernel
theorem dc_p16_m1_65 : decode prog_16_method_1_code 65 = .ok (.putfield 43, 3) := by decide +kernel
theorem dc_p16_m1_68 : decode prog_16_method_1_code 68 = .ok (.aload_n 0, 1) := by decide +kernel
theorem dc_p16_m1_69 : decode prog_16_method_1_code 69 = .ok (.aload_n 1, 1) := by decide +kernel
theorem dc_p16_m1_70 : decode prog_16_method_1_code 70 = .ok (.getfield 44, 3) := by decide +kernel
theorem dc_p16_m1_73 : decode prog_16_method_1_code 73 = .ok (.putfield 47, 3) := by decide +kernel
theorem dc_p16_m1_76 : decode prog_16_method_1_code 76 = .ok (.aload_n 0, 1) := by decide +kernel
theorem dc_p16_m1_77 : decode prog_16_method_1_code 77 = .ok (.aload_n 1, 1) := by decide +kernel
theorem dc_p16_m1_78 : decode prog_16_method_1_code 78 = .ok (.getfield 48, 3) := by decide +kernel
theorem dc_p16_m1_81 : decode prog_16_method_1_code 81 = .ok (.putfield 51, 3) := by decide +kernel
theorem dc_p16_m1_84 : decode prog_16_method_1_code 84 = .ok (.aload_n 0, 1) := by decide +kernel
theorem dc_p16_m1_85 : decode prog_16_method_1_code 85 = .ok (.aload_n 1, 1) := by decide +kernel
theorem dc_p16_m1_86 : decode prog_16_method_1_code 86 = .ok (.getfield 52, 3) := by decide +kernel
theorem dc_p16_m1_89 : decode prog_16_method_1_code 89 = .ok (.putfield 55, 3) := by decide +kernel
theorem dc_p16_m1_92 : decode prog_16_method_1_code 92 = .ok (.aload_n 0, 1) := by decide +kernel
theorem dc_p16_m1_93 : decode prog_16_method_1_code 93 = .ok (.aload_n 1, 1) := by decide +kernel
theorem dc_p16_m1_94 : decode prog_16_method_1_code 94 = .ok (.getfield 56, 3) := by decide +kernel
theorem dc_p16_m1_97 : decode prog_16_method_1_code 97 = .ok (.putfield 60, 3) := by decide +kernel
theorem dc_p16_m1_100 : decode prog_16_method_1_code 100 = .ok (.aload_n 0, 1) := by decide +kernel
theorem dc_p16_m1_101 : decode prog_16_method_1_code 101 = .ok (.aload_n 1, 1) := by decide +kernel
theorem dc_p16_m1_102 : decode prog_16_method_1_code 102 = .ok (.getfield 61, 3) := by decide +kernel
theorem dc_p16_m1_105 : decode prog_16_method_1_code 105 = .ok (.putfield 64, 3) := by decide +kernel
theorem dc_p16_m1_108 : decode prog_16_method_1_code 108 = .ok (.return_, 1) := by decide +kernel
theorem ef_rmPI (mm_ : MethodId) (x : Addr) (b : Addr) : entryFrame mm_ #[(.ref x), (.ref b)] 2 = (mkF mm_ 0 #[.val (.ref x), .val (.ref b)] []) := by first | (simp [entryFrame, mkF, argsToLocals, Value.category]; done) | rfl
def QrmPI (Z : State) (x : Addr) (b : Addr) (u : Addr) (v : Addr) (w : Addr) (q : Int64) (h0 : Heap) (n0 : Nat) (vv_ : Option Value) (hh_ : Heap) (LL_ : List Loc) : Prop := (vv_ = none) ∧ (Fr n0 LL_) ∧ (Keep h0 hh_ [x]) ∧ (Fld Z hh_ x "com/example/malipo/malipo/core/ledger/Payment" "channel" "Ljava/lang/String;" (.ref u)) ∧ (Fld Z hh_ x "com/example/malipo/malipo/core/ledger/Payment" "orderNo" "Ljava/lang/String;" (.ref v)) ∧ (Fld Z hh_ x "com/example/malipo/malipo/core/ledger/Payment" "channelOrderNo" "Ljava/lang/String;" (.ref w)) ∧ (Fld Z hh_ x "com/example/malipo/malipo/core/ledger/Payment" "amount" "J" (.long q)) ∧ (Fld Z hh_ x "com/example/malipo/malipo/core/ledger/Payment" "openId" "Ljava/lang/String;" .null) ∧ (Fld Z hh_ x "com/example/malipo/malipo/core/ledger/Payment" "serverId" "Ljava/lang/String;" .null) ∧ (Fld Z hh_ x "com/example/malipo/malipo/core/ledger/Payment" "paidAt" "Ljava/lang/String;" .null) ∧ (Fld Z hh_ x "com/example/malipo/malipo/core/ledger/Payment" "extend" "Ljava/lang/String;" .null) ∧ (Fld Z hh_ x "com/example/malipo/malipo/core/ledger/Payment" "count" "Ljava/lang/Long;" .null) ∧ (Fld Z hh_ x "com/example/malipo/malipo/core/ledger/Payment" "couponDeduction" "Ljava/lang/Long;" .null)
set_option maxRecDepth 65536 in
set_option maxHeartbeats 40000000 in
theorem rmPI (l : Launch) (Z : State) (a0 : Array Value) (hw : ∀ d ∈ tables_1, d.before a0 Z = true) (ws : List Jvm.Cond) (x : Addr) (b : Addr) (u : Addr) (v : Addr) (w : Addr) (q : Int64) (h0 : Heap) (n0 : Nat) (O0 : Old Z n0 h0) (pr0 : Exa Z h0 x "com/example/malipo/malipo/core/ledger/Payment") (g_x : n0 ≤ x) (pr2 : Fld Z h0 x "com/example/malipo/malipo/core/ledger/Payment" "channel" "Ljava/lang/String;" .null) (pr3 : Fld Z h0 x "com/example/malipo/malipo/core/ledger/Payment" "orderNo" "Ljava/lang/String;" .null) (pr4 : Fld Z h0 x "com/example/malipo/malipo/core/ledger/Payment" "channelOrderNo" "Ljava/lang/String;" .null) (pr5 : Fld Z h0 x "com/example/malipo/malipo/core/ledger/Payment" "openId" "Ljava/lang/String;" .null) (pr6 : Fld Z h0 x "com/example/malipo/malipo/core/ledger/Payment" "serverId" "Ljava/lang/String;" .null) (pr7 : Fld Z h0 x "com/example/malipo/malipo/core/ledger/Payment" "paidAt" "Ljava/lang/String;" .null) (pr8 : Fld Z h0 x "com/example/malipo/malipo/core/ledger/Payment" "extend" "Ljava/lang/String;" .null) (pr9 : Fld Z h0 x "com/example/malipo/malipo/core/ledger/Payment" "count" "Ljava/lang/Long;" .null) (pr10 : Fld Z h0 x "com/example/malipo/malipo/core/ledger/Payment" "couponDeduction" "Ljava/lang/Long;" .null) (pr11 : Fld Z h0 x "com/example/malipo/malipo/core/ledger/Payment" "amount" "J" (.long (0 : Int64))) (pr12 : Exa Z h0 b "com/example/malipo/malipo/core/ledger/Payment$Builder") (pr13 : Fld Z h0 b "com/example/malipo/malipo/core/ledger/Payment$Builder" "channel" "Ljava/lang/String;" (.ref u)) (pr14 : Fld Z h0 b "com/example/malipo/malipo/core/ledger/Payment$Builder" "orderNo" "Ljava/lang/String;" (.ref v)) (pr15 : Fld Z h0 b "com/example/malipo/malipo/core/ledger/Payment$Builder" "channelOrderNo" "Ljava/lang/String;" (.ref w)) (pr16 : Fld Z h0 b "com/example/malipo/malipo/core/ledger/Payment$Builder" "amount" "J" (.long q)) (pr17 : Fld Z h0 b "com/example/malipo/malipo/core/ledger/Payment$Builder" "openId" "Ljava/lang/String;" .null) (pr18 : Fld Z h0 b "com/example/malipo/malipo/core/ledger/Payment$Builder" "serverId" "Ljava/lang/String;" .null) (pr19 : Fld Z h0 b "com/example/malipo/malipo/core/ledger/Payment$Builder" "paidAt" "Ljava/lang/String;" .null) (pr20 : Fld Z h0 b "com/example/malipo/malipo/core/ledger/Payment$Builder" "extend" "Ljava/lang/String;" .null) (pr21 : Fld Z h0 b "com/example/malipo/malipo/core/ledger/Payment$Builder" "count" "Ljava/lang/Long;" .null) (pr22 : Fld Z h0 b "com/example/malipo/malipo/core/ledger/Payment$Builder" "couponDeduction" "Ljava/lang/Long;" .null) (pr23 : Exa Z h0 u "java/lang/String") (pr24 : Exa Z h0 v "java/lang/String") (pr25 : Exa Z h0 w "java/lang/String") :
    MetFree l (⟨"com/example/malipo/malipo/core/ledger/Payment", "<init>", "(Lcom/example/malipo/malipo/core/ledger/Payment$Builder;)V"⟩ : MethodName) (head1 (Jvm.Cond.code (⟨"com/example/malipo/malipo/core/ledger/Payment", "<init>", "(Lcom/example/malipo/malipo/core/ledger/Payment$Builder;)V"⟩ : MethodName) prog_16_method_1_code 2 none :: ws) ({ frames := 1, cells := 6, slots := 124, locals := 14 } : Room)) (fun aa_ UU_ => aa_ = #[(.ref x), (.ref b)] ∧ Z.Warmed39 UU_.vm ∧ UU_.heap = h0) (fun _ _ _ _ _ => True) (fun _ UU_ oo_ UV_ => ∃ vv_ LL_, oo_ = .returned vv_ ∧ QrmPI Z x b u v w q h0 n0 vv_ UV_.heap LL_ ∧ ReturnedEndW UU_ oo_ UV_ LL_ ({ frames := 1, cells := 6, slots := 124, locals := 14 } : Room).cells ({ frames := 1, cells := 6, slots := 124, locals := 14 } : Room).slots) := by
  refine MetFree.of_bodySF (plainFor_of_name pn_com_example_malipo_malipo_core_ledger_Payment) hisR ?_
  intro pp_ ee_ ss_ mm_ args_ bb_ me_ cc_ s₁ Bd hml0 hP hK
  obtain ⟨rfl, hZ, hh⟩ := hP
  have hx := Bd.exec
  have hby := Bd.bytes
  have hml : cc_.maxLocals = 2 := hml0
  have hown : ss_.vm.findClass "com/example/malipo/malipo/core/ledger/Payment" = some mm_.cls := findClass_of_methodNamed Bd.named
  have hnm := (name_of_methodNamed Bd.named Bd.method).1
  have X0 : Stand pp_ l ee_ ({ frames := 1, cells := 6, slots := 124, locals := 14 } : Room) ss_ mm_ #[(.ref x), (.ref b)] bb_ me_ cc_ s₁ [] 0 0 := Stand.of_body Bd
  have e0 : s₁.heap = h0 := by rw [← hh, Bd.state]; rfl
  have N0 := Fr.nil n0
  have X0 : Stand pp_ l ee_ _ (ss_.setVm ss_.vm) mm_ _ bb_ me_ cc_ s₁ [] 0 0 := X0
  have hZ : Z.Warmed39 (ss_.setVm ss_.vm).vm := hZ
  have hown : (ss_.setVm ss_.vm).vm.findClass "com/example/malipo/malipo/core/ledger/Payment" = some mm_.cls := hown
  have hS0 : ss_.Since ss_.vm 0 := (State.WarmedH.refl ss_).since 0
  have hkeep_ : ∀ (b : Addr) (cl : Cell), Z.heap[b]? = some cl → ss_.heap[b]? = some cl := by rw [hh]; exact O0.2.2
  have own_atoms_ : ∀ a ∈ Bundle.stringAtoms, a.before a0 Z = true := fun d hd => hw d ((by decide +kernel : ∀ d ∈ Bundle.stringAtoms, d ∈ tables_1) d hd)
  show own_Go pp_ ee_ bb_ (fun s₂ oo_ => s₂.status = .running ∧ Ended s₂ bb_ oo_ ∧ (∃ vv_ LL_, oo_ = .returned vv_ ∧ QrmPI Z x b u v w q h0 n0 vv_ s₂.heap LL_ ∧ ReturnedEndW ss_ oo_ s₂ LL_ ({ frames := 1, cells := 6, slots := 124, locals := 14 } : Room).cells ({ frames := 1, cells := 6, slots := 124, locals := 14 } : Room).slots)) s₁ (entryFrame mm_ #[(.ref x), (.ref b)] 2)
  refine own_cast (ef_rmPI mm_ x b) ?_
  have Z0 : n0 ≤ h0.size := by have q := O0.2.1; rw [O0.1] at q; exact q
  have K0 : Keep h0 h0 [x] := Keep.refl _ _
  show own_Go _ _ _ _ s₁ (mkF mm_ 0 #[.val (.ref x), .val (.ref b)] [])
  refine own_step (fun t_ k_ => XS.aloadN X0.here hx rfl (hb hby dc_p16_m1_0) rfl rfl k_) ?_
  show own_Go _ _ _ _ s₁ (mkF mm_ 1 #[.val (.ref x), .val (.ref b)] [(.ref x)])
  obtain ⟨T1, X1, e1, st1⟩ := initO X0 hx hZ hown (own_w hw 63 rfl) (own_w hw 16 rfl) (own_w hw 17 rfl) e0 (g := (mkF mm_ 1 #[.val (.ref x), .val (.ref b)] [(.ref x)])) rfl (by rw [hml]; rfl) rfl (hb hby dc_p16_m1_1) (by decide) (W := 0) (by show 2 * 0 + _ ≤ _; exact Nat.le_of_eq rfl) (by decide)
  refine own_step st1 ?_
  show own_Go _ _ _ _ T1 (mkF mm_ 4 #[.val (.ref x), .val (.ref b)] [])
  refine own_step (fun t_ k_ => XS.aloadN X1.here hx rfl (hb hby dc_p16_m1_4) rfl rfl (XS.aloadN X1.here hx rfl (hb hby dc_p16_m1_5) rfl rfl k_)) ?_
  show own_Go _ _ _ _ T1 (mkF mm_ 6 #[.val (.ref x), .val (.ref b)] [(.ref b), (.ref x)])
  refine own_jump (own_getR X1 hx hZ hown (own_w hw 64 rfl) e1 pr13 (g := (mkF mm_ 6 #[.val (.ref x), .val (.ref b)] [(.ref b), (.ref x)])) rfl rfl (hb hby dc_p16_m1_6)) ?_
  show own_Go _ _ _ _ T1 (mkF mm_ 9 #[.val (.ref x), .val (.ref b)] [(.ref u), (.ref x)])
  obtain ⟨a2, T2, h2, k2, X2, e2, E2, hS2, hk2, hZ2, hown2, st2⟩ := ldcS (s := ss_) (vm0 := ss_.vm) X1 hx hZ hown (own_w hw 65 rfl) own_atoms_ e1 hS0 (Nat.zero_le _) (g := (mkF mm_ 9 #[.val (.ref x), .val (.ref b)] [(.ref u), (.ref x)])) rfl (hb hby dc_p16_m1_9) (n := 28) (by decide) (by decide) (by decide) (by decide)
  refine own_step st2 ?_
  show own_Go _ _ _ _ T2 (mkF mm_ 11 #[.val (.ref x), .val (.ref b)] [(.ref a2), (.ref u), (.ref x)])
  have O4 : Old Z n0 h2 := (O0.ext E2)
  obtain ⟨_, T3, Lc3, X3, hQ3, st3⟩ := own_cS X2 hx hZ2 hown2 (own_w hw 68 rfl) (own_w hw 69 rfl) (own_w hw 70 rfl) (own_w hw 71 rfl) (by decide) (backOf (W := 1) (rmNN l Z a0 hw [] u a2 h2 n0 O4 ) hZ2 (own_w hw 71 rfl) (own_w hw 70 rfl) (by decide) (by decide)) (g := (mkF mm_ 11 #[.val (.ref x), .val (.ref b)] [(.ref a2), (.ref u), (.ref x)])) rfl (by rw [hml]; rfl) (argsL := [(.ref u), (.ref a2)]) (rest := [(.ref x)]) (lenOf pd_2 rfl) rfl (by show 2 * 0 + _ ≤ _; exact Nat.le_of_eq rfl) (hb hby dc_p16_m1_11) rfl e2 (by decide) (by decide)
  obtain ⟨rfl, rfl, Eh3⟩ := hQ3
  have N3 := Fr.app N0 (Fr.nil n0)
  refine own_jump st3 ?_
  show own_Go _ _ _ _ T3 (mkF mm_ 14 #[.val (.ref x), .val (.ref b)] [(.ref u), (.ref x)])
  have f6 : Exa Z h2 u "java/lang/String" := (pr23.ext E2)
  obtain ⟨T5, X5, e5, st5⟩ := castY X3 hx hZ2 hown2 (own_w hw 72 rfl) Eh3 (Ins.self f6) (g := (mkF mm_ 14 #[.val (.ref x), .val (.ref b)] [(.ref u), (.ref x)])) rfl rfl (hb hby dc_p16_m1_14)
  refine own_step st5 ?_
  show own_Go _ _ _ _ T5 (mkF mm_ 17 #[.val (.ref x), .val (.ref b)] [(.ref u), (.ref x)])
  have f7 : Fld Z h2 x "com/example/malipo/malipo/core/ledger/Payment" "channel" "Ljava/lang/String;" .null := (pr2.ext E2)
  have f8 : Exa Z h2 x "com/example/malipo/malipo/core/ledger/Payment" := (pr0.ext E2)
  obtain ⟨T9, h9, X9, e9, W9, st9⟩ := putF X5 hx hZ2 hown2 (host := "") (Or.inl (own_w hw 73 rfl)) Via.refl e5 f7 f8 (Or.inr ⟨(own_w hw 74 rfl), rfl, hnm⟩) (own_w hw 59 rfl) (ty := (.object "java/lang/String")) (by decide) rfl rfl (g := (mkF mm_ 17 #[.val (.ref x), .val (.ref b)] [(.ref u), (.ref x)])) rfl rfl (hb hby dc_p16_m1_17)
  have F9 := f7.same W9
  have N9 := Fr.snoc X9 N3 g_x
  refine own_step st9 ?_
  show own_Go _ _ _ _ T9 (mkF mm_ 20 #[.val (.ref x), .val (.ref b)] [])
  refine own_step (fun t_ k_ => XS.aloadN X9.here hx rfl (hb hby dc_p16_m1_20) rfl rfl (XS.aloadN X9.here hx rfl (hb hby dc_p16_m1_21) rfl rfl k_)) ?_
  show own_Go _ _ _ _ T9 (mkF mm_ 22 #[.val (.ref x), .val (.ref b)] [(.ref b), (.ref x)])
  have f10 : Fld Z h9 b "com/example/malipo/malipo/core/ledger/Payment$Builder" "orderNo" "Ljava/lang/String;" (.ref v) := ((pr14.ext E2).other W9 (Or.inl (Exa.ne (pr12.ext E2) f8 (by decide))))
  refine own_jump (own_getR X9 hx hZ2 hown2 (own_w hw 75 rfl) e9 f10 (g := (mkF mm_ 22 #[.val (.ref x), .val (.ref b)] [(.ref b), (.ref x)])) rfl rfl (hb hby dc_p16_m1_22)) ?_
  show own_Go _ _ _ _ T9 (mkF mm_ 25 #[.val (.ref x), .val (.ref b)] [(.ref v), (.ref x)])
  obtain ⟨a11, T11, h11, k11, X11, e11, E11, hS11, hk11, hZ11, hown11, st11⟩ := ldcS (s := ss_) (vm0 := T2.vm) X9 hx hZ2 hown2 (own_w hw 76 rfl) own_atoms_ e9 hS2 (Nat.le_trans hk2 (Keep.of_wr W9).1) (g := (mkF mm_ 25 #[.val (.ref x), .val (.ref b)] [(.ref v), (.ref x)])) rfl (hb hby dc_p16_m1_25) (n := 28) (by decide) (by decide) (by decide) (by decide)
  refine own_step st11 ?_
  show own_Go _ _ _ _ T11 (mkF mm_ 27 #[.val (.ref x), .val (.ref b)] [(.ref a11), (.ref v), (.ref x)])
  have O13 : Old Z n0 h11 := ((O4.wr W9 g_x).ext E11)
  obtain ⟨_, T12, Lc12, X12, hQ12, st12⟩ := own_cS X11 hx hZ11 hown11 (own_w hw 68 rfl) (own_w hw 69 rfl) (own_w hw 70 rfl) (own_w hw 71 rfl) (by decide) (backOf (W := 1) (rmNN l Z a0 hw [] v a11 h11 n0 O13 ) hZ11 (own_w hw 71 rfl) (own_w hw 70 rfl) (by decide) (by decide)) (g := (mkF mm_ 27 #[.val (.ref x), .val (.ref b)] [(.ref a11), (.ref v), (.ref x)])) rfl (by rw [hml]; rfl) (argsL := [(.ref v), (.ref a11)]) (rest := [(.ref x)]) (lenOf pd_2 rfl) rfl (by show 2 * 0 + _ ≤ _; exact Nat.le_of_eq rfl) (hb hby dc_p16_m1_27) rfl e11 (by decide) (by decide)
  obtain ⟨rfl, rfl, Eh12⟩ := hQ12
  have N12 := Fr.app N9 (Fr.nil n0)
  refine own_jump st12 ?_
  show own_Go _ _ _ _ T12 (mkF mm_ 30 #[.val (.ref x), .val (.ref b)] [(.ref v), (.ref x)])
  have f15 : Exa Z h11 v "java/lang/String" := (((pr24.ext E2).wr W9).ext E11)
  obtain ⟨T14, X14, e14, st14⟩ := castY X12 hx hZ11 hown11 (own_w hw 72 rfl) Eh12 (Ins.self f15) (g := (mkF mm_ 30 #[.val (.ref x), .val (.ref b)] [(.ref v), (.ref x)])) rfl rfl (hb hby dc_p16_m1_30)
  refine own_step st14 ?_
  show own_Go _ _ _ _ T14 (mkF mm_ 33 #[.val (.ref x), .val (.ref b)] [(.ref v), (.ref x)])
  have f16 : Fld Z h11 x "com/example/malipo/malipo/core/ledger/Payment" "orderNo" "Ljava/lang/String;" .null := (((pr3.ext E2).other W9 (Or.inr (slot_ne (Or.inr (own_w hw 78 rfl)) (Or.inr (own_w hw 74 rfl)) (by decide) (t := (.object "java/lang/String")) (t' := (.object "java/lang/String")) (by decide) (by decide)))).ext E11)
  have f17 : Exa Z h11 x "com/example/malipo/malipo/core/ledger/Payment" := ((f8.wr W9).ext E11)
  obtain ⟨T18, h18, X18, e18, W18, st18⟩ := putF X14 hx hZ11 hown11 (host := "") (Or.inl (own_w hw 77 rfl)) Via.refl e14 f16 f17 (Or.inr ⟨(own_w hw 78 rfl), rfl, hnm⟩) (own_w hw 59 rfl) (ty := (.object "java/lang/String")) (by decide) rfl rfl (g := (mkF mm_ 33 #[.val (.ref x), .val (.ref b)] [(.ref v), (.ref x)])) rfl rfl (hb hby dc_p16_m1_33)
  have F18 := f16.same W18
  have N18 := Fr.snoc X18 N12 g_x
  refine own_step st18 ?_
  show own_Go _ _ _ _ T18 (mkF mm_ 36 #[.val (.ref x), .val (.ref b)] [])
  refine own_step (fun t_ k_ => XS.aloadN X18.here hx rfl (hb hby dc_p16_m1_36) rfl rfl (XS.aloadN X18.here hx rfl (hb hby dc_p16_m1_37) rfl rfl k_)) ?_
  show own_Go _ _ _ _ T18 (mkF mm_ 38 #[.val (.ref x), .val (.ref b)] [(.ref b), (.ref x)])
  have f19 : Fld Z h18 b "com/example/malipo/malipo/core/ledger/Payment$Builder" "channelOrderNo" "Ljava/lang/String;" (.ref w) := ((((pr15.ext E2).other W9 (Or.inl (Exa.ne (pr12.ext E2) f8 (by decide)))).ext E11).other W18 (Or.inl (Exa.ne (((pr12.ext E2).wr W9).ext E11) f17 (by decide))))
  refine own_jump (own_getR X18 hx hZ11 hown11 (own_w hw 79 rfl) e18 f19 (g := (mkF mm_ 38 #[.val (.ref x), .val (.ref b)] [(.ref b), (.ref x)])) rfl rfl (hb hby dc_p16_m1_38)) ?_
  show own_Go _ _ _ _ T18 (mkF mm_ 41 #[.val (.ref x), .val (.ref b)] [(.ref w), (.ref x)])
  obtain ⟨a20, T20, h20, k20, X20, e20, E20, hS20, hk20, hZ20, hown20, st20⟩ := ldcS (s := ss_) (vm0 := T11.vm) X18 hx hZ11 hown11 (own_w hw 80 rfl) own_atoms_ e18 hS11 (Nat.le_trans hk11 (Keep.of_wr W18).1) (g := (mkF mm_ 41 #[.val (.ref x), .val (.ref b)] [(.ref w), (.ref x)])) rfl (hb hby dc_p16_m1_41) (n := 56) (by decide) (by decide) (by decide) (by decide)
  refine own_step st20 ?_
  show own_Go _ _ _ _ T20 (mkF mm_ 43 #[.val (.ref x), .val (.ref b)] [(.ref a20), (.ref w), (.ref x)])
  have O22 : Old Z n0 h20 := ((O13.wr W18 g_x).ext E20)
  obtain ⟨_, T21, Lc21, X21, hQ21, st21⟩ := own_cS X20 hx hZ20 hown20 (own_w hw 68 rfl) (own_w hw 69 rfl) (own_w hw 70 rfl) (own_w hw 71 rfl) (by decide) (backOf (W := 1) (rmNN l Z a0 hw [] w a20 h20 n0 O22 ) hZ20 (own_w hw 71 rfl) (own_w hw 70 rfl) (by decide) (by decide)) (g := (mkF mm_ 43 #[.val (.ref x), .val (.ref b)] [(.ref a20), (.ref w), (.ref x)])) rfl (by rw [hml]; rfl) (argsL := [(.ref w), (.ref a20)]) (rest := [(.ref x)]) (lenOf pd_2 rfl) rfl (by show 2 * 0 + _ ≤ _; exact Nat.le_of_eq rfl) (hb hby dc_p16_m1_43) rfl e20 (by decide) (by decide)
  obtain ⟨rfl, rfl, Eh21⟩ := hQ21
  have N21 := Fr.app N18 (Fr.nil n0)
  refine own_jump st21 ?_
  show own_Go _ _ _ _ T21 (mkF mm_ 46 #[.val (.ref x), .val (.ref b)] [(.ref w), (.ref x)])
  have f24 : Exa Z h20 w "java/lang/String" := (((((pr25.ext E2).wr W9).ext E11).wr W18).ext E20)
  obtain ⟨T23, X23, e23, st23⟩ := castY X21 hx hZ20 hown20 (own_w hw 72 rfl) Eh21 (Ins.self f24) (g := (mkF mm_ 46 #[.val (.ref x), .val (.ref b)] [(.ref w), (.ref x)])) rfl rfl (hb hby dc_p16_m1_46)
  refine own_step st23 ?_
  show own_Go _ _ _ _ T23 (mkF mm_ 49 #[.val (.ref x), .val (.ref b)] [(.ref w), (.ref x)])
  have f25 : Fld Z h20 x "com/example/malipo/malipo/core/ledger/Payment" "channelOrderNo" "Ljava/lang/String;" .null := (((((pr4.ext E2).other W9 (Or.inr (slot_ne (Or.inr (own_w hw 82 rfl)) (Or.inr (own_w hw 74 rfl)) (by decide) (t := (.object "java/lang/String")) (t' := (.object "java/lang/String")) (by decide) (by decide)))).ext E11).other W18 (Or.inr (slot_ne (Or.inr (own_w hw 82 rfl)) (Or.inr (own_w hw 78 rfl)) (by decide) (t := (.object "java/lang/String")) (t' := (.object "java/lang/String")) (by decide) (by decide)))).ext E20)
  have f26 : Exa Z h20 x "com/example/malipo/malipo/core/ledger/Payment" := ((f17.wr W18).ext E20)
  obtain ⟨T27, h27, X27, e27, W27, st27⟩ := putF X23 hx hZ20 hown20 (host := "") (Or.inl (own_w hw 81 rfl)) Via.refl e23 f25 f26 (Or.inr ⟨(own_w hw 82 rfl), rfl, hnm⟩) (own_w hw 59 rfl) (ty := (.object "java/lang/String")) (by decide) rfl rfl (g := (mkF mm_ 49 #[.val (.ref x), .val (.ref b)] [(.ref w), (.ref x)])) rfl rfl (hb hby dc_p16_m1_49)
  have F27 := f25.same W27
  have N27 := Fr.snoc X27 N21 g_x
  refine own_step st27 ?_
  show own_Go _ _ _ _ T27 (mkF mm_ 52 #[.val (.ref x), .val (.ref b)] [])
  refine own_step (fun t_ k_ => XS.aloadN X27.here hx rfl (hb hby dc_p16_m1_52) rfl rfl (XS.aloadN X27.here hx rfl (hb hby dc_p16_m1_53) rfl rfl k_)) ?_
  show own_Go _ _ _ _ T27 (mkF mm_ 54 #[.val (.ref x), .val (.ref b)] [(.ref b), (.ref x)])
  have f28 : Fld Z h27 b "com/example/malipo/malipo/core/ledger/Payment$Builder" "amount" "J" (.long q) := ((((((pr16.ext E2).other W9 (Or.inl (Exa.ne (pr12.ext E2) f8 (by decide)))).ext E11).other W18 (Or.inl (Exa.ne (((pr12.ext E2).wr W9).ext E11) f17 (by decide)))).ext E20).other W27 (Or.inl (Exa.ne (((((pr12.ext E2).wr W9).ext E11).wr W18).ext E20) f26 (by decide))))
  refine own_jump (own_getR X27 hx hZ20 hown20 (own_w hw 83 rfl) e27 f28 (g := (mkF mm_ 54 #[.val (.ref x), .val (.ref b)] [(.ref b), (.ref x)])) rfl rfl (hb hby dc_p16_m1_54)) ?_
  show own_Go _ _ _ _ T27 (mkF mm_ 57 #[.val (.ref x), .val (.ref b)] [(.long q), (.ref x)])
  have f29 : Fld Z h27 x "com/example/malipo/malipo/core/ledger/Payment" "amount" "J" (.long (0 : Int64)) := ((((((pr11.ext E2).other W9 (Or.inr (slot_ne (Or.inr (own_w hw 85 rfl)) (Or.inr (own_w hw 74 rfl)) (by decide) (t := .long) (t' := (.object "java/lang/String")) (by decide) (by decide)))).ext E11).other W18 (Or.inr (slot_ne (Or.inr (own_w hw 85 rfl)) (Or.inr (own_w hw 78 rfl)) (by decide) (t := .long) (t' := (.object "java/lang/String")) (by decide) (by decide)))).ext E20).other W27 (Or.inr (slot_ne (Or.inr (own_w hw 85 rfl)) (Or.inr (own_w hw 82 rfl)) (by decide) (t := .long) (t' := (.object "java/lang/String")) (by decide) (by decide))))
  have f30 : Exa Z h27 x "com/example/malipo/malipo/core/ledger/Payment" := (f26.wr W27)
  obtain ⟨T31, h31, X31, e31, W31, st31⟩ := putF X27 hx hZ20 hown20 (host := "") (Or.inl (own_w hw 84 rfl)) Via.refl e27 f29 f30 (Or.inr ⟨(own_w hw 85 rfl), rfl, hnm⟩) (own_w hw 59 rfl) (ty := .long) (by decide) rfl rfl (g := (mkF mm_ 57 #[.val (.ref x), .val (.ref b)] [(.long q), (.ref x)])) rfl rfl (hb hby dc_p16_m1_57)
  have F31 := f29.same W31
  have N31 := Fr.snoc X31 N27 g_x
  refine own_step st31 ?_
  show own_Go _ _ _ _ T31 (mkF mm_ 60 #[.val (.ref x), .val (.ref b)] [])
  refine own_step (fun t_ k_ => XS.aloadN X31.here hx rfl (hb hby dc_p16_m1_60) rfl rfl (XS.aloadN X31.here hx rfl (hb hby dc_p16_m1_61) rfl rfl k_)) ?_
  show own_Go _ _ _ _ T31 (mkF mm_ 62 #[.val (.ref x), .val (.ref b)] [(.ref b), (.ref x)])
  have f32 : Fld Z h31 b "com/example/malipo/malipo/core/ledger/Payment$Builder" "openId" "Ljava/lang/String;" .null := (((((((pr17.ext E2).other W9 (Or.inl (Exa.ne (pr12.ext E2) f8 (by decide)))).ext E11).other W18 (Or.inl (Exa.ne (((pr12.ext E2).wr W9).ext E11) f17 (by decide)))).ext E20).other W27 (Or.inl (Exa.ne (((((pr12.ext E2).wr W9).ext E11).wr W18).ext E20) f26 (by decide)))).other W31 (Or.inl (Exa.ne ((((((pr12.ext E2).wr W9).ext E11).wr W18).ext E20).wr W27) f30 (by decide))))
  refine own_jump (own_getR X31 hx hZ20 hown20 (own_w hw 86 rfl) e31 f32 (g := (mkF mm_ 62 #[.val (.ref x), .val (.ref b)] [(.ref b), (.ref x)])) rfl rfl (hb hby dc_p16_m1_62)) ?_
  show own_Go _ _ _ _ T31 (mkF mm_ 65 #[.val (.ref x), .val (.ref b)] [.null, (.ref x)])
  have f33 : Fld Z h31 x "com/example/malipo/malipo/core/ledger/Payment" "openId" "Ljava/lang/String;" .null := (((((((pr5.ext E2).other W9 (Or.inr (slot_ne (Or.inr (own_w hw 89 rfl)) (Or.inr (own_w hw 74 rfl)) (by decide) (t := (.object "java/lang/String")) (t' := (.object "java/lang/String")) (by decide) (by decide)))).ext E11).other W18 (Or.inr (slot_ne (Or.inr (own_w hw 89 rfl)) (Or.inr (own_w hw 78 rfl)) (by decide) (t := (.object "java/lang/String")) (t' := (.object "java/lang/String")) (by decide) (by decide)))).ext E20).other W27 (Or.inr (slot_ne (Or.inr (own_w hw 89 rfl)) (Or.inr (own_w hw 82 rfl)) (by decide) (t := (.object "java/lang/String")) (t' := (.object "java/lang/String")) (by decide) (by decide)))).other W31 (Or.inr (slot_ne (Or.inr (own_w hw 89 rfl)) (Or.inr (own_w hw 85 rfl)) (by decide) (t := (.object "java/lang/String")) (t' := .long) (by decide) (by decide))))
  have f34 : Exa Z h31 x "com/example/malipo/malipo/core/ledger/Payment" := (f30.wr W31)
  obtain ⟨T35, h35, X35, e35, W35, st35⟩ := putF X31 hx hZ20 hown20 (host := "") (Or.inl (own_w hw 88 rfl)) Via.refl e31 f33 f34 (Or.inr ⟨(own_w hw 89 rfl), rfl, hnm⟩) (own_w hw 59 rfl) (ty := (.object "java/lang/String")) (by decide) rfl rfl (g := (mkF mm_ 65 #[.val (.ref x), .val (.ref b)] [.null, (.ref x)])) rfl rfl (hb hby dc_p16_m1_65)
  have F35 := f33.same W35
  have N35 := Fr.snoc X35 N31 g_x
  refine own_step st35 ?_
  show own_Go _ _ _ _ T35 (mkF mm_ 68 #[.val (.ref x), .val (.ref b)] [])
  refine own_step (fun t_ k_ => XS.aloadN X35.here hx rfl (hb hby dc_p16_m1_68) rfl rfl (XS.aloadN X35.here hx rfl (hb hby dc_p16_m1_69) rfl rfl k_)) ?_
  show own_Go _ _ _ _ T35 (mkF mm_ 70 #[.val (.ref x), .val (.ref b)] [(.ref b), (.ref x)])
  have f36 : Fld Z h35 b "com/example/malipo/malipo/core/ledger/Payment$Builder" "serverId" "Ljava/lang/String;" .null := ((((((((pr18.ext E2).other W9 (Or.inl (Exa.ne (pr12.ext E2) f8 (by decide)))).ext E11).other W18 (Or.inl (Exa.ne (((pr12.ext E2).wr W9).ext E11) f17 (by decide)))).ext E20).other W27 (Or.inl (Exa.ne (((((pr12.ext E2).wr W9).ext E11).wr W18).ext E20) f26 (by decide)))).other W31 (Or.inl (Exa.ne ((((((pr12.ext E2).wr W9).ext E11).wr W18).ext E20).wr W27) f30 (by decide)))).other W35 (Or.inl (Exa.ne (((((((pr12.ext E2).wr W9).ext E11).wr W18).ext E20).wr W27).wr W31) f34 (by decide))))
  refine own_jump (own_getR X35 hx hZ20 hown20 (own_w hw 90 rfl) e35 f36 (g := (mkF mm_ 70 #[.val (.ref x), .val (.ref b)] [(.ref b), (.ref x)])) rfl rfl (hb hby dc_p16_m1_70)) ?_
  show own_Go _ _ _ _ T35 (mkF mm_ 73 #[.val (.ref x), .val (.ref b)] [.null, (.ref x)])
  have f37 : Fld Z h35 x "com/example/malipo/malipo/core/ledger/Payment" "serverId" "Ljava/lang/String;" .null := ((((((((pr6.ext E2).other W9 (Or.inr (slot_ne (Or.inr (own_w hw 93 rfl)) (Or.inr (own_w hw 74 rfl)) (by decide) (t := (.object "java/lang/String")) (t' := (.object "java/lang/String")) (by decide) (by decide)))).ext E11).other W18 (Or.inr (slot_ne (Or.inr (own_w hw 93 rfl)) (Or.inr (own_w hw 78 rfl)) (by decide) (t := (.object "java/lang/String")) (t' := (.object "java/lang/String")) (by decide) (by decide)))).ext E20).other W27 (Or.inr (slot_ne (Or.inr (own_w hw 93 rfl)) (Or.inr (own_w hw 82 rfl)) (by decide) (t := (.object "java/lang/String")) (t' := (.object "java/lang/String")) (by decide) (by decide)))).other W31 (Or.inr (slot_ne (Or.inr (own_w hw 93 rfl)) (Or.inr (own_w hw 85 rfl)) (by decide) (t := (.object "java/lang/String")) (t' := .long) (by decide) (by decide)))).other W35 (Or.inr (slot_ne (Or.inr (own_w hw 93 rfl)) (Or.inr (own_w hw 89 rfl)) (by decide) (t := (.object "java/lang/String")) (t' := (.object "java/lang/String")) (by decide) (by decide))))
  have f38 : Exa Z h35 x "com/example/malipo/malipo/core/ledger/Payment" := (f34.wr W35)
  obtain ⟨T39, h39, X39, e39, W39, st39⟩ := putF X35 hx hZ20 hown20 (host := "") (Or.inl (own_w hw 92 rfl)) Via.refl e35 f37 f38 (Or.inr ⟨(own_w hw 93 rfl), rfl, hnm⟩) (own_w hw 59 rfl) (ty := (.object "java/lang/String")) (by decide) rfl rfl (g := (mkF mm_ 73 #[.val (.ref x), .val (.ref b)] [.null, (.ref x)])) rfl rfl (hb hby dc_p16_m1_73)
  have F39 := f37.same W39
  have N39 := Fr.snoc X39 N35 g_x
  refine own_step st39 ?_
  show own_Go _ _ _ _ T39 (mkF mm_ 76 #[.val (.ref x), .val (.ref b)] [])
  refine own_step (fun t_ k_ => XS.aloadN X39.here hx rfl (hb hby dc_p16_m1_76) rfl rfl (XS.aloadN X39.here hx rfl (hb hby dc_p16_m1_77) rfl rfl k_)) ?_
  show own_Go _ _ _ _ T39 (mkF mm_ 78 #[.val (.ref x), .val (.ref b)] [(.ref b), (.ref x)])
  have f40 : Fld Z h39 b "com/example/malipo/malipo/core/ledger/Payment$Builder" "paidAt" "Ljava/lang/String;" .null := (((((((((pr19.ext E2).other W9 (Or.inl (Exa.ne (pr12.ext E2) f8 (by decide)))).ext E11).other W18 (Or.inl (Exa.ne (((pr12.ext E2).wr W9).ext E11) f17 (by decide)))).ext E20).other W27 (Or.inl (Exa.ne (((((pr12.ext E2).wr W9).ext E11).wr W18).ext E20) f26 (by decide)))).other W31 (Or.inl (Exa.ne ((((((pr12.ext E2).wr W9).ext E11).wr W18).ext E20).wr W27) f30 (by decide)))).other W35 (Or.inl (Exa.ne (((((((pr12.ext E2).wr W9).ext E11).wr W18).ext E20).wr W27).wr W31) f34 (by decide)))).other W39 (Or.inl (Exa.ne ((((((((pr12.ext E2).wr W9).ext E11).wr W18).ext E20).wr W27).wr W31).wr W35) f38 (by decide))))
  refine own_jump (own_getR X39 hx hZ20 hown20 (own_w hw 94 rfl) e39 f40 (g := (mkF mm_ 78 #[.val (.ref x), .val (.ref b)] [(.ref b), (.ref x)])) rfl rfl (hb hby dc_p16_m1_78)) ?_
  show own_Go _ _ _ _ T39 (mkF mm_ 81 #[.val (.ref x), .val (.ref b)] [.null, (.ref x)])
  have f41 : Fld Z h39 x "com/example/malipo/malipo/core/ledger/Payment" "paidAt" "Ljava/lang/String;" .null := (((((((((pr7.ext E2).other W9 (Or.inr (slot_ne (Or.inr (own_w hw 97 rfl)) (Or.inr (own_w hw 74 rfl)) (by decide) (t := (.object "java/lang/String")) (t' := (.object "java/lang/String")) (by decide) (by decide)))).ext E11).other W18 (Or.inr (slot_ne (Or.inr (own_w hw 97 rfl)) (Or.inr (own_w hw 78 rfl)) (by decide) (t := (.object "java/lang/String")) (t' := (.object "java/lang/String")) (by decide) (by decide)))).ext E20).other W27 (Or.inr (slot_ne (Or.inr (own_w hw 97 rfl)) (Or.inr (own_w hw 82 rfl)) (by decide) (t := (.object "java/lang/String")) (t' := (.object "java/lang/String")) (by decide) (by decide)))).other W31 (Or.inr (slot_ne (Or.inr (own_w hw 97 rfl)) (Or.inr (own_w hw 85 rfl)) (by decide) (t := (.object "java/lang/String")) (t' := .long) (by decide) (by decide)))).other W35 (Or.inr (slot_ne (Or.inr (own_w hw 97 rfl)) (Or.inr (own_w hw 89 rfl)) (by decide) (t := (.object "java/lang/String")) (t' := (.object "java/lang/String")) (by decide) (by decide)))).other W39 (Or.inr (slot_ne (Or.inr (own_w hw 97 rfl)) (Or.inr (own_w hw 93 rfl)) (by decide) (t := (.object "java/lang/String")) (t' := (.object "java/lang/String")) (by decide) (by decide))))
  have f42 : Exa Z h39 x "com/example/malipo/malipo/core/ledger/Payment" := (f38.wr W39)
  obtain ⟨T43, h43, X43, e43, W43, st43⟩ := putF X39 hx hZ20 hown20 (host := "") (Or.inl (own_w hw 96 rfl)) Via.refl e39 f41 f42 (Or.inr ⟨(own_w hw 97 rfl), rfl, hnm⟩) (own_w hw 59 rfl) (ty := (.object "java/lang/String")) (by decide) rfl rfl (g := (mkF mm_ 81 #[.val (.ref x), .val (.ref b)] [.null, (.ref x)])) rfl rfl (hb hby dc_p16_m1_81)
  have F43 := f41.same W43
  have N43 := Fr.snoc X43 N39 g_x
  refine own_step st43 ?_
  show own_Go _ _ _ _ T43 (mkF mm_ 84 #[.val (.ref x), .val (.ref b)] [])
  refine own_step (fun t_ k_ => XS.aloadN X43.here hx rfl (hb hby dc_p16_m1_84) rfl rfl (XS.aloadN X43.here hx rfl (hb hby dc_p16_m1_85) rfl rfl k_)) ?_
  show own_Go _ _ _ _ T43 (mkF mm_ 86 #[.val (.ref x), .val (.ref b)] [(.ref b), (.ref x)])
  have f44 : Fld Z h43 b "com/example/malipo/malipo/core/ledger/Payment$Builder" "extend" "Ljava/lang/String;" .null := ((((((((((pr20.ext E2).other W9 (Or.inl (Exa.ne (pr12.ext E2) f8 (by decide)))).ext E11).other W18 (Or.inl (Exa.ne (((pr12.ext E2).wr W9).ext E11) f17 (by decide)))).ext E20).other W27 (Or.inl (Exa.ne (((((pr12.ext E2).wr W9).ext E11).wr W18).ext E20) f26 (by decide)))).other W31 (Or.inl (Exa.ne ((((((pr12.ext E2).wr W9).ext E11).wr W18).ext E20).wr W27) f30 (by decide)))).other W35 (Or.inl (Exa.ne (((((((pr12.ext E2).wr W9).ext E11).wr W18).ext E20).wr W27).wr W31) f34 (by decide)))).other W39 (Or.inl (Exa.ne ((((((((pr12.ext E2).wr W9).ext E11).wr W18).ext E20).wr W27).wr W31).wr W35) f38 (by decide)))).other W43 (Or.inl (Exa.ne (((((((((pr12.ext E2).wr W9).ext E11).wr W18).ext E20).wr W27).wr W31).wr W35).wr W39) f42 (by decide))))
  refine own_jump (own_getR X43 hx hZ20 hown20 (own_w hw 98 rfl) e43 f44 (g := (mkF mm_ 86 #[.val (.ref x), .val (.ref b)] [(.ref b), (.ref x)])) rfl rfl (hb hby dc_p16_m1_86)) ?_
  show own_Go _ _ _ _ T43 (mkF mm_ 89 #[.val (.ref x), .val (.ref b)] [.null, (.ref x)])
  have f45 : Fld Z h43 x "com/example/malipo/malipo/core/ledger/Payment" "extend" "Ljava/lang/String;" .null := ((((((((((pr8.ext E2).other W9 (Or.inr (slot_ne (Or.inr (own_w hw 101 rfl)) (Or.inr (own_w hw 74 rfl)) (by decide) (t := (.object "java/lang/String")) (t' := (.object "java/lang/String")) (by decide) (by decide)))).ext E11).other W18 (Or.inr (slot_ne (Or.inr (own_w hw 101 rfl)) (Or.inr (own_w hw 78 rfl)) (by decide) (t := (.object "java/lang/String")) (t' := (.object "java/lang/String")) (by decide) (by decide)))).ext E20).other W27 (Or.inr (slot_ne (Or.inr (own_w hw 101 rfl)) (Or.inr (own_w hw 82 rfl)) (by decide) (t := (.object "java/lang/String")) (t' := (.object "java/lang/String")) (by decide) (by decide)))).other W31 (Or.inr (slot_ne (Or.inr (own_w hw 101 rfl)) (Or.inr (own_w hw 85 rfl)) (by decide) (t := (.object "java/lang/String")) (t' := .long) (by decide) (by decide)))).other W35 (Or.inr (slot_ne (Or.inr (own_w hw 101 rfl)) (Or.inr (own_w hw 89 rfl)) (by decide) (t := (.object "java/lang/String")) (t' := (.object "java/lang/String")) (by decide) (by decide)))).other W39 (Or.inr (slot_ne (Or.inr (own_w hw 101 rfl)) (Or.inr (own_w hw 93 rfl)) (by decide) (t := (.object "java/lang/String")) (t' := (.object "java/lang/String")) (by decide) (by decide)))).other W43 (Or.inr (slot_ne (Or.inr (own_w hw 101 rfl)) (Or.inr (own_w hw 97 rfl)) (by decide) (t := (.object "java/lang/String")) (t' := (.object "java/lang/String")) (by decide) (by decide))))
  have f46 : Exa Z h43 x "com/example/malipo/malipo/core/ledger/Payment" := (f42.wr W43)
  obtain ⟨T47, h47, X47, e47, W47, st47⟩ := putF X43 hx hZ20 hown20 (host := "") (Or.inl (own_w hw 100 rfl)) Via.refl e43 f45 f46 (Or.inr ⟨(own_w hw 101 rfl), rfl, hnm⟩) (own_w hw 59 rfl) (ty := (.object "java/lang/String")) (by decide) rfl rfl (g := (mkF mm_ 89 #[.val (.ref x), .val (.ref b)] [.null, (.ref x)])) rfl rfl (hb hby dc_p16_m1_89)
  have F47 := f45.same W47
  have N47 := Fr.snoc X47 N43 g_x
  refine own_step st47 ?_
  show own_Go _ _ _ _ T47 (mkF mm_ 92 #[.val (.ref x), .val (.ref b)] [])
  refine own_step (fun t_ k_ => XS.aloadN X47.here hx rfl (hb hby dc_p16_m1_92) rfl rfl (XS.aloadN X47.here hx rfl (hb hby dc_p16_m1_93) rfl rfl k_)) ?_
  show own_Go _ _ _ _ T47 (mkF mm_ 94 #[.val (.ref x), .val (.ref b)] [(.ref b), (.ref x)])
  have f48 : Fld Z h47 b "com/example/malipo/malipo/core/ledger/Payment$Builder" "count" "Ljava/lang/Long;" .null := (((((((((((pr21.ext E2).other W9 (Or.inl (Exa.ne (pr12.ext E2) f8 (by decide)))).ext E11).other W18 (Or.inl (Exa.ne (((pr12.ext E2).wr W9).ext E11) f17 (by decide)))).ext E20).other W27 (Or.inl (Exa.ne (((((pr12.ext E2).wr W9).ext E11).wr W18).ext E20) f26 (by decide)))).other W31 (Or.inl (Exa.ne ((((((pr12.ext E2).wr W9).ext E11).wr W18).ext E20).wr W27) f30 (by decide)))).other W35 (Or.inl (Exa.ne (((((((pr12.ext E2).wr W9).ext E11).wr W18).ext E20).wr W27).wr W31) f34 (by decide)))).other W39 (Or.inl (Exa.ne ((((((((pr12.ext E2).wr W9).ext E11).wr W18).ext E20).wr W27).wr W31).wr W35) f38 (by decide)))).other W43 (Or.inl (Exa.ne (((((((((pr12.ext E2).wr W9).ext E11).wr W18).ext E20).wr W27).wr W31).wr W35).wr W39) f42 (by decide)))).other W47 (Or.inl (Exa.ne ((((((((((pr12.ext E2).wr W9).ext E11).wr W18).ext E20).wr W27).wr W31).wr W35).wr W39).wr W43) f46 (by decide))))
  refine own_jump (own_getR X47 hx hZ20 hown20 (own_w hw 102 rfl) e47 f48 (g := (mkF mm_ 94 #[.val (.ref x), .val (.ref b)] [(.ref b), (.ref x)])) rfl rfl (hb hby dc_p16_m1_94)) ?_
  show own_Go _ _ _ _ T47 (mkF mm_ 97 #[.val (.ref x), .val (.ref b)] [.null, (.ref x)])
  have f49 : Fld Z h47 x "com/example/malipo/malipo/core/ledger/Payment" "count" "Ljava/lang/Long;" .null := (((((((((((pr9.ext E2).other W9 (Or.inr (slot_ne (Or.inr (own_w hw 105 rfl)) (Or.inr (own_w hw 74 rfl)) (by decide) (t := (.object "java/lang/Long")) (t' := (.object "java/lang/String")) (by decide) (by decide)))).ext E11).other W18 (Or.inr (slot_ne (Or.inr (own_w hw 105 rfl)) (Or.inr (own_w hw 78 rfl)) (by decide) (t := (.object "java/lang/Long")) (t' := (.object "java/lang/String")) (by decide) (by decide)))).ext E20).other W27 (Or.inr (slot_ne (Or.inr (own_w hw 105 rfl)) (Or.inr (own_w hw 82 rfl)) (by decide) (t := (.object "java/lang/Long")) (t' := (.object "java/lang/String")) (by decide) (by decide)))).other W31 (Or.inr (slot_ne (Or.inr (own_w hw 105 rfl)) (Or.inr (own_w hw 85 rfl)) (by decide) (t := (.object "java/lang/Long")) (t' := .long) (by decide) (by decide)))).other W35 (Or.inr (slot_ne (Or.inr (own_w hw 105 rfl)) (Or.inr (own_w hw 89 rfl)) (by decide) (t := (.object "java/lang/Long")) (t' := (.object "java/lang/String")) (by decide) (by decide)))).other W39 (Or.inr (slot_ne (Or.inr (own_w hw 105 rfl)) (Or.inr (own_w hw 93 rfl)) (by decide) (t := (.object "java/lang/Long")) (t' := (.object "java/lang/String")) (by decide) (by decide)))).other W43 (Or.inr (slot_ne (Or.inr (own_w hw 105 rfl)) (Or.inr (own_w hw 97 rfl)) (by decide) (t := (.object "java/lang/Long")) (t' := (.object "java/lang/String")) (by decide) (by decide)))).other W47 (Or.inr (slot_ne (Or.inr (own_w hw 105 rfl)) (Or.inr (own_w hw 101 rfl)) (by decide) (t := (.object "java/lang/Long")) (t' := (.object "java/lang/String")) (by decide) (by decide))))
  have f50 : Exa Z h47 x "com/example/malipo/malipo/core/ledger/Payment" := (f46.wr W47)
  obtain ⟨T51, h51, X51, e51, W51, st51⟩ := putF X47 hx hZ20 hown20 (host := "") (Or.inl (own_w hw 104 rfl)) Via.refl e47 f49 f50 (Or.inr ⟨(own_w hw 105 rfl), rfl, hnm⟩) (own_w hw 59 rfl) (ty := (.object "java/lang/Long")) (by decide) rfl rfl (g := (mkF mm_ 97 #[.val (.ref x), .val (.ref b)] [.null, (.ref x)])) rfl rfl (hb hby dc_p16_m1_97)
  have F51 := f49.same W51
  have N51 := Fr.snoc X51 N47 g_x
  refine own_step st51 ?_
  show own_Go _ _ _ _ T51 (mkF mm_ 100 #[.val (.ref x), .val (.ref b)] [])
  refine own_step (fun t_ k_ => XS.aloadN X51.here hx rfl (hb hby dc_p16_m1_100) rfl rfl (XS.aloadN X51.here hx rfl (hb hby dc_p16_m1_101) rfl rfl k_)) ?_
  show own_Go _ _ _ _ T51 (mkF mm_ 102 #[.val (.ref x), .val (.ref b)] [(.ref b), (.ref x)])
  have f52 : Fld Z h51 b "com/example/malipo/malipo/core/ledger/Payment$Builder" "couponDeduction" "Ljava/lang/Long;" .null := ((((((((((((pr22.ext E2).other W9 (Or.inl (Exa.ne (pr12.ext E2) f8 (by decide)))).ext E11).other W18 (Or.inl (Exa.ne (((pr12.ext E2).wr W9).ext E11) f17 (by decide)))).ext E20).other W27 (Or.inl (Exa.ne (((((pr12.ext E2).wr W9).ext E11).wr W18).ext E20) f26 (by decide)))).other W31 (Or.inl (Exa.ne ((((((pr12.ext E2).wr W9).ext E11).wr W18).ext E20).wr W27) f30 (by decide)))).other W35 (Or.inl (Exa.ne (((((((pr12.ext E2).wr W9).ext E11).wr W18).ext E20).wr W27).wr W31) f34 (by decide)))).other W39 (Or.inl (Exa.ne ((((((((pr12.ext E2).wr W9).ext E11).wr W18).ext E20).wr W27).wr W31).wr W35) f38 (by decide)))).other W43 (Or.inl (Exa.ne (((((((((pr12.ext E2).wr W9).ext E11).wr W18).ext E20).wr W27).wr W31).wr W35).wr W39) f42 (by decide)))).other W47 (Or.inl (Exa.ne ((((((((((pr12.ext E2).wr W9).ext E11).wr W18).ext E20).wr W27).wr W31).wr W35).wr W39).wr W43) f46 (by decide)))).other W51 (Or.inl (Exa.ne (((((((((((pr12.ext E2).wr W9).ext E11).wr W18).ext E20).wr W27).wr W31).wr W35).wr W39).wr W43).wr W47) f50 (by decide))))
  refine own_jump (own_getR X51 hx hZ20 hown20 (own_w hw 106 rfl) e51 f52 (g := (mkF mm_ 102 #[.val (.ref x), .val (.ref b)] [(.ref b), (.ref x)])) rfl rfl (hb hby dc_p16_m1_102)) ?_
  show own_Go _ _ _ _ T51 (mkF mm_ 105 #[.val (.ref x), .val (.ref b)] [.null, (.ref x)])
  have f53 : Fld Z h51 x "com/example/malipo/malipo/core/ledger/Payment" "couponDeduction" "Ljava/lang/Long;" .null := ((((((((((((pr10.ext E2).other W9 (Or.inr (slot_ne (Or.inr (own_w hw 109 rfl)) (Or.inr (own_w hw 74 rfl)) (by decide) (t := (.object "java/lang/Long")) (t' := (.object "java/lang/String")) (by decide) (by decide)))).ext E11).other W18 (Or.inr (slot_ne (Or.inr (own_w hw 109 rfl)) (Or.inr (own_w hw 78 rfl)) (by decide) (t := (.object "java/lang/Long")) (t' := (.object "java/lang/String")) (by decide) (by decide)))).ext E20).other W27 (Or.inr (slot_ne (Or.inr (own_w hw 109 rfl)) (Or.inr (own_w hw 82 rfl)) (by decide) (t := (.object "java/lang/Long")) (t' := (.object "java/lang/String")) (by decide) (by decide)))).other W31 (Or.inr (slot_ne (Or.inr (own_w hw 109 rfl)) (Or.inr (own_w hw 85 rfl)) (by decide) (t := (.object "java/lang/Long")) (t' := .long) (by decide) (by decide)))).other W35 (Or.inr (slot_ne (Or.inr (own_w hw 109 rfl)) (Or.inr (own_w hw 89 rfl)) (by decide) (t := (.object "java/lang/Long")) (t' := (.object "java/lang/String")) (by decide) (by decide)))).other W39 (Or.inr (slot_ne (Or.inr (own_w hw 109 rfl)) (Or.inr (own_w hw 93 rfl)) (by decide) (t := (.object "java/lang/Long")) (t' := (.object "java/lang/String")) (by decide) (by decide)))).other W43 (Or.inr (slot_ne (Or.inr (own_w hw 109 rfl)) (Or.inr (own_w hw 97 rfl)) (by decide) (t := (.object "java/lang/Long")) (t' := (.object "java/lang/String")) (by decide) (by decide)))).other W47 (Or.inr (slot_ne (Or.inr (own_w hw 109 rfl)) (Or.inr (own_w hw 101 rfl)) (by decide) (t := (.object "java/lang/Long")) (t' := (.object "java/lang/String")) (by decide) (by decide)))).other W51 (Or.inr (slot_ne (Or.inr (own_w hw 109 rfl)) (Or.inr (own_w hw 105 rfl)) (by decide) (t := (.object "java/lang/Long")) (t' := (.object "java/lang/Long")) (by decide) (by decide))))
  have f54 : Exa Z h51 x "com/example/malipo/malipo/core/ledger/Payment" := (f50.wr W51)
  obtain ⟨T55, h55, X55, e55, W55, st55⟩ := putF X51 hx hZ20 hown20 (host := "") (Or.inl (own_w hw 108 rfl)) Via.refl e51 f53 f54 (Or.inr ⟨(own_w hw 109 rfl), rfl, hnm⟩) (own_w hw 59 rfl) (ty := (.object "java/lang/Long")) (by decide) rfl rfl (g := (mkF mm_ 105 #[.val (.ref x), .val (.ref b)] [.null, (.ref x)])) rfl rfl (hb hby dc_p16_m1_105)
  have F55 := f53.same W55
  have N55 := Fr.snoc X55 N51 g_x
  refine own_step st55 ?_
  show own_Go _ _ _ _ T55 (mkF mm_ 108 #[.val (.ref x), .val (.ref b)] [])
  have K56 : Keep h0 h55 [x] := (((((((((((((K0.ext E2).wr W9 (Or.inl (List.mem_of_getElem? (i := 0) rfl))).ext E11).wr W18 (Or.inl (List.mem_of_getElem? (i := 0) rfl))).ext E20).wr W27 (Or.inl (List.mem_of_getElem? (i := 0) rfl))).wr W31 (Or.inl (List.mem_of_getElem? (i := 0) rfl))).wr W35 (Or.inl (List.mem_of_getElem? (i := 0) rfl))).wr W39 (Or.inl (List.mem_of_getElem? (i := 0) rfl))).wr W43 (Or.inl (List.mem_of_getElem? (i := 0) rfl))).wr W47 (Or.inl (List.mem_of_getElem? (i := 0) rfl))).wr W51 (Or.inl (List.mem_of_getElem? (i := 0) rfl))).wr W55 (Or.inl (List.mem_of_getElem? (i := 0) rfl)))
  have f57 : Fld Z h55 x "com/example/malipo/malipo/core/ledger/Payment" "channel" "Ljava/lang/String;" (.ref u) := (((((((((((F9.ext E11).other W18 (Or.inr (slot_ne (Or.inr (own_w hw 74 rfl)) (Or.inr (own_w hw 78 rfl)) (by decide) (t := (.object "java/lang/String")) (t' := (.object "java/lang/String")) (by decide) (by decide)))).ext E20).other W27 (Or.inr (slot_ne (Or.inr (own_w hw 74 rfl)) (Or.inr (own_w hw 82 rfl)) (by decide) (t := (.object "java/lang/String")) (t' := (.object "java/lang/String")) (by decide) (by decide)))).other W31 (Or.inr (slot_ne (Or.inr (own_w hw 74 rfl)) (Or.inr (own_w hw 85 rfl)) (by decide) (t := (.object "java/lang/String")) (t' := .long) (by decide) (by decide)))).other W35 (Or.inr (slot_ne (Or.inr (own_w hw 74 rfl)) (Or.inr (own_w hw 89 rfl)) (by decide) (t := (.object "java/lang/String")) (t' := (.object "java/lang/String")) (by decide) (by decide)))).other W39 (Or.inr (slot_ne (Or.inr (own_w hw 74 rfl)) (Or.inr (own_w hw 93 rfl)) (by decide) (t := (.object "java/lang/String")) (t' := (.object "java/lang/String")) (by decide) (by decide)))).other W43 (Or.inr (slot_ne (Or.inr (own_w hw 74 rfl)) (Or.inr (own_w hw 97 rfl)) (by decide) (t := (.object "java/lang/String")) (t' := (.object "java/lang/String")) (by decide) (by decide)))).other W47 (Or.inr (slot_ne (Or.inr (own_w hw 74 rfl)) (Or.inr (own_w hw 101 rfl)) (by decide) (t := (.object "java/lang/String")) (t' := (.object "java/lang/String")) (by decide) (by decide)))).other W51 (Or.inr (slot_ne (Or.inr (own_w hw 74 rfl)) (Or.inr (own_w hw 105 rfl)) (by decide) (t := (.object "java/lang/String")) (t' := (.object "java/lang/Long")) (by decide) (by decide)))).other W55 (Or.inr (slot_ne (Or.inr (own_w hw 74 rfl)) (Or.inr (own_w hw 109 rfl)) (by decide) (t := (.object "java/lang/String")) (t' := (.object "java/lang/Long")) (by decide) (by decide))))
  have f58 : Fld Z h55 x "com/example/malipo/malipo/core/ledger/Payment" "orderNo" "Ljava/lang/String;" (.ref v) := (((((((((F18.ext E20).other W27 (Or.inr (slot_ne (Or.inr (own_w hw 78 rfl)) (Or.inr (own_w hw 82 rfl)) (by decide) (t := (.object "java/lang/String")) (t' := (.object "java/lang/String")) (by decide) (by decide)))).other W31 (Or.inr (slot_ne (Or.inr (own_w hw 78 rfl)) (Or.inr (own_w hw 85 rfl)) (by decide) (t := (.object "java/lang/String")) (t' := .long) (by decide) (by decide)))).other W35 (Or.inr (slot_ne (Or.inr (own_w hw 78 rfl)) (Or.inr (own_w hw 89 rfl)) (by decide) (t := (.object "java/lang/String")) (t' := (.object "java/lang/String")) (by decide) (by decide)))).other W39 (Or.inr (slot_ne (Or.inr (own_w hw 78 rfl)) (Or.inr (own_w hw 93 rfl)) (by decide) (t := (.object "java/lang/String")) (t' := (.object "java/lang/String")) (by decide) (by decide)))).other W43 (Or.inr (slot_ne (Or.inr (own_w hw 78 rfl)) (Or.inr (own_w hw 97 rfl)) (by decide) (t := (.object "java/lang/String")) (t' := (.object "java/lang/String")) (by decide) (by decide)))).other W47 (Or.inr (slot_ne (Or.inr (own_w hw 78 rfl)) (Or.inr (own_w hw 101 rfl)) (by decide) (t := (.object "java/lang/String")) (t' := (.object "java/lang/String")) (by decide) (by decide)))).other W51 (Or.inr (slot_ne (Or.inr (own_w hw 78 rfl)) (Or.inr (own_w hw 105 rfl)) (by decide) (t := (.object "java/lang/String")) (t' := (.object "java/lang/Long")) (by decide) (by decide)))).other W55 (Or.inr (slot_ne (Or.inr (own_w hw 78 rfl)) (Or.inr (own_w hw 109 rfl)) (by decide) (t := (.object "java/lang/String")) (t' := (.object "java/lang/Long")) (by decide) (by decide))))
  have f59 : Fld Z h55 x "com/example/malipo/malipo/core/ledger/Payment" "channelOrderNo" "Ljava/lang/String;" (.ref w) := (((((((F27.other W31 (Or.inr (slot_ne (Or.inr (own_w hw 82 rfl)) (Or.inr (own_w hw 85 rfl)) (by decide) (t := (.object "java/lang/String")) (t' := .long) (by decide) (by decide)))).other W35 (Or.inr (slot_ne (Or.inr (own_w hw 82 rfl)) (Or.inr (own_w hw 89 rfl)) (by decide) (t := (.object "java/lang/String")) (t' := (.object "java/lang/String")) (by decide) (by decide)))).other W39 (Or.inr (slot_ne (Or.inr (own_w hw 82 rfl)) (Or.inr (own_w hw 93 rfl)) (by decide) (t := (.object "java/lang/String")) (t' := (.object "java/lang/String")) (by decide) (by decide)))).other W43 (Or.inr (slot_ne (Or.inr (own_w hw 82 rfl)) (Or.inr (own_w hw 97 rfl)) (by decide) (t := (.object "java/lang/String")) (t' := (.object "java/lang/String")) (by decide) (by decide)))).other W47 (Or.inr (slot_ne (Or.inr (own_w hw 82 rfl)) (Or.inr (own_w hw 101 rfl)) (by decide) (t := (.object "java/lang/String")) (t' := (.object "java/lang/String")) (by decide) (by decide)))).other W51 (Or.inr (slot_ne (Or.inr (own_w hw 82 rfl)) (Or.inr (own_w hw 105 rfl)) (by decide) (t := (.object "java/lang/String")) (t' := (.object "java/lang/Long")) (by decide) (by decide)))).other W55 (Or.inr (slot_ne (Or.inr (own_w hw 82 rfl)) (Or.inr (own_w hw 109 rfl)) (by decide) (t := (.object "java/lang/String")) (t' := (.object "java/lang/Long")) (by decide) (by decide))))
  have f60 : Fld Z h55 x "com/example/malipo/malipo/core/ledger/Payment" "amount" "J" (.long q) := ((((((F31.other W35 (Or.inr (slot_ne (Or.inr (own_w hw 85 rfl)) (Or.inr (own_w hw 89 rfl)) (by decide) (t := .long) (t' := (.object "java/lang/String")) (by decide) (by decide)))).other W39 (Or.inr (slot_ne (Or.inr (own_w hw 85 rfl)) (Or.inr (own_w hw 93 rfl)) (by decide) (t := .long) (t' := (.object "java/lang/String")) (by decide) (by decide)))).other W43 (Or.inr (slot_ne (Or.inr (own_w hw 85 rfl)) (Or.inr (own_w hw 97 rfl)) (by decide) (t := .long) (t' := (.object "java/lang/String")) (by decide) (by decide)))).other W47 (Or.inr (slot_ne (Or.inr (own_w hw 85 rfl)) (Or.inr (own_w hw 101 rfl)) (by decide) (t := .long) (t' := (.object "java/lang/String")) (by decide) (by decide)))).other W51 (Or.inr (slot_ne (Or.inr (own_w hw 85 rfl)) (Or.inr (own_w hw 105 rfl)) (by decide) (t := .long) (t' := (.object "java/lang/Long")) (by decide) (by decide)))).other W55 (Or.inr (slot_ne (Or.inr (own_w hw 85 rfl)) (Or.inr (own_w hw 109 rfl)) (by decide) (t := .long) (t' := (.object "java/lang/Long")) (by decide) (by decide))))
  have f61 : Fld Z h55 x "com/example/malipo/malipo/core/ledger/Payment" "openId" "Ljava/lang/String;" .null := (((((F35.other W39 (Or.inr (slot_ne (Or.inr (own_w hw 89 rfl)) (Or.inr (own_w hw 93 rfl)) (by decide) (t := (.object "java/lang/String")) (t' := (.object "java/lang/String")) (by decide) (by decide)))).other W43 (Or.inr (slot_ne (Or.inr (own_w hw 89 rfl)) (Or.inr (own_w hw 97 rfl)) (by decide) (t := (.object "java/lang/String")) (t' := (.object "java/lang/String")) (by decide) (by decide)))).other W47 (Or.inr (slot_ne (Or.inr (own_w hw 89 rfl)) (Or.inr (own_w hw 101 rfl)) (by decide) (t := (.object "java/lang/String")) (t' := (.object "java/lang/String")) (by decide) (by decide)))).other W51 (Or.inr (slot_ne (Or.inr (own_w hw 89 rfl)) (Or.inr (own_w hw 105 rfl)) (by decide) (t := (.object "java/lang/String")) (t' := (.object "java/lang/Long")) (by decide) (by decide)))).other W55 (Or.inr (slot_ne (Or.inr (own_w hw 89 rfl)) (Or.inr (own_w hw 109 rfl)) (by decide) (t := (.object "java/lang/String")) (t' := (.object "java/lang/Long")) (by decide) (by decide))))
  have f62 : Fld Z h55 x "com/example/malipo/malipo/core/ledger/Payment" "serverId" "Ljava/lang/String;" .null := ((((F39.other W43 (Or.inr (slot_ne (Or.inr (own_w hw 93 rfl)) (Or.inr (own_w hw 97 rfl)) (by decide) (t := (.object "java/lang/String")) (t' := (.object "java/lang/String")) (by decide) (by decide)))).other W47 (Or.inr (slot_ne (Or.inr (own_w hw 93 rfl)) (Or.inr (own_w hw 101 rfl)) (by decide) (t := (.object "java/lang/String")) (t' := (.object "java/lang/String")) (by decide) (by decide)))).other W51 (Or.inr (slot_ne (Or.inr (own_w hw 93 rfl)) (Or.inr (own_w hw 105 rfl)) (by decide) (t := (.object "java/lang/String")) (t' := (.object "java/lang/Long")) (by decide) (by decide)))).other W55 (Or.inr (slot_ne (Or.inr (own_w hw 93 rfl)) (Or.inr (own_w hw 109 rfl)) (by decide) (t := (.object "java/lang/String")) (t' := (.object "java/lang/Long")) (by decide) (by decide))))
  have f63 : Fld Z h55 x "com/example/malipo/malipo/core/ledger/Payment" "paidAt" "Ljava/lang/String;" .null := (((F43.other W47 (Or.inr (slot_ne (Or.inr (own_w hw 97 rfl)) (Or.inr (own_w hw 101 rfl)) (by decide) (t := (.object "java/lang/String")) (t' := (.object "java/lang/String")) (by decide) (by decide)))).other W51 (Or.inr (slot_ne (Or.inr (own_w hw 97 rfl)) (Or.inr (own_w hw 105 rfl)) (by decide) (t := (.object "java/lang/String")) (t' := (.object "java/lang/Long")) (by decide) (by decide)))).other W55 (Or.inr (slot_ne (Or.inr (own_w hw 97 rfl)) (Or.inr (own_w hw 109 rfl)) (by decide) (t := (.object "java/lang/String")) (t' := (.object "java/lang/Long")) (by decide) (by decide))))
  have f64 : Fld Z h55 x "com/example/malipo/malipo/core/ledger/Payment" "extend" "Ljava/lang/String;" .null := ((F47.other W51 (Or.inr (slot_ne (Or.inr (own_w hw 101 rfl)) (Or.inr (own_w hw 105 rfl)) (by decide) (t := (.object "java/lang/String")) (t' := (.object "java/lang/Long")) (by decide) (by decide)))).other W55 (Or.inr (slot_ne (Or.inr (own_w hw 101 rfl)) (Or.inr (own_w hw 109 rfl)) (by decide) (t := (.object "java/lang/String")) (t' := (.object "java/lang/Long")) (by decide) (by decide))))
  have f65 : Fld Z h55 x "com/example/malipo/malipo/core/ledger/Payment" "count" "Ljava/lang/Long;" .null := (F51.other W55 (Or.inr (slot_ne (Or.inr (own_w hw 105 rfl)) (Or.inr (own_w hw 109 rfl)) (by decide) (t := (.object "java/lang/Long")) (t' := (.object "java/lang/Long")) (by decide) (by decide))))
  obtain ⟨fs, hr, hrun, hended, hEnd⟩ := X55.leaveW hS20 (by rw [e55]; exact (Nat.le_trans (Nat.le_trans (Nat.le_trans (Nat.le_trans (Nat.le_trans (Nat.le_trans (Nat.le_trans (Nat.le_trans hk20 (Keep.of_wr W27).1) (Keep.of_wr W31).1) (Keep.of_wr W35).1) (Keep.of_wr W39).1) (Keep.of_wr W43).1) (Keep.of_wr W47).1) (Keep.of_wr W51).1) (Keep.of_wr W55).1)) (v := none) (fun _ => rfl)
  refine ⟨_, _, ?_, hrun, hended, _, _, rfl, ?_, own_endMono hEnd (by decide) (by decide)⟩
  · exact X55.returnOut hx Bd.returns (hb hby dc_p16_m1_108) hr
  · show QrmPI Z x b u v w q h0 n0 none T55.heap _
    rw [e55]
    exact ⟨rfl, N55, K56, f57, f58, f59, f60, f61, f62, f63, f64, f65, F55⟩
theorem dc_p17_m8_0 : decode prog_17_method_8_code 0 = .ok (.new 42, 3) := by decide +kernel
theorem dc_p17_m8_3 : decode prog_17_method_8_code 3 = .ok (.dup, 1) := by decide +kernel
theorem dc_p17_m8_4 : decode prog_17_method_8_code 4 = .ok (.aload_n 0, 1) := by decide +kernel
theorem dc_p17_m8_5 : decode prog_17_method_8_code 5 = .ok (.invokespecial 44, 3) := by decide +kernel
theorem pd_3 : parseMethodDescriptor "(Lcom/example/malipo/malipo/core/ledger/Payment$Builder;)V" = some ⟨[(.object "com/example/malipo/malipo/core/ledger/Payment$Builder")], none⟩ := by decide +kernel
theorem dc_p17_m8_8 : decode prog_17_method_8_code 8 = .ok (.areturn, 1) := by decide +kernel
theorem ef_rmBu (mm_ : MethodId) (b : Addr) : entryFrame mm_ #[(.ref b)] 1 = (mkF mm_ 0 #[.val (.ref b)] []) := by first | (simp [entryFrame, mkF, argsToLocals, Value.category]; done) | rfl
def QrmBu (Z : State) (b : Addr) (u : Addr) (v : Addr) (w : Addr) (q : Int64) (h0 : Heap) (n0 : Nat) (vv_ : Option Value) (hh_ : Heap) (LL_ : List Loc) : Prop := ∃ (r : Addr), (vv_ = some (.ref r)) ∧ (Fr n0 LL_) ∧ (Keep h0 hh_ []) ∧ (h0.size ≤ r) ∧ (Exa Z hh_ r "com/example/malipo/malipo/core/ledger/Payment") ∧ (Fld Z hh_ r "com/example/malipo/malipo/core/ledger/Payment" "channel" "Ljava/lang/String;" (.ref u)) ∧ (Fld Z hh_ r "com/example/malipo/malipo/core/ledger/Payment" "orderNo" "Ljava/lang/String;" (.ref v)) ∧ (Fld Z hh_ r "com/example/malipo/malipo/core/ledger/Payment" "channelOrderNo" "Ljava/lang/String;" (.ref w)) ∧ (Fld Z hh_ r "com/example/malipo/malipo/core/ledger/Payment" "amount" "J" (.long q)) ∧ (Fld Z hh_ r "com/example/malipo/malipo/core/ledger/Payment" "openId" "Ljava/lang/String;" .null) ∧ (Fld Z hh_ r "com/example/malipo/malipo/core/ledger/Payment" "serverId" "Ljava/lang/String;" .null) ∧ (Fld Z hh_ r "com/example/malipo/malipo/core/ledger/Payment" "paidAt" "Ljava/lang/String;" .null) ∧ (Fld Z hh_ r "com/example/malipo/malipo/core/ledger/Payment" "extend" "Ljava/lang/String;" .null) ∧ (Fld Z hh_ r "com/example/malipo/malipo/core/ledger/Payment" "count" "Ljava/lang/Long;" .null) ∧ (Fld Z hh_ r "com/example/malipo/malipo/core/ledger/Payment" "couponDeduction" "Ljava/lang/Long;" .null)
set_option maxRecDepth 65536 in
set_option maxHeartbeats 40000000 in
theorem rmBu (l : Launch) (Z : State) (a0 : Array Value) (hw : ∀ d ∈ tables_1, d.before a0 Z = true) (ws : List Jvm.Cond) (b : Addr) (u : Addr) (v : Addr) (w : Addr) (q : Int64) (h0 : Heap) (n0 : Nat) (O0 : Old Z n0 h0) (pr0 : Exa Z h0 b "com/example/malipo/malipo/core/ledger/Payment$Builder") (pr1 : Fld Z h0 b "com/example/malipo/malipo/core/ledger/Payment$Builder" "channel" "Ljava/lang/String;" (.ref u)) (pr2 : Fld Z h0 b "com/example/malipo/malipo/core/ledger/Payment$Builder" "orderNo" "Ljava/lang/String;" (.ref v)) (pr3 : Fld Z h0 b "com/example/malipo/malipo/core/ledger/Payment$Builder" "channelOrderNo" "Ljava/lang/String;" (.ref w)) (pr4 : Fld Z h0 b "com/example/malipo/malipo/core/ledger/Payment$Builder" "amount" "J" (.long q)) (pr5 : Fld Z h0 b "com/example/malipo/malipo/core/ledger/Payment$Builder" "openId" "Ljava/lang/String;" .null) (pr6 : Fld Z h0 b "com/example/malipo/malipo/core/ledger/Payment$Builder" "serverId" "Ljava/lang/String;" .null) (pr7 : Fld Z h0 b "com/example/malipo/malipo/core/ledger/Payment$Builder" "paidAt" "Ljava/lang/String;" .null) (pr8 : Fld Z h0 b "com/example/malipo/malipo/core/ledger/Payment$Builder" "extend" "Ljava/lang/String;" .null) (pr9 : Fld Z h0 b "com/example/malipo/malipo/core/ledger/Payment$Builder" "count" "Ljava/lang/Long;" .null) (pr10 : Fld Z h0 b "com/example/malipo/malipo/core/ledger/Payment$Builder" "couponDeduction" "Ljava/lang/Long;" .null) (pr11 : Exa Z h0 u "java/lang/String") (pr12 : Exa Z h0 v "java/lang/String") (pr13 : Exa Z h0 w "java/lang/String") :
    MetFree l (⟨"com/example/malipo/malipo/core/ledger/Payment$Builder", "build", "()Lcom/example/malipo/malipo/core/ledger/Payment;"⟩ : MethodName) (head1 (Jvm.Cond.code (⟨"com/example/malipo/malipo/core/ledger/Payment$Builder", "build", "()Lcom/example/malipo/malipo/core/ledger/Payment;"⟩ : MethodName) prog_17_method_8_code 1 (some (.object "com/example/malipo/malipo/core/ledger/Payment")) :: ws) ({ frames := 2, cells := 7, slots := 134, locals := 28 } : Room)) (fun aa_ UU_ => aa_ = #[(.ref b)] ∧ Z.Warmed39 UU_.vm ∧ UU_.heap = h0) (fun _ _ _ _ _ => True) (fun _ UU_ oo_ UV_ => ∃ vv_ LL_, oo_ = .returned vv_ ∧ QrmBu Z b u v w q h0 n0 vv_ UV_.heap LL_ ∧ ReturnedEndW UU_ oo_ UV_ LL_ ({ frames := 2, cells := 7, slots := 134, locals := 28 } : Room).cells ({ frames := 2, cells := 7, slots := 134, locals := 28 } : Room).slots) := by
  refine MetFree.of_bodySF (plainFor_of_name pn_com_example_malipo_malipo_core_ledger_Payment_Builder) hisR ?_
  intro pp_ ee_ ss_ mm_ args_ bb_ me_ cc_ s₁ Bd hml0 hP hK
  obtain ⟨rfl, hZ, hh⟩ := hP
  have hx := Bd.exec
  have hby := Bd.bytes
  have hml : cc_.maxLocals = 1 := hml0
  have hown : ss_.vm.findClass "com/example/malipo/malipo/core/ledger/Payment$Builder" = some mm_.cls := findClass_of_methodNamed Bd.named
  have hnm := (name_of_methodNamed Bd.named Bd.method).1
  have X0 : Stand pp_ l ee_ ({ frames := 2, cells := 7, slots := 134, locals := 28 } : Room) ss_ mm_ #[(.ref b)] bb_ me_ cc_ s₁ [] 0 0 := Stand.of_body Bd
  have e0 : s₁.heap = h0 := by rw [← hh, Bd.state]; rfl
  have N0 := Fr.nil n0
  have X0 : Stand pp_ l ee_ _ (ss_.setVm ss_.vm) mm_ _ bb_ me_ cc_ s₁ [] 0 0 := X0
  have hZ : Z.Warmed39 (ss_.setVm ss_.vm).vm := hZ
  have hown : (ss_.setVm ss_.vm).vm.findClass "com/example/malipo/malipo/core/ledger/Payment$Builder" = some mm_.cls := hown
  have hS0 : ss_.Since ss_.vm 0 := (State.WarmedH.refl ss_).since 0
  have hkeep_ : ∀ (b : Addr) (cl : Cell), Z.heap[b]? = some cl → ss_.heap[b]? = some cl := by rw [hh]; exact O0.2.2
  have own_atoms_ : ∀ a ∈ Bundle.stringAtoms, a.before a0 Z = true := fun d hd => hw d ((by decide +kernel : ∀ d ∈ Bundle.stringAtoms, d ∈ tables_1) d hd)
  show own_Go pp_ ee_ bb_ (fun s₂ oo_ => s₂.status = .running ∧ Ended s₂ bb_ oo_ ∧ (∃ vv_ LL_, oo_ = .returned vv_ ∧ QrmBu Z b u v w q h0 n0 vv_ s₂.heap LL_ ∧ ReturnedEndW ss_ oo_ s₂ LL_ ({ frames := 2, cells := 7, slots := 134, locals := 28 } : Room).cells ({ frames := 2, cells := 7, slots := 134, locals := 28 } : Room).slots)) s₁ (entryFrame mm_ #[(.ref b)] 1)
  refine own_cast (ef_rmBu mm_ b) ?_
  have Z0 : n0 ≤ h0.size := by have q := O0.2.1; rw [O0.1] at q; exact q
  have K0 : Keep h0 h0 [] := Keep.refl _ _
  show own_Go _ _ _ _ s₁ (mkF mm_ 0 #[.val (.ref b)] [])
  obtain ⟨T1, h1, X1, e1, E1, A1, D1, -, st1⟩ := newO X0 hx hZ hown (own_w hw 58 rfl) (own_w hw 59 rfl) (own_w hw 36 rfl) e0 (g := (mkF mm_ 0 #[.val (.ref b)] [])) rfl (hb hby dc_p17_m8_0) (by decide) (by decide)
  obtain ⟨b1, q1⟩ : ∃ z, z = h0.size := ⟨_, rfl⟩
  rw [← q1] at A1 D1 st1
  have lo_b1 : h0.size ≤ b1 := Nat.le_trans K0.1 (Nat.le_of_eq q1.symm)
  have g_b1 : n0 ≤ b1 := Nat.le_trans Z0 lo_b1
  refine own_step st1 ?_
  have F1_channel : Fld Z h1 b1 "com/example/malipo/malipo/core/ledger/Payment" "channel" "Ljava/lang/String;" .null := D1 (Or.inr (own_w hw 74 rfl)) (ty := (.object "java/lang/String")) (by decide)
  have F1_orderNo : Fld Z h1 b1 "com/example/malipo/malipo/core/ledger/Payment" "orderNo" "Ljava/lang/String;" .null := D1 (Or.inr (own_w hw 78 rfl)) (ty := (.object "java/lang/String")) (by decide)
  have F1_channelOrderNo : Fld Z h1 b1 "com/example/malipo/malipo/core/ledger/Payment" "channelOrderNo" "Ljava/lang/String;" .null := D1 (Or.inr (own_w hw 82 rfl)) (ty := (.object "java/lang/String")) (by decide)
  have F1_amount : Fld Z h1 b1 "com/example/malipo/malipo/core/ledger/Payment" "amount" "J" (.long (0 : Int64)) := D1 (Or.inr (own_w hw 85 rfl)) (ty := .long) (by decide)
  have F1_openId : Fld Z h1 b1 "com/example/malipo/malipo/core/ledger/Payment" "openId" "Ljava/lang/String;" .null := D1 (Or.inr (own_w hw 89 rfl)) (ty := (.object "java/lang/String")) (by decide)
  have F1_serverId : Fld Z h1 b1 "com/example/malipo/malipo/core/ledger/Payment" "serverId" "Ljava/lang/String;" .null := D1 (Or.inr (own_w hw 93 rfl)) (ty := (.object "java/lang/String")) (by decide)
  have F1_paidAt : Fld Z h1 b1 "com/example/malipo/malipo/core/ledger/Payment" "paidAt" "Ljava/lang/String;" .null := D1 (Or.inr (own_w hw 97 rfl)) (ty := (.object "java/lang/String")) (by decide)
  have F1_extend : Fld Z h1 b1 "com/example/malipo/malipo/core/ledger/Payment" "extend" "Ljava/lang/String;" .null := D1 (Or.inr (own_w hw 101 rfl)) (ty := (.object "java/lang/String")) (by decide)
  have F1_count : Fld Z h1 b1 "com/example/malipo/malipo/core/ledger/Payment" "count" "Ljava/lang/Long;" .null := D1 (Or.inr (own_w hw 105 rfl)) (ty := (.object "java/lang/Long")) (by decide)
  have F1_couponDeduction : Fld Z h1 b1 "com/example/malipo/malipo/core/ledger/Payment" "couponDeduction" "Ljava/lang/Long;" .null := D1 (Or.inr (own_w hw 109 rfl)) (ty := (.object "java/lang/Long")) (by decide)
  show own_Go _ _ _ _ T1 (mkF mm_ 3 #[.val (.ref b)] [(.ref b1)])
  refine own_step (fun t_ k_ => XS.dup X1.here hx rfl (hb hby dc_p17_m8_3) rfl rfl (XS.aloadN X1.here hx rfl (hb hby dc_p17_m8_4) rfl rfl k_)) ?_
  show own_Go _ _ _ _ T1 (mkF mm_ 5 #[.val (.ref b)] [(.ref b), (.ref b1), (.ref b1)])
  have f3 : Exa Z h1 b "com/example/malipo/malipo/core/ledger/Payment$Builder" := (pr0.ext E1)
  have f4 : Fld Z h1 b "com/example/malipo/malipo/core/ledger/Payment$Builder" "channel" "Ljava/lang/String;" (.ref u) := (pr1.ext E1)
  have f5 : Fld Z h1 b "com/example/malipo/malipo/core/ledger/Payment$Builder" "orderNo" "Ljava/lang/String;" (.ref v) := (pr2.ext E1)
  have f6 : Fld Z h1 b "com/example/malipo/malipo/core/ledger/Payment$Builder" "channelOrderNo" "Ljava/lang/String;" (.ref w) := (pr3.ext E1)
  have f7 : Fld Z h1 b "com/example/malipo/malipo/core/ledger/Payment$Builder" "amount" "J" (.long q) := (pr4.ext E1)
  have f8 : Fld Z h1 b "com/example/malipo/malipo/core/ledger/Payment$Builder" "openId" "Ljava/lang/String;" .null := (pr5.ext E1)
  have f9 : Fld Z h1 b "com/example/malipo/malipo/core/ledger/Payment$Builder" "serverId" "Ljava/lang/String;" .null := (pr6.ext E1)
  have f10 : Fld Z h1 b "com/example/malipo/malipo/core/ledger/Payment$Builder" "paidAt" "Ljava/lang/String;" .null := (pr7.ext E1)
  have f11 : Fld Z h1 b "com/example/malipo/malipo/core/ledger/Payment$Builder" "extend" "Ljava/lang/String;" .null := (pr8.ext E1)
  have f12 : Fld Z h1 b "com/example/malipo/malipo/core/ledger/Payment$Builder" "count" "Ljava/lang/Long;" .null := (pr9.ext E1)
  have f13 : Fld Z h1 b "com/example/malipo/malipo/core/ledger/Payment$Builder" "couponDeduction" "Ljava/lang/Long;" .null := (pr10.ext E1)
  have f14 : Exa Z h1 u "java/lang/String" := (pr11.ext E1)
  have f15 : Exa Z h1 v "java/lang/String" := (pr12.ext E1)
  have f16 : Exa Z h1 w "java/lang/String" := (pr13.ext E1)
  have O17 : Old Z n0 h1 := (O0.ext E1)
  obtain ⟨_, _, ⟨T2, Lx2, kx2, nx2⟩, -, X2, hS2, hG2, ⟨Lc2, hQ2, l2, y2, z2⟩, st2⟩ := X1.specialBackNestS hx (y := (⟨"com/example/malipo/malipo/core/ledger/Payment", "<init>", "(Lcom/example/malipo/malipo/core/ledger/Payment$Builder;)V"⟩ : MethodName)) rfl hown (Cond.methodLinkNest_wide hZ (own_w hw 60 rfl) :) (mvT hZ (own_w hw 61 rfl)) (mvT hZ (own_w hw 62 rfl)) (by decide) (backOfS (W := 1) (rmPI l Z a0 hw [] b1 b u v w q h1 n0 O17 A1 g_b1 F1_channel F1_orderNo F1_channelOrderNo F1_openId F1_serverId F1_paidAt F1_extend F1_count F1_couponDeduction F1_amount f3 f4 f5 f6 f7 f8 f9 f10 f11 f12 f13 f14 f15 f16) hZ (own_w hw 62 rfl) (own_w hw 36 rfl) (by decide) (by decide)) (g := (mkF mm_ 5 #[.val (.ref b)] [(.ref b), (.ref b1), (.ref b1)])) rfl (by rw [hml]; rfl) (Steps.refl _) (a := b1) (argsL := [(.ref b)]) (rest := [(.ref b1)]) (lenOf pd_3 rfl) rfl (by show 2 * 0 + _ ≤ _; exact Nat.le_of_eq rfl) (hb hby dc_p17_m8_5) (fun vm_ hvm_ => ⟨rfl, e1, (by decide : 1 + 6 ≤ _), (by decide : 10 + 124 ≤ _)⟩)
  dsimp only [Pt.U, Pt.locs, Pt.cells, Pt.slots] at X2 l2 y2 z2 st2 hQ2 hS2 hG2
  subst l2 y2 z2
  obtain ⟨X2, hS2, hZ2, hown2⟩ := rebS (n1 := h1.size) hS0 (Nat.le_trans (Nat.zero_le _) E1.1) X2 hS2 (by rw [← e1]; exact hG2) hZ hown
  obtain ⟨rfl, Nq2, Kc2, r2_0, r2_1, r2_2, r2_3, r2_4, r2_5, r2_6, r2_7, r2_8, r2_9⟩ := hQ2
  have N2 := Fr.app N0 Nq2
  refine own_jump st2 ?_
  show own_Go _ _ _ _ T2 (mkF mm_ 8 #[.val (.ref b)] [(.ref b1)])
  have K18 : Keep h0 T2.heap [] := ((K0.ext E1).trans Kc2 (allS (Or.inr lo_b1) all0))
  have f19 : Exa Z T2.heap b1 "com/example/malipo/malipo/core/ledger/Payment" := (A1.keep Kc2)
  obtain ⟨fs, hr, hrun, hended, hEnd⟩ := X2.leaveW hS2 (Nat.le_refl _) (v := some (.ref b1)) (fun h => by rw [Bd.returns] at h; cases h)
  refine ⟨_, _, ?_, hrun, hended, _, _, rfl, ?_, own_endMono hEnd (by decide) (by decide)⟩
  · jvm_step X2.here [X2.here.top, hx, (hb hby dc_p17_m8_8), X2.method', Bd.returns, Value.isRef, FieldType.isReference]
    first | (intro acts; rw [hr _ acts rfl rfl rfl]) | rw [hr _ _ rfl rfl rfl]
    exact Steps.refl _
  · show QrmBu Z b u v w q h0 n0 (some (.ref b1)) T2.heap _
    exact ⟨b1, rfl, N2, K18, lo_b1, f19, r2_0, r2_1, r2_2, r2_3, r2_4, r2_5, r2_6, r2_7, r2_8, r2_9⟩
theorem dc_p16_m3_0 : decode prog_16_method_3_code 0 = .ok (.aload_n 0, 1) := by decide +kernel
theorem dc_p16_m3_1 : decode prog_16_method_3_code 1 = .ok (.getfield 22, 3) := by decide +kernel
theorem dc_p16_m3_4 : decode prog_16_method_3_code 4 = .ok (.areturn, 1) := by decide +kernel
theorem ef_rmG0 (mm_ : MethodId) (a : Addr) : entryFrame mm_ #[(.ref a)] 1 = (mkF mm_ 0 #[.val (.ref a)] []) := by first | (simp [entryFrame, mkF, argsToLocals, Value.category]; done) | rfl
def QrmG0 (Z : State) (a : Addr) (v : Addr) (h0 : Heap) (n0 : Nat) (vv_ : Option Value) (hh_ : Heap) (LL_ : List Loc) : Prop := (vv_ = some (.ref v)) ∧ (LL_ = []) ∧ (hh_ = h0)
set_option maxRecDepth 65536 in
set_option maxHeartbeats 40000000 in
theorem rmG0 (l : Launch) (Z : State) (a0 : Array Value) (hw : ∀ d ∈ tables_1, d.before a0 Z = true) (ws : List Jvm.Cond) (a : Addr) (v : Addr) (h0 : Heap) (n0 : Nat) (O0 : Old Z n0 h0) (pr0 : Fld Z h0 a "com/example/malipo/malipo/core/ledger/Payment" "channel" "Ljava/lang/String;" (.ref v)) :
    MetFree l (⟨"com/example/malipo/malipo/core/ledger/Payment", "getChannel", "()Ljava/lang/String;"⟩ : MethodName) (head1 (Jvm.Cond.code (⟨"com/example/malipo/malipo/core/ledger/Payment", "getChannel", "()Ljava/lang/String;"⟩ : MethodName) prog_16_method_3_code 1 (some (.object "java/lang/String")) :: ws) ({ frames := 0, cells := 0, slots := 0, locals := 0 } : Room)) (fun aa_ UU_ => aa_ = #[(.ref a)] ∧ Z.Warmed39 UU_.vm ∧ UU_.heap = h0) (fun _ _ _ _ _ => True) (fun _ UU_ oo_ UV_ => ∃ vv_ LL_, oo_ = .returned vv_ ∧ QrmG0 Z a v h0 n0 vv_ UV_.heap LL_ ∧ FrameEnd UU_ oo_ UV_ LL_ ({ frames := 0, cells := 0, slots := 0, locals := 0 } : Room).cells ({ frames := 0, cells := 0, slots := 0, locals := 0 } : Room).slots) := by
  refine MetFree.of_bodySF (plainFor_of_name pn_com_example_malipo_malipo_core_ledger_Payment) hisR ?_
  intro pp_ ee_ ss_ mm_ args_ bb_ me_ cc_ s₁ Bd hml0 hP hK
  obtain ⟨rfl, hZ, hh⟩ := hP
  have hx := Bd.exec
  have hby := Bd.bytes
  have hml : cc_.maxLocals = 1 := hml0
  have hown : ss_.vm.findClass "com/example/malipo/malipo/core/ledger/Payment" = some mm_.cls := findClass_of_methodNamed Bd.named
  have hnm := (name_of_methodNamed Bd.named Bd.method).1
  have X0 : Stand pp_ l ee_ ({ frames := 0, cells := 0, slots := 0, locals := 0 } : Room) ss_ mm_ #[(.ref a)] bb_ me_ cc_ s₁ [] 0 0 := Stand.of_body Bd
  have e0 : s₁.heap = h0 := by rw [← hh, Bd.state]; rfl
  have N0 := Fr.nil n0
  show own_Go pp_ ee_ bb_ (fun s₂ oo_ => s₂.status = .running ∧ Ended s₂ bb_ oo_ ∧ (∃ vv_ LL_, oo_ = .returned vv_ ∧ QrmG0 Z a v h0 n0 vv_ s₂.heap LL_ ∧ FrameEnd ss_ oo_ s₂ LL_ ({ frames := 0, cells := 0, slots := 0, locals := 0 } : Room).cells ({ frames := 0, cells := 0, slots := 0, locals := 0 } : Room).slots)) s₁ (entryFrame mm_ #[(.ref a)] 1)
  refine own_cast (ef_rmG0 mm_ a) ?_
  have Z0 : n0 ≤ h0.size := by have q := O0.2.1; rw [O0.1] at q; exact q
  have K0 : Keep h0 h0 [] := Keep.refl _ _
  show own_Go _ _ _ _ s₁ (mkF mm_ 0 #[.val (.ref a)] [])
  refine own_step (fun t_ k_ => XS.aloadN X0.here hx rfl (hb hby dc_p16_m3_0) rfl rfl k_) ?_
  show own_Go _ _ _ _ s₁ (mkF mm_ 1 #[.val (.ref a)] [(.ref a)])
  obtain ⟨T1, X1, e1, st1⟩ := getF X0 hx hZ hown (host := "") (Or.inl (own_w hw 73 rfl)) Via.refl e0 pr0 (g := (mkF mm_ 1 #[.val (.ref a)] [(.ref a)])) rfl rfl (hb hby dc_p16_m3_1)
  refine own_step st1 ?_
  show own_Go _ _ _ _ T1 (mkF mm_ 4 #[.val (.ref a)] [(.ref v)])
  obtain ⟨fs, hr, hrun, hended, hW, hsame⟩ := X1.leave (v := some (.ref v)) (fun h => by rw [Bd.returns] at h; cases h)
  refine ⟨_, _, ?_, hrun, hended, _, _, rfl, ?_, ⟨_, rfl⟩, hW, hsame.mono (by decide) (by decide)⟩
  · jvm_step X1.here [X1.here.top, hx, (hb hby dc_p16_m3_4), X1.method', Bd.returns, Value.isRef, FieldType.isReference]
    first | (intro acts; rw [hr _ acts rfl rfl rfl]) | rw [hr _ _ rfl rfl rfl]
    exact Steps.refl _
  · show QrmG0 Z a v h0 n0 (some (.ref v)) T1.heap _
    rw [e1]
    exact ⟨rfl, rfl, rfl⟩
theorem dc_p16_m4_0 : decode prog_16_method_4_code 0 = .ok (.aload_n 0, 1) := by decide +kernel
theorem dc_p16_m4_1 : decode prog_16_method_4_code 1 = .ok (.getfield 29, 3) := by decide +kernel
theorem dc_p16_m4_4 : decode prog_16_method_4_code 4 = .ok (.areturn, 1) := by decide +kernel
theorem ef_rmG1 (mm_ : MethodId) (a : Addr) : entryFrame mm_ #[(.ref a)] 1 = (mkF mm_ 0 #[.val (.ref a)] []) := by first | (simp [entryFrame, mkF, argsToLocals, Value.category]; done) | rfl
def QrmG1 (Z : State) (a : Addr) (v : Addr) (h0 : Heap) (n0 : Nat) (vv_ : Option Value) (hh_ : Heap) (LL_ : List Loc) : Prop := (vv_ = some (.ref v)) ∧ (LL_ = []) ∧ (hh_ = h0)
set_option maxRecDepth 65536 in
set_option maxHeartbeats 40000000 in
theorem rmG1 (l : Launch) (Z : State) (a0 : Array Value) (hw : ∀ d ∈ tables_1, d.before a0 Z = true) (ws : List Jvm.Cond) (a : Addr) (v : Addr) (h0 : Heap) (n0 : Nat) (O0 : Old Z n0 h0) (pr0 : Fld Z h0 a "com/example/malipo/malipo/core/ledger/Payment" "orderNo" "Ljava/lang/String;" (.ref v)) :
    MetFree l (⟨"com/example/malipo/malipo/core/ledger/Payment", "getOrderNo", "()Ljava/lang/String;"⟩ : MethodName) (head1 (Jvm.Cond.code (⟨"com/example/malipo/malipo/core/ledger/Payment", "getOrderNo", "()Ljava/lang/String;"⟩ : MethodName) prog_16_method_4_code 1 (some (.object "java/lang/String")) :: ws) ({ frames := 0, cells := 0, slots := 0, locals := 0 } : Room)) (fun aa_ UU_ => aa_ = #[(.ref a)] ∧ Z.Warmed39 UU_.vm ∧ UU_.heap = h0) (fun _ _ _ _ _ => True) (fun _ UU_ oo_ UV_ => ∃ vv_ LL_, oo_ = .returned vv_ ∧ QrmG1 Z a v h0 n0 vv_ UV_.heap LL_ ∧ FrameEnd UU_ oo_ UV_ LL_ ({ frames := 0, cells := 0, slots := 0, locals := 0 } : Room).cells ({ frames := 0, cells := 0, slots := 0, locals := 0 } : Room).slots) := by
  refine MetFree.of_bodySF (plainFor_of_name pn_com_example_malipo_malipo_core_ledger_Payment) hisR ?_
  intro pp_ ee_ ss_ mm_ args_ bb_ me_ cc_ s₁ Bd hml0 hP hK
  obtain ⟨rfl, hZ, hh⟩ := hP
  have hx := Bd.exec
  have hby := Bd.bytes
  have hml : cc_.maxLocals = 1 := hml0
  have hown : ss_.vm.findClass "com/example/malipo/malipo/core/ledger/Payment" = some mm_.cls := findClass_of_methodNamed Bd.named
  have hnm := (name_of_methodNamed Bd.named Bd.method).1
  have X0 : Stand pp_ l ee_ ({ frames := 0, cells := 0, slots := 0, locals := 0 } : Room) ss_ mm_ #[(.ref a)] bb_ me_ cc_ s₁ [] 0 0 := Stand.of_body Bd
  have e0 : s₁.heap = h0 := by rw [← hh, Bd.state]; rfl
  have N0 := Fr.nil n0
  show own_Go pp_ ee_ bb_ (fun s₂ oo_ => s₂.status = .running ∧ Ended s₂ bb_ oo_ ∧ (∃ vv_ LL_, oo_ = .returned vv_ ∧ QrmG1 Z a v h0 n0 vv_ s₂.heap LL_ ∧ FrameEnd ss_ oo_ s₂ LL_ ({ frames := 0, cells := 0, slots := 0, locals := 0 } : Room).cells ({ frames := 0, cells := 0, slots := 0, locals := 0 } : Room).slots)) s₁ (entryFrame mm_ #[(.ref a)] 1)
  refine own_cast (ef_rmG1 mm_ a) ?_
  have Z0 : n0 ≤ h0.size := by have q := O0.2.1; rw [O0.1] at q; exact q
  have K0 : Keep h0 h0 [] := Keep.refl _ _
  show own_Go _ _ _ _ s₁ (mkF mm_ 0 #[.val (.ref a)] [])
  refine own_step (fun t_ k_ => XS.aloadN X0.here hx rfl (hb hby dc_p16_m4_0) rfl rfl k_) ?_
  show own_Go _ _ _ _ s₁ (mkF mm_ 1 #[.val (.ref a)] [(.ref a)])
  obtain ⟨T1, X1, e1, st1⟩ := getF X0 hx hZ hown (host := "") (Or.inl (own_w hw 77 rfl)) Via.refl e0 pr0 (g := (mkF mm_ 1 #[.val (.ref a)] [(.ref a)])) rfl rfl (hb hby dc_p16_m4_1)
  refine own_step st1 ?_
  show own_Go _ _ _ _ T1 (mkF mm_ 4 #[.val (.ref a)] [(.ref v)])
  obtain ⟨fs, hr, hrun, hended, hW, hsame⟩ := X1.leave (v := some (.ref v)) (fun h => by rw [Bd.returns] at h; cases h)
  refine ⟨_, _, ?_, hrun, hended, _, _, rfl, ?_, ⟨_, rfl⟩, hW, hsame.mono (by decide) (by decide)⟩
  · jvm_step X1.here [X1.here.top, hx, (hb hby dc_p16_m4_4), X1.method', Bd.returns, Value.isRef, FieldType.isReference]
    first | (intro acts; rw [hr _ acts rfl rfl rfl]) | rw [hr _ _ rfl rfl rfl]
    exact Steps.refl _
  · show QrmG1 Z a v h0 n0 (some (.ref v)) T1.heap _
    rw [e1]
    exact ⟨rfl, rfl, rfl⟩
theorem dc_p16_m5_0 : decode prog_16_method_5_code 0 = .ok (.aload_n 0, 1) := by decide +kernel
theorem dc_p16_m5_1 : decode prog_16_method_5_code 1 = .ok (.getfield 34, 3) := by decide +kernel
theorem dc_p16_m5_4 : decode prog_16_method_5_code 4 = .ok (.areturn, 1) := by decide +kernel
theorem ef_rmG2 (mm_ : MethodId) (a : Addr) : entryFrame mm_ #[(.ref a)] 1 = (mkF mm_ 0 #[.val (.ref a)] []) := by first | (simp [entryFrame, mkF, argsToLocals, Value.category]; done) | rfl
def QrmG2 (Z : State) (a : Addr) (v : Addr) (h0 : Heap) (n0 : Nat) (vv_ : Option Value) (hh_ : Heap) (LL_ : List Loc) : Prop := (vv_ = some (.ref v)) ∧ (LL_ = []) ∧ (hh_ = h0)
set_option maxRecDepth 65536 in
set_option maxHeartbeats 40000000 in
theorem rmG2 (l : Launch) (Z : State) (a0 : Array Value) (hw : ∀ d ∈ tables_1, d.before a0 Z = true) (ws : List Jvm.Cond) (a : Addr) (v : Addr) (h0 : Heap) (n0 : Nat) (O0 : Old Z n0 h0) (pr0 : Fld Z h0 a "com/example/malipo/malipo/core/ledger/Payment" "channelOrderNo" "Ljava/lang/String;" (.ref v)) :
    MetFree l (⟨"com/example/malipo/malipo/core/ledger/Payment", "getChannelOrderNo", "()Ljava/lang/String;"⟩ : MethodName) (head1 (Jvm.Cond.code (⟨"com/example/malipo/malipo/core/ledger/Payment", "getChannelOrderNo", "()Ljava/lang/String;"⟩ : MethodName) prog_16_method_5_code 1 (some (.object "java/lang/String")) :: ws) ({ frames := 0, cells := 0, slots := 0, locals := 0 } : Room)) (fun aa_ UU_ => aa_ = #[(.ref a)] ∧ Z.Warmed39 UU_.vm ∧ UU_.heap = h0) (fun _ _ _ _ _ => True) (fun _ UU_ oo_ UV_ => ∃ vv_ LL_, oo_ = .returned vv_ ∧ QrmG2 Z a v h0 n0 vv_ UV_.heap LL_ ∧ FrameEnd UU_ oo_ UV_ LL_ ({ frames := 0, cells := 0, slots := 0, locals := 0 } : Room).cells ({ frames := 0, cells := 0, slots := 0, locals := 0 } : Room).slots) := by
  refine MetFree.of_bodySF (plainFor_of_name pn_com_example_malipo_malipo_core_ledger_Payment) hisR ?_
  intro pp_ ee_ ss_ mm_ args_ bb_ me_ cc_ s₁ Bd hml0 hP hK
  obtain ⟨rfl, hZ, hh⟩ := hP
  have hx := Bd.exec
  have hby := Bd.bytes
  have hml : cc_.maxLocals = 1 := hml0
  have hown : ss_.vm.findClass "com/example/malipo/malipo/core/ledger/Payment" = some mm_.cls := findClass_of_methodNamed Bd.named
  have hnm := (name_of_methodNamed Bd.named Bd.method).1
  have X0 : Stand pp_ l ee_ ({ frames := 0, cells := 0, slots := 0, locals := 0 } : Room) ss_ mm_ #[(.ref a)] bb_ me_ cc_ s₁ [] 0 0 := Stand.of_body Bd
  have e0 : s₁.heap = h0 := by rw [← hh, Bd.state]; rfl
  have N0 := Fr.nil n0
  show own_Go pp_ ee_ bb_ (fun s₂ oo_ => s₂.status = .running ∧ Ended s₂ bb_ oo_ ∧ (∃ vv_ LL_, oo_ = .returned vv_ ∧ QrmG2 Z a v h0 n0 vv_ s₂.heap LL_ ∧ FrameEnd ss_ oo_ s₂ LL_ ({ frames := 0, cells := 0, slots := 0, locals := 0 } : Room).cells ({ frames := 0, cells := 0, slots := 0, locals := 0 } : Room).slots)) s₁ (entryFrame mm_ #[(.ref a)] 1)
  refine own_cast (ef_rmG2 mm_ a) ?_
  have Z0 : n0 ≤ h0.size := by have q := O0.2.1; rw [O0.1] at q; exact q
  have K0 : Keep h0 h0 [] := Keep.refl _ _
  show own_Go _ _ _ _ s₁ (mkF mm_ 0 #[.val (.ref a)] [])
  refine own_step (fun t_ k_ => XS.aloadN X0.here hx rfl (hb hby dc_p16_m5_0) rfl rfl k_) ?_
  show own_Go _ _ _ _ s₁ (mkF mm_ 1 #[.val (.ref a)] [(.ref a)])
  obtain ⟨T1, X1, e1, st1⟩ := getF X0 hx hZ hown (host := "") (Or.inl (own_w hw 81 rfl)) Via.refl e0 pr0 (g := (mkF mm_ 1 #[.val (.ref a)] [(.ref a)])) rfl rfl (hb hby dc_p16_m5_1)
  refine own_step st1 ?_
  show own_Go _ _ _ _ T1 (mkF mm_ 4 #[.val (.ref a)] [(.ref v)])
  obtain ⟨fs, hr, hrun, hended, hW, hsame⟩ := X1.leave (v := some (.ref v)) (fun h => by rw [Bd.returns] at h; cases h)
  refine ⟨_, _, ?_, hrun, hended, _, _, rfl, ?_, ⟨_, rfl⟩, hW, hsame.mono (by decide) (by decide)⟩
  · jvm_step X1.here [X1.here.top, hx, (hb hby dc_p16_m5_4), X1.method', Bd.returns, Value.isRef, FieldType.isReference]
    first | (intro acts; rw [hr _ acts rfl rfl rfl]) | rw [hr _ _ rfl rfl rfl]
    exact Steps.refl _
  · show QrmG2 Z a v h0 n0 (some (.ref v)) T1.heap _
    rw [e1]
    exact ⟨rfl, rfl, rfl⟩
theorem dc_p16_m6_0 : decode prog_16_method_6_code 0 = .ok (.aload_n 0, 1) := by decide +kernel
theorem dc_p16_m6_1 : decode prog_16_method_6_code 1 = .ok (.getfield 39, 3) := by decide +kernel
theorem dc_p16_m6_4 : decode prog_16_method_6_code 4 = .ok (.lreturn, 1) := by decide +kernel
theorem ef_rmGA (mm_ : MethodId) (a : Addr) : entryFrame mm_ #[(.ref a)] 1 = (mkF mm_ 0 #[.val (.ref a)] []) := by first | (simp [entryFrame, mkF, argsToLocals, Value.category]; done) | rfl
def QrmGA (Z : State) (a : Addr) (v : Int64) (h0 : Heap) (n0 : Nat) (vv_ : Option Value) (hh_ : Heap) (LL_ : List Loc) : Prop := (vv_ = some (.long v)) ∧ (LL_ = []) ∧ (hh_ = h0)
set_option maxRecDepth 65536 in
set_option maxHeartbeats 40000000 in
theorem rmGA (l : Launch) (Z : State) (a0 : Array Value) (hw : ∀ d ∈ tables_1, d.before a0 Z = true) (ws : List Jvm.Cond) (a : Addr) (v : Int64) (h0 : Heap) (n0 : Nat) (O0 : Old Z n0 h0) (pr0 : Fld Z h0 a "com/example/malipo/malipo/core/ledger/Payment" "amount" "J" (.long v)) :
    MetFree l (⟨"com/example/malipo/malipo/core/ledger/Payment", "getAmount", "()J"⟩ : MethodName) (head1 (Jvm.Cond.code (⟨"com/example/malipo/malipo/core/ledger/Payment", "getAmount", "()J"⟩ : MethodName) prog_16_method_6_code 1 (some .long) :: ws) ({ frames := 0, cells := 0, slots := 0, locals := 0 } : Room)) (fun aa_ UU_ => aa_ = #[(.ref a)] ∧ Z.Warmed39 UU_.vm ∧ UU_.heap = h0) (fun _ _ _ _ _ => True) (fun _ UU_ oo_ UV_ => ∃ vv_ LL_, oo_ = .returned vv_ ∧ QrmGA Z a v h0 n0 vv_ UV_.heap LL_ ∧ FrameEnd UU_ oo_ UV_ LL_ ({ frames := 0, cells := 0, slots := 0, locals := 0 } : Room).cells ({ frames := 0, cells := 0, slots := 0, locals := 0 } : Room).slots) := by
  refine MetFree.of_bodySF (plainFor_of_name pn_com_example_malipo_malipo_core_ledger_Payment) hisR ?_
  intro pp_ ee_ ss_ mm_ args_ bb_ me_ cc_ s₁ Bd hml0 hP hK
  obtain ⟨rfl, hZ, hh⟩ := hP
  have hx := Bd.exec
  have hby := Bd.bytes
  have hml : cc_.maxLocals = 1 := hml0
  have hown : ss_.vm.findClass "com/example/malipo/malipo/core/ledger/Payment" = some mm_.cls := findClass_of_methodNamed Bd.named
  have hnm := (name_of_methodNamed Bd.named Bd.method).1
  have X0 : Stand pp_ l ee_ ({ frames := 0, cells := 0, slots := 0, locals := 0 } : Room) ss_ mm_ #[(.ref a)] bb_ me_ cc_ s₁ [] 0 0 := Stand.of_body Bd
  have e0 : s₁.heap = h0 := by rw [← hh, Bd.state]; rfl
  have N0 := Fr.nil n0
  show own_Go pp_ ee_ bb_ (fun s₂ oo_ => s₂.status = .running ∧ Ended s₂ bb_ oo_ ∧ (∃ vv_ LL_, oo_ = .returned vv_ ∧ QrmGA Z a v h0 n0 vv_ s₂.heap LL_ ∧ FrameEnd ss_ oo_ s₂ LL_ ({ frames := 0, cells := 0, slots := 0, locals := 0 } : Room).cells ({ frames := 0, cells := 0, slots := 0, locals := 0 } : Room).slots)) s₁ (entryFrame mm_ #[(.ref a)] 1)
  refine own_cast (ef_rmGA mm_ a) ?_
  have Z0 : n0 ≤ h0.size := by have q := O0.2.1; rw [O0.1] at q; exact q
  have K0 : Keep h0 h0 [] := Keep.refl _ _
  show own_Go _ _ _ _ s₁ (mkF mm_ 0 #[.val (.ref a)] [])
  refine own_step (fun t_ k_ => XS.aloadN X0.here hx rfl (hb hby dc_p16_m6_0) rfl rfl k_) ?_
  show own_Go _ _ _ _ s₁ (mkF mm_ 1 #[.val (.ref a)] [(.ref a)])
  obtain ⟨T1, X1, e1, st1⟩ := getF X0 hx hZ hown (host := "") (Or.inl (own_w hw 84 rfl)) Via.refl e0 pr0 (g := (mkF mm_ 1 #[.val (.ref a)] [(.ref a)])) rfl rfl (hb hby dc_p16_m6_1)
  refine own_step st1 ?_
  show own_Go _ _ _ _ T1 (mkF mm_ 4 #[.val (.ref a)] [(.long v)])
  obtain ⟨fs, hr, hrun, hended, hW, hsame⟩ := X1.leave (v := some (.long v)) (fun h => by rw [Bd.returns] at h; cases h)
  refine ⟨_, _, ?_, hrun, hended, _, _, rfl, ?_, ⟨_, rfl⟩, hW, hsame.mono (by decide) (by decide)⟩
  · jvm_step X1.here [X1.here.top, hx, (hb hby dc_p16_m6_4), X1.method', Bd.returns, narrow]
    first | (intro acts; rw [hr _ acts rfl rfl rfl]) | rw [hr _ _ rfl rfl rfl]
    exact Steps.refl _
  · show QrmGA Z a v h0 n0 (some (.long v)) T1.heap _
    rw [e1]
    exact ⟨rfl, rfl, rfl⟩
theorem dc_p16_m7_0 : decode prog_16_method_7_code 0 = .ok (.aload_n 0, 1) := by decide +kernel
theorem dc_p16_m7_1 : decode prog_16_method_7_code 1 = .ok (.getfield 43, 3) := by decide +kernel
theorem dc_p16_m7_4 : decode prog_16_method_7_code 4 = .ok (.areturn, 1) := by decide +kernel
theorem ef_rmH0 (mm_ : MethodId) (a : Addr) : entryFrame mm_ #[(.ref a)] 1 = (mkF mm_ 0 #[.val (.ref a)] []) := by first | (simp [entryFrame, mkF, argsToLocals, Value.category]; done) | rfl
def QrmH0 (Z : State) (a : Addr) (h0 : Heap) (n0 : Nat) (vv_ : Option Value) (hh_ : Heap) (LL_ : List Loc) : Prop := (vv_ = some .null) ∧ (LL_ = []) ∧ (hh_ = h0)
set_option maxRecDepth 65536 in
set_option maxHeartbeats 40000000 in
theorem rmH0 (l : Launch) (Z : State) (a0 : Array Value) (hw : ∀ d ∈ tables_1, d.before a0 Z = true) (ws : List Jvm.Cond) (a : Addr) (h0 : Heap) (n0 : Nat) (O0 : Old Z n0 h0) (pr0 : Fld Z h0 a "com/example/malipo/malipo/core/ledger/Payment" "openId" "Ljava/lang/String;" .null) :
    MetFree l (⟨"com/example/malipo/malipo/core/ledger/Payment", "getOpenId", "()Ljava/lang/String;"⟩ : MethodName) (head1 (Jvm.Cond.code (⟨"com/example/malipo/malipo/core/ledger/Payment", "getOpenId", "()Ljava/lang/String;"⟩ : MethodName) prog_16_method_7_code 1 (some (.object "java/lang/String")) :: ws) ({ frames := 0, cells := 0, slots := 0, locals := 0 } : Room)) (fun aa_ UU_ => aa_ = #[(.ref a)] ∧ Z.Warmed39 UU_.vm ∧ UU_.heap = h0) (fun _ _ _ _ _ => True) (fun _ UU_ oo_ UV_ => ∃ vv_ LL_, oo_ = .returned vv_ ∧ QrmH0 Z a h0 n0 vv_ UV_.heap LL_ ∧ FrameEnd UU_ oo_ UV_ LL_ ({ frames := 0, cells := 0, slots := 0, locals := 0 } : Room).cells ({ frames := 0, cells := 0, slots := 0, locals := 0 } : Room).slots) := by
  refine MetFree.of_bodySF (plainFor_of_name pn_com_example_malipo_malipo_core_ledger_Payment) hisR ?_
  intro pp_ ee_ ss_ mm_ args_ bb_ me_ cc_ s₁ Bd hml0 hP hK
  obtain ⟨rfl, hZ, hh⟩ := hP
  have hx := Bd.exec
  have hby := Bd.bytes
  have hml : cc_.maxLocals = 1 := hml0
  have hown : ss_.vm.findClass "com/example/malipo/malipo/core/ledger/Payment" = some mm_.cls := findClass_of_methodNamed Bd.named
  have hnm := (name_of_methodNamed Bd.named Bd.method).1
  have X0 : Stand pp_ l ee_ ({ frames := 0, cells := 0, slots := 0, locals := 0 } : Room) ss_ mm_ #[(.ref a)] bb_ me_ cc_ s₁ [] 0 0 := Stand.of_body Bd
  have e0 : s₁.heap = h0 := by rw [← hh, Bd.state]; rfl
  have N0 := Fr.nil n0
  show own_Go pp_ ee_ bb_ (fun s₂ oo_ => s₂.status = .running ∧ Ended s₂ bb_ oo_ ∧ (∃ vv_ LL_, oo_ = .returned vv_ ∧ QrmH0 Z a h0 n0 vv_ s₂.heap LL_ ∧ FrameEnd ss_ oo_ s₂ LL_ ({ frames := 0, cells := 0, slots := 0, locals := 0 } : Room).cells ({ frames := 0, cells := 0, slots := 0, locals := 0 } : Room).slots)) s₁ (entryFrame mm_ #[(.ref a)] 1)
  refine own_cast (ef_rmH0 mm_ a) ?_
  have Z0 : n0 ≤ h0.size := by have q := O0.2.1; rw [O0.1] at q; exact q
  have K0 : Keep h0 h0 [] := Keep.refl _ _
  show own_Go _ _ _ _ s₁ (mkF mm_ 0 #[.val (.ref a)] [])
  refine own_step (fun t_ k_ => XS.aloadN X0.here hx rfl (hb hby dc_p16_m7_0) rfl rfl k_) ?_
  show own_Go _ _ _ _ s₁ (mkF mm_ 1 #[.val (.ref a)] [(.ref a)])
  obtain ⟨T1, X1, e1, st1⟩ := getF X0 hx hZ hown (host := "") (Or.inl (own_w hw 88 rfl)) Via.refl e0 pr0 (g := (mkF mm_ 1 #[.val (.ref a)] [(.ref a)])) rfl rfl (hb hby dc_p16_m7_1)
  refine own_step st1 ?_
  show own_Go _ _ _ _ T1 (mkF mm_ 4 #[.val (.ref a)] [.null])
  obtain ⟨fs, hr, hrun, hended, hW, hsame⟩ := X1.leave (v := some .null) (fun h => by rw [Bd.returns] at h; cases h)
  refine ⟨_, _, ?_, hrun, hended, _, _, rfl, ?_, ⟨_, rfl⟩, hW, hsame.mono (by decide) (by decide)⟩
  · jvm_step X1.here [X1.here.top, hx, (hb hby dc_p16_m7_4), X1.method', Bd.returns, Value.isRef, FieldType.isReference]
    first | (intro acts; rw [hr _ acts rfl rfl rfl]) | rw [hr _ _ rfl rfl rfl]
    exact Steps.refl _
  · show QrmH0 Z a h0 n0 (some .null) T1.heap _
    rw [e1]
    exact ⟨rfl, rfl, rfl⟩
theorem dc_p16_m8_0 : decode prog_16_method_8_code 0 = .ok (.aload_n 0, 1) := by decide +kernel
theorem dc_p16_m8_1 : decode prog_16_method_8_code 1 = .ok (.getfield 47, 3) := by decide +kernel
theorem dc_p16_m8_4 : decode prog_16_method_8_code 4 = .ok (.areturn, 1) := by decide +kernel
theorem ef_rmH1 (mm_ : MethodId) (a : Addr) : entryFrame mm_ #[(.ref a)] 1 = (mkF mm_ 0 #[.val (.ref a)] []) := by first | (simp [entryFrame, mkF, argsToLocals, Value.category]; done) | rfl
def QrmH1 (Z : State) (a : Addr) (h0 : Heap) (n0 : Nat) (vv_ : Option Value) (hh_ : Heap) (LL_ : List Loc) : Prop := (vv_ = some .null) ∧ (LL_ = []) ∧ (hh_ = h0)
set_option maxRecDepth 65536 in
set_option maxHeartbeats 40000000 in
theorem rmH1 (l : Launch) (Z : State) (a0 : Array Value) (hw : ∀ d ∈ tables_1, d.before a0 Z = true) (ws : List Jvm.Cond) (a : Addr) (h0 : Heap) (n0 : Nat) (O0 : Old Z n0 h0) (pr0 : Fld Z h0 a "com/example/malipo/malipo/core/ledger/Payment" "serverId" "Ljava/lang/String;" .null) :
    MetFree l (⟨"com/example/malipo/malipo/core/ledger/Payment", "getServerId", "()Ljava/lang/String;"⟩ : MethodName) (head1 (Jvm.Cond.code (⟨"com/example/malipo/malipo/core/ledger/Payment", "getServerId", "()Ljava/lang/String;"⟩ : MethodName) prog_16_method_8_code 1 (some (.object "java/lang/String")) :: ws) ({ frames := 0, cells := 0, slots := 0, locals := 0 } : Room)) (fun aa_ UU_ => aa_ = #[(.ref a)] ∧ Z.Warmed39 UU_.vm ∧ UU_.heap = h0) (fun _ _ _ _ _ => True) (fun _ UU_ oo_ UV_ => ∃ vv_ LL_, oo_ = .returned vv_ ∧ QrmH1 Z a h0 n0 vv_ UV_.heap LL_ ∧ FrameEnd UU_ oo_ UV_ LL_ ({ frames := 0, cells := 0, slots := 0, locals := 0 } : Room).cells ({ frames := 0, cells := 0, slots := 0, locals := 0 } : Room).slots) := by
  refine MetFree.of_bodySF (plainFor_of_name pn_com_example_malipo_malipo_core_ledger_Payment) hisR ?_
  intro pp_ ee_ ss_ mm_ args_ bb_ me_ cc_ s₁ Bd hml0 hP hK
  obtain ⟨rfl, hZ, hh⟩ := hP
  have hx := Bd.exec
  have hby := Bd.bytes
  have hml : cc_.maxLocals = 1 := hml0
  have hown : ss_.vm.findClass "com/example/malipo/malipo/core/ledger/Payment" = some mm_.cls := findClass_of_methodNamed Bd.named
  have hnm := (name_of_methodNamed Bd.named Bd.method).1
  have X0 : Stand pp_ l ee_ ({ frames := 0, cells := 0, slots := 0, locals := 0 } : Room) ss_ mm_ #[(.ref a)] bb_ me_ cc_ s₁ [] 0 0 := Stand.of_body Bd
  have e0 : s₁.heap = h0 := by rw [← hh, Bd.state]; rfl
  have N0 := Fr.nil n0
  show own_Go pp_ ee_ bb_ (fun s₂ oo_ => s₂.status = .running ∧ Ended s₂ bb_ oo_ ∧ (∃ vv_ LL_, oo_ = .returned vv_ ∧ QrmH1 Z a h0 n0 vv_ s₂.heap LL_ ∧ FrameEnd ss_ oo_ s₂ LL_ ({ frames := 0, cells := 0, slots := 0, locals := 0 } : Room).cells ({ frames := 0, cells := 0, slots := 0, locals := 0 } : Room).slots)) s₁ (entryFrame mm_ #[(.ref a)] 1)
  refine own_cast (ef_rmH1 mm_ a) ?_
  have Z0 : n0 ≤ h0.size := by have q := O0.2.1; rw [O0.1] at q; exact q
  have K0 : Keep h0 h0 [] := Keep.refl _ _
  show own_Go _ _ _ _ s₁ (mkF mm_ 0 #[.val (.ref a)] [])
  refine own_step (fun t_ k_ => XS.aloadN X0.here hx rfl (hb hby dc_p16_m8_0) rfl rfl k_) ?_
  show own_Go _ _ _ _ s₁ (mkF mm_ 1 #[.val (.ref a)] [(.ref a)])
  obtain ⟨T1, X1, e1, st1⟩ := getF X0 hx hZ hown (host := "") (Or.inl (own_w hw 92 rfl)) Via.refl e0 pr0 (g := (mkF mm_ 1 #[.val (.ref a)] [(.ref a)])) rfl rfl (hb hby dc_p16_m8_1)
  refine own_step st1 ?_
  show own_Go _ _ _ _ T1 (mkF mm_ 4 #[.val (.ref a)] [.null])
  obtain ⟨fs, hr, hrun, hended, hW, hsame⟩ := X1.leave (v := some .null) (fun h => by rw [Bd.returns] at h; cases h)
  refine ⟨_, _, ?_, hrun, hended, _, _, rfl, ?_, ⟨_, rfl⟩, hW, hsame.mono (by decide) (by decide)⟩
  · jvm_step X1.here [X1.here.top, hx, (hb hby dc_p16_m8_4), X1.method', Bd.returns, Value.isRef, FieldType.isReference]
    first | (intro acts; rw [hr _ acts rfl rfl rfl]) | rw [hr _ _ rfl rfl rfl]
    exact Steps.refl _
  · show QrmH1 Z a h0 n0 (some .null) T1.heap _
    rw [e1]
    exact ⟨rfl, rfl, rfl⟩
theorem dc_p16_m9_0 : decode prog_16_method_9_code 0 = .ok (.aload_n 0, 1) := by decide +kernel
theorem dc_p16_m9_1 : decode prog_16_method_9_code 1 = .ok (.getfield 51, 3) := by decide +kernel
theorem dc_p16_m9_4 : decode prog_16_method_9_code 4 = .ok (.areturn, 1) := by decide +kernel
theorem ef_rmH2 (mm_ : MethodId) (a : Addr) : entryFrame mm_ #[(.ref a)] 1 = (mkF mm_ 0 #[.val (.ref a)] []) := by first | (simp [entryFrame, mkF, argsToLocals, Value.category]; done) | rfl
def QrmH2 (Z : State) (a : Addr) (h0 : Heap) (n0 : Nat) (vv_ : Option Value) (hh_ : Heap) (LL_ : List Loc) : Prop := (vv_ = some .null) ∧ (LL_ = []) ∧ (hh_ = h0)
set_option maxRecDepth 65536 in
set_option maxHeartbeats 40000000 in
theorem rmH2 (l : Launch) (Z : State) (a0 : Array Value) (hw : ∀ d ∈ tables_1, d.before a0 Z = true) (ws : List Jvm.Cond) (a : Addr) (h0 : Heap) (n0 : Nat) (O0 : Old Z n0 h0) (pr0 : Fld Z h0 a "com/example/malipo/malipo/core/ledger/Payment" "paidAt" "Ljava/lang/String;" .null) :
    MetFree l (⟨"com/example/malipo/malipo/core/ledger/Payment", "getPaidAt", "()Ljava/lang/String;"⟩ : MethodName) (head1 (Jvm.Cond.code (⟨"com/example/malipo/malipo/core/ledger/Payment", "getPaidAt", "()Ljava/lang/String;"⟩ : MethodName) prog_16_method_9_code 1 (some (.object "java/lang/String")) :: ws) ({ frames := 0, cells := 0, slots := 0, locals := 0 } : Room)) (fun aa_ UU_ => aa_ = #[(.ref a)] ∧ Z.Warmed39 UU_.vm ∧ UU_.heap = h0) (fun _ _ _ _ _ => True) (fun _ UU_ oo_ UV_ => ∃ vv_ LL_, oo_ = .returned vv_ ∧ QrmH2 Z a h0 n0 vv_ UV_.heap LL_ ∧ FrameEnd UU_ oo_ UV_ LL_ ({ frames := 0, cells := 0, slots := 0, locals := 0 } : Room).cells ({ frames := 0, cells := 0, slots := 0, locals := 0 } : Room).slots) := by
  refine MetFree.of_bodySF (plainFor_of_name pn_com_example_malipo_malipo_core_ledger_Payment) hisR ?_
  intro pp_ ee_ ss_ mm_ args_ bb_ me_ cc_ s₁ Bd hml0 hP hK
  obtain ⟨rfl, hZ, hh⟩ := hP
  have hx := Bd.exec
  have hby := Bd.bytes
  have hml : cc_.maxLocals = 1 := hml0
  have hown : ss_.vm.findClass "com/example/malipo/malipo/core/ledger/Payment" = some mm_.cls := findClass_of_methodNamed Bd.named
  have hnm := (name_of_methodNamed Bd.named Bd.method).1
  have X0 : Stand pp_ l ee_ ({ frames := 0, cells := 0, slots := 0, locals := 0 } : Room) ss_ mm_ #[(.ref a)] bb_ me_ cc_ s₁ [] 0 0 := Stand.of_body Bd
  have e0 : s₁.heap = h0 := by rw [← hh, Bd.state]; rfl
  have N0 := Fr.nil n0
  show own_Go pp_ ee_ bb_ (fun s₂ oo_ => s₂.status = .running ∧ Ended s₂ bb_ oo_ ∧ (∃ vv_ LL_, oo_ = .returned vv_ ∧ QrmH2 Z a h0 n0 vv_ s₂.heap LL_ ∧ FrameEnd ss_ oo_ s₂ LL_ ({ frames := 0, cells := 0, slots := 0, locals := 0 } : Room).cells ({ frames := 0, cells := 0, slots := 0, locals := 0 } : Room).slots)) s₁ (entryFrame mm_ #[(.ref a)] 1)
  refine own_cast (ef_rmH2 mm_ a) ?_
  have Z0 : n0 ≤ h0.size := by have q := O0.2.1; rw [O0.1] at q; exact q
  have K0 : Keep h0 h0 [] := Keep.refl _ _
  show own_Go _ _ _ _ s₁ (mkF mm_ 0 #[.val (.ref a)] [])
  refine own_step (fun t_ k_ => XS.aloadN X0.here hx rfl (hb hby dc_p16_m9_0) rfl rfl k_) ?_
  show own_Go _ _ _ _ s₁ (mkF mm_ 1 #[.val (.ref a)] [(.ref a)])
  obtain ⟨T1, X1, e1, st1⟩ := getF X0 hx hZ hown (host := "") (Or.inl (own_w hw 96 rfl)) Via.refl e0 pr0 (g := (mkF mm_ 1 #[.val (.ref a)] [(.ref a)])) rfl rfl (hb hby dc_p16_m9_1)
  refine own_step st1 ?_
  show own_Go _ _ _ _ T1 (mkF mm_ 4 #[.val (.ref a)] [.null])
  obtain ⟨fs, hr, hrun, hended, hW, hsame⟩ := X1.leave (v := some .null) (fun h => by rw [Bd.returns] at h; cases h)
  refine ⟨_, _, ?_, hrun, hended, _, _, rfl, ?_, ⟨_, rfl⟩, hW, hsame.mono (by decide) (by decide)⟩
  · jvm_step X1.here [X1.here.top, hx, (hb hby dc_p16_m9_4), X1.method', Bd.returns, Value.isRef, FieldType.isReference]
    first | (intro acts; rw [hr _ acts rfl rfl rfl]) | rw [hr _ _ rfl rfl rfl]
    exact Steps.refl _
  · show QrmH2 Z a h0 n0 (some .null) T1.heap _
    rw [e1]
    exact ⟨rfl, rfl, rfl⟩
theorem dc_p16_m10_0 : decode prog_16_method_10_code 0 = .ok (.aload_n 0, 1) := by decide +kernel
theorem dc_p16_m10_1 : decode prog_16_method_10_code 1 = .ok (.getfield 55, 3) := by decide +kernel
theorem dc_p16_m10_4 : decode prog_16_method_10_code 4 = .ok (.areturn, 1) := by decide +kernel
theorem ef_rmH3 (mm_ : MethodId) (a : Addr) : entryFrame mm_ #[(.ref a)] 1 = (mkF mm_ 0 #[.val (.ref a)] []) := by first | (simp [entryFrame, mkF, argsToLocals, Value.category]; done) | rfl
def QrmH3 (Z : State) (a : Addr) (h0 : Heap) (n0 : Nat) (vv_ : Option Value) (hh_ : Heap) (LL_ : List Loc) : Prop := (vv_ = some .null) ∧ (LL_ = []) ∧ (hh_ = h0)
set_option maxRecDepth 65536 in
set_option maxHeartbeats 40000000 in
theorem rmH3 (l : Launch) (Z : State) (a0 : Array Value) (hw : ∀ d ∈ tables_1, d.before a0 Z = true) (ws : List Jvm.Cond) (a : Addr) (h0 : Heap) (n0 : Nat) (O0 : Old Z n0 h0) (pr0 : Fld Z h0 a "com/example/malipo/malipo/core/ledger/Payment" "extend" "Ljava/lang/String;" .null) :
    MetFree l (⟨"com/example/malipo/malipo/core/ledger/Payment", "getExtend", "()Ljava/lang/String;"⟩ : MethodName) (head1 (Jvm.Cond.code (⟨"com/example/malipo/malipo/core/ledger/Payment", "getExtend", "()Ljava/lang/String;"⟩ : MethodName) prog_16_method_10_code 1 (some (.object "java/lang/String")) :: ws) ({ frames := 0, cells := 0, slots := 0, locals := 0 } : Room)) (fun aa_ UU_ => aa_ = #[(.ref a)] ∧ Z.Warmed39 UU_.vm ∧ UU_.heap = h0) (fun _ _ _ _ _ => True) (fun _ UU_ oo_ UV_ => ∃ vv_ LL_, oo_ = .returned vv_ ∧ QrmH3 Z a h0 n0 vv_ UV_.heap LL_ ∧ FrameEnd UU_ oo_ UV_ LL_ ({ frames := 0, cells := 0, slots := 0, locals := 0 } : Room).cells ({ frames := 0, cells := 0, slots := 0, locals := 0 } : Room).slots) := by
  refine MetFree.of_bodySF (plainFor_of_name pn_com_example_malipo_malipo_core_ledger_Payment) hisR ?_
  intro pp_ ee_ ss_ mm_ args_ bb_ me_ cc_ s₁ Bd hml0 hP hK
  obtain ⟨rfl, hZ, hh⟩ := hP
  have hx := Bd.exec
  have hby := Bd.bytes
  have hml : cc_.maxLocals = 1 := hml0
  have hown : ss_.vm.findClass "com/example/malipo/malipo/core/ledger/Payment" = some mm_.cls := findClass_of_methodNamed Bd.named
  have hnm := (name_of_methodNamed Bd.named Bd.method).1
  have X0 : Stand pp_ l ee_ ({ frames := 0, cells := 0, slots := 0, locals := 0 } : Room) ss_ mm_ #[(.ref a)] bb_ me_ cc_ s₁ [] 0 0 := Stand.of_body Bd
  have e0 : s₁.heap = h0 := by rw [← hh, Bd.state]; rfl
  have N0 := Fr.nil n0
  show own_Go pp_ ee_ bb_ (fun s₂ oo_ => s₂.status = .running ∧ Ended s₂ bb_ oo_ ∧ (∃ vv_ LL_, oo_ = .returned vv_ ∧ QrmH3 Z a h0 n0 vv_ s₂.heap LL_ ∧ FrameEnd ss_ oo_ s₂ LL_ ({ frames := 0, cells := 0, slots := 0, locals := 0 } : Room).cells ({ frames := 0, cells := 0, slots := 0, locals := 0 } : Room).slots)) s₁ (entryFrame mm_ #[(.ref a)] 1)
  refine own_cast (ef_rmH3 mm_ a) ?_
  have Z0 : n0 ≤ h0.size := by have q := O0.2.1; rw [O0.1] at q; exact q
  have K0 : Keep h0 h0 [] := Keep.refl _ _
  show own_Go _ _ _ _ s₁ (mkF mm_ 0 #[.val (.ref a)] [])
  refine own_step (fun t_ k_ => XS.aloadN X0.here hx rfl (hb hby dc_p16_m10_0) rfl rfl k_) ?_
  show own_Go _ _ _ _ s₁ (mkF mm_ 1 #[.val (.ref a)] [(.ref a)])
  obtain ⟨T1, X1, e1, st1⟩ := getF X0 hx hZ hown (host := "") (Or.inl (own_w hw 100 rfl)) Via.refl e0 pr0 (g := (mkF mm_ 1 #[.val (.ref a)] [(.ref a)])) rfl rfl (hb hby dc_p16_m10_1)
  refine own_step st1 ?_
  show own_Go _ _ _ _ T1 (mkF mm_ 4 #[.val (.ref a)] [.null])
  obtain ⟨fs, hr, hrun, hended, hW, hsame⟩ := X1.leave (v := some .null) (fun h => by rw [Bd.returns] at h; cases h)
  refine ⟨_, _, ?_, hrun, hended, _, _, rfl, ?_, ⟨_, rfl⟩, hW, hsame.mono (by decide) (by decide)⟩
  · jvm_step X1.here [X1.here.top, hx, (hb hby dc_p16_m10_4), X1.method', Bd.returns, Value.isRef, FieldType.isReference]
    first | (intro acts; rw [hr _ acts rfl rfl rfl]) | rw [hr _ _ rfl rfl rfl]
    exact Steps.refl _
  · show QrmH3 Z a h0 n0 (some .null) T1.heap _
    rw [e1]
    exact ⟨rfl, rfl, rfl⟩
theorem dc_p16_m11_0 : decode prog_16_method_11_code 0 = .ok (.aload_n 0, 1) := by decide +kernel
theorem dc_p16_m11_1 : decode prog_16_method_11_code 1 = .ok (.getfield 60, 3) := by decide +kernel
theorem dc_p16_m11_4 : decode prog_16_method_11_code 4 = .ok (.areturn, 1) := by decide +kernel
theorem ef_rmH4 (mm_ : MethodId) (a : Addr) : entryFrame mm_ #[(.ref a)] 1 = (mkF mm_ 0 #[.val (.ref a)] []) := by first | (simp [entryFrame, mkF, argsToLocals, Value.category]; done) | rfl
def QrmH4 (Z : State) (a : Addr) (h0 : Heap) (n0 : Nat) (vv_ : Option Value) (hh_ : Heap) (LL_ : List Loc) : Prop := (vv_ = some .null) ∧ (LL_ = []) ∧ (hh_ = h0)
set_option maxRecDepth 65536 in
set_option maxHeartbeats 40000000 in
theorem rmH4 (l : Launch) (Z : State) (a0 : Array Value) (hw : ∀ d ∈ tables_1, d.before a0 Z = true) (ws : List Jvm.Cond) (a : Addr) (h0 : Heap) (n0 : Nat) (O0 : Old Z n0 h0) (pr0 : Fld Z h0 a "com/example/malipo/malipo/core/ledger/Payment" "count" "Ljava/lang/Long;" .null) :
    MetFree l (⟨"com/example/malipo/malipo/core/ledger/Payment", "getCount", "()Ljava/lang/Long;"⟩ : MethodName) (head1 (Jvm.Cond.code (⟨"com/example/malipo/malipo/core/ledger/Payment", "getCount", "()Ljava/lang/Long;"⟩ : MethodName) prog_16_method_11_code 1 (some (.object "java/lang/Long")) :: ws) ({ frames := 0, cells := 0, slots := 0, locals := 0 } : Room)) (fun aa_ UU_ => aa_ = #[(.ref a)] ∧ Z.Warmed39 UU_.vm ∧ UU_.heap = h0) (fun _ _ _ _ _ => True) (fun _ UU_ oo_ UV_ => ∃ vv_ LL_, oo_ = .returned vv_ ∧ QrmH4 Z a h0 n0 vv_ UV_.heap LL_ ∧ FrameEnd UU_ oo_ UV_ LL_ ({ frames := 0, cells := 0, slots := 0, locals := 0 } : Room).cells ({ frames := 0, cells := 0, slots := 0, locals := 0 } : Room).slots) := by
  refine MetFree.of_bodySF (plainFor_of_name pn_com_example_malipo_malipo_core_ledger_Payment) hisR ?_
  intro pp_ ee_ ss_ mm_ args_ bb_ me_ cc_ s₁ Bd hml0 hP hK
  obtain ⟨rfl, hZ, hh⟩ := hP
  have hx := Bd.exec
  have hby := Bd.bytes
  have hml : cc_.maxLocals = 1 := hml0
  have hown : ss_.vm.findClass "com/example/malipo/malipo/core/ledger/Payment" = some mm_.cls := findClass_of_methodNamed Bd.named
  have hnm := (name_of_methodNamed Bd.named Bd.method).1
  have X0 : Stand pp_ l ee_ ({ frames := 0, cells := 0, slots := 0, locals := 0 } : Room) ss_ mm_ #[(.ref a)] bb_ me_ cc_ s₁ [] 0 0 := Stand.of_body Bd
  have e0 : s₁.heap = h0 := by rw [← hh, Bd.state]; rfl
  have N0 := Fr.nil n0
  show own_Go pp_ ee_ bb_ (fun s₂ oo_ => s₂.status = .running ∧ Ended s₂ bb_ oo_ ∧ (∃ vv_ LL_, oo_ = .returned vv_ ∧ QrmH4 Z a h0 n0 vv_ s₂.heap LL_ ∧ FrameEnd ss_ oo_ s₂ LL_ ({ frames := 0, cells := 0, slots := 0, locals := 0 } : Room).cells ({ frames := 0, cells := 0, slots := 0, locals := 0 } : Room).slots)) s₁ (entryFrame mm_ #[(.ref a)] 1)
  refine own_cast (ef_rmH4 mm_ a) ?_
  have Z0 : n0 ≤ h0.size := by have q := O0.2.1; rw [O0.1] at q; exact q
  have K0 : Keep h0 h0 [] := Keep.refl _ _
  show own_Go _ _ _ _ s₁ (mkF mm_ 0 #[.val (.ref a)] [])
  refine own_step (fun t_ k_ => XS.aloadN X0.here hx rfl (hb hby dc_p16_m11_0) rfl rfl k_) ?_
  show own_Go _ _ _ _ s₁ (mkF mm_ 1 #[.val (.ref a)] [(.ref a)])
  obtain ⟨T1, X1, e1, st1⟩ := getF X0 hx hZ hown (host := "") (Or.inl (own_w hw 104 rfl)) Via.refl e0 pr0 (g := (mkF mm_ 1 #[.val (.ref a)] [(.ref a)])) rfl rfl (hb hby dc_p16_m11_1)
  refine own_step st1 ?_
  show own_Go _ _ _ _ T1 (mkF mm_ 4 #[.val (.ref a)] [.null])
  obtain ⟨fs, hr, hrun, hended, hW, hsame⟩ := X1.leave (v := some .null) (fun h => by rw [Bd.returns] at h; cases h)
  refine ⟨_, _, ?_, hrun, hended, _, _, rfl, ?_, ⟨_, rfl⟩, hW, hsame.mono (by decide) (by decide)⟩
  · jvm_step X1.here [X1.here.top, hx, (hb hby dc_p16_m11_4), X1.method', Bd.returns, Value.isRef, FieldType.isReference]
    first | (intro acts; rw [hr _ acts rfl rfl rfl]) | rw [hr _ _ rfl rfl rfl]
    exact Steps.refl _
  · show QrmH4 Z a h0 n0 (some .null) T1.heap _
    rw [e1]
    exact ⟨rfl, rfl, rfl⟩
theorem dc_p16_m12_0 : decode prog_16_method_12_code 0 = .ok (.aload_n 0, 1) := by decide +kernel
theorem dc_p16_m12_1 : decode prog_16_method_12_code 1 = .ok (.getfield 64, 3) := by decide +kernel
theorem dc_p16_m12_4 : decode prog_16_method_12_code 4 = .ok (.areturn, 1) := by decide +kernel
theorem ef_rmH5 (mm_ : MethodId) (a : Addr) : entryFrame mm_ #[(.ref a)] 1 = (mkF mm_ 0 #[.val (.ref a)] []) := by first | (simp [entryFrame, mkF, argsToLocals, Value.category]; done) | rfl
def QrmH5 (Z : State) (a : Addr) (h0 : Heap) (n0 : Nat) (vv_ : Option Value) (hh_ : Heap) (LL_ : List Loc) : Prop := (vv_ = some .null) ∧ (LL_ = []) ∧ (hh_ = h0)
set_option maxRecDepth 65536 in
set_option maxHeartbeats 40000000 in
theorem rmH5 (l : Launch) (Z : State) (a0 : Array Value) (hw : ∀ d ∈ tables_1, d.before a0 Z = true) (ws : List Jvm.Cond) (a : Addr) (h0 : Heap) (n0 : Nat) (O0 : Old Z n0 h0) (pr0 : Fld Z h0 a "com/example/malipo/malipo/core/ledger/Payment" "couponDeduction" "Ljava/lang/Long;" .null) :
    MetFree l (⟨"com/example/malipo/malipo/core/ledger/Payment", "getCouponDeduction", "()Ljava/lang/Long;"⟩ : MethodName) (head1 (Jvm.Cond.code (⟨"com/example/malipo/malipo/core/ledger/Payment", "getCouponDeduction", "()Ljava/lang/Long;"⟩ : MethodName) prog_16_method_12_code 1 (some (.object "java/lang/Long")) :: ws) ({ frames := 0, cells := 0, slots := 0, locals := 0 } : Room)) (fun aa_ UU_ => aa_ = #[(.ref a)] ∧ Z.Warmed39 UU_.vm ∧ UU_.heap = h0) (fun _ _ _ _ _ => True) (fun _ UU_ oo_ UV_ => ∃ vv_ LL_, oo_ = .returned vv_ ∧ QrmH5 Z a h0 n0 vv_ UV_.heap LL_ ∧ FrameEnd UU_ oo_ UV_ LL_ ({ frames := 0, cells := 0, slots := 0, locals := 0 } : Room).cells ({ frames := 0, cells := 0, slots := 0, locals := 0 } : Room).slots) := by
  refine MetFree.of_bodySF (plainFor_of_name pn_com_example_malipo_malipo_core_ledger_Payment) hisR ?_
  intro pp_ ee_ ss_ mm_ args_ bb_ me_ cc_ s₁ Bd hml0 hP hK
  obtain ⟨rfl, hZ, hh⟩ := hP
  have hx := Bd.exec
  have hby := Bd.bytes
  have hml : cc_.maxLocals = 1 := hml0
  have hown : ss_.vm.findClass "com/example/malipo/malipo/core/ledger/Payment" = some mm_.cls := findClass_of_methodNamed Bd.named
  have hnm := (name_of_methodNamed Bd.named Bd.method).1
  have X0 : Stand pp_ l ee_ ({ frames := 0, cells := 0, slots := 0, locals := 0 } : Room) ss_ mm_ #[(.ref a)] bb_ me_ cc_ s₁ [] 0 0 := Stand.of_body Bd
  have e0 : s₁.heap = h0 := by rw [← hh, Bd.state]; rfl
  have N0 := Fr.nil n0
  show own_Go pp_ ee_ bb_ (fun s₂ oo_ => s₂.status = .running ∧ Ended s₂ bb_ oo_ ∧ (∃ vv_ LL_, oo_ = .returned vv_ ∧ QrmH5 Z a h0 n0 vv_ s₂.heap LL_ ∧ FrameEnd ss_ oo_ s₂ LL_ ({ frames := 0, cells := 0, slots := 0, locals := 0 } : Room).cells ({ frames := 0, cells := 0, slots := 0, locals := 0 } : Room).slots)) s₁ (entryFrame mm_ #[(.ref a)] 1)
  refine own_cast (ef_rmH5 mm_ a) ?_
  have Z0 : n0 ≤ h0.size := by have q := O0.2.1; rw [O0.1] at q; exact q
  have K0 : Keep h0 h0 [] := Keep.refl _ _
  show own_Go _ _ _ _ s₁ (mkF mm_ 0 #[.val (.ref a)] [])
  refine own_step (fun t_ k_ => XS.aloadN X0.here hx rfl (hb hby dc_p16_m12_0) rfl rfl k_) ?_
  show own_Go _ _ _ _ s₁ (mkF mm_ 1 #[.val (.ref a)] [(.ref a)])
  obtain ⟨T1, X1, e1, st1⟩ := getF X0 hx hZ hown (host := "") (Or.inl (own_w hw 108 rfl)) Via.refl e0 pr0 (g := (mkF mm_ 1 #[.val (.ref a)] [(.ref a)])) rfl rfl (hb hby dc_p16_m12_1)
  refine own_step st1 ?_
  show own_Go _ _ _ _ T1 (mkF mm_ 4 #[.val (.ref a)] [.null])
  obtain ⟨fs, hr, hrun, hended, hW, hsame⟩ := X1.leave (v := some .null) (fun h => by rw [Bd.returns] at h; cases h)
  refine ⟨_, _, ?_, hrun, hended, _, _, rfl, ?_, ⟨_, rfl⟩, hW, hsame.mono (by decide) (by decide)⟩
  · jvm_step X1.here [X1.here.top, hx, (hb hby dc_p16_m12_4), X1.method', Bd.returns, Value.isRef, FieldType.isReference]
    first | (intro acts; rw [hr _ acts rfl rfl rfl]) | rw [hr _ _ rfl rfl rfl]
    exact Steps.refl _
  · show QrmH5 Z a h0 n0 (some .null) T1.heap _
    rw [e1]
    exact ⟨rfl, rfl, rfl⟩
theorem pd_4 : parseMethodDescriptor "(I)Ljava/lang/String;" = some ⟨[.int], some (.object "java/lang/String")⟩ := by decide +kernel
theorem pd_5 : parseMethodDescriptor "(Ljava/lang/String;Ljava/lang/String;Ljava/lang/String;J)Lcom/example/malipo/malipo/core/ledger/Payment$Builder;" = some ⟨[(.object "java/lang/String"), (.object "java/lang/String"), (.object "java/lang/String"), .long], some (.object "com/example/malipo/malipo/core/ledger/Payment$Builder")⟩ := by decide +kernel
theorem pd_6 : parseMethodDescriptor "()Lcom/example/malipo/malipo/core/ledger/Payment;" = some ⟨[], some (.object "com/example/malipo/malipo/core/ledger/Payment")⟩ := by decide +kernel
theorem pd_7 : parseMethodDescriptor "()Ljava/lang/String;" = some ⟨[], some (.object "java/lang/String")⟩ := by decide +kernel
theorem pd_8 : parseMethodDescriptor "(Ljava/lang/Object;)Z" = some ⟨[(.object "java/lang/Object")], some .boolean⟩ := by decide +kernel
theorem pd_9 : parseMethodDescriptor "()J" = some ⟨[], some .long⟩ := by decide +kernel
theorem pd_10 : parseMethodDescriptor "()Ljava/lang/Long;" = some ⟨[], some (.object "java/lang/Long")⟩ := by decide +kernel
theorem ef_rm0 (mm_ : MethodId) (p1 : Int32) (p2 : Int32) (p3 : Int32) (q : Int64) : entryFrame mm_ #[(.int p1), (.int p2), (.int p3), (.long q)] maxLocals = (mkF mm_ 0 #[.val (.int p1), .val (.int p2), .val (.int p3), .val (.long q), .second, .unset, .unset, .unset, .unset] []) := by first | (simp [entryFrame, mkF, argsToLocals, Value.category, maxLocals]; done) | rfl
def Qrm0 (Z : State) (p1 : Int32) (p2 : Int32) (p3 : Int32) (q : Int64) (h0 : Heap) (n0 : Nat) (vv_ : Option Value) (hh_ : Heap) (LL_ : List Loc) : Prop := (vv_ = some (.int (1 : Int32))) ∧ (Fr n0 LL_) ∧ (Keep h0 hh_ [])
set_option maxRecDepth 65536 in
set_option maxHeartbeats 40000000 in
theorem rm0 (l : Launch) (Z : State) (a0 : Array Value) (hw : ∀ d ∈ tables_1, d.before a0 Z = true) (ws : List Jvm.Cond) (p1 : Int32) (p2 : Int32) (p3 : Int32) (q : Int64) {zc : Int32} (h0 : Heap) (n0 : Nat) (O0 : Old Z n0 h0) (G_ : own_St Z zc) :
    MetFree l x (head1 (Jvm.Cond.code x code maxLocals ret :: ws) room_1) (fun aa_ UU_ => aa_ = #[(.int p1), (.int p2), (.int p3), (.long q)] ∧ Z.Warmed39 UU_.vm ∧ UU_.heap = h0) (fun _ _ _ _ _ => True) (fun _ UU_ oo_ UV_ => ∃ vv_ LL_, oo_ = .returned vv_ ∧ Qrm0 Z p1 p2 p3 q h0 n0 vv_ UV_.heap LL_ ∧ ReturnedEndW UU_ oo_ UV_ LL_ room_1.cells room_1.slots) := by
  refine MetFree.of_bodySF (plainFor_of_name pn_com_example_malipo_malipo_core_ledger_PaymentBuilderPinLaw) hisR ?_
  intro pp_ ee_ ss_ mm_ args_ bb_ me_ cc_ s₁ Bd hml0 hP hK
  obtain ⟨rfl, hZ, hh⟩ := hP
  have hx := Bd.exec
  have hby := Bd.bytes
  have hml : cc_.maxLocals = 9 := hml0
  have hown : ss_.vm.findClass "com/example/malipo/malipo/core/ledger/PaymentBuilderPinLaw" = some mm_.cls := findClass_of_methodNamed Bd.named
  have hnm := (name_of_methodNamed Bd.named Bd.method).1
  have X0 : Stand pp_ l ee_ room_1 ss_ mm_ #[(.int p1), (.int p2), (.int p3), (.long q)] bb_ me_ cc_ s₁ [] 0 0 := Stand.of_body Bd
  have e0 : s₁.heap = h0 := by rw [← hh, Bd.state]; rfl
  have N0 := Fr.nil n0
  have X0 : Stand pp_ l ee_ _ (ss_.setVm ss_.vm) mm_ _ bb_ me_ cc_ s₁ [] 0 0 := X0
  have hZ : Z.Warmed39 (ss_.setVm ss_.vm).vm := hZ
  have hown : (ss_.setVm ss_.vm).vm.findClass "com/example/malipo/malipo/core/ledger/PaymentBuilderPinLaw" = some mm_.cls := hown
  have hS0 : ss_.Since ss_.vm 0 := (State.WarmedH.refl ss_).since 0
  have hkeep_ : ∀ (b : Addr) (cl : Cell), Z.heap[b]? = some cl → ss_.heap[b]? = some cl := by rw [hh]; exact O0.2.2
  have own_atoms_ : ∀ a ∈ Bundle.stringAtoms, a.before a0 Z = true := fun d hd => hw d ((by decide +kernel : ∀ d ∈ Bundle.stringAtoms, d ∈ tables_1) d hd)
  show own_Go pp_ ee_ bb_ (fun s₂ oo_ => s₂.status = .running ∧ Ended s₂ bb_ oo_ ∧ (∃ vv_ LL_, oo_ = .returned vv_ ∧ Qrm0 Z p1 p2 p3 q h0 n0 vv_ s₂.heap LL_ ∧ ReturnedEndW ss_ oo_ s₂ LL_ room_1.cells room_1.slots)) s₁ (entryFrame mm_ #[(.int p1), (.int p2), (.int p3), (.long q)] maxLocals)
  refine own_cast (ef_rm0 mm_ p1 p2 p3 q) ?_
  have Z0 : n0 ≤ h0.size := by have q := O0.2.1; rw [O0.1] at q; exact q
  have K0 : Keep h0 h0 [] := Keep.refl _ _
  obtain ⟨G_cs, G_cs0⟩ := id G_
  show own_Go _ _ _ _ s₁ (mkF mm_ 0 #[.val (.int p1), .val (.int p2), .val (.int p3), .val (.long q), .second, .unset, .unset, .unset, .unset] [])
  refine own_step (fun t_ k_ => XS.iloadN X0.here hx rfl (hb hby at_0) rfl  k_) ?_
  show own_Go _ _ _ _ s₁ (mkF mm_ 1 #[.val (.int p1), .val (.int p2), .val (.int p3), .val (.long q), .second, .unset, .unset, .unset, .unset] [(.int p1)])
  obtain ⟨_, T1, Lc1, X1, hQ1, st1⟩ := own_cS X0 hx hZ hown (own_w hw 0 rfl) (own_w hw 1 rfl) (own_w hw 2 rfl) (own_w hw 3 rfl) (by decide) (backOf (W := 0) (rmS l Z a0 hw [] p1 h0 n0 O0 G_ ) hZ (own_w hw 3 rfl) (own_w hw 2 rfl) (by decide) (by decide)) (g := (mkF mm_ 1 #[.val (.int p1), .val (.int p2), .val (.int p3), .val (.long q), .second, .unset, .unset, .unset, .unset] [(.int p1)])) rfl (by rw [hml]; rfl) (argsL := [(.int p1)]) (rest := []) (lenOf pd_4 rfl) rfl (by show 2 * 0 + _ ≤ _; exact Nat.le_of_eq rfl) (hb hby at_1) rfl e0 (by decide) (by decide)
  obtain ⟨r_1, t_1, cs_1, rfl, Nq1, Kc1, r1_0, r1_1⟩ := hQ1
  have N1 := Fr.app N0 Nq1
  have lo_r_1 : h0.size ≤ r_1 := Nat.le_trans K0.1 r1_0
  have g_r_1 : n0 ≤ r_1 := Nat.le_trans Z0 lo_r_1
  refine own_jump st1 ?_
  show own_Go _ _ _ _ T1 (mkF mm_ 4 #[.val (.int p1), .val (.int p2), .val (.int p3), .val (.long q), .second, .unset, .unset, .unset, .unset] [(.ref r_1)])
  refine own_step (fun t_ k_ => XS.astore X1.here hx rfl (hb hby at_4) rfl rfl (l' := #[.val (.int p1), .val (.int p2), .val (.int p3), .val (.long q), .second, .val (.ref r_1), .unset, .unset, .unset]) rfl (XS.iloadN X1.here hx rfl (hb hby at_6) rfl  k_)) ?_
  show own_Go _ _ _ _ T1 (mkF mm_ 7 #[.val (.int p1), .val (.int p2), .val (.int p3), .val (.long q), .second, .val (.ref r_1), .unset, .unset, .unset] [(.int p2)])
  have O3 : Old Z n0 T1.heap := (O0.keep Kc1 all0)
  obtain ⟨_, T2, Lc2, X2, hQ2, st2⟩ := own_cS X1 hx hZ hown (own_w hw 0 rfl) (own_w hw 1 rfl) (own_w hw 2 rfl) (own_w hw 3 rfl) (by decide) (backOf (W := 0) (rmS l Z a0 hw [] p2 T1.heap n0 O3 G_ ) hZ (own_w hw 3 rfl) (own_w hw 2 rfl) (by decide) (by decide)) (g := (mkF mm_ 7 #[.val (.int p1), .val (.int p2), .val (.int p3), .val (.long q), .second, .val (.ref r_1), .unset, .unset, .unset] [(.int p2)])) rfl (by rw [hml]; rfl) (argsL := [(.int p2)]) (rest := []) (lenOf pd_4 rfl) rfl (by show 2 * 0 + _ ≤ _; exact Nat.le_of_eq rfl) (hb hby at_7) rfl rfl (by decide) (by decide)
  obtain ⟨r_2, t_2, cs_2, rfl, Nq2, Kc2, r2_0, r2_1⟩ := hQ2
  have N2 := Fr.app N1 Nq2
  have K4 : Keep h0 T1.heap [] := (K0.trans Kc1 all0)
  have lo_r_2 : h0.size ≤ r_2 := Nat.le_trans K4.1 r2_0
  have g_r_2 : n0 ≤ r_2 := Nat.le_trans Z0 lo_r_2
  refine own_jump st2 ?_
  show own_Go _ _ _ _ T2 (mkF mm_ 10 #[.val (.int p1), .val (.int p2), .val (.int p3), .val (.long q), .second, .val (.ref r_1), .unset, .unset, .unset] [(.ref r_2)])
  refine own_step (fun t_ k_ => XS.astore X2.here hx rfl (hb hby at_10) rfl rfl (l' := #[.val (.int p1), .val (.int p2), .val (.int p3), .val (.long q), .second, .val (.ref r_1), .val (.ref r_2), .unset, .unset]) rfl (XS.iloadN X2.here hx rfl (hb hby at_12) rfl  k_)) ?_
  show own_Go _ _ _ _ T2 (mkF mm_ 13 #[.val (.int p1), .val (.int p2), .val (.int p3), .val (.long q), .second, .val (.ref r_1), .val (.ref r_2), .unset, .unset] [(.int p3)])
  have O6 : Old Z n0 T2.heap := (O3.keep Kc2 all0)
  obtain ⟨_, T5, Lc5, X5, hQ5, st5⟩ := own_cS X2 hx hZ hown (own_w hw 0 rfl) (own_w hw 1 rfl) (own_w hw 2 rfl) (own_w hw 3 rfl) (by decide) (backOf (W := 0) (rmS l Z a0 hw [] p3 T2.heap n0 O6 G_ ) hZ (own_w hw 3 rfl) (own_w hw 2 rfl) (by decide) (by decide)) (g := (mkF mm_ 13 #[.val (.int p1), .val (.int p2), .val (.int p3), .val (.long q), .second, .val (.ref r_1), .val (.ref r_2), .unset, .unset] [(.int p3)])) rfl (by rw [hml]; rfl) (argsL := [(.int p3)]) (rest := []) (lenOf pd_4 rfl) rfl (by show 2 * 0 + _ ≤ _; exact Nat.le_of_eq rfl) (hb hby at_13) rfl rfl (by decide) (by decide)
  obtain ⟨r_5, t_5, cs_5, rfl, Nq5, Kc5, r5_0, r5_1⟩ := hQ5
  have N5 := Fr.app N2 Nq5
  have K7 : Keep h0 T2.heap [] := (K4.trans Kc2 all0)
  have lo_r_5 : h0.size ≤ r_5 := Nat.le_trans K7.1 r5_0
  have g_r_5 : n0 ≤ r_5 := Nat.le_trans Z0 lo_r_5
  refine own_jump st5 ?_
  show own_Go _ _ _ _ T5 (mkF mm_ 16 #[.val (.int p1), .val (.int p2), .val (.int p3), .val (.long q), .second, .val (.ref r_1), .val (.ref r_2), .unset, .unset] [(.ref r_5)])
  refine own_step (fun t_ k_ => XS.astore X5.here hx rfl (hb hby at_16) rfl rfl (l' := #[.val (.int p1), .val (.int p2), .val (.int p3), .val (.long q), .second, .val (.ref r_1), .val (.ref r_2), .val (.ref r_5), .unset]) rfl (XS.aload X5.here hx rfl (hb hby at_18) rfl rfl (XS.aload X5.here hx rfl (hb hby at_20) rfl rfl (XS.aload X5.here hx rfl (hb hby at_22) rfl rfl (XS.lloadN X5.here hx rfl (hb hby at_24) rfl  k_))))) ?_
  show own_Go _ _ _ _ T5 (mkF mm_ 25 #[.val (.int p1), .val (.int p2), .val (.int p3), .val (.long q), .second, .val (.ref r_1), .val (.ref r_2), .val (.ref r_5), .unset] [(.long q), (.ref r_5), (.ref r_2), (.ref r_1)])
  have O9 : Old Z n0 T5.heap := (O6.keep Kc5 all0)
  obtain ⟨_, T8, Lc8, X8, hQ8, st8⟩ := own_cS X5 hx hZ hown (own_w hw 34 rfl) (own_w hw 35 rfl) (own_w hw 36 rfl) (own_w hw 37 rfl) (by decide) (backOf (W := 0) (rmB l Z a0 hw [] r_1 r_2 r_5 q T5.heap n0 O9 ) hZ (own_w hw 37 rfl) (own_w hw 36 rfl) (by decide) (by decide)) (g := (mkF mm_ 25 #[.val (.int p1), .val (.int p2), .val (.int p3), .val (.long q), .second, .val (.ref r_1), .val (.ref r_2), .val (.ref r_5), .unset] [(.long q), (.ref r_5), (.ref r_2), (.ref r_1)])) rfl (by rw [hml]; rfl) (argsL := [(.ref r_1), (.ref r_2), (.ref r_5), (.long q)]) (rest := []) (lenOf pd_5 rfl) rfl (by show 2 * 0 + _ ≤ _; exact Nat.le_of_eq rfl) (hb hby at_25) rfl rfl (by decide) (by decide)
  obtain ⟨r_8, rfl, Nq8, Kc8, r8_0, r8_1, r8_2, r8_3, r8_4, r8_5, r8_6, r8_7, r8_8, r8_9, r8_10, r8_11⟩ := hQ8
  have N8 := Fr.app N5 Nq8
  have K10 : Keep h0 T5.heap [] := (K7.trans Kc5 all0)
  have lo_r_8 : h0.size ≤ r_8 := Nat.le_trans K10.1 r8_0
  have g_r_8 : n0 ≤ r_8 := Nat.le_trans Z0 lo_r_8
  refine own_jump st8 ?_
  show own_Go _ _ _ _ T8 (mkF mm_ 28 #[.val (.int p1), .val (.int p2), .val (.int p3), .val (.long q), .second, .val (.ref r_1), .val (.ref r_2), .val (.ref r_5), .unset] [(.ref r_8)])
  have f12 : own_Str Z T8.heap r_1 t_1 cs_1 := (((r1_1.keep Kc2 nin0 nin0).keep Kc5 nin0 nin0).keep Kc8 nin0 nin0)
  have f13 : own_Str Z T8.heap r_2 t_2 cs_2 := ((r2_1.keep Kc5 nin0 nin0).keep Kc8 nin0 nin0)
  have f14 : own_Str Z T8.heap r_5 t_5 cs_5 := (r5_1.keep Kc8 nin0 nin0)
  have O15 : Old Z n0 T8.heap := (O9.keep Kc8 all0)
  obtain ⟨cq11, kq11, q11a, q11b, q11c⟩ := isOf hZ rfl r8_1
  obtain ⟨_, _, ⟨T11, Lx11, kx11, nx11⟩, -, X11, hS11, hG11, ⟨Lc11, hQ11, l11, y11, z11⟩, st11⟩ := X8.virtualBackS hx (y := (⟨"com/example/malipo/malipo/core/ledger/Payment$Builder", "build", "()Lcom/example/malipo/malipo/core/ledger/Payment;"⟩ : MethodName)) (z := (⟨"com/example/malipo/malipo/core/ledger/Payment$Builder", "build", "()Lcom/example/malipo/malipo/core/ledger/Payment;"⟩ : MethodName)) hown (mvT hZ (own_w hw 53 rfl)) (mvT hZ (own_w hw 54 rfl)) (notFace_of_selects (args := #[]) (mvT hZ (own_w hw 56 rfl))) (mvT hZ (own_w hw 56 rfl)) (mvT hZ (own_w hw 55 rfl)) (by decide) (backOfS (W := 0) (rmBu l Z a0 hw [] r_8 r_1 r_2 r_5 q T8.heap n0 O15 r8_1 r8_2 r8_3 r8_4 r8_5 r8_6 r8_7 r8_8 r8_9 r8_10 r8_11 f12.1 f13.1 f14.1) hZ (own_w hw 57 rfl) (own_w hw 40 rfl) (by decide) (by decide)) q11a q11c (g := (mkF mm_ 28 #[.val (.int p1), .val (.int p2), .val (.int p3), .val (.long q), .second, .val (.ref r_1), .val (.ref r_2), .val (.ref r_5), .unset] [(.ref r_8)])) rfl (by rw [hml]; rfl) (Steps.refl _) (argsL := []) (rest := []) (lenOf pd_6 rfl) rfl (by show 2 * 0 + _ ≤ _; exact Nat.le_of_eq rfl) (hb hby at_28) (fun vm_ hvm_ => ⟨rfl, rfl, (by decide : 10 + 7 ≤ _), (by decide : 34 + 134 ≤ _)⟩)
  dsimp only [Pt.U, Pt.locs, Pt.cells, Pt.slots] at X11 l11 y11 z11 st11 hQ11 hS11 hG11
  subst l11 y11 z11
  obtain ⟨X11, hS11, hZ11, hown11⟩ := rebS (n1 := T8.heap.size) hS0 (Nat.le_trans (Nat.le_trans (Nat.le_trans (Nat.le_trans (Nat.zero_le _) Kc1.1) Kc2.1) Kc5.1) Kc8.1) X11 hS11 hG11 hZ hown
  obtain ⟨r_11, rfl, Nq11, Kc11, r11_0, r11_1, r11_2, r11_3, r11_4, r11_5, r11_6, r11_7, r11_8, r11_9, r11_10, r11_11⟩ := hQ11
  have N11 := Fr.app N8 Nq11
  have K16 : Keep h0 T8.heap [] := (K10.trans Kc8 all0)
  have lo_r_11 : h0.size ≤ r_11 := Nat.le_trans K16.1 r11_0
  have g_r_11 : n0 ≤ r_11 := Nat.le_trans Z0 lo_r_11
  refine own_jump st11 ?_
  show own_Go _ _ _ _ T11 (mkF mm_ 31 #[.val (.int p1), .val (.int p2), .val (.int p3), .val (.long q), .second, .val (.ref r_1), .val (.ref r_2), .val (.ref r_5), .unset] [(.ref r_11)])
  refine own_step (fun t_ k_ => XS.astore X11.here hx rfl (hb hby at_31) rfl rfl (l' := #[.val (.int p1), .val (.int p2), .val (.int p3), .val (.long q), .second, .val (.ref r_1), .val (.ref r_2), .val (.ref r_5), .val (.ref r_11)]) rfl (XS.aload X11.here hx rfl (hb hby at_33) rfl rfl (XS.aload X11.here hx rfl (hb hby at_35) rfl rfl k_))) ?_
  show own_Go _ _ _ _ T11 (mkF mm_ 37 #[.val (.int p1), .val (.int p2), .val (.int p3), .val (.long q), .second, .val (.ref r_1), .val (.ref r_2), .val (.ref r_5), .val (.ref r_11)] [(.ref r_11), (.ref r_1)])
  have O18 : Old Z n0 T11.heap := (O15.keep Kc11 all0)
  obtain ⟨_, T17, Lc17, X17, hQ17, st17⟩ := own_cV X11 hx hZ11 hown11 (own_w hw 110 rfl) (own_w hw 111 rfl) (notFace_of_selects (args := #[]) (mvT hZ11 (own_w hw 113 rfl))) (own_w hw 113 rfl) (own_w hw 112 rfl) (by decide) (backOf (W := 1) (rmG0 l Z a0 hw [] r_11 r_1 T11.heap n0 O18 r11_2) hZ11 (own_w hw 114 rfl) (own_w hw 36 rfl) (by decide) (by decide)) r11_1 (g := (mkF mm_ 37 #[.val (.int p1), .val (.int p2), .val (.int p3), .val (.long q), .second, .val (.ref r_1), .val (.ref r_2), .val (.ref r_5), .val (.ref r_11)] [(.ref r_11), (.ref r_1)])) rfl (by rw [hml]; rfl) (argsL := []) (rest := [(.ref r_1)]) (lenOf pd_7 rfl) rfl (by show 2 * 0 + _ ≤ _; exact Nat.le_of_eq rfl) (hb hby at_37) rfl rfl (by decide) (by decide)
  obtain ⟨rfl, rfl, Eh17⟩ := hQ17
  have N17 := Fr.app N11 (Fr.nil n0)
  refine own_jump st17 ?_
  show own_Go _ _ _ _ T17 (mkF mm_ 40 #[.val (.int p1), .val (.int p2), .val (.int p3), .val (.long q), .second, .val (.ref r_1), .val (.ref r_2), .val (.ref r_5), .val (.ref r_11)] [(.ref r_1), (.ref r_1)])
  have f20 : own_Str Z T11.heap r_1 t_1 cs_1 := (f12.keep Kc11 nin0 nin0)
  obtain ⟨_, T19, Lc19, X19, hQ19, st19⟩ := own_cV X17 hx hZ11 hown11 (own_w hw 115 rfl) (own_w hw 116 rfl) (notFace_of_selects (args := #[]) (mvT hZ11 (own_w hw 118 rfl))) (own_w hw 118 rfl) (own_w hw 117 rfl) (by decide) (backOf (W := 0) (rmEqS l Z a0 hw [] r_1 r_1 T11.heap n0 O18 ) hZ11 (own_w hw 119 rfl) (own_w hw 7 rfl) (by decide) (by decide)) f20.1 (g := (mkF mm_ 40 #[.val (.int p1), .val (.int p2), .val (.int p3), .val (.long q), .second, .val (.ref r_1), .val (.ref r_2), .val (.ref r_5), .val (.ref r_11)] [(.ref r_1), (.ref r_1)])) rfl (by rw [hml]; rfl) (argsL := [(.ref r_1)]) (rest := []) (lenOf pd_8 rfl) rfl (by show 2 * 0 + _ ≤ _; exact Nat.le_of_eq rfl) (hb hby at_40) rfl Eh17 (by decide) (by decide)
  obtain ⟨rfl, rfl, Eh19⟩ := hQ19
  have N19 := Fr.app N17 (Fr.nil n0)
  refine own_jump st19 ?_
  show own_Go _ _ _ _ T19 (mkF mm_ 43 #[.val (.int p1), .val (.int p2), .val (.int p3), .val (.long q), .second, .val (.ref r_1), .val (.ref r_2), .val (.ref r_5), .val (.ref r_11)] [(.int (1 : Int32))])
  refine own_step (fun t_ k_ => XS.ifNo X19.here hx rfl (hb hby at_43) rfl ((if0 _ _).trans (feq (by decide : ¬ ((1 : Int32) = (0 : Int32)))).1) k_) ?_
  show own_Go _ _ _ _ T19 (mkF mm_ 46 #[.val (.int p1), .val (.int p2), .val (.int p3), .val (.long q), .second, .val (.ref r_1), .val (.ref r_2), .val (.ref r_5), .val (.ref r_11)] [])
  refine own_step (fun t_ k_ => XS.aload X19.here hx rfl (hb hby at_46) rfl rfl (XS.aload X19.here hx rfl (hb hby at_48) rfl rfl k_)) ?_
  show own_Go _ _ _ _ T19 (mkF mm_ 50 #[.val (.int p1), .val (.int p2), .val (.int p3), .val (.long q), .second, .val (.ref r_1), .val (.ref r_2), .val (.ref r_5), .val (.ref r_11)] [(.ref r_11), (.ref r_2)])
  obtain ⟨_, T21, Lc21, X21, hQ21, st21⟩ := own_cV X19 hx hZ11 hown11 (own_w hw 120 rfl) (own_w hw 121 rfl) (notFace_of_selects (args := #[]) (mvT hZ11 (own_w hw 123 rfl))) (own_w hw 123 rfl) (own_w hw 122 rfl) (by decide) (backOf (W := 1) (rmG1 l Z a0 hw [] r_11 r_2 T11.heap n0 O18 r11_3) hZ11 (own_w hw 124 rfl) (own_w hw 36 rfl) (by decide) (by decide)) r11_1 (g := (mkF mm_ 50 #[.val (.int p1), .val (.int p2), .val (.int p3), .val (.long q), .second, .val (.ref r_1), .val (.ref r_2), .val (.ref r_5), .val (.ref r_11)] [(.ref r_11), (.ref r_2)])) rfl (by rw [hml]; rfl) (argsL := []) (rest := [(.ref r_2)]) (lenOf pd_7 rfl) rfl (by show 2 * 0 + _ ≤ _; exact Nat.le_of_eq rfl) (hb hby at_50) rfl Eh19 (by decide) (by decide)
  obtain ⟨rfl, rfl, Eh21⟩ := hQ21
  have N21 := Fr.app N19 (Fr.nil n0)
  refine own_jump st21 ?_
  show own_Go _ _ _ _ T21 (mkF mm_ 53 #[.val (.int p1), .val (.int p2), .val (.int p3), .val (.long q), .second, .val (.ref r_1), .val (.ref r_2), .val (.ref r_5), .val (.ref r_11)] [(.ref r_2), (.ref r_2)])
  have f23 : own_Str Z T11.heap r_2 t_2 cs_2 := (f13.keep Kc11 nin0 nin0)
  obtain ⟨_, T22, Lc22, X22, hQ22, st22⟩ := own_cV X21 hx hZ11 hown11 (own_w hw 115 rfl) (own_w hw 116 rfl) (notFace_of_selects (args := #[]) (mvT hZ11 (own_w hw 118 rfl))) (own_w hw 118 rfl) (own_w hw 117 rfl) (by decide) (backOf (W := 0) (rmEqS l Z a0 hw [] r_2 r_2 T11.heap n0 O18 ) hZ11 (own_w hw 119 rfl) (own_w hw 7 rfl) (by decide) (by decide)) f23.1 (g := (mkF mm_ 53 #[.val (.int p1), .val (.int p2), .val (.int p3), .val (.long q), .second, .val (.ref r_1), .val (.ref r_2), .val (.ref r_5), .val (.ref r_11)] [(.ref r_2), (.ref r_2)])) rfl (by rw [hml]; rfl) (argsL := [(.ref r_2)]) (rest := []) (lenOf pd_8 rfl) rfl (by show 2 * 0 + _ ≤ _; exact Nat.le_of_eq rfl) (hb hby at_53) rfl Eh21 (by decide) (by decide)
  obtain ⟨rfl, rfl, Eh22⟩ := hQ22
  have N22 := Fr.app N21 (Fr.nil n0)
  refine own_jump st22 ?_
  show own_Go _ _ _ _ T22 (mkF mm_ 56 #[.val (.int p1), .val (.int p2), .val (.int p3), .val (.long q), .second, .val (.ref r_1), .val (.ref r_2), .val (.ref r_5), .val (.ref r_11)] [(.int (1 : Int32))])
  refine own_step (fun t_ k_ => XS.ifNo X22.here hx rfl (hb hby at_56) rfl ((if0 _ _).trans (feq (by decide : ¬ ((1 : Int32) = (0 : Int32)))).1) k_) ?_
  show own_Go _ _ _ _ T22 (mkF mm_ 59 #[.val (.int p1), .val (.int p2), .val (.int p3), .val (.long q), .second, .val (.ref r_1), .val (.ref r_2), .val (.ref r_5), .val (.ref r_11)] [])
  refine own_step (fun t_ k_ => XS.aload X22.here hx rfl (hb hby at_59) rfl rfl (XS.aload X22.here hx rfl (hb hby at_61) rfl rfl k_)) ?_
  show own_Go _ _ _ _ T22 (mkF mm_ 63 #[.val (.int p1), .val (.int p2), .val (.int p3), .val (.long q), .second, .val (.ref r_1), .val (.ref r_2), .val (.ref r_5), .val (.ref r_11)] [(.ref r_11), (.ref r_5)])
  obtain ⟨_, T24, Lc24, X24, hQ24, st24⟩ := own_cV X22 hx hZ11 hown11 (own_w hw 125 rfl) (own_w hw 126 rfl) (notFace_of_selects (args := #[]) (mvT hZ11 (own_w hw 128 rfl))) (own_w hw 128 rfl) (own_w hw 127 rfl) (by decide) (backOf (W := 1) (rmG2 l Z a0 hw [] r_11 r_5 T11.heap n0 O18 r11_4) hZ11 (own_w hw 129 rfl) (own_w hw 36 rfl) (by decide) (by decide)) r11_1 (g := (mkF mm_ 63 #[.val (.int p1), .val (.int p2), .val (.int p3), .val (.long q), .second, .val (.ref r_1), .val (.ref r_2), .val (.ref r_5), .val (.ref r_11)] [(.ref r_11), (.ref r_5)])) rfl (by rw [hml]; rfl) (argsL := []) (rest := [(.ref r_5)]) (lenOf pd_7 rfl) rfl (by show 2 * 0 + _ ≤ _; exact Nat.le_of_eq rfl) (hb hby at_63) rfl Eh22 (by decide) (by decide)
  obtain ⟨rfl, rfl, Eh24⟩ := hQ24
  have N24 := Fr.app N22 (Fr.nil n0)
  refine own_jump st24 ?_
  show own_Go _ _ _ _ T24 (mkF mm_ 66 #[.val (.int p1), .val (.int p2), .val (.int p3), .val (.long q), .second, .val (.ref r_1), .val (.ref r_2), .val (.ref r_5), .val (.ref r_11)] [(.ref r_5), (.ref r_5)])
  have f26 : own_Str Z T11.heap r_5 t_5 cs_5 := (f14.keep Kc11 nin0 nin0)
  obtain ⟨_, T25, Lc25, X25, hQ25, st25⟩ := own_cV X24 hx hZ11 hown11 (own_w hw 115 rfl) (own_w hw 116 rfl) (notFace_of_selects (args := #[]) (mvT hZ11 (own_w hw 118 rfl))) (own_w hw 118 rfl) (own_w hw 117 rfl) (by decide) (backOf (W := 0) (rmEqS l Z a0 hw [] r_5 r_5 T11.heap n0 O18 ) hZ11 (own_w hw 119 rfl) (own_w hw 7 rfl) (by decide) (by decide)) f26.1 (g := (mkF mm_ 66 #[.val (.int p1), .val (.int p2), .val (.int p3), .val (.long q), .second, .val (.ref r_1), .val (.ref r_2), .val (.ref r_5), .val (.ref r_11)] [(.ref r_5), (.ref r_5)])) rfl (by rw [hml]; rfl) (argsL := [(.ref r_5)]) (rest := []) (lenOf pd_8 rfl) rfl (by show 2 * 0 + _ ≤ _; exact Nat.le_of_eq rfl) (hb hby at_66) rfl Eh24 (by decide) (by decide)
  obtain ⟨rfl, rfl, Eh25⟩ := hQ25
  have N25 := Fr.app N24 (Fr.nil n0)
  refine own_jump st25 ?_
  show own_Go _ _ _ _ T25 (mkF mm_ 69 #[.val (.int p1), .val (.int p2), .val (.int p3), .val (.long q), .second, .val (.ref r_1), .val (.ref r_2), .val (.ref r_5), .val (.ref r_11)] [(.int (1 : Int32))])
  refine own_step (fun t_ k_ => XS.ifNo X25.here hx rfl (hb hby at_69) rfl ((if0 _ _).trans (feq (by decide : ¬ ((1 : Int32) = (0 : Int32)))).1) k_) ?_
  show own_Go _ _ _ _ T25 (mkF mm_ 72 #[.val (.int p1), .val (.int p2), .val (.int p3), .val (.long q), .second, .val (.ref r_1), .val (.ref r_2), .val (.ref r_5), .val (.ref r_11)] [])
  refine own_step (fun t_ k_ => XS.aload X25.here hx rfl (hb hby at_72) rfl rfl k_) ?_
  show own_Go _ _ _ _ T25 (mkF mm_ 74 #[.val (.int p1), .val (.int p2), .val (.int p3), .val (.long q), .second, .val (.ref r_1), .val (.ref r_2), .val (.ref r_5), .val (.ref r_11)] [(.ref r_11)])
  obtain ⟨_, T27, Lc27, X27, hQ27, st27⟩ := own_cV X25 hx hZ11 hown11 (own_w hw 130 rfl) (own_w hw 131 rfl) (notFace_of_selects (args := #[]) (mvT hZ11 (own_w hw 133 rfl))) (own_w hw 133 rfl) (own_w hw 132 rfl) (by decide) (backOf (W := 0) (rmGA l Z a0 hw [] r_11 q T11.heap n0 O18 r11_5) hZ11 (own_w hw 134 rfl) (own_w hw 36 rfl) (by decide) (by decide)) r11_1 (g := (mkF mm_ 74 #[.val (.int p1), .val (.int p2), .val (.int p3), .val (.long q), .second, .val (.ref r_1), .val (.ref r_2), .val (.ref r_5), .val (.ref r_11)] [(.ref r_11)])) rfl (by rw [hml]; rfl) (argsL := []) (rest := []) (lenOf pd_9 rfl) rfl (by show 2 * 0 + _ ≤ _; exact Nat.le_of_eq rfl) (hb hby at_74) rfl Eh25 (by decide) (by decide)
  obtain ⟨rfl, rfl, Eh27⟩ := hQ27
  have N27 := Fr.app N25 (Fr.nil n0)
  refine own_jump st27 ?_
  show own_Go _ _ _ _ T27 (mkF mm_ 77 #[.val (.int p1), .val (.int p2), .val (.int p3), .val (.long q), .second, .val (.ref r_1), .val (.ref r_2), .val (.ref r_5), .val (.ref r_11)] [(.long q)])
  refine own_step (fun t_ k_ => XS.lloadN X27.here hx rfl (hb hby at_77) rfl  (XS.lcmp X27.here hx rfl (hb hby at_78) rfl k_)) ?_
  show own_Go _ _ _ _ T27 (mkF mm_ 79 #[.val (.int p1), .val (.int p2), .val (.int p3), .val (.long q), .second, .val (.ref r_1), .val (.ref r_2), .val (.ref r_5), .val (.ref r_11)] [(.int (lcmpW q q))])
  refine own_step (fun t_ k_ => XS.ifNo X27.here hx rfl (hb hby at_79) rfl ((if0 _ _).trans (teq ((lw_eq _ _).mpr rfl)).2) k_) ?_
  show own_Go _ _ _ _ T27 (mkF mm_ 82 #[.val (.int p1), .val (.int p2), .val (.int p3), .val (.long q), .second, .val (.ref r_1), .val (.ref r_2), .val (.ref r_5), .val (.ref r_11)] [])
  refine own_step (fun t_ k_ => XS.aload X27.here hx rfl (hb hby at_82) rfl rfl k_) ?_
  show own_Go _ _ _ _ T27 (mkF mm_ 84 #[.val (.int p1), .val (.int p2), .val (.int p3), .val (.long q), .second, .val (.ref r_1), .val (.ref r_2), .val (.ref r_5), .val (.ref r_11)] [(.ref r_11)])
  obtain ⟨_, T28, Lc28, X28, hQ28, st28⟩ := own_cV X27 hx hZ11 hown11 (own_w hw 135 rfl) (own_w hw 136 rfl) (notFace_of_selects (args := #[]) (mvT hZ11 (own_w hw 138 rfl))) (own_w hw 138 rfl) (own_w hw 137 rfl) (by decide) (backOf (W := 0) (rmH0 l Z a0 hw [] r_11 T11.heap n0 O18 r11_6) hZ11 (own_w hw 139 rfl) (own_w hw 36 rfl) (by decide) (by decide)) r11_1 (g := (mkF mm_ 84 #[.val (.int p1), .val (.int p2), .val (.int p3), .val (.long q), .second, .val (.ref r_1), .val (.ref r_2), .val (.ref r_5), .val (.ref r_11)] [(.ref r_11)])) rfl (by rw [hml]; rfl) (argsL := []) (rest := []) (lenOf pd_7 rfl) rfl (by show 2 * 0 + _ ≤ _; exact Nat.le_of_eq rfl) (hb hby at_84) rfl Eh27 (by decide) (by decide)
  obtain ⟨rfl, rfl, Eh28⟩ := hQ28
  have N28 := Fr.app N27 (Fr.nil n0)
  refine own_jump st28 ?_
  show own_Go _ _ _ _ T28 (mkF mm_ 87 #[.val (.int p1), .val (.int p2), .val (.int p3), .val (.long q), .second, .val (.ref r_1), .val (.ref r_2), .val (.ref r_5), .val (.ref r_11)] [.null])
  refine own_step (fun t_ k_ => XS.ifnonnullNo X28.here hx rfl (hb hby at_87) rfl (XS.aload X28.here hx rfl (hb hby at_90) rfl rfl k_)) ?_
  show own_Go _ _ _ _ T28 (mkF mm_ 92 #[.val (.int p1), .val (.int p2), .val (.int p3), .val (.long q), .second, .val (.ref r_1), .val (.ref r_2), .val (.ref r_5), .val (.ref r_11)] [(.ref r_11)])
  obtain ⟨_, T29, Lc29, X29, hQ29, st29⟩ := own_cV X28 hx hZ11 hown11 (own_w hw 140 rfl) (own_w hw 141 rfl) (notFace_of_selects (args := #[]) (mvT hZ11 (own_w hw 143 rfl))) (own_w hw 143 rfl) (own_w hw 142 rfl) (by decide) (backOf (W := 0) (rmH1 l Z a0 hw [] r_11 T11.heap n0 O18 r11_7) hZ11 (own_w hw 144 rfl) (own_w hw 36 rfl) (by decide) (by decide)) r11_1 (g := (mkF mm_ 92 #[.val (.int p1), .val (.int p2), .val (.int p3), .val (.long q), .second, .val (.ref r_1), .val (.ref r_2), .val (.ref r_5), .val (.ref r_11)] [(.ref r_11)])) rfl (by rw [hml]; rfl) (argsL := []) (rest := []) (lenOf pd_7 rfl) rfl (by show 2 * 0 + _ ≤ _; exact Nat.le_of_eq rfl) (hb hby at_92) rfl Eh28 (by decide) (by decide)
  obtain ⟨rfl, rfl, Eh29⟩ := hQ29
  have N29 := Fr.app N28 (Fr.nil n0)
  refine own_jump st29 ?_
  show own_Go _ _ _ _ T29 (mkF mm_ 95 #[.val (.int p1), .val (.int p2), .val (.int p3), .val (.long q), .second, .val (.ref r_1), .val (.ref r_2), .val (.ref r_5), .val (.ref r_11)] [.null])
  refine own_step (fun t_ k_ => XS.ifnonnullNo X29.here hx rfl (hb hby at_95) rfl (XS.aload X29.here hx rfl (hb hby at_98) rfl rfl k_)) ?_
  show own_Go _ _ _ _ T29 (mkF mm_ 100 #[.val (.int p1), .val (.int p2), .val (.int p3), .val (.long q), .second, .val (.ref r_1), .val (.ref r_2), .val (.ref r_5), .val (.ref r_11)] [(.ref r_11)])
  obtain ⟨_, T30, Lc30, X30, hQ30, st30⟩ := own_cV X29 hx hZ11 hown11 (own_w hw 145 rfl) (own_w hw 146 rfl) (notFace_of_selects (args := #[]) (mvT hZ11 (own_w hw 148 rfl))) (own_w hw 148 rfl) (own_w hw 147 rfl) (by decide) (backOf (W := 0) (rmH2 l Z a0 hw [] r_11 T11.heap n0 O18 r11_8) hZ11 (own_w hw 149 rfl) (own_w hw 36 rfl) (by decide) (by decide)) r11_1 (g := (mkF mm_ 100 #[.val (.int p1), .val (.int p2), .val (.int p3), .val (.long q), .second, .val (.ref r_1), .val (.ref r_2), .val (.ref r_5), .val (.ref r_11)] [(.ref r_11)])) rfl (by rw [hml]; rfl) (argsL := []) (rest := []) (lenOf pd_7 rfl) rfl (by show 2 * 0 + _ ≤ _; exact Nat.le_of_eq rfl) (hb hby at_100) rfl Eh29 (by decide) (by decide)
  obtain ⟨rfl, rfl, Eh30⟩ := hQ30
  have N30 := Fr.app N29 (Fr.nil n0)
  refine own_jump st30 ?_
  show own_Go _ _ _ _ T30 (mkF mm_ 103 #[.val (.int p1), .val (.int p2), .val (.int p3), .val (.long q), .second, .val (.ref r_1), .val (.ref r_2), .val (.ref r_5), .val (.ref r_11)] [.null])
  refine own_step (fun t_ k_ => XS.ifnonnullNo X30.here hx rfl (hb hby at_103) rfl (XS.aload X30.here hx rfl (hb hby at_106) rfl rfl k_)) ?_
  show own_Go _ _ _ _ T30 (mkF mm_ 108 #[.val (.int p1), .val (.int p2), .val (.int p3), .val (.long q), .second, .val (.ref r_1), .val (.ref r_2), .val (.ref r_5), .val (.ref r_11)] [(.ref r_11)])
  obtain ⟨_, T31, Lc31, X31, hQ31, st31⟩ := own_cV X30 hx hZ11 hown11 (own_w hw 150 rfl) (own_w hw 151 rfl) (notFace_of_selects (args := #[]) (mvT hZ11 (own_w hw 153 rfl))) (own_w hw 153 rfl) (own_w hw 152 rfl) (by decide) (backOf (W := 0) (rmH3 l Z a0 hw [] r_11 T11.heap n0 O18 r11_9) hZ11 (own_w hw 154 rfl) (own_w hw 36 rfl) (by decide) (by decide)) r11_1 (g := (mkF mm_ 108 #[.val (.int p1), .val (.int p2), .val (.int p3), .val (.long q), .second, .val (.ref r_1), .val (.ref r_2), .val (.ref r_5), .val (.ref r_11)] [(.ref r_11)])) rfl (by rw [hml]; rfl) (argsL := []) (rest := []) (lenOf pd_7 rfl) rfl (by show 2 * 0 + _ ≤ _; exact Nat.le_of_eq rfl) (hb hby at_108) rfl Eh30 (by decide) (by decide)
  obtain ⟨rfl, rfl, Eh31⟩ := hQ31
  have N31 := Fr.app N30 (Fr.nil n0)
  refine own_jump st31 ?_
  show own_Go _ _ _ _ T31 (mkF mm_ 111 #[.val (.int p1), .val (.int p2), .val (.int p3), .val (.long q), .second, .val (.ref r_1), .val (.ref r_2), .val (.ref r_5), .val (.ref r_11)] [.null])
  refine own_step (fun t_ k_ => XS.ifnonnullNo X31.here hx rfl (hb hby at_111) rfl (XS.aload X31.here hx rfl (hb hby at_114) rfl rfl k_)) ?_
  show own_Go _ _ _ _ T31 (mkF mm_ 116 #[.val (.int p1), .val (.int p2), .val (.int p3), .val (.long q), .second, .val (.ref r_1), .val (.ref r_2), .val (.ref r_5), .val (.ref r_11)] [(.ref r_11)])
  obtain ⟨_, T32, Lc32, X32, hQ32, st32⟩ := own_cV X31 hx hZ11 hown11 (own_w hw 155 rfl) (own_w hw 156 rfl) (notFace_of_selects (args := #[]) (mvT hZ11 (own_w hw 158 rfl))) (own_w hw 158 rfl) (own_w hw 157 rfl) (by decide) (backOf (W := 0) (rmH4 l Z a0 hw [] r_11 T11.heap n0 O18 r11_10) hZ11 (own_w hw 159 rfl) (own_w hw 36 rfl) (by decide) (by decide)) r11_1 (g := (mkF mm_ 116 #[.val (.int p1), .val (.int p2), .val (.int p3), .val (.long q), .second, .val (.ref r_1), .val (.ref r_2), .val (.ref r_5), .val (.ref r_11)] [(.ref r_11)])) rfl (by rw [hml]; rfl) (argsL := []) (rest := []) (lenOf pd_10 rfl) rfl (by show 2 * 0 + _ ≤ _; exact Nat.le_of_eq rfl) (hb hby at_116) rfl Eh31 (by decide) (by decide)
  obtain ⟨rfl, rfl, Eh32⟩ := hQ32
  have N32 := Fr.app N31 (Fr.nil n0)
  refine own_jump st32 ?_
  show own_Go _ _ _ _ T32 (mkF mm_ 119 #[.val (.int p1), .val (.int p2), .val (.int p3), .val (.long q), .second, .val (.ref r_1), .val (.ref r_2), .val (.ref r_5), .val (.ref r_11)] [.null])
  refine own_step (fun t_ k_ => XS.ifnonnullNo X32.here hx rfl (hb hby at_119) rfl (XS.aload X32.here hx rfl (hb hby at_122) rfl rfl k_)) ?_
  show own_Go _ _ _ _ T32 (mkF mm_ 124 #[.val (.int p1), .val (.int p2), .val (.int p3), .val (.long q), .second, .val (.ref r_1), .val (.ref r_2), .val (.ref r_5), .val (.ref r_11)] [(.ref r_11)])
  obtain ⟨_, T33, Lc33, X33, hQ33, st33⟩ := own_cV X32 hx hZ11 hown11 (own_w hw 160 rfl) (own_w hw 161 rfl) (notFace_of_selects (args := #[]) (mvT hZ11 (own_w hw 163 rfl))) (own_w hw 163 rfl) (own_w hw 162 rfl) (by decide) (backOf (W := 0) (rmH5 l Z a0 hw [] r_11 T11.heap n0 O18 r11_11) hZ11 (own_w hw 164 rfl) (own_w hw 36 rfl) (by decide) (by decide)) r11_1 (g := (mkF mm_ 124 #[.val (.int p1), .val (.int p2), .val (.int p3), .val (.long q), .second, .val (.ref r_1), .val (.ref r_2), .val (.ref r_5), .val (.ref r_11)] [(.ref r_11)])) rfl (by rw [hml]; rfl) (argsL := []) (rest := []) (lenOf pd_10 rfl) rfl (by show 2 * 0 + _ ≤ _; exact Nat.le_of_eq rfl) (hb hby at_124) rfl Eh32 (by decide) (by decide)
  obtain ⟨rfl, rfl, Eh33⟩ := hQ33
  have N33 := Fr.app N32 (Fr.nil n0)
  refine own_jump st33 ?_
  show own_Go _ _ _ _ T33 (mkF mm_ 127 #[.val (.int p1), .val (.int p2), .val (.int p3), .val (.long q), .second, .val (.ref r_1), .val (.ref r_2), .val (.ref r_5), .val (.ref r_11)] [.null])
  refine own_step (fun t_ k_ => XS.ifnonnullNo X33.here hx rfl (hb hby at_127) rfl (XS.iconst X33.here hx rfl (hb hby at_130) (XS.goto X33.here hx rfl (pc0 := 131) (pc' := 135) rfl (hb hby at_131) (by decide) (by decide) k_))) ?_
  show own_Go _ _ _ _ T33 (mkF mm_ 135 #[.val (.int p1), .val (.int p2), .val (.int p3), .val (.long q), .second, .val (.ref r_1), .val (.ref r_2), .val (.ref r_5), .val (.ref r_11)] [(.int (1 : Int32))])
  have K34 : Keep h0 T11.heap [] := (K16.trans Kc11 all0)
  obtain ⟨fs, hr, hrun, hended, hEnd⟩ := X33.leaveW hS11 (by rw [Eh33]; exact (Nat.le_refl _)) (v := some (.int (1 : Int32))) (fun h => by rw [Bd.returns] at h; cases h)
  refine ⟨_, _, ?_, hrun, hended, _, _, rfl, ?_, own_endMono hEnd (by decide) (by decide)⟩
  · exact retN X33 hx (t := .boolean) Bd.returns (by simp) (hb hby at_135) hr
  · show Qrm0 Z p1 p2 p3 q h0 n0 (some (.int (1 : Int32))) T33.heap _
    rw [Eh33]
    exact ⟨rfl, N33, K34⟩
set_option maxRecDepth 65536 in
set_option maxHeartbeats 40000000 in
theorem comes_1 {Post : Tables → Env → Array Value → State → Outcome → State → Prop} (hpost : ∀ tb e args s v u, (limb_1_1.after args s (.returned v) u = true ∧ limb_1_2.after args s (.returned v) u = true ∧ True) → ReturnedEndW s (.returned v) u (Jvm.fieldLocs frame_1_writes args s ++ Jvm.arrayLocs frame_1_arrays args s ++ Jvm.staticLocs frame_1_statics s) 40 3264 → Post tb e args s (.returned v) u) :
    ArmFor flags0 classFile x code maxLocals ret World_1 tables_1 room_1 Calls_1 rest_1 Pre_1 Post := by
  intro l hfl _ _ p e ha hc hk s m args below hf hA hF happ hP
  obtain ⟨hcalls, hrest, hpre⟩ := hP
  obtain ⟨-, -, -, hnamed, -, -, -, hat⟩ := (Spec.applies_iff hf).mp happ
  obtain ⟨hg, hn⟩ := and_e (Cond.before_iff.mp (show (Jvm.Cond.and given_1 narrow_1).before args s = true from hpre))
  obtain ⟨ga, gb0⟩ := and_e hg
  obtain ⟨w0_, w1_, w2_, w3_, rfl⟩ : ∃ w0_ w1_ w2_ w3_ : Value, args = #[w0_, w1_, w2_, w3_] := by
    have hs : args.size = 4 := by simpa [Cond.value, given_1] using ga
    obtain ⟨L⟩ := args
    match L, hs with
    | [w0_, w1_, w2_, w3_], _ => exact ⟨w0_, w1_, w2_, w3_, rfl⟩
  have hw := fun d (hd : d ∈ tables_1) => atoms_spec (ws := Jvm.Cond.code x code maxLocals ret :: tables_1) hat d (List.mem_cons_of_mem _ hd)
  have hfit : Fit s := fun {y c} hc i hi => by
    obtain ⟨ha, rfl⟩ := Array.getElem?_eq_some_iff.mp hc
    have q := List.all_eq_true.mp ((Array.all_eq_true_iff_forall_mem.mp hF) _ (Array.getElem_mem ha)) i (List.mem_range.mpr hi)
    simpa [Array.getElem?_eq_getElem hi] using q
  obtain ⟨hsets, hown0⟩ := atoms_of _ (rest_1_c_eq ▸ (show rest_1_c.before _ s = true from hrest))
  obtain ⟨gc0, gb1⟩ := and_e gb0
  obtain ⟨i0, ei0⟩ := is_v gc0
  obtain rfl : w0_ = (.int i0) := Option.some.inj ei0
  obtain ⟨gc1, gb2⟩ := and_e gb1
  obtain ⟨i1, ei1⟩ := is_v gc1
  obtain rfl : w1_ = (.int i1) := Option.some.inj ei1
  obtain ⟨gc2, gb3⟩ := and_e gb2
  obtain ⟨i2, ei2⟩ := is_v gc2
  obtain rfl : w2_ = (.int i2) := Option.some.inj ei2
  obtain ⟨i3, ei3⟩ := isL_v gb3
  obtain rfl : w3_ = (.long i3) := Option.some.inj ei3
  obtain ⟨zc, ev_zc⟩ := is_v (Cond.before_iff.mp (hsets _ (List.mem_of_getElem? (i := 1) rfl)))
  have G_cs : Sta s s.heap "java/lang/String" "COMPACT_STRINGS" "Z" (.int zc) := Sta.start ev_zc (Or.inl (hsets _ (List.mem_of_getElem? (i := 0) rfl)))
  have G_cs0 : ¬ zc = (0 : Int32) := gotF (Cond.eq_ints ev_zc (Term.int_eval (0))) (not_v (Cond.before_iff.mp (hsets _ (List.mem_of_getElem? (i := 2) rfl))))
  obtain ⟨n, o, h1, h2, h3, _, L, rfl, ⟨rfl, N, -⟩, hq⟩ := rm0 l s _ hw tables_1 i0 i1 i2 i3 s.heap s.heap.size (Old.start s) (⟨G_cs, G_cs0⟩ : own_St s (zc)) p e ha hc hk s m _ below hf ((Spec.applies_iff_loose hf).mp happ).1 ⟨rfl, State.Warmed39.refl s, rfl⟩ trivial
  refine ⟨n, _, h1, h2, h3, hpost _ _ _ _ _ _ ⟨Cond.after_iff.mpr rfl, Cond.after_iff.mpr (eq_i res_at (Term.int_eval (1)) rfl), trivial⟩ ⟨hq.1, hq.2.1, hq.2.2.1, (hq.2.2.2.sift fun y hy => Or.inr (N y hy)).mono (by decide) (by decide)⟩⟩
theorem main_1_1 : Claimed_1_1 := comes_1 fun _ _ _ _ _ _ h hF => ⟨h.1, hF⟩
theorem main_1_2 : Claimed_1_2 := comes_1 fun _ _ _ _ _ _ h hF => ⟨h.2.1, hF⟩
end Jvm.Pilot.@@N@@
namespace Jvm.Pilot.@@N@@
open Jvm Jvm.ClassFile Sem Op Lib Jvm.Free Jvm.Stand Jvm.Pilot.@@N@@.Jvm.D
/-! MADE BY PROGRAM (witnessworld.py) out of the Statement's table words and the real class files: 22 classes; the members and pool entries that the words name. The judged class is class 1, her method 2. -/
namespace start1
open Jvm.ClassFile
def u (s : String) : CpInfo := .utf8 (stringToUtf16 s)
/-- a pool by its gaps: so many unusable entries, then the entry; so many at the end -/
def gap : Nat → List CpInfo → List CpInfo
  | 0, r => r
  | n + 1, r => .unusable :: gap n r
def poolList (es : List (Nat × CpInfo)) (last : Nat) : List CpInfo := es.foldr (fun e r => gap e.1 (e.2 :: r)) (gap last [])
def pool (es : List (Nat × CpInfo)) (last : Nat) : Array CpInfo := ⟨poolList es last⟩
def fileOf (pool : Array CpInfo) (this : Nat) (attrs : Array Attribute := #[]) (ms : Array MethodInfo := #[]) (fl : Nat := 33) (sup : Nat := 0) (ifs : Array Nat := #[]) (fds : Array FieldInfo := #[]) : ClassFile where
  minorVersion := 0
  majorVersion := 65
  constantPool := pool
  accessFlags := fl
  thisClass := this
  superClass := sup
  interfaces := ifs
  fields := fds
  methods := ms
  attributes := attrs
def plain (name : String) (sup : Option ClassId) : Class where
  name := name
  kind := .ordinary
  loader := none
  accessFlags := 33
  super := sup
  interfaces := #[]
  cf := none
  fields := #[]
  methods := #[]
  instanceTypes := #[]
  staticTypes := #[]
  resolved := #[]
  callSites := []
  init := .initialized
  statics := none
  mirror := none

def pool0 : Array CpInfo := pool [(5, u "<init>"), (0, u "()V"), (1, .class_ 10), (1, u "java/lang/Object")] 113

def k0c0 : Code := { maxStack := 0, maxLocals := 1, code := object_method_1_code, exceptionTable := #[], attributes := #[] }
def k0m0 : Method := { name := "<init>", desc := "()V", sig := { parameters := [], returnType := none }, accessFlags := 1, code := some k0c0 }
/-- java/lang/Object -/
def k0 : Class := { plain "java/lang/Object" none with
  accessFlags := 33
  interfaces := #[]
  cf := some (fileOf pool0 8 #[] #[{ accessFlags := 1, nameIndex := 5, descriptorIndex := 6, attributes := #[] }] 33 0 #[] #[])
  fields := #[]
  methods := #[k0m0]
  instanceTypes := #[]
  staticTypes := #[]
  resolved := Array.replicate 124 none
  statics := none }

def pool1 : Array CpInfo := pool [(2, .class_ 4), (1, u "java/lang/Object"), (0, u "<init>"), (0, u "()V"), (0, .class_ 8), (0, u "java/lang/String"), (0, .methodref 7 10), (0, .nameAndType 5 11), (0, u "([C)V"), (0, .methodref 13 14), (0, .class_ 15), (0, .nameAndType 16 17), (0, u "com/example/malipo/malipo/core/ledger/PaymentBuilderPinLaw"), (0, u "str"), (0, u "(I)Ljava/lang/String;"), (0, .methodref 19 20), (0, .class_ 21), (0, .nameAndType 22 23), (0, u "com/example/malipo/malipo/core/ledger/Payment"), (0, u "builder"), (0, u "(Ljava/lang/String;Ljava/lang/String;Ljava/lang/String;J)Lcom/example/malipo/malipo/core/ledger/Payment$Builder;"), (0, .methodref 25 26), (0, .class_ 27), (0, .nameAndType 28 29), (0, u "com/example/malipo/malipo/core/ledger/Payment$Builder"), (0, u "build"), (0, u "()Lcom/example/malipo/malipo/core/ledger/Payment;"), (0, .methodref 19 31), (0, .nameAndType 32 33), (0, u "getChannel"), (0, u "()Ljava/lang/String;"), (0, .methodref 7 35), (0, .nameAndType 36 37), (0, u "equals"), (0, u "(Ljava/lang/Object;)Z"), (0, .methodref 19 39), (0, .nameAndType 40 33), (0, u "getOrderNo"), (0, .methodref 19 42), (0, .nameAndType 43 33), (0, u "getChannelOrderNo"), (0, .methodref 19 45), (0, .nameAndType 46 47), (0, u "getAmount"), (0, u "()J"), (0, .methodref 19 49), (0, .nameAndType 50 33), (0, u "getOpenId"), (0, .methodref 19 52), (0, .nameAndType 53 33), (0, u "getServerId"), (0, .methodref 19 55), (0, .nameAndType 56 33), (0, u "getPaidAt"), (0, .methodref 19 58), (0, .nameAndType 59 33), (0, u "getExtend"), (0, .methodref 19 61), (0, .nameAndType 62 63), (0, u "getCount"), (0, u "()Ljava/lang/Long;"), (0, .methodref 19 65), (0, .nameAndType 66 63), (0, u "getCouponDeduction"), (2, u "law"), (0, u "(IIIJ)Z")] 5

def k1m0 : Method := { name := "<init>", desc := "()V", sig := { parameters := [], returnType := none }, accessFlags := 1, code := none }
def k1c1 : Code := { maxStack := 4, maxLocals := 2, code := method_2_code, exceptionTable := #[], attributes := #[] }
def k1m1 : Method := { name := "str", desc := "(I)Ljava/lang/String;", sig := { parameters := [.int], returnType := some (.object "java/lang/String") }, accessFlags := 10, code := some k1c1 }
def k1c2 : Code := { maxStack := 5, maxLocals := 9, code := code, exceptionTable := #[], attributes := #[] }
def k1m2 : Method := { name := "law", desc := "(IIIJ)Z", sig := { parameters := [.int, .int, .int, .long], returnType := some .boolean }, accessFlags := 9, code := some k1c2 }
/-- com/example/malipo/malipo/core/ledger/PaymentBuilderPinLaw -/
def k1 : Class := { plain "com/example/malipo/malipo/core/ledger/PaymentBuilderPinLaw" (some 0) with
  accessFlags := 49
  interfaces := #[]
  cf := some (fileOf pool1 13 #[] #[{ accessFlags := 1, nameIndex := 5, descriptorIndex := 6, attributes := #[] }, { accessFlags := 10, nameIndex := 16, descriptorIndex := 17, attributes := #[] }, { accessFlags := 9, nameIndex := 69, descriptorIndex := 70, attributes := #[] }] 49 2 #[] #[])
  fields := #[]
  methods := #[k1m0, k1m1, k1m2]
  instanceTypes := #[]
  staticTypes := #[]
  resolved := Array.replicate 76 none
  statics := none }

def pool2 : Array CpInfo := pool [(1, .class_ 2), (0, u "java/io/Serializable"), (0, .class_ 4), (0, u "java/lang/Object")] 2

/-- java/io/Serializable -/
def k2 : Class := { plain "java/io/Serializable" (some 0) with
  accessFlags := 1537
  interfaces := #[]
  cf := some (fileOf pool2 1 #[] #[] 1537 3 #[] #[])
  fields := #[]
  methods := #[]
  instanceTypes := #[]
  staticTypes := #[]
  resolved := Array.replicate 7 none
  statics := none }

def pool3 : Array CpInfo := pool [(1, .class_ 2), (0, u "java/lang/Comparable"), (0, .class_ 4), (0, u "java/lang/Object")] 7

/-- java/lang/Comparable -/
def k3 : Class := { plain "java/lang/Comparable" (some 0) with
  accessFlags := 1537
  interfaces := #[]
  cf := some (fileOf pool3 1 #[] #[] 1537 3 #[] #[])
  fields := #[]
  methods := #[]
  instanceTypes := #[]
  staticTypes := #[]
  resolved := Array.replicate 12 none
  statics := none }

def pool4 : Array CpInfo := pool [(2, .class_ 4), (1, u "java/lang/CharSequence"), (42, .class_ 48), (0, u "java/lang/CharSequence$1CodePointIterator"), (10, .class_ 60), (0, u "java/lang/CharSequence$1CharIterator"), (5, .class_ 67), (0, u "java/lang/Object")] 63

/-- java/lang/CharSequence -/
def k4 : Class := { plain "java/lang/CharSequence" (some 0) with
  accessFlags := 1537
  interfaces := #[]
  cf := some (fileOf pool4 2 #[.nestMembers #[47, 59]] #[] 1537 66 #[] #[])
  fields := #[]
  methods := #[]
  instanceTypes := #[]
  staticTypes := #[]
  resolved := Array.replicate 131 none
  statics := none }

def pool5 : Array CpInfo := pool [(1, .class_ 2), (0, u "java/lang/constant/Constable"), (0, .class_ 4), (0, u "java/lang/Object")] 6

/-- java/lang/constant/Constable -/
def k5 : Class := { plain "java/lang/constant/Constable" (some 0) with
  accessFlags := 1537
  interfaces := #[]
  cf := some (fileOf pool5 1 #[] #[] 1537 3 #[] #[])
  fields := #[]
  methods := #[]
  instanceTypes := #[]
  staticTypes := #[]
  resolved := Array.replicate 11 none
  statics := none }

def pool6 : Array CpInfo := pool [(1, .class_ 2), (0, u "java/lang/constant/ConstantDesc"), (0, .class_ 4), (0, u "java/lang/Object")] 32

/-- java/lang/constant/ConstantDesc -/
def k6 : Class := { plain "java/lang/constant/ConstantDesc" (some 0) with
  accessFlags := 1537
  interfaces := #[]
  cf := some (fileOf pool6 1 #[] #[] 1537 3 #[] #[])
  fields := #[]
  methods := #[]
  instanceTypes := #[]
  staticTypes := #[]
  resolved := Array.replicate 37 none
  statics := none }

def pool7 : Array CpInfo := pool [(1, .methodref 2 3), (0, .class_ 4), (0, .nameAndType 5 6), (0, u "java/lang/Object"), (0, u "<init>"), (0, u "()V"), (2, .fieldref 10 11), (0, .class_ 12), (0, .nameAndType 13 14), (0, u "java/lang/String"), (0, u "value"), (0, u "[B"), (0, .fieldref 10 16), (0, .nameAndType 17 18), (0, u "coder"), (0, u "B"), (2, u "hash"), (0, u "I"), (2, u "hashIsZero"), (0, u "Z"), (0, .methodref 10 28), (0, .nameAndType 5 29), (0, u "([CIILjava/lang/Void;)V"), (8, .fieldref 10 39), (0, .nameAndType 40 26), (0, u "COMPACT_STRINGS"), (1, .class_ 44), (1, u "java/lang/StringUTF16"), (0, u "compress"), (1, .methodref 42 48), (0, .nameAndType 49 50), (0, u "coderFromArrayLen"), (0, u "([BI)B"), (126, .methodref 42 178), (0, .nameAndType 45 179), (0, u "([CII)[B"), (363, u "equals"), (29, u "(Ljava/lang/Object;)Z"), (1, .class_ 576), (0, u "java/lang/CharSequence"), (22, u "CASE_INSENSITIVE_ORDER"), (0, u "Ljava/util/Comparator;"), (409, u "([C)V"), (90, u "serialPersistentFields"), (0, u "[Ljava/io/ObjectStreamField;"), (0, .class_ 1104), (0, u "java/lang/String$CaseInsensitiveComparator"), (1, .class_ 1107), (0, u "java/io/Serializable"), (0, .class_ 1109), (0, u "java/lang/Comparable"), (0, .class_ 1111), (0, u "java/lang/constant/Constable"), (0, .class_ 1113), (0, u "java/lang/constant/ConstantDesc"), (2, u "serialVersionUID"), (0, u "J"), (3, u "REPL"), (0, u "C"), (2, u "LATIN1"), (1, u "UTF16")] 323

def k7m0 : Method := { name := "<init>", desc := "()V", sig := { parameters := [], returnType := none }, accessFlags := 1, code := none }
def k7c1 : Code := { maxStack := 5, maxLocals := 2, code := jdk_42_method_3_code, exceptionTable := #[], attributes := #[] }
def k7m1 : Method := { name := "<init>", desc := "([C)V", sig := { parameters := [(.array .char)], returnType := none }, accessFlags := 1, code := some k7c1 }
def k7c2 : Code := { maxStack := 2, maxLocals := 3, code := jdk_42_method_66_code, exceptionTable := #[], attributes := #[] }
def k7m2 : Method := { name := "equals", desc := "(Ljava/lang/Object;)Z", sig := { parameters := [(.object "java/lang/Object")], returnType := some .boolean }, accessFlags := 1, code := some k7c2 }
def k7c3 : Code := { maxStack := 4, maxLocals := 6, code := jdk_42_method_149_code, exceptionTable := #[], attributes := #[] }
def k7m3 : Method := { name := "<init>", desc := "([CIILjava/lang/Void;)V", sig := { parameters := [(.array .char), .int, .int, (.object "java/lang/Void")], returnType := none }, accessFlags := 2, code := some k7c3 }
/-- java/lang/String -/
def k7 : Class := { plain "java/lang/String" (some 0) with
  accessFlags := 49
  interfaces := #[2, 3, 4, 5, 6]
  cf := some (fileOf pool7 10 #[.nestMembers #[1103]] #[{ accessFlags := 1, nameIndex := 5, descriptorIndex := 6, attributes := #[] }, { accessFlags := 1, nameIndex := 5, descriptorIndex := 1010, attributes := #[] }, { accessFlags := 1, nameIndex := 543, descriptorIndex := 573, attributes := #[] }, { accessFlags := 2, nameIndex := 5, descriptorIndex := 29, attributes := #[] }] 49 2 #[1106, 1108, 575, 1110, 1112] #[{ accessFlags := 18, nameIndex := 13, descriptorIndex := 14, attributes := #[] }, { accessFlags := 18, nameIndex := 17, descriptorIndex := 18, attributes := #[] }, { accessFlags := 2, nameIndex := 21, descriptorIndex := 22, attributes := #[] }, { accessFlags := 2, nameIndex := 25, descriptorIndex := 26, attributes := #[] }, { accessFlags := 26, nameIndex := 1116, descriptorIndex := 1117, attributes := #[] }, { accessFlags := 24, nameIndex := 40, descriptorIndex := 26, attributes := #[] }, { accessFlags := 26, nameIndex := 1101, descriptorIndex := 1102, attributes := #[] }, { accessFlags := 26, nameIndex := 1121, descriptorIndex := 1122, attributes := #[] }, { accessFlags := 25, nameIndex := 599, descriptorIndex := 600, attributes := #[] }, { accessFlags := 24, nameIndex := 1125, descriptorIndex := 18, attributes := #[] }, { accessFlags := 24, nameIndex := 1127, descriptorIndex := 18, attributes := #[] }])
  fields := #[{ name := "value", type := (.array .byte), accessFlags := 18, slot := 0, constantValue := 0 }, { name := "coder", type := .byte, accessFlags := 18, slot := 1, constantValue := 0 }, { name := "hash", type := .int, accessFlags := 2, slot := 2, constantValue := 0 }, { name := "hashIsZero", type := .boolean, accessFlags := 2, slot := 3, constantValue := 0 }, { name := "serialVersionUID", type := .long, accessFlags := 26, slot := 0, constantValue := 0 }, { name := "COMPACT_STRINGS", type := .boolean, accessFlags := 24, slot := 1, constantValue := 0 }, { name := "serialPersistentFields", type := (.array (.object "java/io/ObjectStreamField")), accessFlags := 26, slot := 2, constantValue := 0 }, { name := "REPL", type := .char, accessFlags := 26, slot := 3, constantValue := 0 }, { name := "CASE_INSENSITIVE_ORDER", type := (.object "java/util/Comparator"), accessFlags := 25, slot := 4, constantValue := 0 }, { name := "LATIN1", type := .byte, accessFlags := 24, slot := 5, constantValue := 0 }, { name := "UTF16", type := .byte, accessFlags := 24, slot := 6, constantValue := 0 }]
  methods := #[k7m0, k7m1, k7m2, k7m3]
  instanceTypes := #[(.array .byte), .byte, .int, .boolean]
  staticTypes := #[.long, .boolean, (.array (.object "java/io/ObjectStreamField")), .char, (.object "java/util/Comparator"), .byte, .byte]
  resolved := Array.replicate 1451 none
  statics := some 0 }

def pool8 : Array CpInfo := pool [(6, .class_ 8), (1, u "java/lang/Object"), (0, u "<init>"), (0, u "()V"), (1, .class_ 14), (1, u "java/lang/StringUTF16"), (31, u "$assertionsDisabled"), (0, u "Z"), (13, u "HI_BYTE_SHIFT"), (0, u "I"), (2, u "LO_BYTE_SHIFT"), (49, .methodref 12 116), (0, .nameAndType 117 118), (0, u "compress"), (0, u "([CI[BII)I"), (3, u "([CII)[B"), (138, u "coderFromArrayLen"), (0, u "([BI)B"), (106, .class_ 371), (1, u "java/lang/StringUTF16$LinesSpliterator"), (58, u "MAX_LENGTH"), (196, .class_ 628), (0, u "java/lang/StringUTF16$CodePointsSpliterator"), (0, .class_ 630), (0, u "java/lang/StringUTF16$CharsSpliterator")] 4

def k8m0 : Method := { name := "<init>", desc := "()V", sig := { parameters := [], returnType := none }, accessFlags := 0, code := none }
def k8c1 : Code := { maxStack := 2, maxLocals := 2, code := jdk_52_method_15_code, exceptionTable := #[], attributes := #[] }
def k8m1 : Method := { name := "coderFromArrayLen", desc := "([BI)B", sig := { parameters := [(.array .byte), .int], returnType := some .byte }, accessFlags := 8, code := some k8c1 }
def k8c2 : Code := { maxStack := 5, maxLocals := 6, code := jdk_52_method_16_code, exceptionTable := #[], attributes := #[] }
def k8m2 : Method := { name := "compress", desc := "([CII)[B", sig := { parameters := [(.array .char), .int, .int], returnType := some (.array .byte) }, accessFlags := 9, code := some k8c2 }
def k8c3 : Code := { maxStack := 3, maxLocals := 7, code := jdk_52_method_21_code, exceptionTable := #[], attributes := #[] }
def k8m3 : Method := { name := "compress", desc := "([CI[BII)I", sig := { parameters := [(.array .char), .int, (.array .byte), .int, .int], returnType := some .int }, accessFlags := 9, code := some k8c3 }
/-- java/lang/StringUTF16 -/
def k8 : Class := { plain "java/lang/StringUTF16" (some 0) with
  accessFlags := 48
  interfaces := #[]
  cf := some (fileOf pool8 12 #[.nestMembers #[627, 629, 369]] #[{ accessFlags := 0, nameIndex := 9, descriptorIndex := 10, attributes := #[] }, { accessFlags := 8, nameIndex := 261, descriptorIndex := 262, attributes := #[] }, { accessFlags := 9, nameIndex := 117, descriptorIndex := 122, attributes := #[] }, { accessFlags := 9, nameIndex := 117, descriptorIndex := 118, attributes := #[] }] 48 6 #[] #[{ accessFlags := 26, nameIndex := 61, descriptorIndex := 62, attributes := #[] }, { accessFlags := 26, nameIndex := 65, descriptorIndex := 62, attributes := #[] }, { accessFlags := 24, nameIndex := 430, descriptorIndex := 62, attributes := #[] }, { accessFlags := 4120, nameIndex := 46, descriptorIndex := 47, attributes := #[] }])
  fields := #[{ name := "HI_BYTE_SHIFT", type := .int, accessFlags := 26, slot := 0, constantValue := 0 }, { name := "LO_BYTE_SHIFT", type := .int, accessFlags := 26, slot := 1, constantValue := 0 }, { name := "MAX_LENGTH", type := .int, accessFlags := 24, slot := 2, constantValue := 0 }, { name := "$assertionsDisabled", type := .boolean, accessFlags := 4120, slot := 3, constantValue := 0 }]
  methods := #[k8m0, k8m1, k8m2, k8m3]
  instanceTypes := #[]
  staticTypes := #[.int, .int, .int, .boolean]
  resolved := Array.replicate 635 none
  statics := none }

def pool9 : Array CpInfo := pool [(1, .methodref 2 3), (0, .class_ 4), (0, .nameAndType 5 6), (0, u "java/lang/Object"), (0, u "<init>"), (0, u "()V"), (0, .fieldref 8 9), (0, .class_ 10), (0, .nameAndType 11 12), (0, u "com/example/malipo/malipo/core/ledger/Payment$Builder"), (0, u "channel"), (0, u "Ljava/lang/String;"), (0, .string 11), (0, .methodref 15 16), (0, .class_ 17), (0, .nameAndType 18 19), (0, u "java/util/Objects"), (0, u "requireNonNull"), (0, u "(Ljava/lang/Object;Ljava/lang/String;)Ljava/lang/Object;"), (0, .class_ 21), (0, u "java/lang/String"), (0, .fieldref 23 9), (0, .class_ 24), (0, u "com/example/malipo/malipo/core/ledger/Payment"), (0, .fieldref 8 26), (0, .nameAndType 27 12), (0, u "orderNo"), (0, .string 27), (0, .fieldref 23 26), (0, .fieldref 8 31), (0, .nameAndType 32 12), (0, u "channelOrderNo"), (0, .string 32), (0, .fieldref 23 31), (0, .fieldref 8 36), (0, .nameAndType 37 38), (0, u "amount"), (0, u "J"), (0, .fieldref 23 36), (0, .fieldref 8 41), (0, .nameAndType 42 12), (0, u "openId"), (0, .fieldref 23 41), (0, .fieldref 8 45), (0, .nameAndType 46 12), (0, u "serverId"), (0, .fieldref 23 45), (0, .fieldref 8 49), (0, .nameAndType 50 12), (0, u "paidAt"), (0, .fieldref 23 49), (0, .fieldref 8 53), (0, .nameAndType 54 12), (0, u "extend"), (0, .fieldref 23 53), (0, .fieldref 8 57), (0, .nameAndType 58 59), (0, u "count"), (0, u "Ljava/lang/Long;"), (0, .fieldref 23 57), (0, .fieldref 8 62), (0, .nameAndType 63 59), (0, u "couponDeduction"), (0, .fieldref 23 62), (0, .methodref 8 66), (0, .nameAndType 5 67), (0, u "(Ljava/lang/String;Ljava/lang/String;Ljava/lang/String;J)V"), (17, u "(Lcom/example/malipo/malipo/core/ledger/Payment$Builder;)V"), (2, u "builder"), (0, u "(Ljava/lang/String;Ljava/lang/String;Ljava/lang/String;J)Lcom/example/malipo/malipo/core/ledger/Payment$Builder;"), (0, u "getChannel"), (0, u "()Ljava/lang/String;"), (0, u "getOrderNo"), (0, u "getChannelOrderNo"), (0, u "getAmount"), (0, u "()J"), (0, u "getOpenId"), (0, u "getServerId"), (0, u "getPaidAt"), (0, u "getExtend"), (0, u "getCount"), (0, u "()Ljava/lang/Long;"), (0, u "getCouponDeduction")] 8

def k9c0 : Code := { maxStack := 3, maxLocals := 2, code := prog_16_method_1_code, exceptionTable := #[], attributes := #[] }
def k9m0 : Method := { name := "<init>", desc := "(Lcom/example/malipo/malipo/core/ledger/Payment$Builder;)V", sig := { parameters := [(.object "com/example/malipo/malipo/core/ledger/Payment$Builder")], returnType := none }, accessFlags := 2, code := some k9c0 }
def k9c1 : Code := { maxStack := 7, maxLocals := 5, code := prog_16_method_2_code, exceptionTable := #[], attributes := #[] }
def k9m1 : Method := { name := "builder", desc := "(Ljava/lang/String;Ljava/lang/String;Ljava/lang/String;J)Lcom/example/malipo/malipo/core/ledger/Payment$Builder;", sig := { parameters := [(.object "java/lang/String"), (.object "java/lang/String"), (.object "java/lang/String"), .long], returnType := some (.object "com/example/malipo/malipo/core/ledger/Payment$Builder") }, accessFlags := 9, code := some k9c1 }
def k9c2 : Code := { maxStack := 1, maxLocals := 1, code := prog_16_method_3_code, exceptionTable := #[], attributes := #[] }
def k9m2 : Method := { name := "getChannel", desc := "()Ljava/lang/String;", sig := { parameters := [], returnType := some (.object "java/lang/String") }, accessFlags := 1, code := some k9c2 }
def k9c3 : Code := { maxStack := 1, maxLocals := 1, code := prog_16_method_4_code, exceptionTable := #[], attributes := #[] }
def k9m3 : Method := { name := "getOrderNo", desc := "()Ljava/lang/String;", sig := { parameters := [], returnType := some (.object "java/lang/String") }, accessFlags := 1, code := some k9c3 }
def k9c4 : Code := { maxStack := 1, maxLocals := 1, code := prog_16_method_5_code, exceptionTable := #[], attributes := #[] }
def k9m4 : Method := { name := "getChannelOrderNo", desc := "()Ljava/lang/String;", sig := { parameters := [], returnType := some (.object "java/lang/String") }, accessFlags := 1, code := some k9c4 }
def k9c5 : Code := { maxStack := 2, maxLocals := 1, code := prog_16_method_6_code, exceptionTable := #[], attributes := #[] }
def k9m5 : Method := { name := "getAmount", desc := "()J", sig := { parameters := [], returnType := some .long }, accessFlags := 1, code := some k9c5 }
def k9c6 : Code := { maxStack := 1, maxLocals := 1, code := prog_16_method_7_code, exceptionTable := #[], attributes := #[] }
def k9m6 : Method := { name := "getOpenId", desc := "()Ljava/lang/String;", sig := { parameters := [], returnType := some (.object "java/lang/String") }, accessFlags := 1, code := some k9c6 }
def k9c7 : Code := { maxStack := 1, maxLocals := 1, code := prog_16_method_8_code, exceptionTable := #[], attributes := #[] }
def k9m7 : Method := { name := "getServerId", desc := "()Ljava/lang/String;", sig := { parameters := [], returnType := some (.object "java/lang/String") }, accessFlags := 1, code := some k9c7 }
def k9c8 : Code := { maxStack := 1, maxLocals := 1, code := prog_16_method_9_code, exceptionTable := #[], attributes := #[] }
def k9m8 : Method := { name := "getPaidAt", desc := "()Ljava/lang/String;", sig := { parameters := [], returnType := some (.object "java/lang/String") }, accessFlags := 1, code := some k9c8 }
def k9c9 : Code := { maxStack := 1, maxLocals := 1, code := prog_16_method_10_code, exceptionTable := #[], attributes := #[] }
def k9m9 : Method := { name := "getExtend", desc := "()Ljava/lang/String;", sig := { parameters := [], returnType := some (.object "java/lang/String") }, accessFlags := 1, code := some k9c9 }
def k9c10 : Code := { maxStack := 1, maxLocals := 1, code := prog_16_method_11_code, exceptionTable := #[], attributes := #[] }
def k9m10 : Method := { name := "getCount", desc := "()Ljava/lang/Long;", sig := { parameters := [], returnType := some (.object "java/lang/Long") }, accessFlags := 1, code := some k9c10 }
def k9c11 : Code := { maxStack := 1, maxLocals := 1, code := prog_16_method_12_code, exceptionTable := #[], attributes := #[] }
def k9m11 : Method := { name := "getCouponDeduction", desc := "()Ljava/lang/Long;", sig := { parameters := [], returnType := some (.object "java/lang/Long") }, accessFlags := 1, code := some k9c11 }
/-- com/example/malipo/malipo/core/ledger/Payment -/
def k9 : Class := { plain "com/example/malipo/malipo/core/ledger/Payment" (some 0) with
  accessFlags := 49
  interfaces := #[]
  cf := some (fileOf pool9 23 #[.nestMembers #[8]] #[{ accessFlags := 2, nameIndex := 5, descriptorIndex := 85, attributes := #[] }, { accessFlags := 9, nameIndex := 88, descriptorIndex := 89, attributes := #[] }, { accessFlags := 1, nameIndex := 90, descriptorIndex := 91, attributes := #[] }, { accessFlags := 1, nameIndex := 92, descriptorIndex := 91, attributes := #[] }, { accessFlags := 1, nameIndex := 93, descriptorIndex := 91, attributes := #[] }, { accessFlags := 1, nameIndex := 94, descriptorIndex := 95, attributes := #[] }, { accessFlags := 1, nameIndex := 96, descriptorIndex := 91, attributes := #[] }, { accessFlags := 1, nameIndex := 97, descriptorIndex := 91, attributes := #[] }, { accessFlags := 1, nameIndex := 98, descriptorIndex := 91, attributes := #[] }, { accessFlags := 1, nameIndex := 99, descriptorIndex := 91, attributes := #[] }, { accessFlags := 1, nameIndex := 100, descriptorIndex := 101, attributes := #[] }, { accessFlags := 1, nameIndex := 102, descriptorIndex := 101, attributes := #[] }] 49 2 #[] #[{ accessFlags := 18, nameIndex := 11, descriptorIndex := 12, attributes := #[] }, { accessFlags := 18, nameIndex := 27, descriptorIndex := 12, attributes := #[] }, { accessFlags := 18, nameIndex := 32, descriptorIndex := 12, attributes := #[] }, { accessFlags := 18, nameIndex := 37, descriptorIndex := 38, attributes := #[] }, { accessFlags := 18, nameIndex := 42, descriptorIndex := 12, attributes := #[] }, { accessFlags := 18, nameIndex := 46, descriptorIndex := 12, attributes := #[] }, { accessFlags := 18, nameIndex := 50, descriptorIndex := 12, attributes := #[] }, { accessFlags := 18, nameIndex := 54, descriptorIndex := 12, attributes := #[] }, { accessFlags := 18, nameIndex := 58, descriptorIndex := 59, attributes := #[] }, { accessFlags := 18, nameIndex := 63, descriptorIndex := 59, attributes := #[] }])
  fields := #[{ name := "channel", type := (.object "java/lang/String"), accessFlags := 18, slot := 0, constantValue := 0 }, { name := "orderNo", type := (.object "java/lang/String"), accessFlags := 18, slot := 1, constantValue := 0 }, { name := "channelOrderNo", type := (.object "java/lang/String"), accessFlags := 18, slot := 2, constantValue := 0 }, { name := "amount", type := .long, accessFlags := 18, slot := 3, constantValue := 0 }, { name := "openId", type := (.object "java/lang/String"), accessFlags := 18, slot := 4, constantValue := 0 }, { name := "serverId", type := (.object "java/lang/String"), accessFlags := 18, slot := 5, constantValue := 0 }, { name := "paidAt", type := (.object "java/lang/String"), accessFlags := 18, slot := 6, constantValue := 0 }, { name := "extend", type := (.object "java/lang/String"), accessFlags := 18, slot := 7, constantValue := 0 }, { name := "count", type := (.object "java/lang/Long"), accessFlags := 18, slot := 8, constantValue := 0 }, { name := "couponDeduction", type := (.object "java/lang/Long"), accessFlags := 18, slot := 9, constantValue := 0 }]
  methods := #[k9m0, k9m1, k9m2, k9m3, k9m4, k9m5, k9m6, k9m7, k9m8, k9m9, k9m10, k9m11]
  instanceTypes := #[(.object "java/lang/String"), (.object "java/lang/String"), (.object "java/lang/String"), .long, (.object "java/lang/String"), (.object "java/lang/String"), (.object "java/lang/String"), (.object "java/lang/String"), (.object "java/lang/Long"), (.object "java/lang/Long")]
  staticTypes := #[]
  resolved := #[none, none, none, none, none, none, none, (some (.field 10 0)), (some (.cls 10)), none, none, none, none, none, none, none, none, none, none, none, none, none, none, none, none, (some (.field 10 1)), none, none, none, none, (some (.field 10 2)), none, none, none, none, (some (.field 10 3)), none, none, none, none, (some (.field 10 4)), none, none, none, (some (.field 10 5)), none, none, none, (some (.field 10 6)), none, none, none, (some (.field 10 7)), none, none, none, (some (.field 10 8)), none, none, none, none, (some (.field 10 9)), none, none, none, (some (.method ⟨10, 0⟩)), none, none, none, none, none, none, none, none, none, none, none, none, none, none, none, none, none, none, none, none, none, none, none, none, none, none, none, none, none, none, none, none, none, none, none, none, none, none, none, none, none, none, none, none, none]
  statics := none }

def pool10 : Array CpInfo := pool [(1, .methodref 2 3), (0, .class_ 4), (0, .nameAndType 5 6), (0, u "java/lang/Object"), (0, u "<init>"), (0, u "()V"), (0, .fieldref 8 9), (0, .class_ 10), (0, .nameAndType 11 12), (0, u "com/example/malipo/malipo/core/ledger/Payment$Builder"), (0, u "channel"), (0, u "Ljava/lang/String;"), (0, .fieldref 8 14), (0, .nameAndType 15 12), (0, u "orderNo"), (0, .fieldref 8 17), (0, .nameAndType 18 12), (0, u "channelOrderNo"), (0, .fieldref 8 20), (0, .nameAndType 21 22), (0, u "amount"), (0, u "J"), (2, u "openId"), (2, u "serverId"), (2, u "paidAt"), (2, u "extend"), (2, u "count"), (0, u "Ljava/lang/Long;"), (2, u "couponDeduction"), (0, .class_ 43), (0, u "com/example/malipo/malipo/core/ledger/Payment"), (0, .methodref 42 45), (0, .nameAndType 5 46), (0, u "(Lcom/example/malipo/malipo/core/ledger/Payment$Builder;)V"), (0, u "(Ljava/lang/String;Ljava/lang/String;Ljava/lang/String;J)V"), (4, u "build"), (0, u "()Lcom/example/malipo/malipo/core/ledger/Payment;")] 5

def k10c0 : Code := { maxStack := 3, maxLocals := 6, code := prog_17_method_1_code, exceptionTable := #[], attributes := #[] }
def k10m0 : Method := { name := "<init>", desc := "(Ljava/lang/String;Ljava/lang/String;Ljava/lang/String;J)V", sig := { parameters := [(.object "java/lang/String"), (.object "java/lang/String"), (.object "java/lang/String"), .long], returnType := none }, accessFlags := 2, code := some k10c0 }
def k10c1 : Code := { maxStack := 3, maxLocals := 1, code := prog_17_method_8_code, exceptionTable := #[], attributes := #[] }
def k10m1 : Method := { name := "build", desc := "()Lcom/example/malipo/malipo/core/ledger/Payment;", sig := { parameters := [], returnType := some (.object "com/example/malipo/malipo/core/ledger/Payment") }, accessFlags := 1, code := some k10c1 }
/-- com/example/malipo/malipo/core/ledger/Payment$Builder -/
def k10 : Class := { plain "com/example/malipo/malipo/core/ledger/Payment$Builder" (some 0) with
  accessFlags := 49
  interfaces := #[]
  cf := some (fileOf pool10 8 #[.nestHost 42] #[{ accessFlags := 2, nameIndex := 5, descriptorIndex := 47, attributes := #[] }, { accessFlags := 1, nameIndex := 52, descriptorIndex := 53, attributes := #[] }] 49 2 #[] #[{ accessFlags := 18, nameIndex := 11, descriptorIndex := 12, attributes := #[] }, { accessFlags := 18, nameIndex := 15, descriptorIndex := 12, attributes := #[] }, { accessFlags := 18, nameIndex := 18, descriptorIndex := 12, attributes := #[] }, { accessFlags := 18, nameIndex := 21, descriptorIndex := 22, attributes := #[] }, { accessFlags := 2, nameIndex := 25, descriptorIndex := 12, attributes := #[] }, { accessFlags := 2, nameIndex := 28, descriptorIndex := 12, attributes := #[] }, { accessFlags := 2, nameIndex := 31, descriptorIndex := 12, attributes := #[] }, { accessFlags := 2, nameIndex := 34, descriptorIndex := 12, attributes := #[] }, { accessFlags := 2, nameIndex := 37, descriptorIndex := 38, attributes := #[] }, { accessFlags := 2, nameIndex := 41, descriptorIndex := 38, attributes := #[] }])
  fields := #[{ name := "channel", type := (.object "java/lang/String"), accessFlags := 18, slot := 0, constantValue := 0 }, { name := "orderNo", type := (.object "java/lang/String"), accessFlags := 18, slot := 1, constantValue := 0 }, { name := "channelOrderNo", type := (.object "java/lang/String"), accessFlags := 18, slot := 2, constantValue := 0 }, { name := "amount", type := .long, accessFlags := 18, slot := 3, constantValue := 0 }, { name := "openId", type := (.object "java/lang/String"), accessFlags := 2, slot := 4, constantValue := 0 }, { name := "serverId", type := (.object "java/lang/String"), accessFlags := 2, slot := 5, constantValue := 0 }, { name := "paidAt", type := (.object "java/lang/String"), accessFlags := 2, slot := 6, constantValue := 0 }, { name := "extend", type := (.object "java/lang/String"), accessFlags := 2, slot := 7, constantValue := 0 }, { name := "count", type := (.object "java/lang/Long"), accessFlags := 2, slot := 8, constantValue := 0 }, { name := "couponDeduction", type := (.object "java/lang/Long"), accessFlags := 2, slot := 9, constantValue := 0 }]
  methods := #[k10m0, k10m1]
  instanceTypes := #[(.object "java/lang/String"), (.object "java/lang/String"), (.object "java/lang/String"), .long, (.object "java/lang/String"), (.object "java/lang/String"), (.object "java/lang/String"), (.object "java/lang/String"), (.object "java/lang/Long"), (.object "java/lang/Long")]
  staticTypes := #[]
  resolved := Array.replicate 59 none
  statics := none }

def pool11 : Array CpInfo := pool [(2, .class_ 4), (1, u "java/lang/Object"), (0, u "<init>"), (0, u "()V"), (35, .class_ 44), (1, u "java/util/Objects"), (0, u "requireNonNull"), (48, u "(Ljava/lang/Object;Ljava/lang/String;)Ljava/lang/Object;")] 89

def k11m0 : Method := { name := "<init>", desc := "()V", sig := { parameters := [], returnType := none }, accessFlags := 2, code := none }
def k11c1 : Code := { maxStack := 3, maxLocals := 2, code := jdk_31_method_11_code, exceptionTable := #[], attributes := #[] }
def k11m1 : Method := { name := "requireNonNull", desc := "(Ljava/lang/Object;Ljava/lang/String;)Ljava/lang/Object;", sig := { parameters := [(.object "java/lang/Object"), (.object "java/lang/String")], returnType := some (.object "java/lang/Object") }, accessFlags := 9, code := some k11c1 }
/-- java/util/Objects -/
def k11 : Class := { plain "java/util/Objects" (some 0) with
  accessFlags := 49
  interfaces := #[]
  cf := some (fileOf pool11 42 #[] #[{ accessFlags := 2, nameIndex := 5, descriptorIndex := 6, attributes := #[] }, { accessFlags := 9, nameIndex := 45, descriptorIndex := 94, attributes := #[] }] 49 2 #[] #[])
  fields := #[]
  methods := #[k11m0, k11m1]
  instanceTypes := #[]
  staticTypes := #[]
  resolved := Array.replicate 184 none
  statics := none }

def pool12 : Array CpInfo := pool [(4, .class_ 6), (1, u "java/lang/Object"), (0, u "<init>"), (0, u "()V"), (5, .class_ 16), (1, u "java/lang/StringLatin1"), (104, u "$assertionsDisabled"), (0, u "Z"), (98, .class_ 223), (1, u "java/lang/StringLatin1$LinesSpliterator"), (166, .class_ 391), (0, u "java/lang/StringLatin1$CharsSpliterator")] 3

def k12m0 : Method := { name := "<init>", desc := "()V", sig := { parameters := [], returnType := none }, accessFlags := 0, code := none }
/-- java/lang/StringLatin1 -/
def k12 : Class := { plain "java/lang/StringLatin1" (some 0) with
  accessFlags := 48
  interfaces := #[]
  cf := some (fileOf pool12 14 #[.nestMembers #[390, 221]] #[{ accessFlags := 0, nameIndex := 7, descriptorIndex := 8, attributes := #[] }] 48 4 #[] #[{ accessFlags := 4120, nameIndex := 121, descriptorIndex := 122, attributes := #[] }])
  fields := #[{ name := "$assertionsDisabled", type := .boolean, accessFlags := 4120, slot := 0, constantValue := 0 }]
  methods := #[k12m0]
  instanceTypes := #[]
  staticTypes := #[.boolean]
  resolved := Array.replicate 395 none
  statics := none }

def pool13 : Array CpInfo := pool [(2, .class_ 4), (1, u "java/lang/Object"), (0, u "<init>"), (0, u "()V"), (17, .class_ 26), (1, u "jdk/internal/util/Preconditions"), (28, .class_ 56), (0, u "jdk/internal/util/Preconditions$4"), (57, .class_ 115), (0, u "jdk/internal/util/Preconditions$1"), (7, u "SIOOBE_FORMATTER"), (0, u "Ljava/util/function/BiFunction;"), (0, .class_ 126), (0, u "jdk/internal/util/Preconditions$2"), (3, u "AIOOBE_FORMATTER"), (0, .class_ 132), (0, u "jdk/internal/util/Preconditions$3"), (3, u "IOOBE_FORMATTER")] 57

def k13m0 : Method := { name := "<init>", desc := "()V", sig := { parameters := [], returnType := none }, accessFlags := 1, code := none }
/-- jdk/internal/util/Preconditions -/
def k13 : Class := { plain "jdk/internal/util/Preconditions" (some 0) with
  accessFlags := 33
  interfaces := #[]
  cf := some (fileOf pool13 24 #[.nestMembers #[55, 131, 125, 114]] #[{ accessFlags := 1, nameIndex := 5, descriptorIndex := 6, attributes := #[] }] 33 2 #[] #[{ accessFlags := 25, nameIndex := 123, descriptorIndex := 124, attributes := #[] }, { accessFlags := 25, nameIndex := 130, descriptorIndex := 124, attributes := #[] }, { accessFlags := 25, nameIndex := 136, descriptorIndex := 124, attributes := #[] }])
  fields := #[{ name := "SIOOBE_FORMATTER", type := (.object "java/util/function/BiFunction"), accessFlags := 25, slot := 0, constantValue := 0 }, { name := "AIOOBE_FORMATTER", type := (.object "java/util/function/BiFunction"), accessFlags := 25, slot := 1, constantValue := 0 }, { name := "IOOBE_FORMATTER", type := (.object "java/util/function/BiFunction"), accessFlags := 25, slot := 2, constantValue := 0 }]
  methods := #[k13m0]
  instanceTypes := #[]
  staticTypes := #[(.object "java/util/function/BiFunction"), (.object "java/util/function/BiFunction"), (.object "java/util/function/BiFunction")]
  resolved := Array.replicate 194 none
  statics := some 1 }

def pool14 : Array CpInfo := pool [(9, u "<init>"), (6, .class_ 18), (1, u "java/lang/Object"), (0, u "()V"), (1, .class_ 23), (1, u "jdk/internal/util/ArraysSupport"), (0, u "LOG2_ARRAY_LONG_INDEX_SCALE"), (0, u "I"), (2, u "U"), (0, u "Ljdk/internal/misc/Unsafe;"), (8, u "BIG_ENDIAN"), (0, u "Z"), (8, u "LOG2_BYTE_BIT_SIZE"), (4, u "LOG2_ARRAY_INT_INDEX_SCALE"), (54, u "JLA"), (0, u "Ljdk/internal/access/JavaLangAccess;"), (11, u "LOG2_ARRAY_BOOLEAN_INDEX_SCALE"), (9, u "LOG2_ARRAY_BYTE_INDEX_SCALE"), (5, u "LOG2_ARRAY_CHAR_INDEX_SCALE"), (5, u "LOG2_ARRAY_SHORT_INDEX_SCALE"), (18, u "LOG2_ARRAY_FLOAT_INDEX_SCALE"), (24, u "LOG2_ARRAY_DOUBLE_INDEX_SCALE"), (89, u "T_BOOLEAN"), (2, u "T_CHAR"), (1, u "T_FLOAT"), (1, u "T_DOUBLE"), (1, u "T_BYTE"), (1, u "T_SHORT"), (1, u "T_INT"), (1, u "T_LONG"), (1, u "SOFT_MAX_ARRAY_LENGTH")] 83

def k14m0 : Method := { name := "<init>", desc := "()V", sig := { parameters := [], returnType := none }, accessFlags := 2, code := none }
/-- jdk/internal/util/ArraysSupport -/
def k14 : Class := { plain "jdk/internal/util/ArraysSupport" (some 0) with
  accessFlags := 33
  interfaces := #[]
  cf := some (fileOf pool14 21 #[] #[{ accessFlags := 2, nameIndex := 9, descriptorIndex := 19, attributes := #[] }] 33 16 #[] #[{ accessFlags := 24, nameIndex := 28, descriptorIndex := 29, attributes := #[] }, { accessFlags := 26, nameIndex := 38, descriptorIndex := 39, attributes := #[] }, { accessFlags := 25, nameIndex := 121, descriptorIndex := 25, attributes := #[] }, { accessFlags := 25, nameIndex := 131, descriptorIndex := 25, attributes := #[] }, { accessFlags := 25, nameIndex := 137, descriptorIndex := 25, attributes := #[] }, { accessFlags := 25, nameIndex := 143, descriptorIndex := 25, attributes := #[] }, { accessFlags := 25, nameIndex := 53, descriptorIndex := 25, attributes := #[] }, { accessFlags := 25, nameIndex := 24, descriptorIndex := 25, attributes := #[] }, { accessFlags := 25, nameIndex := 162, descriptorIndex := 25, attributes := #[] }, { accessFlags := 25, nameIndex := 187, descriptorIndex := 25, attributes := #[] }, { accessFlags := 26, nameIndex := 48, descriptorIndex := 25, attributes := #[] }, { accessFlags := 25, nameIndex := 277, descriptorIndex := 25, attributes := #[] }, { accessFlags := 25, nameIndex := 280, descriptorIndex := 25, attributes := #[] }, { accessFlags := 25, nameIndex := 282, descriptorIndex := 25, attributes := #[] }, { accessFlags := 25, nameIndex := 284, descriptorIndex := 25, attributes := #[] }, { accessFlags := 25, nameIndex := 286, descriptorIndex := 25, attributes := #[] }, { accessFlags := 25, nameIndex := 288, descriptorIndex := 25, attributes := #[] }, { accessFlags := 25, nameIndex := 290, descriptorIndex := 25, attributes := #[] }, { accessFlags := 25, nameIndex := 292, descriptorIndex := 25, attributes := #[] }, { accessFlags := 26, nameIndex := 108, descriptorIndex := 109, attributes := #[] }, { accessFlags := 25, nameIndex := 294, descriptorIndex := 25, attributes := #[] }])
  fields := #[{ name := "U", type := (.object "jdk/internal/misc/Unsafe"), accessFlags := 24, slot := 0, constantValue := 0 }, { name := "BIG_ENDIAN", type := .boolean, accessFlags := 26, slot := 1, constantValue := 0 }, { name := "LOG2_ARRAY_BOOLEAN_INDEX_SCALE", type := .int, accessFlags := 25, slot := 2, constantValue := 0 }, { name := "LOG2_ARRAY_BYTE_INDEX_SCALE", type := .int, accessFlags := 25, slot := 3, constantValue := 0 }, { name := "LOG2_ARRAY_CHAR_INDEX_SCALE", type := .int, accessFlags := 25, slot := 4, constantValue := 0 }, { name := "LOG2_ARRAY_SHORT_INDEX_SCALE", type := .int, accessFlags := 25, slot := 5, constantValue := 0 }, { name := "LOG2_ARRAY_INT_INDEX_SCALE", type := .int, accessFlags := 25, slot := 6, constantValue := 0 }, { name := "LOG2_ARRAY_LONG_INDEX_SCALE", type := .int, accessFlags := 25, slot := 7, constantValue := 0 }, { name := "LOG2_ARRAY_FLOAT_INDEX_SCALE", type := .int, accessFlags := 25, slot := 8, constantValue := 0 }, { name := "LOG2_ARRAY_DOUBLE_INDEX_SCALE", type := .int, accessFlags := 25, slot := 9, constantValue := 0 }, { name := "LOG2_BYTE_BIT_SIZE", type := .int, accessFlags := 26, slot := 10, constantValue := 0 }, { name := "T_BOOLEAN", type := .int, accessFlags := 25, slot := 11, constantValue := 0 }, { name := "T_CHAR", type := .int, accessFlags := 25, slot := 12, constantValue := 0 }, { name := "T_FLOAT", type := .int, accessFlags := 25, slot := 13, constantValue := 0 }, { name := "T_DOUBLE", type := .int, accessFlags := 25, slot := 14, constantValue := 0 }, { name := "T_BYTE", type := .int, accessFlags := 25, slot := 15, constantValue := 0 }, { name := "T_SHORT", type := .int, accessFlags := 25, slot := 16, constantValue := 0 }, { name := "T_INT", type := .int, accessFlags := 25, slot := 17, constantValue := 0 }, { name := "T_LONG", type := .int, accessFlags := 25, slot := 18, constantValue := 0 }, { name := "JLA", type := (.object "jdk/internal/access/JavaLangAccess"), accessFlags := 26, slot := 19, constantValue := 0 }, { name := "SOFT_MAX_ARRAY_LENGTH", type := .int, accessFlags := 25, slot := 20, constantValue := 0 }]
  methods := #[k14m0]
  instanceTypes := #[]
  staticTypes := #[(.object "jdk/internal/misc/Unsafe"), .boolean, .int, .int, .int, .int, .int, .int, .int, .int, .int, .int, .int, .int, .int, .int, .int, .int, .int, (.object "jdk/internal/access/JavaLangAccess"), .int]
  resolved := Array.replicate 378 none
  statics := none }

def pool15 : Array CpInfo := pool [(1, u "java/lang/Cloneable"), (0, .class_ 1), (0, u "java/lang/Object"), (0, .class_ 3)] 3

/-- java/lang/Cloneable -/
def k15 : Class := { plain "java/lang/Cloneable" (some 0) with
  accessFlags := 1537
  interfaces := #[]
  cf := some (fileOf pool15 2 #[] #[] 1537 4 #[] #[])
  fields := #[]
  methods := #[]
  instanceTypes := #[]
  staticTypes := #[]
  resolved := Array.replicate 8 none
  statics := none }

/-- the primitive byte -/
def k16 : Class := { plain "byte" none with kind := .primitive 'B', accessFlags := 0x411 }
/-- [B -/
def k17 : Class := { plain "[B" (some 0) with kind := .array 16 .byte, interfaces := #[15, 2], accessFlags := 1041 }

/-- the primitive char -/
def k18 : Class := { plain "char" none with kind := .primitive 'C', accessFlags := 0x411 }
/-- [C -/
def k19 : Class := { plain "[C" (some 0) with kind := .array 18 .char, interfaces := #[15, 2], accessFlags := 1041 }

/-- the primitive int -/
def k20 : Class := { plain "int" none with kind := .primitive 'I', accessFlags := 0x411 }
/-- [I -/
def k21 : Class := { plain "[I" (some 0) with kind := .array 20 .int, interfaces := #[15, 2], accessFlags := 1041 }

def heap : Heap := #[{ cls := 7, slots := #[.long 0, .int 1, .null, .int 0, .null, .int 0, .int 0], vm := .statics 7 },
  { cls := 13, slots := #[.null, .null, .null], vm := .statics 13 }]
def classes : Array Class := #[k0, k1, k2, k3, k4, k5, k6, k7, k8, k9, k10, k11, k12, k13, k14, k15, k16, k17, k18, k19, k20, k21]
def interned : List (Array UInt16 × Addr) := []
def slotsUsed : Nat := 10
def theMethod : MethodId := ⟨1, 2⟩
def args0 : Array Value := #[.int 5, .int 6, .int 7, .long 8]
def aboutOver (below : List Frame) : State where
  vm := { classes := classes, interned := interned.toArray }
  heap := heap
  slotsUsed := slotsUsed
  threads := #[{ frames := .invoking theMethod args0 :: below }]
def below0 : List Frame := [.native { method := ⟨0, 0⟩, args := #[] }]
def about1 : State := aboutOver below0
def p0 : Program := .bare "" "" ""
def e0 : Env := launch0.env 0 0 0
theorem w_frames : about1.frames = Frame.invoking theMethod args0 :: below0 := rfl
set_option maxRecDepth 65536 in
theorem w_args : argsFit about1.vm theMethod args0 = true := by decide +kernel
set_option maxRecDepth 65536 in
theorem w_heap : heapFits about1 = true := by decide +kernel
set_option maxRecDepth 65536 in
theorem w_runnable : about1.curStatus? = some .runnable := by decide +kernel
set_option maxRecDepth 65536 in
theorem w_alone : about1.alone = true := by decide +kernel
set_option maxRecDepth 65536 in
theorem w_named : about1.methodNamed? x = some theMethod := by decide +kernel
set_option maxRecDepth 65536 in
theorem w_hears : about1.hears theMethod below0 = true := by decide +kernel
set_option maxRecDepth 65536 in
theorem w_ripe : about1.ripe theMethod args0 below0 = true := by decide +kernel
theorem w_running : about1.status = .running := rfl
set_option maxRecDepth 65536 in
theorem w_room : about1.hasRoom e0.platform room_1 = true :=
  launch0.hasRoom_least _ room_1 (by decide +kernel) (by decide +kernel) (by decide +kernel) (by decide +kernel) (by decide +kernel) (by decide +kernel)
theorem allAtoms_all (ts : List Jvm.Cond) (a : Array Jvm.Value) (st : Jvm.State) : (allAtoms ts).before a st = ts.all (fun c => c.before a st) := by
  induction ts with
  | nil => rfl
  | cons c t ih =>
    show (Jvm.Cond.and c (allAtoms t)).before a st = _
    rw [Jvm.Cond.before_and, ih, List.all_cons]
def words1 : List Jvm.Cond := Jvm.Cond.code x code maxLocals ret :: tables_1
/-- a 'code' word, met by the world's own term for the bytes: nothing is compared byte by byte -/
theorem code_word {y : MethodName} {bytes : ByteArray} {mx : Nat} {rt : Option FieldType} {a : Array Value} {s : State} {m : MethodId} {meth : Method} {c : Code} (h1 : s.methodNamed? y = some m) (h2 : s.vm.method? m = some meth) (h3 : meth.code = some c) (h4 : c.code = bytes)
    (h5 : (c.maxLocals == mx && c.exceptionTable.isEmpty && decide (c.maxStack ≤ mostOperands) && decide (meth.sig.returnType = rt) && !meth.locks && decide (parseMethodDescriptor y.desc = some meth.sig)) = true) : (Jvm.Cond.code y bytes mx rt).before a s = true := by
  simp only [Bool.and_eq_true, beq_iff_eq, Bool.not_eq_true', decide_eq_true_eq] at h5
  obtain ⟨⟨⟨⟨⟨g1, g2⟩, g3⟩, g4⟩, g5⟩, g6⟩ := h5
  simp [Cond.before, Cond.holds, Cond.value, h1, h2, h3, h4, g1, g2, g3, g4, g5, g6]
def isCode : Jvm.Cond → Bool
  | .code _ _ _ _ => true
  | _ => false
theorem all_split {L : List Jvm.Cond} {P : Jvm.Cond → Bool} (h1 : L.all (fun c => isCode c || P c) = true) (h2 : ∀ c ∈ L.filter isCode, P c = true) : L.all P = true := by
  refine List.all_eq_true.mpr fun c hc => ?_
  have h := List.all_eq_true.mp h1 c hc
  rcases Bool.eq_false_or_eq_true (isCode c) with hi | hi
  · exact h2 c (List.mem_filter.mpr ⟨hc, hi⟩)
  · simpa [hi] using h
set_option maxRecDepth 65536 in
theorem w_c0 : (Jvm.Cond.code x code maxLocals ret).before args0 about1 = true := code_word (m := ⟨1, 2⟩) (meth := k1m2) (c := k1c2) (by decide +kernel) rfl rfl rfl (by decide +kernel)
set_option maxRecDepth 65536 in
theorem w_c1 : (Jvm.Cond.code ({ cls := "com/example/malipo/malipo/core/ledger/PaymentBuilderPinLaw", name := "str", desc := "(I)Ljava/lang/String;" } : Jvm.MethodName) method_2_code (2 : Nat) (Option.some (Jvm.ClassFile.FieldType.object "java/lang/String"))).before args0 about1 = true := code_word (m := ⟨1, 1⟩) (meth := k1m1) (c := k1c1) (by decide +kernel) rfl rfl rfl (by decide +kernel)
set_option maxRecDepth 65536 in
theorem w_c2 : (Jvm.Cond.code ({ cls := "java/lang/String", name := "<init>", desc := "([C)V" } : Jvm.MethodName) jdk_42_method_3_code (2 : Nat) (Option.none : Option Jvm.ClassFile.FieldType)).before args0 about1 = true := code_word (m := ⟨7, 1⟩) (meth := k7m1) (c := k7c1) (by decide +kernel) rfl rfl rfl (by decide +kernel)
set_option maxRecDepth 65536 in
theorem w_c3 : (Jvm.Cond.code ({ cls := "java/lang/String", name := "<init>", desc := "([CIILjava/lang/Void;)V" } : Jvm.MethodName) jdk_42_method_149_code (6 : Nat) (Option.none : Option Jvm.ClassFile.FieldType)).before args0 about1 = true := code_word (m := ⟨7, 3⟩) (meth := k7m3) (c := k7c3) (by decide +kernel) rfl rfl rfl (by decide +kernel)
set_option maxRecDepth 65536 in
theorem w_c4 : (Jvm.Cond.code ({ cls := "java/lang/Object", name := "<init>", desc := "()V" } : Jvm.MethodName) object_method_1_code (1 : Nat) (Option.none : Option Jvm.ClassFile.FieldType)).before args0 about1 = true := code_word (m := ⟨0, 0⟩) (meth := k0m0) (c := k0c0) (by decide +kernel) rfl rfl rfl (by decide +kernel)
set_option maxRecDepth 65536 in
theorem w_c5 : (Jvm.Cond.code ({ cls := "java/lang/StringUTF16", name := "compress", desc := "([CII)[B" } : Jvm.MethodName) jdk_52_method_16_code (6 : Nat) (Option.some (Jvm.ClassFile.FieldType.array Jvm.ClassFile.FieldType.byte))).before args0 about1 = true := code_word (m := ⟨8, 2⟩) (meth := k8m2) (c := k8c2) (by decide +kernel) rfl rfl rfl (by decide +kernel)
set_option maxRecDepth 65536 in
theorem w_c6 : (Jvm.Cond.code ({ cls := "java/lang/StringUTF16", name := "compress", desc := "([CI[BII)I" } : Jvm.MethodName) jdk_52_method_21_code (7 : Nat) (Option.some Jvm.ClassFile.FieldType.int)).before args0 about1 = true := code_word (m := ⟨8, 3⟩) (meth := k8m3) (c := k8c3) (by decide +kernel) rfl rfl rfl (by decide +kernel)
set_option maxRecDepth 65536 in
theorem w_c7 : (Jvm.Cond.code ({ cls := "java/lang/StringUTF16", name := "coderFromArrayLen", desc := "([BI)B" } : Jvm.MethodName) jdk_52_method_15_code (2 : Nat) (Option.some Jvm.ClassFile.FieldType.byte)).before args0 about1 = true := code_word (m := ⟨8, 1⟩) (meth := k8m1) (c := k8c1) (by decide +kernel) rfl rfl rfl (by decide +kernel)
set_option maxRecDepth 65536 in
theorem w_c8 : (Jvm.Cond.code ({ cls := "com/example/malipo/malipo/core/ledger/Payment", name := "builder", desc := "(Ljava/lang/String;Ljava/lang/String;Ljava/lang/String;J)Lcom/example/malipo/malipo/core/ledger/Payment$Builder;" } : Jvm.MethodName) prog_16_method_2_code (5 : Nat) (Option.some (Jvm.ClassFile.FieldType.object "com/example/malipo/malipo/core/ledger/Payment$Builder"))).before args0 about1 = true := code_word (m := ⟨9, 1⟩) (meth := k9m1) (c := k9c1) (by decide +kernel) rfl rfl rfl (by decide +kernel)
set_option maxRecDepth 65536 in
theorem w_c9 : (Jvm.Cond.code ({ cls := "com/example/malipo/malipo/core/ledger/Payment$Builder", name := "<init>", desc := "(Ljava/lang/String;Ljava/lang/String;Ljava/lang/String;J)V" } : Jvm.MethodName) prog_17_method_1_code (6 : Nat) (Option.none : Option Jvm.ClassFile.FieldType)).before args0 about1 = true := code_word (m := ⟨10, 0⟩) (meth := k10m0) (c := k10c0) (by decide +kernel) rfl rfl rfl (by decide +kernel)
set_option maxRecDepth 65536 in
theorem w_c10 : (Jvm.Cond.code ({ cls := "com/example/malipo/malipo/core/ledger/Payment$Builder", name := "build", desc := "()Lcom/example/malipo/malipo/core/ledger/Payment;" } : Jvm.MethodName) prog_17_method_8_code (1 : Nat) (Option.some (Jvm.ClassFile.FieldType.object "com/example/malipo/malipo/core/ledger/Payment"))).before args0 about1 = true := code_word (m := ⟨10, 1⟩) (meth := k10m1) (c := k10c1) (by decide +kernel) rfl rfl rfl (by decide +kernel)
set_option maxRecDepth 65536 in
theorem w_c11 : (Jvm.Cond.code ({ cls := "com/example/malipo/malipo/core/ledger/Payment", name := "<init>", desc := "(Lcom/example/malipo/malipo/core/ledger/Payment$Builder;)V" } : Jvm.MethodName) prog_16_method_1_code (2 : Nat) (Option.none : Option Jvm.ClassFile.FieldType)).before args0 about1 = true := code_word (m := ⟨9, 0⟩) (meth := k9m0) (c := k9c0) (by decide +kernel) rfl rfl rfl (by decide +kernel)
set_option maxRecDepth 65536 in
theorem w_c12 : (Jvm.Cond.code ({ cls := "java/util/Objects", name := "requireNonNull", desc := "(Ljava/lang/Object;Ljava/lang/String;)Ljava/lang/Object;" } : Jvm.MethodName) jdk_31_method_11_code (2 : Nat) (Option.some (Jvm.ClassFile.FieldType.object "java/lang/Object"))).before args0 about1 = true := code_word (m := ⟨11, 1⟩) (meth := k11m1) (c := k11c1) (by decide +kernel) rfl rfl rfl (by decide +kernel)
set_option maxRecDepth 65536 in
theorem w_c13 : (Jvm.Cond.code ({ cls := "com/example/malipo/malipo/core/ledger/Payment", name := "getChannel", desc := "()Ljava/lang/String;" } : Jvm.MethodName) prog_16_method_3_code (1 : Nat) (Option.some (Jvm.ClassFile.FieldType.object "java/lang/String"))).before args0 about1 = true := code_word (m := ⟨9, 2⟩) (meth := k9m2) (c := k9c2) (by decide +kernel) rfl rfl rfl (by decide +kernel)
set_option maxRecDepth 65536 in
theorem w_c14 : (Jvm.Cond.code ({ cls := "java/lang/String", name := "equals", desc := "(Ljava/lang/Object;)Z" } : Jvm.MethodName) jdk_42_method_66_code (3 : Nat) (Option.some Jvm.ClassFile.FieldType.boolean)).before args0 about1 = true := code_word (m := ⟨7, 2⟩) (meth := k7m2) (c := k7c2) (by decide +kernel) rfl rfl rfl (by decide +kernel)
set_option maxRecDepth 65536 in
theorem w_c15 : (Jvm.Cond.code ({ cls := "com/example/malipo/malipo/core/ledger/Payment", name := "getOrderNo", desc := "()Ljava/lang/String;" } : Jvm.MethodName) prog_16_method_4_code (1 : Nat) (Option.some (Jvm.ClassFile.FieldType.object "java/lang/String"))).before args0 about1 = true := code_word (m := ⟨9, 3⟩) (meth := k9m3) (c := k9c3) (by decide +kernel) rfl rfl rfl (by decide +kernel)
set_option maxRecDepth 65536 in
theorem w_c16 : (Jvm.Cond.code ({ cls := "com/example/malipo/malipo/core/ledger/Payment", name := "getChannelOrderNo", desc := "()Ljava/lang/String;" } : Jvm.MethodName) prog_16_method_5_code (1 : Nat) (Option.some (Jvm.ClassFile.FieldType.object "java/lang/String"))).before args0 about1 = true := code_word (m := ⟨9, 4⟩) (meth := k9m4) (c := k9c4) (by decide +kernel) rfl rfl rfl (by decide +kernel)
set_option maxRecDepth 65536 in
theorem w_c17 : (Jvm.Cond.code ({ cls := "com/example/malipo/malipo/core/ledger/Payment", name := "getAmount", desc := "()J" } : Jvm.MethodName) prog_16_method_6_code (1 : Nat) (Option.some Jvm.ClassFile.FieldType.long)).before args0 about1 = true := code_word (m := ⟨9, 5⟩) (meth := k9m5) (c := k9c5) (by decide +kernel) rfl rfl rfl (by decide +kernel)
set_option maxRecDepth 65536 in
theorem w_c18 : (Jvm.Cond.code ({ cls := "com/example/malipo/malipo/core/ledger/Payment", name := "getOpenId", desc := "()Ljava/lang/String;" } : Jvm.MethodName) prog_16_method_7_code (1 : Nat) (Option.some (Jvm.ClassFile.FieldType.object "java/lang/String"))).before args0 about1 = true := code_word (m := ⟨9, 6⟩) (meth := k9m6) (c := k9c6) (by decide +kernel) rfl rfl rfl (by decide +kernel)
set_option maxRecDepth 65536 in
theorem w_c19 : (Jvm.Cond.code ({ cls := "com/example/malipo/malipo/core/ledger/Payment", name := "getServerId", desc := "()Ljava/lang/String;" } : Jvm.MethodName) prog_16_method_8_code (1 : Nat) (Option.some (Jvm.ClassFile.FieldType.object "java/lang/String"))).before args0 about1 = true := code_word (m := ⟨9, 7⟩) (meth := k9m7) (c := k9c7) (by decide +kernel) rfl rfl rfl (by decide +kernel)
set_option maxRecDepth 65536 in
theorem w_c20 : (Jvm.Cond.code ({ cls := "com/example/malipo/malipo/core/ledger/Payment", name := "getPaidAt", desc := "()Ljava/lang/String;" } : Jvm.MethodName) prog_16_method_9_code (1 : Nat) (Option.some (Jvm.ClassFile.FieldType.object "java/lang/String"))).before args0 about1 = true := code_word (m := ⟨9, 8⟩) (meth := k9m8) (c := k9c8) (by decide +kernel) rfl rfl rfl (by decide +kernel)
set_option maxRecDepth 65536 in
theorem w_c21 : (Jvm.Cond.code ({ cls := "com/example/malipo/malipo/core/ledger/Payment", name := "getExtend", desc := "()Ljava/lang/String;" } : Jvm.MethodName) prog_16_method_10_code (1 : Nat) (Option.some (Jvm.ClassFile.FieldType.object "java/lang/String"))).before args0 about1 = true := code_word (m := ⟨9, 9⟩) (meth := k9m9) (c := k9c9) (by decide +kernel) rfl rfl rfl (by decide +kernel)
set_option maxRecDepth 65536 in
theorem w_c22 : (Jvm.Cond.code ({ cls := "com/example/malipo/malipo/core/ledger/Payment", name := "getCount", desc := "()Ljava/lang/Long;" } : Jvm.MethodName) prog_16_method_11_code (1 : Nat) (Option.some (Jvm.ClassFile.FieldType.object "java/lang/Long"))).before args0 about1 = true := code_word (m := ⟨9, 10⟩) (meth := k9m10) (c := k9c10) (by decide +kernel) rfl rfl rfl (by decide +kernel)
set_option maxRecDepth 65536 in
theorem w_c23 : (Jvm.Cond.code ({ cls := "com/example/malipo/malipo/core/ledger/Payment", name := "getCouponDeduction", desc := "()Ljava/lang/Long;" } : Jvm.MethodName) prog_16_method_12_code (1 : Nat) (Option.some (Jvm.ClassFile.FieldType.object "java/lang/Long"))).before args0 about1 = true := code_word (m := ⟨9, 11⟩) (meth := k9m11) (c := k9c11) (by decide +kernel) rfl rfl rfl (by decide +kernel)
def codes1 : List Jvm.Cond := [Jvm.Cond.code x code maxLocals ret, Jvm.Cond.code ({ cls := "com/example/malipo/malipo/core/ledger/PaymentBuilderPinLaw", name := "str", desc := "(I)Ljava/lang/String;" } : Jvm.MethodName) method_2_code (2 : Nat) (Option.some (Jvm.ClassFile.FieldType.object "java/lang/String")), Jvm.Cond.code ({ cls := "java/lang/String", name := "<init>", desc := "([C)V" } : Jvm.MethodName) jdk_42_method_3_code (2 : Nat) (Option.none : Option Jvm.ClassFile.FieldType), Jvm.Cond.code ({ cls := "java/lang/String", name := "<init>", desc := "([CIILjava/lang/Void;)V" } : Jvm.MethodName) jdk_42_method_149_code (6 : Nat) (Option.none : Option Jvm.ClassFile.FieldType), Jvm.Cond.code ({ cls := "java/lang/Object", name := "<init>", desc := "()V" } : Jvm.MethodName) object_method_1_code (1 : Nat) (Option.none : Option Jvm.ClassFile.FieldType), Jvm.Cond.code ({ cls := "java/lang/StringUTF16", name := "compress", desc := "([CII)[B" } : Jvm.MethodName) jdk_52_method_16_code (6 : Nat) (Option.some (Jvm.ClassFile.FieldType.array Jvm.ClassFile.FieldType.byte)), Jvm.Cond.code ({ cls := "java/lang/StringUTF16", name := "compress", desc := "([CI[BII)I" } : Jvm.MethodName) jdk_52_method_21_code (7 : Nat) (Option.some Jvm.ClassFile.FieldType.int), Jvm.Cond.code ({ cls := "java/lang/StringUTF16", name := "coderFromArrayLen", desc := "([BI)B" } : Jvm.MethodName) jdk_52_method_15_code (2 : Nat) (Option.some Jvm.ClassFile.FieldType.byte), Jvm.Cond.code ({ cls := "com/example/malipo/malipo/core/ledger/Payment", name := "builder", desc := "(Ljava/lang/String;Ljava/lang/String;Ljava/lang/String;J)Lcom/example/malipo/malipo/core/ledger/Payment$Builder;" } : Jvm.MethodName) prog_16_method_2_code (5 : Nat) (Option.some (Jvm.ClassFile.FieldType.object "com/example/malipo/malipo/core/ledger/Payment$Builder")), Jvm.Cond.code ({ cls := "com/example/malipo/malipo/core/ledger/Payment$Builder", name := "<init>", desc := "(Ljava/lang/String;Ljava/lang/String;Ljava/lang/String;J)V" } : Jvm.MethodName) prog_17_method_1_code (6 : Nat) (Option.none : Option Jvm.ClassFile.FieldType), Jvm.Cond.code ({ cls := "com/example/malipo/malipo/core/ledger/Payment$Builder", name := "build", desc := "()Lcom/example/malipo/malipo/core/ledger/Payment;" } : Jvm.MethodName) prog_17_method_8_code (1 : Nat) (Option.some (Jvm.ClassFile.FieldType.object "com/example/malipo/malipo/core/ledger/Payment")), Jvm.Cond.code ({ cls := "com/example/malipo/malipo/core/ledger/Payment", name := "<init>", desc := "(Lcom/example/malipo/malipo/core/ledger/Payment$Builder;)V" } : Jvm.MethodName) prog_16_method_1_code (2 : Nat) (Option.none : Option Jvm.ClassFile.FieldType), Jvm.Cond.code ({ cls := "java/util/Objects", name := "requireNonNull", desc := "(Ljava/lang/Object;Ljava/lang/String;)Ljava/lang/Object;" } : Jvm.MethodName) jdk_31_method_11_code (2 : Nat) (Option.some (Jvm.ClassFile.FieldType.object "java/lang/Object")), Jvm.Cond.code ({ cls := "com/example/malipo/malipo/core/ledger/Payment", name := "getChannel", desc := "()Ljava/lang/String;" } : Jvm.MethodName) prog_16_method_3_code (1 : Nat) (Option.some (Jvm.ClassFile.FieldType.object "java/lang/String")), Jvm.Cond.code ({ cls := "java/lang/String", name := "equals", desc := "(Ljava/lang/Object;)Z" } : Jvm.MethodName) jdk_42_method_66_code (3 : Nat) (Option.some Jvm.ClassFile.FieldType.boolean), Jvm.Cond.code ({ cls := "com/example/malipo/malipo/core/ledger/Payment", name := "getOrderNo", desc := "()Ljava/lang/String;" } : Jvm.MethodName) prog_16_method_4_code (1 : Nat) (Option.some (Jvm.ClassFile.FieldType.object "java/lang/String")), Jvm.Cond.code ({ cls := "com/example/malipo/malipo/core/ledger/Payment", name := "getChannelOrderNo", desc := "()Ljava/lang/String;" } : Jvm.MethodName) prog_16_method_5_code (1 : Nat) (Option.some (Jvm.ClassFile.FieldType.object "java/lang/String")), Jvm.Cond.code ({ cls := "com/example/malipo/malipo/core/ledger/Payment", name := "getAmount", desc := "()J" } : Jvm.MethodName) prog_16_method_6_code (1 : Nat) (Option.some Jvm.ClassFile.FieldType.long), Jvm.Cond.code ({ cls := "com/example/malipo/malipo/core/ledger/Payment", name := "getOpenId", desc := "()Ljava/lang/String;" } : Jvm.MethodName) prog_16_method_7_code (1 : Nat) (Option.some (Jvm.ClassFile.FieldType.object "java/lang/String")), Jvm.Cond.code ({ cls := "com/example/malipo/malipo/core/ledger/Payment", name := "getServerId", desc := "()Ljava/lang/String;" } : Jvm.MethodName) prog_16_method_8_code (1 : Nat) (Option.some (Jvm.ClassFile.FieldType.object "java/lang/String")), Jvm.Cond.code ({ cls := "com/example/malipo/malipo/core/ledger/Payment", name := "getPaidAt", desc := "()Ljava/lang/String;" } : Jvm.MethodName) prog_16_method_9_code (1 : Nat) (Option.some (Jvm.ClassFile.FieldType.object "java/lang/String")), Jvm.Cond.code ({ cls := "com/example/malipo/malipo/core/ledger/Payment", name := "getExtend", desc := "()Ljava/lang/String;" } : Jvm.MethodName) prog_16_method_10_code (1 : Nat) (Option.some (Jvm.ClassFile.FieldType.object "java/lang/String")), Jvm.Cond.code ({ cls := "com/example/malipo/malipo/core/ledger/Payment", name := "getCount", desc := "()Ljava/lang/Long;" } : Jvm.MethodName) prog_16_method_11_code (1 : Nat) (Option.some (Jvm.ClassFile.FieldType.object "java/lang/Long")), Jvm.Cond.code ({ cls := "com/example/malipo/malipo/core/ledger/Payment", name := "getCouponDeduction", desc := "()Ljava/lang/Long;" } : Jvm.MethodName) prog_16_method_12_code (1 : Nat) (Option.some (Jvm.ClassFile.FieldType.object "java/lang/Long"))]
set_option maxRecDepth 65536 in
theorem codes_eq : words1.filter isCode = codes1 := rfl
theorem w_codes : ∀ c ∈ words1.filter isCode, c.before args0 about1 = true := by
  rw [codes_eq]
  intro c hc
  simp only [codes1, List.mem_cons, List.not_mem_nil, or_false] at hc
  rcases hc with rfl | rfl | rfl | rfl | rfl | rfl | rfl | rfl | rfl | rfl | rfl | rfl | rfl | rfl | rfl | rfl | rfl | rfl | rfl | rfl | rfl | rfl | rfl | rfl
  · exact w_c0
  · exact w_c1
  · exact w_c2
  · exact w_c3
  · exact w_c4
  · exact w_c5
  · exact w_c6
  · exact w_c7
  · exact w_c8
  · exact w_c9
  · exact w_c10
  · exact w_c11
  · exact w_c12
  · exact w_c13
  · exact w_c14
  · exact w_c15
  · exact w_c16
  · exact w_c17
  · exact w_c18
  · exact w_c19
  · exact w_c20
  · exact w_c21
  · exact w_c22
  · exact w_c23
set_option maxRecDepth 65536 in
theorem w_t1 : (words1.take 24).all (fun c => isCode c || c.before args0 about1) = true := by decide +kernel
set_option maxRecDepth 65536 in
theorem w_t2 : ((words1.drop 24).take 24).all (fun c => isCode c || c.before args0 about1) = true := by decide +kernel
set_option maxRecDepth 65536 in
theorem w_t3 : (((words1.drop 24).drop 24).take 24).all (fun c => isCode c || c.before args0 about1) = true := by decide +kernel
set_option maxRecDepth 65536 in
theorem w_t4 : ((((words1.drop 24).drop 24).drop 24).take 24).all (fun c => isCode c || c.before args0 about1) = true := by decide +kernel
set_option maxRecDepth 65536 in
theorem w_t5 : (((((words1.drop 24).drop 24).drop 24).drop 24).take 24).all (fun c => isCode c || c.before args0 about1) = true := by decide +kernel
set_option maxRecDepth 65536 in
theorem w_t6 : ((((((words1.drop 24).drop 24).drop 24).drop 24).drop 24).take 24).all (fun c => isCode c || c.before args0 about1) = true := by decide +kernel
set_option maxRecDepth 65536 in
theorem w_t7 : ((((((words1.drop 24).drop 24).drop 24).drop 24).drop 24).drop 24).all (fun c => isCode c || c.before args0 about1) = true := by decide +kernel
theorem w_tables : (allAtoms (Jvm.Cond.code x code maxLocals ret :: tables_1)).before args0 about1 = true := by
  rw [allAtoms_all]
  show words1.all (fun c => c.before args0 about1) = true
  refine all_split ?_ w_codes
  rw [← List.take_append_drop 24 words1, List.all_append, w_t1, ← List.take_append_drop 24 (words1.drop 24), List.all_append, w_t2, ← List.take_append_drop 24 ((words1.drop 24).drop 24), List.all_append, w_t3, ← List.take_append_drop 24 (((words1.drop 24).drop 24).drop 24), List.all_append, w_t4, ← List.take_append_drop 24 ((((words1.drop 24).drop 24).drop 24).drop 24), List.all_append, w_t5, ← List.take_append_drop 24 (((((words1.drop 24).drop 24).drop 24).drop 24).drop 24), List.all_append, w_t6, w_t7]
  rfl
set_option maxRecDepth 65536 in
theorem w_rest : rest_1_c.before args0 about1 = true := by decide +kernel
set_option maxRecDepth 65536 in
theorem w_case : (Jvm.Cond.and given_1 narrow_1).before args0 about1 = true := by decide +kernel
theorem w_applies : (headSpec (Jvm.Cond.code x code maxLocals ret :: tables_1) room_1).applies x e0.platform about1 = true :=
  (Spec.applies_iff w_frames).mpr ⟨w_running, w_runnable, w_alone, w_named, w_hears, w_ripe, w_room, w_tables⟩
theorem atStart : AtStart classFile x code maxLocals ret World_1 tables_1 room_1 Calls_1 rest_1 Pre_1 launch0 p0 e0 about1 theMethod args0 below0 :=
  ⟨lists_1, trivial, launch0.admits_env _ _ _, launch0.least_env, fairChoices_fair.cas, fairChoices_fair.clock, w_frames, w_args, w_heap, w_applies, trivial, w_rest, w_case⟩
end start1
theorem witness_1 : WitnessClaimed_1 := ⟨start1.p0, start1.e0, start1.about1, start1.theMethod, start1.args0, start1.below0, start1.atStart⟩
end Jvm.Pilot.@@N@@
