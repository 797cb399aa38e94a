import JvmDerived
import JvmDerived.Pilot.@@N@@Statement
import JvmDerived.Pilot.@@N@@Code
set_option linter.unusedVariables false
set_option linter.unusedSimpArgs false
namespace Jvm.RoadKit
open Sem ClassFile Op Lib Jvm.Stand Jvm.Free Jvm.LawKit
section New
variable {p : Program} {l : Launch} {e : Env} {R : Room} {s : State} {m : MethodId} {args : Array Value} {below : List Frame} {meth : Method} {c : Code} {T : State} {locs : List Loc} {cells slots : Nat}
theorem retI (X : Stand p l e R s m args below meth c T locs cells slots) (hx : p.tables.exec = Jvm.exec) {pc : Nat} {Ls : Array Slot} {z : Int32} {rest : List Value} (hret : meth.sig.returnType = some .int) (hd : decode c.code pc = .ok (.ireturn, 1)) {fs : List Frame}
    (hl : ∀ (f : JFrame) (acts : List Action), f.method = m → f.locked = none → f.entered = [] → (doReturn e (T.setTop f) acts (some (.int z))).1 = T.setFrames fs) : Steps p.tables e below (T.setTop (mkF m pc Ls (.int z :: rest))) (T.setFrames fs) := by
  have hm' : T.vm.method? m = some meth := X.method'
  have hn : narrow .int (.int z) = .int z := rfl
  show Steps p.tables e below (T.setTop { method := m, pc := pc, locals := Ls, stack := _ :: rest, locked := none }) _
  jvm_step X.here [X.here.top, hx, hd, hm', hret, hn]
  first | (intro acts; rw [hl _ acts rfl rfl rfl]) | rw [hl _ _ rfl rfl rfl]
  exact Steps.refl _
end New
end Jvm.RoadKit
/- laws to paste: Road.backV, Road.eqW, codOf (cut by pick.py; bodies as the Statement names them) -/
namespace Jvm.Pilot.@@N@@
namespace StrChars
open Jvm Sem ClassFile Op Lib Jvm.Stand Jvm.Free.XT Jvm.Free.ALB Jvm.Free.JM Jvm.Free
open Jvm.Lib.Cold (StaticIs)
/-- a char array whose places are chars -/
def Ch (a : Addr) (A : Cell) (U : State) : Prop := Arr .char a A U ∧ Typed .char A
theorem Ch.mv {a : Addr} {A : Cell} {U U' : State} (h : Ch a A U) (hal : U.vm.Alike U'.vm) (hh : U'.heap = U.heap) : Ch a A U' := ⟨h.1.mv hal hh, h.2⟩
theorem Ch.keep {a : Addr} {A : Cell} {U U' : State} (h : Ch a A U) (hal : U.vm.Alike U'.vm) (hk : U'.heap[a]? = some A) : Ch a A U' := ⟨h.1.keep hal hk, h.2⟩
/-- what place i of a char[]'s cell holds -/
def cv (A : Cell) (i : Nat) : Int32 := match A.slots[i]? with | some (.int x) => x | _ => 0
theorem Ch.get {a : Addr} {A : Cell} {U : State} (h : Ch a A U) {i : Nat} (hi : i < A.slots.size) : A.slots[i]? = some (.int (cv A i)) := by
  have e := Array.getElem?_eq_getElem hi
  have f := h.2 i _ e
  unfold cv; rw [e]
  generalize A.slots[i] = v at f
  cases v <;> simp [fits] at f ⊢
/-- the byte that i2b leaves of a char -/
def lo8 (x : Int32) : Int32 := x.toInt8.toInt32
theorem fits_lo8 (y : Int32) : fits .byte (.int (lo8 y)) = true := by
  have h1 := y.toInt8.le_toInt
  have h2 := y.toInt8.toInt_lt
  simp only [lo8, fits, Bool.and_eq_true, decide_eq_true_eq, Int32.le_iff_toInt_le, Int8.toInt_toInt32, show (-128 : Int32).toInt = -128 from by decide, show (127 : Int32).toInt = 127 from by decide]
  omega
/-- A' is A but that each place j of lo .. hi - 1 holds f j -/
def Laid (A A' : Cell) (lo hi : Nat) (f : Nat → Value) : Prop := A'.cls = A.cls ∧ A'.vm = A.vm ∧ A'.slots.size = A.slots.size ∧ ∀ i, A'.slots[i]? = if lo ≤ i ∧ i < hi then some (f i) else A.slots[i]?
theorem Laid.zero (A : Cell) (lo : Nat) (f : Nat → Value) : Laid A A lo (lo + 0) f := ⟨rfl, rfl, rfl, fun i => by rw [if_neg (by omega)]⟩
theorem Laid.step {A Ak : Cell} {lo k : Nat} {f : Nat → Value} {v : Value} (h : Laid A Ak lo k f) (hlo : lo ≤ k) (hk : k < Ak.slots.size) (hv : v = f k) : Laid A (Ak.setSlot k v) lo (k + 1) f := by
  refine ⟨h.1, h.2.1, by simpa [Cell.setSlot] using h.2.2.1, fun i => ?_⟩
  by_cases e : k = i
  · subst e; rw [Cell.slots_setSlot_self v hk, if_pos (by omega), hv]
  · rw [Cell.slots_setSlot_ne v e, h.2.2.2 i]
    by_cases q : lo ≤ i ∧ i < k
    · rw [if_pos q, if_pos (by omega)]
    · rw [if_neg q, if_neg (by omega)]
def U16 : String := "java/lang/StringUTF16"
namespace Cmp5
def yN : MethodName := ⟨"java/lang/StringUTF16", "compress", "([CI[BII)I"⟩
abbrev yB : ByteArray := jdk_52_method_21_code
theorem d0 : decode yB 0 = .ok (.iconst 0, 1) := by decide +kernel
theorem d1 : decode yB 1 = .ok (.istore 5, 2) := by decide +kernel
theorem d3 : decode yB 3 = .ok (.iload 5, 2) := by decide +kernel
theorem d5 : decode yB 5 = .ok (.iload 4, 2) := by decide +kernel
theorem d7 : decode yB 7 = .ok (.if_icmp (.ge) 37, 3) := by decide +kernel
theorem d10 : decode yB 10 = .ok (.aload_n 0, 1) := by decide +kernel
theorem d11 : decode yB 11 = .ok (.iload_n 1, 1) := by decide +kernel
theorem d12 : decode yB 12 = .ok (.caload, 1) := by decide +kernel
theorem d13 : decode yB 13 = .ok (.istore 6, 2) := by decide +kernel
theorem d15 : decode yB 15 = .ok (.iload 6, 2) := by decide +kernel
theorem d17 : decode yB 17 = .ok (.sipush 255, 3) := by decide +kernel
theorem d20 : decode yB 20 = .ok (.if_icmp (.le) 6, 3) := by decide +kernel
theorem d26 : decode yB 26 = .ok (.aload_n 2, 1) := by decide +kernel
theorem d27 : decode yB 27 = .ok (.iload_n 3, 1) := by decide +kernel
theorem d28 : decode yB 28 = .ok (.iload 6, 2) := by decide +kernel
theorem d30 : decode yB 30 = .ok (.i2b, 1) := by decide +kernel
theorem d31 : decode yB 31 = .ok (.bastore, 1) := by decide +kernel
theorem d32 : decode yB 32 = .ok (.iinc 1 1, 3) := by decide +kernel
theorem d35 : decode yB 35 = .ok (.iinc 3 1, 3) := by decide +kernel
theorem d38 : decode yB 38 = .ok (.iinc 5 1, 3) := by decide +kernel
theorem d41 : decode yB 41 = .ok (.goto (-38), 3) := by decide +kernel
theorem d44 : decode yB 44 = .ok (.iload 4, 2) := by decide +kernel
theorem d46 : decode yB 46 = .ok (.ireturn, 1) := by decide +kernel
def site : List Cond := []
def tab : Cond := tabOf yN yB 7 (some .int) site
def P (b : Addr) (A : Cell) (d : Addr) (B : Cell) (o q len : Nat) (args : Array Value) (s : State) : Prop := args = #[.ref b, .int (Int32.ofNat o), .ref d, .int (Int32.ofNat q), .int (Int32.ofNat len)] ∧ Ch b A s ∧ Arr .byte d B s ∧ b ≠ d ∧ o + len ≤ A.slots.size ∧ q + len ≤ B.slots.size ∧ ∀ i, i < len → ¬ 255 < cv A (o + i)
def E (b : Addr) (A : Cell) (d : Addr) (B : Cell) (o q len : Nat) (r : Option Value) (s u : State) : Prop := r = some (.int (Int32.ofNat len)) ∧ ∃ B', Put d B' s u ∧ Laid B B' q (q + len) (fun j => Value.int (lo8 (cv A (o + (j - q)))))
/-- no char of the range above 255: len; the places written hold each char's low byte -/
theorem law (l : Launch) (b : Addr) (A : Cell) (d : Addr) (B : Cell) (o q len : Nat) : Law l yN 5 5 0 0 yB 7 (some .int) site (P b A d B o q len) (E b A d B o q len) (copyLocs d q len) 0 0 := by
  refine Law.of_walk (plainFor_of_name (by decide +kernel)) (by decide +kernel) (by decide +kernel) (by decide) (fun _ _ h => by rw [h.1]; rfl) (fun _ U U' hal hh h => ⟨h.1, h.2.1.mv hal hh, h.2.2.1.mv hal hh, h.2.2.2⟩) (fun r U U' V V' h1 hal h2 h => ⟨h.1, h.2.elim fun B' q => ⟨B', q.1.mv h1 h2, q.2⟩⟩) ?_
  intro p e s m args below meth c s₁ X0 hexec hbytes hml hret hlk hnm hown hh0 W hP
  obtain ⟨rfl, hA, hB, hne, l1, l2, hp⟩ := hP
  have c1 : Steps p.tables e below (s₁.setTop (entryFrame m #[.ref b, .int (Int32.ofNat o), .ref d, .int (Int32.ofNat q), .int (Int32.ofNat len)] 7)) (s₁.setTop (mkF m 0 #[.val (.ref b), .val (.int (Int32.ofNat o)), .val (.ref d), .val (.int (Int32.ofNat q)), .val (.int (Int32.ofNat len)), .unset, .unset] [])) := entry rfl
  have hA0 := hA.1.mv X0.warmed.alike hh0
  have hB0 := hB.mv X0.warmed.alike hh0
  have a31 := hA.1.2.2.2
  have c2 : Steps p.tables e below (s₁.setTop (entryFrame m #[.ref b, .int (Int32.ofNat o), .ref d, .int (Int32.ofNat q), .int (Int32.ofNat len)] 7)) (s₁.setTop (mkF m 3 #[.val (.ref b), .val (.int (Int32.ofNat o)), .val (.ref d), .val (.int (Int32.ofNat q)), .val (.int (Int32.ofNat len)), .val (.int 0), .unset] [])) := c1.trans (by
    refine iconstV X0.here hexec rfl 0 (hb hbytes d0) (by decide) ?_
    refine XS.istore X0.here hexec rfl (hb hbytes d1) rfl rfl ?_
    exact Steps.refl _)
  have loop : ∀ (r i : Nat), i + r = len → ∀ (z : Slot), (z = .unset ∨ ∃ w, z = .val w ∧ w.category = 1) → ∀ (Tl : State) (Bk : Cell), Stand p l e { frames := 0, locals := 0, cells := 0, slots := 0 } s m #[.ref b, .int (Int32.ofNat o), .ref d, .int (Int32.ofNat q), .int (Int32.ofNat len)] below meth c Tl ([] ++ copyLocs d q i) 0 0 → Put d Bk s₁ Tl → Laid B Bk q (q + i) (fun j => Value.int (lo8 (cv A (o + (j - q))))) →
      Steps p.tables e below (s₁.setTop (entryFrame m #[.ref b, .int (Int32.ofNat o), .ref d, .int (Int32.ofNat q), .int (Int32.ofNat len)] 7)) (Tl.setTop (mkF m 3 #[.val (.ref b), .val (.int (Int32.ofNat (o + i))), .val (.ref d), .val (.int (Int32.ofNat (q + i))), .val (.int (Int32.ofNat len)), .val (.int (Int32.ofNat i)), z] [])) → ∃ (T' : State) (B' : Cell) (z' : Slot), Stand p l e { frames := 0, locals := 0, cells := 0, slots := 0 } s m #[.ref b, .int (Int32.ofNat o), .ref d, .int (Int32.ofNat q), .int (Int32.ofNat len)] below meth c T' ([] ++ copyLocs d q len) 0 0 ∧ Put d B' s₁ T' ∧ Laid B B' q (q + len) (fun j => Value.int (lo8 (cv A (o + (j - q))))) ∧
      Steps p.tables e below (s₁.setTop (entryFrame m #[.ref b, .int (Int32.ofNat o), .ref d, .int (Int32.ofNat q), .int (Int32.ofNat len)] 7)) (T'.setTop (mkF m 3 #[.val (.ref b), .val (.int (Int32.ofNat (o + len))), .val (.ref d), .val (.int (Int32.ofNat (q + len))), .val (.int (Int32.ofNat len)), .val (.int (Int32.ofNat len)), z'] [])) := by
    intro r
    induction r with
    | zero =>
      intro i hi z hz Tl Bk Xl pl fl cl
      have hil : i = len := by omega
      rw [hil] at Xl fl cl
      exact ⟨Tl, Bk, z, Xl, pl, fl, cl⟩
    | succ r ih =>
      intro i hi z hz Tl Bk Xl pl fl cl
      have all := X0.warmed.alike.symm.trans Xl.warmed.alike
      have hAl := hA0.keep all (pl.other hne hA0.1)
      have hBk := hB0.like all pl.1 fl.1 fl.2.1 fl.2.2.1
      have hlt : q + i < Bk.slots.size := by rw [fl.2.2.1]; omega
      have c3 : Steps p.tables e below (s₁.setTop (entryFrame m #[.ref b, .int (Int32.ofNat o), .ref d, .int (Int32.ofNat q), .int (Int32.ofNat len)] 7)) (Tl.setTop (mkF m 12 #[.val (.ref b), .val (.int (Int32.ofNat (o + i))), .val (.ref d), .val (.int (Int32.ofNat (q + i))), .val (.int (Int32.ofNat len)), .val (.int (Int32.ofNat i)), z] [.int (Int32.ofNat (o + i)), .ref b])) := cl.trans (by
        refine XS.iload Xl.here hexec rfl (hb hbytes d3) rfl ?_
        refine XS.iload Xl.here hexec rfl (hb hbytes d5) rfl ?_
        refine XS.icmpNo Xl.here hexec rfl (hb hbytes d7) rfl (ii_ge_f (lt32 (by omega) (by omega))) ?_
        refine XS.aloadN Xl.here hexec rfl (hb hbytes d10) rfl rfl ?_
        refine XS.iloadN Xl.here hexec rfl (hb hbytes d11) rfl ?_
        exact Steps.refl _)
      have c4 : Steps p.tables e below (s₁.setTop (entryFrame m #[.ref b, .int (Int32.ofNat o), .ref d, .int (Int32.ofNat q), .int (Int32.ofNat len)] 7)) (Tl.setTop (mkF m 13 #[.val (.ref b), .val (.int (Int32.ofNat (o + i))), .val (.ref d), .val (.int (Int32.ofNat (q + i))), .val (.int (Int32.ofNat len)), .val (.int (Int32.ofNat i)), z] [.int (cv A (o + i))])) := c3.trans (by
        refine Xl.aget hexec hAl rfl (hA.get (i := o + i) (by omega)) rfl rfl (hb hbytes d12) ?_
        exact Steps.refl _)
      have c5 : Steps p.tables e below (s₁.setTop (entryFrame m #[.ref b, .int (Int32.ofNat o), .ref d, .int (Int32.ofNat q), .int (Int32.ofNat len)] 7)) (Tl.setTop (mkF m 15 #[.val (.ref b), .val (.int (Int32.ofNat (o + i))), .val (.ref d), .val (.int (Int32.ofNat (q + i))), .val (.int (Int32.ofNat len)), .val (.int (Int32.ofNat i)), .val (.int (cv A (o + i)))] [])) := c4.trans (by
        refine XS.istoreS Xl.here hexec rfl (hb hbytes d13) rfl rfl hz ?_
        exact Steps.refl _)
      have c6 : Steps p.tables e below (s₁.setTop (entryFrame m #[.ref b, .int (Int32.ofNat o), .ref d, .int (Int32.ofNat q), .int (Int32.ofNat len)] 7)) (Tl.setTop (mkF m 31 #[.val (.ref b), .val (.int (Int32.ofNat (o + i))), .val (.ref d), .val (.int (Int32.ofNat (q + i))), .val (.int (Int32.ofNat len)), .val (.int (Int32.ofNat i)), .val (.int (cv A (o + i)))] [.int (lo8 (cv A (o + i))), .int (Int32.ofNat (q + i)), .ref d])) := c5.trans (by
        refine XS.iload Xl.here hexec rfl (hb hbytes d15) rfl ?_
        refine sipushV Xl.here hexec rfl 255 (hb hbytes d17) (by decide) ?_
        refine XS.icmpYes Xl.here hexec rfl (pc0 := 20) rfl (hb hbytes d20) rfl (ii_le_t (hp i (by omega))) (by decide) rfl ?_
        refine XS.aloadN Xl.here hexec rfl (hb hbytes d26) rfl rfl ?_
        refine XS.iloadN Xl.here hexec rfl (hb hbytes d27) rfl ?_
        refine XS.iload Xl.here hexec rfl (hb hbytes d28) rfl ?_
        refine i2b Xl.here hexec rfl (hb hbytes d30) rfl ?_
        exact Steps.refl _)
      obtain ⟨T7, X7, p7, st7⟩ := Xl.aput hexec hBk rfl hlt rfl (fits_lo8 (cv A (o + i))) (g := (mkF m 31 #[.val (.ref b), .val (.int (Int32.ofNat (o + i))), .val (.ref d), .val (.int (Int32.ofNat (q + i))), .val (.int (Int32.ofNat len)), .val (.int (Int32.ofNat i)), .val (.int (cv A (o + i)))] [.int (lo8 (cv A (o + i))), .int (Int32.ofNat (q + i)), .ref d])) rfl (rest := []) rfl (hb hbytes d31)
      have c8 : Steps p.tables e below (s₁.setTop (entryFrame m #[.ref b, .int (Int32.ofNat o), .ref d, .int (Int32.ofNat q), .int (Int32.ofNat len)] 7)) (T7.setTop (mkF m 32 #[.val (.ref b), .val (.int (Int32.ofNat (o + i))), .val (.ref d), .val (.int (Int32.ofNat (q + i))), .val (.int (Int32.ofNat len)), .val (.int (Int32.ofNat i)), .val (.int (cv A (o + i)))] [])) := c6.trans (st7 _ (Steps.refl _))
      have c9 : Steps p.tables e below (s₁.setTop (entryFrame m #[.ref b, .int (Int32.ofNat o), .ref d, .int (Int32.ofNat q), .int (Int32.ofNat len)] 7)) (T7.setTop (mkF m 3 #[.val (.ref b), .val (.int (Int32.ofNat (o + i) + 1)), .val (.ref d), .val (.int (Int32.ofNat (q + i) + 1)), .val (.int (Int32.ofNat len)), .val (.int (Int32.ofNat i + 1)), .val (.int (cv A (o + i)))] [])) := c8.trans (by
        refine iincV X7.here hexec rfl 1 (hb hbytes d32) (by decide) rfl rfl ?_
        refine iincV X7.here hexec rfl 1 (hb hbytes d35) (by decide) rfl rfl ?_
        refine iincV X7.here hexec rfl 1 (hb hbytes d38) (by decide) rfl rfl ?_
        refine XS.goto X7.here hexec rfl (pc0 := 41) rfl (hb hbytes d41) (by decide) rfl ?_
        exact Steps.refl _)
      have c10 : Steps p.tables e below (s₁.setTop (entryFrame m #[.ref b, .int (Int32.ofNat o), .ref d, .int (Int32.ofNat q), .int (Int32.ofNat len)] 7)) (T7.setTop (mkF m 3 #[.val (.ref b), .val (.int (Int32.ofNat (o + (i + 1)))), .val (.ref d), .val (.int (Int32.ofNat (q + (i + 1)))), .val (.int (Int32.ofNat len)), .val (.int (Int32.ofNat (i + 1))), .val (.int (cv A (o + i)))] [])) := by
        have := c9
        rw [succ32, succ32, succ32] at this
        exact this
      exact ih (i + 1) (by omega) _ (Or.inr ⟨_, rfl, rfl⟩) T7 _ (by rw [copyLocs_step, ← List.append_assoc]; exact X7) (pl.trans p7) (fl.step (by omega) hlt (by simp)) c10
  obtain ⟨T9, B9, z9, X9, p9, f9, g9⟩ := loop len 0 (by omega) .unset (Or.inl rfl) s₁ B (by simpa [copyLocs] using X0) ⟨hB0.1, fun _ _ => rfl, rfl⟩ (Laid.zero _ _ _) c2
  have c11 : Steps p.tables e below (s₁.setTop (entryFrame m #[.ref b, .int (Int32.ofNat o), .ref d, .int (Int32.ofNat q), .int (Int32.ofNat len)] 7)) (T9.setTop (mkF m 46 #[.val (.ref b), .val (.int (Int32.ofNat (o + len))), .val (.ref d), .val (.int (Int32.ofNat (q + len))), .val (.int (Int32.ofNat len)), .val (.int (Int32.ofNat len)), z9] [.int (Int32.ofNat len)])) := g9.trans (by
    refine XS.iload X9.here hexec rfl (hb hbytes d3) rfl ?_
    refine XS.iload X9.here hexec rfl (hb hbytes d5) rfl ?_
    refine XS.icmpYes X9.here hexec rfl (pc0 := 7) rfl (hb hbytes d7) rfl (ii_ge_t (nlt32 (by omega) (Nat.le_refl _))) (by decide) rfl ?_
    refine XS.iload X9.here hexec rfl (hb hbytes d44) rfl ?_
    exact Steps.refl _)
  exact ⟨T9, some (.int (Int32.ofNat len)), _, _, _, X9, by simp, rfl, rfl, (fun h => by cases h), ⟨rfl, B9, p9.from hh0, f9⟩, fun fs hl => c11.trans (X9.ireturnOut hexec hret rfl (Or.inl rfl) (hb hbytes d46) hl)⟩
end Cmp5
namespace Cmp3
def yN : MethodName := ⟨"java/lang/StringUTF16", "compress", "([CII)[B"⟩
abbrev yB : ByteArray := jdk_52_method_16_code
theorem d0 : decode yB 0 = .ok (.iload_n 2, 1) := by decide +kernel
theorem d1 : decode yB 1 = .ok (.newarray .byte, 2) := by decide +kernel
theorem d3 : decode yB 3 = .ok (.astore_n 3, 1) := by decide +kernel
theorem d4 : decode yB 4 = .ok (.aload_n 0, 1) := by decide +kernel
theorem d5 : decode yB 5 = .ok (.iload_n 1, 1) := by decide +kernel
theorem d6 : decode yB 6 = .ok (.aload_n 3, 1) := by decide +kernel
theorem d7 : decode yB 7 = .ok (.iconst 0, 1) := by decide +kernel
theorem d8 : decode yB 8 = .ok (.iload_n 2, 1) := by decide +kernel
theorem d9 : decode yB 9 = .ok (.invokestatic 115, 3) := by decide +kernel
theorem d12 : decode yB 12 = .ok (.istore 4, 2) := by decide +kernel
theorem d14 : decode yB 14 = .ok (.iload 4, 2) := by decide +kernel
theorem d16 : decode yB 16 = .ok (.iload_n 2, 1) := by decide +kernel
theorem d17 : decode yB 17 = .ok (.if_icmp (.eq) 40, 3) := by decide +kernel
theorem d57 : decode yB 57 = .ok (.aload_n 3, 1) := by decide +kernel
theorem d58 : decode yB 58 = .ok (.areturn, 1) := by decide +kernel
def site : List Cond := [.arrayClass .byte, Cmp5.tab] ++ staticW U16 115 Cmp5.yN
def tab : Cond := tabOf yN yB 6 (some (.array .byte)) site
def P (b : Addr) (A : Cell) (o len : Nat) (args : Array Value) (s : State) : Prop := args = #[.ref b, .int (Int32.ofNat o), .int (Int32.ofNat len)] ∧ Ch b A s ∧ o + len ≤ A.slots.size ∧ len ≤ 536870912 ∧ ∀ i, i < len → ¬ 255 < cv A (o + i)
def E (b : Addr) (A : Cell) (o len : Nat) (r : Option Value) (s u : State) : Prop := NewArr .byte "[B" len (fun j => .int (lo8 (cv A (o + j)))) r s u ∧ u.heap.size = s.heap.size + 1
/-- no char of the range above 255: a new byte[] of their low bytes -/
theorem law (l : Launch) (b : Addr) (A : Cell) (o len : Nat) : Law l yN 3 3 1 18 yB 6 (some (.array .byte)) site (P b A o len) (E b A o len) [] 1 len := by
  refine Law.of_walk (plainFor_of_name (by decide +kernel)) (by decide +kernel) (by decide +kernel) (by decide) (fun _ _ h => by rw [h.1]; rfl) (fun _ U U' hal hh h => ⟨h.1, h.2.1.mv hal hh, h.2.2⟩) (fun r U U' V V' h1 hal h2 h => ⟨NewArr.mv r U U' V V' h1 hal h2 h.1, by rw [h1, h2]; exact h.2⟩) ?_
  intro p e s m args below meth c s₁ X0 hexec hbytes hml hret hlk hnm hown hh0 W hP
  obtain ⟨rfl, hA, l1, l2, hp⟩ := hP
  have a31 := hA.1.2.2.2
  have c1 : Steps p.tables e below (s₁.setTop (entryFrame m #[.ref b, .int (Int32.ofNat o), .int (Int32.ofNat len)] 6)) (s₁.setTop (mkF m 0 #[.val (.ref b), .val (.int (Int32.ofNat o)), .val (.int (Int32.ofNat len)), .unset, .unset, .unset] [])) := entry rfl
  have c2 : Steps p.tables e below (s₁.setTop (entryFrame m #[.ref b, .int (Int32.ofNat o), .int (Int32.ofNat len)] 6)) (s₁.setTop (mkF m 1 #[.val (.ref b), .val (.int (Int32.ofNat o)), .val (.int (Int32.ofNat len)), .unset, .unset, .unset] [.int (Int32.ofNat len)])) := c1.trans (by
    refine XS.iloadN X0.here hexec rfl (hb hbytes d0) rfl ?_
    exact Steps.refl _)
  obtain ⟨T3, B3, X3, ba3, bs3, bv3, bh3, bf3, st3⟩ := X0.anew hexec (atype := .byte) (wk W (.arrayClass .byte)) rfl (by show len * 1 ≤ _; omega) (by omega) (g := (mkF m 1 #[.val (.ref b), .val (.int (Int32.ofNat o)), .val (.int (Int32.ofNat len)), .unset, .unset, .unset] [.int (Int32.ofNat len)])) rfl (hb hbytes d1) (rest := []) rfl (Nat.le_refl _) (by show 0 + len ≤ len; omega)
  rw [hh0] at ba3 st3
  have kp3 : XT.Kept s T3 := (XT.Kept.of_eq hh0).push bh3
  have hA3 := hA.keep X3.warmed.alike (kp3 _ _ hA.1.1)
  have hne : b ≠ s.heap.size := hA.1.ne
  have c4 : Steps p.tables e below (s₁.setTop (entryFrame m #[.ref b, .int (Int32.ofNat o), .int (Int32.ofNat len)] 6)) (T3.setTop (mkF m 3 #[.val (.ref b), .val (.int (Int32.ofNat o)), .val (.int (Int32.ofNat len)), .unset, .unset, .unset] [.ref s.heap.size])) := c2.trans (st3 _ (Steps.refl _))
  have c5 : Steps p.tables e below (s₁.setTop (entryFrame m #[.ref b, .int (Int32.ofNat o), .int (Int32.ofNat len)] 6)) (T3.setTop (mkF m 9 #[.val (.ref b), .val (.int (Int32.ofNat o)), .val (.int (Int32.ofNat len)), .val (.ref s.heap.size), .unset, .unset] [.int (Int32.ofNat len), .int 0, .ref s.heap.size, .int (Int32.ofNat o), .ref b])) := c4.trans (by
    refine XS.astoreN X3.here hexec rfl (hb hbytes d3) rfl rfl rfl ?_
    refine XS.aloadN X3.here hexec rfl (hb hbytes d4) rfl rfl ?_
    refine XS.iloadN X3.here hexec rfl (hb hbytes d5) rfl ?_
    refine XS.aloadN X3.here hexec rfl (hb hbytes d6) rfl rfl ?_
    refine iconstV X3.here hexec rfl 0 (hb hbytes d7) (by decide) ?_
    refine XS.iloadN X3.here hexec rfl (hb hbytes d8) rfl ?_
    exact Steps.refl _)
  obtain ⟨v6, T6, X6, E6, g6⟩ := X3.callS hexec (Cmp5.law l b A s.heap.size B3 o 0 len) hown (wks W (staticW U16 115 Cmp5.yN)) (wk W Cmp5.tab) (W := 0) (Nat.le_of_ble_eq_true rfl) (Nat.le_of_ble_eq_true rfl) (Nat.le_refl _) (by show 0 + len + 0 ≤ len; omega) (g := (mkF m 9 #[.val (.ref b), .val (.int (Int32.ofNat o)), .val (.int (Int32.ofNat len)), .val (.ref s.heap.size), .unset, .unset] [.int (Int32.ofNat len), .int (Int32.ofNat 0), .ref s.heap.size, .int (Int32.ofNat o), .ref b])) rfl (by rw [hml]; rfl) c5 (argsL := [.ref b, .int (Int32.ofNat o), .ref s.heap.size, .int (Int32.ofNat 0), .int (Int32.ofNat len)]) (rest := []) rfl rfl (by show 2 * 0 + 0 ≤ _; decide) (hb hbytes d9) (⟨rfl, hA3, ba3, hne, l1, by rw [bs3]; simp, hp⟩)
  obtain ⟨rfl, B6, p6, f6⟩ := E6
  have c7 : Steps p.tables e below (s₁.setTop (entryFrame m #[.ref b, .int (Int32.ofNat o), .int (Int32.ofNat len)] 6)) (T6.setTop (mkF m 12 #[.val (.ref b), .val (.int (Int32.ofNat o)), .val (.int (Int32.ofNat len)), .val (.ref s.heap.size), .unset, .unset] [.int (Int32.ofNat len)])) := g6
  have c8 : Steps p.tables e below (s₁.setTop (entryFrame m #[.ref b, .int (Int32.ofNat o), .int (Int32.ofNat len)] 6)) (T6.setTop (mkF m 58 #[.val (.ref b), .val (.int (Int32.ofNat o)), .val (.int (Int32.ofNat len)), .val (.ref s.heap.size), .val (.int (Int32.ofNat len)), .unset] [.ref s.heap.size])) := c7.trans (by
    refine XS.istore X6.here hexec rfl (hb hbytes d12) rfl rfl ?_
    refine XS.iload X6.here hexec rfl (hb hbytes d14) rfl ?_
    refine XS.iloadN X6.here hexec rfl (hb hbytes d16) rfl ?_
    refine XS.icmpYes X6.here hexec rfl (pc0 := 17) rfl (hb hbytes d17) rfl (ii_eq_t rfl) (by decide) rfl ?_
    refine XS.aloadN X6.here hexec rfl (hb hbytes d57) rfl rfl ?_
    exact Steps.refl _)
  have X8 := X6.wide (L' := []) (cells' := 1) (slots' := len) (fun x hx hlt => by
    simp only [List.nil_append, copyLocs, List.mem_map, List.mem_range] at hx
    obtain ⟨i, -, rfl⟩ := hx
    exact absurd hlt (Nat.lt_irrefl _)) (Nat.le_refl _) (by omega)
  exact ⟨T6, some (.ref s.heap.size), _, _, _, X8, rfl, rfl, rfl, (fun h => by cases h), ⟨⟨rfl, B6, ba3.like (X3.warmed.alike.symm.trans X6.warmed.alike) p6.1 f6.1 f6.2.1 f6.2.2.1, f6.2.1.trans bv3, by rw [X6.warmed.alike.findClass, f6.1]; exact bf3, by rw [f6.2.2.1, bs3]; simp, fun j hj => by rw [f6.2.2.2 j, if_pos (by omega)]; rfl, kp3.put p6 (Nat.le_refl _)⟩, by rw [p6.2.2, bh3, hh0]; simp⟩, fun fs hl => c8.trans (X8.areturnOut hexec rfl hret rfl (hb hbytes d58) hl)⟩
end Cmp3
namespace CodL
def yN : MethodName := ⟨"java/lang/StringUTF16", "coderFromArrayLen", "([BI)B"⟩
abbrev yB : ByteArray := jdk_52_method_15_code
theorem d0 : decode yB 0 = .ok (.iload_n 1, 1) := by decide +kernel
theorem d1 : decode yB 1 = .ok (.aload_n 0, 1) := by decide +kernel
theorem d2 : decode yB 2 = .ok (.arraylength, 1) := by decide +kernel
theorem d3 : decode yB 3 = .ok (.isub, 1) := by decide +kernel
theorem d4 : decode yB 4 = .ok (.bipush 31, 2) := by decide +kernel
theorem d6 : decode yB 6 = .ok (.iushr, 1) := by decide +kernel
theorem d7 : decode yB 7 = .ok (.i2b, 1) := by decide +kernel
theorem d8 : decode yB 8 = .ok (.ireturn, 1) := by decide +kernel
def site : List Cond := []
def tab : Cond := tabOf yN yB 2 (some .byte) site
def P (d : Addr) (B : Cell) (args : Array Value) (s : State) : Prop := args = #[.ref d, .int (Int32.ofNat B.slots.size)] ∧ Arr .byte d B s
def E (r : Option Value) (s u : State) : Prop := XT.PureE (some (.int 0)) r s u
/-- an array as long as the number of chars: LATIN1 -/
theorem law (l : Launch) (d : Addr) (B : Cell) : Law l yN 2 2 0 0 yB 2 (some .byte) site (P d B) E [] 0 0 := by
  refine Law.of_walk (plainFor_of_name (by decide +kernel)) (by decide +kernel) (by decide +kernel) (by decide) (fun _ _ h => by rw [h.1]; rfl) (fun _ U U' hal hh h => ⟨h.1, h.2.mv hal hh⟩) (fun r U U' V V' h1 hal h2 h => XT.PureE.mv r U U' V V' h1 hal h2 h) ?_
  intro p e s m args below meth c s₁ X0 hexec hbytes hml hret hlk hnm hown hh0 W hP
  obtain ⟨rfl, hB⟩ := hP
  have hB0 := hB.mv X0.warmed.alike hh0
  have c1 : Steps p.tables e below (s₁.setTop (entryFrame m #[.ref d, .int (Int32.ofNat B.slots.size)] 2)) (s₁.setTop (mkF m 0 #[.val (.ref d), .val (.int (Int32.ofNat B.slots.size))] [])) := entry rfl
  have c2 : Steps p.tables e below (s₁.setTop (entryFrame m #[.ref d, .int (Int32.ofNat B.slots.size)] 2)) (s₁.setTop (mkF m 2 #[.val (.ref d), .val (.int (Int32.ofNat B.slots.size))] [.ref d, .int (Int32.ofNat B.slots.size)])) := c1.trans (by
    refine XS.iloadN X0.here hexec rfl (hb hbytes d0) rfl ?_
    refine XS.aloadN X0.here hexec rfl (hb hbytes d1) rfl rfl ?_
    exact Steps.refl _)
  have c3 : Steps p.tables e below (s₁.setTop (entryFrame m #[.ref d, .int (Int32.ofNat B.slots.size)] 2)) (s₁.setTop (mkF m 8 #[.val (.ref d), .val (.int (Int32.ofNat B.slots.size))] [.int (lo8 (ushr (Int32.ofNat B.slots.size - Int32.ofNat B.slots.size) 31))])) := c2.trans (by
    refine X0.alen hexec hB0 rfl rfl (hb hbytes d2) ?_
    refine XS.isub X0.here hexec rfl (hb hbytes d3) rfl ?_
    refine bipushV X0.here hexec rfl 31 (hb hbytes d4) (by decide) ?_
    refine iushr X0.here hexec rfl (hb hbytes d6) rfl ?_
    refine i2b X0.here hexec rfl (hb hbytes d7) rfl ?_
    exact Steps.refl _)
  have e0 : lo8 (ushr (Int32.ofNat B.slots.size - Int32.ofNat B.slots.size) 31) = 0 := by rw [Int32.sub_self]; decide
  rw [e0] at c3
  exact ⟨s₁, some (.int 0), _, _, _, X0, rfl, rfl, rfl, (fun h => by cases h), ⟨rfl, hh0⟩, fun fs hl => c3.trans (X0.ireturnOut hexec hret rfl (Or.inr (Or.inr (Or.inl rfl))) (hb hbytes d8) hl)⟩
end CodL
/-- the String at a is Latin-1 over a new byte[] (the heap's one new cell): the low bytes of the len chars of A from o on; every cell but a is kept -/
def Got (a : Addr) (D : Cell) (fV fC : Field) (A : Cell) (o len : Nat) (r : Option Value) (s u : State) : Prop := r = none ∧ ∃ D' V : Cell, Blank "java/lang/String" a D' u ∧ Same D D' [fV.slot, fC.slot] ∧ D'.slots[fV.slot]? = some (.ref s.heap.size) ∧ D'.slots[fC.slot]? = some (.int 0) ∧ Arr .byte s.heap.size V u ∧ V.vm = .none ∧ u.vm.findClass "[B" = some V.cls ∧ V.slots.size = len ∧ (∀ j, j < len → V.slots[j]? = some (.int (lo8 (cv A (o + j))))) ∧ (∀ (y : Addr) (c : Cell), y ≠ a → s.heap[y]? = some c → u.heap[y]? = some c) ∧ u.heap.size = s.heap.size + 1
theorem Got.mv {a : Addr} {D A : Cell} {fV fC : Field} {o len : Nat} : ∀ r (U U' V V' : State), U'.heap = U.heap → V.vm.Alike V'.vm → V'.heap = V.heap → Got a D fV fC A o len r U V → Got a D fV fC A o len r U' V' :=
  fun r U U' V V' h1 hal h2 ⟨e0, D', X, a1, a2, a3, a4, a5, a6, a7, a8, a9, a10, a11⟩ => ⟨e0, D', X, a1.mv hal h2, a2, by rw [h1]; exact a3, a4, by rw [h1]; exact a5.mv hal h2, a6, by rw [hal.findClass]; exact a7, a8, a9, by rw [h1, h2]; exact a10, by rw [h1, h2]; exact a11⟩
namespace New4
def yN : MethodName := ⟨"java/lang/String", "<init>", "([CIILjava/lang/Void;)V"⟩
abbrev yB : ByteArray := jdk_42_method_149_code
theorem d0 : decode yB 0 = .ok (.aload_n 0, 1) := by decide +kernel
theorem d1 : decode yB 1 = .ok (.invokespecial 1, 3) := by decide +kernel
theorem d4 : decode yB 4 = .ok (.iload_n 3, 1) := by decide +kernel
theorem d5 : decode yB 5 = .ok (.ifCond (.ne) 22, 3) := by decide +kernel
theorem d27 : decode yB 27 = .ok (.getstatic 38, 3) := by decide +kernel
theorem d30 : decode yB 30 = .ok (.ifCond (.eq) 28, 3) := by decide +kernel
theorem d33 : decode yB 33 = .ok (.aload_n 1, 1) := by decide +kernel
theorem d34 : decode yB 34 = .ok (.iload_n 2, 1) := by decide +kernel
theorem d35 : decode yB 35 = .ok (.iload_n 3, 1) := by decide +kernel
theorem d36 : decode yB 36 = .ok (.invokestatic 177, 3) := by decide +kernel
theorem d39 : decode yB 39 = .ok (.astore 5, 2) := by decide +kernel
theorem d41 : decode yB 41 = .ok (.aload_n 0, 1) := by decide +kernel
theorem d42 : decode yB 42 = .ok (.aload 5, 2) := by decide +kernel
theorem d44 : decode yB 44 = .ok (.iload_n 3, 1) := by decide +kernel
theorem d45 : decode yB 45 = .ok (.invokestatic 47, 3) := by decide +kernel
theorem d48 : decode yB 48 = .ok (.putfield 15, 3) := by decide +kernel
theorem d51 : decode yB 51 = .ok (.aload_n 0, 1) := by decide +kernel
theorem d52 : decode yB 52 = .ok (.aload 5, 2) := by decide +kernel
theorem d54 : decode yB 54 = .ok (.putfield 9, 3) := by decide +kernel
theorem d57 : decode yB 57 = .ok (.return_, 1) := by decide +kernel
def site : List Cond := [.fieldLink "java/lang/String" 38 "java/lang/String" "COMPACT_STRINGS" "Z", Cmp3.tab, CodL.tab, .laysFinal "java/lang/String" "java/lang/String" "value" "[B", .fieldLink "java/lang/String" 9 "java/lang/String" "value" "[B", .laysFinal "java/lang/String" "java/lang/String" "coder" "B", .fieldLink "java/lang/String" 15 "java/lang/String" "coder" "B"] ++ objW "java/lang/String" 1 ++ staticW "java/lang/String" 177 Cmp3.yN ++ staticW "java/lang/String" 47 CodL.yN
def tab : Cond := tabOf yN yB 6 none site
def P (a : Addr) (D : Cell) (fV fC : Field) (b : Addr) (A : Cell) (z : Int32) (o len : Nat) (args : Array Value) (s : State) : Prop := args = #[.ref a, .ref b, .int (Int32.ofNat o), .int (Int32.ofNat len), .null] ∧ Blank "java/lang/String" a D s ∧ Found "java/lang/String" "value" "[B" fV s ∧ Found "java/lang/String" "coder" "B" fC s ∧ Ch b A s ∧ StaticIs s "java/lang/String" "COMPACT_STRINGS" "Z" (.int z) ∧ ¬ z = 0 ∧ 0 < len ∧ o + len ≤ A.slots.size ∧ len ≤ 536870912 ∧ ∀ i, i < len → ¬ 255 < cv A (o + i)
def E (a : Addr) (D : Cell) (fV fC : Field) (A : Cell) (o len : Nat) (r : Option Value) (s u : State) : Prop := Got a D fV fC A o len r s u
/-- len > 0, no char of the range above 255: a Latin-1 String of their low bytes -/
theorem law (l : Launch) (a : Addr) (D : Cell) (fV fC : Field) (b : Addr) (A : Cell) (z : Int32) (o len : Nat) : Law l yN 5 4 2 35 yB 6 none site (P a D fV fC b A z o len) (E a D fV fC A o len) [⟨a, fC.slot⟩, ⟨a, fV.slot⟩] 1 len := by
  refine Law.of_walk (plainFor_of_name (by decide +kernel)) (by decide +kernel) (by decide +kernel) (by decide) (fun _ _ h => by rw [h.1]; rfl) (fun _ U U' hal hh h => ⟨h.1, h.2.1.mv hal hh, h.2.2.1.al hal, h.2.2.2.1.al hal, h.2.2.2.2.1.mv hal hh, h.2.2.2.2.2.1.there hal hh, h.2.2.2.2.2.2⟩) (fun r U U' V V' h1 hal h2 h => Got.mv r U U' V V' h1 hal h2 h) ?_
  intro p e s m args below meth c s₁ X0 hexec hbytes hml hret hlk hnm hown hh0 W hP
  obtain ⟨rfl, hB, f1, f2, hA, s1, hz, l0, l1, l2, hp⟩ := hP
  have a31 := hA.1.2.2.2
  have c1 : Steps p.tables e below (s₁.setTop (entryFrame m #[.ref a, .ref b, .int (Int32.ofNat o), .int (Int32.ofNat len), .null] 6)) (s₁.setTop (mkF m 0 #[.val (.ref a), .val (.ref b), .val (.int (Int32.ofNat o)), .val (.int (Int32.ofNat len)), .val .null, .unset] [])) := entry rfl
  have c2 : Steps p.tables e below (s₁.setTop (entryFrame m #[.ref a, .ref b, .int (Int32.ofNat o), .int (Int32.ofNat len), .null] 6)) (s₁.setTop (mkF m 1 #[.val (.ref a), .val (.ref b), .val (.int (Int32.ofNat o)), .val (.int (Int32.ofNat len)), .val .null, .unset] [.ref a])) := c1.trans (by
    refine XS.aloadN X0.here hexec rfl (hb hbytes d0) rfl rfl ?_
    exact Steps.refl _)
  obtain ⟨T3, X3, q3, st3⟩ := X0.oinit hexec hown (wks W (objW "java/lang/String" 1)) (g := (mkF m 1 #[.val (.ref a), .val (.ref b), .val (.int (Int32.ofNat o)), .val (.int (Int32.ofNat len)), .val .null, .unset] [.ref a])) rfl (by rw [hml]; rfl) (rest := []) rfl (hb hbytes d1) (W := 0) (by show 2 * 0 + 0 ≤ _; decide) (Nat.le_of_ble_eq_true rfl) (Nat.le_of_ble_eq_true rfl)
  have hh3 := q3.trans hh0
  have c4 : Steps p.tables e below (s₁.setTop (entryFrame m #[.ref a, .ref b, .int (Int32.ofNat o), .int (Int32.ofNat len), .null] 6)) (T3.setTop (mkF m 27 #[.val (.ref a), .val (.ref b), .val (.int (Int32.ofNat o)), .val (.int (Int32.ofNat len)), .val .null, .unset] [])) := (c2.trans (st3 _ (Steps.refl _))).trans (by
    refine XS.iloadN X3.here hexec rfl (hb hbytes d4) rfl ?_
    refine XS.ifYes X3.here hexec rfl (pc0 := 5) rfl (hb hbytes d5) rfl (i0_ne_t (nz32 (by omega) l0)) (by decide) rfl ?_
    exact Steps.refl _)
  obtain ⟨T5, X5, q5, st5⟩ := X3.sget hexec hown (wk W (.fieldLink "java/lang/String" 38 "java/lang/String" "COMPACT_STRINGS" "Z")) s1 (fun _ _ h => by rw [hh3]; exact h) (g := (mkF m 27 #[.val (.ref a), .val (.ref b), .val (.int (Int32.ofNat o)), .val (.int (Int32.ofNat len)), .val .null, .unset] [])) rfl (hb hbytes d27)
  have hh5 := q5.trans hh3
  have c6 : Steps p.tables e below (s₁.setTop (entryFrame m #[.ref a, .ref b, .int (Int32.ofNat o), .int (Int32.ofNat len), .null] 6)) (T5.setTop (mkF m 30 #[.val (.ref a), .val (.ref b), .val (.int (Int32.ofNat o)), .val (.int (Int32.ofNat len)), .val .null, .unset] [.int z])) := c4.trans (st5 _ (Steps.refl _))
  have c7 : Steps p.tables e below (s₁.setTop (entryFrame m #[.ref a, .ref b, .int (Int32.ofNat o), .int (Int32.ofNat len), .null] 6)) (T5.setTop (mkF m 36 #[.val (.ref a), .val (.ref b), .val (.int (Int32.ofNat o)), .val (.int (Int32.ofNat len)), .val .null, .unset] [.int (Int32.ofNat len), .int (Int32.ofNat o), .ref b])) := c6.trans (by
    refine XS.ifNo X5.here hexec rfl (hb hbytes d30) rfl (i0_eq_f hz) ?_
    refine XS.aloadN X5.here hexec rfl (hb hbytes d33) rfl rfl ?_
    refine XS.iloadN X5.here hexec rfl (hb hbytes d34) rfl ?_
    refine XS.iloadN X5.here hexec rfl (hb hbytes d35) rfl ?_
    exact Steps.refl _)
  obtain ⟨v8, T8, X8, E8, g8⟩ := X5.callS hexec (Cmp3.law l b A o len) hown (wks W (staticW "java/lang/String" 177 Cmp3.yN)) (wk W Cmp3.tab) (W := 0) (Nat.le_of_ble_eq_true rfl) (Nat.le_of_ble_eq_true rfl) (Nat.le_refl _) (by show 0 + len ≤ len; omega) (g := (mkF m 36 #[.val (.ref a), .val (.ref b), .val (.int (Int32.ofNat o)), .val (.int (Int32.ofNat len)), .val .null, .unset] [.int (Int32.ofNat len), .int (Int32.ofNat o), .ref b])) rfl (by rw [hml]; rfl) c7 (argsL := [.ref b, .int (Int32.ofNat o), .int (Int32.ofNat len)]) (rest := []) rfl rfl (by show 2 * 0 + 0 ≤ _; decide) (hb hbytes d36) (⟨rfl, hA.mv X5.warmed.alike hh5, l1, l2, hp⟩)
  obtain ⟨e8, z8⟩ := E8
  obtain ⟨rfl, N, n1, n2, n3, n4, n5, n6⟩ := NewArr.mv _ T5 s _ _ hh5.symm (Vm.Alike.refl _) rfl e8
  rw [hh5] at z8
  have hB1 := hB.keep X8.warmed.alike (n6 _ _ hB.1)
  have hne : s.heap.size ≠ a := (Nat.ne_of_lt (Array.getElem?_eq_some_iff.mp hB.1).1).symm
  have c9 : Steps p.tables e below (s₁.setTop (entryFrame m #[.ref a, .ref b, .int (Int32.ofNat o), .int (Int32.ofNat len), .null] 6)) (T8.setTop (mkF m 39 #[.val (.ref a), .val (.ref b), .val (.int (Int32.ofNat o)), .val (.int (Int32.ofNat len)), .val .null, .unset] [.ref s.heap.size])) := g8
  have c10 : Steps p.tables e below (s₁.setTop (entryFrame m #[.ref a, .ref b, .int (Int32.ofNat o), .int (Int32.ofNat len), .null] 6)) (T8.setTop (mkF m 45 #[.val (.ref a), .val (.ref b), .val (.int (Int32.ofNat o)), .val (.int (Int32.ofNat len)), .val .null, .val (.ref s.heap.size)] [.int (Int32.ofNat N.slots.size), .ref s.heap.size, .ref a])) := by
    have hc : Steps p.tables e below (s₁.setTop (entryFrame m #[.ref a, .ref b, .int (Int32.ofNat o), .int (Int32.ofNat len), .null] 6)) (T8.setTop (mkF m 45 #[.val (.ref a), .val (.ref b), .val (.int (Int32.ofNat o)), .val (.int (Int32.ofNat len)), .val .null, .val (.ref s.heap.size)] [.int (Int32.ofNat len), .ref s.heap.size, .ref a])) := c9.trans (by
      refine XS.astore X8.here hexec rfl (hb hbytes d39) rfl rfl rfl ?_
      refine XS.aloadN X8.here hexec rfl (hb hbytes d41) rfl rfl ?_
      refine XS.aload X8.here hexec rfl (hb hbytes d42) rfl rfl ?_
      refine XS.iloadN X8.here hexec rfl (hb hbytes d44) rfl ?_
      exact Steps.refl _)
    rw [n4]; exact hc
  obtain ⟨v11, T11, X11, E11, g11⟩ := X8.callS hexec (CodL.law l s.heap.size N) hown (wks W (staticW "java/lang/String" 47 CodL.yN)) (wk W CodL.tab) (W := 1) (Nat.le_of_ble_eq_true rfl) (Nat.le_of_ble_eq_true rfl) (Nat.le_refl _) (by show 0 + len + 0 ≤ len; omega) (g := (mkF m 45 #[.val (.ref a), .val (.ref b), .val (.int (Int32.ofNat o)), .val (.int (Int32.ofNat len)), .val .null, .val (.ref s.heap.size)] [.int (Int32.ofNat N.slots.size), .ref s.heap.size, .ref a])) rfl (by rw [hml]; rfl) c10 (argsL := [.ref s.heap.size, .int (Int32.ofNat N.slots.size)]) (rest := [.ref a]) rfl rfl (by show 2 * 0 + (1 + 0) ≤ _; decide) (hb hbytes d45) (⟨rfl, n1⟩)
  obtain ⟨rfl, q11⟩ := E11
  have hB11 := hB1.mv (X8.warmed.alike.symm.trans X11.warmed.alike) q11
  have c12 : Steps p.tables e below (s₁.setTop (entryFrame m #[.ref a, .ref b, .int (Int32.ofNat o), .int (Int32.ofNat len), .null] 6)) (T11.setTop (mkF m 48 #[.val (.ref a), .val (.ref b), .val (.int (Int32.ofNat o)), .val (.int (Int32.ofNat len)), .val .null, .val (.ref s.heap.size)] [.int 0, .ref a])) := g11
  obtain ⟨T13, X13, p13, bl13, sl13, st13⟩ := X11.finit hexec hown (wk W (.fieldLink "java/lang/String" 15 "java/lang/String" "coder" "B")) (Or.inr ⟨_, (wk W (.laysFinal "java/lang/String" "java/lang/String" "coder" "B"))⟩) (Or.inl ⟨rfl, hnm⟩) f2 (Or.inl rfl) hB11 (t := .byte) (by decide +kernel) rfl (g := (mkF m 48 #[.val (.ref a), .val (.ref b), .val (.int (Int32.ofNat o)), .val (.int (Int32.ofNat len)), .val .null, .val (.ref s.heap.size)] [.int 0, .ref a])) rfl (rest := []) rfl (hb hbytes d48)
  have c14 : Steps p.tables e below (s₁.setTop (entryFrame m #[.ref a, .ref b, .int (Int32.ofNat o), .int (Int32.ofNat len), .null] 6)) (T13.setTop (mkF m 54 #[.val (.ref a), .val (.ref b), .val (.int (Int32.ofNat o)), .val (.int (Int32.ofNat len)), .val .null, .val (.ref s.heap.size)] [.ref s.heap.size, .ref a])) := (c12.trans (st13 _ (Steps.refl _))).trans (by
    refine XS.aloadN X13.here hexec rfl (hb hbytes d51) rfl rfl ?_
    refine XS.aload X13.here hexec rfl (hb hbytes d52) rfl rfl ?_
    exact Steps.refl _)
  obtain ⟨T15, X15, p15, bl15, sl15, st15⟩ := X13.finit hexec hown (wk W (.fieldLink "java/lang/String" 9 "java/lang/String" "value" "[B")) (Or.inr ⟨_, (wk W (.laysFinal "java/lang/String" "java/lang/String" "value" "[B"))⟩) (Or.inl ⟨rfl, hnm⟩) f1 (Or.inl rfl) bl13 (t := (.array .byte)) (by decide +kernel) rfl (g := (mkF m 54 #[.val (.ref a), .val (.ref b), .val (.int (Int32.ofNat o)), .val (.int (Int32.ofNat len)), .val .null, .val (.ref s.heap.size)] [.ref s.heap.size, .ref a])) rfl (rest := []) rfl (hb hbytes d54)
  have c16 : Steps p.tables e below (s₁.setTop (entryFrame m #[.ref a, .ref b, .int (Int32.ofNat o), .int (Int32.ofNat len), .null] 6)) (T15.setTop (mkF m 57 #[.val (.ref a), .val (.ref b), .val (.int (Int32.ofNat o)), .val (.int (Int32.ofNat len)), .val .null, .val (.ref s.heap.size)] [])) := c14.trans (st15 _ (Steps.refl _))
  have ap := apart (Or.inr ⟨_, (wk W (.laysFinal "java/lang/String" "java/lang/String" "value" "[B"))⟩) (Or.inr ⟨_, (wk W (.laysFinal "java/lang/String" "java/lang/String" "coder" "B"))⟩) f1 f2 (t₁ := .array .byte) (t₂ := .byte) (by decide +kernel) (by decide +kernel) (by decide)
  have al := X8.warmed.alike.symm.trans X15.warmed.alike
  have n7 : T11.heap[s.heap.size]? = some N := by rw [q11]; exact n1.1
  exact ⟨T15, none, _, _, _, X15, by simp, rfl, by omega, (fun _ => rfl), ⟨rfl, _, N, bl15, ((Same.refl D _).set _ (by simp)).set _ (by simp), sl15, (Cell.slots_setSlot_ne _ ap).trans sl13, n1.keep al (p15.other hne (p13.other hne n7)), n2, by rw [al.findClass]; exact n3, n4, n5, fun y c h1 h2 => p15.other h1 (p13.other h1 (by rw [q11]; exact n6 y c h2)), by rw [p15.2.2, p13.2.2, q11]; exact z8⟩, fun fs hl => c16.trans (X15.returnOut hexec hret (hb hbytes d57) hl)⟩
end New4
namespace New1
def yN : MethodName := ⟨"java/lang/String", "<init>", "([C)V"⟩
abbrev yB : ByteArray := jdk_42_method_3_code
theorem d0 : decode yB 0 = .ok (.aload_n 0, 1) := by decide +kernel
theorem d1 : decode yB 1 = .ok (.aload_n 1, 1) := by decide +kernel
theorem d2 : decode yB 2 = .ok (.iconst 0, 1) := by decide +kernel
theorem d3 : decode yB 3 = .ok (.aload_n 1, 1) := by decide +kernel
theorem d4 : decode yB 4 = .ok (.arraylength, 1) := by decide +kernel
theorem d5 : decode yB 5 = .ok (.aconst_null, 1) := by decide +kernel
theorem d6 : decode yB 6 = .ok (.invokespecial 27, 3) := by decide +kernel
theorem d9 : decode yB 9 = .ok (.return_, 1) := by decide +kernel
def site : List Cond := [New4.tab] ++ initW "java/lang/String" 27 New4.yN
def tab : Cond := tabOf yN yB 2 none site
def P (a : Addr) (D : Cell) (fV fC : Field) (b : Addr) (A : Cell) (z : Int32) (args : Array Value) (s : State) : Prop := args = #[.ref a, .ref b] ∧ Blank "java/lang/String" a D s ∧ Found "java/lang/String" "value" "[B" fV s ∧ Found "java/lang/String" "coder" "B" fC s ∧ Ch b A s ∧ StaticIs s "java/lang/String" "COMPACT_STRINGS" "Z" (.int z) ∧ ¬ z = 0 ∧ 0 < A.slots.size ∧ A.slots.size ≤ 536870912 ∧ ∀ i, i < A.slots.size → ¬ 255 < cv A i
def E (a : Addr) (D : Cell) (fV fC : Field) (A : Cell) (r : Option Value) (s u : State) : Prop := Got a D fV fC A 0 A.slots.size r s u
/-- new String(chars), not empty, no char above 255: a Latin-1 String of their low bytes -/
theorem law (l : Launch) (a : Addr) (D : Cell) (fV fC : Field) (b : Addr) (A : Cell) (z : Int32) : Law l yN 2 1 3 52 yB 2 none site (P a D fV fC b A z) (E a D fV fC A) [⟨a, fC.slot⟩, ⟨a, fV.slot⟩] 1 A.slots.size := by
  refine Law.of_walk (plainFor_of_name (by decide +kernel)) (by decide +kernel) (by decide +kernel) (by decide) (fun _ _ h => by rw [h.1]; rfl) (fun _ U U' hal hh h => ⟨h.1, h.2.1.mv hal hh, h.2.2.1.al hal, h.2.2.2.1.al hal, h.2.2.2.2.1.mv hal hh, h.2.2.2.2.2.1.there hal hh, h.2.2.2.2.2.2⟩) (fun r U U' V V' h1 hal h2 h => Got.mv r U U' V V' h1 hal h2 h) ?_
  intro p e s m args below meth c s₁ X0 hexec hbytes hml hret hlk hnm hown hh0 W hP
  obtain ⟨rfl, hB, f1, f2, hA, s1, hz, l0, l2, hp⟩ := hP
  have c1 : Steps p.tables e below (s₁.setTop (entryFrame m #[.ref a, .ref b] 2)) (s₁.setTop (mkF m 0 #[.val (.ref a), .val (.ref b)] [])) := entry rfl
  have c2 : Steps p.tables e below (s₁.setTop (entryFrame m #[.ref a, .ref b] 2)) (s₁.setTop (mkF m 6 #[.val (.ref a), .val (.ref b)] [.null, .int (Int32.ofNat A.slots.size), .int 0, .ref b, .ref a])) := c1.trans (by
    refine XS.aloadN X0.here hexec rfl (hb hbytes d0) rfl rfl ?_
    refine XS.aloadN X0.here hexec rfl (hb hbytes d1) rfl rfl ?_
    refine iconstV X0.here hexec rfl 0 (hb hbytes d2) (by decide) ?_
    refine XS.aloadN X0.here hexec rfl (hb hbytes d3) rfl rfl ?_
    refine X0.alen hexec (hA.1.mv X0.warmed.alike hh0) rfl rfl (hb hbytes d4) ?_
    refine XS.aconstNull X0.here hexec rfl (hb hbytes d5) ?_
    exact Steps.refl _)
  obtain ⟨v3, T3, X3, E3, g3⟩ := X0.callN hexec (New4.law l a D fV fC b A z 0 A.slots.size) rfl hown (wks W (initW "java/lang/String" 27 New4.yN)) (W New4.tab (by simp only [site, List.mem_cons, List.mem_append, true_or, or_true])) (W := 0) (Nat.le_of_ble_eq_true rfl) (Nat.le_of_ble_eq_true rfl) (Nat.le_refl _) (by show 0 + A.slots.size ≤ A.slots.size; omega) (g := (mkF m 6 #[.val (.ref a), .val (.ref b)] [.null, .int (Int32.ofNat A.slots.size), .int (Int32.ofNat 0), .ref b, .ref a])) rfl (by rw [hml]; rfl) c2 (argsL := [.ref b, .int (Int32.ofNat 0), .int (Int32.ofNat A.slots.size), .null]) (rest := []) rfl rfl (by show 2 * 0 + 0 ≤ _; decide) (hb hbytes d6) (⟨rfl, hB.mv X0.warmed.alike hh0, f1.al X0.warmed.alike, f2.al X0.warmed.alike, hA.mv X0.warmed.alike hh0, s1.there X0.warmed.alike hh0, hz, l0, by omega, l2, fun i hi => by rw [Nat.zero_add]; exact hp i hi⟩)
  have e0 := Got.mv _ s₁ s _ _ hh0.symm (Vm.Alike.refl _) rfl E3
  obtain rfl := e0.1
  have c4 : Steps p.tables e below (s₁.setTop (entryFrame m #[.ref a, .ref b] 2)) (T3.setTop (mkF m 9 #[.val (.ref a), .val (.ref b)] [])) := g3
  exact ⟨T3, none, _, _, _, X3, by simp, rfl, by omega, (fun _ => rfl), e0, fun fs hl => c4.trans (X3.returnOut hexec hret (hb hbytes d9) hl)⟩
theorem pays {l : Launch} {R : Room} {p : Program} {e : Env} {below : List Frame} {s : State} {sargs : Array Value} {len W : Nat} (a : Addr) (D : Cell) (fV fC : Field) (b : Addr) (A : Cell) (z : Int32) (htab : tab.before sargs s = true) (hfr : 4 ≤ R.frames) (hlo : W + 65 ≤ R.locals) :
    Back l R p e below s sargs yN len W (fun A₁ a₁ => A₁.cells + 1 ≤ R.cells ∧ A₁.slots + A.slots.size ≤ R.slots ∧ P a D fV fC b A z a₁ A₁.U) (fun A₁ _ v₁ B₁ => E a D fV fC A v₁ A₁.U B₁.U ∧ B₁.locs = A₁.locs ++ [⟨a, fC.slot⟩, ⟨a, fV.slot⟩] ∧ B₁.cells = A₁.cells + 1 ∧ B₁.slots = A₁.slots + A.slots.size) :=
  (law l a D fV fC b A z).pays htab hfr (by omega)
end New1
/-- the byte, read back as charAt reads it, is the char -/
theorem lo8_mask {x : Int32} (h0 : ¬ x < 0) (h1 : ¬ 255 < x) : lo8 x &&& 255 = x := by
  have t : ∀ k : Fin 256, lo8 (Int32.ofNat k.val) &&& 255 = Int32.ofNat k.val := by decide +kernel
  rw [Int32.lt_iff_toInt_lt] at h0 h1
  have e0 : (0 : Int32).toInt = 0 := rfl
  have e1 : (255 : Int32).toInt = 255 := rfl
  obtain ⟨k, hk⟩ : ∃ k : Nat, x.toInt = k := ⟨x.toInt.toNat, by omega⟩
  have hx : x = Int32.ofNat k := Int32.toInt_inj.mp (by rw [hk, Int32.toInt_ofNat_small (by omega)])
  rw [hx]
  exact t ⟨k, by omega⟩
end StrChars
namespace StrChars.Road
open Jvm Sem ClassFile Op Lib Jvm.Stand Jvm.Free Jvm.Free.XT
open Jvm.Lib.Cold (StaticIs)
abbrev ST : String := "java/lang/String"
/-- every table word that New1's law asks, flat -/
abbrev words : List Jvm.Cond := [.code New1.yN New1.yB 2 none, .initialized ST, .methodLink ST 27 New4.yN, .instanceMethod New4.yN,
  .code New4.yN New4.yB 6 none, .fieldLink ST 38 ST "COMPACT_STRINGS" "Z", .laysFinal ST ST "value" "[B", .fieldLink ST 9 ST "value" "[B", .laysFinal ST ST "coder" "B", .fieldLink ST 15 ST "coder" "B",
  .methodLink ST 1 Lib.objectInit, .instanceMethod Lib.objectInit, .code Lib.objectInit ⟨#[0xb1]⟩ 1 none, .methodLink ST 177 Cmp3.yN, .static Cmp3.yN, .methodLink ST 47 CodL.yN, .static CodL.yN,
  .code Cmp3.yN Cmp3.yB 6 (some (.array .byte)), .initialized U16, .arrayClass .byte, .methodLink U16 115 Cmp5.yN, .static Cmp5.yN, .code Cmp5.yN Cmp5.yB 7 (some .int), .code CodL.yN CodL.yB 2 (some .byte)]
theorem tab_of {a : Array Value} {s : State} (h : ∀ w ∈ words, w.before a s = true) : New1.tab.before a s = true := by
  have h5 : Cmp5.tab.before a s = true := unparts (wk h (.code Cmp5.yN Cmp5.yB 7 (some .int))) (wks h (.initialized Cmp5.yN.cls :: Cmp5.site))
  have hc : CodL.tab.before a s = true := unparts (wk h (.code CodL.yN CodL.yB 2 (some .byte))) (wks h (.initialized CodL.yN.cls :: CodL.site))
  have q5 : ∀ w ∈ Cmp5.tab :: words, w.before a s = true := fun w hw => (List.mem_cons.mp hw).elim (fun e => e ▸ h5) (h w)
  have h3 : Cmp3.tab.before a s = true := unparts (wk q5 (.code Cmp3.yN Cmp3.yB 6 (some (.array .byte)))) (wks q5 (.initialized Cmp3.yN.cls :: Cmp3.site))
  have q3 : ∀ w ∈ Cmp3.tab :: CodL.tab :: words, w.before a s = true := fun w hw => (List.mem_cons.mp hw).elim (fun e => e ▸ h3) fun hw => (List.mem_cons.mp hw).elim (fun e => e ▸ hc) (h w)
  have h4 : New4.tab.before a s = true := unparts (wk q3 (.code New4.yN New4.yB 6 none)) (wks q3 (.initialized New4.yN.cls :: New4.site))
  have q4 : ∀ w ∈ New4.tab :: words, w.before a s = true := fun w hw => (List.mem_cons.mp hw).elim (fun e => e ▸ h4) (h w)
  exact unparts (wk q4 (.code New1.yN New1.yB 2 none)) (wks q4 (.initialized New1.yN.cls :: New1.site))
/-- the words ride from the start Z to the walk's own state -/
theorem moved {Z s : State} {a0 args : Array Value} (hZ : Z.Warmed39 s.vm) (hw : ∀ d ∈ words, d.before a0 Z = true) : ∀ d ∈ words, d.before args s = true := fun d hd => by
  have q := hw d hd
  have t : ∀ d ∈ words, d = .arrayClass .byte ∨ (d.onTables && d.keepsFace) = true := by decide +kernel
  rcases t d hd with rfl | t
  · exact RoadKit.mvA hZ q
  · exact RoadKit.mv hZ q t
/-- WHAT COMES BACK, over the tables of the start Z: h the heap at the call, h' behind it -/
def Q (Z : State) (x : Addr) (A : Cell) (h : Heap) (v : Option Value) (h' : Heap) (L : List Loc) : Prop := v = none ∧ (∀ y ∈ L, y.base = x) ∧ RoadKit.Keep h h' [x] ∧ h'.size = h.size + 1 ∧ RoadKit.Exa Z h' x ST ∧ RoadKit.Fld Z h' x ST "value" "[B" (.ref h.size) ∧ RoadKit.Fld Z h' x ST "coder" "B" (.int 0) ∧
  (∃ V : Cell, RoadKit.Arr Z h' h.size V .byte ∧ V.vm = .none ∧ Z.vm.findClass "[B" = some V.cls ∧ V.slots.size = A.slots.size ∧ ∀ j, j < A.slots.size → V.slots[j]? = some (.int (lo8 (cv A j)))) ∧
  ∀ (O n d : String) (w : Value), RoadKit.Fld Z h x O n d w → RoadKit.slotOf Z O n d ≠ RoadKit.slotOf Z ST "value" "[B" → RoadKit.slotOf Z O n d ≠ RoadKit.slotOf Z ST "coder" "B" → RoadKit.Fld Z h' x O n d w
/-- **new String(chars) AT A CALL, IN THE ROAD'S FORM**: for specialBack behind newO: x the fresh String, b the char[] with the cell A -/
theorem back {p : Program} {l : Launch} {e : Env} {R : Room} {s : State} {args : Array Value} {below : List Frame} {len W : Nat} {Z : State} {a0 : Array Value} {h : Heap} (hZ : Z.Warmed39 s.vm) (hw : ∀ d ∈ words, d.before a0 Z = true) {kI : Nat} (wi : (Jvm.Cond.instantiable ST kI).before a0 Z = true)
    {x b : Addr} {A : Cell} {z : Int32} {v0 c0 : Value} (E : RoadKit.Exa Z h x ST) (V : RoadKit.Fld Z h x ST "value" "[B" v0) (C : RoadKit.Fld Z h x ST "coder" "B" c0) (K : RoadKit.Arr Z h b A .char) (hty : Typed .char A) (S : RoadKit.Sta Z h ST "COMPACT_STRINGS" "Z" (.int z)) (hz : ¬ z = 0)
    (l0 : 0 < A.slots.size) (l2 : A.slots.size ≤ 536870912) (hp : ∀ i, i < A.slots.size → ¬ 255 < cv A i) (hfr : 4 ≤ R.frames) (hlo : W + 65 ≤ R.locals) :
    Back l R p e below s args New1.yN len W (fun P a => a = #[.ref x, .ref b] ∧ P.U.heap = h ∧ P.cells + 1 ≤ R.cells ∧ P.slots + A.slots.size ≤ R.slots)
      (fun P _ v B => ∃ L, Q Z x A h v B.U.heap L ∧ B.locs = P.locs ++ L ∧ B.cells = P.cells + 1 ∧ B.slots = P.slots + A.slots.size) := by
  intro m meth c P g ig mk a X hg hsize hdg hW hn hp'
  obtain ⟨rfl, rfl, r1, r2⟩ := hp'
  have al : Z.vm.Alike P.U.vm := hZ.alike.trans X.warmed.alike
  obtain ⟨D, cfV, kV, iV, fV, hD, gV, stV, knV, obV, asV, slV⟩ := id V
  obtain ⟨D', cfC, kC, iC, fC, hD', gC, stC, -, -, asC, slC⟩ := id C
  cases hD.symm.trans hD'
  obtain ⟨D2, kD, e1, e2, e3, e4, e5⟩ := id E
  cases hD.symm.trans e1
  obtain ⟨c2, k2, i1, i2, i3, -⟩ := Cond.instantiable_spec wi
  cases e2.symm.trans i1
  cases e3.symm.trans i2
  obtain ⟨kU, u1, u2⟩ := al.2.2 _ _ e3
  have hB : Blank ST x D P.U := ⟨hD, ⟨knV, fun q hq => by rw [hq] at obV; cases obV⟩, by rw [al.findClass]; exact e2, kU, u1, by rw [u2]; exact i3, by rw [u2]; exact e5 i3⟩
  have F1 : Found ST "value" "[B" fV P.U := ⟨SBG.found_only al ⟨cfV, kV, iV, gV⟩, stV⟩
  have F2 : Found ST "coder" "B" fC P.U := ⟨SBG.found_only al ⟨cfC, kC, iC, gC⟩, stC⟩
  have hA : Ch b A P.U := ⟨⟨K.1, State.isArrayOf_alike al K.2.1, K.2.2, by omega⟩, hty⟩
  have hS : StaticIs P.U ST "COMPACT_STRINGS" "Z" (.int z) := by
    obtain ⟨cfS, iS, kS, fS, st, cS, t1, t2, t3, t4, t5, t6, t7⟩ := S
    exact StaticIs.there (s := { Z with heap := P.U.heap }) ⟨cfS, iS, kS, fS, st, cS, t1, t2, t3, t4, t5, (fun q => by rw [q] at t6; cases t6), t7⟩ al rfl
  obtain ⟨v, B, X', ⟨⟨hv, E', V', q1, q2, q3, q4, q5, q6, q7, q8, q9, q10, q11⟩, hl, hc, hs⟩, st⟩ := New1.pays x D fV fC b A z (tab_of (moved hZ hw)) hfr hlo m meth c P g ig mk _ X hg hsize hdg hW hn ⟨r1, r2, rfl, hB, F1, F2, hA, hS, hz, l0, l2, hp⟩
  have al' : Z.vm.Alike B.U.vm := hZ.alike.trans X'.warmed.alike
  have hsz : E'.slots.size = D.slots.size := by
    obtain ⟨-, -, -, kB, w1, w2, w3⟩ := q1
    obtain ⟨kB', y1, y2⟩ := al'.2.2 _ _ e3
    rw [q2.2.1] at w1
    cases w1.symm.trans y1
    rw [w3, e5 i3, y2]
  refine ⟨v, B, X', ⟨_, ⟨hv, ?_, ⟨by omega, fun y cy hy hn' => q10 y cy (by simpa using hn') hy, fun y cy hy => ?_⟩, q11, ⟨E', _, q1.1, by rw [q2.2.1]; exact e2, by rw [q2.2.1]; exact e3, by rw [q2.1]; exact obV, fun _ => by rw [hsz]; exact e5 i3⟩,
    ⟨E', cfV, kV, iV, fV, q1.1, gV, stV, by rw [q2.1]; exact knV, by rw [q2.1]; exact obV, by rw [q2.2.1]; exact asV, q3⟩, ⟨E', cfC, kC, iC, fC, q1.1, gC, stC, by rw [q2.1]; exact knV, by rw [q2.1]; exact obV, by rw [q2.2.1]; exact asC, q4⟩,
    ⟨V', ⟨q5.1, State.isArrayOf_alike al'.symm q5.2.1, q5.2.2.1⟩, q6, by rw [← al'.findClass]; exact q7, q8, fun j hj => by have := q9 j hj; rwa [Nat.zero_add] at this⟩, fun O n d w F n1 n2 => ?_⟩, hl, hc, hs⟩, st⟩
  · intro y hy
    simp only [List.mem_cons, List.not_mem_nil, or_false] at hy
    rcases hy with rfl | rfl <;> rfl
  · by_cases q : y = x
    · subst q
      cases hD.symm.trans hy
      exact ⟨E', q1.1, q2.2.1, q2.1, hsz⟩
    · exact ⟨cy, q10 y cy q hy, rfl, rfl, rfl⟩
  · obtain ⟨D3, cf, k, i, f, g1, g2, g3, g4, g5, g6, g7⟩ := F
    cases hD.symm.trans g1
    simp only [RoadKit.slotOf, g2, gV, gC, Option.map_some, Option.getD_some] at n1 n2
    exact ⟨E', cf, k, i, f, q1.1, g2, g3, by rw [q2.1]; exact g4, by rw [q2.1]; exact g5, by rw [q2.2.1]; exact g6, by rw [q2.2.2 f.slot (by simp [n1, n2])]; exact g7⟩
end StrChars.Road
namespace StrChars.Road
open Jvm Sem ClassFile Op Lib Jvm.Stand Jvm.Free Jvm.Free.XT
/-- WHAT COMES BACK, the byte[] as a list of values -/
def QA (Z : State) (x : Addr) (zn : Int32) (cs : List Int32) (h : Heap) (v : Option Value) (h' : Heap) (L : List Loc) : Prop := v = none ∧ (∀ y ∈ L, y.base = x) ∧ RoadKit.Keep h h' [x] ∧ h'.size = h.size + 1 ∧ RoadKit.Exa Z h' x ST ∧ RoadKit.Fld Z h' x ST "value" "[B" (.ref h.size) ∧ RoadKit.Fld Z h' x ST "coder" "B" (.int 0) ∧
  (∃ kb, Z.vm.findClass "[B" = some kb ∧ RoadKit.Arv Z h' h.size kb .byte zn (cs.map fun c => .int (lo8 c)) (.int 0)) ∧
  ∀ (O n d : String) (w : Value), RoadKit.Fld Z h x O n d w → RoadKit.slotOf Z O n d ≠ RoadKit.slotOf Z ST "value" "[B" → RoadKit.slotOf Z O n d ≠ RoadKit.slotOf Z ST "coder" "B" → RoadKit.Fld Z h' x O n d w
/-- **new String(chars) AT A CALL, THE ARRAYS AS LISTS**: the char[] at b holds cs, not empty, no char above 255 -/
theorem backArv {p : Program} {l : Launch} {e : Env} {R : Room} {s : State} {args : Array Value} {below : List Frame} {len W : Nat} {Z : State} {a0 : Array Value} {h : Heap} (hZ : Z.Warmed39 s.vm) (hw : ∀ d ∈ words, d.before a0 Z = true) {kI : Nat} (wi : (Jvm.Cond.instantiable ST kI).before a0 Z = true)
    {x b : Addr} {k : ClassId} {zn z : Int32} {cs : List Int32} {dv v0 c0 : Value} (E : RoadKit.Exa Z h x ST) (V : RoadKit.Fld Z h x ST "value" "[B" v0) (C : RoadKit.Fld Z h x ST "coder" "B" c0) (K : RoadKit.Arv Z h b k .char zn (cs.map Value.int) dv) (S : RoadKit.Sta Z h ST "COMPACT_STRINGS" "Z" (.int z)) (hz : ¬ z = 0)
    (hlen : zn.toNatClampNeg = cs.length) (h0 : 0 < cs.length) (hbig : cs.length ≤ 536870912) (hall : ∀ c ∈ cs, ¬ 255 < c) (hfr : 4 ≤ R.frames) (hlo : W + 65 ≤ R.locals) :
    Back l R p e below s args New1.yN len W (fun P a => a = #[.ref x, .ref b] ∧ P.U.heap = h ∧ P.cells + 1 ≤ R.cells ∧ P.slots + cs.length ≤ R.slots)
      (fun P _ v B => ∃ L, QA Z x zn cs h v B.U.heap L ∧ B.locs = P.locs ++ L ∧ B.cells = P.cells + 1 ∧ B.slots = P.slots + cs.length) := by
  obtain ⟨A, K1, K2, K3, K4, K5, K6⟩ := K
  have e : A.slots.size = cs.length := K3.trans hlen
  have hat : ∀ (i : Nat) (hi : i < cs.length), A.slots[i]? = some (.int cs[i]) := fun i hi => by rw [K5 i (by omega)]; simp [List.getD_eq_getElem?_getD, hi]
  have hcv : ∀ (i : Nat) (hi : i < cs.length), cv A i = cs[i] := fun i hi => by unfold cv; rw [hat i hi]
  have hty : Typed .char A := fun i v hv => by
    have hi : i < A.slots.size := (Array.getElem?_eq_some_iff.mp hv).1
    have q := K5 i hi
    rw [hv] at q
    rw [Option.some.inj q]
    exact K6 i hi
  refine Back.mono (back hZ hw wi E V C K1 hty S hz (by omega) (by omega) (fun i hi => by rw [hcv i (by omega)]; exact hall _ (List.getElem_mem _)) hfr hlo) (fun P a hp => ⟨hp.1, hp.2.1, hp.2.2.1, by rw [e]; exact hp.2.2.2⟩) (fun P a v B hp hq => ?_)
  obtain ⟨L, ⟨q1, q2, q3, q4, q5, q6, q7, ⟨V', v1, v2, v3, v4, v5⟩, q9⟩, hl, hc, hs⟩ := hq
  refine ⟨L, ⟨q1, q2, q3, q4, q5, q6, q7, ⟨V'.cls, v3, V', v1, rfl, by rw [v4, e, hlen], K4, fun i hi => ?_, fun i hi => ?_⟩, q9⟩, hl, hc, by rw [hs, e]⟩
  · have hi' : i < cs.length := by omega
    rw [v5 i (by omega), hcv i hi']; simp [List.getD_eq_getElem?_getD, hi']
  · have hi' : i < cs.length := by omega
    simp only [List.getD_eq_getElem?_getD, List.getElem?_map, List.getElem?_eq_getElem hi', Option.map_some, Option.getD_some]
    exact fits_lo8 _
end StrChars.Road
namespace StrChars.Road
open Jvm Sem ClassFile Op Lib Jvm.Stand Jvm.Free Jvm.Free.XT
/-- WHAT COMES BACK, in the writer's own shape -/
def QV (Z : State) (x : Addr) (N : Int32) (bs : List Int32) (h : Heap) (n0 : Nat) (v : Option Value) (h' : Heap) (L : List Loc) : Prop := v = none ∧ RoadKit.Fr n0 L ∧ RoadKit.Keep h h' [x] ∧ RoadKit.Exa Z h' x ST ∧ RoadKit.Fld Z h' x ST "coder" "B" (.int 0) ∧
  ∃ (t : Addr) (kb : ClassId), n0 ≤ t ∧ h.size ≤ t ∧ ¬ t = x ∧ RoadKit.Fld Z h' x ST "value" "[B" (.ref t) ∧ RoadKit.Arv Z h' t kb .byte N (bs.map Value.int) (.int 0)
/-- **new String(chars) AT A CALL, FOR THE WRITER**: a char[] of n known ints, each 0 to 255 -/
theorem backV {p : Program} {l : Launch} {e : Env} {R : Room} {s : State} {args : Array Value} {below : List Frame} {len W : Nat} {Z : State} {a0 : Array Value} {h : Heap} (hZ : Z.Warmed39 s.vm) (hw : ∀ d ∈ words, d.before a0 Z = true) {kI : Nat} (wi : (Jvm.Cond.instantiable ST kI).before a0 Z = true)
    {x b : Addr} {kC : ClassId} {cs bs : List Int32} {d v0 c0 : Value} {z N : Int32} {n n0 : Nat} (hx0 : n0 ≤ x) (hh0 : n0 ≤ h.size) (E : RoadKit.Exa Z h x ST) (V : RoadKit.Fld Z h x ST "value" "[B" v0) (C : RoadKit.Fld Z h x ST "coder" "B" c0) (K : RoadKit.Arv Z h b kC .char N (cs.map Value.int) d) (S : RoadKit.Sta Z h ST "COMPACT_STRINGS" "Z" (.int z)) (hz : ¬ z = 0)
    (hn : cs.length = n) (hN : N = Int32.ofNat n) (l0 : 0 < n) (l2 : n ≤ 4000) (hp : ∀ c ∈ cs, ¬ c < 0 ∧ ¬ (255 : Int32) < c) (hb : bs = cs.map (fun c => c.toInt8.toInt32)) (hfr : 4 ≤ R.frames) (hlo : W + 65 ≤ R.locals) :
    Back l R p e below s args (⟨"java/lang/String", "<init>", "([C)V"⟩ : MethodName) len W (fun P a => a = #[.ref x, .ref b] ∧ P.U.heap = h ∧ P.cells + 1 ≤ R.cells ∧ P.slots + n ≤ R.slots)
      (fun P _ v B => ∃ L, QV Z x N bs h n0 v B.U.heap L ∧ B.locs = P.locs ++ L ∧ B.cells = P.cells + 1 ∧ B.slots = P.slots + n) := by
  subst hn hN hb
  refine Back.mono (backArv hZ hw wi E V C K S hz (n32 (by omega)) l0 (by omega) (fun c hc => (hp c hc).2) hfr hlo) (fun P a hp => hp) (fun P a v B hp hq => ?_)
  obtain ⟨L, ⟨q1, q2, q3, q4, q5, q6, q7, ⟨kb, v1, v2⟩, q9⟩, hl, hc, hs⟩ := hq
  exact ⟨L, ⟨q1, fun y hy => by rw [q2 y hy]; exact hx0, q3, q5, q7, h.size, kb, hh0, Nat.le_refl _, Nat.ne_of_gt E.lt, q6, by rw [List.map_map]; exact v2⟩, hl, hc, hs⟩
end StrChars.Road
namespace StrChars
open Jvm Sem ClassFile Op Lib Jvm.Stand Jvm.Free.XT Jvm.Free.ALB Jvm.Free.JM Jvm.Free
open Jvm.Lib.Cold (StaticIs)
def hi8 (x : Int32) : Int32 := lo8 (x >>> ((8 : Int32) &&& 31))
/-- what StringUTF16.getChar makes of two bytes -/
def pairCh (u v : Int32) : Int32 := (((u &&& 255) <<< ((0 : Int32) &&& 31)) ||| ((v &&& 255) <<< ((8 : Int32) &&& 31))).toUInt32.toUInt16.toUInt32.toInt32
theorem lo8_and (x : Int32) : (lo8 x &&& 255).toBitVec.toNat = x.toBitVec.toNat % 256 := by
  have h : (lo8 x).toBitVec = (x.toBitVec.signExtend 8).signExtend 32 := by rw [lo8, Int8.toBitVec_toInt32, Int32.toBitVec_toInt8]
  rw [Int32.toBitVec_and, BitVec.toNat_and, h]
  have e : ((x.toBitVec.signExtend 8).signExtend 32).toNat % 256 = x.toBitVec.toNat % 256 := by
    rw [BitVec.toNat_signExtend]
    have hlt := x.toBitVec.isLt
    simp only [BitVec.toNat_setWidth, BitVec.toNat_signExtend]
    split <;> split <;> omega
  rw [← e]
  exact Nat.and_two_pow_sub_one_eq_mod _ 8
theorem pair_says {c : Int32} (h0 : ¬ c < 0) (h1 : ¬ 65535 < c) : pairCh (lo8 c) (hi8 c) = c := by
  rw [Int32.lt_iff_toInt_lt] at h0 h1
  have e0 : (0 : Int32).toInt = 0 := rfl
  have e1 : (65535 : Int32).toInt = 65535 := rfl
  have hc : c.toInt = c.toBitVec.toNat := by
    have := c.toBitVec.isLt
    have e : c.toInt = c.toBitVec.toInt := rfl
    rw [e] at h0 h1
    rw [e]
    rw [BitVec.toInt_eq_toNat_cond] at h0 h1 ⊢
    split at h0 <;> split <;> omega
  have hn : c.toBitVec.toNat < 65536 := by omega
  have a1 := lo8_and c
  have a2 : (hi8 c &&& 255).toBitVec.toNat = c.toBitVec.toNat / 256 := by
    rw [hi8, lo8_and]
    have e : ((8 : Int32) &&& 31) = 8 := by decide
    rw [e, Int32.toBitVec_shiftRight]
    have e2 : ((8 : Int32).toBitVec.smod 32) = 8#32 := by decide
    rw [e2, BitVec.sshiftRight_eq', BitVec.toNat_sshiftRight_of_msb_false (by rw [BitVec.msb_eq_false_iff_two_mul_lt]; omega)]
    show c.toBitVec.toNat >>> 8 % 256 = _
    rw [Nat.shiftRight_eq_div_pow]
    omega
  unfold pairCh
  apply Int32.toBitVec_inj.mp
  apply BitVec.eq_of_toNat_eq
  have f0 : ((0 : Int32) &&& 31) = 0 := by decide
  have f8 : ((8 : Int32) &&& 31) = 8 := by decide
  rw [f0, f8]
  have g : (((lo8 c &&& 255) <<< (0 : Int32)) ||| ((hi8 c &&& 255) <<< (8 : Int32))).toBitVec.toNat = c.toBitVec.toNat := by
    rw [Int32.toBitVec_or, Int32.toBitVec_shiftLeft, Int32.toBitVec_shiftLeft]
    have s0 : ((0 : Int32).toBitVec.smod 32) = 0#32 := by decide
    have s8 : ((8 : Int32).toBitVec.smod 32) = 8#32 := by decide
    rw [s0, s8, BitVec.toNat_or]
    simp only [BitVec.shiftLeft_eq', BitVec.toNat_shiftLeft, a1, a2]
    show (c.toBitVec.toNat % 256) <<< 0 % 2 ^ 32 ||| (c.toBitVec.toNat / 256) <<< 8 % 2 ^ 32 = _
    rw [Nat.shiftLeft_zero, Nat.mod_eq_of_lt (show c.toBitVec.toNat % 256 < 2 ^ 32 by omega), Nat.mod_eq_of_lt (show (c.toBitVec.toNat / 256) <<< 8 < 2 ^ 32 by rw [Nat.shiftLeft_eq]; omega), Nat.or_comm, ← Nat.shiftLeft_add_eq_or_of_lt (by omega), Nat.shiftLeft_eq]
    omega
  show BitVec.toNat (((((lo8 c &&& 255) <<< (0 : Int32)) ||| ((hi8 c &&& 255) <<< (8 : Int32))).toBitVec.setWidth 16).setWidth 32) = _
  rw [BitVec.toNat_setWidth, BitVec.toNat_setWidth, g]
  omega
end StrChars
namespace StrChars
open Jvm Sem ClassFile Op Lib Jvm.Stand Jvm.Free.XT Jvm.Free.ALB Jvm.Free.JM Jvm.Free
open Jvm.Lib.Cold (StaticIs)
/-- the array's cell V codes the n chars f 0 .. f (n - 1) by the coder cd, as the JDK does: coder 1 just where some char is above 255 -/
def Cod (cd : Int32) (n : Nat) (f : Nat → Int32) (V : Cell) : Prop := (cd = 0 ∧ V.slots.size = n ∧ ∀ j, j < n → V.slots[j]? = some (.int (lo8 (f j))) ∧ ¬ 255 < f j) ∨ (cd = 1 ∧ V.slots.size = 2 * n ∧ (∀ j, j < n → V.slots[2 * j]? = some (.int (lo8 (f j))) ∧ V.slots[2 * j + 1]? = some (.int (hi8 (f j)))) ∧ ∃ j, j < n ∧ 255 < f j)
/-- **x is a String of the n chars f 0 .. f (n - 1)**, Latin-1 or UTF-16; its array at t has the cell V -/
def Txt (x t : Addr) (V : Cell) (cd : Int32) (n : Nat) (f : Nat → Int32) (U : State) : Prop := Exact "java/lang/String" x U ∧ Has x "java/lang/String" "value" "[B" (.ref t) U ∧ Has x "java/lang/String" "coder" "B" (.int cd) U ∧ XT.Arr .byte t V U ∧ Cod cd n f V ∧ ∀ j, j < n → ¬ f j < 0 ∧ ¬ 65535 < f j
theorem Txt.mv {x t : Addr} {V : Cell} {cd : Int32} {n : Nat} {f : Nat → Int32} {U U' : State} (h : Txt x t V cd n f U) (hal : U.vm.Alike U'.vm) (hh : U'.heap = U.heap) : Txt x t V cd n f U' := ⟨h.1.mv hal hh, h.2.1.mv hal hh, h.2.2.1.mv hal hh, h.2.2.2.1.mv hal hh, h.2.2.2.2⟩
end StrChars
namespace StrChars.Road
open Jvm Sem ClassFile Op Lib Jvm.Stand Jvm.Free Jvm.Free.XT
open Jvm.Lib.Cold (StaticIs)
theorem consq {a : Array Value} {s : State} {c : Jvm.Cond} {L : List Jvm.Cond} (h0 : c.before a s = true) (h : ∀ w ∈ L, w.before a s = true) : ∀ w ∈ c :: L, w.before a s = true := fun w hw => (List.mem_cons.mp hw).elim (fun e => e ▸ h0) (h w)
/-- the bytes of the chars cs, low before high -/
def wideBytes : List Int32 → List Value
  | [] => []
  | c :: cs => .int (lo8 c) :: .int (hi8 c) :: wideBytes cs
theorem wide_lo (d : Value) : ∀ (cs : List Int32) (j : Nat), j < cs.length → (wideBytes cs).getD (2 * j) d = .int (lo8 (cs.getD j 0))
  | [], j, h => absurd h (Nat.not_lt_zero j)
  | c :: cs, 0, _ => rfl
  | c :: cs, j + 1, h => by
    have q := wide_lo d cs j (by simpa using h)
    rw [show 2 * (j + 1) = 2 * j + 1 + 1 from by omega]
    simpa [wideBytes] using q
theorem wide_hi (d : Value) : ∀ (cs : List Int32) (j : Nat), j < cs.length → (wideBytes cs).getD (2 * j + 1) d = .int (hi8 (cs.getD j 0))
  | [], j, h => absurd h (Nat.not_lt_zero j)
  | c :: cs, 0, _ => rfl
  | c :: cs, j + 1, h => by
    have q := wide_hi d cs j (by simpa using h)
    rw [show 2 * (j + 1) + 1 = 2 * j + 1 + 1 + 1 from by omega]
    simpa [wideBytes] using q
theorem low_at (d : Value) (cs : List Int32) (j : Nat) (h : j < cs.length) : (cs.map fun c => Value.int (lo8 c)).getD j d = .int (lo8 (cs.getD j 0)) := by
  simp [List.getD_eq_getElem?_getD, h]
/-- an array of N2 bytes vs codes the chars cs by the coder cd -/
def CodA (cs : List Int32) (cd N2 : Int32) (vs : List Value) : Prop := (cd = 0 ∧ N2 = Int32.ofNat cs.length ∧ vs = (cs.map fun c => Value.int (lo8 c)) ∧ ∀ c ∈ cs, ¬ 255 < c) ∨ (cd = 1 ∧ N2 = Int32.ofNat (2 * cs.length) ∧ vs = wideBytes cs ∧ ∃ c ∈ cs, 255 < c)
theorem CodA.cod {cs : List Int32} {cd N2 : Int32} {vs : List Value} {V : Cell} (h : CodA cs cd N2 vs) (hn : 2 * cs.length < 2 ^ 31) (hs : V.slots.size = N2.toNatClampNeg) (hv : RoadKit.Has V vs (.int 0)) : Cod cd cs.length (fun j => cs.getD j 0) V := by
  rcases h with ⟨rfl, rfl, rfl, h⟩ | ⟨rfl, rfl, rfl, c, hc, hw⟩
  · rw [n32 (by omega)] at hs
    exact Or.inl ⟨rfl, hs, fun j hj => ⟨by rw [hv j (by omega), low_at _ _ _ hj], by
      have e : cs.getD j 0 = cs[j] := by simp [List.getD_eq_getElem?_getD, hj]
      show ¬ 255 < cs.getD j 0
      rw [e]; exact h _ (List.getElem_mem _)⟩⟩
  · rw [n32 (by omega)] at hs
    obtain ⟨j, hj, rfl⟩ := List.getElem_of_mem hc
    exact Or.inr ⟨rfl, hs, fun j hj => ⟨by rw [hv _ (by omega), wide_lo _ _ _ hj], by rw [hv _ (by omega), wide_hi _ _ _ hj]⟩, j, hj, by
      have e : cs.getD j 0 = cs[j] := by simp [List.getD_eq_getElem?_getD, hj]
      show 255 < cs.getD j 0
      rw [e]; exact hw⟩
/-- an object of exactly java/lang/String, its two fields found: as the laws ask it -/
theorem strObj {Z U : State} {a0 : Array Value} {kI : Nat} (wi : (Jvm.Cond.instantiable ST kI).before a0 Z = true) (al : Z.vm.Alike U.vm) {x : Addr} {v0 c0 : Value} (E : RoadKit.Exa Z U.heap x ST) (V : RoadKit.Fld Z U.heap x ST "value" "[B" v0) (C : RoadKit.Fld Z U.heap x ST "coder" "B" c0) :
    ∃ (D : Cell) (fV fC : Field), Blank ST x D U ∧ Found ST "value" "[B" fV U ∧ Found ST "coder" "B" fC U ∧ D.slots[fV.slot]? = some v0 ∧ D.slots[fC.slot]? = some c0 ∧ RoadKit.slotOf Z ST "value" "[B" = fV.slot ∧ RoadKit.slotOf Z ST "coder" "B" = fC.slot := by
  obtain ⟨D, cfV, kV, iV, fV, hD, gV, stV, knV, obV, asV, slV⟩ := V
  obtain ⟨D', cfC, kC, iC, fC, hD', gC, stC, -, -, asC, slC⟩ := C
  cases hD.symm.trans hD'
  obtain ⟨D2, kD, e1, e2, e3, e4, e5⟩ := E
  cases hD.symm.trans e1
  obtain ⟨c2, k2, i1, i2, i3, -⟩ := Cond.instantiable_spec wi
  cases e2.symm.trans i1
  cases e3.symm.trans i2
  obtain ⟨kU, u1, u2⟩ := al.2.2 _ _ e3
  exact ⟨D, fV, fC, ⟨hD, ⟨knV, fun q hq => by rw [hq] at obV; cases obV⟩, by rw [al.findClass]; exact e2, kU, u1, by rw [u2]; exact i3, by rw [u2]; exact e5 i3⟩, ⟨SBG.found_only al ⟨cfV, kV, iV, gV⟩, stV⟩, ⟨SBG.found_only al ⟨cfC, kC, iC, gC⟩, stC⟩, slV, slC, by simp [RoadKit.slotOf, gV], by simp [RoadKit.slotOf, gC]⟩
theorem sta_is {Z U : State} (al : Z.vm.Alike U.vm) {C n d : String} {v : Value} (S : RoadKit.Sta Z U.heap C n d v) : StaticIs U C n d v := by
  obtain ⟨cfS, iS, kS, fS, st, cS, t1, t2, t3, t4, t5, t6, t7⟩ := S
  exact StaticIs.there (s := { Z with heap := U.heap }) ⟨cfS, iS, kS, fS, st, cS, t1, t2, t3, t4, t5, (fun q => by rw [q] at t6; cases t6), t7⟩ al rfl
end StrChars.Road
namespace StrChars
open Jvm Sem ClassFile Op Lib Jvm.Stand Jvm.Free.XT Jvm.Free.ALB Jvm.Free.JM Jvm.Free
open Jvm.Lib.Cold (StaticIs)
/-- what place i of a byte[]'s cell holds -/
def yv (A : Cell) (i : Nat) : Int32 := match A.slots[i]? with | some (.int x) => x | _ => 0
theorem yv_get {a : Addr} {A : Cell} {U : State} (h : XT.Arr .byte a A U) (ht : Typed .byte A) {i : Nat} (hi : i < A.slots.size) : A.slots[i]? = some (.int (yv A i)) := by
  have e := Array.getElem?_eq_getElem hi
  have f := ht i _ e
  unfold yv; rw [e]
  generalize A.slots[i] = v at f
  cases v <;> simp [fits] at f ⊢
/-- the two arrays are equal, place for place -/
def EqC (A B : Cell) : Prop := A.slots.size = B.slots.size ∧ ∀ i, i < A.slots.size → yv A i = yv B i
/-- a boolean that says whether p -/
def Says01 (q : Prop) (r : Option Value) (s u : State) : Prop := ∃ v : Int32, r = some (.int v) ∧ u.heap = s.heap ∧ ((v = 1 ∧ q) ∨ (v = 0 ∧ ¬ q))
theorem Says01.mv {q : Prop} : ∀ r (U U' V V' : State), U'.heap = U.heap → V.vm.Alike V'.vm → V'.heap = V.heap → Says01 q r U V → Says01 q r U' V' :=
  fun r U U' V V' h1 _ h2 ⟨v, a, b, c⟩ => ⟨v, a, by rw [h1, h2]; exact b, c⟩
namespace LEq
def yN : MethodName := ⟨"java/lang/StringLatin1", "equals", "([B[B)Z"⟩
abbrev yB : ByteArray := jdk_43_method_13_code
theorem d0 : decode yB 0 = .ok (.aload_n 0, 1) := by decide +kernel
theorem d1 : decode yB 1 = .ok (.arraylength, 1) := by decide +kernel
theorem d2 : decode yB 2 = .ok (.aload_n 1, 1) := by decide +kernel
theorem d3 : decode yB 3 = .ok (.arraylength, 1) := by decide +kernel
theorem d4 : decode yB 4 = .ok (.if_icmp (.ne) 30, 3) := by decide +kernel
theorem d7 : decode yB 7 = .ok (.iconst 0, 1) := by decide +kernel
theorem d8 : decode yB 8 = .ok (.istore_n 2, 1) := by decide +kernel
theorem d9 : decode yB 9 = .ok (.iload_n 2, 1) := by decide +kernel
theorem d10 : decode yB 10 = .ok (.aload_n 0, 1) := by decide +kernel
theorem d11 : decode yB 11 = .ok (.arraylength, 1) := by decide +kernel
theorem d12 : decode yB 12 = .ok (.if_icmp (.ge) 20, 3) := by decide +kernel
theorem d15 : decode yB 15 = .ok (.aload_n 0, 1) := by decide +kernel
theorem d16 : decode yB 16 = .ok (.iload_n 2, 1) := by decide +kernel
theorem d17 : decode yB 17 = .ok (.baload, 1) := by decide +kernel
theorem d18 : decode yB 18 = .ok (.aload_n 1, 1) := by decide +kernel
theorem d19 : decode yB 19 = .ok (.iload_n 2, 1) := by decide +kernel
theorem d20 : decode yB 20 = .ok (.baload, 1) := by decide +kernel
theorem d21 : decode yB 21 = .ok (.if_icmp (.eq) 5, 3) := by decide +kernel
theorem d24 : decode yB 24 = .ok (.iconst 0, 1) := by decide +kernel
theorem d25 : decode yB 25 = .ok (.ireturn, 1) := by decide +kernel
theorem d26 : decode yB 26 = .ok (.iinc 2 1, 3) := by decide +kernel
theorem d29 : decode yB 29 = .ok (.goto (-20), 3) := by decide +kernel
theorem d32 : decode yB 32 = .ok (.iconst 1, 1) := by decide +kernel
theorem d33 : decode yB 33 = .ok (.ireturn, 1) := by decide +kernel
theorem d34 : decode yB 34 = .ok (.iconst 0, 1) := by decide +kernel
theorem d35 : decode yB 35 = .ok (.ireturn, 1) := by decide +kernel
def site : List Cond := []
def tab : Cond := tabOf yN yB 3 (some .boolean) site
def P (a : Addr) (A : Cell) (b : Addr) (B : Cell) (args : Array Value) (s : State) : Prop := args = #[.ref a, .ref b] ∧ XT.Arr .byte a A s ∧ Typed .byte A ∧ XT.Arr .byte b B s ∧ Typed .byte B
/-- whether two byte[] are equal, place for place -/
theorem law (l : Launch) (a : Addr) (A : Cell) (b : Addr) (B : Cell) : Law l yN 2 2 0 0 yB 3 (some .boolean) site (P a A b B) (Says01 (EqC A B)) [] 0 0 := by
  refine Law.of_walk (plainFor_of_name (by decide +kernel)) (by decide +kernel) (by decide +kernel) (by decide) (fun _ _ h => by rw [h.1]; rfl) (fun _ U U' hal hh h => ⟨h.1, h.2.1.mv hal hh, h.2.2.1, h.2.2.2.1.mv hal hh, h.2.2.2.2⟩) (fun r U U' V V' h1 hal h2 h => Says01.mv r U U' V V' h1 hal h2 h) ?_
  intro p e s m args below meth c s₁ X0 hexec hbytes hml hret hlk hnm hown hh0 W hP
  obtain ⟨rfl, hA, tA, hB, tB⟩ := hP
  have a31 := hA.2.2.2
  have b31 := hB.2.2.2
  have hA0 := hA.mv X0.warmed.alike hh0
  have hB0 := hB.mv X0.warmed.alike hh0
  have c1 : Steps p.tables e below (s₁.setTop (entryFrame m #[.ref a, .ref b] 3)) (s₁.setTop (mkF m 0 #[.val (.ref a), .val (.ref b), .unset] [])) := entry rfl
  have c2 : Steps p.tables e below (s₁.setTop (entryFrame m #[.ref a, .ref b] 3)) (s₁.setTop (mkF m 4 #[.val (.ref a), .val (.ref b), .unset] [.int (Int32.ofNat B.slots.size), .int (Int32.ofNat A.slots.size)])) := c1.trans (by
    refine XS.aloadN X0.here hexec rfl (hb hbytes d0) rfl rfl ?_
    refine X0.alen hexec hA0 rfl rfl (hb hbytes d1) ?_
    refine XS.aloadN X0.here hexec rfl (hb hbytes d2) rfl rfl ?_
    refine X0.alen hexec hB0 rfl rfl (hb hbytes d3) ?_
    exact Steps.refl _)
  by_cases hs : A.slots.size = B.slots.size
  · have c3 : Steps p.tables e below (s₁.setTop (entryFrame m #[.ref a, .ref b] 3)) (s₁.setTop (mkF m 9 #[.val (.ref a), .val (.ref b), .val (.int 0)] [])) := c2.trans (by
      refine XS.icmpNo X0.here hexec rfl (hb hbytes d4) rfl (ii_ne_f (by rw [hs])) ?_
      refine iconstV X0.here hexec rfl 0 (hb hbytes d7) (by decide) ?_
      refine XS.istoreN X0.here hexec rfl (hb hbytes d8) rfl rfl ?_
      exact Steps.refl _)
    have loop : ∀ (r i : Nat), i + r = A.slots.size → (∀ j, j < i → yv A j = yv B j) → Steps p.tables e below (s₁.setTop (entryFrame m #[.ref a, .ref b] 3)) (s₁.setTop (mkF m 9 #[.val (.ref a), .val (.ref b), .val (.int (Int32.ofNat i))] [])) → ∃ (pc : Nat) (Ls : Array Slot) (v : Int32), (pc = 25 ∨ pc = 33) ∧ ((v = 1 ∧ EqC A B) ∨ (v = 0 ∧ ¬ EqC A B)) ∧ Steps p.tables e below (s₁.setTop (entryFrame m #[.ref a, .ref b] 3)) (s₁.setTop (mkF m pc Ls [.int v])) := by
      intro r
      induction r with
      | zero =>
        intro i hi he cl
        exact ⟨33, _, 1, Or.inr rfl, Or.inl ⟨rfl, hs, fun j hj => he j (by omega)⟩, cl.trans (by
          refine XS.iloadN X0.here hexec rfl (hb hbytes d9) rfl ?_
          refine XS.aloadN X0.here hexec rfl (hb hbytes d10) rfl rfl ?_
          refine X0.alen hexec hA0 rfl rfl (hb hbytes d11) ?_
          refine XS.icmpYes X0.here hexec rfl (pc0 := 12) rfl (hb hbytes d12) rfl (ii_ge_t (nlt32 (by omega) (by omega))) (by decide) rfl ?_
          refine iconstV X0.here hexec rfl 1 (hb hbytes d32) (by decide) ?_
          exact Steps.refl _)⟩
      | succ r ih =>
        intro i hi he cl
        have c4 : Steps p.tables e below (s₁.setTop (entryFrame m #[.ref a, .ref b] 3)) (s₁.setTop (mkF m 21 #[.val (.ref a), .val (.ref b), .val (.int (Int32.ofNat i))] [.int (yv B i), .int (yv A i)])) := cl.trans (by
          refine XS.iloadN X0.here hexec rfl (hb hbytes d9) rfl ?_
          refine XS.aloadN X0.here hexec rfl (hb hbytes d10) rfl rfl ?_
          refine X0.alen hexec hA0 rfl rfl (hb hbytes d11) ?_
          refine XS.icmpNo X0.here hexec rfl (hb hbytes d12) rfl (ii_ge_f (lt32 (by omega) (by omega))) ?_
          refine XS.aloadN X0.here hexec rfl (hb hbytes d15) rfl rfl ?_
          refine XS.iloadN X0.here hexec rfl (hb hbytes d16) rfl ?_
          refine X0.aget hexec hA0 rfl (yv_get hA tA (i := i) (by omega)) rfl rfl (hb hbytes d17) ?_
          refine XS.aloadN X0.here hexec rfl (hb hbytes d18) rfl rfl ?_
          refine XS.iloadN X0.here hexec rfl (hb hbytes d19) rfl ?_
          refine X0.aget hexec hB0 rfl (yv_get hB tB (i := i) (by omega)) rfl rfl (hb hbytes d20) ?_
          exact Steps.refl _)
        by_cases hv : yv A i = yv B i
        · have c5 : Steps p.tables e below (s₁.setTop (entryFrame m #[.ref a, .ref b] 3)) (s₁.setTop (mkF m 9 #[.val (.ref a), .val (.ref b), .val (.int (Int32.ofNat i + 1))] [])) := c4.trans (by
            refine XS.icmpYes X0.here hexec rfl (pc0 := 21) rfl (hb hbytes d21) rfl (ii_eq_t hv) (by decide) rfl ?_
            refine iincV X0.here hexec rfl 1 (hb hbytes d26) (by decide) rfl rfl ?_
            refine XS.goto X0.here hexec rfl (pc0 := 29) rfl (hb hbytes d29) (by decide) rfl ?_
            exact Steps.refl _)
          rw [succ32] at c5
          exact ih (i + 1) (by omega) (fun j hj => by
            by_cases e : j = i
            · rw [e]; exact hv
            · exact he j (by omega)) c5
        · exact ⟨25, _, 0, Or.inl rfl, Or.inr ⟨rfl, fun q => hv (q.2 i (by omega))⟩, c4.trans (by
            refine XS.icmpNo X0.here hexec rfl (hb hbytes d21) rfl (ii_eq_f hv) ?_
            refine iconstV X0.here hexec rfl 0 (hb hbytes d24) (by decide) ?_
            exact Steps.refl _)⟩
    obtain ⟨pc, Ls, v, hpc, hv, cz⟩ := loop A.slots.size 0 (by omega) (fun j hj => absurd hj (Nat.not_lt_zero j)) c3
    have nv : narrow .boolean (.int v) = .int v := by rcases hv with ⟨rfl, -⟩ | ⟨rfl, -⟩ <;> rfl
    rcases hpc with rfl | rfl
    · exact ⟨s₁, some (.int v), _, _, _, X0, rfl, rfl, rfl, (fun h => by cases h), ⟨v, rfl, hh0, hv⟩, fun fs hl => cz.trans (X0.ireturnOut hexec hret nv (Or.inr (Or.inl rfl)) (hb hbytes d25) hl)⟩
    · exact ⟨s₁, some (.int v), _, _, _, X0, rfl, rfl, rfl, (fun h => by cases h), ⟨v, rfl, hh0, hv⟩, fun fs hl => cz.trans (X0.ireturnOut hexec hret nv (Or.inr (Or.inl rfl)) (hb hbytes d33) hl)⟩
  · have c3 : Steps p.tables e below (s₁.setTop (entryFrame m #[.ref a, .ref b] 3)) (s₁.setTop (mkF m 35 #[.val (.ref a), .val (.ref b), .unset] [.int 0])) := c2.trans (by
      refine XS.icmpYes X0.here hexec rfl (pc0 := 4) rfl (hb hbytes d4) rfl (ii_ne_t (ne32 a31 b31 hs)) (by decide) rfl ?_
      refine iconstV X0.here hexec rfl 0 (hb hbytes d34) (by decide) ?_
      exact Steps.refl _)
    exact ⟨s₁, some (.int 0), _, _, _, X0, rfl, rfl, rfl, (fun h => by cases h), ⟨0, rfl, hh0, Or.inr ⟨rfl, fun q => hs q.1⟩⟩, fun fs hl => c3.trans (X0.ireturnOut hexec hret rfl (Or.inr (Or.inl rfl)) (hb hbytes d35) hl)⟩
end LEq
theorem Cod.ty {cd : Int32} {n : Nat} {f : Nat → Int32} {V : Cell} (h : Cod cd n f V) : Typed .byte V := fun i v hv => by
  have hi : i < V.slots.size := (Array.getElem?_eq_some_iff.mp hv).1
  rcases h with ⟨-, k1, k2⟩ | ⟨-, k1, k2, -⟩
  · rw [(k2 i (by omega)).1] at hv; cases hv; exact fits_lo8 _
  · rcases Nat.mod_two_eq_zero_or_one i with e | e
    · obtain ⟨j, rfl⟩ : ∃ j, i = 2 * j := ⟨i / 2, by omega⟩
      rw [(k2 j (by omega)).1] at hv; cases hv; exact fits_lo8 _
    · obtain ⟨j, rfl⟩ : ∃ j, i = 2 * j + 1 := ⟨i / 2, by omega⟩
      rw [(k2 j (by omega)).2] at hv; cases hv; exact fits_lo8 _
/-- the same text -/
def SameT (n : Nat) (f : Nat → Int32) (k : Nat) (g : Nat → Int32) : Prop := n = k ∧ ∀ j, j < n → f j = g j
theorem lo8_inj {x y : Int32} (h0 : ¬ x < 0) (h1 : ¬ 255 < x) (k0 : ¬ y < 0) (k1 : ¬ 255 < y) (h : lo8 x = lo8 y) : x = y := by
  rw [← lo8_mask h0 h1, ← lo8_mask k0 k1, h]
/-- arrays coded by one coder are equal just where the texts are -/
theorem Cod.eqv {cd : Int32} {n k : Nat} {f g : Nat → Int32} {V V' : Cell} (h : Cod cd n f V) (h' : Cod cd k g V') (hf : ∀ j, j < n → ¬ f j < 0 ∧ ¬ 65535 < f j) (hg : ∀ j, j < k → ¬ g j < 0 ∧ ¬ 65535 < g j) : EqC V V' ↔ SameT n f k g := by
  have yvv : ∀ {W : Cell} {i : Nat} {x : Int32}, W.slots[i]? = some (.int x) → yv W i = x := fun q => by unfold yv; rw [q]
  rcases h with ⟨rfl, k1, k2⟩ | ⟨rfl, k1, k2, -⟩
  · rcases h' with ⟨-, m1, m2⟩ | ⟨e, -⟩
    · constructor
      · rintro ⟨e1, e2⟩
        refine ⟨by omega, fun j hj => ?_⟩
        have q := e2 j (by omega)
        rw [yvv (k2 j hj).1, yvv (m2 j (by omega)).1] at q
        exact lo8_inj (hf j hj).1 (k2 j hj).2 (hg j (by omega)).1 (m2 j (by omega)).2 q
      · rintro ⟨rfl, e2⟩
        refine ⟨by omega, fun j hj => ?_⟩
        rw [yvv (k2 j (by omega)).1, yvv (m2 j (by omega)).1, e2 j (by omega)]
    · exact absurd e (by decide)
  · rcases h' with ⟨e, -⟩ | ⟨-, m1, m2, -⟩
    · exact absurd e (by decide)
    · constructor
      · rintro ⟨e1, e2⟩
        refine ⟨by omega, fun j hj => ?_⟩
        have q1 := e2 (2 * j) (by omega)
        have q2 := e2 (2 * j + 1) (by omega)
        rw [yvv (k2 j hj).1, yvv (m2 j (by omega)).1] at q1
        rw [yvv (k2 j hj).2, yvv (m2 j (by omega)).2] at q2
        rw [← pair_says (hf j hj).1 (hf j hj).2, ← pair_says (hg j (by omega)).1 (hg j (by omega)).2, q1, q2]
      · rintro ⟨rfl, e2⟩
        refine ⟨by omega, fun i hi => ?_⟩
        rcases Nat.mod_two_eq_zero_or_one i with e | e
        · obtain ⟨j, rfl⟩ : ∃ j, i = 2 * j := ⟨i / 2, by omega⟩
          rw [yvv (k2 j (by omega)).1, yvv (m2 j (by omega)).1, e2 j (by omega)]
        · obtain ⟨j, rfl⟩ : ∃ j, i = 2 * j + 1 := ⟨i / 2, by omega⟩
          rw [yvv (k2 j (by omega)).2, yvv (m2 j (by omega)).2, e2 j (by omega)]
/-- two codings differ: so do the texts -/
theorem Cod.dif {cd cd' : Int32} {n k : Nat} {f g : Nat → Int32} {V V' : Cell} (h : Cod cd n f V) (h' : Cod cd' k g V') (hne : ¬ cd = cd') : ¬ SameT n f k g := by
  rintro ⟨rfl, e⟩
  rcases h with ⟨rfl, -, k2⟩ | ⟨rfl, -, -, j, hj, hw⟩
  · rcases h' with ⟨rfl, -⟩ | ⟨-, -, -, j, hj, hw⟩
    · exact hne rfl
    · exact (k2 j hj).2 (by rw [e j hj]; exact hw)
  · rcases h' with ⟨-, -, m2⟩ | ⟨rfl, -⟩
    · exact (m2 j hj).2 (by rw [← e j hj]; exact hw)
    · exact hne rfl
/-- an object of exactly C is an instance of C -/
theorem cinst {p : Program} {l : Launch} {e : Env} {R : Room} {s : State} {m : MethodId} {args : Array Value} {below : List Frame} {meth : Method} {c : Code} {T : State} {locs : List Loc} {cells slots : Nat} (X : Stand p l e R s m args below meth c T locs cells slots) (hexec : p.tables.exec = Jvm.exec) {own C : String} {index : Nat} (hown : s.vm.findClass own = some m.cls) (hlink : (Cond.classLink own index C).before args s = true) {a : Addr} (hE : Exact C a T)
    {g : JFrame} (hg : g.method = m) {rest : List Value} (hstack : g.stack = .ref a :: rest) (hdg : decode c.code g.pc = .ok (.instanceof index, 3)) :
    ∃ T', Stand p l e R s m args below meth c T' locs cells slots ∧ T'.heap = T.heap ∧ ∀ target, Steps p.tables e below (T'.setTop { g with pc := g.pc + 3, stack := .int 1 :: rest }) target → Steps p.tables e below (T.setTop g) target := by
  obtain ⟨cB, h1, D, h2, h3, h4⟩ := hE
  have h1' : s.vm.findClass C = some cB := by rw [← X.warmed.alike.findClass]; exact h1
  obtain ⟨vm', X', st⟩ := X.instanceofYes hexec hown hlink h2 h4 h1' (by rw [h3]; exact Jvm.Free.SB.assignable_self _ _) hg hstack hdg
  exact ⟨_, X', rfl, st⟩
theorem cself {p : Program} {l : Launch} {e : Env} {R : Room} {s : State} {m : MethodId} {args : Array Value} {below : List Frame} {meth : Method} {c : Code} {T : State} {locs : List Loc} {cells slots : Nat} (X : Stand p l e R s m args below meth c T locs cells slots) (hexec : p.tables.exec = Jvm.exec) {own C : String} {index : Nat} (hown : s.vm.findClass own = some m.cls) (hlink : (Cond.classLink own index C).before args s = true) {a : Addr} (hE : Exact C a T)
    {g : JFrame} (hg : g.method = m) {rest : List Value} (hstack : g.stack = .ref a :: rest) (hdg : decode c.code g.pc = .ok (.checkcast index, 3)) :
    ∃ T', Stand p l e R s m args below meth c T' locs cells slots ∧ T'.heap = T.heap ∧ ∀ target, Steps p.tables e below (T'.setTop { g with pc := g.pc + 3, stack := .ref a :: rest }) target → Steps p.tables e below (T.setTop g) target := by
  obtain ⟨cB, h1, D, h2, h3, h4⟩ := hE
  have h1' : s.vm.findClass C = some cB := by rw [← X.warmed.alike.findClass]; exact h1
  obtain ⟨vm', X', st⟩ := X.checkcastYes hexec hown hlink h2 h4 h1' (by rw [h3]; exact Jvm.Free.SB.assignable_self _ _) hg hstack hdg
  exact ⟨_, X', rfl, fun t h => st t (by rw [← hstack] at h; exact h)⟩
namespace SEq
def yN : MethodName := ⟨"java/lang/String", "equals", "(Ljava/lang/Object;)Z"⟩
abbrev yB : ByteArray := jdk_42_method_66_code
theorem d0 : decode yB 0 = .ok (.aload_n 0, 1) := by decide +kernel
theorem d1 : decode yB 1 = .ok (.aload_n 1, 1) := by decide +kernel
theorem d2 : decode yB 2 = .ok (.if_acmp (.ne) 5, 3) := by decide +kernel
theorem d5 : decode yB 5 = .ok (.iconst 1, 1) := by decide +kernel
theorem d6 : decode yB 6 = .ok (.ireturn, 1) := by decide +kernel
theorem d7 : decode yB 7 = .ok (.aload_n 1, 1) := by decide +kernel
theorem d8 : decode yB 8 = .ok (.instanceof 10, 3) := by decide +kernel
theorem d11 : decode yB 11 = .ok (.ifCond (.eq) 43, 3) := by decide +kernel
theorem d14 : decode yB 14 = .ok (.aload_n 1, 1) := by decide +kernel
theorem d15 : decode yB 15 = .ok (.checkcast 10, 3) := by decide +kernel
theorem d18 : decode yB 18 = .ok (.astore_n 2, 1) := by decide +kernel
theorem d19 : decode yB 19 = .ok (.getstatic 38, 3) := by decide +kernel
theorem d22 : decode yB 22 = .ok (.ifCond (.eq) 14, 3) := by decide +kernel
theorem d25 : decode yB 25 = .ok (.aload_n 0, 1) := by decide +kernel
theorem d26 : decode yB 26 = .ok (.getfield 15, 3) := by decide +kernel
theorem d29 : decode yB 29 = .ok (.aload_n 2, 1) := by decide +kernel
theorem d30 : decode yB 30 = .ok (.getfield 15, 3) := by decide +kernel
theorem d33 : decode yB 33 = .ok (.if_icmp (.ne) 21, 3) := by decide +kernel
theorem d36 : decode yB 36 = .ok (.aload_n 0, 1) := by decide +kernel
theorem d37 : decode yB 37 = .ok (.getfield 9, 3) := by decide +kernel
theorem d40 : decode yB 40 = .ok (.aload_n 2, 1) := by decide +kernel
theorem d41 : decode yB 41 = .ok (.getfield 9, 3) := by decide +kernel
theorem d44 : decode yB 44 = .ok (.invokestatic 541, 3) := by decide +kernel
theorem d47 : decode yB 47 = .ok (.ifCond (.eq) 7, 3) := by decide +kernel
theorem d50 : decode yB 50 = .ok (.iconst 1, 1) := by decide +kernel
theorem d51 : decode yB 51 = .ok (.goto 4, 3) := by decide +kernel
theorem d54 : decode yB 54 = .ok (.iconst 0, 1) := by decide +kernel
theorem d55 : decode yB 55 = .ok (.ireturn, 1) := by decide +kernel
def site : List Cond := [.classLink "java/lang/String" 10 "java/lang/String", .fieldLink "java/lang/String" 38 "java/lang/String" "COMPACT_STRINGS" "Z", .fieldLink "java/lang/String" 15 "java/lang/String" "coder" "B", .fieldLink "java/lang/String" 9 "java/lang/String" "value" "[B", LEq.tab] ++ staticW "java/lang/String" 541 LEq.yN
def tab : Cond := tabOf yN yB 3 (some .boolean) site
def P (x t : Addr) (V : Cell) (cd : Int32) (n : Nat) (f : Nat → Int32) (y t' : Addr) (V' : Cell) (cd' : Int32) (k : Nat) (g : Nat → Int32) (z : Int32) (args : Array Value) (s : State) : Prop := args = #[.ref x, .ref y] ∧ Txt x t V cd n f s ∧ Txt y t' V' cd' k g s ∧ StaticIs s "java/lang/String" "COMPACT_STRINGS" "Z" (.int z) ∧ ¬ z = 0
/-- equals(Object) of two Strings: whether the texts are the same -/
theorem law (l : Launch) (x t : Addr) (V : Cell) (cd : Int32) (n : Nat) (f : Nat → Int32) (y t' : Addr) (V' : Cell) (cd' : Int32) (k : Nat) (g : Nat → Int32) (z : Int32) : Law l yN 2 1 1 14 yB 3 (some .boolean) site (P x t V cd n f y t' V' cd' k g z) (Says01 (SameT n f k g)) [] 0 0 := by
  refine Law.of_walk (plainFor_of_name (by decide +kernel)) (by decide +kernel) (by decide +kernel) (by decide) (fun _ _ h => by rw [h.1]; rfl) (fun _ U U' hal hh h => ⟨h.1, h.2.1.mv hal hh, h.2.2.1.mv hal hh, h.2.2.2.1.there hal hh, h.2.2.2.2⟩) (fun r U U' V V' h1 hal h2 h => Says01.mv r U U' V V' h1 hal h2 h) ?_
  intro p e s m args below meth c s₁ X0 hexec hbytes hml hret hlk hnm hown hh0 W hP
  obtain ⟨rfl, hx, hy, s1, hz⟩ := hP
  have c1 : Steps p.tables e below (s₁.setTop (entryFrame m #[.ref x, .ref y] 3)) (s₁.setTop (mkF m 2 #[.val (.ref x), .val (.ref y), .unset] [.ref y, .ref x])) := Steps.trans (entry rfl) (by
    show Steps p.tables e below (s₁.setTop (mkF m 0 #[.val (.ref x), .val (.ref y), .unset] [])) _
    refine XS.aloadN X0.here hexec rfl (hb hbytes d0) rfl rfl ?_
    refine XS.aloadN X0.here hexec rfl (hb hbytes d1) rfl rfl ?_
    exact Steps.refl _)
  by_cases hxy : x = y
  · have c2 : Steps p.tables e below (s₁.setTop (entryFrame m #[.ref x, .ref y] 3)) (s₁.setTop (mkF m 6 #[.val (.ref x), .val (.ref y), .unset] [.int 1])) := c1.trans (by
      refine acmpNo X0.here hexec rfl (hb hbytes d2) rfl rfl rfl (by simp [acmp, hxy]) ?_
      refine iconstV X0.here hexec rfl 1 (hb hbytes d5) (by decide) ?_
      exact Steps.refl _)
    subst hxy
    have ec : cd = cd' := by
      obtain ⟨D, fd, a1, a2, a3⟩ := hx.2.2.1
      obtain ⟨D', fd', b1, b2, b3⟩ := hy.2.2.1
      cases a1.symm.trans b1
      obtain ⟨q1, q2, q3, q4⟩ := a2.1
      obtain ⟨r1, r2, r3, r4⟩ := b2.1
      cases q4.symm.trans r4
      cases a3.symm.trans b3; rfl
    have et : t = t' := by
      obtain ⟨D, fd, a1, a2, a3⟩ := hx.2.1
      obtain ⟨D', fd', b1, b2, b3⟩ := hy.2.1
      cases a1.symm.trans b1
      obtain ⟨q1, q2, q3, q4⟩ := a2.1
      obtain ⟨r1, r2, r3, r4⟩ := b2.1
      cases q4.symm.trans r4
      cases a3.symm.trans b3; rfl
    subst ec et
    have ev : V = V' := by cases hx.2.2.2.1.1.symm.trans hy.2.2.2.1.1; rfl
    subst ev
    have hs : SameT n f k g := (Cod.eqv hx.2.2.2.2.1 hy.2.2.2.2.1 hx.2.2.2.2.2 hy.2.2.2.2.2).mp ⟨rfl, fun _ _ => rfl⟩
    exact ⟨s₁, some (.int 1), _, _, _, X0, rfl, rfl, rfl, (fun h => by cases h), ⟨1, rfl, hh0, Or.inl ⟨rfl, hs⟩⟩, fun fs hl => c2.trans (X0.ireturnOut hexec hret rfl (Or.inr (Or.inl rfl)) (hb hbytes d6) hl)⟩
  · have c2 : Steps p.tables e below (s₁.setTop (entryFrame m #[.ref x, .ref y] 3)) (s₁.setTop (mkF m 8 #[.val (.ref x), .val (.ref y), .unset] [.ref y])) := c1.trans (by
      refine acmpYes X0.here hexec rfl (pc0 := 2) rfl (hb hbytes d2) rfl rfl rfl (by simp [acmp, hxy]) (by decide) rfl ?_
      refine XS.aloadN X0.here hexec rfl (hb hbytes d7) rfl rfl ?_
      exact Steps.refl _)
    obtain ⟨T3, X3, q3, st3⟩ := cinst X0 hexec hown (wk W (.classLink "java/lang/String" 10 "java/lang/String")) (hy.mv X0.warmed.alike hh0).1 (g := (mkF m 8 #[.val (.ref x), .val (.ref y), .unset] [.ref y])) rfl (rest := []) rfl (hb hbytes d8)
    have hh3 := q3.trans hh0
    have c4 : Steps p.tables e below (s₁.setTop (entryFrame m #[.ref x, .ref y] 3)) (T3.setTop (mkF m 15 #[.val (.ref x), .val (.ref y), .unset] [.ref y])) := (c2.trans (st3 _ (Steps.refl _))).trans (by
      refine XS.ifNo X3.here hexec rfl (hb hbytes d11) rfl (i0_eq_f (by decide)) ?_
      refine XS.aloadN X3.here hexec rfl (hb hbytes d14) rfl rfl ?_
      exact Steps.refl _)
    obtain ⟨T5, X5, q5, st5⟩ := cself X3 hexec hown (wk W (.classLink "java/lang/String" 10 "java/lang/String")) (hy.mv X3.warmed.alike hh3).1 (g := (mkF m 15 #[.val (.ref x), .val (.ref y), .unset] [.ref y])) rfl (rest := []) rfl (hb hbytes d15)
    have hh5 := q5.trans hh3
    have c6 : Steps p.tables e below (s₁.setTop (entryFrame m #[.ref x, .ref y] 3)) (T5.setTop (mkF m 19 #[.val (.ref x), .val (.ref y), .val (.ref y)] [])) := (c4.trans (st5 _ (Steps.refl _))).trans (by
      refine XS.astoreN X5.here hexec rfl (hb hbytes d18) rfl rfl rfl ?_
      exact Steps.refl _)
    obtain ⟨T7, X7, q7, st7⟩ := X5.sget hexec hown (wk W (.fieldLink "java/lang/String" 38 "java/lang/String" "COMPACT_STRINGS" "Z")) s1 (fun _ _ h => by rw [hh5]; exact h) (g := (mkF m 19 #[.val (.ref x), .val (.ref y), .val (.ref y)] [])) rfl (hb hbytes d19)
    have hh7 := q7.trans hh5
    have c8 : Steps p.tables e below (s₁.setTop (entryFrame m #[.ref x, .ref y] 3)) (T7.setTop (mkF m 26 #[.val (.ref x), .val (.ref y), .val (.ref y)] [.ref x])) := (c6.trans (st7 _ (Steps.refl _))).trans (by
      refine XS.ifNo X7.here hexec rfl (hb hbytes d22) rfl (i0_eq_f hz) ?_
      refine XS.aloadN X7.here hexec rfl (hb hbytes d25) rfl rfl ?_
      exact Steps.refl _)
    obtain ⟨T9, X9, q9, st9⟩ := X7.hget hexec hown (wk W (.fieldLink "java/lang/String" 15 "java/lang/String" "coder" "B")) (hx.mv X7.warmed.alike hh7).2.2.1 (g := (mkF m 26 #[.val (.ref x), .val (.ref y), .val (.ref y)] [.ref x])) rfl (rest := []) rfl (hb hbytes d26)
    have hh9 := q9.trans hh7
    have c10 : Steps p.tables e below (s₁.setTop (entryFrame m #[.ref x, .ref y] 3)) (T9.setTop (mkF m 30 #[.val (.ref x), .val (.ref y), .val (.ref y)] [.ref y, .int cd])) := (c8.trans (st9 _ (Steps.refl _))).trans (by
      refine XS.aloadN X9.here hexec rfl (hb hbytes d29) rfl rfl ?_
      exact Steps.refl _)
    obtain ⟨T11, X11, q11, st11⟩ := X9.hget hexec hown (wk W (.fieldLink "java/lang/String" 15 "java/lang/String" "coder" "B")) (hy.mv X9.warmed.alike hh9).2.2.1 (g := (mkF m 30 #[.val (.ref x), .val (.ref y), .val (.ref y)] [.ref y, .int cd])) rfl (rest := [.int cd]) rfl (hb hbytes d30)
    have hh11 := q11.trans hh9
    have c12 : Steps p.tables e below (s₁.setTop (entryFrame m #[.ref x, .ref y] 3)) (T11.setTop (mkF m 33 #[.val (.ref x), .val (.ref y), .val (.ref y)] [.int cd', .int cd])) := c10.trans (st11 _ (Steps.refl _))
    by_cases hcd : cd = cd'
    · subst hcd
      have c13 : Steps p.tables e below (s₁.setTop (entryFrame m #[.ref x, .ref y] 3)) (T11.setTop (mkF m 37 #[.val (.ref x), .val (.ref y), .val (.ref y)] [.ref x])) := c12.trans (by
        refine XS.icmpNo X11.here hexec rfl (hb hbytes d33) rfl (ii_ne_f rfl) ?_
        refine XS.aloadN X11.here hexec rfl (hb hbytes d36) rfl rfl ?_
        exact Steps.refl _)
      obtain ⟨T14, X14, q14, st14⟩ := X11.hget hexec hown (wk W (.fieldLink "java/lang/String" 9 "java/lang/String" "value" "[B")) (hx.mv X11.warmed.alike hh11).2.1 (g := (mkF m 37 #[.val (.ref x), .val (.ref y), .val (.ref y)] [.ref x])) rfl (rest := []) rfl (hb hbytes d37)
      have hh14 := q14.trans hh11
      have c15 : Steps p.tables e below (s₁.setTop (entryFrame m #[.ref x, .ref y] 3)) (T14.setTop (mkF m 41 #[.val (.ref x), .val (.ref y), .val (.ref y)] [.ref y, .ref t])) := (c13.trans (st14 _ (Steps.refl _))).trans (by
        refine XS.aloadN X14.here hexec rfl (hb hbytes d40) rfl rfl ?_
        exact Steps.refl _)
      obtain ⟨T16, X16, q16, st16⟩ := X14.hget hexec hown (wk W (.fieldLink "java/lang/String" 9 "java/lang/String" "value" "[B")) (hy.mv X14.warmed.alike hh14).2.1 (g := (mkF m 41 #[.val (.ref x), .val (.ref y), .val (.ref y)] [.ref y, .ref t])) rfl (rest := [.ref t]) rfl (hb hbytes d41)
      have hh16 := q16.trans hh14
      have c17 : Steps p.tables e below (s₁.setTop (entryFrame m #[.ref x, .ref y] 3)) (T16.setTop (mkF m 44 #[.val (.ref x), .val (.ref y), .val (.ref y)] [.ref t', .ref t])) := c15.trans (st16 _ (Steps.refl _))
      obtain ⟨v18, T18, X18, E18, g18⟩ := X16.callS hexec (LEq.law l t V t' V') hown (wks W (staticW "java/lang/String" 541 LEq.yN)) (wk W LEq.tab) (W := 0) (Nat.le_of_ble_eq_true rfl) (Nat.le_of_ble_eq_true rfl) (Nat.le_refl _) (Nat.le_refl _) (g := (mkF m 44 #[.val (.ref x), .val (.ref y), .val (.ref y)] [.ref t', .ref t])) rfl (by rw [hml]; rfl) c17 (argsL := [.ref t, .ref t']) (rest := []) rfl rfl (by show 2 * 0 + 0 ≤ _; decide) (hb hbytes d44) (⟨rfl, hx.2.2.2.1.mv X16.warmed.alike hh16, hx.2.2.2.2.1.ty, hy.2.2.2.1.mv X16.warmed.alike hh16, hy.2.2.2.2.1.ty⟩)
      obtain ⟨v, rfl, q18, hv⟩ := E18
      have iff := Cod.eqv hx.2.2.2.2.1 hy.2.2.2.2.1 hx.2.2.2.2.2 hy.2.2.2.2.2
      rcases hv with ⟨rfl, he⟩ | ⟨rfl, he⟩
      · have c19 : Steps p.tables e below (s₁.setTop (entryFrame m #[.ref x, .ref y] 3)) (T18.setTop (mkF m 55 #[.val (.ref x), .val (.ref y), .val (.ref y)] [.int 1])) := Steps.trans g18 (by
          refine XS.ifNo X18.here hexec rfl (hb hbytes d47) rfl (i0_eq_f (by decide)) ?_
          refine iconstV X18.here hexec rfl 1 (hb hbytes d50) (by decide) ?_
          refine XS.goto X18.here hexec rfl (pc0 := 51) rfl (hb hbytes d51) (by decide) rfl ?_
          exact Steps.refl _)
        exact ⟨T18, some (.int 1), _, _, _, X18, rfl, rfl, rfl, (fun h => by cases h), ⟨1, rfl, q18.trans hh16, Or.inl ⟨rfl, iff.mp he⟩⟩, fun fs hl => c19.trans (X18.ireturnOut hexec hret rfl (Or.inr (Or.inl rfl)) (hb hbytes d55) hl)⟩
      · have c19 : Steps p.tables e below (s₁.setTop (entryFrame m #[.ref x, .ref y] 3)) (T18.setTop (mkF m 55 #[.val (.ref x), .val (.ref y), .val (.ref y)] [.int 0])) := Steps.trans g18 (by
          refine XS.ifYes X18.here hexec rfl (pc0 := 47) rfl (hb hbytes d47) rfl (i0_eq_t rfl) (by decide) rfl ?_
          refine iconstV X18.here hexec rfl 0 (hb hbytes d54) (by decide) ?_
          exact Steps.refl _)
        exact ⟨T18, some (.int 0), _, _, _, X18, rfl, rfl, rfl, (fun h => by cases h), ⟨0, rfl, q18.trans hh16, Or.inr ⟨rfl, fun q => he (iff.mpr q)⟩⟩, fun fs hl => c19.trans (X18.ireturnOut hexec hret rfl (Or.inr (Or.inl rfl)) (hb hbytes d55) hl)⟩
    · have c13 : Steps p.tables e below (s₁.setTop (entryFrame m #[.ref x, .ref y] 3)) (T11.setTop (mkF m 55 #[.val (.ref x), .val (.ref y), .val (.ref y)] [.int 0])) := c12.trans (by
        refine XS.icmpYes X11.here hexec rfl (pc0 := 33) rfl (hb hbytes d33) rfl (ii_ne_t hcd) (by decide) rfl ?_
        refine iconstV X11.here hexec rfl 0 (hb hbytes d54) (by decide) ?_
        exact Steps.refl _)
      exact ⟨T11, some (.int 0), _, _, _, X11, rfl, rfl, rfl, (fun h => by cases h), ⟨0, rfl, hh11, Or.inr ⟨rfl, Cod.dif hx.2.2.2.2.1 hy.2.2.2.2.1 hcd⟩⟩, fun fs hl => c13.trans (X11.ireturnOut hexec hret rfl (Or.inr (Or.inl rfl)) (hb hbytes d55) hl)⟩
theorem pays {l : Launch} {R : Room} {p : Program} {e : Env} {below : List Frame} {s : State} {sargs : Array Value} {len W : Nat} (x t : Addr) (V : Cell) (cd : Int32) (n : Nat) (f : Nat → Int32) (y t' : Addr) (V' : Cell) (cd' : Int32) (k : Nat) (g : Nat → Int32) (z : Int32) (htab : tab.before sargs s = true) (hfr : 2 ≤ R.frames) (hlo : W + 28 ≤ R.locals) :
    Back l R p e below s sargs yN len W (fun A₁ a₁ => A₁.cells + 0 ≤ R.cells ∧ A₁.slots + 0 ≤ R.slots ∧ P x t V cd n f y t' V' cd' k g z a₁ A₁.U) (fun A₁ _ v₁ B₁ => Says01 (SameT n f k g) v₁ A₁.U B₁.U ∧ B₁.locs = A₁.locs ++ [] ∧ B₁.cells = A₁.cells + 0 ∧ B₁.slots = A₁.slots + 0) :=
  (law l x t V cd n f y t' V' cd' k g z).pays htab hfr (by omega)
end SEq
end StrChars
namespace StrChars.Road
open Jvm Sem ClassFile Op Lib Jvm.Stand Jvm.Free Jvm.Free.XT
open Jvm.Lib.Cold (StaticIs)
/-- the words of String.equals(Object) -/
abbrev wordsEq : List Jvm.Cond := [.code SEq.yN SEq.yB 3 (some .boolean), .initialized ST, .classLink ST 10 ST, .fieldLink ST 38 ST "COMPACT_STRINGS" "Z", .fieldLink ST 15 ST "coder" "B", .fieldLink ST 9 ST "value" "[B", .methodLink ST 541 LEq.yN, .static LEq.yN, .code LEq.yN LEq.yB 3 (some .boolean), .initialized "java/lang/StringLatin1"]
theorem tabEq_of {a : Array Value} {s : State} (h : ∀ w ∈ wordsEq, w.before a s = true) : SEq.tab.before a s = true := by
  have hl : LEq.tab.before a s = true := unparts (wk h (.code LEq.yN LEq.yB 3 (some .boolean))) (wks h (.initialized LEq.yN.cls :: LEq.site))
  have q := consq hl h
  exact unparts (wk q (.code SEq.yN SEq.yB 3 (some .boolean))) (wks q (.initialized SEq.yN.cls :: SEq.site))
theorem movedEq {Z s : State} {a0 args : Array Value} (hZ : Z.Warmed39 s.vm) (hw : ∀ d ∈ wordsEq, d.before a0 Z = true) : ∀ d ∈ wordsEq, d.before args s = true := fun d hd => by
  have t : ∀ d ∈ wordsEq, (d.onTables && d.keepsFace) = true := by decide +kernel
  exact RoadKit.mv hZ (hw d hd) (t d hd)
/-- the road's facts of a String, as the laws ask it -/
theorem txt_of {Z U : State} {a0 : Array Value} {kI : Nat} (wi : (Jvm.Cond.instantiable ST kI).before a0 Z = true) (al : Z.vm.Alike U.vm) {x t : Addr} {kb : ClassId} {cs : List Int32} {cd N2 : Int32} {vs : List Value} (E : RoadKit.Exa Z U.heap x ST) (V : RoadKit.Fld Z U.heap x ST "value" "[B" (.ref t)) (C : RoadKit.Fld Z U.heap x ST "coder" "B" (.int cd)) (K : RoadKit.Arv Z U.heap t kb .byte N2 vs (.int 0)) (hc : CodA cs cd N2 vs) (hb : ∀ c ∈ cs, ¬ c < 0 ∧ ¬ (65535 : Int32) < c) (l2 : cs.length ≤ 4000) :
    ∃ A, Txt x t A cd cs.length (fun j => cs.getD j 0) U := by
  obtain ⟨A, K1, K2, K3, K4, K5, K6⟩ := K
  have hcod := hc.cod (by omega) K3 K5
  obtain ⟨D, fV, fC, hB, F1, F2, g1, g2, -, -⟩ := strObj wi al E V C
  exact ⟨A, ⟨_, hB.2.2.1, D, hB.1, rfl, by cases q : D.vm <;> first | rfl | exact absurd q (hB.2.1.2 _)⟩, Has.of hB F1 g1, Has.of hB F2 g2, ⟨K1.1, State.isArrayOf_alike al K1.2.1, K1.2.2, by rcases hcod with ⟨-, q, -⟩ | ⟨-, q, -⟩ <;> omega⟩, hcod, fun j hj => by
    have e : cs.getD j 0 = cs[j] := by simp [List.getD_eq_getElem?_getD, hj]
    show ¬ cs.getD j 0 < 0 ∧ ¬ 65535 < cs.getD j 0
    rw [e]; exact hb _ (List.getElem_mem _)⟩
theorem same_list (cs ds : List Int32) : SameT cs.length (fun j => cs.getD j 0) ds.length (fun j => ds.getD j 0) ↔ cs = ds := by
  constructor
  · rintro ⟨e, q⟩
    refine List.ext_getElem e fun j h1 h2 => ?_
    have := q j h1
    simpa [List.getD_eq_getElem?_getD, h1, h2] using this
  · rintro rfl
    exact ⟨rfl, fun _ _ => rfl⟩
/-- **equals(Object) OF TWO SUCH STRINGS**: 1 just where the chars are the same -/
theorem eqW {p : Program} {l : Launch} {e : Env} {R : Room} {s : State} {args : Array Value} {below : List Frame} {len W : Nat} {Z : State} {a0 : Array Value} {h : Heap} (hZ : Z.Warmed39 s.vm) (hw : ∀ d ∈ wordsEq, d.before a0 Z = true) {kI : Nat} (wi : (Jvm.Cond.instantiable ST kI).before a0 Z = true)
    {x t : Addr} {kb : ClassId} {cs : List Int32} {cd N2 : Int32} {vs : List Value} (E : RoadKit.Exa Z h x ST) (V : RoadKit.Fld Z h x ST "value" "[B" (.ref t)) (C : RoadKit.Fld Z h x ST "coder" "B" (.int cd)) (K : RoadKit.Arv Z h t kb .byte N2 vs (.int 0)) (hc : CodA cs cd N2 vs) (hb : ∀ c ∈ cs, ¬ c < 0 ∧ ¬ (65535 : Int32) < c) (l2 : cs.length ≤ 4000)
    {y t' : Addr} {kb' : ClassId} {ds : List Int32} {cd' N2' : Int32} {vs' : List Value} (E' : RoadKit.Exa Z h y ST) (V' : RoadKit.Fld Z h y ST "value" "[B" (.ref t')) (C' : RoadKit.Fld Z h y ST "coder" "B" (.int cd')) (K' : RoadKit.Arv Z h t' kb' .byte N2' vs' (.int 0)) (hc' : CodA ds cd' N2' vs') (hb' : ∀ c ∈ ds, ¬ c < 0 ∧ ¬ (65535 : Int32) < c) (l2' : ds.length ≤ 4000)
    {z : Int32} (S : RoadKit.Sta Z h ST "COMPACT_STRINGS" "Z" (.int z)) (hz : ¬ z = 0) (hfr : 2 ≤ R.frames) (hlo : W + 28 ≤ R.locals) :
    Back l R p e below s args (⟨"java/lang/String", "equals", "(Ljava/lang/Object;)Z"⟩ : MethodName) len W (fun P a => a = #[.ref x, .ref y] ∧ P.U.heap = h ∧ P.cells + 0 ≤ R.cells ∧ P.slots + 0 ≤ R.slots)
      (fun P _ v B => ∃ L, (((v = some (.int 1) ∧ cs = ds) ∨ (v = some (.int 0) ∧ ¬ cs = ds)) ∧ L = [] ∧ B.U.heap = h) ∧ B.locs = P.locs ++ L ∧ B.cells = P.cells + 0 ∧ B.slots = P.slots + 0) := by
  intro m meth c P g ig mk a X hg hsize hdg hW hn hp'
  obtain ⟨rfl, rfl, r1, r2⟩ := hp'
  have al : Z.vm.Alike P.U.vm := hZ.alike.trans X.warmed.alike
  obtain ⟨A, hx⟩ := txt_of wi al E V C K hc hb l2
  obtain ⟨A', hy⟩ := txt_of wi al E' V' C' K' hc' hb' l2'
  obtain ⟨v, B, X', ⟨⟨w, hv, hh, hq⟩, hl, hk, hs⟩, st⟩ := SEq.pays x t A cd cs.length (fun j => cs.getD j 0) y t' A' cd' ds.length (fun j => ds.getD j 0) z (tabEq_of (movedEq hZ hw)) hfr hlo m meth c P g ig mk _ X hg hsize hdg hW hn ⟨r1, r2, rfl, hx, hy, sta_is al S, hz⟩
  refine ⟨v, B, X', ⟨[], ⟨?_, rfl, hh⟩, hl, hk, hs⟩, st⟩
  rcases hq with ⟨rfl, q⟩ | ⟨rfl, q⟩
  · exact Or.inl ⟨hv, (same_list cs ds).mp q⟩
  · exact Or.inr ⟨hv, fun e => q ((same_list cs ds).mpr e)⟩
end StrChars.Road
namespace StrChars.Road
open Jvm Sem ClassFile Op Lib Jvm.Stand Jvm.Free Jvm.Free.XT
open Jvm.Lib.Cold (StaticIs)
/-- what backV says of its String, as the contracts of this text ask it: cs's low bytes, coder 0 -/
theorem codOf {cs : List Int32} {n : Nat} (hn : cs.length = n) (hb : ∀ c ∈ cs, ¬ 255 < c) : CodA cs 0 (Int32.ofNat n) ((cs.map lo8).map Value.int) := Or.inl ⟨rfl, by rw [hn], by simp [List.map_map, Function.comp_def], hb⟩
end StrChars.Road
end Jvm.Pilot.@@N@@

namespace Jvm.Pilot.@@N@@
open Jvm Jvm.ClassFile Sem Op Lib Jvm.Free Jvm.Stand Jvm.LawKit Jvm.RoadKit Bundle Jvm.Pilot.@@N@@.Jvm.D
theorem own_w {Z : State} {a0 : Array Value} (hw : ∀ d ∈ tables_1, d.before a0 Z = true) (i : Nat) {d : Jvm.Cond} (h : tables_1[i]? = some d) : d.before a0 Z = true := hw d (List.mem_of_getElem? h)
abbrev own_Go (p : Program) (e : Env) (below : List Frame) (Φ : State → Outcome → Prop) (T : State) (g : JFrame) : Prop := ∃ s₂ o, Steps p.tables e below (T.setTop g) s₂ ∧ Φ s₂ o
section OwnGo
variable {p : Program} {e : Env} {below : List Frame} {Φ : State → Outcome → Prop} {T T' : State} {g g' : JFrame}
theorem own_step (st : ∀ target, Steps p.tables e below (T'.setTop g') target → Steps p.tables e below (T.setTop g) target) (k : own_Go p e below Φ T' g') : own_Go p e below Φ T g := by
  obtain ⟨t, o, h, r⟩ := k
  exact ⟨t, o, st t h, r⟩
theorem own_jump (st : Steps p.tables e below (T.setTop g) (T'.setTop g')) (k : own_Go p e below Φ T' g') : own_Go p e below Φ T g := by
  obtain ⟨t, o, h, r⟩ := k
  exact ⟨t, o, st.trans h, r⟩
theorem own_cast (q : g = g') (k : own_Go p e below Φ T g') : own_Go p e below Φ T g := q ▸ k
theorem own_insKeep {Z : State} {h h' : Heap} {a : Addr} {C : String} {ws : List Addr} (F : Ins Z h a C true) (K : Keep h h' ws) : Ins Z h' a C true := by
  obtain ⟨cell, cT, h1, h2, h3⟩ := F
  obtain ⟨c', q1, q2, q3, -⟩ := K.2.2 _ _ h1
  exact ⟨c', cT, q1, h2, by rw [q2, q3]; exact h3⟩
end OwnGo
section OwnCall
variable {p : Program} {l : Launch} {e : Env} {R : Room} {s : State} {m : MethodId} {args : Array Value} {below : List Frame} {meth : Method} {c : Code} {T : State} {locs : List Loc} {cells slots : Nat} {Z : State} {a0 : Array Value} {h : Heap}
  {own : String} {index : Nat} {y z : MethodName} {bytes : ByteArray} {maxL W k n : Nat} {ret : Option FieldType} {as' : Array Value} {Q : Option Value → Heap → List Loc → Prop} {g : JFrame} {argsL rest : List Value} {a : Addr} {C : String} {J J' : Vm → Prop}
/-- who pays a call: what it asks, what it leaves -/
abbrev own_Pay (l : Launch) (R : Room) (p : Program) (e : Env) (below : List Frame) (s : State) (args : Array Value) (y : MethodName) (len W : Nat) (as' : Array Value) (h : Heap) (k n : Nat) (Q : Option Value → Heap → List Loc → Prop) : Prop :=
  Back l R p e below s args y len W (fun A a => a = as' ∧ A.U.heap = h ∧ A.cells + k ≤ R.cells ∧ A.slots + n ≤ R.slots) (fun A _ v B => ∃ L, Q v B.U.heap L ∧ B.locs = A.locs ++ L ∧ B.cells = A.cells + k ∧ B.slots = A.slots + n)
abbrev own_PayW (l : Launch) (R : Room) (p : Program) (e : Env) (below : List Frame) (s : State) (args : Array Value) (y : MethodName) (len W : Nat) (as' : Array Value) (h : Heap) (k n : Nat) (J J' : Vm → Prop) (Q : Option Value → Heap → List Loc → Prop) : Prop :=
  BackS l R p e below s args y len W (fun A a => a = as' ∧ A.U.heap = h ∧ A.cells + k ≤ R.cells ∧ A.slots + n ≤ R.slots ∧ J A.U.vm) (fun A _ v B => ∃ L, (Q v B.U.heap L ∧ J' B.U.vm) ∧ B.locs = A.locs ++ L ∧ B.cells = A.cells + k ∧ B.slots = A.slots + n)
theorem own_cS (X : Stand p l e R s m args below meth c T locs cells slots) (hx : p.tables.exec = Jvm.exec) (hZ : Z.Warmed39 s.vm) (hown : s.vm.findClass own = some m.cls) (w1 : (Jvm.Cond.methodLink own index y).before a0 Z = true) (w2 : (Jvm.Cond.static y).before a0 Z = true) (w3 : (Jvm.Cond.initialized y.cls).before a0 Z = true) (w4 : (Jvm.Cond.code y bytes maxL ret).before a0 Z = true)
    (hy : y.cls ≠ "java/lang/invoke/MethodHandle" ∧ y.cls ≠ "java/lang/invoke/VarHandle") (hK : own_Pay l R p e below s args y 3 W as' h k n Q) (hg : g.method = m) (hsize : g.locals.size = c.maxLocals) (hlen : ∀ sig, parseMethodDescriptor y.desc = some sig → argsL.length = sig.parameters.length) (hstack : g.stack = argsL.reverse ++ rest)
    (hW : 2 * g.monitorRoom + (rest.map fun v => v.category).sum ≤ W) (hdg : decode c.code g.pc = .ok (.invokestatic index, 3)) (ha : argsL.toArray = as') (eT : T.heap = h) (hc : cells + k ≤ R.cells) (hs : slots + n ≤ R.slots) :
    ∃ v T' L, Stand p l e R s m args below meth c T' (locs ++ L) (cells + k) (slots + n) ∧ Q v T'.heap L ∧ Steps p.tables e below (T.setTop g) (T'.setTop { g with pc := g.pc + 3, stack := v.toList ++ rest }) := by
  obtain ⟨v, vm₁, ⟨T', L', c', n'⟩, -, X', ⟨L, hQ, e1, e2, e3⟩, st⟩ := Jvm.LawKit.callS X hx hown (mvT hZ w1) (mvT hZ w2) (mvT hZ w3) (mvT hZ w4) hy hK hg hsize hlen hstack hW hdg (fun _ _ => ⟨ha, eT, hc, hs⟩)
  dsimp only [Pt.U, Pt.locs, Pt.cells, Pt.slots] at X' e1 e2 e3 st hQ
  subst e1 e2 e3
  exact ⟨v, T', L, X', hQ, st _ (Steps.refl _)⟩
theorem own_cI (X : Stand p l e R s m args below meth c T locs cells slots) (hx : p.tables.exec = Jvm.exec) (hZ : Z.Warmed39 s.vm) (hy1 : y.name = "<init>") (hown : s.vm.findClass own = some m.cls) (w1 : (Jvm.Cond.methodLink own index y).before a0 Z = true) (w2 : (Jvm.Cond.instanceMethod y).before a0 Z = true) (w4 : (Jvm.Cond.code y bytes maxL none).before a0 Z = true)
    (hy : y.cls ≠ "java/lang/invoke/MethodHandle" ∧ y.cls ≠ "java/lang/invoke/VarHandle") (hK : own_Pay l R p e below s args y 3 W as' h k n Q) (hg : g.method = m) (hsize : g.locals.size = c.maxLocals) (hlen : ∀ sig, parseMethodDescriptor y.desc = some sig → argsL.length = sig.parameters.length) (hstack : g.stack = argsL.reverse ++ .ref a :: rest)
    (hW : 2 * g.monitorRoom + (rest.map fun v => v.category).sum ≤ W) (hdg : decode c.code g.pc = .ok (.invokespecial index, 3)) (ha : (.ref a :: argsL).toArray = as') (eT : T.heap = h) (hc : cells + k ≤ R.cells) (hs : slots + n ≤ R.slots) :
    ∃ v T' L, Stand p l e R s m args below meth c T' (locs ++ L) (cells + k) (slots + n) ∧ Q v T'.heap L ∧ Steps p.tables e below (T.setTop g) (T'.setTop { g with pc := g.pc + 3, stack := v.toList ++ rest }) := by
  obtain ⟨v, vm₁, ⟨T', L', c', n'⟩, -, X', ⟨L, hQ, e1, e2, e3⟩, st⟩ := X.specialBack hx hy1 hown (mvT hZ w1) (mvT hZ w2) (mvT hZ w4) hy hK hg hsize (Steps.refl _) hlen hstack hW hdg (fun _ _ => ⟨ha, eT, hc, hs⟩)
  dsimp only [Pt.U, Pt.locs, Pt.cells, Pt.slots] at X' e1 e2 e3 st hQ
  subst e1 e2 e3
  exact ⟨v, T', L, X', hQ, st⟩
theorem own_cV (X : Stand p l e R s m args below meth c T locs cells slots) (hx : p.tables.exec = Jvm.exec) (hZ : Z.Warmed39 s.vm) (hown : s.vm.findClass own = some m.cls) (w1 : (Jvm.Cond.methodLink own index y).before a0 Z = true) (w2 : (Jvm.Cond.declares y).before a0 Z = true) (hnf : NotFace s y) (w3 : (Jvm.Cond.selects C y z).before a0 Z = true) (w4 : (Jvm.Cond.instanceMethod z).before a0 Z = true)
    (hy : y.cls ≠ "java/lang/invoke/MethodHandle" ∧ y.cls ≠ "java/lang/invoke/VarHandle") (hK : own_Pay l R p e below s args z 3 W as' h k n Q) (E : Exa Z h a C) (hg : g.method = m) (hsize : g.locals.size = c.maxLocals) (hlen : ∀ sig, parseMethodDescriptor y.desc = some sig → argsL.length = sig.parameters.length) (hstack : g.stack = argsL.reverse ++ .ref a :: rest)
    (hW : 2 * g.monitorRoom + (rest.map fun v => v.category).sum ≤ W) (hdg : decode c.code g.pc = .ok (.invokevirtual index, 3)) (ha : (.ref a :: argsL).toArray = as') (eT : T.heap = h) (hc : cells + k ≤ R.cells) (hs : slots + n ≤ R.slots) :
    ∃ v T' L, Stand p l e R s m args below meth c T' (locs ++ L) (cells + k) (slots + n) ∧ Q v T'.heap L ∧ Steps p.tables e below (T.setTop g) (T'.setTop { g with pc := g.pc + 3, stack := v.toList ++ rest }) := by
  obtain ⟨cq, kq, q1, q2, q3⟩ := isOf hZ eT E
  obtain ⟨v, vm₁, ⟨T', L', c', n'⟩, -, X', ⟨L, hQ, e1, e2, e3⟩, st⟩ := X.virtualBack hx hown (mvT hZ w1) (mvT hZ w2) hnf (mvT hZ w3) (mvT hZ w4) hy hK q1 q3 hg hsize (Steps.refl _) hlen hstack hW hdg (fun _ _ => ⟨ha, eT, hc, hs⟩)
  dsimp only [Pt.U, Pt.locs, Pt.cells, Pt.slots] at X' e1 e2 e3 st hQ
  subst e1 e2 e3
  exact ⟨v, T', L, X', hQ, st⟩
end OwnCall
/-- a String of Latin-1 signs: its object, its byte[], its signs -/
def own_Str (Z : State) (h : Heap) (a t : Addr) (cs : List Int32) : Prop :=
  Exa Z h a "java/lang/String" ∧ Fld Z h a "java/lang/String" "coder" "B" (.int (0 : Int32)) ∧ Fld Z h a "java/lang/String" "value" "[B" (.ref t) ∧ (∃ kb, Arv Z h t kb .byte (Int32.ofNat cs.length) ((cs.map fun c => c.toInt8.toInt32).map Value.int) (.int 0)) ∧ (∀ c ∈ cs, ¬ c < 0 ∧ ¬ (255 : Int32) < c) ∧ cs.length ≤ 4000
section OwnStr
variable {Z : State} {h h' : Heap} {a t : Addr} {cs ds : List Int32} {ws : List Addr}
theorem own_Str.lt (F : own_Str Z h a t cs) : a < h.size := F.1.lt
theorem own_Str.ltT (F : own_Str Z h a t cs) : t < h.size := by obtain ⟨-, -, -, ⟨kb, A⟩, -⟩ := F; exact A.lt
theorem own_Str.ext (F : own_Str Z h a t cs) (E : Ext h h') : own_Str Z h' a t cs := by
  obtain ⟨f1, f2, f3, ⟨kb, f4⟩, f5⟩ := F
  exact ⟨f1.ext E, f2.ext E, f3.ext E, ⟨kb, f4.ext E⟩, f5⟩
theorem own_Str.keep (F : own_Str Z h a t cs) (K : Keep h h' ws) (qa : a ∉ ws) (qt : t ∉ ws) : own_Str Z h' a t cs := by
  obtain ⟨f1, f2, f3, ⟨kb, f4⟩, f5⟩ := F
  exact ⟨f1.keep K, f2.keep K qa, f3.keep K qa, ⟨kb, f4.keep K qt⟩, f5⟩
theorem own_neT {x : Addr} {C : String} {a0 : Array Value} {n : Nat} (E : Exa Z h x C) (F : own_Str Z h a t cs) (w : (Jvm.Cond.instantiable C n).before a0 Z = true) : x ≠ t := by
  obtain ⟨-, -, -, ⟨kb, f4⟩, -⟩ := F
  exact Exa.neArv E f4 w
theorem own_narLit : ∀ x : Int32, ¬ x < 0 → ¬ (65535 : Int32) < x → nar .char x = x := fun x h0 h1 => by
  have q := c_i2c x
  have r := rng32 x
  rw [Int32.lt_iff_toInt_lt] at h0 h1
  have e0 : (0 : Int32).toInt = 0 := rfl
  have e1 : (65535 : Int32).toInt = 65535 := rfl
  exact Int32.toInt_inj.mp (by show (x.toUInt32.toUInt16.toUInt32.toInt32).toInt = _; omega)
theorem own_up (hp : ∀ c ∈ cs, ¬ c < 0 ∧ ¬ (255 : Int32) < c) : ∀ c ∈ cs, ¬ c < 0 ∧ ¬ (65535 : Int32) < c := fun c hc => ⟨(hp c hc).1, fun q => (hp c hc).2 (by rw [Int32.lt_iff_toInt_lt] at q ⊢; have e1 : (65535 : Int32).toInt = 65535 := rfl; have e2 : (255 : Int32).toInt = 255 := rfl; omega)⟩
theorem own_sgc {c : Int32} (h : ¬ c < (0 : Int32) ∧ ¬ (255 : Int32) < c) : ¬ c < 0 ∧ ¬ (65535 : Int32) < c := own_up (cs := [c]) (fun x hx => by cases List.mem_singleton.mp hx; exact h) c (List.mem_singleton.mpr rfl)
theorem own_Str.sgD {i : Nat} (F : own_Str Z h a t cs) (hi : i < cs.length) : ¬ cs.getD i 0 < (0 : Int32) ∧ ¬ (255 : Int32) < cs.getD i 0 := by
  have e : cs.getD i 0 = cs[i] := by simp [List.getD, List.getElem?_eq_getElem hi]
  rw [e]
  exact F.2.2.2.2.1 _ (List.getElem_mem hi)
theorem own_Str.cast (F : own_Str Z h a t cs) (e : cs = ds) : own_Str Z h a t ds := e ▸ F
theorem own_nar255 (x : Int32) : nar .char (x &&& (255 : Int32)) = x &&& (255 : Int32) := i2c_mask x
theorem own_narB (x : Int32) : x.toInt8.toInt32.toInt8.toInt32 = x.toInt8.toInt32 := by
  rw [Int8.toInt8_toInt32]
theorem own_and255 (x : Int32) : ¬ x &&& (255 : Int32) < 0 ∧ ¬ (255 : Int32) < x &&& (255 : Int32) := by
  have h := c_and x 255 (by decide)
  have e : (255 : Int32).toInt = 255 := rfl
  rw [e] at h
  exact ⟨fun q => by rw [Int32.lt_iff_toInt_lt] at q; have e0 : (0 : Int32).toInt = 0 := rfl; omega, fun q => by rw [Int32.lt_iff_toInt_lt, e] at q; omega⟩
end OwnStr
theorem own_newS {p : Program} {l : Launch} {e : Env} {R : Room} {s : State} {args : Array Value} {below : List Frame} {len W : Nat} {Z : State} {a0 : Array Value} {h : Heap} (hZ : Z.Warmed39 s.vm) (hw : ∀ d ∈ tables_1, d.before a0 Z = true)
    {x b : Addr} {kC : ClassId} {cs : List Int32} {vs : List Value} {d v0 c0 : Value} {z N : Int32} {n n0 : Nat} (hx0 : n0 ≤ x) (hh0 : n0 ≤ h.size) (E : Exa Z h x "java/lang/String") (V : Fld Z h x "java/lang/String" "value" "[B" v0) (C : Fld Z h x "java/lang/String" "coder" "B" c0) (K : Arv Z h b kC .char N vs d) (S : Sta Z h "java/lang/String" "COMPACT_STRINGS" "Z" (.int z)) (hz : ¬ z = 0)
    (hv : vs = cs.map Value.int) (hn : cs.length = n) (hN : N = Int32.ofNat n) (l0 : 0 < n) (l2 : n ≤ 4000) (hp : ∀ c ∈ cs, ¬ c < 0 ∧ ¬ (255 : Int32) < c) (hfr : 4 ≤ R.frames) (hlo : W + 65 ≤ R.locals) :
    own_Pay l R p e below s args (⟨"java/lang/String", "<init>", "([C)V"⟩ : MethodName) len W #[.ref x, .ref b] h 1 n (fun v h' L => ∃ t, v = none ∧ Fr n0 L ∧ Keep h h' [x] ∧ h.size ≤ t ∧ own_Str Z h' x t cs) := by
  have hws : ∀ d ∈ StrChars.Road.words, d.before a0 Z = true := fun d hd => hw d ((by decide +kernel : ∀ d ∈ StrChars.Road.words, d ∈ tables_1) d hd)
  subst hv
  refine Back.mono (StrChars.Road.backV hZ hws (kI := 4) (hw _ ((by decide +kernel : Jvm.Cond.instantiable "java/lang/String" 4 ∈ tables_1))) (bs := cs.map fun c => c.toInt8.toInt32) hx0 hh0 E V C K S hz hn hN l0 l2 hp rfl hfr hlo) (fun P a hp => hp) (fun P a v B _ hq => ?_)
  obtain ⟨L, ⟨q1, q2, q3, q4, q5, t, kb, -, q6, -, q7, q8⟩, hl, hc, hs⟩ := hq
  exact ⟨L, ⟨t, q1, q2, q3, q6, q4, q5, q7, ⟨kb, by rw [hn, ← hN]; exact q8⟩, hp, by omega⟩, hl, hc, hs⟩
theorem own_eqS {p : Program} {l : Launch} {e : Env} {R : Room} {s : State} {args : Array Value} {below : List Frame} {len W : Nat} {Z : State} {a0 : Array Value} {h : Heap} (hZ : Z.Warmed39 s.vm) (hw : ∀ d ∈ tables_1, d.before a0 Z = true)
    {x t y t' : Addr} {cs ds : List Int32} (F : own_Str Z h x t cs) (F' : own_Str Z h y t' ds) {z : Int32} (S : Sta Z h "java/lang/String" "COMPACT_STRINGS" "Z" (.int z)) (hz : ¬ z = 0) (hfr : 2 ≤ R.frames) (hlo : W + 28 ≤ R.locals) :
    own_Pay l R p e below s args (⟨"java/lang/String", "equals", "(Ljava/lang/Object;)Z"⟩ : MethodName) len W #[.ref x, .ref y] h 0 0 (fun v h' L => ((v = some (.int 1) ∧ cs = ds) ∨ (v = some (.int 0) ∧ ¬ cs = ds)) ∧ L = [] ∧ h' = h) := by
  have hws : ∀ d ∈ StrChars.Road.wordsEq, d.before a0 Z = true := fun d hd => hw d ((by decide +kernel : ∀ d ∈ StrChars.Road.wordsEq, d ∈ tables_1) d hd)
  obtain ⟨f1, f2, f3, ⟨kb, f4⟩, f5, f6⟩ := F
  obtain ⟨g1, g2, g3, ⟨kb', g4⟩, g5, g6⟩ := F'
  exact StrChars.Road.eqW hZ hws (kI := 4) (hw _ ((by decide +kernel : Jvm.Cond.instantiable "java/lang/String" 4 ∈ tables_1))) f1 f3 f2 f4 (StrChars.Road.codOf rfl fun c hc => (f5 c hc).2) (own_up f5) f6 g1 g3 g2 g4 (StrChars.Road.codOf rfl fun c hc => (g5 c hc).2) (own_up g5) g6 S hz hfr hlo
section OwnStart
variable {args : Array Value} {s : State} {t u : Term} {a : Addr} {cl : Cell} {ty : FieldType} {z k : Int32}
theorem own_eqInt (h : (Jvm.Cond.eq t (.int k)).value args s none s [] = some true) : t.eval args s none [] s = some (.int k) := by
  obtain ⟨x, y, h1, h2, h3, -⟩ := cmp_v (Or.inl h)
  cases h2
  cases x <;> simp [Kin, Value.isRef] at h3
  have := gotT (Cond.eq_ints h1 (Term.int_eval k)) h
  rw [h1, this]
theorem own_eqRef (h : (Jvm.Cond.eq t u).value args s none s [] = some true) (hu : u.eval args s none [] s = some (.ref a)) : t.eval args s none [] s = some (.ref a) := by
  obtain ⟨x, y, h1, h2, h3, h4⟩ := cmp_v (Or.inl h)
  cases hu.symm.trans h2
  have hx : x.isRef = true := by cases x <;> simp [Kin, Value.isRef] at h3 h4 ⊢
  have := gotT (eq_R h1 hu hx rfl) h
  rw [h1, this]
theorem own_len (h : (Term.length t).eval args s none [] s = some (.int z)) (ht : t.eval args s none [] s = some (.ref a)) (A : Arr s s.heap a cl ty) : cl.slots.size < 2 ^ 31 ∧ cl.slots.size.toInt32 = z := by
  have ha : s.arrayAt? a = some cl := Arr.fin (Vm.Alike.refl _) A
  simp only [Term.eval, ht, ha, Option.bind_eq_bind, Option.bind_some] at h
  split at h
  · rename_i q
    exact ⟨q, by simpa using h⟩
  · cases h
theorem own_elem {v : Value} {i : Nat} {j : Int32} (h : (Term.elem t (.int j)).eval args s none [] s = some v) (ht : t.eval args s none [] s = some (.ref a)) (A : Arr s s.heap a cl ty) (hi : j.toNatClampNeg = i) : cl.slots[i]? = some v := by
  have q := (elem_in h ht (Term.int_eval j) A.1).2
  rw [hi] at q
  exact q
theorem own_fld {C n d : String} {v : Value} (h : (Term.field t C n d).eval args s none [] s = some v) (ht : t.eval args s none [] s = some (.ref a)) : Fld s s.heap a C n d v := Fld.start (by rw [← fld_at ht]; exact h)
end OwnStart
def own_St (Z : State) (zc : Int32) (w_0 : Addr) (w_1 : Addr) (w_2 : Addr) (wV : Addr) (kV : ClassId) (s_0 : Addr) (t_0 : Addr) (s_1 : Addr) (t_1 : Addr) (s_2 : Addr) (t_2 : Addr) : Prop := (Sta Z Z.heap "java/lang/String" "COMPACT_STRINGS" "Z" (.int zc)) ∧ (¬ zc = (0 : Int32)) ∧ (Sta Z Z.heap "com/example/meter_to_invoice/metertoinvoice/billing/Metering" "NON_TELEMETERED" "Lcom/example/meter_to_invoice/metertoinvoice/billing/Metering;" (.ref w_0)) ∧ (Sta Z Z.heap "com/example/meter_to_invoice/metertoinvoice/billing/Metering" "TELEMETERED" "Lcom/example/meter_to_invoice/metertoinvoice/billing/Metering;" (.ref w_1)) ∧ (Sta Z Z.heap "com/example/meter_to_invoice/metertoinvoice/billing/Metering" "CNG_STATION" "Lcom/example/meter_to_invoice/metertoinvoice/billing/Metering;" (.ref w_2)) ∧ (Sta Z Z.heap "com/example/meter_to_invoice/metertoinvoice/billing/Metering" "$VALUES" "[Lcom/example/meter_to_invoice/metertoinvoice/billing/Metering;" (.ref wV)) ∧ (Exa Z Z.heap w_0 "com/example/meter_to_invoice/metertoinvoice/billing/Metering") ∧ (Exa Z Z.heap w_1 "com/example/meter_to_invoice/metertoinvoice/billing/Metering") ∧ (Exa Z Z.heap w_2 "com/example/meter_to_invoice/metertoinvoice/billing/Metering") ∧ (Exa Z Z.heap wV "[Lcom/example/meter_to_invoice/metertoinvoice/billing/Metering;") ∧ (Arv Z Z.heap wV kV (.object "com/example/meter_to_invoice/metertoinvoice/billing/Metering") (3 : Int32) [(.ref w_0), (.ref w_1), (.ref w_2)] .null) ∧ (Fld Z Z.heap w_0 "com/example/meter_to_invoice/metertoinvoice/billing/Metering" "word" "Ljava/lang/String;" (.ref s_0)) ∧ (own_Str Z Z.heap s_0 t_0 [(110 : Int32), (111 : Int32), (110 : Int32), (45 : Int32), (116 : Int32), (101 : Int32), (108 : Int32), (101 : Int32), (109 : Int32), (101 : Int32), (116 : Int32), (101 : Int32), (114 : Int32), (101 : Int32), (100 : Int32)]) ∧ (Fld Z Z.heap w_1 "com/example/meter_to_invoice/metertoinvoice/billing/Metering" "word" "Ljava/lang/String;" (.ref s_1)) ∧ (own_Str Z Z.heap s_1 t_1 [(116 : Int32), (101 : Int32), (108 : Int32), (101 : Int32), (109 : Int32), (101 : Int32), (116 : Int32), (101 : Int32), (114 : Int32), (101 : Int32), (100 : Int32)]) ∧ (Fld Z Z.heap w_2 "com/example/meter_to_invoice/metertoinvoice/billing/Metering" "word" "Ljava/lang/String;" (.ref s_2)) ∧ (own_Str Z Z.heap s_2 t_2 [(99 : Int32), (110 : Int32), (103 : Int32)])
theorem dc_p23_m1_0 : decode prog_23_method_1_code 0 = .ok (.getstatic 13, 3) := by decide +kernel
theorem dc_p23_m1_3 : decode prog_23_method_1_code 3 = .ok (.invokevirtual 17, 3) := by decide +kernel
theorem dc_p23_m1_6 : decode prog_23_method_1_code 6 = .ok (.checkcast 18, 3) := by decide +kernel
theorem dc_p23_m1_9 : decode prog_23_method_1_code 9 = .ok (.areturn, 1) := by decide +kernel
theorem pn_com_example_meter_to_invoice_metertoinvoice_billing_Metering : plainName "com/example/meter_to_invoice/metertoinvoice/billing/Metering" = true := by first | (simp [plainName, overriddenIn]; done) | decide +kernel
theorem ef_rmV (mm_ : MethodId)  : entryFrame mm_ #[] 0 = (mkF mm_ 0 #[] []) := by first | (simp [entryFrame, mkF, argsToLocals, Value.category]; done) | rfl
def QrmV (Z : State) (w_0 : Addr) (w_1 : Addr) (w_2 : Addr) (kV : ClassId) (h0 : Heap) (n0 : Nat) (vv_ : Option Value) (hh_ : Heap) (LL_ : List Loc) : Prop := ∃ (r : Addr), (vv_ = some (.ref r)) ∧ (Fr n0 LL_) ∧ (Keep h0 hh_ []) ∧ (h0.size ≤ r) ∧ (Arv Z hh_ r kV (.object "com/example/meter_to_invoice/metertoinvoice/billing/Metering") (3 : Int32) [(.ref w_0), (.ref w_1), (.ref w_2)] .null)
set_option maxRecDepth 65536 in
set_option maxHeartbeats 40000000 in
theorem rmV (l : Launch) (Z : State) (a0 : Array Value) (hw : ∀ d ∈ tables_1, d.before a0 Z = true) (ws : List Jvm.Cond) {zc : Int32} {w_0 : Addr} {w_1 : Addr} {w_2 : Addr} {wV : Addr} {kV : ClassId} {s_0 : Addr} {t_0 : Addr} {s_1 : Addr} {t_1 : Addr} {s_2 : Addr} {t_2 : Addr} (h0 : Heap) (n0 : Nat) (O0 : Old Z n0 h0) (G_ : own_St Z zc w_0 w_1 w_2 wV kV s_0 t_0 s_1 t_1 s_2 t_2) :
    MetFree l (⟨"com/example/meter_to_invoice/metertoinvoice/billing/Metering", "values", "()[Lcom/example/meter_to_invoice/metertoinvoice/billing/Metering;"⟩ : MethodName) (head1 (Jvm.Cond.code (⟨"com/example/meter_to_invoice/metertoinvoice/billing/Metering", "values", "()[Lcom/example/meter_to_invoice/metertoinvoice/billing/Metering;"⟩ : MethodName) prog_23_method_1_code 0 (some (.array (.object "com/example/meter_to_invoice/metertoinvoice/billing/Metering"))) :: ws) ({ frames := 1, cells := 1, slots := 3, locals := 14 } : Room)) (fun aa_ UU_ => aa_ = #[] ∧ Z.Warmed39 UU_.vm ∧ UU_.heap = h0) (fun _ _ _ _ _ => True) (fun _ UU_ oo_ UV_ => ∃ vv_ LL_, oo_ = .returned vv_ ∧ QrmV Z w_0 w_1 w_2 kV h0 n0 vv_ UV_.heap LL_ ∧ FrameEnd UU_ oo_ UV_ LL_ ({ frames := 1, cells := 1, slots := 3, locals := 14 } : Room).cells ({ frames := 1, cells := 1, slots := 3, locals := 14 } : Room).slots) := by
  refine MetFree.of_bodySF (plainFor_of_name pn_com_example_meter_to_invoice_metertoinvoice_billing_Metering) hisR ?_
  intro pp_ ee_ ss_ mm_ args_ bb_ me_ cc_ s₁ Bd hml0 hP hK
  obtain ⟨rfl, hZ, hh⟩ := hP
  have hx := Bd.exec
  have hby := Bd.bytes
  have hml : cc_.maxLocals = 0 := hml0
  have hown : ss_.vm.findClass "com/example/meter_to_invoice/metertoinvoice/billing/Metering" = some mm_.cls := findClass_of_methodNamed Bd.named
  have hnm := (name_of_methodNamed Bd.named Bd.method).1
  have X0 : Stand pp_ l ee_ ({ frames := 1, cells := 1, slots := 3, locals := 14 } : Room) ss_ mm_ #[] bb_ me_ cc_ s₁ [] 0 0 := Stand.of_body Bd
  have e0 : s₁.heap = h0 := by rw [← hh, Bd.state]; rfl
  have N0 := Fr.nil n0
  show own_Go pp_ ee_ bb_ (fun s₂ oo_ => s₂.status = .running ∧ Ended s₂ bb_ oo_ ∧ (∃ vv_ LL_, oo_ = .returned vv_ ∧ QrmV Z w_0 w_1 w_2 kV h0 n0 vv_ s₂.heap LL_ ∧ FrameEnd ss_ oo_ s₂ LL_ ({ frames := 1, cells := 1, slots := 3, locals := 14 } : Room).cells ({ frames := 1, cells := 1, slots := 3, locals := 14 } : Room).slots)) s₁ (entryFrame mm_ #[] 0)
  refine own_cast (ef_rmV mm_ ) ?_
  have Z0 : n0 ≤ h0.size := by have q := O0.2.1; rw [O0.1] at q; exact q
  have K0 : Keep h0 h0 [] := Keep.refl _ _
  obtain ⟨G_cs, G_cs0, G_S1, G_S2, G_S3, G_S4, G_E5, G_E6, G_E7, G_E8, G_V9, G_F10, G_T11, G_F15, G_T16, G_F20, G_T21⟩ := id G_
  show own_Go _ _ _ _ s₁ (mkF mm_ 0 #[] [])
  obtain ⟨T1, X1, e1, st1⟩ := getS2 X0 hx hZ hown (host := "") (Or.inl (own_w hw 40 rfl)) Via.refl e0 (G_S4.ext O0.2) (g := (mkF mm_ 0 #[] [])) rfl (hb hby dc_p23_m1_0)
  refine own_step st1 ?_
  show own_Go _ _ _ _ T1 (mkF mm_ 3 #[] [(.ref wV)])
  obtain ⟨T2, h2, X2, e2, E2, V2, A2, st2⟩ := cloneH X1 hx hZ hown (own_w hw 42 rfl) (own_w hw 43 rfl) (own_w hw 47 rfl) (own_w hw 45 rfl) (own_w hw 46 rfl) (own_w hw 48 rfl) e1 (Arv.arh (G_V9.ext O0.2)) (G_E8.ext O0.2) (g := (mkF mm_ 3 #[] [(.ref wV)])) rfl (by rw [hml]; rfl) rfl (hb hby dc_p23_m1_3) (by decide) (W := 0) (cap := 3) (by show 2 * 0 + _ ≤ _; exact Nat.le_of_eq rfl) (by decide) (by decide) (by decide) (by decide)
  obtain ⟨b2, q2⟩ : ∃ z, z = h0.size := ⟨_, rfl⟩
  rw [← q2] at A2 V2 st2
  have lo_b2 : h0.size ≤ b2 := Nat.le_trans K0.1 (Nat.le_of_eq q2.symm)
  have g_b2 : n0 ≤ b2 := Nat.le_trans Z0 lo_b2
  refine own_step st2 ?_
  have Vc2 : Arv Z h2 b2 kV (.object "com/example/meter_to_invoice/metertoinvoice/billing/Metering") (3 : Int32) [(.ref w_0), (.ref w_1), (.ref w_2)] .null := V2
  show own_Go _ _ _ _ T2 (mkF mm_ 6 #[] [(.ref b2)])
  obtain ⟨T3, X3, e3, st3⟩ := castY X2 hx hZ hown (own_w hw 52 rfl) e2 (Ins.self A2) (g := (mkF mm_ 6 #[] [(.ref b2)])) rfl rfl (hb hby dc_p23_m1_6)
  refine own_step st3 ?_
  show own_Go _ _ _ _ T3 (mkF mm_ 9 #[] [(.ref b2)])
  have K4 : Keep h0 h2 [] := (K0.ext E2)
  obtain ⟨fs, hr, hrun, hended, hW, hsame⟩ := X3.leave (v := some (.ref b2)) (fun h => by rw [Bd.returns] at h; cases h)
  refine ⟨_, _, ?_, hrun, hended, _, _, rfl, ?_, ⟨_, rfl⟩, hW, hsame.mono (by decide) (by decide)⟩
  · jvm_step X3.here [X3.here.top, hx, (hb hby dc_p23_m1_9), X3.method', Bd.returns, Value.isRef, FieldType.isReference]
    first | (intro acts; rw [hr _ acts rfl rfl rfl]) | rw [hr _ _ rfl rfl rfl]
    exact Steps.refl _
  · show QrmV Z w_0 w_1 w_2 kV h0 n0 (some (.ref b2)) T3.heap _
    rw [e3]
    exact ⟨b2, rfl, N0, K4, lo_b2, Vc2⟩
theorem dc_p23_m6_0 : decode prog_23_method_6_code 0 = .ok (.invokestatic 39, 3) := by decide +kernel
theorem pd_0 : parseMethodDescriptor "()[Lcom/example/meter_to_invoice/metertoinvoice/billing/Metering;" = some ⟨[], some (.array (.object "com/example/meter_to_invoice/metertoinvoice/billing/Metering"))⟩ := by decide +kernel
theorem dc_p23_m6_3 : decode prog_23_method_6_code 3 = .ok (.astore_n 1, 1) := by decide +kernel
theorem dc_p23_m6_4 : decode prog_23_method_6_code 4 = .ok (.aload_n 1, 1) := by decide +kernel
theorem dc_p23_m6_5 : decode prog_23_method_6_code 5 = .ok (.arraylength, 1) := by decide +kernel
theorem dc_p23_m6_6 : decode prog_23_method_6_code 6 = .ok (.istore_n 2, 1) := by decide +kernel
theorem dc_p23_m6_7 : decode prog_23_method_6_code 7 = .ok (.iconst 0, 1) := by decide +kernel
theorem dc_p23_m6_8 : decode prog_23_method_6_code 8 = .ok (.istore_n 3, 1) := by decide +kernel
theorem dc_p23_m6_9 : decode prog_23_method_6_code 9 = .ok (.iload_n 3, 1) := by decide +kernel
theorem dc_p23_m6_10 : decode prog_23_method_6_code 10 = .ok (.iload_n 2, 1) := by decide +kernel
theorem dc_p23_m6_11 : decode prog_23_method_6_code 11 = .ok (.if_icmp .ge 29, 3) := by decide +kernel
theorem dc_p23_m6_14 : decode prog_23_method_6_code 14 = .ok (.aload_n 1, 1) := by decide +kernel
theorem dc_p23_m6_15 : decode prog_23_method_6_code 15 = .ok (.iload_n 3, 1) := by decide +kernel
theorem dc_p23_m6_16 : decode prog_23_method_6_code 16 = .ok (.aaload, 1) := by decide +kernel
theorem dc_p23_m6_17 : decode prog_23_method_6_code 17 = .ok (.astore 4, 2) := by decide +kernel
theorem dc_p23_m6_19 : decode prog_23_method_6_code 19 = .ok (.aload 4, 2) := by decide +kernel
theorem dc_p23_m6_21 : decode prog_23_method_6_code 21 = .ok (.getfield 32, 3) := by decide +kernel
theorem dc_p23_m6_24 : decode prog_23_method_6_code 24 = .ok (.aload_n 0, 1) := by decide +kernel
theorem dc_p23_m6_25 : decode prog_23_method_6_code 25 = .ok (.invokevirtual 43, 3) := by decide +kernel
theorem pd_1 : parseMethodDescriptor "(Ljava/lang/Object;)Z" = some ⟨[(.object "java/lang/Object")], some .boolean⟩ := by decide +kernel
theorem dc_p23_m6_28 : decode prog_23_method_6_code 28 = .ok (.ifCond .eq 6, 3) := by decide +kernel
theorem dc_p23_m6_31 : decode prog_23_method_6_code 31 = .ok (.aload 4, 2) := by decide +kernel
theorem dc_p23_m6_33 : decode prog_23_method_6_code 33 = .ok (.areturn, 1) := by decide +kernel
theorem ef_rmO0 (mm_ : MethodId) (a : Addr) : entryFrame mm_ #[(.ref a)] 5 = (mkF mm_ 0 #[.val (.ref a), .unset, .unset, .unset, .unset] []) := by first | (simp [entryFrame, mkF, argsToLocals, Value.category]; done) | rfl
def QrmO0 (Z : State) (a : Addr) (t : Addr) (w_0 : Addr) (h0 : Heap) (n0 : Nat) (vv_ : Option Value) (hh_ : Heap) (LL_ : List Loc) : Prop := (vv_ = some (.ref w_0)) ∧ (Fr n0 LL_) ∧ (Keep h0 hh_ [])
set_option maxRecDepth 65536 in
set_option maxHeartbeats 40000000 in
theorem rmO0 (l : Launch) (Z : State) (a0 : Array Value) (hw : ∀ d ∈ tables_1, d.before a0 Z = true) (ws : List Jvm.Cond) (a : Addr) (t : Addr) {zc : Int32} {w_0 : Addr} {w_1 : Addr} {w_2 : Addr} {wV : Addr} {kV : ClassId} {s_0 : Addr} {t_0 : Addr} {s_1 : Addr} {t_1 : Addr} {s_2 : Addr} {t_2 : Addr} (h0 : Heap) (n0 : Nat) (O0 : Old Z n0 h0) (G_ : own_St Z zc w_0 w_1 w_2 wV kV s_0 t_0 s_1 t_1 s_2 t_2) (pr0 : own_Str Z h0 a t [(110 : Int32), (111 : Int32), (110 : Int32), (45 : Int32), (116 : Int32), (101 : Int32), (108 : Int32), (101 : Int32), (109 : Int32), (101 : Int32), (116 : Int32), (101 : Int32), (114 : Int32), (101 : Int32), (100 : Int32)]) :
    MetFree l (⟨"com/example/meter_to_invoice/metertoinvoice/billing/Metering", "named", "(Ljava/lang/String;)Lcom/example/meter_to_invoice/metertoinvoice/billing/Metering;"⟩ : MethodName) (head1 (Jvm.Cond.code (⟨"com/example/meter_to_invoice/metertoinvoice/billing/Metering", "named", "(Ljava/lang/String;)Lcom/example/meter_to_invoice/metertoinvoice/billing/Metering;"⟩ : MethodName) prog_23_method_6_code 5 (some (.object "com/example/meter_to_invoice/metertoinvoice/billing/Metering")) :: ws) ({ frames := 2, cells := 1, slots := 3, locals := 28 } : Room)) (fun aa_ UU_ => aa_ = #[(.ref a)] ∧ Z.Warmed39 UU_.vm ∧ UU_.heap = h0) (fun _ _ _ _ _ => True) (fun _ UU_ oo_ UV_ => ∃ vv_ LL_, oo_ = .returned vv_ ∧ QrmO0 Z a t w_0 h0 n0 vv_ UV_.heap LL_ ∧ FrameEnd UU_ oo_ UV_ LL_ ({ frames := 2, cells := 1, slots := 3, locals := 28 } : Room).cells ({ frames := 2, cells := 1, slots := 3, locals := 28 } : Room).slots) := by
  refine MetFree.of_bodySF (plainFor_of_name pn_com_example_meter_to_invoice_metertoinvoice_billing_Metering) hisR ?_
  intro pp_ ee_ ss_ mm_ args_ bb_ me_ cc_ s₁ Bd hml0 hP hK
  obtain ⟨rfl, hZ, hh⟩ := hP
  have hx := Bd.exec
  have hby := Bd.bytes
  have hml : cc_.maxLocals = 5 := hml0
  have hown : ss_.vm.findClass "com/example/meter_to_invoice/metertoinvoice/billing/Metering" = some mm_.cls := findClass_of_methodNamed Bd.named
  have hnm := (name_of_methodNamed Bd.named Bd.method).1
  have X0 : Stand pp_ l ee_ ({ frames := 2, cells := 1, slots := 3, locals := 28 } : Room) ss_ mm_ #[(.ref a)] bb_ me_ cc_ s₁ [] 0 0 := Stand.of_body Bd
  have e0 : s₁.heap = h0 := by rw [← hh, Bd.state]; rfl
  have N0 := Fr.nil n0
  show own_Go pp_ ee_ bb_ (fun s₂ oo_ => s₂.status = .running ∧ Ended s₂ bb_ oo_ ∧ (∃ vv_ LL_, oo_ = .returned vv_ ∧ QrmO0 Z a t w_0 h0 n0 vv_ s₂.heap LL_ ∧ FrameEnd ss_ oo_ s₂ LL_ ({ frames := 2, cells := 1, slots := 3, locals := 28 } : Room).cells ({ frames := 2, cells := 1, slots := 3, locals := 28 } : Room).slots)) s₁ (entryFrame mm_ #[(.ref a)] 5)
  refine own_cast (ef_rmO0 mm_ a) ?_
  have Z0 : n0 ≤ h0.size := by have q := O0.2.1; rw [O0.1] at q; exact q
  have K0 : Keep h0 h0 [] := Keep.refl _ _
  obtain ⟨G_cs, G_cs0, G_S1, G_S2, G_S3, G_S4, G_E5, G_E6, G_E7, G_E8, G_V9, G_F10, G_T11, G_F15, G_T16, G_F20, G_T21⟩ := id G_
  show own_Go _ _ _ _ s₁ (mkF mm_ 0 #[.val (.ref a), .unset, .unset, .unset, .unset] [])
  obtain ⟨_, T1, Lc1, X1, hQ1, st1⟩ := own_cS X0 hx hZ hown (own_w hw 37 rfl) (own_w hw 38 rfl) (own_w hw 3 rfl) (own_w hw 39 rfl) (by decide) (backOf (W := 0) (rmV l Z a0 hw []  h0 n0 O0 G_ ) hZ (own_w hw 39 rfl) (own_w hw 3 rfl) (by decide) (by decide)) (g := (mkF mm_ 0 #[.val (.ref a), .unset, .unset, .unset, .unset] [])) rfl (by rw [hml]; rfl) (argsL := []) (rest := []) (lenOf pd_0 rfl) rfl (by show 2 * 0 + _ ≤ _; exact Nat.le_of_eq rfl) (hb hby dc_p23_m6_0) rfl e0 (by decide) (by decide)
  obtain ⟨r_1, rfl, Nq1, Kc1, r1_0, r1_1⟩ := hQ1
  have N1 := Fr.app N0 Nq1
  have lo_r_1 : h0.size ≤ r_1 := Nat.le_trans K0.1 r1_0
  have g_r_1 : n0 ≤ r_1 := Nat.le_trans Z0 lo_r_1
  refine own_jump st1 ?_
  show own_Go _ _ _ _ T1 (mkF mm_ 3 #[.val (.ref a), .unset, .unset, .unset, .unset] [(.ref r_1)])
  refine own_step (fun t_ k_ => XS.astoreN X1.here hx rfl (hb hby dc_p23_m6_3) rfl rfl (l' := #[.val (.ref a), .val (.ref r_1), .unset, .unset, .unset]) rfl (XS.aloadN X1.here hx rfl (hb hby dc_p23_m6_4) rfl rfl k_)) ?_
  show own_Go _ _ _ _ T1 (mkF mm_ 5 #[.val (.ref a), .val (.ref r_1), .unset, .unset, .unset] [(.ref r_1)])
  obtain ⟨cl2, Ar2, -, S2, M2, -, -⟩ := id r1_1
  refine own_step (fun t_ k_ => X1.arraylength hx Ar2.1 (State.isArrayOf_alike hZ.alike Ar2.2.1) (g := (mkF mm_ 5 #[.val (.ref a), .val (.ref r_1), .unset, .unset, .unset] [(.ref r_1)])) rfl rfl (hb hby dc_p23_m6_5) t_ (by rw [len_of S2 M2]; exact k_)) ?_
  show own_Go _ _ _ _ T1 (mkF mm_ 6 #[.val (.ref a), .val (.ref r_1), .unset, .unset, .unset] [(.int (3 : Int32))])
  refine own_step (fun t_ k_ => XS.istoreN X1.here hx rfl (hb hby dc_p23_m6_6) rfl (l' := #[.val (.ref a), .val (.ref r_1), .val (.int (3 : Int32)), .unset, .unset]) rfl (XS.iconst X1.here hx rfl (hb hby dc_p23_m6_7) (XS.istoreN X1.here hx rfl (hb hby dc_p23_m6_8) rfl (l' := #[.val (.ref a), .val (.ref r_1), .val (.int (3 : Int32)), .val (.int (0 : Int32)), .unset]) rfl (XS.iloadN X1.here hx rfl (hb hby dc_p23_m6_9) rfl  (XS.iloadN X1.here hx rfl (hb hby dc_p23_m6_10) rfl  k_))))) ?_
  show own_Go _ _ _ _ T1 (mkF mm_ 11 #[.val (.ref a), .val (.ref r_1), .val (.int (3 : Int32)), .val (.int (0 : Int32)), .unset] [(.int (3 : Int32)), (.int (0 : Int32))])
  refine own_step (fun t_ k_ => XS.icmpNo X1.here hx rfl (hb hby dc_p23_m6_11) rfl (tlt (by decide : (0 : Int32) < (3 : Int32))).2.1 k_) ?_
  show own_Go _ _ _ _ T1 (mkF mm_ 14 #[.val (.ref a), .val (.ref r_1), .val (.int (3 : Int32)), .val (.int (0 : Int32)), .unset] [])
  refine own_step (fun t_ k_ => XS.aloadN X1.here hx rfl (hb hby dc_p23_m6_14) rfl rfl (XS.iloadN X1.here hx rfl (hb hby dc_p23_m6_15) rfl  k_)) ?_
  show own_Go _ _ _ _ T1 (mkF mm_ 16 #[.val (.ref a), .val (.ref r_1), .val (.int (3 : Int32)), .val (.int (0 : Int32)), .unset] [(.int (0 : Int32)), (.ref r_1)])
  obtain ⟨cl3, Ar3, q3, S3, M3, H3, G3⟩ := id r1_1
  have hin3 : ¬ ((0 : Int32) < 0 ∨ cl3.slots.size ≤ ((0 : Int32)).toNatClampNeg) := inb_of S3 ⟨by decide, by decide⟩
  have hat3 : cl3.slots[((0 : Int32)).toNatClampNeg]? = some (.ref w_0) := Has.at H3 hin3 rfl
  refine own_step (fun t_ k_ => X1.aaload hx (j := (0 : Int32)) (v := (.ref w_0)) Ar3.1 (State.isArrayOf_alike hZ.alike Ar3.2.1) rfl Ar3.2.2 hin3 hat3 (g := (mkF mm_ 16 #[.val (.ref a), .val (.ref r_1), .val (.int (3 : Int32)), .val (.int (0 : Int32)), .unset] [(.int (0 : Int32)), (.ref r_1)])) rfl rfl (hb hby dc_p23_m6_16) t_ k_) ?_
  show own_Go _ _ _ _ T1 (mkF mm_ 17 #[.val (.ref a), .val (.ref r_1), .val (.int (3 : Int32)), .val (.int (0 : Int32)), .unset] [(.ref w_0)])
  refine own_step (fun t_ k_ => XS.astore X1.here hx rfl (hb hby dc_p23_m6_17) rfl rfl (l' := #[.val (.ref a), .val (.ref r_1), .val (.int (3 : Int32)), .val (.int (0 : Int32)), .val (.ref w_0)]) rfl (XS.aload X1.here hx rfl (hb hby dc_p23_m6_19) rfl rfl k_)) ?_
  show own_Go _ _ _ _ T1 (mkF mm_ 21 #[.val (.ref a), .val (.ref r_1), .val (.int (3 : Int32)), .val (.int (0 : Int32)), .val (.ref w_0)] [(.ref w_0)])
  have O4 : Old Z n0 T1.heap := (O0.keep Kc1 all0)
  obtain ⟨T5, X5, e5, st5⟩ := getF X1 hx hZ hown (host := "") (Or.inl (own_w hw 54 rfl)) Via.refl rfl (G_F10.ext O4.2) (g := (mkF mm_ 21 #[.val (.ref a), .val (.ref r_1), .val (.int (3 : Int32)), .val (.int (0 : Int32)), .val (.ref w_0)] [(.ref w_0)])) rfl rfl (hb hby dc_p23_m6_21)
  refine own_step st5 ?_
  show own_Go _ _ _ _ T5 (mkF mm_ 24 #[.val (.ref a), .val (.ref r_1), .val (.int (3 : Int32)), .val (.int (0 : Int32)), .val (.ref w_0)] [(.ref s_0)])
  refine own_step (fun t_ k_ => XS.aloadN X5.here hx rfl (hb hby dc_p23_m6_24) rfl rfl k_) ?_
  show own_Go _ _ _ _ T5 (mkF mm_ 25 #[.val (.ref a), .val (.ref r_1), .val (.int (3 : Int32)), .val (.int (0 : Int32)), .val (.ref w_0)] [(.ref a), (.ref s_0)])
  have f7 : own_Str Z T1.heap a t [(110 : Int32), (111 : Int32), (110 : Int32), (45 : Int32), (116 : Int32), (101 : Int32), (108 : Int32), (101 : Int32), (109 : Int32), (101 : Int32), (116 : Int32), (101 : Int32), (114 : Int32), (101 : Int32), (100 : Int32)] := (pr0.keep Kc1 nin0 nin0)
  obtain ⟨_, T6, Lc6, X6, hQ6, st6⟩ := own_cV X5 hx hZ hown (own_w hw 56 rfl) (own_w hw 57 rfl) (notFace_of_selects (args := #[]) (mvT hZ (own_w hw 59 rfl))) (own_w hw 59 rfl) (own_w hw 58 rfl) (by decide) (own_eqS (W := 0) hZ hw (G_T11.ext O4.2) f7 (G_cs.ext O4.2) G_cs0 (by decide) (by decide)) (G_T11.ext O4.2).1 (g := (mkF mm_ 25 #[.val (.ref a), .val (.ref r_1), .val (.int (3 : Int32)), .val (.int (0 : Int32)), .val (.ref w_0)] [(.ref a), (.ref s_0)])) rfl (by rw [hml]; rfl) (argsL := [(.ref a)]) (rest := []) (lenOf pd_1 rfl) rfl (by show 2 * 0 + _ ≤ _; exact Nat.le_of_eq rfl) (hb hby dc_p23_m6_25) rfl e5 (by decide) (by decide)
  obtain ⟨⟨rfl, -⟩ | ⟨-, hq6⟩, rfl, Eh6⟩ := hQ6
  rotate_left
  · exact absurd rfl hq6
  have N6 := Fr.app N1 (Fr.nil n0)
  refine own_jump st6 ?_
  show own_Go _ _ _ _ T6 (mkF mm_ 28 #[.val (.ref a), .val (.ref r_1), .val (.int (3 : Int32)), .val (.int (0 : Int32)), .val (.ref w_0)] [(.int (1 : Int32))])
  refine own_step (fun t_ k_ => XS.ifNo X6.here hx rfl (hb hby dc_p23_m6_28) rfl ((if0 _ _).trans (feq (by decide : ¬ ((1 : Int32) = (0 : Int32)))).1) k_) ?_
  show own_Go _ _ _ _ T6 (mkF mm_ 31 #[.val (.ref a), .val (.ref r_1), .val (.int (3 : Int32)), .val (.int (0 : Int32)), .val (.ref w_0)] [])
  refine own_step (fun t_ k_ => XS.aload X6.here hx rfl (hb hby dc_p23_m6_31) rfl rfl k_) ?_
  show own_Go _ _ _ _ T6 (mkF mm_ 33 #[.val (.ref a), .val (.ref r_1), .val (.int (3 : Int32)), .val (.int (0 : Int32)), .val (.ref w_0)] [(.ref w_0)])
  have K8 : Keep h0 T1.heap [] := (K0.trans Kc1 all0)
  obtain ⟨fs, hr, hrun, hended, hW, hsame⟩ := X6.leave (v := some (.ref w_0)) (fun h => by rw [Bd.returns] at h; cases h)
  refine ⟨_, _, ?_, hrun, hended, _, _, rfl, ?_, ⟨_, rfl⟩, hW, hsame.mono (by decide) (by decide)⟩
  · jvm_step X6.here [X6.here.top, hx, (hb hby dc_p23_m6_33), X6.method', Bd.returns, Value.isRef, FieldType.isReference]
    first | (intro acts; rw [hr _ acts rfl rfl rfl]) | rw [hr _ _ rfl rfl rfl]
    exact Steps.refl _
  · show QrmO0 Z a t w_0 h0 n0 (some (.ref w_0)) T6.heap _
    rw [Eh6]
    exact ⟨rfl, N6, K8⟩
theorem dc_p23_m6_34 : decode prog_23_method_6_code 34 = .ok (.iinc 3 1, 3) := by decide +kernel
theorem dc_p23_m6_37 : decode prog_23_method_6_code 37 = .ok (.goto (-28), 3) := by decide +kernel
theorem ef_rmO1 (mm_ : MethodId) (a : Addr) : entryFrame mm_ #[(.ref a)] 5 = (mkF mm_ 0 #[.val (.ref a), .unset, .unset, .unset, .unset] []) := by first | (simp [entryFrame, mkF, argsToLocals, Value.category]; done) | rfl
def QrmO1 (Z : State) (a : Addr) (t : Addr) (w_1 : Addr) (h0 : Heap) (n0 : Nat) (vv_ : Option Value) (hh_ : Heap) (LL_ : List Loc) : Prop := (vv_ = some (.ref w_1)) ∧ (Fr n0 LL_) ∧ (Keep h0 hh_ [])
set_option maxRecDepth 65536 in
set_option maxHeartbeats 40000000 in
theorem rmO1 (l : Launch) (Z : State) (a0 : Array Value) (hw : ∀ d ∈ tables_1, d.before a0 Z = true) (ws : List Jvm.Cond) (a : Addr) (t : Addr) {zc : Int32} {w_0 : Addr} {w_1 : Addr} {w_2 : Addr} {wV : Addr} {kV : ClassId} {s_0 : Addr} {t_0 : Addr} {s_1 : Addr} {t_1 : Addr} {s_2 : Addr} {t_2 : Addr} (h0 : Heap) (n0 : Nat) (O0 : Old Z n0 h0) (G_ : own_St Z zc w_0 w_1 w_2 wV kV s_0 t_0 s_1 t_1 s_2 t_2) (pr0 : own_Str Z h0 a t [(116 : Int32), (101 : Int32), (108 : Int32), (101 : Int32), (109 : Int32), (101 : Int32), (116 : Int32), (101 : Int32), (114 : Int32), (101 : Int32), (100 : Int32)]) :
    MetFree l (⟨"com/example/meter_to_invoice/metertoinvoice/billing/Metering", "named", "(Ljava/lang/String;)Lcom/example/meter_to_invoice/metertoinvoice/billing/Metering;"⟩ : MethodName) (head1 (Jvm.Cond.code (⟨"com/example/meter_to_invoice/metertoinvoice/billing/Metering", "named", "(Ljava/lang/String;)Lcom/example/meter_to_invoice/metertoinvoice/billing/Metering;"⟩ : MethodName) prog_23_method_6_code 5 (some (.object "com/example/meter_to_invoice/metertoinvoice/billing/Metering")) :: ws) ({ frames := 2, cells := 1, slots := 3, locals := 28 } : Room)) (fun aa_ UU_ => aa_ = #[(.ref a)] ∧ Z.Warmed39 UU_.vm ∧ UU_.heap = h0) (fun _ _ _ _ _ => True) (fun _ UU_ oo_ UV_ => ∃ vv_ LL_, oo_ = .returned vv_ ∧ QrmO1 Z a t w_1 h0 n0 vv_ UV_.heap LL_ ∧ FrameEnd UU_ oo_ UV_ LL_ ({ frames := 2, cells := 1, slots := 3, locals := 28 } : Room).cells ({ frames := 2, cells := 1, slots := 3, locals := 28 } : Room).slots) := by
  refine MetFree.of_bodySF (plainFor_of_name pn_com_example_meter_to_invoice_metertoinvoice_billing_Metering) hisR ?_
  intro pp_ ee_ ss_ mm_ args_ bb_ me_ cc_ s₁ Bd hml0 hP hK
  obtain ⟨rfl, hZ, hh⟩ := hP
  have hx := Bd.exec
  have hby := Bd.bytes
  have hml : cc_.maxLocals = 5 := hml0
  have hown : ss_.vm.findClass "com/example/meter_to_invoice/metertoinvoice/billing/Metering" = some mm_.cls := findClass_of_methodNamed Bd.named
  have hnm := (name_of_methodNamed Bd.named Bd.method).1
  have X0 : Stand pp_ l ee_ ({ frames := 2, cells := 1, slots := 3, locals := 28 } : Room) ss_ mm_ #[(.ref a)] bb_ me_ cc_ s₁ [] 0 0 := Stand.of_body Bd
  have e0 : s₁.heap = h0 := by rw [← hh, Bd.state]; rfl
  have N0 := Fr.nil n0
  show own_Go pp_ ee_ bb_ (fun s₂ oo_ => s₂.status = .running ∧ Ended s₂ bb_ oo_ ∧ (∃ vv_ LL_, oo_ = .returned vv_ ∧ QrmO1 Z a t w_1 h0 n0 vv_ s₂.heap LL_ ∧ FrameEnd ss_ oo_ s₂ LL_ ({ frames := 2, cells := 1, slots := 3, locals := 28 } : Room).cells ({ frames := 2, cells := 1, slots := 3, locals := 28 } : Room).slots)) s₁ (entryFrame mm_ #[(.ref a)] 5)
  refine own_cast (ef_rmO1 mm_ a) ?_
  have Z0 : n0 ≤ h0.size := by have q := O0.2.1; rw [O0.1] at q; exact q
  have K0 : Keep h0 h0 [] := Keep.refl _ _
  obtain ⟨G_cs, G_cs0, G_S1, G_S2, G_S3, G_S4, G_E5, G_E6, G_E7, G_E8, G_V9, G_F10, G_T11, G_F15, G_T16, G_F20, G_T21⟩ := id G_
  show own_Go _ _ _ _ s₁ (mkF mm_ 0 #[.val (.ref a), .unset, .unset, .unset, .unset] [])
  obtain ⟨_, T1, Lc1, X1, hQ1, st1⟩ := own_cS X0 hx hZ hown (own_w hw 37 rfl) (own_w hw 38 rfl) (own_w hw 3 rfl) (own_w hw 39 rfl) (by decide) (backOf (W := 0) (rmV l Z a0 hw []  h0 n0 O0 G_ ) hZ (own_w hw 39 rfl) (own_w hw 3 rfl) (by decide) (by decide)) (g := (mkF mm_ 0 #[.val (.ref a), .unset, .unset, .unset, .unset] [])) rfl (by rw [hml]; rfl) (argsL := []) (rest := []) (lenOf pd_0 rfl) rfl (by show 2 * 0 + _ ≤ _; exact Nat.le_of_eq rfl) (hb hby dc_p23_m6_0) rfl e0 (by decide) (by decide)
  obtain ⟨r_1, rfl, Nq1, Kc1, r1_0, r1_1⟩ := hQ1
  have N1 := Fr.app N0 Nq1
  have lo_r_1 : h0.size ≤ r_1 := Nat.le_trans K0.1 r1_0
  have g_r_1 : n0 ≤ r_1 := Nat.le_trans Z0 lo_r_1
  refine own_jump st1 ?_
  show own_Go _ _ _ _ T1 (mkF mm_ 3 #[.val (.ref a), .unset, .unset, .unset, .unset] [(.ref r_1)])
  refine own_step (fun t_ k_ => XS.astoreN X1.here hx rfl (hb hby dc_p23_m6_3) rfl rfl (l' := #[.val (.ref a), .val (.ref r_1), .unset, .unset, .unset]) rfl (XS.aloadN X1.here hx rfl (hb hby dc_p23_m6_4) rfl rfl k_)) ?_
  show own_Go _ _ _ _ T1 (mkF mm_ 5 #[.val (.ref a), .val (.ref r_1), .unset, .unset, .unset] [(.ref r_1)])
  obtain ⟨cl2, Ar2, -, S2, M2, -, -⟩ := id r1_1
  refine own_step (fun t_ k_ => X1.arraylength hx Ar2.1 (State.isArrayOf_alike hZ.alike Ar2.2.1) (g := (mkF mm_ 5 #[.val (.ref a), .val (.ref r_1), .unset, .unset, .unset] [(.ref r_1)])) rfl rfl (hb hby dc_p23_m6_5) t_ (by rw [len_of S2 M2]; exact k_)) ?_
  show own_Go _ _ _ _ T1 (mkF mm_ 6 #[.val (.ref a), .val (.ref r_1), .unset, .unset, .unset] [(.int (3 : Int32))])
  refine own_step (fun t_ k_ => XS.istoreN X1.here hx rfl (hb hby dc_p23_m6_6) rfl (l' := #[.val (.ref a), .val (.ref r_1), .val (.int (3 : Int32)), .unset, .unset]) rfl (XS.iconst X1.here hx rfl (hb hby dc_p23_m6_7) (XS.istoreN X1.here hx rfl (hb hby dc_p23_m6_8) rfl (l' := #[.val (.ref a), .val (.ref r_1), .val (.int (3 : Int32)), .val (.int (0 : Int32)), .unset]) rfl (XS.iloadN X1.here hx rfl (hb hby dc_p23_m6_9) rfl  (XS.iloadN X1.here hx rfl (hb hby dc_p23_m6_10) rfl  k_))))) ?_
  show own_Go _ _ _ _ T1 (mkF mm_ 11 #[.val (.ref a), .val (.ref r_1), .val (.int (3 : Int32)), .val (.int (0 : Int32)), .unset] [(.int (3 : Int32)), (.int (0 : Int32))])
  refine own_step (fun t_ k_ => XS.icmpNo X1.here hx rfl (hb hby dc_p23_m6_11) rfl (tlt (by decide : (0 : Int32) < (3 : Int32))).2.1 k_) ?_
  show own_Go _ _ _ _ T1 (mkF mm_ 14 #[.val (.ref a), .val (.ref r_1), .val (.int (3 : Int32)), .val (.int (0 : Int32)), .unset] [])
  refine own_step (fun t_ k_ => XS.aloadN X1.here hx rfl (hb hby dc_p23_m6_14) rfl rfl (XS.iloadN X1.here hx rfl (hb hby dc_p23_m6_15) rfl  k_)) ?_
  show own_Go _ _ _ _ T1 (mkF mm_ 16 #[.val (.ref a), .val (.ref r_1), .val (.int (3 : Int32)), .val (.int (0 : Int32)), .unset] [(.int (0 : Int32)), (.ref r_1)])
  obtain ⟨cl3, Ar3, q3, S3, M3, H3, G3⟩ := id r1_1
  have hin3 : ¬ ((0 : Int32) < 0 ∨ cl3.slots.size ≤ ((0 : Int32)).toNatClampNeg) := inb_of S3 ⟨by decide, by decide⟩
  have hat3 : cl3.slots[((0 : Int32)).toNatClampNeg]? = some (.ref w_0) := Has.at H3 hin3 rfl
  refine own_step (fun t_ k_ => X1.aaload hx (j := (0 : Int32)) (v := (.ref w_0)) Ar3.1 (State.isArrayOf_alike hZ.alike Ar3.2.1) rfl Ar3.2.2 hin3 hat3 (g := (mkF mm_ 16 #[.val (.ref a), .val (.ref r_1), .val (.int (3 : Int32)), .val (.int (0 : Int32)), .unset] [(.int (0 : Int32)), (.ref r_1)])) rfl rfl (hb hby dc_p23_m6_16) t_ k_) ?_
  show own_Go _ _ _ _ T1 (mkF mm_ 17 #[.val (.ref a), .val (.ref r_1), .val (.int (3 : Int32)), .val (.int (0 : Int32)), .unset] [(.ref w_0)])
  refine own_step (fun t_ k_ => XS.astore X1.here hx rfl (hb hby dc_p23_m6_17) rfl rfl (l' := #[.val (.ref a), .val (.ref r_1), .val (.int (3 : Int32)), .val (.int (0 : Int32)), .val (.ref w_0)]) rfl (XS.aload X1.here hx rfl (hb hby dc_p23_m6_19) rfl rfl k_)) ?_
  show own_Go _ _ _ _ T1 (mkF mm_ 21 #[.val (.ref a), .val (.ref r_1), .val (.int (3 : Int32)), .val (.int (0 : Int32)), .val (.ref w_0)] [(.ref w_0)])
  have O4 : Old Z n0 T1.heap := (O0.keep Kc1 all0)
  obtain ⟨T5, X5, e5, st5⟩ := getF X1 hx hZ hown (host := "") (Or.inl (own_w hw 54 rfl)) Via.refl rfl (G_F10.ext O4.2) (g := (mkF mm_ 21 #[.val (.ref a), .val (.ref r_1), .val (.int (3 : Int32)), .val (.int (0 : Int32)), .val (.ref w_0)] [(.ref w_0)])) rfl rfl (hb hby dc_p23_m6_21)
  refine own_step st5 ?_
  show own_Go _ _ _ _ T5 (mkF mm_ 24 #[.val (.ref a), .val (.ref r_1), .val (.int (3 : Int32)), .val (.int (0 : Int32)), .val (.ref w_0)] [(.ref s_0)])
  refine own_step (fun t_ k_ => XS.aloadN X5.here hx rfl (hb hby dc_p23_m6_24) rfl rfl k_) ?_
  show own_Go _ _ _ _ T5 (mkF mm_ 25 #[.val (.ref a), .val (.ref r_1), .val (.int (3 : Int32)), .val (.int (0 : Int32)), .val (.ref w_0)] [(.ref a), (.ref s_0)])
  have f7 : own_Str Z T1.heap a t [(116 : Int32), (101 : Int32), (108 : Int32), (101 : Int32), (109 : Int32), (101 : Int32), (116 : Int32), (101 : Int32), (114 : Int32), (101 : Int32), (100 : Int32)] := (pr0.keep Kc1 nin0 nin0)
  obtain ⟨_, T6, Lc6, X6, hQ6, st6⟩ := own_cV X5 hx hZ hown (own_w hw 56 rfl) (own_w hw 57 rfl) (notFace_of_selects (args := #[]) (mvT hZ (own_w hw 59 rfl))) (own_w hw 59 rfl) (own_w hw 58 rfl) (by decide) (own_eqS (W := 0) hZ hw (G_T11.ext O4.2) f7 (G_cs.ext O4.2) G_cs0 (by decide) (by decide)) (G_T11.ext O4.2).1 (g := (mkF mm_ 25 #[.val (.ref a), .val (.ref r_1), .val (.int (3 : Int32)), .val (.int (0 : Int32)), .val (.ref w_0)] [(.ref a), (.ref s_0)])) rfl (by rw [hml]; rfl) (argsL := [(.ref a)]) (rest := []) (lenOf pd_1 rfl) rfl (by show 2 * 0 + _ ≤ _; exact Nat.le_of_eq rfl) (hb hby dc_p23_m6_25) rfl e5 (by decide) (by decide)
  obtain ⟨⟨-, hq6⟩ | ⟨rfl, -⟩, rfl, Eh6⟩ := hQ6
  · exact absurd hq6 (by decide)
  have N6 := Fr.app N1 (Fr.nil n0)
  refine own_jump st6 ?_
  show own_Go _ _ _ _ T6 (mkF mm_ 28 #[.val (.ref a), .val (.ref r_1), .val (.int (3 : Int32)), .val (.int (0 : Int32)), .val (.ref w_0)] [(.int (0 : Int32))])
  refine own_step (fun t_ k_ => XS.ifYes X6.here hx rfl (pc0 := 28) (pc' := 34) rfl (hb hby dc_p23_m6_28) rfl ((if0 _ _).trans (teq (by decide : (0 : Int32) = (0 : Int32))).1) (by decide) (by decide) k_) ?_
  show own_Go _ _ _ _ T6 (mkF mm_ 34 #[.val (.ref a), .val (.ref r_1), .val (.int (3 : Int32)), .val (.int (0 : Int32)), .val (.ref w_0)] [])
  refine own_step (fun t_ k_ => XS.iinc X6.here hx rfl (hb hby dc_p23_m6_34) rfl (l' := #[.val (.ref a), .val (.ref r_1), .val (.int (3 : Int32)), .val (.int (1 : Int32)), .val (.ref w_0)]) rfl (XS.goto X6.here hx rfl (pc0 := 37) (pc' := 9) rfl (hb hby dc_p23_m6_37) (by decide) (by decide) (XS.iloadN X6.here hx rfl (hb hby dc_p23_m6_9) rfl  (XS.iloadN X6.here hx rfl (hb hby dc_p23_m6_10) rfl  k_)))) ?_
  show own_Go _ _ _ _ T6 (mkF mm_ 11 #[.val (.ref a), .val (.ref r_1), .val (.int (3 : Int32)), .val (.int (1 : Int32)), .val (.ref w_0)] [(.int (3 : Int32)), (.int (1 : Int32))])
  refine own_step (fun t_ k_ => XS.icmpNo X6.here hx rfl (hb hby dc_p23_m6_11) rfl (tlt (by decide : (1 : Int32) < (3 : Int32))).2.1 k_) ?_
  show own_Go _ _ _ _ T6 (mkF mm_ 14 #[.val (.ref a), .val (.ref r_1), .val (.int (3 : Int32)), .val (.int (1 : Int32)), .val (.ref w_0)] [])
  refine own_step (fun t_ k_ => XS.aloadN X6.here hx rfl (hb hby dc_p23_m6_14) rfl rfl (XS.iloadN X6.here hx rfl (hb hby dc_p23_m6_15) rfl  k_)) ?_
  show own_Go _ _ _ _ T6 (mkF mm_ 16 #[.val (.ref a), .val (.ref r_1), .val (.int (3 : Int32)), .val (.int (1 : Int32)), .val (.ref w_0)] [(.int (1 : Int32)), (.ref r_1)])
  obtain ⟨cl8, Ar8, q8, S8, M8, H8, G8⟩ := id r1_1
  have hin8 : ¬ ((1 : Int32) < 0 ∨ cl8.slots.size ≤ ((1 : Int32)).toNatClampNeg) := inb_of S8 ⟨by decide, by decide⟩
  have hat8 : cl8.slots[((1 : Int32)).toNatClampNeg]? = some (.ref w_1) := Has.at H8 hin8 rfl
  refine own_step (fun t_ k_ => X6.aaload hx (j := (1 : Int32)) (v := (.ref w_1)) (by rw [Eh6]; exact Ar8.1) (State.isArrayOf_alike hZ.alike Ar8.2.1) rfl Ar8.2.2 hin8 hat8 (g := (mkF mm_ 16 #[.val (.ref a), .val (.ref r_1), .val (.int (3 : Int32)), .val (.int (1 : Int32)), .val (.ref w_0)] [(.int (1 : Int32)), (.ref r_1)])) rfl rfl (hb hby dc_p23_m6_16) t_ k_) ?_
  show own_Go _ _ _ _ T6 (mkF mm_ 17 #[.val (.ref a), .val (.ref r_1), .val (.int (3 : Int32)), .val (.int (1 : Int32)), .val (.ref w_0)] [(.ref w_1)])
  refine own_step (fun t_ k_ => XS.astore X6.here hx rfl (hb hby dc_p23_m6_17) rfl rfl (l' := #[.val (.ref a), .val (.ref r_1), .val (.int (3 : Int32)), .val (.int (1 : Int32)), .val (.ref w_1)]) rfl (XS.aload X6.here hx rfl (hb hby dc_p23_m6_19) rfl rfl k_)) ?_
  show own_Go _ _ _ _ T6 (mkF mm_ 21 #[.val (.ref a), .val (.ref r_1), .val (.int (3 : Int32)), .val (.int (1 : Int32)), .val (.ref w_1)] [(.ref w_1)])
  obtain ⟨T9, X9, e9, st9⟩ := getF X6 hx hZ hown (host := "") (Or.inl (own_w hw 54 rfl)) Via.refl Eh6 (G_F15.ext O4.2) (g := (mkF mm_ 21 #[.val (.ref a), .val (.ref r_1), .val (.int (3 : Int32)), .val (.int (1 : Int32)), .val (.ref w_1)] [(.ref w_1)])) rfl rfl (hb hby dc_p23_m6_21)
  refine own_step st9 ?_
  show own_Go _ _ _ _ T9 (mkF mm_ 24 #[.val (.ref a), .val (.ref r_1), .val (.int (3 : Int32)), .val (.int (1 : Int32)), .val (.ref w_1)] [(.ref s_1)])
  refine own_step (fun t_ k_ => XS.aloadN X9.here hx rfl (hb hby dc_p23_m6_24) rfl rfl k_) ?_
  show own_Go _ _ _ _ T9 (mkF mm_ 25 #[.val (.ref a), .val (.ref r_1), .val (.int (3 : Int32)), .val (.int (1 : Int32)), .val (.ref w_1)] [(.ref a), (.ref s_1)])
  obtain ⟨_, T10, Lc10, X10, hQ10, st10⟩ := own_cV X9 hx hZ hown (own_w hw 56 rfl) (own_w hw 57 rfl) (notFace_of_selects (args := #[]) (mvT hZ (own_w hw 59 rfl))) (own_w hw 59 rfl) (own_w hw 58 rfl) (by decide) (own_eqS (W := 0) hZ hw (G_T16.ext O4.2) f7 (G_cs.ext O4.2) G_cs0 (by decide) (by decide)) (G_T16.ext O4.2).1 (g := (mkF mm_ 25 #[.val (.ref a), .val (.ref r_1), .val (.int (3 : Int32)), .val (.int (1 : Int32)), .val (.ref w_1)] [(.ref a), (.ref s_1)])) rfl (by rw [hml]; rfl) (argsL := [(.ref a)]) (rest := []) (lenOf pd_1 rfl) rfl (by show 2 * 0 + _ ≤ _; exact Nat.le_of_eq rfl) (hb hby dc_p23_m6_25) rfl e9 (by decide) (by decide)
  obtain ⟨⟨rfl, -⟩ | ⟨-, hq10⟩, rfl, Eh10⟩ := hQ10
  rotate_left
  · exact absurd rfl hq10
  have N10 := Fr.app N6 (Fr.nil n0)
  refine own_jump st10 ?_
  show own_Go _ _ _ _ T10 (mkF mm_ 28 #[.val (.ref a), .val (.ref r_1), .val (.int (3 : Int32)), .val (.int (1 : Int32)), .val (.ref w_1)] [(.int (1 : Int32))])
  refine own_step (fun t_ k_ => XS.ifNo X10.here hx rfl (hb hby dc_p23_m6_28) rfl ((if0 _ _).trans (feq (by decide : ¬ ((1 : Int32) = (0 : Int32)))).1) k_) ?_
  show own_Go _ _ _ _ T10 (mkF mm_ 31 #[.val (.ref a), .val (.ref r_1), .val (.int (3 : Int32)), .val (.int (1 : Int32)), .val (.ref w_1)] [])
  refine own_step (fun t_ k_ => XS.aload X10.here hx rfl (hb hby dc_p23_m6_31) rfl rfl k_) ?_
  show own_Go _ _ _ _ T10 (mkF mm_ 33 #[.val (.ref a), .val (.ref r_1), .val (.int (3 : Int32)), .val (.int (1 : Int32)), .val (.ref w_1)] [(.ref w_1)])
  have K11 : Keep h0 T1.heap [] := (K0.trans Kc1 all0)
  obtain ⟨fs, hr, hrun, hended, hW, hsame⟩ := X10.leave (v := some (.ref w_1)) (fun h => by rw [Bd.returns] at h; cases h)
  refine ⟨_, _, ?_, hrun, hended, _, _, rfl, ?_, ⟨_, rfl⟩, hW, hsame.mono (by decide) (by decide)⟩
  · jvm_step X10.here [X10.here.top, hx, (hb hby dc_p23_m6_33), X10.method', Bd.returns, Value.isRef, FieldType.isReference]
    first | (intro acts; rw [hr _ acts rfl rfl rfl]) | rw [hr _ _ rfl rfl rfl]
    exact Steps.refl _
  · show QrmO1 Z a t w_1 h0 n0 (some (.ref w_1)) T10.heap _
    rw [Eh10]
    exact ⟨rfl, N10, K11⟩
theorem ef_rmO2 (mm_ : MethodId) (a : Addr) : entryFrame mm_ #[(.ref a)] 5 = (mkF mm_ 0 #[.val (.ref a), .unset, .unset, .unset, .unset] []) := by first | (simp [entryFrame, mkF, argsToLocals, Value.category]; done) | rfl
def QrmO2 (Z : State) (a : Addr) (t : Addr) (w_2 : Addr) (h0 : Heap) (n0 : Nat) (vv_ : Option Value) (hh_ : Heap) (LL_ : List Loc) : Prop := (vv_ = some (.ref w_2)) ∧ (Fr n0 LL_) ∧ (Keep h0 hh_ [])
set_option maxRecDepth 65536 in
set_option maxHeartbeats 40000000 in
theorem rmO2 (l : Launch) (Z : State) (a0 : Array Value) (hw : ∀ d ∈ tables_1, d.before a0 Z = true) (ws : List Jvm.Cond) (a : Addr) (t : Addr) {zc : Int32} {w_0 : Addr} {w_1 : Addr} {w_2 : Addr} {wV : Addr} {kV : ClassId} {s_0 : Addr} {t_0 : Addr} {s_1 : Addr} {t_1 : Addr} {s_2 : Addr} {t_2 : Addr} (h0 : Heap) (n0 : Nat) (O0 : Old Z n0 h0) (G_ : own_St Z zc w_0 w_1 w_2 wV kV s_0 t_0 s_1 t_1 s_2 t_2) (pr0 : own_Str Z h0 a t [(99 : Int32), (110 : Int32), (103 : Int32)]) :
    MetFree l (⟨"com/example/meter_to_invoice/metertoinvoice/billing/Metering", "named", "(Ljava/lang/String;)Lcom/example/meter_to_invoice/metertoinvoice/billing/Metering;"⟩ : MethodName) (head1 (Jvm.Cond.code (⟨"com/example/meter_to_invoice/metertoinvoice/billing/Metering", "named", "(Ljava/lang/String;)Lcom/example/meter_to_invoice/metertoinvoice/billing/Metering;"⟩ : MethodName) prog_23_method_6_code 5 (some (.object "com/example/meter_to_invoice/metertoinvoice/billing/Metering")) :: ws) ({ frames := 2, cells := 1, slots := 3, locals := 28 } : Room)) (fun aa_ UU_ => aa_ = #[(.ref a)] ∧ Z.Warmed39 UU_.vm ∧ UU_.heap = h0) (fun _ _ _ _ _ => True) (fun _ UU_ oo_ UV_ => ∃ vv_ LL_, oo_ = .returned vv_ ∧ QrmO2 Z a t w_2 h0 n0 vv_ UV_.heap LL_ ∧ FrameEnd UU_ oo_ UV_ LL_ ({ frames := 2, cells := 1, slots := 3, locals := 28 } : Room).cells ({ frames := 2, cells := 1, slots := 3, locals := 28 } : Room).slots) := by
  refine MetFree.of_bodySF (plainFor_of_name pn_com_example_meter_to_invoice_metertoinvoice_billing_Metering) hisR ?_
  intro pp_ ee_ ss_ mm_ args_ bb_ me_ cc_ s₁ Bd hml0 hP hK
  obtain ⟨rfl, hZ, hh⟩ := hP
  have hx := Bd.exec
  have hby := Bd.bytes
  have hml : cc_.maxLocals = 5 := hml0
  have hown : ss_.vm.findClass "com/example/meter_to_invoice/metertoinvoice/billing/Metering" = some mm_.cls := findClass_of_methodNamed Bd.named
  have hnm := (name_of_methodNamed Bd.named Bd.method).1
  have X0 : Stand pp_ l ee_ ({ frames := 2, cells := 1, slots := 3, locals := 28 } : Room) ss_ mm_ #[(.ref a)] bb_ me_ cc_ s₁ [] 0 0 := Stand.of_body Bd
  have e0 : s₁.heap = h0 := by rw [← hh, Bd.state]; rfl
  have N0 := Fr.nil n0
  show own_Go pp_ ee_ bb_ (fun s₂ oo_ => s₂.status = .running ∧ Ended s₂ bb_ oo_ ∧ (∃ vv_ LL_, oo_ = .returned vv_ ∧ QrmO2 Z a t w_2 h0 n0 vv_ s₂.heap LL_ ∧ FrameEnd ss_ oo_ s₂ LL_ ({ frames := 2, cells := 1, slots := 3, locals := 28 } : Room).cells ({ frames := 2, cells := 1, slots := 3, locals := 28 } : Room).slots)) s₁ (entryFrame mm_ #[(.ref a)] 5)
  refine own_cast (ef_rmO2 mm_ a) ?_
  have Z0 : n0 ≤ h0.size := by have q := O0.2.1; rw [O0.1] at q; exact q
  have K0 : Keep h0 h0 [] := Keep.refl _ _
  obtain ⟨G_cs, G_cs0, G_S1, G_S2, G_S3, G_S4, G_E5, G_E6, G_E7, G_E8, G_V9, G_F10, G_T11, G_F15, G_T16, G_F20, G_T21⟩ := id G_
  show own_Go _ _ _ _ s₁ (mkF mm_ 0 #[.val (.ref a), .unset, .unset, .unset, .unset] [])
  obtain ⟨_, T1, Lc1, X1, hQ1, st1⟩ := own_cS X0 hx hZ hown (own_w hw 37 rfl) (own_w hw 38 rfl) (own_w hw 3 rfl) (own_w hw 39 rfl) (by decide) (backOf (W := 0) (rmV l Z a0 hw []  h0 n0 O0 G_ ) hZ (own_w hw 39 rfl) (own_w hw 3 rfl) (by decide) (by decide)) (g := (mkF mm_ 0 #[.val (.ref a), .unset, .unset, .unset, .unset] [])) rfl (by rw [hml]; rfl) (argsL := []) (rest := []) (lenOf pd_0 rfl) rfl (by show 2 * 0 + _ ≤ _; exact Nat.le_of_eq rfl) (hb hby dc_p23_m6_0) rfl e0 (by decide) (by decide)
  obtain ⟨r_1, rfl, Nq1, Kc1, r1_0, r1_1⟩ := hQ1
  have N1 := Fr.app N0 Nq1
  have lo_r_1 : h0.size ≤ r_1 := Nat.le_trans K0.1 r1_0
  have g_r_1 : n0 ≤ r_1 := Nat.le_trans Z0 lo_r_1
  refine own_jump st1 ?_
  show own_Go _ _ _ _ T1 (mkF mm_ 3 #[.val (.ref a), .unset, .unset, .unset, .unset] [(.ref r_1)])
  refine own_step (fun t_ k_ => XS.astoreN X1.here hx rfl (hb hby dc_p23_m6_3) rfl rfl (l' := #[.val (.ref a), .val (.ref r_1), .unset, .unset, .unset]) rfl (XS.aloadN X1.here hx rfl (hb hby dc_p23_m6_4) rfl rfl k_)) ?_
  show own_Go _ _ _ _ T1 (mkF mm_ 5 #[.val (.ref a), .val (.ref r_1), .unset, .unset, .unset] [(.ref r_1)])
  obtain ⟨cl2, Ar2, -, S2, M2, -, -⟩ := id r1_1
  refine own_step (fun t_ k_ => X1.arraylength hx Ar2.1 (State.isArrayOf_alike hZ.alike Ar2.2.1) (g := (mkF mm_ 5 #[.val (.ref a), .val (.ref r_1), .unset, .unset, .unset] [(.ref r_1)])) rfl rfl (hb hby dc_p23_m6_5) t_ (by rw [len_of S2 M2]; exact k_)) ?_
  show own_Go _ _ _ _ T1 (mkF mm_ 6 #[.val (.ref a), .val (.ref r_1), .unset, .unset, .unset] [(.int (3 : Int32))])
  refine own_step (fun t_ k_ => XS.istoreN X1.here hx rfl (hb hby dc_p23_m6_6) rfl (l' := #[.val (.ref a), .val (.ref r_1), .val (.int (3 : Int32)), .unset, .unset]) rfl (XS.iconst X1.here hx rfl (hb hby dc_p23_m6_7) (XS.istoreN X1.here hx rfl (hb hby dc_p23_m6_8) rfl (l' := #[.val (.ref a), .val (.ref r_1), .val (.int (3 : Int32)), .val (.int (0 : Int32)), .unset]) rfl (XS.iloadN X1.here hx rfl (hb hby dc_p23_m6_9) rfl  (XS.iloadN X1.here hx rfl (hb hby dc_p23_m6_10) rfl  k_))))) ?_
  show own_Go _ _ _ _ T1 (mkF mm_ 11 #[.val (.ref a), .val (.ref r_1), .val (.int (3 : Int32)), .val (.int (0 : Int32)), .unset] [(.int (3 : Int32)), (.int (0 : Int32))])
  refine own_step (fun t_ k_ => XS.icmpNo X1.here hx rfl (hb hby dc_p23_m6_11) rfl (tlt (by decide : (0 : Int32) < (3 : Int32))).2.1 k_) ?_
  show own_Go _ _ _ _ T1 (mkF mm_ 14 #[.val (.ref a), .val (.ref r_1), .val (.int (3 : Int32)), .val (.int (0 : Int32)), .unset] [])
  refine own_step (fun t_ k_ => XS.aloadN X1.here hx rfl (hb hby dc_p23_m6_14) rfl rfl (XS.iloadN X1.here hx rfl (hb hby dc_p23_m6_15) rfl  k_)) ?_
  show own_Go _ _ _ _ T1 (mkF mm_ 16 #[.val (.ref a), .val (.ref r_1), .val (.int (3 : Int32)), .val (.int (0 : Int32)), .unset] [(.int (0 : Int32)), (.ref r_1)])
  obtain ⟨cl3, Ar3, q3, S3, M3, H3, G3⟩ := id r1_1
  have hin3 : ¬ ((0 : Int32) < 0 ∨ cl3.slots.size ≤ ((0 : Int32)).toNatClampNeg) := inb_of S3 ⟨by decide, by decide⟩
  have hat3 : cl3.slots[((0 : Int32)).toNatClampNeg]? = some (.ref w_0) := Has.at H3 hin3 rfl
  refine own_step (fun t_ k_ => X1.aaload hx (j := (0 : Int32)) (v := (.ref w_0)) Ar3.1 (State.isArrayOf_alike hZ.alike Ar3.2.1) rfl Ar3.2.2 hin3 hat3 (g := (mkF mm_ 16 #[.val (.ref a), .val (.ref r_1), .val (.int (3 : Int32)), .val (.int (0 : Int32)), .unset] [(.int (0 : Int32)), (.ref r_1)])) rfl rfl (hb hby dc_p23_m6_16) t_ k_) ?_
  show own_Go _ _ _ _ T1 (mkF mm_ 17 #[.val (.ref a), .val (.ref r_1), .val (.int (3 : Int32)), .val (.int (0 : Int32)), .unset] [(.ref w_0)])
  refine own_step (fun t_ k_ => XS.astore X1.here hx rfl (hb hby dc_p23_m6_17) rfl rfl (l' := #[.val (.ref a), .val (.ref r_1), .val (.int (3 : Int32)), .val (.int (0 : Int32)), .val (.ref w_0)]) rfl (XS.aload X1.here hx rfl (hb hby dc_p23_m6_19) rfl rfl k_)) ?_
  show own_Go _ _ _ _ T1 (mkF mm_ 21 #[.val (.ref a), .val (.ref r_1), .val (.int (3 : Int32)), .val (.int (0 : Int32)), .val (.ref w_0)] [(.ref w_0)])
  have O4 : Old Z n0 T1.heap := (O0.keep Kc1 all0)
  obtain ⟨T5, X5, e5, st5⟩ := getF X1 hx hZ hown (host := "") (Or.inl (own_w hw 54 rfl)) Via.refl rfl (G_F10.ext O4.2) (g := (mkF mm_ 21 #[.val (.ref a), .val (.ref r_1), .val (.int (3 : Int32)), .val (.int (0 : Int32)), .val (.ref w_0)] [(.ref w_0)])) rfl rfl (hb hby dc_p23_m6_21)
  refine own_step st5 ?_
  show own_Go _ _ _ _ T5 (mkF mm_ 24 #[.val (.ref a), .val (.ref r_1), .val (.int (3 : Int32)), .val (.int (0 : Int32)), .val (.ref w_0)] [(.ref s_0)])
  refine own_step (fun t_ k_ => XS.aloadN X5.here hx rfl (hb hby dc_p23_m6_24) rfl rfl k_) ?_
  show own_Go _ _ _ _ T5 (mkF mm_ 25 #[.val (.ref a), .val (.ref r_1), .val (.int (3 : Int32)), .val (.int (0 : Int32)), .val (.ref w_0)] [(.ref a), (.ref s_0)])
  have f7 : own_Str Z T1.heap a t [(99 : Int32), (110 : Int32), (103 : Int32)] := (pr0.keep Kc1 nin0 nin0)
  obtain ⟨_, T6, Lc6, X6, hQ6, st6⟩ := own_cV X5 hx hZ hown (own_w hw 56 rfl) (own_w hw 57 rfl) (notFace_of_selects (args := #[]) (mvT hZ (own_w hw 59 rfl))) (own_w hw 59 rfl) (own_w hw 58 rfl) (by decide) (own_eqS (W := 0) hZ hw (G_T11.ext O4.2) f7 (G_cs.ext O4.2) G_cs0 (by decide) (by decide)) (G_T11.ext O4.2).1 (g := (mkF mm_ 25 #[.val (.ref a), .val (.ref r_1), .val (.int (3 : Int32)), .val (.int (0 : Int32)), .val (.ref w_0)] [(.ref a), (.ref s_0)])) rfl (by rw [hml]; rfl) (argsL := [(.ref a)]) (rest := []) (lenOf pd_1 rfl) rfl (by show 2 * 0 + _ ≤ _; exact Nat.le_of_eq rfl) (hb hby dc_p23_m6_25) rfl e5 (by decide) (by decide)
  obtain ⟨⟨-, hq6⟩ | ⟨rfl, -⟩, rfl, Eh6⟩ := hQ6
  · exact absurd hq6 (by decide)
  have N6 := Fr.app N1 (Fr.nil n0)
  refine own_jump st6 ?_
  show own_Go _ _ _ _ T6 (mkF mm_ 28 #[.val (.ref a), .val (.ref r_1), .val (.int (3 : Int32)), .val (.int (0 : Int32)), .val (.ref w_0)] [(.int (0 : Int32))])
  refine own_step (fun t_ k_ => XS.ifYes X6.here hx rfl (pc0 := 28) (pc' := 34) rfl (hb hby dc_p23_m6_28) rfl ((if0 _ _).trans (teq (by decide : (0 : Int32) = (0 : Int32))).1) (by decide) (by decide) k_) ?_
  show own_Go _ _ _ _ T6 (mkF mm_ 34 #[.val (.ref a), .val (.ref r_1), .val (.int (3 : Int32)), .val (.int (0 : Int32)), .val (.ref w_0)] [])
  refine own_step (fun t_ k_ => XS.iinc X6.here hx rfl (hb hby dc_p23_m6_34) rfl (l' := #[.val (.ref a), .val (.ref r_1), .val (.int (3 : Int32)), .val (.int (1 : Int32)), .val (.ref w_0)]) rfl (XS.goto X6.here hx rfl (pc0 := 37) (pc' := 9) rfl (hb hby dc_p23_m6_37) (by decide) (by decide) (XS.iloadN X6.here hx rfl (hb hby dc_p23_m6_9) rfl  (XS.iloadN X6.here hx rfl (hb hby dc_p23_m6_10) rfl  k_)))) ?_
  show own_Go _ _ _ _ T6 (mkF mm_ 11 #[.val (.ref a), .val (.ref r_1), .val (.int (3 : Int32)), .val (.int (1 : Int32)), .val (.ref w_0)] [(.int (3 : Int32)), (.int (1 : Int32))])
  refine own_step (fun t_ k_ => XS.icmpNo X6.here hx rfl (hb hby dc_p23_m6_11) rfl (tlt (by decide : (1 : Int32) < (3 : Int32))).2.1 k_) ?_
  show own_Go _ _ _ _ T6 (mkF mm_ 14 #[.val (.ref a), .val (.ref r_1), .val (.int (3 : Int32)), .val (.int (1 : Int32)), .val (.ref w_0)] [])
  refine own_step (fun t_ k_ => XS.aloadN X6.here hx rfl (hb hby dc_p23_m6_14) rfl rfl (XS.iloadN X6.here hx rfl (hb hby dc_p23_m6_15) rfl  k_)) ?_
  show own_Go _ _ _ _ T6 (mkF mm_ 16 #[.val (.ref a), .val (.ref r_1), .val (.int (3 : Int32)), .val (.int (1 : Int32)), .val (.ref w_0)] [(.int (1 : Int32)), (.ref r_1)])
  obtain ⟨cl8, Ar8, q8, S8, M8, H8, G8⟩ := id r1_1
  have hin8 : ¬ ((1 : Int32) < 0 ∨ cl8.slots.size ≤ ((1 : Int32)).toNatClampNeg) := inb_of S8 ⟨by decide, by decide⟩
  have hat8 : cl8.slots[((1 : Int32)).toNatClampNeg]? = some (.ref w_1) := Has.at H8 hin8 rfl
  refine own_step (fun t_ k_ => X6.aaload hx (j := (1 : Int32)) (v := (.ref w_1)) (by rw [Eh6]; exact Ar8.1) (State.isArrayOf_alike hZ.alike Ar8.2.1) rfl Ar8.2.2 hin8 hat8 (g := (mkF mm_ 16 #[.val (.ref a), .val (.ref r_1), .val (.int (3 : Int32)), .val (.int (1 : Int32)), .val (.ref w_0)] [(.int (1 : Int32)), (.ref r_1)])) rfl rfl (hb hby dc_p23_m6_16) t_ k_) ?_
  show own_Go _ _ _ _ T6 (mkF mm_ 17 #[.val (.ref a), .val (.ref r_1), .val (.int (3 : Int32)), .val (.int (1 : Int32)), .val (.ref w_0)] [(.ref w_1)])
  refine own_step (fun t_ k_ => XS.astore X6.here hx rfl (hb hby dc_p23_m6_17) rfl rfl (l' := #[.val (.ref a), .val (.ref r_1), .val (.int (3 : Int32)), .val (.int (1 : Int32)), .val (.ref w_1)]) rfl (XS.aload X6.here hx rfl (hb hby dc_p23_m6_19) rfl rfl k_)) ?_
  show own_Go _ _ _ _ T6 (mkF mm_ 21 #[.val (.ref a), .val (.ref r_1), .val (.int (3 : Int32)), .val (.int (1 : Int32)), .val (.ref w_1)] [(.ref w_1)])
  obtain ⟨T9, X9, e9, st9⟩ := getF X6 hx hZ hown (host := "") (Or.inl (own_w hw 54 rfl)) Via.refl Eh6 (G_F15.ext O4.2) (g := (mkF mm_ 21 #[.val (.ref a), .val (.ref r_1), .val (.int (3 : Int32)), .val (.int (1 : Int32)), .val (.ref w_1)] [(.ref w_1)])) rfl rfl (hb hby dc_p23_m6_21)
  refine own_step st9 ?_
  show own_Go _ _ _ _ T9 (mkF mm_ 24 #[.val (.ref a), .val (.ref r_1), .val (.int (3 : Int32)), .val (.int (1 : Int32)), .val (.ref w_1)] [(.ref s_1)])
  refine own_step (fun t_ k_ => XS.aloadN X9.here hx rfl (hb hby dc_p23_m6_24) rfl rfl k_) ?_
  show own_Go _ _ _ _ T9 (mkF mm_ 25 #[.val (.ref a), .val (.ref r_1), .val (.int (3 : Int32)), .val (.int (1 : Int32)), .val (.ref w_1)] [(.ref a), (.ref s_1)])
  obtain ⟨_, T10, Lc10, X10, hQ10, st10⟩ := own_cV X9 hx hZ hown (own_w hw 56 rfl) (own_w hw 57 rfl) (notFace_of_selects (args := #[]) (mvT hZ (own_w hw 59 rfl))) (own_w hw 59 rfl) (own_w hw 58 rfl) (by decide) (own_eqS (W := 0) hZ hw (G_T16.ext O4.2) f7 (G_cs.ext O4.2) G_cs0 (by decide) (by decide)) (G_T16.ext O4.2).1 (g := (mkF mm_ 25 #[.val (.ref a), .val (.ref r_1), .val (.int (3 : Int32)), .val (.int (1 : Int32)), .val (.ref w_1)] [(.ref a), (.ref s_1)])) rfl (by rw [hml]; rfl) (argsL := [(.ref a)]) (rest := []) (lenOf pd_1 rfl) rfl (by show 2 * 0 + _ ≤ _; exact Nat.le_of_eq rfl) (hb hby dc_p23_m6_25) rfl e9 (by decide) (by decide)
  obtain ⟨⟨-, hq10⟩ | ⟨rfl, -⟩, rfl, Eh10⟩ := hQ10
  · exact absurd hq10 (by decide)
  have N10 := Fr.app N6 (Fr.nil n0)
  refine own_jump st10 ?_
  show own_Go _ _ _ _ T10 (mkF mm_ 28 #[.val (.ref a), .val (.ref r_1), .val (.int (3 : Int32)), .val (.int (1 : Int32)), .val (.ref w_1)] [(.int (0 : Int32))])
  refine own_step (fun t_ k_ => XS.ifYes X10.here hx rfl (pc0 := 28) (pc' := 34) rfl (hb hby dc_p23_m6_28) rfl ((if0 _ _).trans (teq (by decide : (0 : Int32) = (0 : Int32))).1) (by decide) (by decide) k_) ?_
  show own_Go _ _ _ _ T10 (mkF mm_ 34 #[.val (.ref a), .val (.ref r_1), .val (.int (3 : Int32)), .val (.int (1 : Int32)), .val (.ref w_1)] [])
  refine own_step (fun t_ k_ => XS.iinc X10.here hx rfl (hb hby dc_p23_m6_34) rfl (l' := #[.val (.ref a), .val (.ref r_1), .val (.int (3 : Int32)), .val (.int (2 : Int32)), .val (.ref w_1)]) rfl (XS.goto X10.here hx rfl (pc0 := 37) (pc' := 9) rfl (hb hby dc_p23_m6_37) (by decide) (by decide) (XS.iloadN X10.here hx rfl (hb hby dc_p23_m6_9) rfl  (XS.iloadN X10.here hx rfl (hb hby dc_p23_m6_10) rfl  k_)))) ?_
  show own_Go _ _ _ _ T10 (mkF mm_ 11 #[.val (.ref a), .val (.ref r_1), .val (.int (3 : Int32)), .val (.int (2 : Int32)), .val (.ref w_1)] [(.int (3 : Int32)), (.int (2 : Int32))])
  refine own_step (fun t_ k_ => XS.icmpNo X10.here hx rfl (hb hby dc_p23_m6_11) rfl (tlt (by decide : (2 : Int32) < (3 : Int32))).2.1 k_) ?_
  show own_Go _ _ _ _ T10 (mkF mm_ 14 #[.val (.ref a), .val (.ref r_1), .val (.int (3 : Int32)), .val (.int (2 : Int32)), .val (.ref w_1)] [])
  refine own_step (fun t_ k_ => XS.aloadN X10.here hx rfl (hb hby dc_p23_m6_14) rfl rfl (XS.iloadN X10.here hx rfl (hb hby dc_p23_m6_15) rfl  k_)) ?_
  show own_Go _ _ _ _ T10 (mkF mm_ 16 #[.val (.ref a), .val (.ref r_1), .val (.int (3 : Int32)), .val (.int (2 : Int32)), .val (.ref w_1)] [(.int (2 : Int32)), (.ref r_1)])
  obtain ⟨cl11, Ar11, q11, S11, M11, H11, G11⟩ := id r1_1
  have hin11 : ¬ ((2 : Int32) < 0 ∨ cl11.slots.size ≤ ((2 : Int32)).toNatClampNeg) := inb_of S11 ⟨by decide, by decide⟩
  have hat11 : cl11.slots[((2 : Int32)).toNatClampNeg]? = some (.ref w_2) := Has.at H11 hin11 rfl
  refine own_step (fun t_ k_ => X10.aaload hx (j := (2 : Int32)) (v := (.ref w_2)) (by rw [Eh10]; exact Ar11.1) (State.isArrayOf_alike hZ.alike Ar11.2.1) rfl Ar11.2.2 hin11 hat11 (g := (mkF mm_ 16 #[.val (.ref a), .val (.ref r_1), .val (.int (3 : Int32)), .val (.int (2 : Int32)), .val (.ref w_1)] [(.int (2 : Int32)), (.ref r_1)])) rfl rfl (hb hby dc_p23_m6_16) t_ k_) ?_
  show own_Go _ _ _ _ T10 (mkF mm_ 17 #[.val (.ref a), .val (.ref r_1), .val (.int (3 : Int32)), .val (.int (2 : Int32)), .val (.ref w_1)] [(.ref w_2)])
  refine own_step (fun t_ k_ => XS.astore X10.here hx rfl (hb hby dc_p23_m6_17) rfl rfl (l' := #[.val (.ref a), .val (.ref r_1), .val (.int (3 : Int32)), .val (.int (2 : Int32)), .val (.ref w_2)]) rfl (XS.aload X10.here hx rfl (hb hby dc_p23_m6_19) rfl rfl k_)) ?_
  show own_Go _ _ _ _ T10 (mkF mm_ 21 #[.val (.ref a), .val (.ref r_1), .val (.int (3 : Int32)), .val (.int (2 : Int32)), .val (.ref w_2)] [(.ref w_2)])
  obtain ⟨T12, X12, e12, st12⟩ := getF X10 hx hZ hown (host := "") (Or.inl (own_w hw 54 rfl)) Via.refl Eh10 (G_F20.ext O4.2) (g := (mkF mm_ 21 #[.val (.ref a), .val (.ref r_1), .val (.int (3 : Int32)), .val (.int (2 : Int32)), .val (.ref w_2)] [(.ref w_2)])) rfl rfl (hb hby dc_p23_m6_21)
  refine own_step st12 ?_
  show own_Go _ _ _ _ T12 (mkF mm_ 24 #[.val (.ref a), .val (.ref r_1), .val (.int (3 : Int32)), .val (.int (2 : Int32)), .val (.ref w_2)] [(.ref s_2)])
  refine own_step (fun t_ k_ => XS.aloadN X12.here hx rfl (hb hby dc_p23_m6_24) rfl rfl k_) ?_
  show own_Go _ _ _ _ T12 (mkF mm_ 25 #[.val (.ref a), .val (.ref r_1), .val (.int (3 : Int32)), .val (.int (2 : Int32)), .val (.ref w_2)] [(.ref a), (.ref s_2)])
  obtain ⟨_, T13, Lc13, X13, hQ13, st13⟩ := own_cV X12 hx hZ hown (own_w hw 56 rfl) (own_w hw 57 rfl) (notFace_of_selects (args := #[]) (mvT hZ (own_w hw 59 rfl))) (own_w hw 59 rfl) (own_w hw 58 rfl) (by decide) (own_eqS (W := 0) hZ hw (G_T21.ext O4.2) f7 (G_cs.ext O4.2) G_cs0 (by decide) (by decide)) (G_T21.ext O4.2).1 (g := (mkF mm_ 25 #[.val (.ref a), .val (.ref r_1), .val (.int (3 : Int32)), .val (.int (2 : Int32)), .val (.ref w_2)] [(.ref a), (.ref s_2)])) rfl (by rw [hml]; rfl) (argsL := [(.ref a)]) (rest := []) (lenOf pd_1 rfl) rfl (by show 2 * 0 + _ ≤ _; exact Nat.le_of_eq rfl) (hb hby dc_p23_m6_25) rfl e12 (by decide) (by decide)
  obtain ⟨⟨rfl, -⟩ | ⟨-, hq13⟩, rfl, Eh13⟩ := hQ13
  rotate_left
  · exact absurd rfl hq13
  have N13 := Fr.app N10 (Fr.nil n0)
  refine own_jump st13 ?_
  show own_Go _ _ _ _ T13 (mkF mm_ 28 #[.val (.ref a), .val (.ref r_1), .val (.int (3 : Int32)), .val (.int (2 : Int32)), .val (.ref w_2)] [(.int (1 : Int32))])
  refine own_step (fun t_ k_ => XS.ifNo X13.here hx rfl (hb hby dc_p23_m6_28) rfl ((if0 _ _).trans (feq (by decide : ¬ ((1 : Int32) = (0 : Int32)))).1) k_) ?_
  show own_Go _ _ _ _ T13 (mkF mm_ 31 #[.val (.ref a), .val (.ref r_1), .val (.int (3 : Int32)), .val (.int (2 : Int32)), .val (.ref w_2)] [])
  refine own_step (fun t_ k_ => XS.aload X13.here hx rfl (hb hby dc_p23_m6_31) rfl rfl k_) ?_
  show own_Go _ _ _ _ T13 (mkF mm_ 33 #[.val (.ref a), .val (.ref r_1), .val (.int (3 : Int32)), .val (.int (2 : Int32)), .val (.ref w_2)] [(.ref w_2)])
  have K14 : Keep h0 T1.heap [] := (K0.trans Kc1 all0)
  obtain ⟨fs, hr, hrun, hended, hW, hsame⟩ := X13.leave (v := some (.ref w_2)) (fun h => by rw [Bd.returns] at h; cases h)
  refine ⟨_, _, ?_, hrun, hended, _, _, rfl, ?_, ⟨_, rfl⟩, hW, hsame.mono (by decide) (by decide)⟩
  · jvm_step X13.here [X13.here.top, hx, (hb hby dc_p23_m6_33), X13.method', Bd.returns, Value.isRef, FieldType.isReference]
    first | (intro acts; rw [hr _ acts rfl rfl rfl]) | rw [hr _ _ rfl rfl rfl]
    exact Steps.refl _
  · show QrmO2 Z a t w_2 h0 n0 (some (.ref w_2)) T13.heap _
    rw [Eh13]
    exact ⟨rfl, N13, K14⟩
theorem dc_p23_m4_0 : decode prog_23_method_4_code 0 = .ok (.aload_n 0, 1) := by decide +kernel
theorem dc_p23_m4_1 : decode prog_23_method_4_code 1 = .ok (.getfield 32, 3) := by decide +kernel
theorem dc_p23_m4_4 : decode prog_23_method_4_code 4 = .ok (.areturn, 1) := by decide +kernel
theorem ef_rmG (mm_ : MethodId) (a : Addr) : entryFrame mm_ #[(.ref a)] 1 = (mkF mm_ 0 #[.val (.ref a)] []) := by first | (simp [entryFrame, mkF, argsToLocals, Value.category]; done) | rfl
def QrmG (Z : State) (a : Addr) (v : Addr) (h0 : Heap) (n0 : Nat) (vv_ : Option Value) (hh_ : Heap) (LL_ : List Loc) : Prop := (vv_ = some (.ref v)) ∧ (LL_ = []) ∧ (hh_ = h0)
set_option maxRecDepth 65536 in
set_option maxHeartbeats 40000000 in
theorem rmG (l : Launch) (Z : State) (a0 : Array Value) (hw : ∀ d ∈ tables_1, d.before a0 Z = true) (ws : List Jvm.Cond) (a : Addr) (v : Addr) (h0 : Heap) (n0 : Nat) (O0 : Old Z n0 h0) (pr0 : Fld Z h0 a "com/example/meter_to_invoice/metertoinvoice/billing/Metering" "word" "Ljava/lang/String;" (.ref v)) :
    MetFree l (⟨"com/example/meter_to_invoice/metertoinvoice/billing/Metering", "word", "()Ljava/lang/String;"⟩ : MethodName) (head1 (Jvm.Cond.code (⟨"com/example/meter_to_invoice/metertoinvoice/billing/Metering", "word", "()Ljava/lang/String;"⟩ : MethodName) prog_23_method_4_code 1 (some (.object "java/lang/String")) :: ws) ({ frames := 0, cells := 0, slots := 0, locals := 0 } : Room)) (fun aa_ UU_ => aa_ = #[(.ref a)] ∧ Z.Warmed39 UU_.vm ∧ UU_.heap = h0) (fun _ _ _ _ _ => True) (fun _ UU_ oo_ UV_ => ∃ vv_ LL_, oo_ = .returned vv_ ∧ QrmG Z a v h0 n0 vv_ UV_.heap LL_ ∧ FrameEnd UU_ oo_ UV_ LL_ ({ frames := 0, cells := 0, slots := 0, locals := 0 } : Room).cells ({ frames := 0, cells := 0, slots := 0, locals := 0 } : Room).slots) := by
  refine MetFree.of_bodySF (plainFor_of_name pn_com_example_meter_to_invoice_metertoinvoice_billing_Metering) hisR ?_
  intro pp_ ee_ ss_ mm_ args_ bb_ me_ cc_ s₁ Bd hml0 hP hK
  obtain ⟨rfl, hZ, hh⟩ := hP
  have hx := Bd.exec
  have hby := Bd.bytes
  have hml : cc_.maxLocals = 1 := hml0
  have hown : ss_.vm.findClass "com/example/meter_to_invoice/metertoinvoice/billing/Metering" = some mm_.cls := findClass_of_methodNamed Bd.named
  have hnm := (name_of_methodNamed Bd.named Bd.method).1
  have X0 : Stand pp_ l ee_ ({ frames := 0, cells := 0, slots := 0, locals := 0 } : Room) ss_ mm_ #[(.ref a)] bb_ me_ cc_ s₁ [] 0 0 := Stand.of_body Bd
  have e0 : s₁.heap = h0 := by rw [← hh, Bd.state]; rfl
  have N0 := Fr.nil n0
  show own_Go pp_ ee_ bb_ (fun s₂ oo_ => s₂.status = .running ∧ Ended s₂ bb_ oo_ ∧ (∃ vv_ LL_, oo_ = .returned vv_ ∧ QrmG Z a v h0 n0 vv_ s₂.heap LL_ ∧ FrameEnd ss_ oo_ s₂ LL_ ({ frames := 0, cells := 0, slots := 0, locals := 0 } : Room).cells ({ frames := 0, cells := 0, slots := 0, locals := 0 } : Room).slots)) s₁ (entryFrame mm_ #[(.ref a)] 1)
  refine own_cast (ef_rmG mm_ a) ?_
  have Z0 : n0 ≤ h0.size := by have q := O0.2.1; rw [O0.1] at q; exact q
  have K0 : Keep h0 h0 [] := Keep.refl _ _
  show own_Go _ _ _ _ s₁ (mkF mm_ 0 #[.val (.ref a)] [])
  refine own_step (fun t_ k_ => XS.aloadN X0.here hx rfl (hb hby dc_p23_m4_0) rfl rfl k_) ?_
  show own_Go _ _ _ _ s₁ (mkF mm_ 1 #[.val (.ref a)] [(.ref a)])
  obtain ⟨T1, X1, e1, st1⟩ := getF X0 hx hZ hown (host := "") (Or.inl (own_w hw 54 rfl)) Via.refl e0 pr0 (g := (mkF mm_ 1 #[.val (.ref a)] [(.ref a)])) rfl rfl (hb hby dc_p23_m4_1)
  refine own_step st1 ?_
  show own_Go _ _ _ _ T1 (mkF mm_ 4 #[.val (.ref a)] [(.ref v)])
  obtain ⟨fs, hr, hrun, hended, hW, hsame⟩ := X1.leave (v := some (.ref v)) (fun h => by rw [Bd.returns] at h; cases h)
  refine ⟨_, _, ?_, hrun, hended, _, _, rfl, ?_, ⟨_, rfl⟩, hW, hsame.mono (by decide) (by decide)⟩
  · jvm_step X1.here [X1.here.top, hx, (hb hby dc_p23_m4_4), X1.method', Bd.returns, Value.isRef, FieldType.isReference]
    first | (intro acts; rw [hr _ acts rfl rfl rfl]) | rw [hr _ _ rfl rfl rfl]
    exact Steps.refl _
  · show QrmG Z a v h0 n0 (some (.ref v)) T1.heap _
    rw [e1]
    exact ⟨rfl, rfl, rfl⟩
theorem pd_2 : parseMethodDescriptor "([C)V" = some ⟨[(.array .char)], none⟩ := by decide +kernel
theorem pd_3 : parseMethodDescriptor "(Ljava/lang/String;)Lcom/example/meter_to_invoice/metertoinvoice/billing/Metering;" = some ⟨[(.object "java/lang/String")], some (.object "com/example/meter_to_invoice/metertoinvoice/billing/Metering")⟩ := by decide +kernel
theorem pd_4 : parseMethodDescriptor "()Ljava/lang/String;" = some ⟨[], some (.object "java/lang/String")⟩ := by decide +kernel
theorem pn_com_example_meter_to_invoice_metertoinvoice_billing_MeteringNamedPinLaw : plainName "com/example/meter_to_invoice/metertoinvoice/billing/MeteringNamedPinLaw" = true := by first | (simp [plainName, overriddenIn]; done) | decide +kernel
theorem ef_rm0 (mm_ : MethodId) (p1 : Int32) : entryFrame mm_ #[(.int p1)] maxLocals = (mkF mm_ 0 #[.val (.int p1), .unset, .unset, .unset, .unset, .unset] []) := by first | (simp [entryFrame, mkF, argsToLocals, Value.category, maxLocals]; done) | rfl
def Qrm0 (Z : State) (p1 : Int32) (h0 : Heap) (n0 : Nat) (vv_ : Option Value) (hh_ : Heap) (LL_ : List Loc) : Prop := (vv_ = some (.int (1 : Int32))) ∧ (Fr n0 LL_) ∧ (Keep h0 hh_ [])
set_option maxRecDepth 65536 in
set_option maxHeartbeats 40000000 in
theorem rm0 (l : Launch) (Z : State) (a0 : Array Value) (hw : ∀ d ∈ tables_1, d.before a0 Z = true) (ws : List Jvm.Cond) (p1 : Int32) {zc : Int32} {w_0 : Addr} {w_1 : Addr} {w_2 : Addr} {wV : Addr} {kV : ClassId} {s_0 : Addr} {t_0 : Addr} {s_1 : Addr} {t_1 : Addr} {s_2 : Addr} {t_2 : Addr} (h0 : Heap) (n0 : Nat) (O0 : Old Z n0 h0) (G_ : own_St Z zc w_0 w_1 w_2 wV kV s_0 t_0 s_1 t_1 s_2 t_2) :
    MetFree l x (head1 (Jvm.Cond.code x code maxLocals ret :: ws) room_1) (fun aa_ UU_ => aa_ = #[(.int p1)] ∧ Z.Warmed39 UU_.vm ∧ UU_.heap = h0) (fun _ _ _ _ _ => True) (fun _ UU_ oo_ UV_ => ∃ vv_ LL_, oo_ = .returned vv_ ∧ Qrm0 Z p1 h0 n0 vv_ UV_.heap LL_ ∧ FrameEnd UU_ oo_ UV_ LL_ room_1.cells room_1.slots) := by
  refine MetFree.of_bodySF (plainFor_of_name pn_com_example_meter_to_invoice_metertoinvoice_billing_MeteringNamedPinLaw) hisR ?_
  intro pp_ ee_ ss_ mm_ args_ bb_ me_ cc_ s₁ Bd hml0 hP hK
  obtain ⟨rfl, hZ, hh⟩ := hP
  have hx := Bd.exec
  have hby := Bd.bytes
  have hml : cc_.maxLocals = 6 := hml0
  have hown : ss_.vm.findClass "com/example/meter_to_invoice/metertoinvoice/billing/MeteringNamedPinLaw" = some mm_.cls := findClass_of_methodNamed Bd.named
  have hnm := (name_of_methodNamed Bd.named Bd.method).1
  have X0 : Stand pp_ l ee_ room_1 ss_ mm_ #[(.int p1)] bb_ me_ cc_ s₁ [] 0 0 := Stand.of_body Bd
  have e0 : s₁.heap = h0 := by rw [← hh, Bd.state]; rfl
  have N0 := Fr.nil n0
  show own_Go pp_ ee_ bb_ (fun s₂ oo_ => s₂.status = .running ∧ Ended s₂ bb_ oo_ ∧ (∃ vv_ LL_, oo_ = .returned vv_ ∧ Qrm0 Z p1 h0 n0 vv_ s₂.heap LL_ ∧ FrameEnd ss_ oo_ s₂ LL_ room_1.cells room_1.slots)) s₁ (entryFrame mm_ #[(.int p1)] maxLocals)
  refine own_cast (ef_rm0 mm_ p1) ?_
  have Z0 : n0 ≤ h0.size := by have q := O0.2.1; rw [O0.1] at q; exact q
  have K0 : Keep h0 h0 [] := Keep.refl _ _
  obtain ⟨G_cs, G_cs0, G_S1, G_S2, G_S3, G_S4, G_E5, G_E6, G_E7, G_E8, G_V9, G_F10, G_T11, G_F15, G_T16, G_F20, G_T21⟩ := id G_
  show own_Go _ _ _ _ s₁ (mkF mm_ 0 #[.val (.int p1), .unset, .unset, .unset, .unset, .unset] [])
  refine own_step (fun t_ k_ => XS.iloadN X0.here hx rfl (hb hby at_0) rfl  k_) ?_
  show own_Go _ _ _ _ s₁ (mkF mm_ 1 #[.val (.int p1), .unset, .unset, .unset, .unset, .unset] [(.int p1)])
  refine own_step (fun t_ k_ => X0.ldcInt hx hown (mvT hZ (own_w hw 0 rfl)) (g := (mkF mm_ 1 #[.val (.int p1), .unset, .unset, .unset, .unset, .unset] [(.int p1)])) rfl (hb hby at_1) t_ k_) ?_
  show own_Go _ _ _ _ s₁ (mkF mm_ 3 #[.val (.int p1), .unset, .unset, .unset, .unset, .unset] [(.int (2147483647 : Int32)), (.int p1)])
  refine own_step (fun t_ k_ => XS.iand X0.here hx rfl (hb hby at_3) rfl (XS.iconst X0.here hx rfl (hb hby at_4) k_)) ?_
  show own_Go _ _ _ _ s₁ (mkF mm_ 5 #[.val (.int p1), .unset, .unset, .unset, .unset, .unset] [(.int (3 : Int32)), (.int (p1 &&& (2147483647 : Int32)))])
  refine own_step (fun t_ k_ => iremM (g := (mkF mm_ 5 #[.val (.int p1), .unset, .unset, .unset, .unset, .unset] [(.int (3 : Int32)), (.int (p1 &&& (2147483647 : Int32)))])) X0 hx rfl (hb hby at_5) rfl (by decide) (XS.istoreN X0.here hx rfl (hb hby at_6) rfl (l' := #[.val (.int p1), .val (.int ((p1 &&& (2147483647 : Int32)) % (3 : Int32))), .unset, .unset, .unset, .unset]) rfl (XS.iloadN X0.here hx rfl (hb hby at_7) rfl  k_))) ?_
  show own_Go _ _ _ _ s₁ (mkF mm_ 8 #[.val (.int p1), .val (.int ((p1 &&& (2147483647 : Int32)) % (3 : Int32))), .unset, .unset, .unset, .unset] [(.int ((p1 &&& (2147483647 : Int32)) % (3 : Int32)))])
  by_cases hc8_1 : ((p1 &&& (2147483647 : Int32)) % (3 : Int32)) = (0 : Int32)
  · skip
    refine own_step (fun t_ k_ => XS.ifNo X0.here hx rfl (hb hby at_8) rfl ((if0 _ _).trans (teq hc8_1).2) k_) ?_
    show own_Go _ _ _ _ s₁ (mkF mm_ 11 #[.val (.int p1), .val (.int ((p1 &&& (2147483647 : Int32)) % (3 : Int32))), .unset, .unset, .unset, .unset] [])
    refine own_step (fun t_ k_ => XS.bipush X0.here hx rfl (hb hby at_11) k_) ?_
    show own_Go _ _ _ _ s₁ (mkF mm_ 13 #[.val (.int p1), .val (.int ((p1 &&& (2147483647 : Int32)) % (3 : Int32))), .unset, .unset, .unset, .unset] [(.int (15 : Int32))])
    obtain ⟨T2, h2, k2, X2, e2, E2, A2, st2⟩ := newP X0 hx hZ (own_w hw 1 rfl) e0 (g := (mkF mm_ 13 #[.val (.int p1), .val (.int ((p1 &&& (2147483647 : Int32)) % (3 : Int32))), .unset, .unset, .unset, .unset] [(.int (15 : Int32))])) rfl (hb hby at_13) rfl (by decide) (cap := 15) (by decide) (by decide) (by decide) (by decide)
    obtain ⟨b2, q2⟩ : ∃ z, z = h0.size := ⟨_, rfl⟩
    rw [← q2] at A2 st2
    have lo_b2 : h0.size ≤ b2 := Nat.le_trans K0.1 (Nat.le_of_eq q2.symm)
    have g_b2 : n0 ≤ b2 := Nat.le_trans Z0 lo_b2
    refine own_step st2 ?_
    have V2 : Arv Z h2 b2 k2 .char (15 : Int32) [(.int (0 : Int32)), (.int (0 : Int32)), (.int (0 : Int32)), (.int (0 : Int32)), (.int (0 : Int32)), (.int (0 : Int32)), (.int (0 : Int32)), (.int (0 : Int32)), (.int (0 : Int32)), (.int (0 : Int32)), (.int (0 : Int32)), (.int (0 : Int32)), (.int (0 : Int32)), (.int (0 : Int32)), (.int (0 : Int32))] (.int (0 : Int32)) := (Arv.new A2 (by decide)).pad (pad_rep [] (.int (0 : Int32)) 15)
    show own_Go _ _ _ _ T2 (mkF mm_ 15 #[.val (.int p1), .val (.int ((p1 &&& (2147483647 : Int32)) % (3 : Int32))), .unset, .unset, .unset, .unset] [(.ref b2)])
    refine own_step (fun t_ k_ => XS.dup X2.here hx rfl (hb hby at_15) rfl rfl (XS.iconst X2.here hx rfl (hb hby at_16) (XS.bipush X2.here hx rfl (hb hby at_17) k_))) ?_
    show own_Go _ _ _ _ T2 (mkF mm_ 19 #[.val (.int p1), .val (.int ((p1 &&& (2147483647 : Int32)) % (3 : Int32))), .unset, .unset, .unset, .unset] [(.int (110 : Int32)), (.int (0 : Int32)), (.ref b2), (.ref b2)])
    obtain ⟨cl3, Ar3, q3, S3, M3, H3, G3⟩ := id V2
    have hin3 : ¬ ((0 : Int32) < 0 ∨ cl3.slots.size ≤ ((0 : Int32)).toNatClampNeg) := inb_of S3 ⟨by decide, by decide⟩
    obtain ⟨T3, h3, X3, e3, W3, st3⟩ := stC X2 hx hZ e2 Ar3 (j := (0 : Int32)) hin3 (g := (mkF mm_ 19 #[.val (.int p1), .val (.int ((p1 &&& (2147483647 : Int32)) % (3 : Int32))), .unset, .unset, .unset, .unset] [(.int (110 : Int32)), (.int (0 : Int32)), (.ref b2), (.ref b2)])) rfl rfl (hb hby at_19)
    have V3 : Arv Z h3 b2 k2 .char (15 : Int32) [(.int (110 : Int32)), (.int (0 : Int32)), (.int (0 : Int32)), (.int (0 : Int32)), (.int (0 : Int32)), (.int (0 : Int32)), (.int (0 : Int32)), (.int (0 : Int32)), (.int (0 : Int32)), (.int (0 : Int32)), (.int (0 : Int32)), (.int (0 : Int32)), (.int (0 : Int32)), (.int (0 : Int32)), (.int (0 : Int32))] (.int (0 : Int32)) := Arv.set Ar3 q3 S3 M3 H3 G3 (fits_nar_char _) W3 0 rfl (Nat.le_of_ble_eq_true rfl)
    have N3 := Fr.snoc X3 N0 g_b2
    refine own_step st3 ?_
    show own_Go _ _ _ _ T3 (mkF mm_ 20 #[.val (.int p1), .val (.int ((p1 &&& (2147483647 : Int32)) % (3 : Int32))), .unset, .unset, .unset, .unset] [(.ref b2)])
    refine own_step (fun t_ k_ => XS.dup X3.here hx rfl (hb hby at_20) rfl rfl (XS.iconst X3.here hx rfl (hb hby at_21) (XS.bipush X3.here hx rfl (hb hby at_22) k_))) ?_
    show own_Go _ _ _ _ T3 (mkF mm_ 24 #[.val (.int p1), .val (.int ((p1 &&& (2147483647 : Int32)) % (3 : Int32))), .unset, .unset, .unset, .unset] [(.int (111 : Int32)), (.int (1 : Int32)), (.ref b2), (.ref b2)])
    obtain ⟨cl4, Ar4, q4, S4, M4, H4, G4⟩ := id V3
    have hin4 : ¬ ((1 : Int32) < 0 ∨ cl4.slots.size ≤ ((1 : Int32)).toNatClampNeg) := inb_of S4 ⟨by decide, by decide⟩
    obtain ⟨T4, h4, X4, e4, W4, st4⟩ := stC X3 hx hZ e3 Ar4 (j := (1 : Int32)) hin4 (g := (mkF mm_ 24 #[.val (.int p1), .val (.int ((p1 &&& (2147483647 : Int32)) % (3 : Int32))), .unset, .unset, .unset, .unset] [(.int (111 : Int32)), (.int (1 : Int32)), (.ref b2), (.ref b2)])) rfl rfl (hb hby at_24)
    have V4 : Arv Z h4 b2 k2 .char (15 : Int32) [(.int (110 : Int32)), (.int (111 : Int32)), (.int (0 : Int32)), (.int (0 : Int32)), (.int (0 : Int32)), (.int (0 : Int32)), (.int (0 : Int32)), (.int (0 : Int32)), (.int (0 : Int32)), (.int (0 : Int32)), (.int (0 : Int32)), (.int (0 : Int32)), (.int (0 : Int32)), (.int (0 : Int32)), (.int (0 : Int32))] (.int (0 : Int32)) := Arv.set Ar4 q4 S4 M4 H4 G4 (fits_nar_char _) W4 1 rfl (Nat.le_of_ble_eq_true rfl)
    have N4 := Fr.snoc X4 N3 g_b2
    refine own_step st4 ?_
    show own_Go _ _ _ _ T4 (mkF mm_ 25 #[.val (.int p1), .val (.int ((p1 &&& (2147483647 : Int32)) % (3 : Int32))), .unset, .unset, .unset, .unset] [(.ref b2)])
    refine own_step (fun t_ k_ => XS.dup X4.here hx rfl (hb hby at_25) rfl rfl (XS.iconst X4.here hx rfl (hb hby at_26) (XS.bipush X4.here hx rfl (hb hby at_27) k_))) ?_
    show own_Go _ _ _ _ T4 (mkF mm_ 29 #[.val (.int p1), .val (.int ((p1 &&& (2147483647 : Int32)) % (3 : Int32))), .unset, .unset, .unset, .unset] [(.int (110 : Int32)), (.int (2 : Int32)), (.ref b2), (.ref b2)])
    obtain ⟨cl5, Ar5, q5, S5, M5, H5, G5⟩ := id V4
    have hin5 : ¬ ((2 : Int32) < 0 ∨ cl5.slots.size ≤ ((2 : Int32)).toNatClampNeg) := inb_of S5 ⟨by decide, by decide⟩
    obtain ⟨T5, h5, X5, e5, W5, st5⟩ := stC X4 hx hZ e4 Ar5 (j := (2 : Int32)) hin5 (g := (mkF mm_ 29 #[.val (.int p1), .val (.int ((p1 &&& (2147483647 : Int32)) % (3 : Int32))), .unset, .unset, .unset, .unset] [(.int (110 : Int32)), (.int (2 : Int32)), (.ref b2), (.ref b2)])) rfl rfl (hb hby at_29)
    have V5 : Arv Z h5 b2 k2 .char (15 : Int32) [(.int (110 : Int32)), (.int (111 : Int32)), (.int (110 : Int32)), (.int (0 : Int32)), (.int (0 : Int32)), (.int (0 : Int32)), (.int (0 : Int32)), (.int (0 : Int32)), (.int (0 : Int32)), (.int (0 : Int32)), (.int (0 : Int32)), (.int (0 : Int32)), (.int (0 : Int32)), (.int (0 : Int32)), (.int (0 : Int32))] (.int (0 : Int32)) := Arv.set Ar5 q5 S5 M5 H5 G5 (fits_nar_char _) W5 2 rfl (Nat.le_of_ble_eq_true rfl)
    have N5 := Fr.snoc X5 N4 g_b2
    refine own_step st5 ?_
    show own_Go _ _ _ _ T5 (mkF mm_ 30 #[.val (.int p1), .val (.int ((p1 &&& (2147483647 : Int32)) % (3 : Int32))), .unset, .unset, .unset, .unset] [(.ref b2)])
    refine own_step (fun t_ k_ => XS.dup X5.here hx rfl (hb hby at_30) rfl rfl (XS.iconst X5.here hx rfl (hb hby at_31) (XS.bipush X5.here hx rfl (hb hby at_32) k_))) ?_
    show own_Go _ _ _ _ T5 (mkF mm_ 34 #[.val (.int p1), .val (.int ((p1 &&& (2147483647 : Int32)) % (3 : Int32))), .unset, .unset, .unset, .unset] [(.int (45 : Int32)), (.int (3 : Int32)), (.ref b2), (.ref b2)])
    obtain ⟨cl6, Ar6, q6, S6, M6, H6, G6⟩ := id V5
    have hin6 : ¬ ((3 : Int32) < 0 ∨ cl6.slots.size ≤ ((3 : Int32)).toNatClampNeg) := inb_of S6 ⟨by decide, by decide⟩
    obtain ⟨T6, h6, X6, e6, W6, st6⟩ := stC X5 hx hZ e5 Ar6 (j := (3 : Int32)) hin6 (g := (mkF mm_ 34 #[.val (.int p1), .val (.int ((p1 &&& (2147483647 : Int32)) % (3 : Int32))), .unset, .unset, .unset, .unset] [(.int (45 : Int32)), (.int (3 : Int32)), (.ref b2), (.ref b2)])) rfl rfl (hb hby at_34)
    have V6 : Arv Z h6 b2 k2 .char (15 : Int32) [(.int (110 : Int32)), (.int (111 : Int32)), (.int (110 : Int32)), (.int (45 : Int32)), (.int (0 : Int32)), (.int (0 : Int32)), (.int (0 : Int32)), (.int (0 : Int32)), (.int (0 : Int32)), (.int (0 : Int32)), (.int (0 : Int32)), (.int (0 : Int32)), (.int (0 : Int32)), (.int (0 : Int32)), (.int (0 : Int32))] (.int (0 : Int32)) := Arv.set Ar6 q6 S6 M6 H6 G6 (fits_nar_char _) W6 3 rfl (Nat.le_of_ble_eq_true rfl)
    have N6 := Fr.snoc X6 N5 g_b2
    refine own_step st6 ?_
    show own_Go _ _ _ _ T6 (mkF mm_ 35 #[.val (.int p1), .val (.int ((p1 &&& (2147483647 : Int32)) % (3 : Int32))), .unset, .unset, .unset, .unset] [(.ref b2)])
    refine own_step (fun t_ k_ => XS.dup X6.here hx rfl (hb hby at_35) rfl rfl (XS.iconst X6.here hx rfl (hb hby at_36) (XS.bipush X6.here hx rfl (hb hby at_37) k_))) ?_
    show own_Go _ _ _ _ T6 (mkF mm_ 39 #[.val (.int p1), .val (.int ((p1 &&& (2147483647 : Int32)) % (3 : Int32))), .unset, .unset, .unset, .unset] [(.int (116 : Int32)), (.int (4 : Int32)), (.ref b2), (.ref b2)])
    obtain ⟨cl7, Ar7, q7, S7, M7, H7, G7⟩ := id V6
    have hin7 : ¬ ((4 : Int32) < 0 ∨ cl7.slots.size ≤ ((4 : Int32)).toNatClampNeg) := inb_of S7 ⟨by decide, by decide⟩
    obtain ⟨T7, h7, X7, e7, W7, st7⟩ := stC X6 hx hZ e6 Ar7 (j := (4 : Int32)) hin7 (g := (mkF mm_ 39 #[.val (.int p1), .val (.int ((p1 &&& (2147483647 : Int32)) % (3 : Int32))), .unset, .unset, .unset, .unset] [(.int (116 : Int32)), (.int (4 : Int32)), (.ref b2), (.ref b2)])) rfl rfl (hb hby at_39)
    have V7 : Arv Z h7 b2 k2 .char (15 : Int32) [(.int (110 : Int32)), (.int (111 : Int32)), (.int (110 : Int32)), (.int (45 : Int32)), (.int (116 : Int32)), (.int (0 : Int32)), (.int (0 : Int32)), (.int (0 : Int32)), (.int (0 : Int32)), (.int (0 : Int32)), (.int (0 : Int32)), (.int (0 : Int32)), (.int (0 : Int32)), (.int (0 : Int32)), (.int (0 : Int32))] (.int (0 : Int32)) := Arv.set Ar7 q7 S7 M7 H7 G7 (fits_nar_char _) W7 4 rfl (Nat.le_of_ble_eq_true rfl)
    have N7 := Fr.snoc X7 N6 g_b2
    refine own_step st7 ?_
    show own_Go _ _ _ _ T7 (mkF mm_ 40 #[.val (.int p1), .val (.int ((p1 &&& (2147483647 : Int32)) % (3 : Int32))), .unset, .unset, .unset, .unset] [(.ref b2)])
    refine own_step (fun t_ k_ => XS.dup X7.here hx rfl (hb hby at_40) rfl rfl (XS.iconst X7.here hx rfl (hb hby at_41) (XS.bipush X7.here hx rfl (hb hby at_42) k_))) ?_
    show own_Go _ _ _ _ T7 (mkF mm_ 44 #[.val (.int p1), .val (.int ((p1 &&& (2147483647 : Int32)) % (3 : Int32))), .unset, .unset, .unset, .unset] [(.int (101 : Int32)), (.int (5 : Int32)), (.ref b2), (.ref b2)])
    obtain ⟨cl8, Ar8, q8, S8, M8, H8, G8⟩ := id V7
    have hin8 : ¬ ((5 : Int32) < 0 ∨ cl8.slots.size ≤ ((5 : Int32)).toNatClampNeg) := inb_of S8 ⟨by decide, by decide⟩
    obtain ⟨T8, h8, X8, e8, W8, st8⟩ := stC X7 hx hZ e7 Ar8 (j := (5 : Int32)) hin8 (g := (mkF mm_ 44 #[.val (.int p1), .val (.int ((p1 &&& (2147483647 : Int32)) % (3 : Int32))), .unset, .unset, .unset, .unset] [(.int (101 : Int32)), (.int (5 : Int32)), (.ref b2), (.ref b2)])) rfl rfl (hb hby at_44)
    have V8 : Arv Z h8 b2 k2 .char (15 : Int32) [(.int (110 : Int32)), (.int (111 : Int32)), (.int (110 : Int32)), (.int (45 : Int32)), (.int (116 : Int32)), (.int (101 : Int32)), (.int (0 : Int32)), (.int (0 : Int32)), (.int (0 : Int32)), (.int (0 : Int32)), (.int (0 : Int32)), (.int (0 : Int32)), (.int (0 : Int32)), (.int (0 : Int32)), (.int (0 : Int32))] (.int (0 : Int32)) := Arv.set Ar8 q8 S8 M8 H8 G8 (fits_nar_char _) W8 5 rfl (Nat.le_of_ble_eq_true rfl)
    have N8 := Fr.snoc X8 N7 g_b2
    refine own_step st8 ?_
    show own_Go _ _ _ _ T8 (mkF mm_ 45 #[.val (.int p1), .val (.int ((p1 &&& (2147483647 : Int32)) % (3 : Int32))), .unset, .unset, .unset, .unset] [(.ref b2)])
    refine own_step (fun t_ k_ => XS.dup X8.here hx rfl (hb hby at_45) rfl rfl (XS.bipush X8.here hx rfl (hb hby at_46) (XS.bipush X8.here hx rfl (hb hby at_48) k_))) ?_
    show own_Go _ _ _ _ T8 (mkF mm_ 50 #[.val (.int p1), .val (.int ((p1 &&& (2147483647 : Int32)) % (3 : Int32))), .unset, .unset, .unset, .unset] [(.int (108 : Int32)), (.int (6 : Int32)), (.ref b2), (.ref b2)])
    obtain ⟨cl9, Ar9, q9, S9, M9, H9, G9⟩ := id V8
    have hin9 : ¬ ((6 : Int32) < 0 ∨ cl9.slots.size ≤ ((6 : Int32)).toNatClampNeg) := inb_of S9 ⟨by decide, by decide⟩
    obtain ⟨T9, h9, X9, e9, W9, st9⟩ := stC X8 hx hZ e8 Ar9 (j := (6 : Int32)) hin9 (g := (mkF mm_ 50 #[.val (.int p1), .val (.int ((p1 &&& (2147483647 : Int32)) % (3 : Int32))), .unset, .unset, .unset, .unset] [(.int (108 : Int32)), (.int (6 : Int32)), (.ref b2), (.ref b2)])) rfl rfl (hb hby at_50)
    have V9 : Arv Z h9 b2 k2 .char (15 : Int32) [(.int (110 : Int32)), (.int (111 : Int32)), (.int (110 : Int32)), (.int (45 : Int32)), (.int (116 : Int32)), (.int (101 : Int32)), (.int (108 : Int32)), (.int (0 : Int32)), (.int (0 : Int32)), (.int (0 : Int32)), (.int (0 : Int32)), (.int (0 : Int32)), (.int (0 : Int32)), (.int (0 : Int32)), (.int (0 : Int32))] (.int (0 : Int32)) := Arv.set Ar9 q9 S9 M9 H9 G9 (fits_nar_char _) W9 6 rfl (Nat.le_of_ble_eq_true rfl)
    have N9 := Fr.snoc X9 N8 g_b2
    refine own_step st9 ?_
    show own_Go _ _ _ _ T9 (mkF mm_ 51 #[.val (.int p1), .val (.int ((p1 &&& (2147483647 : Int32)) % (3 : Int32))), .unset, .unset, .unset, .unset] [(.ref b2)])
    refine own_step (fun t_ k_ => XS.dup X9.here hx rfl (hb hby at_51) rfl rfl (XS.bipush X9.here hx rfl (hb hby at_52) (XS.bipush X9.here hx rfl (hb hby at_54) k_))) ?_
    show own_Go _ _ _ _ T9 (mkF mm_ 56 #[.val (.int p1), .val (.int ((p1 &&& (2147483647 : Int32)) % (3 : Int32))), .unset, .unset, .unset, .unset] [(.int (101 : Int32)), (.int (7 : Int32)), (.ref b2), (.ref b2)])
    obtain ⟨cl10, Ar10, q10, S10, M10, H10, G10⟩ := id V9
    have hin10 : ¬ ((7 : Int32) < 0 ∨ cl10.slots.size ≤ ((7 : Int32)).toNatClampNeg) := inb_of S10 ⟨by decide, by decide⟩
    obtain ⟨T10, h10, X10, e10, W10, st10⟩ := stC X9 hx hZ e9 Ar10 (j := (7 : Int32)) hin10 (g := (mkF mm_ 56 #[.val (.int p1), .val (.int ((p1 &&& (2147483647 : Int32)) % (3 : Int32))), .unset, .unset, .unset, .unset] [(.int (101 : Int32)), (.int (7 : Int32)), (.ref b2), (.ref b2)])) rfl rfl (hb hby at_56)
    have V10 : Arv Z h10 b2 k2 .char (15 : Int32) [(.int (110 : Int32)), (.int (111 : Int32)), (.int (110 : Int32)), (.int (45 : Int32)), (.int (116 : Int32)), (.int (101 : Int32)), (.int (108 : Int32)), (.int (101 : Int32)), (.int (0 : Int32)), (.int (0 : Int32)), (.int (0 : Int32)), (.int (0 : Int32)), (.int (0 : Int32)), (.int (0 : Int32)), (.int (0 : Int32))] (.int (0 : Int32)) := Arv.set Ar10 q10 S10 M10 H10 G10 (fits_nar_char _) W10 7 rfl (Nat.le_of_ble_eq_true rfl)
    have N10 := Fr.snoc X10 N9 g_b2
    refine own_step st10 ?_
    show own_Go _ _ _ _ T10 (mkF mm_ 57 #[.val (.int p1), .val (.int ((p1 &&& (2147483647 : Int32)) % (3 : Int32))), .unset, .unset, .unset, .unset] [(.ref b2)])
    refine own_step (fun t_ k_ => XS.dup X10.here hx rfl (hb hby at_57) rfl rfl (XS.bipush X10.here hx rfl (hb hby at_58) (XS.bipush X10.here hx rfl (hb hby at_60) k_))) ?_
    show own_Go _ _ _ _ T10 (mkF mm_ 62 #[.val (.int p1), .val (.int ((p1 &&& (2147483647 : Int32)) % (3 : Int32))), .unset, .unset, .unset, .unset] [(.int (109 : Int32)), (.int (8 : Int32)), (.ref b2), (.ref b2)])
    obtain ⟨cl11, Ar11, q11, S11, M11, H11, G11⟩ := id V10
    have hin11 : ¬ ((8 : Int32) < 0 ∨ cl11.slots.size ≤ ((8 : Int32)).toNatClampNeg) := inb_of S11 ⟨by decide, by decide⟩
    obtain ⟨T11, h11, X11, e11, W11, st11⟩ := stC X10 hx hZ e10 Ar11 (j := (8 : Int32)) hin11 (g := (mkF mm_ 62 #[.val (.int p1), .val (.int ((p1 &&& (2147483647 : Int32)) % (3 : Int32))), .unset, .unset, .unset, .unset] [(.int (109 : Int32)), (.int (8 : Int32)), (.ref b2), (.ref b2)])) rfl rfl (hb hby at_62)
    have V11 : Arv Z h11 b2 k2 .char (15 : Int32) [(.int (110 : Int32)), (.int (111 : Int32)), (.int (110 : Int32)), (.int (45 : Int32)), (.int (116 : Int32)), (.int (101 : Int32)), (.int (108 : Int32)), (.int (101 : Int32)), (.int (109 : Int32)), (.int (0 : Int32)), (.int (0 : Int32)), (.int (0 : Int32)), (.int (0 : Int32)), (.int (0 : Int32)), (.int (0 : Int32))] (.int (0 : Int32)) := Arv.set Ar11 q11 S11 M11 H11 G11 (fits_nar_char _) W11 8 rfl (Nat.le_of_ble_eq_true rfl)
    have N11 := Fr.snoc X11 N10 g_b2
    refine own_step st11 ?_
    show own_Go _ _ _ _ T11 (mkF mm_ 63 #[.val (.int p1), .val (.int ((p1 &&& (2147483647 : Int32)) % (3 : Int32))), .unset, .unset, .unset, .unset] [(.ref b2)])
    refine own_step (fun t_ k_ => XS.dup X11.here hx rfl (hb hby at_63) rfl rfl (XS.bipush X11.here hx rfl (hb hby at_64) (XS.bipush X11.here hx rfl (hb hby at_66) k_))) ?_
    show own_Go _ _ _ _ T11 (mkF mm_ 68 #[.val (.int p1), .val (.int ((p1 &&& (2147483647 : Int32)) % (3 : Int32))), .unset, .unset, .unset, .unset] [(.int (101 : Int32)), (.int (9 : Int32)), (.ref b2), (.ref b2)])
    obtain ⟨cl12, Ar12, q12, S12, M12, H12, G12⟩ := id V11
    have hin12 : ¬ ((9 : Int32) < 0 ∨ cl12.slots.size ≤ ((9 : Int32)).toNatClampNeg) := inb_of S12 ⟨by decide, by decide⟩
    obtain ⟨T12, h12, X12, e12, W12, st12⟩ := stC X11 hx hZ e11 Ar12 (j := (9 : Int32)) hin12 (g := (mkF mm_ 68 #[.val (.int p1), .val (.int ((p1 &&& (2147483647 : Int32)) % (3 : Int32))), .unset, .unset, .unset, .unset] [(.int (101 : Int32)), (.int (9 : Int32)), (.ref b2), (.ref b2)])) rfl rfl (hb hby at_68)
    have V12 : Arv Z h12 b2 k2 .char (15 : Int32) [(.int (110 : Int32)), (.int (111 : Int32)), (.int (110 : Int32)), (.int (45 : Int32)), (.int (116 : Int32)), (.int (101 : Int32)), (.int (108 : Int32)), (.int (101 : Int32)), (.int (109 : Int32)), (.int (101 : Int32)), (.int (0 : Int32)), (.int (0 : Int32)), (.int (0 : Int32)), (.int (0 : Int32)), (.int (0 : Int32))] (.int (0 : Int32)) := Arv.set Ar12 q12 S12 M12 H12 G12 (fits_nar_char _) W12 9 rfl (Nat.le_of_ble_eq_true rfl)
    have N12 := Fr.snoc X12 N11 g_b2
    refine own_step st12 ?_
    show own_Go _ _ _ _ T12 (mkF mm_ 69 #[.val (.int p1), .val (.int ((p1 &&& (2147483647 : Int32)) % (3 : Int32))), .unset, .unset, .unset, .unset] [(.ref b2)])
    refine own_step (fun t_ k_ => XS.dup X12.here hx rfl (hb hby at_69) rfl rfl (XS.bipush X12.here hx rfl (hb hby at_70) (XS.bipush X12.here hx rfl (hb hby at_72) k_))) ?_
    show own_Go _ _ _ _ T12 (mkF mm_ 74 #[.val (.int p1), .val (.int ((p1 &&& (2147483647 : Int32)) % (3 : Int32))), .unset, .unset, .unset, .unset] [(.int (116 : Int32)), (.int (10 : Int32)), (.ref b2), (.ref b2)])
    obtain ⟨cl13, Ar13, q13, S13, M13, H13, G13⟩ := id V12
    have hin13 : ¬ ((10 : Int32) < 0 ∨ cl13.slots.size ≤ ((10 : Int32)).toNatClampNeg) := inb_of S13 ⟨by decide, by decide⟩
    obtain ⟨T13, h13, X13, e13, W13, st13⟩ := stC X12 hx hZ e12 Ar13 (j := (10 : Int32)) hin13 (g := (mkF mm_ 74 #[.val (.int p1), .val (.int ((p1 &&& (2147483647 : Int32)) % (3 : Int32))), .unset, .unset, .unset, .unset] [(.int (116 : Int32)), (.int (10 : Int32)), (.ref b2), (.ref b2)])) rfl rfl (hb hby at_74)
    have V13 : Arv Z h13 b2 k2 .char (15 : Int32) [(.int (110 : Int32)), (.int (111 : Int32)), (.int (110 : Int32)), (.int (45 : Int32)), (.int (116 : Int32)), (.int (101 : Int32)), (.int (108 : Int32)), (.int (101 : Int32)), (.int (109 : Int32)), (.int (101 : Int32)), (.int (116 : Int32)), (.int (0 : Int32)), (.int (0 : Int32)), (.int (0 : Int32)), (.int (0 : Int32))] (.int (0 : Int32)) := Arv.set Ar13 q13 S13 M13 H13 G13 (fits_nar_char _) W13 10 rfl (Nat.le_of_ble_eq_true rfl)
    have N13 := Fr.snoc X13 N12 g_b2
    refine own_step st13 ?_
    show own_Go _ _ _ _ T13 (mkF mm_ 75 #[.val (.int p1), .val (.int ((p1 &&& (2147483647 : Int32)) % (3 : Int32))), .unset, .unset, .unset, .unset] [(.ref b2)])
    refine own_step (fun t_ k_ => XS.dup X13.here hx rfl (hb hby at_75) rfl rfl (XS.bipush X13.here hx rfl (hb hby at_76) (XS.bipush X13.here hx rfl (hb hby at_78) k_))) ?_
    show own_Go _ _ _ _ T13 (mkF mm_ 80 #[.val (.int p1), .val (.int ((p1 &&& (2147483647 : Int32)) % (3 : Int32))), .unset, .unset, .unset, .unset] [(.int (101 : Int32)), (.int (11 : Int32)), (.ref b2), (.ref b2)])
    obtain ⟨cl14, Ar14, q14, S14, M14, H14, G14⟩ := id V13
    have hin14 : ¬ ((11 : Int32) < 0 ∨ cl14.slots.size ≤ ((11 : Int32)).toNatClampNeg) := inb_of S14 ⟨by decide, by decide⟩
    obtain ⟨T14, h14, X14, e14, W14, st14⟩ := stC X13 hx hZ e13 Ar14 (j := (11 : Int32)) hin14 (g := (mkF mm_ 80 #[.val (.int p1), .val (.int ((p1 &&& (2147483647 : Int32)) % (3 : Int32))), .unset, .unset, .unset, .unset] [(.int (101 : Int32)), (.int (11 : Int32)), (.ref b2), (.ref b2)])) rfl rfl (hb hby at_80)
    have V14 : Arv Z h14 b2 k2 .char (15 : Int32) [(.int (110 : Int32)), (.int (111 : Int32)), (.int (110 : Int32)), (.int (45 : Int32)), (.int (116 : Int32)), (.int (101 : Int32)), (.int (108 : Int32)), (.int (101 : Int32)), (.int (109 : Int32)), (.int (101 : Int32)), (.int (116 : Int32)), (.int (101 : Int32)), (.int (0 : Int32)), (.int (0 : Int32)), (.int (0 : Int32))] (.int (0 : Int32)) := Arv.set Ar14 q14 S14 M14 H14 G14 (fits_nar_char _) W14 11 rfl (Nat.le_of_ble_eq_true rfl)
    have N14 := Fr.snoc X14 N13 g_b2
    refine own_step st14 ?_
    show own_Go _ _ _ _ T14 (mkF mm_ 81 #[.val (.int p1), .val (.int ((p1 &&& (2147483647 : Int32)) % (3 : Int32))), .unset, .unset, .unset, .unset] [(.ref b2)])
    refine own_step (fun t_ k_ => XS.dup X14.here hx rfl (hb hby at_81) rfl rfl (XS.bipush X14.here hx rfl (hb hby at_82) (XS.bipush X14.here hx rfl (hb hby at_84) k_))) ?_
    show own_Go _ _ _ _ T14 (mkF mm_ 86 #[.val (.int p1), .val (.int ((p1 &&& (2147483647 : Int32)) % (3 : Int32))), .unset, .unset, .unset, .unset] [(.int (114 : Int32)), (.int (12 : Int32)), (.ref b2), (.ref b2)])
    obtain ⟨cl15, Ar15, q15, S15, M15, H15, G15⟩ := id V14
    have hin15 : ¬ ((12 : Int32) < 0 ∨ cl15.slots.size ≤ ((12 : Int32)).toNatClampNeg) := inb_of S15 ⟨by decide, by decide⟩
    obtain ⟨T15, h15, X15, e15, W15, st15⟩ := stC X14 hx hZ e14 Ar15 (j := (12 : Int32)) hin15 (g := (mkF mm_ 86 #[.val (.int p1), .val (.int ((p1 &&& (2147483647 : Int32)) % (3 : Int32))), .unset, .unset, .unset, .unset] [(.int (114 : Int32)), (.int (12 : Int32)), (.ref b2), (.ref b2)])) rfl rfl (hb hby at_86)
    have V15 : Arv Z h15 b2 k2 .char (15 : Int32) [(.int (110 : Int32)), (.int (111 : Int32)), (.int (110 : Int32)), (.int (45 : Int32)), (.int (116 : Int32)), (.int (101 : Int32)), (.int (108 : Int32)), (.int (101 : Int32)), (.int (109 : Int32)), (.int (101 : Int32)), (.int (116 : Int32)), (.int (101 : Int32)), (.int (114 : Int32)), (.int (0 : Int32)), (.int (0 : Int32))] (.int (0 : Int32)) := Arv.set Ar15 q15 S15 M15 H15 G15 (fits_nar_char _) W15 12 rfl (Nat.le_of_ble_eq_true rfl)
    have N15 := Fr.snoc X15 N14 g_b2
    refine own_step st15 ?_
    show own_Go _ _ _ _ T15 (mkF mm_ 87 #[.val (.int p1), .val (.int ((p1 &&& (2147483647 : Int32)) % (3 : Int32))), .unset, .unset, .unset, .unset] [(.ref b2)])
    refine own_step (fun t_ k_ => XS.dup X15.here hx rfl (hb hby at_87) rfl rfl (XS.bipush X15.here hx rfl (hb hby at_88) (XS.bipush X15.here hx rfl (hb hby at_90) k_))) ?_
    show own_Go _ _ _ _ T15 (mkF mm_ 92 #[.val (.int p1), .val (.int ((p1 &&& (2147483647 : Int32)) % (3 : Int32))), .unset, .unset, .unset, .unset] [(.int (101 : Int32)), (.int (13 : Int32)), (.ref b2), (.ref b2)])
    obtain ⟨cl16, Ar16, q16, S16, M16, H16, G16⟩ := id V15
    have hin16 : ¬ ((13 : Int32) < 0 ∨ cl16.slots.size ≤ ((13 : Int32)).toNatClampNeg) := inb_of S16 ⟨by decide, by decide⟩
    obtain ⟨T16, h16, X16, e16, W16, st16⟩ := stC X15 hx hZ e15 Ar16 (j := (13 : Int32)) hin16 (g := (mkF mm_ 92 #[.val (.int p1), .val (.int ((p1 &&& (2147483647 : Int32)) % (3 : Int32))), .unset, .unset, .unset, .unset] [(.int (101 : Int32)), (.int (13 : Int32)), (.ref b2), (.ref b2)])) rfl rfl (hb hby at_92)
    have V16 : Arv Z h16 b2 k2 .char (15 : Int32) [(.int (110 : Int32)), (.int (111 : Int32)), (.int (110 : Int32)), (.int (45 : Int32)), (.int (116 : Int32)), (.int (101 : Int32)), (.int (108 : Int32)), (.int (101 : Int32)), (.int (109 : Int32)), (.int (101 : Int32)), (.int (116 : Int32)), (.int (101 : Int32)), (.int (114 : Int32)), (.int (101 : Int32)), (.int (0 : Int32))] (.int (0 : Int32)) := Arv.set Ar16 q16 S16 M16 H16 G16 (fits_nar_char _) W16 13 rfl (Nat.le_of_ble_eq_true rfl)
    have N16 := Fr.snoc X16 N15 g_b2
    refine own_step st16 ?_
    show own_Go _ _ _ _ T16 (mkF mm_ 93 #[.val (.int p1), .val (.int ((p1 &&& (2147483647 : Int32)) % (3 : Int32))), .unset, .unset, .unset, .unset] [(.ref b2)])
    refine own_step (fun t_ k_ => XS.dup X16.here hx rfl (hb hby at_93) rfl rfl (XS.bipush X16.here hx rfl (hb hby at_94) (XS.bipush X16.here hx rfl (hb hby at_96) k_))) ?_
    show own_Go _ _ _ _ T16 (mkF mm_ 98 #[.val (.int p1), .val (.int ((p1 &&& (2147483647 : Int32)) % (3 : Int32))), .unset, .unset, .unset, .unset] [(.int (100 : Int32)), (.int (14 : Int32)), (.ref b2), (.ref b2)])
    obtain ⟨cl17, Ar17, q17, S17, M17, H17, G17⟩ := id V16
    have hin17 : ¬ ((14 : Int32) < 0 ∨ cl17.slots.size ≤ ((14 : Int32)).toNatClampNeg) := inb_of S17 ⟨by decide, by decide⟩
    obtain ⟨T17, h17, X17, e17, W17, st17⟩ := stC X16 hx hZ e16 Ar17 (j := (14 : Int32)) hin17 (g := (mkF mm_ 98 #[.val (.int p1), .val (.int ((p1 &&& (2147483647 : Int32)) % (3 : Int32))), .unset, .unset, .unset, .unset] [(.int (100 : Int32)), (.int (14 : Int32)), (.ref b2), (.ref b2)])) rfl rfl (hb hby at_98)
    have V17 : Arv Z h17 b2 k2 .char (15 : Int32) [(.int (110 : Int32)), (.int (111 : Int32)), (.int (110 : Int32)), (.int (45 : Int32)), (.int (116 : Int32)), (.int (101 : Int32)), (.int (108 : Int32)), (.int (101 : Int32)), (.int (109 : Int32)), (.int (101 : Int32)), (.int (116 : Int32)), (.int (101 : Int32)), (.int (114 : Int32)), (.int (101 : Int32)), (.int (100 : Int32))] (.int (0 : Int32)) := Arv.set Ar17 q17 S17 M17 H17 G17 (fits_nar_char _) W17 14 rfl (Nat.le_of_ble_eq_true rfl)
    have N17 := Fr.snoc X17 N16 g_b2
    refine own_step st17 ?_
    show own_Go _ _ _ _ T17 (mkF mm_ 99 #[.val (.int p1), .val (.int ((p1 &&& (2147483647 : Int32)) % (3 : Int32))), .unset, .unset, .unset, .unset] [(.ref b2)])
    refine own_step (fun t_ k_ => XS.astoreN X17.here hx rfl (hb hby at_99) rfl rfl (l' := #[.val (.int p1), .val (.int ((p1 &&& (2147483647 : Int32)) % (3 : Int32))), .val (.ref b2), .unset, .unset, .unset]) rfl k_) ?_
    show own_Go _ _ _ _ T17 (mkF mm_ 100 #[.val (.int p1), .val (.int ((p1 &&& (2147483647 : Int32)) % (3 : Int32))), .val (.ref b2), .unset, .unset, .unset] [])
    have O18 : Old Z n0 h17 := ((((((((((((((((O0.ext E2).wr W3 g_b2).wr W4 g_b2).wr W5 g_b2).wr W6 g_b2).wr W7 g_b2).wr W8 g_b2).wr W9 g_b2).wr W10 g_b2).wr W11 g_b2).wr W12 g_b2).wr W13 g_b2).wr W14 g_b2).wr W15 g_b2).wr W16 g_b2).wr W17 g_b2)
    obtain ⟨T19, X19, e19, st19⟩ := getS2 X17 hx hZ hown (host := "") (Or.inl (own_w hw 2 rfl)) Via.refl e17 (G_S1.ext O18.2) (g := (mkF mm_ 100 #[.val (.int p1), .val (.int ((p1 &&& (2147483647 : Int32)) % (3 : Int32))), .val (.ref b2), .unset, .unset, .unset] [])) rfl (hb hby at_100)
    refine own_step st19 ?_
    show own_Go _ _ _ _ T19 (mkF mm_ 103 #[.val (.int p1), .val (.int ((p1 &&& (2147483647 : Int32)) % (3 : Int32))), .val (.ref b2), .unset, .unset, .unset] [(.ref w_0)])
    refine own_step (fun t_ k_ => XS.astoreN X19.here hx rfl (hb hby at_103) rfl rfl (l' := #[.val (.int p1), .val (.int ((p1 &&& (2147483647 : Int32)) % (3 : Int32))), .val (.ref b2), .val (.ref w_0), .unset, .unset]) rfl (XS.goto X19.here hx rfl (pc0 := 104) (pc' := 207) rfl (hb hby at_104) (by decide) (by decide) k_)) ?_
    show own_Go _ _ _ _ T19 (mkF mm_ 207 #[.val (.int p1), .val (.int ((p1 &&& (2147483647 : Int32)) % (3 : Int32))), .val (.ref b2), .val (.ref w_0), .unset, .unset] [])
    obtain ⟨T20, h20, X20, e20, E20, A20, D20, -, st20⟩ := newO X19 hx hZ hown (own_w hw 5 rfl) (own_w hw 6 rfl) (own_w hw 7 rfl) e19 (g := (mkF mm_ 207 #[.val (.int p1), .val (.int ((p1 &&& (2147483647 : Int32)) % (3 : Int32))), .val (.ref b2), .val (.ref w_0), .unset, .unset] [])) rfl (hb hby at_207) (by decide) (by decide)
    obtain ⟨b20, q20⟩ : ∃ z, z = h17.size := ⟨_, rfl⟩
    rw [← q20] at A20 D20 st20
    have K21 : Keep h0 h17 [] := ((((((((((((((((K0.ext E2).wr W3 (Or.inr lo_b2)).wr W4 (Or.inr lo_b2)).wr W5 (Or.inr lo_b2)).wr W6 (Or.inr lo_b2)).wr W7 (Or.inr lo_b2)).wr W8 (Or.inr lo_b2)).wr W9 (Or.inr lo_b2)).wr W10 (Or.inr lo_b2)).wr W11 (Or.inr lo_b2)).wr W12 (Or.inr lo_b2)).wr W13 (Or.inr lo_b2)).wr W14 (Or.inr lo_b2)).wr W15 (Or.inr lo_b2)).wr W16 (Or.inr lo_b2)).wr W17 (Or.inr lo_b2))
    have lo_b20 : h0.size ≤ b20 := Nat.le_trans K21.1 (Nat.le_of_eq q20.symm)
    have g_b20 : n0 ≤ b20 := Nat.le_trans Z0 lo_b20
    refine own_step st20 ?_
    have F20_coder : Fld Z h20 b20 "java/lang/String" "coder" "B" (.int (0 : Int32)) := D20 (Or.inr (own_w hw 31 rfl)) (ty := .byte) (by decide)
    have F20_value : Fld Z h20 b20 "java/lang/String" "value" "[B" .null := D20 (Or.inr (own_w hw 33 rfl)) (ty := (.array .byte)) (by decide)
    show own_Go _ _ _ _ T20 (mkF mm_ 210 #[.val (.int p1), .val (.int ((p1 &&& (2147483647 : Int32)) % (3 : Int32))), .val (.ref b2), .val (.ref w_0), .unset, .unset] [(.ref b20)])
    refine own_step (fun t_ k_ => XS.dup X20.here hx rfl (hb hby at_210) rfl rfl (XS.aloadN X20.here hx rfl (hb hby at_211) rfl rfl k_)) ?_
    show own_Go _ _ _ _ T20 (mkF mm_ 212 #[.val (.int p1), .val (.int ((p1 &&& (2147483647 : Int32)) % (3 : Int32))), .val (.ref b2), .val (.ref w_0), .unset, .unset] [(.ref b2), (.ref b20), (.ref b20)])
    have hp23 : ∀ c ∈ ([(110 : Int32), (111 : Int32), (110 : Int32), (45 : Int32), (116 : Int32), (101 : Int32), (108 : Int32), (101 : Int32), (109 : Int32), (101 : Int32), (116 : Int32), (101 : Int32), (114 : Int32), (101 : Int32), (100 : Int32)] : List Int32), ¬ c < 0 ∧ ¬ (255 : Int32) < c := by
      intro c hc
      simp only [List.mem_cons, List.not_mem_nil, or_false] at hc
      rcases hc with rfl | rfl | rfl | rfl | rfl | rfl | rfl | rfl | rfl | rfl | rfl | rfl | rfl | rfl | rfl
      · exact ⟨by decide, by decide⟩
      · exact ⟨by decide, by decide⟩
      · exact ⟨by decide, by decide⟩
      · exact ⟨by decide, by decide⟩
      · exact ⟨by decide, by decide⟩
      · exact ⟨by decide, by decide⟩
      · exact ⟨by decide, by decide⟩
      · exact ⟨by decide, by decide⟩
      · exact ⟨by decide, by decide⟩
      · exact ⟨by decide, by decide⟩
      · exact ⟨by decide, by decide⟩
      · exact ⟨by decide, by decide⟩
      · exact ⟨by decide, by decide⟩
      · exact ⟨by decide, by decide⟩
      · exact ⟨by decide, by decide⟩
    have f24 : Arv Z h20 b2 k2 .char (15 : Int32) [(.int (110 : Int32)), (.int (111 : Int32)), (.int (110 : Int32)), (.int (45 : Int32)), (.int (116 : Int32)), (.int (101 : Int32)), (.int (108 : Int32)), (.int (101 : Int32)), (.int (109 : Int32)), (.int (101 : Int32)), (.int (116 : Int32)), (.int (101 : Int32)), (.int (114 : Int32)), (.int (101 : Int32)), (.int (100 : Int32))] (.int (0 : Int32)) := (V17.ext E20)
    have O25 : Old Z n0 h20 := (O18.ext E20)
    have K26 : Keep h0 h20 [] := (K21.ext E20)
    obtain ⟨_, T22, Lc22, X22, hQ22, st22⟩ := own_cI X20 hx hZ rfl hown (own_w hw 8 rfl) (own_w hw 9 rfl) (own_w hw 10 rfl) (by decide) (own_newS (W := 1) hZ hw (cs := [(110 : Int32), (111 : Int32), (110 : Int32), (45 : Int32), (116 : Int32), (101 : Int32), (108 : Int32), (101 : Int32), (109 : Int32), (101 : Int32), (116 : Int32), (101 : Int32), (114 : Int32), (101 : Int32), (100 : Int32)]) (n := 15) g_b20 (Nat.le_trans Z0 K26.1) A20 F20_value F20_coder f24 (G_cs.ext O25.2) G_cs0 rfl rfl rfl (by decide) (by decide) hp23 (by decide) (by decide)) (g := (mkF mm_ 212 #[.val (.int p1), .val (.int ((p1 &&& (2147483647 : Int32)) % (3 : Int32))), .val (.ref b2), .val (.ref w_0), .unset, .unset] [(.ref b2), (.ref b20), (.ref b20)])) rfl (by rw [hml]; rfl) (a := b20) (argsL := [(.ref b2)]) (rest := [(.ref b20)]) (lenOf pd_2 rfl) rfl (by show 2 * 0 + _ ≤ _; exact Nat.le_of_eq rfl) (hb hby at_212) rfl e20 (by decide) (by decide)
    obtain ⟨t22, rfl, Nq22, Kc22, lo22, Fs22⟩ := hQ22
    have N22 := Fr.app N17 Nq22
    have lo_t22 : h0.size ≤ t22 := Nat.le_trans K26.1 lo22
    have g_t22 : n0 ≤ t22 := Nat.le_trans Z0 lo_t22
    refine own_jump st22 ?_
    show own_Go _ _ _ _ T22 (mkF mm_ 215 #[.val (.int p1), .val (.int ((p1 &&& (2147483647 : Int32)) % (3 : Int32))), .val (.ref b2), .val (.ref w_0), .unset, .unset] [(.ref b20)])
    refine own_step (fun t_ k_ => XS.astore X22.here hx rfl (hb hby at_215) rfl rfl (l' := #[.val (.int p1), .val (.int ((p1 &&& (2147483647 : Int32)) % (3 : Int32))), .val (.ref b2), .val (.ref w_0), .val (.ref b20), .unset]) rfl (XS.aload X22.here hx rfl (hb hby at_217) rfl rfl k_)) ?_
    show own_Go _ _ _ _ T22 (mkF mm_ 219 #[.val (.int p1), .val (.int ((p1 &&& (2147483647 : Int32)) % (3 : Int32))), .val (.ref b2), .val (.ref w_0), .val (.ref b20), .unset] [(.ref b20)])
    have O28 : Old Z n0 T22.heap := (O25.keep Kc22 (allS g_b20 all0))
    obtain ⟨_, T27, Lc27, X27, hQ27, st27⟩ := own_cS X22 hx hZ hown (own_w hw 34 rfl) (own_w hw 35 rfl) (own_w hw 3 rfl) (own_w hw 36 rfl) (by decide) (backOf (W := 0) (rmO0 l Z a0 hw [] b20 t22 T22.heap n0 O28 G_ Fs22) hZ (own_w hw 36 rfl) (own_w hw 3 rfl) (by decide) (by decide)) (g := (mkF mm_ 219 #[.val (.int p1), .val (.int ((p1 &&& (2147483647 : Int32)) % (3 : Int32))), .val (.ref b2), .val (.ref w_0), .val (.ref b20), .unset] [(.ref b20)])) rfl (by rw [hml]; rfl) (argsL := [(.ref b20)]) (rest := []) (lenOf pd_3 rfl) rfl (by show 2 * 0 + _ ≤ _; exact Nat.le_of_eq rfl) (hb hby at_219) rfl rfl (by decide) (by decide)
    obtain ⟨rfl, Nq27, Kc27⟩ := hQ27
    have N27 := Fr.app N22 Nq27
    refine own_jump st27 ?_
    show own_Go _ _ _ _ T27 (mkF mm_ 222 #[.val (.int p1), .val (.int ((p1 &&& (2147483647 : Int32)) % (3 : Int32))), .val (.ref b2), .val (.ref w_0), .val (.ref b20), .unset] [(.ref w_0)])
    refine own_step (fun t_ k_ => XS.astore X27.here hx rfl (hb hby at_222) rfl rfl (l' := #[.val (.int p1), .val (.int ((p1 &&& (2147483647 : Int32)) % (3 : Int32))), .val (.ref b2), .val (.ref w_0), .val (.ref b20), .val (.ref w_0)]) rfl (XS.aload X27.here hx rfl (hb hby at_224) rfl rfl (XS.aloadN X27.here hx rfl (hb hby at_226) rfl rfl k_))) ?_
    show own_Go _ _ _ _ T27 (mkF mm_ 227 #[.val (.int p1), .val (.int ((p1 &&& (2147483647 : Int32)) % (3 : Int32))), .val (.ref b2), .val (.ref w_0), .val (.ref b20), .val (.ref w_0)] [(.ref w_0), (.ref w_0)])
    refine own_step (fun t_ k_ => Jvm.RoadKit.acmp (g := (mkF mm_ 227 #[.val (.int p1), .val (.int ((p1 &&& (2147483647 : Int32)) % (3 : Int32))), .val (.ref b2), .val (.ref w_0), .val (.ref b20), .val (.ref w_0)] [(.ref w_0), (.ref w_0)])) X27 hx rfl rfl rfl (pc0 := 227) (pc' := 230) (same := true) rfl (hb hby at_227) rfl (decide_eq_true rfl) (by decide) (by decide) (XS.aload X27.here hx rfl (hb hby at_230) rfl rfl k_)) ?_
    show own_Go _ _ _ _ T27 (mkF mm_ 232 #[.val (.int p1), .val (.int ((p1 &&& (2147483647 : Int32)) % (3 : Int32))), .val (.ref b2), .val (.ref w_0), .val (.ref b20), .val (.ref w_0)] [(.ref w_0)])
    have O30 : Old Z n0 T27.heap := (O28.keep Kc27 all0)
    obtain ⟨_, T29, Lc29, X29, hQ29, st29⟩ := own_cV X27 hx hZ hown (own_w hw 66 rfl) (own_w hw 67 rfl) (notFace_of_selects (args := #[]) (mvT hZ (own_w hw 69 rfl))) (own_w hw 69 rfl) (own_w hw 68 rfl) (by decide) (backOf (W := 0) (rmG l Z a0 hw [] w_0 s_0 T27.heap n0 O30 (G_F10.ext O30.2)) hZ (own_w hw 70 rfl) (own_w hw 3 rfl) (by decide) (by decide)) (G_E5.ext O30.2) (g := (mkF mm_ 232 #[.val (.int p1), .val (.int ((p1 &&& (2147483647 : Int32)) % (3 : Int32))), .val (.ref b2), .val (.ref w_0), .val (.ref b20), .val (.ref w_0)] [(.ref w_0)])) rfl (by rw [hml]; rfl) (argsL := []) (rest := []) (lenOf pd_4 rfl) rfl (by show 2 * 0 + _ ≤ _; exact Nat.le_of_eq rfl) (hb hby at_232) rfl rfl (by decide) (by decide)
    obtain ⟨rfl, rfl, Eh29⟩ := hQ29
    have N29 := Fr.app N27 (Fr.nil n0)
    refine own_jump st29 ?_
    show own_Go _ _ _ _ T29 (mkF mm_ 235 #[.val (.int p1), .val (.int ((p1 &&& (2147483647 : Int32)) % (3 : Int32))), .val (.ref b2), .val (.ref w_0), .val (.ref b20), .val (.ref w_0)] [(.ref s_0)])
    refine own_step (fun t_ k_ => XS.aload X29.here hx rfl (hb hby at_235) rfl rfl k_) ?_
    show own_Go _ _ _ _ T29 (mkF mm_ 237 #[.val (.int p1), .val (.int ((p1 &&& (2147483647 : Int32)) % (3 : Int32))), .val (.ref b2), .val (.ref w_0), .val (.ref b20), .val (.ref w_0)] [(.ref b20), (.ref s_0)])
    have f32 : own_Str Z T27.heap b20 t22 [(110 : Int32), (111 : Int32), (110 : Int32), (45 : Int32), (116 : Int32), (101 : Int32), (108 : Int32), (101 : Int32), (109 : Int32), (101 : Int32), (116 : Int32), (101 : Int32), (114 : Int32), (101 : Int32), (100 : Int32)] := (Fs22.keep Kc27 nin0 nin0)
    obtain ⟨_, T31, Lc31, X31, hQ31, st31⟩ := own_cV X29 hx hZ hown (own_w hw 71 rfl) (own_w hw 57 rfl) (notFace_of_selects (args := #[]) (mvT hZ (own_w hw 59 rfl))) (own_w hw 59 rfl) (own_w hw 58 rfl) (by decide) (own_eqS (W := 0) hZ hw (G_T11.ext O30.2) f32 (G_cs.ext O30.2) G_cs0 (by decide) (by decide)) (G_T11.ext O30.2).1 (g := (mkF mm_ 237 #[.val (.int p1), .val (.int ((p1 &&& (2147483647 : Int32)) % (3 : Int32))), .val (.ref b2), .val (.ref w_0), .val (.ref b20), .val (.ref w_0)] [(.ref b20), (.ref s_0)])) rfl (by rw [hml]; rfl) (argsL := [(.ref b20)]) (rest := []) (lenOf pd_1 rfl) rfl (by show 2 * 0 + _ ≤ _; exact Nat.le_of_eq rfl) (hb hby at_237) rfl Eh29 (by decide) (by decide)
    obtain ⟨⟨rfl, -⟩ | ⟨-, hq31⟩, rfl, Eh31⟩ := hQ31
    rotate_left
    · exact absurd rfl hq31
    have N31 := Fr.app N29 (Fr.nil n0)
    refine own_jump st31 ?_
    show own_Go _ _ _ _ T31 (mkF mm_ 240 #[.val (.int p1), .val (.int ((p1 &&& (2147483647 : Int32)) % (3 : Int32))), .val (.ref b2), .val (.ref w_0), .val (.ref b20), .val (.ref w_0)] [(.int (1 : Int32))])
    refine own_step (fun t_ k_ => XS.ifNo X31.here hx rfl (hb hby at_240) rfl ((if0 _ _).trans (feq (by decide : ¬ ((1 : Int32) = (0 : Int32)))).1) k_) ?_
    show own_Go _ _ _ _ T31 (mkF mm_ 243 #[.val (.int p1), .val (.int ((p1 &&& (2147483647 : Int32)) % (3 : Int32))), .val (.ref b2), .val (.ref w_0), .val (.ref b20), .val (.ref w_0)] [])
    refine own_step (fun t_ k_ => XS.iconst X31.here hx rfl (hb hby at_243) (XS.goto X31.here hx rfl (pc0 := 244) (pc' := 248) rfl (hb hby at_244) (by decide) (by decide) k_)) ?_
    show own_Go _ _ _ _ T31 (mkF mm_ 248 #[.val (.int p1), .val (.int ((p1 &&& (2147483647 : Int32)) % (3 : Int32))), .val (.ref b2), .val (.ref w_0), .val (.ref b20), .val (.ref w_0)] [(.int (1 : Int32))])
    have K33 : Keep h0 T27.heap [] := ((K26.trans Kc22 (allS (Or.inr lo_b20) all0)).trans Kc27 all0)
    obtain ⟨fs, hr, hrun, hended, hW, hsame⟩ := X31.leave (v := some (.int (1 : Int32))) (fun h => by rw [Bd.returns] at h; cases h)
    refine ⟨_, _, ?_, hrun, hended, _, _, rfl, ?_, ⟨_, rfl⟩, hW, hsame.mono (by decide) (by decide)⟩
    · exact retN X31 hx (t := .boolean) Bd.returns (by simp) (hb hby at_248) hr
    · show Qrm0 Z p1 h0 n0 (some (.int (1 : Int32))) T31.heap _
      rw [Eh31]
      exact ⟨rfl, N31, K33⟩
  · skip
    refine own_step (fun t_ k_ => XS.ifYes X0.here hx rfl (pc0 := 8) (pc' := 107) rfl (hb hby at_8) rfl ((if0 _ _).trans (feq hc8_1).2) (by decide) (by decide) k_) ?_
    show own_Go _ _ _ _ s₁ (mkF mm_ 107 #[.val (.int p1), .val (.int ((p1 &&& (2147483647 : Int32)) % (3 : Int32))), .unset, .unset, .unset, .unset] [])
    refine own_step (fun t_ k_ => XS.iloadN X0.here hx rfl (hb hby at_107) rfl  (XS.iconst X0.here hx rfl (hb hby at_108) k_)) ?_
    show own_Go _ _ _ _ s₁ (mkF mm_ 109 #[.val (.int p1), .val (.int ((p1 &&& (2147483647 : Int32)) % (3 : Int32))), .unset, .unset, .unset, .unset] [(.int (1 : Int32)), (.int ((p1 &&& (2147483647 : Int32)) % (3 : Int32)))])
    by_cases hc109_34 : ((p1 &&& (2147483647 : Int32)) % (3 : Int32)) = (1 : Int32)
    · skip
      refine own_step (fun t_ k_ => XS.icmpNo X0.here hx rfl (hb hby at_109) rfl (teq hc109_34).2 k_) ?_
      show own_Go _ _ _ _ s₁ (mkF mm_ 112 #[.val (.int p1), .val (.int ((p1 &&& (2147483647 : Int32)) % (3 : Int32))), .unset, .unset, .unset, .unset] [])
      refine own_step (fun t_ k_ => XS.bipush X0.here hx rfl (hb hby at_112) k_) ?_
      show own_Go _ _ _ _ s₁ (mkF mm_ 114 #[.val (.int p1), .val (.int ((p1 &&& (2147483647 : Int32)) % (3 : Int32))), .unset, .unset, .unset, .unset] [(.int (11 : Int32))])
      obtain ⟨T35, h35, k35, X35, e35, E35, A35, st35⟩ := newP X0 hx hZ (own_w hw 1 rfl) e0 (g := (mkF mm_ 114 #[.val (.int p1), .val (.int ((p1 &&& (2147483647 : Int32)) % (3 : Int32))), .unset, .unset, .unset, .unset] [(.int (11 : Int32))])) rfl (hb hby at_114) rfl (by decide) (cap := 11) (by decide) (by decide) (by decide) (by decide)
      obtain ⟨b35, q35⟩ : ∃ z, z = h0.size := ⟨_, rfl⟩
      rw [← q35] at A35 st35
      have lo_b35 : h0.size ≤ b35 := Nat.le_trans K0.1 (Nat.le_of_eq q35.symm)
      have g_b35 : n0 ≤ b35 := Nat.le_trans Z0 lo_b35
      refine own_step st35 ?_
      have V35 : Arv Z h35 b35 k35 .char (11 : Int32) [(.int (0 : Int32)), (.int (0 : Int32)), (.int (0 : Int32)), (.int (0 : Int32)), (.int (0 : Int32)), (.int (0 : Int32)), (.int (0 : Int32)), (.int (0 : Int32)), (.int (0 : Int32)), (.int (0 : Int32)), (.int (0 : Int32))] (.int (0 : Int32)) := (Arv.new A35 (by decide)).pad (pad_rep [] (.int (0 : Int32)) 11)
      show own_Go _ _ _ _ T35 (mkF mm_ 116 #[.val (.int p1), .val (.int ((p1 &&& (2147483647 : Int32)) % (3 : Int32))), .unset, .unset, .unset, .unset] [(.ref b35)])
      refine own_step (fun t_ k_ => XS.dup X35.here hx rfl (hb hby at_116) rfl rfl (XS.iconst X35.here hx rfl (hb hby at_117) (XS.bipush X35.here hx rfl (hb hby at_118) k_))) ?_
      show own_Go _ _ _ _ T35 (mkF mm_ 120 #[.val (.int p1), .val (.int ((p1 &&& (2147483647 : Int32)) % (3 : Int32))), .unset, .unset, .unset, .unset] [(.int (116 : Int32)), (.int (0 : Int32)), (.ref b35), (.ref b35)])
      obtain ⟨cl36, Ar36, q36, S36, M36, H36, G36⟩ := id V35
      have hin36 : ¬ ((0 : Int32) < 0 ∨ cl36.slots.size ≤ ((0 : Int32)).toNatClampNeg) := inb_of S36 ⟨by decide, by decide⟩
      obtain ⟨T36, h36, X36, e36, W36, st36⟩ := stC X35 hx hZ e35 Ar36 (j := (0 : Int32)) hin36 (g := (mkF mm_ 120 #[.val (.int p1), .val (.int ((p1 &&& (2147483647 : Int32)) % (3 : Int32))), .unset, .unset, .unset, .unset] [(.int (116 : Int32)), (.int (0 : Int32)), (.ref b35), (.ref b35)])) rfl rfl (hb hby at_120)
      have V36 : Arv Z h36 b35 k35 .char (11 : Int32) [(.int (116 : Int32)), (.int (0 : Int32)), (.int (0 : Int32)), (.int (0 : Int32)), (.int (0 : Int32)), (.int (0 : Int32)), (.int (0 : Int32)), (.int (0 : Int32)), (.int (0 : Int32)), (.int (0 : Int32)), (.int (0 : Int32))] (.int (0 : Int32)) := Arv.set Ar36 q36 S36 M36 H36 G36 (fits_nar_char _) W36 0 rfl (Nat.le_of_ble_eq_true rfl)
      have N36 := Fr.snoc X36 N0 g_b35
      refine own_step st36 ?_
      show own_Go _ _ _ _ T36 (mkF mm_ 121 #[.val (.int p1), .val (.int ((p1 &&& (2147483647 : Int32)) % (3 : Int32))), .unset, .unset, .unset, .unset] [(.ref b35)])
      refine own_step (fun t_ k_ => XS.dup X36.here hx rfl (hb hby at_121) rfl rfl (XS.iconst X36.here hx rfl (hb hby at_122) (XS.bipush X36.here hx rfl (hb hby at_123) k_))) ?_
      show own_Go _ _ _ _ T36 (mkF mm_ 125 #[.val (.int p1), .val (.int ((p1 &&& (2147483647 : Int32)) % (3 : Int32))), .unset, .unset, .unset, .unset] [(.int (101 : Int32)), (.int (1 : Int32)), (.ref b35), (.ref b35)])
      obtain ⟨cl37, Ar37, q37, S37, M37, H37, G37⟩ := id V36
      have hin37 : ¬ ((1 : Int32) < 0 ∨ cl37.slots.size ≤ ((1 : Int32)).toNatClampNeg) := inb_of S37 ⟨by decide, by decide⟩
      obtain ⟨T37, h37, X37, e37, W37, st37⟩ := stC X36 hx hZ e36 Ar37 (j := (1 : Int32)) hin37 (g := (mkF mm_ 125 #[.val (.int p1), .val (.int ((p1 &&& (2147483647 : Int32)) % (3 : Int32))), .unset, .unset, .unset, .unset] [(.int (101 : Int32)), (.int (1 : Int32)), (.ref b35), (.ref b35)])) rfl rfl (hb hby at_125)
      have V37 : Arv Z h37 b35 k35 .char (11 : Int32) [(.int (116 : Int32)), (.int (101 : Int32)), (.int (0 : Int32)), (.int (0 : Int32)), (.int (0 : Int32)), (.int (0 : Int32)), (.int (0 : Int32)), (.int (0 : Int32)), (.int (0 : Int32)), (.int (0 : Int32)), (.int (0 : Int32))] (.int (0 : Int32)) := Arv.set Ar37 q37 S37 M37 H37 G37 (fits_nar_char _) W37 1 rfl (Nat.le_of_ble_eq_true rfl)
      have N37 := Fr.snoc X37 N36 g_b35
      refine own_step st37 ?_
      show own_Go _ _ _ _ T37 (mkF mm_ 126 #[.val (.int p1), .val (.int ((p1 &&& (2147483647 : Int32)) % (3 : Int32))), .unset, .unset, .unset, .unset] [(.ref b35)])
      refine own_step (fun t_ k_ => XS.dup X37.here hx rfl (hb hby at_126) rfl rfl (XS.iconst X37.here hx rfl (hb hby at_127) (XS.bipush X37.here hx rfl (hb hby at_128) k_))) ?_
      show own_Go _ _ _ _ T37 (mkF mm_ 130 #[.val (.int p1), .val (.int ((p1 &&& (2147483647 : Int32)) % (3 : Int32))), .unset, .unset, .unset, .unset] [(.int (108 : Int32)), (.int (2 : Int32)), (.ref b35), (.ref b35)])
      obtain ⟨cl38, Ar38, q38, S38, M38, H38, G38⟩ := id V37
      have hin38 : ¬ ((2 : Int32) < 0 ∨ cl38.slots.size ≤ ((2 : Int32)).toNatClampNeg) := inb_of S38 ⟨by decide, by decide⟩
      obtain ⟨T38, h38, X38, e38, W38, st38⟩ := stC X37 hx hZ e37 Ar38 (j := (2 : Int32)) hin38 (g := (mkF mm_ 130 #[.val (.int p1), .val (.int ((p1 &&& (2147483647 : Int32)) % (3 : Int32))), .unset, .unset, .unset, .unset] [(.int (108 : Int32)), (.int (2 : Int32)), (.ref b35), (.ref b35)])) rfl rfl (hb hby at_130)
      have V38 : Arv Z h38 b35 k35 .char (11 : Int32) [(.int (116 : Int32)), (.int (101 : Int32)), (.int (108 : Int32)), (.int (0 : Int32)), (.int (0 : Int32)), (.int (0 : Int32)), (.int (0 : Int32)), (.int (0 : Int32)), (.int (0 : Int32)), (.int (0 : Int32)), (.int (0 : Int32))] (.int (0 : Int32)) := Arv.set Ar38 q38 S38 M38 H38 G38 (fits_nar_char _) W38 2 rfl (Nat.le_of_ble_eq_true rfl)
      have N38 := Fr.snoc X38 N37 g_b35
      refine own_step st38 ?_
      show own_Go _ _ _ _ T38 (mkF mm_ 131 #[.val (.int p1), .val (.int ((p1 &&& (2147483647 : Int32)) % (3 : Int32))), .unset, .unset, .unset, .unset] [(.ref b35)])
      refine own_step (fun t_ k_ => XS.dup X38.here hx rfl (hb hby at_131) rfl rfl (XS.iconst X38.here hx rfl (hb hby at_132) (XS.bipush X38.here hx rfl (hb hby at_133) k_))) ?_
      show own_Go _ _ _ _ T38 (mkF mm_ 135 #[.val (.int p1), .val (.int ((p1 &&& (2147483647 : Int32)) % (3 : Int32))), .unset, .unset, .unset, .unset] [(.int (101 : Int32)), (.int (3 : Int32)), (.ref b35), (.ref b35)])
      obtain ⟨cl39, Ar39, q39, S39, M39, H39, G39⟩ := id V38
      have hin39 : ¬ ((3 : Int32) < 0 ∨ cl39.slots.size ≤ ((3 : Int32)).toNatClampNeg) := inb_of S39 ⟨by decide, by decide⟩
      obtain ⟨T39, h39, X39, e39, W39, st39⟩ := stC X38 hx hZ e38 Ar39 (j := (3 : Int32)) hin39 (g := (mkF mm_ 135 #[.val (.int p1), .val (.int ((p1 &&& (2147483647 : Int32)) % (3 : Int32))), .unset, .unset, .unset, .unset] [(.int (101 : Int32)), (.int (3 : Int32)), (.ref b35), (.ref b35)])) rfl rfl (hb hby at_135)
      have V39 : Arv Z h39 b35 k35 .char (11 : Int32) [(.int (116 : Int32)), (.int (101 : Int32)), (.int (108 : Int32)), (.int (101 : Int32)), (.int (0 : Int32)), (.int (0 : Int32)), (.int (0 : Int32)), (.int (0 : Int32)), (.int (0 : Int32)), (.int (0 : Int32)), (.int (0 : Int32))] (.int (0 : Int32)) := Arv.set Ar39 q39 S39 M39 H39 G39 (fits_nar_char _) W39 3 rfl (Nat.le_of_ble_eq_true rfl)
      have N39 := Fr.snoc X39 N38 g_b35
      refine own_step st39 ?_
      show own_Go _ _ _ _ T39 (mkF mm_ 136 #[.val (.int p1), .val (.int ((p1 &&& (2147483647 : Int32)) % (3 : Int32))), .unset, .unset, .unset, .unset] [(.ref b35)])
      refine own_step (fun t_ k_ => XS.dup X39.here hx rfl (hb hby at_136) rfl rfl (XS.iconst X39.here hx rfl (hb hby at_137) (XS.bipush X39.here hx rfl (hb hby at_138) k_))) ?_
      show own_Go _ _ _ _ T39 (mkF mm_ 140 #[.val (.int p1), .val (.int ((p1 &&& (2147483647 : Int32)) % (3 : Int32))), .unset, .unset, .unset, .unset] [(.int (109 : Int32)), (.int (4 : Int32)), (.ref b35), (.ref b35)])
      obtain ⟨cl40, Ar40, q40, S40, M40, H40, G40⟩ := id V39
      have hin40 : ¬ ((4 : Int32) < 0 ∨ cl40.slots.size ≤ ((4 : Int32)).toNatClampNeg) := inb_of S40 ⟨by decide, by decide⟩
      obtain ⟨T40, h40, X40, e40, W40, st40⟩ := stC X39 hx hZ e39 Ar40 (j := (4 : Int32)) hin40 (g := (mkF mm_ 140 #[.val (.int p1), .val (.int ((p1 &&& (2147483647 : Int32)) % (3 : Int32))), .unset, .unset, .unset, .unset] [(.int (109 : Int32)), (.int (4 : Int32)), (.ref b35), (.ref b35)])) rfl rfl (hb hby at_140)
      have V40 : Arv Z h40 b35 k35 .char (11 : Int32) [(.int (116 : Int32)), (.int (101 : Int32)), (.int (108 : Int32)), (.int (101 : Int32)), (.int (109 : Int32)), (.int (0 : Int32)), (.int (0 : Int32)), (.int (0 : Int32)), (.int (0 : Int32)), (.int (0 : Int32)), (.int (0 : Int32))] (.int (0 : Int32)) := Arv.set Ar40 q40 S40 M40 H40 G40 (fits_nar_char _) W40 4 rfl (Nat.le_of_ble_eq_true rfl)
      have N40 := Fr.snoc X40 N39 g_b35
      refine own_step st40 ?_
      show own_Go _ _ _ _ T40 (mkF mm_ 141 #[.val (.int p1), .val (.int ((p1 &&& (2147483647 : Int32)) % (3 : Int32))), .unset, .unset, .unset, .unset] [(.ref b35)])
      refine own_step (fun t_ k_ => XS.dup X40.here hx rfl (hb hby at_141) rfl rfl (XS.iconst X40.here hx rfl (hb hby at_142) (XS.bipush X40.here hx rfl (hb hby at_143) k_))) ?_
      show own_Go _ _ _ _ T40 (mkF mm_ 145 #[.val (.int p1), .val (.int ((p1 &&& (2147483647 : Int32)) % (3 : Int32))), .unset, .unset, .unset, .unset] [(.int (101 : Int32)), (.int (5 : Int32)), (.ref b35), (.ref b35)])
      obtain ⟨cl41, Ar41, q41, S41, M41, H41, G41⟩ := id V40
      have hin41 : ¬ ((5 : Int32) < 0 ∨ cl41.slots.size ≤ ((5 : Int32)).toNatClampNeg) := inb_of S41 ⟨by decide, by decide⟩
      obtain ⟨T41, h41, X41, e41, W41, st41⟩ := stC X40 hx hZ e40 Ar41 (j := (5 : Int32)) hin41 (g := (mkF mm_ 145 #[.val (.int p1), .val (.int ((p1 &&& (2147483647 : Int32)) % (3 : Int32))), .unset, .unset, .unset, .unset] [(.int (101 : Int32)), (.int (5 : Int32)), (.ref b35), (.ref b35)])) rfl rfl (hb hby at_145)
      have V41 : Arv Z h41 b35 k35 .char (11 : Int32) [(.int (116 : Int32)), (.int (101 : Int32)), (.int (108 : Int32)), (.int (101 : Int32)), (.int (109 : Int32)), (.int (101 : Int32)), (.int (0 : Int32)), (.int (0 : Int32)), (.int (0 : Int32)), (.int (0 : Int32)), (.int (0 : Int32))] (.int (0 : Int32)) := Arv.set Ar41 q41 S41 M41 H41 G41 (fits_nar_char _) W41 5 rfl (Nat.le_of_ble_eq_true rfl)
      have N41 := Fr.snoc X41 N40 g_b35
      refine own_step st41 ?_
      show own_Go _ _ _ _ T41 (mkF mm_ 146 #[.val (.int p1), .val (.int ((p1 &&& (2147483647 : Int32)) % (3 : Int32))), .unset, .unset, .unset, .unset] [(.ref b35)])
      refine own_step (fun t_ k_ => XS.dup X41.here hx rfl (hb hby at_146) rfl rfl (XS.bipush X41.here hx rfl (hb hby at_147) (XS.bipush X41.here hx rfl (hb hby at_149) k_))) ?_
      show own_Go _ _ _ _ T41 (mkF mm_ 151 #[.val (.int p1), .val (.int ((p1 &&& (2147483647 : Int32)) % (3 : Int32))), .unset, .unset, .unset, .unset] [(.int (116 : Int32)), (.int (6 : Int32)), (.ref b35), (.ref b35)])
      obtain ⟨cl42, Ar42, q42, S42, M42, H42, G42⟩ := id V41
      have hin42 : ¬ ((6 : Int32) < 0 ∨ cl42.slots.size ≤ ((6 : Int32)).toNatClampNeg) := inb_of S42 ⟨by decide, by decide⟩
      obtain ⟨T42, h42, X42, e42, W42, st42⟩ := stC X41 hx hZ e41 Ar42 (j := (6 : Int32)) hin42 (g := (mkF mm_ 151 #[.val (.int p1), .val (.int ((p1 &&& (2147483647 : Int32)) % (3 : Int32))), .unset, .unset, .unset, .unset] [(.int (116 : Int32)), (.int (6 : Int32)), (.ref b35), (.ref b35)])) rfl rfl (hb hby at_151)
      have V42 : Arv Z h42 b35 k35 .char (11 : Int32) [(.int (116 : Int32)), (.int (101 : Int32)), (.int (108 : Int32)), (.int (101 : Int32)), (.int (109 : Int32)), (.int (101 : Int32)), (.int (116 : Int32)), (.int (0 : Int32)), (.int (0 : Int32)), (.int (0 : Int32)), (.int (0 : Int32))] (.int (0 : Int32)) := Arv.set Ar42 q42 S42 M42 H42 G42 (fits_nar_char _) W42 6 rfl (Nat.le_of_ble_eq_true rfl)
      have N42 := Fr.snoc X42 N41 g_b35
      refine own_step st42 ?_
      show own_Go _ _ _ _ T42 (mkF mm_ 152 #[.val (.int p1), .val (.int ((p1 &&& (2147483647 : Int32)) % (3 : Int32))), .unset, .unset, .unset, .unset] [(.ref b35)])
      refine own_step (fun t_ k_ => XS.dup X42.here hx rfl (hb hby at_152) rfl rfl (XS.bipush X42.here hx rfl (hb hby at_153) (XS.bipush X42.here hx rfl (hb hby at_155) k_))) ?_
      show own_Go _ _ _ _ T42 (mkF mm_ 157 #[.val (.int p1), .val (.int ((p1 &&& (2147483647 : Int32)) % (3 : Int32))), .unset, .unset, .unset, .unset] [(.int (101 : Int32)), (.int (7 : Int32)), (.ref b35), (.ref b35)])
      obtain ⟨cl43, Ar43, q43, S43, M43, H43, G43⟩ := id V42
      have hin43 : ¬ ((7 : Int32) < 0 ∨ cl43.slots.size ≤ ((7 : Int32)).toNatClampNeg) := inb_of S43 ⟨by decide, by decide⟩
      obtain ⟨T43, h43, X43, e43, W43, st43⟩ := stC X42 hx hZ e42 Ar43 (j := (7 : Int32)) hin43 (g := (mkF mm_ 157 #[.val (.int p1), .val (.int ((p1 &&& (2147483647 : Int32)) % (3 : Int32))), .unset, .unset, .unset, .unset] [(.int (101 : Int32)), (.int (7 : Int32)), (.ref b35), (.ref b35)])) rfl rfl (hb hby at_157)
      have V43 : Arv Z h43 b35 k35 .char (11 : Int32) [(.int (116 : Int32)), (.int (101 : Int32)), (.int (108 : Int32)), (.int (101 : Int32)), (.int (109 : Int32)), (.int (101 : Int32)), (.int (116 : Int32)), (.int (101 : Int32)), (.int (0 : Int32)), (.int (0 : Int32)), (.int (0 : Int32))] (.int (0 : Int32)) := Arv.set Ar43 q43 S43 M43 H43 G43 (fits_nar_char _) W43 7 rfl (Nat.le_of_ble_eq_true rfl)
      have N43 := Fr.snoc X43 N42 g_b35
      refine own_step st43 ?_
      show own_Go _ _ _ _ T43 (mkF mm_ 158 #[.val (.int p1), .val (.int ((p1 &&& (2147483647 : Int32)) % (3 : Int32))), .unset, .unset, .unset, .unset] [(.ref b35)])
      refine own_step (fun t_ k_ => XS.dup X43.here hx rfl (hb hby at_158) rfl rfl (XS.bipush X43.here hx rfl (hb hby at_159) (XS.bipush X43.here hx rfl (hb hby at_161) k_))) ?_
      show own_Go _ _ _ _ T43 (mkF mm_ 163 #[.val (.int p1), .val (.int ((p1 &&& (2147483647 : Int32)) % (3 : Int32))), .unset, .unset, .unset, .unset] [(.int (114 : Int32)), (.int (8 : Int32)), (.ref b35), (.ref b35)])
      obtain ⟨cl44, Ar44, q44, S44, M44, H44, G44⟩ := id V43
      have hin44 : ¬ ((8 : Int32) < 0 ∨ cl44.slots.size ≤ ((8 : Int32)).toNatClampNeg) := inb_of S44 ⟨by decide, by decide⟩
      obtain ⟨T44, h44, X44, e44, W44, st44⟩ := stC X43 hx hZ e43 Ar44 (j := (8 : Int32)) hin44 (g := (mkF mm_ 163 #[.val (.int p1), .val (.int ((p1 &&& (2147483647 : Int32)) % (3 : Int32))), .unset, .unset, .unset, .unset] [(.int (114 : Int32)), (.int (8 : Int32)), (.ref b35), (.ref b35)])) rfl rfl (hb hby at_163)
      have V44 : Arv Z h44 b35 k35 .char (11 : Int32) [(.int (116 : Int32)), (.int (101 : Int32)), (.int (108 : Int32)), (.int (101 : Int32)), (.int (109 : Int32)), (.int (101 : Int32)), (.int (116 : Int32)), (.int (101 : Int32)), (.int (114 : Int32)), (.int (0 : Int32)), (.int (0 : Int32))] (.int (0 : Int32)) := Arv.set Ar44 q44 S44 M44 H44 G44 (fits_nar_char _) W44 8 rfl (Nat.le_of_ble_eq_true rfl)
      have N44 := Fr.snoc X44 N43 g_b35
      refine own_step st44 ?_
      show own_Go _ _ _ _ T44 (mkF mm_ 164 #[.val (.int p1), .val (.int ((p1 &&& (2147483647 : Int32)) % (3 : Int32))), .unset, .unset, .unset, .unset] [(.ref b35)])
      refine own_step (fun t_ k_ => XS.dup X44.here hx rfl (hb hby at_164) rfl rfl (XS.bipush X44.here hx rfl (hb hby at_165) (XS.bipush X44.here hx rfl (hb hby at_167) k_))) ?_
      show own_Go _ _ _ _ T44 (mkF mm_ 169 #[.val (.int p1), .val (.int ((p1 &&& (2147483647 : Int32)) % (3 : Int32))), .unset, .unset, .unset, .unset] [(.int (101 : Int32)), (.int (9 : Int32)), (.ref b35), (.ref b35)])
      obtain ⟨cl45, Ar45, q45, S45, M45, H45, G45⟩ := id V44
      have hin45 : ¬ ((9 : Int32) < 0 ∨ cl45.slots.size ≤ ((9 : Int32)).toNatClampNeg) := inb_of S45 ⟨by decide, by decide⟩
      obtain ⟨T45, h45, X45, e45, W45, st45⟩ := stC X44 hx hZ e44 Ar45 (j := (9 : Int32)) hin45 (g := (mkF mm_ 169 #[.val (.int p1), .val (.int ((p1 &&& (2147483647 : Int32)) % (3 : Int32))), .unset, .unset, .unset, .unset] [(.int (101 : Int32)), (.int (9 : Int32)), (.ref b35), (.ref b35)])) rfl rfl (hb hby at_169)
      have V45 : Arv Z h45 b35 k35 .char (11 : Int32) [(.int (116 : Int32)), (.int (101 : Int32)), (.int (108 : Int32)), (.int (101 : Int32)), (.int (109 : Int32)), (.int (101 : Int32)), (.int (116 : Int32)), (.int (101 : Int32)), (.int (114 : Int32)), (.int (101 : Int32)), (.int (0 : Int32))] (.int (0 : Int32)) := Arv.set Ar45 q45 S45 M45 H45 G45 (fits_nar_char _) W45 9 rfl (Nat.le_of_ble_eq_true rfl)
      have N45 := Fr.snoc X45 N44 g_b35
      refine own_step st45 ?_
      show own_Go _ _ _ _ T45 (mkF mm_ 170 #[.val (.int p1), .val (.int ((p1 &&& (2147483647 : Int32)) % (3 : Int32))), .unset, .unset, .unset, .unset] [(.ref b35)])
      refine own_step (fun t_ k_ => XS.dup X45.here hx rfl (hb hby at_170) rfl rfl (XS.bipush X45.here hx rfl (hb hby at_171) (XS.bipush X45.here hx rfl (hb hby at_173) k_))) ?_
      show own_Go _ _ _ _ T45 (mkF mm_ 175 #[.val (.int p1), .val (.int ((p1 &&& (2147483647 : Int32)) % (3 : Int32))), .unset, .unset, .unset, .unset] [(.int (100 : Int32)), (.int (10 : Int32)), (.ref b35), (.ref b35)])
      obtain ⟨cl46, Ar46, q46, S46, M46, H46, G46⟩ := id V45
      have hin46 : ¬ ((10 : Int32) < 0 ∨ cl46.slots.size ≤ ((10 : Int32)).toNatClampNeg) := inb_of S46 ⟨by decide, by decide⟩
      obtain ⟨T46, h46, X46, e46, W46, st46⟩ := stC X45 hx hZ e45 Ar46 (j := (10 : Int32)) hin46 (g := (mkF mm_ 175 #[.val (.int p1), .val (.int ((p1 &&& (2147483647 : Int32)) % (3 : Int32))), .unset, .unset, .unset, .unset] [(.int (100 : Int32)), (.int (10 : Int32)), (.ref b35), (.ref b35)])) rfl rfl (hb hby at_175)
      have V46 : Arv Z h46 b35 k35 .char (11 : Int32) [(.int (116 : Int32)), (.int (101 : Int32)), (.int (108 : Int32)), (.int (101 : Int32)), (.int (109 : Int32)), (.int (101 : Int32)), (.int (116 : Int32)), (.int (101 : Int32)), (.int (114 : Int32)), (.int (101 : Int32)), (.int (100 : Int32))] (.int (0 : Int32)) := Arv.set Ar46 q46 S46 M46 H46 G46 (fits_nar_char _) W46 10 rfl (Nat.le_of_ble_eq_true rfl)
      have N46 := Fr.snoc X46 N45 g_b35
      refine own_step st46 ?_
      show own_Go _ _ _ _ T46 (mkF mm_ 176 #[.val (.int p1), .val (.int ((p1 &&& (2147483647 : Int32)) % (3 : Int32))), .unset, .unset, .unset, .unset] [(.ref b35)])
      refine own_step (fun t_ k_ => XS.astoreN X46.here hx rfl (hb hby at_176) rfl rfl (l' := #[.val (.int p1), .val (.int ((p1 &&& (2147483647 : Int32)) % (3 : Int32))), .val (.ref b35), .unset, .unset, .unset]) rfl k_) ?_
      show own_Go _ _ _ _ T46 (mkF mm_ 177 #[.val (.int p1), .val (.int ((p1 &&& (2147483647 : Int32)) % (3 : Int32))), .val (.ref b35), .unset, .unset, .unset] [])
      have O47 : Old Z n0 h46 := ((((((((((((O0.ext E35).wr W36 g_b35).wr W37 g_b35).wr W38 g_b35).wr W39 g_b35).wr W40 g_b35).wr W41 g_b35).wr W42 g_b35).wr W43 g_b35).wr W44 g_b35).wr W45 g_b35).wr W46 g_b35)
      obtain ⟨T48, X48, e48, st48⟩ := getS2 X46 hx hZ hown (host := "") (Or.inl (own_w hw 73 rfl)) Via.refl e46 (G_S2.ext O47.2) (g := (mkF mm_ 177 #[.val (.int p1), .val (.int ((p1 &&& (2147483647 : Int32)) % (3 : Int32))), .val (.ref b35), .unset, .unset, .unset] [])) rfl (hb hby at_177)
      refine own_step st48 ?_
      show own_Go _ _ _ _ T48 (mkF mm_ 180 #[.val (.int p1), .val (.int ((p1 &&& (2147483647 : Int32)) % (3 : Int32))), .val (.ref b35), .unset, .unset, .unset] [(.ref w_1)])
      refine own_step (fun t_ k_ => XS.astoreN X48.here hx rfl (hb hby at_180) rfl rfl (l' := #[.val (.int p1), .val (.int ((p1 &&& (2147483647 : Int32)) % (3 : Int32))), .val (.ref b35), .val (.ref w_1), .unset, .unset]) rfl (XS.goto X48.here hx rfl (pc0 := 181) (pc' := 207) rfl (hb hby at_181) (by decide) (by decide) k_)) ?_
      show own_Go _ _ _ _ T48 (mkF mm_ 207 #[.val (.int p1), .val (.int ((p1 &&& (2147483647 : Int32)) % (3 : Int32))), .val (.ref b35), .val (.ref w_1), .unset, .unset] [])
      obtain ⟨T49, h49, X49, e49, E49, A49, D49, -, st49⟩ := newO X48 hx hZ hown (own_w hw 5 rfl) (own_w hw 6 rfl) (own_w hw 7 rfl) e48 (g := (mkF mm_ 207 #[.val (.int p1), .val (.int ((p1 &&& (2147483647 : Int32)) % (3 : Int32))), .val (.ref b35), .val (.ref w_1), .unset, .unset] [])) rfl (hb hby at_207) (by decide) (by decide)
      obtain ⟨b49, q49⟩ : ∃ z, z = h46.size := ⟨_, rfl⟩
      rw [← q49] at A49 D49 st49
      have K50 : Keep h0 h46 [] := ((((((((((((K0.ext E35).wr W36 (Or.inr lo_b35)).wr W37 (Or.inr lo_b35)).wr W38 (Or.inr lo_b35)).wr W39 (Or.inr lo_b35)).wr W40 (Or.inr lo_b35)).wr W41 (Or.inr lo_b35)).wr W42 (Or.inr lo_b35)).wr W43 (Or.inr lo_b35)).wr W44 (Or.inr lo_b35)).wr W45 (Or.inr lo_b35)).wr W46 (Or.inr lo_b35))
      have lo_b49 : h0.size ≤ b49 := Nat.le_trans K50.1 (Nat.le_of_eq q49.symm)
      have g_b49 : n0 ≤ b49 := Nat.le_trans Z0 lo_b49
      refine own_step st49 ?_
      have F49_coder : Fld Z h49 b49 "java/lang/String" "coder" "B" (.int (0 : Int32)) := D49 (Or.inr (own_w hw 31 rfl)) (ty := .byte) (by decide)
      have F49_value : Fld Z h49 b49 "java/lang/String" "value" "[B" .null := D49 (Or.inr (own_w hw 33 rfl)) (ty := (.array .byte)) (by decide)
      show own_Go _ _ _ _ T49 (mkF mm_ 210 #[.val (.int p1), .val (.int ((p1 &&& (2147483647 : Int32)) % (3 : Int32))), .val (.ref b35), .val (.ref w_1), .unset, .unset] [(.ref b49)])
      refine own_step (fun t_ k_ => XS.dup X49.here hx rfl (hb hby at_210) rfl rfl (XS.aloadN X49.here hx rfl (hb hby at_211) rfl rfl k_)) ?_
      show own_Go _ _ _ _ T49 (mkF mm_ 212 #[.val (.int p1), .val (.int ((p1 &&& (2147483647 : Int32)) % (3 : Int32))), .val (.ref b35), .val (.ref w_1), .unset, .unset] [(.ref b35), (.ref b49), (.ref b49)])
      have hp52 : ∀ c ∈ ([(116 : Int32), (101 : Int32), (108 : Int32), (101 : Int32), (109 : Int32), (101 : Int32), (116 : Int32), (101 : Int32), (114 : Int32), (101 : Int32), (100 : Int32)] : List Int32), ¬ c < 0 ∧ ¬ (255 : Int32) < c := by
        intro c hc
        simp only [List.mem_cons, List.not_mem_nil, or_false] at hc
        rcases hc with rfl | rfl | rfl | rfl | rfl | rfl | rfl | rfl | rfl | rfl | rfl
        · exact ⟨by decide, by decide⟩
        · exact ⟨by decide, by decide⟩
        · exact ⟨by decide, by decide⟩
        · exact ⟨by decide, by decide⟩
        · exact ⟨by decide, by decide⟩
        · exact ⟨by decide, by decide⟩
        · exact ⟨by decide, by decide⟩
        · exact ⟨by decide, by decide⟩
        · exact ⟨by decide, by decide⟩
        · exact ⟨by decide, by decide⟩
        · exact ⟨by decide, by decide⟩
      have f53 : Arv Z h49 b35 k35 .char (11 : Int32) [(.int (116 : Int32)), (.int (101 : Int32)), (.int (108 : Int32)), (.int (101 : Int32)), (.int (109 : Int32)), (.int (101 : Int32)), (.int (116 : Int32)), (.int (101 : Int32)), (.int (114 : Int32)), (.int (101 : Int32)), (.int (100 : Int32))] (.int (0 : Int32)) := (V46.ext E49)
      have O54 : Old Z n0 h49 := (O47.ext E49)
      have K55 : Keep h0 h49 [] := (K50.ext E49)
      obtain ⟨_, T51, Lc51, X51, hQ51, st51⟩ := own_cI X49 hx hZ rfl hown (own_w hw 8 rfl) (own_w hw 9 rfl) (own_w hw 10 rfl) (by decide) (own_newS (W := 1) hZ hw (cs := [(116 : Int32), (101 : Int32), (108 : Int32), (101 : Int32), (109 : Int32), (101 : Int32), (116 : Int32), (101 : Int32), (114 : Int32), (101 : Int32), (100 : Int32)]) (n := 11) g_b49 (Nat.le_trans Z0 K55.1) A49 F49_value F49_coder f53 (G_cs.ext O54.2) G_cs0 rfl rfl rfl (by decide) (by decide) hp52 (by decide) (by decide)) (g := (mkF mm_ 212 #[.val (.int p1), .val (.int ((p1 &&& (2147483647 : Int32)) % (3 : Int32))), .val (.ref b35), .val (.ref w_1), .unset, .unset] [(.ref b35), (.ref b49), (.ref b49)])) rfl (by rw [hml]; rfl) (a := b49) (argsL := [(.ref b35)]) (rest := [(.ref b49)]) (lenOf pd_2 rfl) rfl (by show 2 * 0 + _ ≤ _; exact Nat.le_of_eq rfl) (hb hby at_212) rfl e49 (by decide) (by decide)
      obtain ⟨t51, rfl, Nq51, Kc51, lo51, Fs51⟩ := hQ51
      have N51 := Fr.app N46 Nq51
      have lo_t51 : h0.size ≤ t51 := Nat.le_trans K55.1 lo51
      have g_t51 : n0 ≤ t51 := Nat.le_trans Z0 lo_t51
      refine own_jump st51 ?_
      show own_Go _ _ _ _ T51 (mkF mm_ 215 #[.val (.int p1), .val (.int ((p1 &&& (2147483647 : Int32)) % (3 : Int32))), .val (.ref b35), .val (.ref w_1), .unset, .unset] [(.ref b49)])
      refine own_step (fun t_ k_ => XS.astore X51.here hx rfl (hb hby at_215) rfl rfl (l' := #[.val (.int p1), .val (.int ((p1 &&& (2147483647 : Int32)) % (3 : Int32))), .val (.ref b35), .val (.ref w_1), .val (.ref b49), .unset]) rfl (XS.aload X51.here hx rfl (hb hby at_217) rfl rfl k_)) ?_
      show own_Go _ _ _ _ T51 (mkF mm_ 219 #[.val (.int p1), .val (.int ((p1 &&& (2147483647 : Int32)) % (3 : Int32))), .val (.ref b35), .val (.ref w_1), .val (.ref b49), .unset] [(.ref b49)])
      have O57 : Old Z n0 T51.heap := (O54.keep Kc51 (allS g_b49 all0))
      obtain ⟨_, T56, Lc56, X56, hQ56, st56⟩ := own_cS X51 hx hZ hown (own_w hw 34 rfl) (own_w hw 35 rfl) (own_w hw 3 rfl) (own_w hw 36 rfl) (by decide) (backOf (W := 0) (rmO1 l Z a0 hw [] b49 t51 T51.heap n0 O57 G_ Fs51) hZ (own_w hw 36 rfl) (own_w hw 3 rfl) (by decide) (by decide)) (g := (mkF mm_ 219 #[.val (.int p1), .val (.int ((p1 &&& (2147483647 : Int32)) % (3 : Int32))), .val (.ref b35), .val (.ref w_1), .val (.ref b49), .unset] [(.ref b49)])) rfl (by rw [hml]; rfl) (argsL := [(.ref b49)]) (rest := []) (lenOf pd_3 rfl) rfl (by show 2 * 0 + _ ≤ _; exact Nat.le_of_eq rfl) (hb hby at_219) rfl rfl (by decide) (by decide)
      obtain ⟨rfl, Nq56, Kc56⟩ := hQ56
      have N56 := Fr.app N51 Nq56
      refine own_jump st56 ?_
      show own_Go _ _ _ _ T56 (mkF mm_ 222 #[.val (.int p1), .val (.int ((p1 &&& (2147483647 : Int32)) % (3 : Int32))), .val (.ref b35), .val (.ref w_1), .val (.ref b49), .unset] [(.ref w_1)])
      refine own_step (fun t_ k_ => XS.astore X56.here hx rfl (hb hby at_222) rfl rfl (l' := #[.val (.int p1), .val (.int ((p1 &&& (2147483647 : Int32)) % (3 : Int32))), .val (.ref b35), .val (.ref w_1), .val (.ref b49), .val (.ref w_1)]) rfl (XS.aload X56.here hx rfl (hb hby at_224) rfl rfl (XS.aloadN X56.here hx rfl (hb hby at_226) rfl rfl k_))) ?_
      show own_Go _ _ _ _ T56 (mkF mm_ 227 #[.val (.int p1), .val (.int ((p1 &&& (2147483647 : Int32)) % (3 : Int32))), .val (.ref b35), .val (.ref w_1), .val (.ref b49), .val (.ref w_1)] [(.ref w_1), (.ref w_1)])
      refine own_step (fun t_ k_ => Jvm.RoadKit.acmp (g := (mkF mm_ 227 #[.val (.int p1), .val (.int ((p1 &&& (2147483647 : Int32)) % (3 : Int32))), .val (.ref b35), .val (.ref w_1), .val (.ref b49), .val (.ref w_1)] [(.ref w_1), (.ref w_1)])) X56 hx rfl rfl rfl (pc0 := 227) (pc' := 230) (same := true) rfl (hb hby at_227) rfl (decide_eq_true rfl) (by decide) (by decide) (XS.aload X56.here hx rfl (hb hby at_230) rfl rfl k_)) ?_
      show own_Go _ _ _ _ T56 (mkF mm_ 232 #[.val (.int p1), .val (.int ((p1 &&& (2147483647 : Int32)) % (3 : Int32))), .val (.ref b35), .val (.ref w_1), .val (.ref b49), .val (.ref w_1)] [(.ref w_1)])
      have O59 : Old Z n0 T56.heap := (O57.keep Kc56 all0)
      obtain ⟨_, T58, Lc58, X58, hQ58, st58⟩ := own_cV X56 hx hZ hown (own_w hw 66 rfl) (own_w hw 67 rfl) (notFace_of_selects (args := #[]) (mvT hZ (own_w hw 69 rfl))) (own_w hw 69 rfl) (own_w hw 68 rfl) (by decide) (backOf (W := 0) (rmG l Z a0 hw [] w_1 s_1 T56.heap n0 O59 (G_F15.ext O59.2)) hZ (own_w hw 70 rfl) (own_w hw 3 rfl) (by decide) (by decide)) (G_E6.ext O59.2) (g := (mkF mm_ 232 #[.val (.int p1), .val (.int ((p1 &&& (2147483647 : Int32)) % (3 : Int32))), .val (.ref b35), .val (.ref w_1), .val (.ref b49), .val (.ref w_1)] [(.ref w_1)])) rfl (by rw [hml]; rfl) (argsL := []) (rest := []) (lenOf pd_4 rfl) rfl (by show 2 * 0 + _ ≤ _; exact Nat.le_of_eq rfl) (hb hby at_232) rfl rfl (by decide) (by decide)
      obtain ⟨rfl, rfl, Eh58⟩ := hQ58
      have N58 := Fr.app N56 (Fr.nil n0)
      refine own_jump st58 ?_
      show own_Go _ _ _ _ T58 (mkF mm_ 235 #[.val (.int p1), .val (.int ((p1 &&& (2147483647 : Int32)) % (3 : Int32))), .val (.ref b35), .val (.ref w_1), .val (.ref b49), .val (.ref w_1)] [(.ref s_1)])
      refine own_step (fun t_ k_ => XS.aload X58.here hx rfl (hb hby at_235) rfl rfl k_) ?_
      show own_Go _ _ _ _ T58 (mkF mm_ 237 #[.val (.int p1), .val (.int ((p1 &&& (2147483647 : Int32)) % (3 : Int32))), .val (.ref b35), .val (.ref w_1), .val (.ref b49), .val (.ref w_1)] [(.ref b49), (.ref s_1)])
      have f61 : own_Str Z T56.heap b49 t51 [(116 : Int32), (101 : Int32), (108 : Int32), (101 : Int32), (109 : Int32), (101 : Int32), (116 : Int32), (101 : Int32), (114 : Int32), (101 : Int32), (100 : Int32)] := (Fs51.keep Kc56 nin0 nin0)
      obtain ⟨_, T60, Lc60, X60, hQ60, st60⟩ := own_cV X58 hx hZ hown (own_w hw 71 rfl) (own_w hw 57 rfl) (notFace_of_selects (args := #[]) (mvT hZ (own_w hw 59 rfl))) (own_w hw 59 rfl) (own_w hw 58 rfl) (by decide) (own_eqS (W := 0) hZ hw (G_T16.ext O59.2) f61 (G_cs.ext O59.2) G_cs0 (by decide) (by decide)) (G_T16.ext O59.2).1 (g := (mkF mm_ 237 #[.val (.int p1), .val (.int ((p1 &&& (2147483647 : Int32)) % (3 : Int32))), .val (.ref b35), .val (.ref w_1), .val (.ref b49), .val (.ref w_1)] [(.ref b49), (.ref s_1)])) rfl (by rw [hml]; rfl) (argsL := [(.ref b49)]) (rest := []) (lenOf pd_1 rfl) rfl (by show 2 * 0 + _ ≤ _; exact Nat.le_of_eq rfl) (hb hby at_237) rfl Eh58 (by decide) (by decide)
      obtain ⟨⟨rfl, -⟩ | ⟨-, hq60⟩, rfl, Eh60⟩ := hQ60
      rotate_left
      · exact absurd rfl hq60
      have N60 := Fr.app N58 (Fr.nil n0)
      refine own_jump st60 ?_
      show own_Go _ _ _ _ T60 (mkF mm_ 240 #[.val (.int p1), .val (.int ((p1 &&& (2147483647 : Int32)) % (3 : Int32))), .val (.ref b35), .val (.ref w_1), .val (.ref b49), .val (.ref w_1)] [(.int (1 : Int32))])
      refine own_step (fun t_ k_ => XS.ifNo X60.here hx rfl (hb hby at_240) rfl ((if0 _ _).trans (feq (by decide : ¬ ((1 : Int32) = (0 : Int32)))).1) k_) ?_
      show own_Go _ _ _ _ T60 (mkF mm_ 243 #[.val (.int p1), .val (.int ((p1 &&& (2147483647 : Int32)) % (3 : Int32))), .val (.ref b35), .val (.ref w_1), .val (.ref b49), .val (.ref w_1)] [])
      refine own_step (fun t_ k_ => XS.iconst X60.here hx rfl (hb hby at_243) (XS.goto X60.here hx rfl (pc0 := 244) (pc' := 248) rfl (hb hby at_244) (by decide) (by decide) k_)) ?_
      show own_Go _ _ _ _ T60 (mkF mm_ 248 #[.val (.int p1), .val (.int ((p1 &&& (2147483647 : Int32)) % (3 : Int32))), .val (.ref b35), .val (.ref w_1), .val (.ref b49), .val (.ref w_1)] [(.int (1 : Int32))])
      have K62 : Keep h0 T56.heap [] := ((K55.trans Kc51 (allS (Or.inr lo_b49) all0)).trans Kc56 all0)
      obtain ⟨fs, hr, hrun, hended, hW, hsame⟩ := X60.leave (v := some (.int (1 : Int32))) (fun h => by rw [Bd.returns] at h; cases h)
      refine ⟨_, _, ?_, hrun, hended, _, _, rfl, ?_, ⟨_, rfl⟩, hW, hsame.mono (by decide) (by decide)⟩
      · exact retN X60 hx (t := .boolean) Bd.returns (by simp) (hb hby at_248) hr
      · show Qrm0 Z p1 h0 n0 (some (.int (1 : Int32))) T60.heap _
        rw [Eh60]
        exact ⟨rfl, N60, K62⟩
    · skip
      refine own_step (fun t_ k_ => XS.icmpYes X0.here hx rfl (pc0 := 109) (pc' := 184) rfl (hb hby at_109) rfl (feq hc109_34).2 (by decide) (by decide) k_) ?_
      show own_Go _ _ _ _ s₁ (mkF mm_ 184 #[.val (.int p1), .val (.int ((p1 &&& (2147483647 : Int32)) % (3 : Int32))), .unset, .unset, .unset, .unset] [])
      refine own_step (fun t_ k_ => XS.iconst X0.here hx rfl (hb hby at_184) k_) ?_
      show own_Go _ _ _ _ s₁ (mkF mm_ 185 #[.val (.int p1), .val (.int ((p1 &&& (2147483647 : Int32)) % (3 : Int32))), .unset, .unset, .unset, .unset] [(.int (3 : Int32))])
      obtain ⟨T63, h63, k63, X63, e63, E63, A63, st63⟩ := newP X0 hx hZ (own_w hw 1 rfl) e0 (g := (mkF mm_ 185 #[.val (.int p1), .val (.int ((p1 &&& (2147483647 : Int32)) % (3 : Int32))), .unset, .unset, .unset, .unset] [(.int (3 : Int32))])) rfl (hb hby at_185) rfl (by decide) (cap := 3) (by decide) (by decide) (by decide) (by decide)
      obtain ⟨b63, q63⟩ : ∃ z, z = h0.size := ⟨_, rfl⟩
      rw [← q63] at A63 st63
      have lo_b63 : h0.size ≤ b63 := Nat.le_trans K0.1 (Nat.le_of_eq q63.symm)
      have g_b63 : n0 ≤ b63 := Nat.le_trans Z0 lo_b63
      refine own_step st63 ?_
      have V63 : Arv Z h63 b63 k63 .char (3 : Int32) [(.int (0 : Int32)), (.int (0 : Int32)), (.int (0 : Int32))] (.int (0 : Int32)) := (Arv.new A63 (by decide)).pad (pad_rep [] (.int (0 : Int32)) 3)
      show own_Go _ _ _ _ T63 (mkF mm_ 187 #[.val (.int p1), .val (.int ((p1 &&& (2147483647 : Int32)) % (3 : Int32))), .unset, .unset, .unset, .unset] [(.ref b63)])
      refine own_step (fun t_ k_ => XS.dup X63.here hx rfl (hb hby at_187) rfl rfl (XS.iconst X63.here hx rfl (hb hby at_188) (XS.bipush X63.here hx rfl (hb hby at_189) k_))) ?_
      show own_Go _ _ _ _ T63 (mkF mm_ 191 #[.val (.int p1), .val (.int ((p1 &&& (2147483647 : Int32)) % (3 : Int32))), .unset, .unset, .unset, .unset] [(.int (99 : Int32)), (.int (0 : Int32)), (.ref b63), (.ref b63)])
      obtain ⟨cl64, Ar64, q64, S64, M64, H64, G64⟩ := id V63
      have hin64 : ¬ ((0 : Int32) < 0 ∨ cl64.slots.size ≤ ((0 : Int32)).toNatClampNeg) := inb_of S64 ⟨by decide, by decide⟩
      obtain ⟨T64, h64, X64, e64, W64, st64⟩ := stC X63 hx hZ e63 Ar64 (j := (0 : Int32)) hin64 (g := (mkF mm_ 191 #[.val (.int p1), .val (.int ((p1 &&& (2147483647 : Int32)) % (3 : Int32))), .unset, .unset, .unset, .unset] [(.int (99 : Int32)), (.int (0 : Int32)), (.ref b63), (.ref b63)])) rfl rfl (hb hby at_191)
      have V64 : Arv Z h64 b63 k63 .char (3 : Int32) [(.int (99 : Int32)), (.int (0 : Int32)), (.int (0 : Int32))] (.int (0 : Int32)) := Arv.set Ar64 q64 S64 M64 H64 G64 (fits_nar_char _) W64 0 rfl (Nat.le_of_ble_eq_true rfl)
      have N64 := Fr.snoc X64 N0 g_b63
      refine own_step st64 ?_
      show own_Go _ _ _ _ T64 (mkF mm_ 192 #[.val (.int p1), .val (.int ((p1 &&& (2147483647 : Int32)) % (3 : Int32))), .unset, .unset, .unset, .unset] [(.ref b63)])
      refine own_step (fun t_ k_ => XS.dup X64.here hx rfl (hb hby at_192) rfl rfl (XS.iconst X64.here hx rfl (hb hby at_193) (XS.bipush X64.here hx rfl (hb hby at_194) k_))) ?_
      show own_Go _ _ _ _ T64 (mkF mm_ 196 #[.val (.int p1), .val (.int ((p1 &&& (2147483647 : Int32)) % (3 : Int32))), .unset, .unset, .unset, .unset] [(.int (110 : Int32)), (.int (1 : Int32)), (.ref b63), (.ref b63)])
      obtain ⟨cl65, Ar65, q65, S65, M65, H65, G65⟩ := id V64
      have hin65 : ¬ ((1 : Int32) < 0 ∨ cl65.slots.size ≤ ((1 : Int32)).toNatClampNeg) := inb_of S65 ⟨by decide, by decide⟩
      obtain ⟨T65, h65, X65, e65, W65, st65⟩ := stC X64 hx hZ e64 Ar65 (j := (1 : Int32)) hin65 (g := (mkF mm_ 196 #[.val (.int p1), .val (.int ((p1 &&& (2147483647 : Int32)) % (3 : Int32))), .unset, .unset, .unset, .unset] [(.int (110 : Int32)), (.int (1 : Int32)), (.ref b63), (.ref b63)])) rfl rfl (hb hby at_196)
      have V65 : Arv Z h65 b63 k63 .char (3 : Int32) [(.int (99 : Int32)), (.int (110 : Int32)), (.int (0 : Int32))] (.int (0 : Int32)) := Arv.set Ar65 q65 S65 M65 H65 G65 (fits_nar_char _) W65 1 rfl (Nat.le_of_ble_eq_true rfl)
      have N65 := Fr.snoc X65 N64 g_b63
      refine own_step st65 ?_
      show own_Go _ _ _ _ T65 (mkF mm_ 197 #[.val (.int p1), .val (.int ((p1 &&& (2147483647 : Int32)) % (3 : Int32))), .unset, .unset, .unset, .unset] [(.ref b63)])
      refine own_step (fun t_ k_ => XS.dup X65.here hx rfl (hb hby at_197) rfl rfl (XS.iconst X65.here hx rfl (hb hby at_198) (XS.bipush X65.here hx rfl (hb hby at_199) k_))) ?_
      show own_Go _ _ _ _ T65 (mkF mm_ 201 #[.val (.int p1), .val (.int ((p1 &&& (2147483647 : Int32)) % (3 : Int32))), .unset, .unset, .unset, .unset] [(.int (103 : Int32)), (.int (2 : Int32)), (.ref b63), (.ref b63)])
      obtain ⟨cl66, Ar66, q66, S66, M66, H66, G66⟩ := id V65
      have hin66 : ¬ ((2 : Int32) < 0 ∨ cl66.slots.size ≤ ((2 : Int32)).toNatClampNeg) := inb_of S66 ⟨by decide, by decide⟩
      obtain ⟨T66, h66, X66, e66, W66, st66⟩ := stC X65 hx hZ e65 Ar66 (j := (2 : Int32)) hin66 (g := (mkF mm_ 201 #[.val (.int p1), .val (.int ((p1 &&& (2147483647 : Int32)) % (3 : Int32))), .unset, .unset, .unset, .unset] [(.int (103 : Int32)), (.int (2 : Int32)), (.ref b63), (.ref b63)])) rfl rfl (hb hby at_201)
      have V66 : Arv Z h66 b63 k63 .char (3 : Int32) [(.int (99 : Int32)), (.int (110 : Int32)), (.int (103 : Int32))] (.int (0 : Int32)) := Arv.set Ar66 q66 S66 M66 H66 G66 (fits_nar_char _) W66 2 rfl (Nat.le_of_ble_eq_true rfl)
      have N66 := Fr.snoc X66 N65 g_b63
      refine own_step st66 ?_
      show own_Go _ _ _ _ T66 (mkF mm_ 202 #[.val (.int p1), .val (.int ((p1 &&& (2147483647 : Int32)) % (3 : Int32))), .unset, .unset, .unset, .unset] [(.ref b63)])
      refine own_step (fun t_ k_ => XS.astoreN X66.here hx rfl (hb hby at_202) rfl rfl (l' := #[.val (.int p1), .val (.int ((p1 &&& (2147483647 : Int32)) % (3 : Int32))), .val (.ref b63), .unset, .unset, .unset]) rfl k_) ?_
      show own_Go _ _ _ _ T66 (mkF mm_ 203 #[.val (.int p1), .val (.int ((p1 &&& (2147483647 : Int32)) % (3 : Int32))), .val (.ref b63), .unset, .unset, .unset] [])
      have O67 : Old Z n0 h66 := ((((O0.ext E63).wr W64 g_b63).wr W65 g_b63).wr W66 g_b63)
      obtain ⟨T68, X68, e68, st68⟩ := getS2 X66 hx hZ hown (host := "") (Or.inl (own_w hw 72 rfl)) Via.refl e66 (G_S3.ext O67.2) (g := (mkF mm_ 203 #[.val (.int p1), .val (.int ((p1 &&& (2147483647 : Int32)) % (3 : Int32))), .val (.ref b63), .unset, .unset, .unset] [])) rfl (hb hby at_203)
      refine own_step st68 ?_
      show own_Go _ _ _ _ T68 (mkF mm_ 206 #[.val (.int p1), .val (.int ((p1 &&& (2147483647 : Int32)) % (3 : Int32))), .val (.ref b63), .unset, .unset, .unset] [(.ref w_2)])
      refine own_step (fun t_ k_ => XS.astoreN X68.here hx rfl (hb hby at_206) rfl rfl (l' := #[.val (.int p1), .val (.int ((p1 &&& (2147483647 : Int32)) % (3 : Int32))), .val (.ref b63), .val (.ref w_2), .unset, .unset]) rfl k_) ?_
      show own_Go _ _ _ _ T68 (mkF mm_ 207 #[.val (.int p1), .val (.int ((p1 &&& (2147483647 : Int32)) % (3 : Int32))), .val (.ref b63), .val (.ref w_2), .unset, .unset] [])
      obtain ⟨T69, h69, X69, e69, E69, A69, D69, -, st69⟩ := newO X68 hx hZ hown (own_w hw 5 rfl) (own_w hw 6 rfl) (own_w hw 7 rfl) e68 (g := (mkF mm_ 207 #[.val (.int p1), .val (.int ((p1 &&& (2147483647 : Int32)) % (3 : Int32))), .val (.ref b63), .val (.ref w_2), .unset, .unset] [])) rfl (hb hby at_207) (by decide) (by decide)
      obtain ⟨b69, q69⟩ : ∃ z, z = h66.size := ⟨_, rfl⟩
      rw [← q69] at A69 D69 st69
      have K70 : Keep h0 h66 [] := ((((K0.ext E63).wr W64 (Or.inr lo_b63)).wr W65 (Or.inr lo_b63)).wr W66 (Or.inr lo_b63))
      have lo_b69 : h0.size ≤ b69 := Nat.le_trans K70.1 (Nat.le_of_eq q69.symm)
      have g_b69 : n0 ≤ b69 := Nat.le_trans Z0 lo_b69
      refine own_step st69 ?_
      have F69_coder : Fld Z h69 b69 "java/lang/String" "coder" "B" (.int (0 : Int32)) := D69 (Or.inr (own_w hw 31 rfl)) (ty := .byte) (by decide)
      have F69_value : Fld Z h69 b69 "java/lang/String" "value" "[B" .null := D69 (Or.inr (own_w hw 33 rfl)) (ty := (.array .byte)) (by decide)
      show own_Go _ _ _ _ T69 (mkF mm_ 210 #[.val (.int p1), .val (.int ((p1 &&& (2147483647 : Int32)) % (3 : Int32))), .val (.ref b63), .val (.ref w_2), .unset, .unset] [(.ref b69)])
      refine own_step (fun t_ k_ => XS.dup X69.here hx rfl (hb hby at_210) rfl rfl (XS.aloadN X69.here hx rfl (hb hby at_211) rfl rfl k_)) ?_
      show own_Go _ _ _ _ T69 (mkF mm_ 212 #[.val (.int p1), .val (.int ((p1 &&& (2147483647 : Int32)) % (3 : Int32))), .val (.ref b63), .val (.ref w_2), .unset, .unset] [(.ref b63), (.ref b69), (.ref b69)])
      have hp72 : ∀ c ∈ ([(99 : Int32), (110 : Int32), (103 : Int32)] : List Int32), ¬ c < 0 ∧ ¬ (255 : Int32) < c := by
        intro c hc
        simp only [List.mem_cons, List.not_mem_nil, or_false] at hc
        rcases hc with rfl | rfl | rfl
        · exact ⟨by decide, by decide⟩
        · exact ⟨by decide, by decide⟩
        · exact ⟨by decide, by decide⟩
      have f73 : Arv Z h69 b63 k63 .char (3 : Int32) [(.int (99 : Int32)), (.int (110 : Int32)), (.int (103 : Int32))] (.int (0 : Int32)) := (V66.ext E69)
      have O74 : Old Z n0 h69 := (O67.ext E69)
      have K75 : Keep h0 h69 [] := (K70.ext E69)
      obtain ⟨_, T71, Lc71, X71, hQ71, st71⟩ := own_cI X69 hx hZ rfl hown (own_w hw 8 rfl) (own_w hw 9 rfl) (own_w hw 10 rfl) (by decide) (own_newS (W := 1) hZ hw (cs := [(99 : Int32), (110 : Int32), (103 : Int32)]) (n := 3) g_b69 (Nat.le_trans Z0 K75.1) A69 F69_value F69_coder f73 (G_cs.ext O74.2) G_cs0 rfl rfl rfl (by decide) (by decide) hp72 (by decide) (by decide)) (g := (mkF mm_ 212 #[.val (.int p1), .val (.int ((p1 &&& (2147483647 : Int32)) % (3 : Int32))), .val (.ref b63), .val (.ref w_2), .unset, .unset] [(.ref b63), (.ref b69), (.ref b69)])) rfl (by rw [hml]; rfl) (a := b69) (argsL := [(.ref b63)]) (rest := [(.ref b69)]) (lenOf pd_2 rfl) rfl (by show 2 * 0 + _ ≤ _; exact Nat.le_of_eq rfl) (hb hby at_212) rfl e69 (by decide) (by decide)
      obtain ⟨t71, rfl, Nq71, Kc71, lo71, Fs71⟩ := hQ71
      have N71 := Fr.app N66 Nq71
      have lo_t71 : h0.size ≤ t71 := Nat.le_trans K75.1 lo71
      have g_t71 : n0 ≤ t71 := Nat.le_trans Z0 lo_t71
      refine own_jump st71 ?_
      show own_Go _ _ _ _ T71 (mkF mm_ 215 #[.val (.int p1), .val (.int ((p1 &&& (2147483647 : Int32)) % (3 : Int32))), .val (.ref b63), .val (.ref w_2), .unset, .unset] [(.ref b69)])
      refine own_step (fun t_ k_ => XS.astore X71.here hx rfl (hb hby at_215) rfl rfl (l' := #[.val (.int p1), .val (.int ((p1 &&& (2147483647 : Int32)) % (3 : Int32))), .val (.ref b63), .val (.ref w_2), .val (.ref b69), .unset]) rfl (XS.aload X71.here hx rfl (hb hby at_217) rfl rfl k_)) ?_
      show own_Go _ _ _ _ T71 (mkF mm_ 219 #[.val (.int p1), .val (.int ((p1 &&& (2147483647 : Int32)) % (3 : Int32))), .val (.ref b63), .val (.ref w_2), .val (.ref b69), .unset] [(.ref b69)])
      have O77 : Old Z n0 T71.heap := (O74.keep Kc71 (allS g_b69 all0))
      obtain ⟨_, T76, Lc76, X76, hQ76, st76⟩ := own_cS X71 hx hZ hown (own_w hw 34 rfl) (own_w hw 35 rfl) (own_w hw 3 rfl) (own_w hw 36 rfl) (by decide) (backOf (W := 0) (rmO2 l Z a0 hw [] b69 t71 T71.heap n0 O77 G_ Fs71) hZ (own_w hw 36 rfl) (own_w hw 3 rfl) (by decide) (by decide)) (g := (mkF mm_ 219 #[.val (.int p1), .val (.int ((p1 &&& (2147483647 : Int32)) % (3 : Int32))), .val (.ref b63), .val (.ref w_2), .val (.ref b69), .unset] [(.ref b69)])) rfl (by rw [hml]; rfl) (argsL := [(.ref b69)]) (rest := []) (lenOf pd_3 rfl) rfl (by show 2 * 0 + _ ≤ _; exact Nat.le_of_eq rfl) (hb hby at_219) rfl rfl (by decide) (by decide)
      obtain ⟨rfl, Nq76, Kc76⟩ := hQ76
      have N76 := Fr.app N71 Nq76
      refine own_jump st76 ?_
      show own_Go _ _ _ _ T76 (mkF mm_ 222 #[.val (.int p1), .val (.int ((p1 &&& (2147483647 : Int32)) % (3 : Int32))), .val (.ref b63), .val (.ref w_2), .val (.ref b69), .unset] [(.ref w_2)])
      refine own_step (fun t_ k_ => XS.astore X76.here hx rfl (hb hby at_222) rfl rfl (l' := #[.val (.int p1), .val (.int ((p1 &&& (2147483647 : Int32)) % (3 : Int32))), .val (.ref b63), .val (.ref w_2), .val (.ref b69), .val (.ref w_2)]) rfl (XS.aload X76.here hx rfl (hb hby at_224) rfl rfl (XS.aloadN X76.here hx rfl (hb hby at_226) rfl rfl k_))) ?_
      show own_Go _ _ _ _ T76 (mkF mm_ 227 #[.val (.int p1), .val (.int ((p1 &&& (2147483647 : Int32)) % (3 : Int32))), .val (.ref b63), .val (.ref w_2), .val (.ref b69), .val (.ref w_2)] [(.ref w_2), (.ref w_2)])
      refine own_step (fun t_ k_ => Jvm.RoadKit.acmp (g := (mkF mm_ 227 #[.val (.int p1), .val (.int ((p1 &&& (2147483647 : Int32)) % (3 : Int32))), .val (.ref b63), .val (.ref w_2), .val (.ref b69), .val (.ref w_2)] [(.ref w_2), (.ref w_2)])) X76 hx rfl rfl rfl (pc0 := 227) (pc' := 230) (same := true) rfl (hb hby at_227) rfl (decide_eq_true rfl) (by decide) (by decide) (XS.aload X76.here hx rfl (hb hby at_230) rfl rfl k_)) ?_
      show own_Go _ _ _ _ T76 (mkF mm_ 232 #[.val (.int p1), .val (.int ((p1 &&& (2147483647 : Int32)) % (3 : Int32))), .val (.ref b63), .val (.ref w_2), .val (.ref b69), .val (.ref w_2)] [(.ref w_2)])
      have O79 : Old Z n0 T76.heap := (O77.keep Kc76 all0)
      obtain ⟨_, T78, Lc78, X78, hQ78, st78⟩ := own_cV X76 hx hZ hown (own_w hw 66 rfl) (own_w hw 67 rfl) (notFace_of_selects (args := #[]) (mvT hZ (own_w hw 69 rfl))) (own_w hw 69 rfl) (own_w hw 68 rfl) (by decide) (backOf (W := 0) (rmG l Z a0 hw [] w_2 s_2 T76.heap n0 O79 (G_F20.ext O79.2)) hZ (own_w hw 70 rfl) (own_w hw 3 rfl) (by decide) (by decide)) (G_E7.ext O79.2) (g := (mkF mm_ 232 #[.val (.int p1), .val (.int ((p1 &&& (2147483647 : Int32)) % (3 : Int32))), .val (.ref b63), .val (.ref w_2), .val (.ref b69), .val (.ref w_2)] [(.ref w_2)])) rfl (by rw [hml]; rfl) (argsL := []) (rest := []) (lenOf pd_4 rfl) rfl (by show 2 * 0 + _ ≤ _; exact Nat.le_of_eq rfl) (hb hby at_232) rfl rfl (by decide) (by decide)
      obtain ⟨rfl, rfl, Eh78⟩ := hQ78
      have N78 := Fr.app N76 (Fr.nil n0)
      refine own_jump st78 ?_
      show own_Go _ _ _ _ T78 (mkF mm_ 235 #[.val (.int p1), .val (.int ((p1 &&& (2147483647 : Int32)) % (3 : Int32))), .val (.ref b63), .val (.ref w_2), .val (.ref b69), .val (.ref w_2)] [(.ref s_2)])
      refine own_step (fun t_ k_ => XS.aload X78.here hx rfl (hb hby at_235) rfl rfl k_) ?_
      show own_Go _ _ _ _ T78 (mkF mm_ 237 #[.val (.int p1), .val (.int ((p1 &&& (2147483647 : Int32)) % (3 : Int32))), .val (.ref b63), .val (.ref w_2), .val (.ref b69), .val (.ref w_2)] [(.ref b69), (.ref s_2)])
      have f81 : own_Str Z T76.heap b69 t71 [(99 : Int32), (110 : Int32), (103 : Int32)] := (Fs71.keep Kc76 nin0 nin0)
      obtain ⟨_, T80, Lc80, X80, hQ80, st80⟩ := own_cV X78 hx hZ hown (own_w hw 71 rfl) (own_w hw 57 rfl) (notFace_of_selects (args := #[]) (mvT hZ (own_w hw 59 rfl))) (own_w hw 59 rfl) (own_w hw 58 rfl) (by decide) (own_eqS (W := 0) hZ hw (G_T21.ext O79.2) f81 (G_cs.ext O79.2) G_cs0 (by decide) (by decide)) (G_T21.ext O79.2).1 (g := (mkF mm_ 237 #[.val (.int p1), .val (.int ((p1 &&& (2147483647 : Int32)) % (3 : Int32))), .val (.ref b63), .val (.ref w_2), .val (.ref b69), .val (.ref w_2)] [(.ref b69), (.ref s_2)])) rfl (by rw [hml]; rfl) (argsL := [(.ref b69)]) (rest := []) (lenOf pd_1 rfl) rfl (by show 2 * 0 + _ ≤ _; exact Nat.le_of_eq rfl) (hb hby at_237) rfl Eh78 (by decide) (by decide)
      obtain ⟨⟨rfl, -⟩ | ⟨-, hq80⟩, rfl, Eh80⟩ := hQ80
      rotate_left
      · exact absurd rfl hq80
      have N80 := Fr.app N78 (Fr.nil n0)
      refine own_jump st80 ?_
      show own_Go _ _ _ _ T80 (mkF mm_ 240 #[.val (.int p1), .val (.int ((p1 &&& (2147483647 : Int32)) % (3 : Int32))), .val (.ref b63), .val (.ref w_2), .val (.ref b69), .val (.ref w_2)] [(.int (1 : Int32))])
      refine own_step (fun t_ k_ => XS.ifNo X80.here hx rfl (hb hby at_240) rfl ((if0 _ _).trans (feq (by decide : ¬ ((1 : Int32) = (0 : Int32)))).1) k_) ?_
      show own_Go _ _ _ _ T80 (mkF mm_ 243 #[.val (.int p1), .val (.int ((p1 &&& (2147483647 : Int32)) % (3 : Int32))), .val (.ref b63), .val (.ref w_2), .val (.ref b69), .val (.ref w_2)] [])
      refine own_step (fun t_ k_ => XS.iconst X80.here hx rfl (hb hby at_243) (XS.goto X80.here hx rfl (pc0 := 244) (pc' := 248) rfl (hb hby at_244) (by decide) (by decide) k_)) ?_
      show own_Go _ _ _ _ T80 (mkF mm_ 248 #[.val (.int p1), .val (.int ((p1 &&& (2147483647 : Int32)) % (3 : Int32))), .val (.ref b63), .val (.ref w_2), .val (.ref b69), .val (.ref w_2)] [(.int (1 : Int32))])
      have K82 : Keep h0 T76.heap [] := ((K75.trans Kc71 (allS (Or.inr lo_b69) all0)).trans Kc76 all0)
      obtain ⟨fs, hr, hrun, hended, hW, hsame⟩ := X80.leave (v := some (.int (1 : Int32))) (fun h => by rw [Bd.returns] at h; cases h)
      refine ⟨_, _, ?_, hrun, hended, _, _, rfl, ?_, ⟨_, rfl⟩, hW, hsame.mono (by decide) (by decide)⟩
      · exact retN X80 hx (t := .boolean) Bd.returns (by simp) (hb hby at_248) hr
      · show Qrm0 Z p1 h0 n0 (some (.int (1 : Int32))) T80.heap _
        rw [Eh80]
        exact ⟨rfl, N80, K82⟩
set_option maxRecDepth 65536 in
set_option maxHeartbeats 40000000 in
theorem comes_1 {Post : Tables → Env → Array Value → State → Outcome → State → Prop} (hpost : ∀ tb e args s v u, (limb_1_1.after args s (.returned v) u = true ∧ limb_1_2.after args s (.returned v) u = true ∧ True) → FrameEnd s (.returned v) u (Jvm.fieldLocs frame_1_writes args s ++ Jvm.arrayLocs frame_1_arrays args s ++ Jvm.staticLocs frame_1_statics s) 16 192 → Post tb e args s (.returned v) u) :
    ArmFor flags0 classFile x code maxLocals ret World_1 tables_1 room_1 Calls_1 rest_1 Pre_1 Post := by
  intro l hfl _ _ p e ha hc hk s m args below hf hA hF happ hP
  obtain ⟨hcalls, hrest, hpre⟩ := hP
  obtain ⟨-, -, -, hnamed, -, -, -, hat⟩ := (Spec.applies_iff hf).mp happ
  obtain ⟨hg, hn⟩ := and_e (Cond.before_iff.mp (show (Jvm.Cond.and given_1 narrow_1).before args s = true from hpre))
  obtain ⟨ga, gb0⟩ := and_e hg
  obtain ⟨w0_, rfl⟩ : ∃ w0_ : Value, args = #[w0_] := by
    have hs : args.size = 1 := by simpa [Cond.value, given_1] using ga
    obtain ⟨L⟩ := args
    match L, hs with
    | [w0_], _ => exact ⟨w0_, rfl⟩
  have hw := fun d (hd : d ∈ tables_1) => atoms_spec (ws := Jvm.Cond.code x code maxLocals ret :: tables_1) hat d (List.mem_cons_of_mem _ hd)
  have hfit : Fit s := fun {y c} hc i hi => by
    obtain ⟨ha, rfl⟩ := Array.getElem?_eq_some_iff.mp hc
    have q := List.all_eq_true.mp ((Array.all_eq_true_iff_forall_mem.mp hF) _ (Array.getElem_mem ha)) i (List.mem_range.mpr hi)
    simpa [Array.getElem?_eq_getElem hi] using q
  obtain ⟨hsets, hown0⟩ := atoms_of _ (rest_1_c_eq ▸ (show rest_1_c.before _ s = true from hrest))
  obtain ⟨i0, ei0⟩ := is_v gb0
  obtain rfl : w0_ = (.int i0) := Option.some.inj ei0
  obtain ⟨c1, hn1⟩ := and_e hn
  obtain ⟨c2, hn2⟩ := and_e hn1
  obtain ⟨c3, hn3⟩ := and_e hn2
  obtain ⟨c4, hn4⟩ := and_e hn3
  obtain ⟨c5, hn5⟩ := and_e hn4
  obtain ⟨c6, hn6⟩ := and_e hn5
  obtain ⟨c7, hn7⟩ := and_e hn6
  obtain ⟨c8, hn8⟩ := and_e hn7
  obtain ⟨c9, hn9⟩ := and_e hn8
  obtain ⟨c10, hn10⟩ := and_e hn9
  obtain ⟨c11, hn11⟩ := and_e hn10
  obtain ⟨c12, hn12⟩ := and_e hn11
  obtain ⟨c13, hn13⟩ := and_e hn12
  obtain ⟨c14, hn14⟩ := and_e hn13
  obtain ⟨c15, hn15⟩ := and_e hn14
  obtain ⟨c16, hn16⟩ := and_e hn15
  obtain ⟨c17, hn17⟩ := and_e hn16
  obtain ⟨c18, hn18⟩ := and_e hn17
  obtain ⟨c19, hn19⟩ := and_e hn18
  obtain ⟨c20, hn20⟩ := and_e hn19
  obtain ⟨c21, hn21⟩ := and_e hn20
  obtain ⟨c22, hn22⟩ := and_e hn21
  obtain ⟨c23, hn23⟩ := and_e hn22
  obtain ⟨c24, hn24⟩ := and_e hn23
  obtain ⟨c25, hn25⟩ := and_e hn24
  obtain ⟨c26, hn26⟩ := and_e hn25
  obtain ⟨c27, hn27⟩ := and_e hn26
  obtain ⟨c28, hn28⟩ := and_e hn27
  obtain ⟨c29, hn29⟩ := and_e hn28
  obtain ⟨c30, hn30⟩ := and_e hn29
  obtain ⟨c31, hn31⟩ := and_e hn30
  obtain ⟨c32, hn32⟩ := and_e hn31
  obtain ⟨c33, hn33⟩ := and_e hn32
  obtain ⟨c34, hn34⟩ := and_e hn33
  obtain ⟨c35, hn35⟩ := and_e hn34
  obtain ⟨c36, hn36⟩ := and_e hn35
  obtain ⟨c37, hn37⟩ := and_e hn36
  obtain ⟨c38, hn38⟩ := and_e hn37
  obtain ⟨c39, hn39⟩ := and_e hn38
  obtain ⟨c40, hn40⟩ := and_e hn39
  obtain ⟨c41, hn41⟩ := and_e hn40
  obtain ⟨c42, hn42⟩ := and_e hn41
  obtain ⟨c43, hn43⟩ := and_e hn42
  obtain ⟨c44, hn44⟩ := and_e hn43
  obtain ⟨c45, hn45⟩ := and_e hn44
  obtain ⟨c46, hn46⟩ := and_e hn45
  obtain ⟨c47, hn47⟩ := and_e hn46
  obtain ⟨c48, hn48⟩ := and_e hn47
  obtain ⟨c49, hn49⟩ := and_e hn48
  obtain ⟨zc, ev_zc⟩ := is_v (Cond.before_iff.mp (hsets _ (List.mem_of_getElem? (i := 1) rfl)))
  have G_cs : Sta s s.heap "java/lang/String" "COMPACT_STRINGS" "Z" (.int zc) := Sta.start ev_zc (Or.inl (hsets _ (List.mem_of_getElem? (i := 0) rfl)))
  have G_cs0 : ¬ zc = (0 : Int32) := gotF (Cond.eq_ints ev_zc (Term.int_eval (0))) (not_v (Cond.before_iff.mp (hsets _ (List.mem_of_getElem? (i := 2) rfl))))
  obtain ⟨w_0, ev_w_0⟩ := exa_v c1
  have G_S1 : Sta s s.heap "com/example/meter_to_invoice/metertoinvoice/billing/Metering" "NON_TELEMETERED" "Lcom/example/meter_to_invoice/metertoinvoice/billing/Metering;" (.ref w_0) := Sta.start ev_w_0 (Or.inr ⟨(own_w hw 3 rfl), (own_w hw 4 rfl)⟩)
  obtain ⟨w_1, ev_w_1⟩ := exa_v c6
  have G_S2 : Sta s s.heap "com/example/meter_to_invoice/metertoinvoice/billing/Metering" "TELEMETERED" "Lcom/example/meter_to_invoice/metertoinvoice/billing/Metering;" (.ref w_1) := Sta.start ev_w_1 (Or.inr ⟨(own_w hw 3 rfl), (own_w hw 49 rfl)⟩)
  obtain ⟨w_2, ev_w_2⟩ := exa_v c8
  have G_S3 : Sta s s.heap "com/example/meter_to_invoice/metertoinvoice/billing/Metering" "CNG_STATION" "Lcom/example/meter_to_invoice/metertoinvoice/billing/Metering;" (.ref w_2) := Sta.start ev_w_2 (Or.inr ⟨(own_w hw 3 rfl), (own_w hw 50 rfl)⟩)
  obtain ⟨wV, ev_wV⟩ := exa_v c3
  have G_S4 : Sta s s.heap "com/example/meter_to_invoice/metertoinvoice/billing/Metering" "$VALUES" "[Lcom/example/meter_to_invoice/metertoinvoice/billing/Metering;" (.ref wV) := Sta.start ev_wV (Or.inl (own_w hw 51 rfl))
  have G_E5 : Exa s s.heap w_0 "com/example/meter_to_invoice/metertoinvoice/billing/Metering" := Exa.start ev_w_0 c1
  have G_E6 : Exa s s.heap w_1 "com/example/meter_to_invoice/metertoinvoice/billing/Metering" := Exa.start ev_w_1 c6
  have G_E7 : Exa s s.heap w_2 "com/example/meter_to_invoice/metertoinvoice/billing/Metering" := Exa.start ev_w_2 c8
  have G_E8 : Exa s s.heap wV "[Lcom/example/meter_to_invoice/metertoinvoice/billing/Metering;" := Exa.start ev_wV c3
  obtain ⟨cl9, Ar9⟩ := Arr.start ev_wV c2
  obtain ⟨z9, zz9⟩ := own_len (own_eqInt c4) ev_wV Ar9
  have G_V9 : Arv s s.heap wV cl9.cls (.object "com/example/meter_to_invoice/metertoinvoice/billing/Metering") (3 : Int32) [(.ref w_0), (.ref w_1), (.ref w_2)] .null := Arv.start hfit Ar9 z9 zz9 (by decide) rfl ⟨own_elem (own_eqRef c5 ev_w_0) ev_wV Ar9 rfl, own_elem (own_eqRef c7 ev_w_1) ev_wV Ar9 rfl, own_elem (own_eqRef c9 ev_w_2) ev_wV Ar9 rfl, trivial⟩
  obtain ⟨s_0, ev_s_0⟩ := exa_v c10
  have G_F10 : Fld s s.heap w_0 "com/example/meter_to_invoice/metertoinvoice/billing/Metering" "word" "Ljava/lang/String;" (.ref s_0) := own_fld ev_s_0 ev_w_0
  have E11 : Exa s s.heap s_0 "java/lang/String" := Exa.start ev_s_0 c10
  have G_I12 : Fld s s.heap s_0 "java/lang/String" "coder" "B" (.int (0 : Int32)) := own_fld (own_eqInt c11) ev_s_0
  obtain ⟨t_0, ev_t_0⟩ := arr_v c12
  have G_F13 : Fld s s.heap s_0 "java/lang/String" "value" "[B" (.ref t_0) := own_fld ev_t_0 ev_s_0
  obtain ⟨cl14, Ar14⟩ := Arr.start ev_t_0 c12
  obtain ⟨z14, zz14⟩ := own_len (own_eqInt c13) ev_t_0 Ar14
  have G_V14 : Arv s s.heap t_0 cl14.cls .byte (15 : Int32) [(.int (110 : Int32)), (.int (111 : Int32)), (.int (110 : Int32)), (.int (45 : Int32)), (.int (116 : Int32)), (.int (101 : Int32)), (.int (108 : Int32)), (.int (101 : Int32)), (.int (109 : Int32)), (.int (101 : Int32)), (.int (116 : Int32)), (.int (101 : Int32)), (.int (114 : Int32)), (.int (101 : Int32)), (.int (100 : Int32))] (.int 0) := Arv.start hfit Ar14 z14 zz14 (by decide) rfl ⟨own_elem (own_eqInt c25) ev_t_0 Ar14 rfl, own_elem (own_eqInt c26) ev_t_0 Ar14 rfl, own_elem (own_eqInt c27) ev_t_0 Ar14 rfl, own_elem (own_eqInt c28) ev_t_0 Ar14 rfl, own_elem (own_eqInt c29) ev_t_0 Ar14 rfl, own_elem (own_eqInt c30) ev_t_0 Ar14 rfl, own_elem (own_eqInt c31) ev_t_0 Ar14 rfl, own_elem (own_eqInt c32) ev_t_0 Ar14 rfl, own_elem (own_eqInt c33) ev_t_0 Ar14 rfl, own_elem (own_eqInt c34) ev_t_0 Ar14 rfl, own_elem (own_eqInt c35) ev_t_0 Ar14 rfl, own_elem (own_eqInt c36) ev_t_0 Ar14 rfl, own_elem (own_eqInt c37) ev_t_0 Ar14 rfl, own_elem (own_eqInt c38) ev_t_0 Ar14 rfl, own_elem (own_eqInt c39) ev_t_0 Ar14 rfl, trivial⟩
  have G_T11 : own_Str s s.heap s_0 t_0 [(110 : Int32), (111 : Int32), (110 : Int32), (45 : Int32), (116 : Int32), (101 : Int32), (108 : Int32), (101 : Int32), (109 : Int32), (101 : Int32), (116 : Int32), (101 : Int32), (114 : Int32), (101 : Int32), (100 : Int32)] := ⟨E11, G_I12, G_F13, ⟨_, G_V14⟩, by decide, by decide⟩
  obtain ⟨s_1, ev_s_1⟩ := exa_v c14
  have G_F15 : Fld s s.heap w_1 "com/example/meter_to_invoice/metertoinvoice/billing/Metering" "word" "Ljava/lang/String;" (.ref s_1) := own_fld ev_s_1 ev_w_1
  have E16 : Exa s s.heap s_1 "java/lang/String" := Exa.start ev_s_1 c14
  have G_I17 : Fld s s.heap s_1 "java/lang/String" "coder" "B" (.int (0 : Int32)) := own_fld (own_eqInt c15) ev_s_1
  obtain ⟨t_1, ev_t_1⟩ := arr_v c16
  have G_F18 : Fld s s.heap s_1 "java/lang/String" "value" "[B" (.ref t_1) := own_fld ev_t_1 ev_s_1
  obtain ⟨cl19, Ar19⟩ := Arr.start ev_t_1 c16
  obtain ⟨z19, zz19⟩ := own_len (own_eqInt c17) ev_t_1 Ar19
  have G_V19 : Arv s s.heap t_1 cl19.cls .byte (11 : Int32) [(.int (116 : Int32)), (.int (101 : Int32)), (.int (108 : Int32)), (.int (101 : Int32)), (.int (109 : Int32)), (.int (101 : Int32)), (.int (116 : Int32)), (.int (101 : Int32)), (.int (114 : Int32)), (.int (101 : Int32)), (.int (100 : Int32))] (.int 0) := Arv.start hfit Ar19 z19 zz19 (by decide) rfl ⟨own_elem (own_eqInt c40) ev_t_1 Ar19 rfl, own_elem (own_eqInt c41) ev_t_1 Ar19 rfl, own_elem (own_eqInt c42) ev_t_1 Ar19 rfl, own_elem (own_eqInt c43) ev_t_1 Ar19 rfl, own_elem (own_eqInt c44) ev_t_1 Ar19 rfl, own_elem (own_eqInt c45) ev_t_1 Ar19 rfl, own_elem (own_eqInt c46) ev_t_1 Ar19 rfl, own_elem (own_eqInt c47) ev_t_1 Ar19 rfl, own_elem (own_eqInt c48) ev_t_1 Ar19 rfl, own_elem (own_eqInt c49) ev_t_1 Ar19 rfl, own_elem (own_eqInt hn49) ev_t_1 Ar19 rfl, trivial⟩
  have G_T16 : own_Str s s.heap s_1 t_1 [(116 : Int32), (101 : Int32), (108 : Int32), (101 : Int32), (109 : Int32), (101 : Int32), (116 : Int32), (101 : Int32), (114 : Int32), (101 : Int32), (100 : Int32)] := ⟨E16, G_I17, G_F18, ⟨_, G_V19⟩, by decide, by decide⟩
  obtain ⟨s_2, ev_s_2⟩ := exa_v c18
  have G_F20 : Fld s s.heap w_2 "com/example/meter_to_invoice/metertoinvoice/billing/Metering" "word" "Ljava/lang/String;" (.ref s_2) := own_fld ev_s_2 ev_w_2
  have E21 : Exa s s.heap s_2 "java/lang/String" := Exa.start ev_s_2 c18
  have G_I22 : Fld s s.heap s_2 "java/lang/String" "coder" "B" (.int (0 : Int32)) := own_fld (own_eqInt c19) ev_s_2
  obtain ⟨t_2, ev_t_2⟩ := arr_v c20
  have G_F23 : Fld s s.heap s_2 "java/lang/String" "value" "[B" (.ref t_2) := own_fld ev_t_2 ev_s_2
  obtain ⟨cl24, Ar24⟩ := Arr.start ev_t_2 c20
  obtain ⟨z24, zz24⟩ := own_len (own_eqInt c21) ev_t_2 Ar24
  have G_V24 : Arv s s.heap t_2 cl24.cls .byte (3 : Int32) [(.int (99 : Int32)), (.int (110 : Int32)), (.int (103 : Int32))] (.int 0) := Arv.start hfit Ar24 z24 zz24 (by decide) rfl ⟨own_elem (own_eqInt c22) ev_t_2 Ar24 rfl, own_elem (own_eqInt c23) ev_t_2 Ar24 rfl, own_elem (own_eqInt c24) ev_t_2 Ar24 rfl, trivial⟩
  have G_T21 : own_Str s s.heap s_2 t_2 [(99 : Int32), (110 : Int32), (103 : Int32)] := ⟨E21, G_I22, G_F23, ⟨_, G_V24⟩, by decide, by decide⟩
  obtain ⟨n, o, h1, h2, h3, _, L, rfl, ⟨rfl, N, -⟩, hq⟩ := rm0 l s _ hw tables_1 i0 s.heap s.heap.size (Old.start s) (⟨G_cs, G_cs0, G_S1, G_S2, G_S3, G_S4, G_E5, G_E6, G_E7, G_E8, G_V9, G_F10, G_T11, G_F15, G_T16, G_F20, G_T21⟩ : own_St s (zc) (w_0) (w_1) (w_2) (wV) (cl9.cls) (s_0) (t_0) (s_1) (t_1) (s_2) (t_2)) p e ha hc hk s m _ below hf ((Spec.applies_iff_loose hf).mp happ).1 ⟨rfl, State.Warmed39.refl s, rfl⟩ trivial
  refine ⟨n, _, h1, h2, h3, hpost _ _ _ _ _ _ ⟨Cond.after_iff.mpr rfl, Cond.after_iff.mpr (eq_i res_at (Term.int_eval (1)) rfl), trivial⟩ ⟨hq.1, hq.2.1, (hq.2.2.sift fun y hy => Or.inr (N y hy)).mono (by decide) (by decide)⟩⟩
theorem main_1_1 : Claimed_1_1 := comes_1 fun _ _ _ _ _ _ h hF => ⟨h.1, hF⟩
theorem main_1_2 : Claimed_1_2 := comes_1 fun _ _ _ _ _ _ h hF => ⟨h.2.1, hF⟩
end Jvm.Pilot.@@N@@
namespace Jvm.Pilot.@@N@@
open Jvm Jvm.ClassFile Sem Op Lib Jvm.Free Jvm.Stand Jvm.Pilot.@@N@@.Jvm.D
/-! MADE BY PROGRAM (witnessworld.py) out of the Statement's table words and the real class files: 22 classes; the members and pool entries that the words name. The judged class is class 1, her method 1. -/
namespace start1
open Jvm.ClassFile
def u (s : String) : CpInfo := .utf8 (stringToUtf16 s)
/-- a pool by its gaps: so many unusable entries, then the entry; so many at the end -/
def gap : Nat → List CpInfo → List CpInfo
  | 0, r => r
  | n + 1, r => .unusable :: gap n r
def poolList (es : List (Nat × CpInfo)) (last : Nat) : List CpInfo := es.foldr (fun e r => gap e.1 (e.2 :: r)) (gap last [])
def pool (es : List (Nat × CpInfo)) (last : Nat) : Array CpInfo := ⟨poolList es last⟩
def fileOf (pool : Array CpInfo) (this : Nat) (attrs : Array Attribute := #[]) (ms : Array MethodInfo := #[]) (fl : Nat := 33) (sup : Nat := 0) (ifs : Array Nat := #[]) (fds : Array FieldInfo := #[]) : ClassFile where
  minorVersion := 0
  majorVersion := 65
  constantPool := pool
  accessFlags := fl
  thisClass := this
  superClass := sup
  interfaces := ifs
  fields := fds
  methods := ms
  attributes := attrs
def plain (name : String) (sup : Option ClassId) : Class where
  name := name
  kind := .ordinary
  loader := none
  accessFlags := 33
  super := sup
  interfaces := #[]
  cf := none
  fields := #[]
  methods := #[]
  instanceTypes := #[]
  staticTypes := #[]
  resolved := #[]
  callSites := []
  init := .initialized
  statics := none
  mirror := none

def pool0 : Array CpInfo := pool [(5, u "<init>"), (0, u "()V"), (1, .class_ 10), (1, u "java/lang/Object"), (85, u "clone"), (0, u "()Ljava/lang/Object;")] 26

def k0c0 : Code := { maxStack := 0, maxLocals := 1, code := object_method_1_code, exceptionTable := #[], attributes := #[] }
def k0m0 : Method := { name := "<init>", desc := "()V", sig := { parameters := [], returnType := none }, accessFlags := 1, code := some k0c0 }
def k0m1 : Method := { name := "clone", desc := "()Ljava/lang/Object;", sig := { parameters := [], returnType := some (.object "java/lang/Object") }, accessFlags := 260, code := none }
/-- java/lang/Object -/
def k0 : Class := { plain "java/lang/Object" none with
  accessFlags := 33
  interfaces := #[]
  cf := some (fileOf pool0 8 #[] #[{ accessFlags := 1, nameIndex := 5, descriptorIndex := 6, attributes := #[] }, { accessFlags := 260, nameIndex := 96, descriptorIndex := 97, attributes := #[] }] 33 0 #[] #[])
  fields := #[]
  methods := #[k0m0, k0m1]
  instanceTypes := #[]
  staticTypes := #[]
  resolved := Array.replicate 124 none
  statics := none }

def pool1 : Array CpInfo := pool [(2, .class_ 4), (1, u "java/lang/Object"), (0, u "<init>"), (0, u "()V"), (0, .integer 2147483647), (0, .fieldref 9 10), (0, .class_ 11), (0, .nameAndType 12 13), (0, u "com/example/meter_to_invoice/metertoinvoice/billing/Metering"), (0, u "NON_TELEMETERED"), (0, u "Lcom/example/meter_to_invoice/metertoinvoice/billing/Metering;"), (0, .fieldref 9 15), (0, .nameAndType 16 13), (0, u "TELEMETERED"), (0, .fieldref 9 18), (0, .nameAndType 19 13), (0, u "CNG_STATION"), (0, .class_ 21), (0, u "java/lang/String"), (0, .methodref 20 23), (0, .nameAndType 5 24), (0, u "([C)V"), (0, .methodref 9 26), (0, .nameAndType 27 28), (0, u "named"), (0, u "(Ljava/lang/String;)Lcom/example/meter_to_invoice/metertoinvoice/billing/Metering;"), (0, .methodref 9 30), (0, .nameAndType 31 32), (0, u "word"), (0, u "()Ljava/lang/String;"), (0, .methodref 20 34), (0, .nameAndType 35 36), (0, u "equals"), (0, u "(Ljava/lang/Object;)Z"), (0, .class_ 38), (0, u "com/example/meter_to_invoice/metertoinvoice/billing/MeteringNamedPinLaw"), (2, u "law"), (0, u "(I)Z")] 5

def k1m0 : Method := { name := "<init>", desc := "()V", sig := { parameters := [], returnType := none }, accessFlags := 1, code := none }
def k1c1 : Code := { maxStack := 4, maxLocals := 6, code := code, exceptionTable := #[], attributes := #[] }
def k1m1 : Method := { name := "law", desc := "(I)Z", sig := { parameters := [.int], returnType := some .boolean }, accessFlags := 9, code := some k1c1 }
/-- com/example/meter_to_invoice/metertoinvoice/billing/MeteringNamedPinLaw -/
def k1 : Class := { plain "com/example/meter_to_invoice/metertoinvoice/billing/MeteringNamedPinLaw" (some 0) with
  accessFlags := 49
  interfaces := #[]
  cf := some (fileOf pool1 37 #[] #[{ accessFlags := 1, nameIndex := 5, descriptorIndex := 6, attributes := #[] }, { accessFlags := 9, nameIndex := 41, descriptorIndex := 42, attributes := #[] }] 49 2 #[] #[])
  fields := #[]
  methods := #[k1m0, k1m1]
  instanceTypes := #[]
  staticTypes := #[]
  resolved := Array.replicate 48 none
  statics := none }

def pool2 : Array CpInfo := pool [(1, .class_ 2), (0, u "java/lang/constant/Constable"), (0, .class_ 4), (0, u "java/lang/Object")] 6

/-- java/lang/constant/Constable -/
def k2 : Class := { plain "java/lang/constant/Constable" (some 0) with
  accessFlags := 1537
  interfaces := #[]
  cf := some (fileOf pool2 1 #[] #[] 1537 3 #[] #[])
  fields := #[]
  methods := #[]
  instanceTypes := #[]
  staticTypes := #[]
  resolved := Array.replicate 11 none
  statics := none }

def pool3 : Array CpInfo := pool [(1, .class_ 2), (0, u "java/lang/Comparable"), (0, .class_ 4), (0, u "java/lang/Object")] 7

/-- java/lang/Comparable -/
def k3 : Class := { plain "java/lang/Comparable" (some 0) with
  accessFlags := 1537
  interfaces := #[]
  cf := some (fileOf pool3 1 #[] #[] 1537 3 #[] #[])
  fields := #[]
  methods := #[]
  instanceTypes := #[]
  staticTypes := #[]
  resolved := Array.replicate 12 none
  statics := none }

def pool4 : Array CpInfo := pool [(1, .class_ 2), (0, u "java/io/Serializable"), (0, .class_ 4), (0, u "java/lang/Object")] 2

/-- java/io/Serializable -/
def k4 : Class := { plain "java/io/Serializable" (some 0) with
  accessFlags := 1537
  interfaces := #[]
  cf := some (fileOf pool4 1 #[] #[] 1537 3 #[] #[])
  fields := #[]
  methods := #[]
  instanceTypes := #[]
  staticTypes := #[]
  resolved := Array.replicate 7 none
  statics := none }

def pool5 : Array CpInfo := pool [(2, .class_ 4), (1, u "java/lang/Enum"), (0, u "name"), (0, u "Ljava/lang/String;"), (2, u "ordinal"), (0, u "I"), (1, .class_ 14), (1, u "java/lang/Object"), (4, u "hash"), (86, .class_ 108), (1, u "java/lang/Enum$EnumDesc"), (2, .class_ 112), (0, u "java/lang/constant/Constable"), (0, .class_ 114), (0, u "java/lang/Comparable"), (0, .class_ 116), (0, u "java/io/Serializable")] 87

/-- java/lang/Enum -/
def k5 : Class := { plain "java/lang/Enum" (some 0) with
  accessFlags := 1057
  interfaces := #[2, 3, 4]
  cf := some (fileOf pool5 2 #[.nestMembers #[106]] #[] 1057 12 #[111, 113, 115] #[{ accessFlags := 18, nameIndex := 5, descriptorIndex := 6, attributes := #[] }, { accessFlags := 18, nameIndex := 9, descriptorIndex := 10, attributes := #[] }, { accessFlags := 2, nameIndex := 19, descriptorIndex := 10, attributes := #[] }])
  fields := #[{ name := "name", type := (.object "java/lang/String"), accessFlags := 18, slot := 0, constantValue := 0 }, { name := "ordinal", type := .int, accessFlags := 18, slot := 1, constantValue := 0 }, { name := "hash", type := .int, accessFlags := 2, slot := 2, constantValue := 0 }]
  methods := #[]
  instanceTypes := #[(.object "java/lang/String"), .int, .int]
  staticTypes := #[]
  resolved := Array.replicate 204 none
  statics := none }

def pool6 : Array CpInfo := pool [(1, .class_ 2), (0, u "com/example/meter_to_invoice/metertoinvoice/billing/Metering"), (2, u "NON_TELEMETERED"), (0, u "Lcom/example/meter_to_invoice/metertoinvoice/billing/Metering;"), (2, u "TELEMETERED"), (2, u "CNG_STATION"), (0, .fieldref 1 14), (0, .nameAndType 15 16), (0, u "$VALUES"), (0, u "[Lcom/example/meter_to_invoice/metertoinvoice/billing/Metering;"), (0, .methodref 18 19), (0, .class_ 16), (0, .nameAndType 20 21), (0, u "clone"), (0, u "()Ljava/lang/Object;"), (1, .class_ 25), (1, u "java/lang/Enum"), (6, .fieldref 1 33), (0, .nameAndType 34 35), (0, u "word"), (0, u "Ljava/lang/String;"), (2, u "label"), (0, .methodref 1 40), (0, .nameAndType 41 42), (0, u "values"), (0, u "()[Lcom/example/meter_to_invoice/metertoinvoice/billing/Metering;"), (0, .methodref 44 45), (0, .class_ 46), (0, .nameAndType 47 48), (0, u "java/lang/String"), (0, u "equals"), (0, u "(Ljava/lang/Object;)Z"), (29, u "(Ljava/lang/String;)Lcom/example/meter_to_invoice/metertoinvoice/billing/Metering;"), (3, u "()Ljava/lang/String;"), (0, u "named")] 24

def k6c0 : Code := { maxStack := 1, maxLocals := 0, code := prog_23_method_1_code, exceptionTable := #[], attributes := #[] }
def k6m0 : Method := { name := "values", desc := "()[Lcom/example/meter_to_invoice/metertoinvoice/billing/Metering;", sig := { parameters := [], returnType := some (.array (.object "com/example/meter_to_invoice/metertoinvoice/billing/Metering")) }, accessFlags := 9, code := some k6c0 }
def k6c1 : Code := { maxStack := 1, maxLocals := 1, code := prog_23_method_4_code, exceptionTable := #[], attributes := #[] }
def k6m1 : Method := { name := "word", desc := "()Ljava/lang/String;", sig := { parameters := [], returnType := some (.object "java/lang/String") }, accessFlags := 1, code := some k6c1 }
def k6c2 : Code := { maxStack := 3, maxLocals := 5, code := prog_23_method_6_code, exceptionTable := #[], attributes := #[] }
def k6m2 : Method := { name := "named", desc := "(Ljava/lang/String;)Lcom/example/meter_to_invoice/metertoinvoice/billing/Metering;", sig := { parameters := [(.object "java/lang/String")], returnType := some (.object "com/example/meter_to_invoice/metertoinvoice/billing/Metering") }, accessFlags := 9, code := some k6c2 }
/-- com/example/meter_to_invoice/metertoinvoice/billing/Metering -/
def k6 : Class := { plain "com/example/meter_to_invoice/metertoinvoice/billing/Metering" (some 5) with
  accessFlags := 16433
  interfaces := #[]
  cf := some (fileOf pool6 1 #[] #[{ accessFlags := 9, nameIndex := 41, descriptorIndex := 42, attributes := #[] }, { accessFlags := 1, nameIndex := 34, descriptorIndex := 82, attributes := #[] }, { accessFlags := 9, nameIndex := 83, descriptorIndex := 78, attributes := #[] }] 16433 23 #[] #[{ accessFlags := 16409, nameIndex := 5, descriptorIndex := 6, attributes := #[] }, { accessFlags := 16409, nameIndex := 9, descriptorIndex := 6, attributes := #[] }, { accessFlags := 16409, nameIndex := 12, descriptorIndex := 6, attributes := #[] }, { accessFlags := 18, nameIndex := 34, descriptorIndex := 35, attributes := #[] }, { accessFlags := 18, nameIndex := 38, descriptorIndex := 35, attributes := #[] }, { accessFlags := 4122, nameIndex := 15, descriptorIndex := 16, attributes := #[] }])
  fields := #[{ name := "NON_TELEMETERED", type := (.object "com/example/meter_to_invoice/metertoinvoice/billing/Metering"), accessFlags := 16409, slot := 0, constantValue := 0 }, { name := "TELEMETERED", type := (.object "com/example/meter_to_invoice/metertoinvoice/billing/Metering"), accessFlags := 16409, slot := 1, constantValue := 0 }, { name := "CNG_STATION", type := (.object "com/example/meter_to_invoice/metertoinvoice/billing/Metering"), accessFlags := 16409, slot := 2, constantValue := 0 }, { name := "word", type := (.object "java/lang/String"), accessFlags := 18, slot := 3, constantValue := 0 }, { name := "label", type := (.object "java/lang/String"), accessFlags := 18, slot := 4, constantValue := 0 }, { name := "$VALUES", type := (.array (.object "com/example/meter_to_invoice/metertoinvoice/billing/Metering")), accessFlags := 4122, slot := 3, constantValue := 0 }]
  methods := #[k6m0, k6m1, k6m2]
  instanceTypes := #[(.object "java/lang/String"), .int, .int, (.object "java/lang/String"), (.object "java/lang/String")]
  staticTypes := #[(.object "com/example/meter_to_invoice/metertoinvoice/billing/Metering"), (.object "com/example/meter_to_invoice/metertoinvoice/billing/Metering"), (.object "com/example/meter_to_invoice/metertoinvoice/billing/Metering"), (.array (.object "com/example/meter_to_invoice/metertoinvoice/billing/Metering"))]
  resolved := Array.replicate 108 none
  statics := some 0 }

def pool7 : Array CpInfo := pool [(2, .class_ 4), (1, u "java/lang/CharSequence"), (42, .class_ 48), (0, u "java/lang/CharSequence$1CodePointIterator"), (10, .class_ 60), (0, u "java/lang/CharSequence$1CharIterator"), (5, .class_ 67), (0, u "java/lang/Object")] 63

/-- java/lang/CharSequence -/
def k7 : Class := { plain "java/lang/CharSequence" (some 0) with
  accessFlags := 1537
  interfaces := #[]
  cf := some (fileOf pool7 2 #[.nestMembers #[47, 59]] #[] 1537 66 #[] #[])
  fields := #[]
  methods := #[]
  instanceTypes := #[]
  staticTypes := #[]
  resolved := Array.replicate 131 none
  statics := none }

def pool8 : Array CpInfo := pool [(1, .class_ 2), (0, u "java/lang/constant/ConstantDesc"), (0, .class_ 4), (0, u "java/lang/Object")] 32

/-- java/lang/constant/ConstantDesc -/
def k8 : Class := { plain "java/lang/constant/ConstantDesc" (some 0) with
  accessFlags := 1537
  interfaces := #[]
  cf := some (fileOf pool8 1 #[] #[] 1537 3 #[] #[])
  fields := #[]
  methods := #[]
  instanceTypes := #[]
  staticTypes := #[]
  resolved := Array.replicate 37 none
  statics := none }

def pool9 : Array CpInfo := pool [(1, .methodref 2 3), (0, .class_ 4), (0, .nameAndType 5 6), (0, u "java/lang/Object"), (0, u "<init>"), (0, u "()V"), (2, .fieldref 10 11), (0, .class_ 12), (0, .nameAndType 13 14), (0, u "java/lang/String"), (0, u "value"), (0, u "[B"), (0, .fieldref 10 16), (0, .nameAndType 17 18), (0, u "coder"), (0, u "B"), (2, u "hash"), (0, u "I"), (2, u "hashIsZero"), (0, u "Z"), (0, .methodref 10 28), (0, .nameAndType 5 29), (0, u "([CIILjava/lang/Void;)V"), (8, .fieldref 10 39), (0, .nameAndType 40 26), (0, u "COMPACT_STRINGS"), (1, .class_ 44), (1, u "java/lang/StringUTF16"), (0, u "compress"), (1, .methodref 42 48), (0, .nameAndType 49 50), (0, u "coderFromArrayLen"), (0, u "([BI)B"), (56, .class_ 109), (1, u "java/lang/StringLatin1"), (67, .methodref 42 178), (0, .nameAndType 45 179), (0, u "([CII)[B"), (361, .methodref 107 542), (0, .nameAndType 543 544), (0, u "equals"), (0, u "([B[B)Z"), (28, u "(Ljava/lang/Object;)Z"), (1, .class_ 576), (0, u "java/lang/CharSequence"), (22, u "CASE_INSENSITIVE_ORDER"), (0, u "Ljava/util/Comparator;"), (409, u "([C)V"), (90, u "serialPersistentFields"), (0, u "[Ljava/io/ObjectStreamField;"), (0, .class_ 1104), (0, u "java/lang/String$CaseInsensitiveComparator"), (1, .class_ 1107), (0, u "java/io/Serializable"), (0, .class_ 1109), (0, u "java/lang/Comparable"), (0, .class_ 1111), (0, u "java/lang/constant/Constable"), (0, .class_ 1113), (0, u "java/lang/constant/ConstantDesc"), (2, u "serialVersionUID"), (0, u "J"), (3, u "REPL"), (0, u "C"), (2, u "LATIN1"), (1, u "UTF16")] 323

def k9m0 : Method := { name := "<init>", desc := "()V", sig := { parameters := [], returnType := none }, accessFlags := 1, code := none }
def k9c1 : Code := { maxStack := 5, maxLocals := 2, code := jdk_42_method_3_code, exceptionTable := #[], attributes := #[] }
def k9m1 : Method := { name := "<init>", desc := "([C)V", sig := { parameters := [(.array .char)], returnType := none }, accessFlags := 1, code := some k9c1 }
def k9c2 : Code := { maxStack := 2, maxLocals := 3, code := jdk_42_method_66_code, exceptionTable := #[], attributes := #[] }
def k9m2 : Method := { name := "equals", desc := "(Ljava/lang/Object;)Z", sig := { parameters := [(.object "java/lang/Object")], returnType := some .boolean }, accessFlags := 1, code := some k9c2 }
def k9c3 : Code := { maxStack := 4, maxLocals := 6, code := jdk_42_method_149_code, exceptionTable := #[], attributes := #[] }
def k9m3 : Method := { name := "<init>", desc := "([CIILjava/lang/Void;)V", sig := { parameters := [(.array .char), .int, .int, (.object "java/lang/Void")], returnType := none }, accessFlags := 2, code := some k9c3 }
/-- java/lang/String -/
def k9 : Class := { plain "java/lang/String" (some 0) with
  accessFlags := 49
  interfaces := #[4, 3, 7, 2, 8]
  cf := some (fileOf pool9 10 #[.nestMembers #[1103]] #[{ accessFlags := 1, nameIndex := 5, descriptorIndex := 6, attributes := #[] }, { accessFlags := 1, nameIndex := 5, descriptorIndex := 1010, attributes := #[] }, { accessFlags := 1, nameIndex := 543, descriptorIndex := 573, attributes := #[] }, { accessFlags := 2, nameIndex := 5, descriptorIndex := 29, attributes := #[] }] 49 2 #[1106, 1108, 575, 1110, 1112] #[{ accessFlags := 18, nameIndex := 13, descriptorIndex := 14, attributes := #[] }, { accessFlags := 18, nameIndex := 17, descriptorIndex := 18, attributes := #[] }, { accessFlags := 2, nameIndex := 21, descriptorIndex := 22, attributes := #[] }, { accessFlags := 2, nameIndex := 25, descriptorIndex := 26, attributes := #[] }, { accessFlags := 26, nameIndex := 1116, descriptorIndex := 1117, attributes := #[] }, { accessFlags := 24, nameIndex := 40, descriptorIndex := 26, attributes := #[] }, { accessFlags := 26, nameIndex := 1101, descriptorIndex := 1102, attributes := #[] }, { accessFlags := 26, nameIndex := 1121, descriptorIndex := 1122, attributes := #[] }, { accessFlags := 25, nameIndex := 599, descriptorIndex := 600, attributes := #[] }, { accessFlags := 24, nameIndex := 1125, descriptorIndex := 18, attributes := #[] }, { accessFlags := 24, nameIndex := 1127, descriptorIndex := 18, attributes := #[] }])
  fields := #[{ name := "value", type := (.array .byte), accessFlags := 18, slot := 0, constantValue := 0 }, { name := "coder", type := .byte, accessFlags := 18, slot := 1, constantValue := 0 }, { name := "hash", type := .int, accessFlags := 2, slot := 2, constantValue := 0 }, { name := "hashIsZero", type := .boolean, accessFlags := 2, slot := 3, constantValue := 0 }, { name := "serialVersionUID", type := .long, accessFlags := 26, slot := 0, constantValue := 0 }, { name := "COMPACT_STRINGS", type := .boolean, accessFlags := 24, slot := 1, constantValue := 0 }, { name := "serialPersistentFields", type := (.array (.object "java/io/ObjectStreamField")), accessFlags := 26, slot := 2, constantValue := 0 }, { name := "REPL", type := .char, accessFlags := 26, slot := 3, constantValue := 0 }, { name := "CASE_INSENSITIVE_ORDER", type := (.object "java/util/Comparator"), accessFlags := 25, slot := 4, constantValue := 0 }, { name := "LATIN1", type := .byte, accessFlags := 24, slot := 5, constantValue := 0 }, { name := "UTF16", type := .byte, accessFlags := 24, slot := 6, constantValue := 0 }]
  methods := #[k9m0, k9m1, k9m2, k9m3]
  instanceTypes := #[(.array .byte), .byte, .int, .boolean]
  staticTypes := #[.long, .boolean, (.array (.object "java/io/ObjectStreamField")), .char, (.object "java/util/Comparator"), .byte, .byte]
  resolved := Array.replicate 1451 none
  statics := some 1 }

def pool10 : Array CpInfo := pool [(6, .class_ 8), (1, u "java/lang/Object"), (0, u "<init>"), (0, u "()V"), (1, .class_ 14), (1, u "java/lang/StringUTF16"), (31, u "$assertionsDisabled"), (0, u "Z"), (13, u "HI_BYTE_SHIFT"), (0, u "I"), (2, u "LO_BYTE_SHIFT"), (49, .methodref 12 116), (0, .nameAndType 117 118), (0, u "compress"), (0, u "([CI[BII)I"), (3, u "([CII)[B"), (138, u "coderFromArrayLen"), (0, u "([BI)B"), (106, .class_ 371), (1, u "java/lang/StringUTF16$LinesSpliterator"), (58, u "MAX_LENGTH"), (196, .class_ 628), (0, u "java/lang/StringUTF16$CodePointsSpliterator"), (0, .class_ 630), (0, u "java/lang/StringUTF16$CharsSpliterator")] 4

def k10m0 : Method := { name := "<init>", desc := "()V", sig := { parameters := [], returnType := none }, accessFlags := 0, code := none }
def k10c1 : Code := { maxStack := 2, maxLocals := 2, code := jdk_52_method_15_code, exceptionTable := #[], attributes := #[] }
def k10m1 : Method := { name := "coderFromArrayLen", desc := "([BI)B", sig := { parameters := [(.array .byte), .int], returnType := some .byte }, accessFlags := 8, code := some k10c1 }
def k10c2 : Code := { maxStack := 5, maxLocals := 6, code := jdk_52_method_16_code, exceptionTable := #[], attributes := #[] }
def k10m2 : Method := { name := "compress", desc := "([CII)[B", sig := { parameters := [(.array .char), .int, .int], returnType := some (.array .byte) }, accessFlags := 9, code := some k10c2 }
def k10c3 : Code := { maxStack := 3, maxLocals := 7, code := jdk_52_method_21_code, exceptionTable := #[], attributes := #[] }
def k10m3 : Method := { name := "compress", desc := "([CI[BII)I", sig := { parameters := [(.array .char), .int, (.array .byte), .int, .int], returnType := some .int }, accessFlags := 9, code := some k10c3 }
/-- java/lang/StringUTF16 -/
def k10 : Class := { plain "java/lang/StringUTF16" (some 0) with
  accessFlags := 48
  interfaces := #[]
  cf := some (fileOf pool10 12 #[.nestMembers #[627, 629, 369]] #[{ accessFlags := 0, nameIndex := 9, descriptorIndex := 10, attributes := #[] }, { accessFlags := 8, nameIndex := 261, descriptorIndex := 262, attributes := #[] }, { accessFlags := 9, nameIndex := 117, descriptorIndex := 122, attributes := #[] }, { accessFlags := 9, nameIndex := 117, descriptorIndex := 118, attributes := #[] }] 48 6 #[] #[{ accessFlags := 26, nameIndex := 61, descriptorIndex := 62, attributes := #[] }, { accessFlags := 26, nameIndex := 65, descriptorIndex := 62, attributes := #[] }, { accessFlags := 24, nameIndex := 430, descriptorIndex := 62, attributes := #[] }, { accessFlags := 4120, nameIndex := 46, descriptorIndex := 47, attributes := #[] }])
  fields := #[{ name := "HI_BYTE_SHIFT", type := .int, accessFlags := 26, slot := 0, constantValue := 0 }, { name := "LO_BYTE_SHIFT", type := .int, accessFlags := 26, slot := 1, constantValue := 0 }, { name := "MAX_LENGTH", type := .int, accessFlags := 24, slot := 2, constantValue := 0 }, { name := "$assertionsDisabled", type := .boolean, accessFlags := 4120, slot := 3, constantValue := 0 }]
  methods := #[k10m0, k10m1, k10m2, k10m3]
  instanceTypes := #[]
  staticTypes := #[.int, .int, .int, .boolean]
  resolved := Array.replicate 635 none
  statics := none }

def pool11 : Array CpInfo := pool [(1, .class_ 2), (0, u "java/lang/Cloneable"), (0, .class_ 4), (0, u "java/lang/Object")] 2

/-- java/lang/Cloneable -/
def k11 : Class := { plain "java/lang/Cloneable" (some 0) with
  accessFlags := 1537
  interfaces := #[]
  cf := some (fileOf pool11 1 #[] #[] 1537 3 #[] #[])
  fields := #[]
  methods := #[]
  instanceTypes := #[]
  staticTypes := #[]
  resolved := Array.replicate 7 none
  statics := none }

def pool12 : Array CpInfo := pool [(4, .class_ 6), (1, u "java/lang/Object"), (0, u "<init>"), (0, u "()V"), (5, .class_ 16), (1, u "java/lang/StringLatin1"), (104, u "$assertionsDisabled"), (0, u "Z"), (98, .class_ 223), (1, u "java/lang/StringLatin1$LinesSpliterator"), (57, u "equals"), (0, u "([B[B)Z"), (107, .class_ 391), (0, u "java/lang/StringLatin1$CharsSpliterator")] 3

def k12m0 : Method := { name := "<init>", desc := "()V", sig := { parameters := [], returnType := none }, accessFlags := 0, code := none }
def k12c1 : Code := { maxStack := 3, maxLocals := 3, code := jdk_43_method_13_code, exceptionTable := #[], attributes := #[] }
def k12m1 : Method := { name := "equals", desc := "([B[B)Z", sig := { parameters := [(.array .byte), (.array .byte)], returnType := some .boolean }, accessFlags := 9, code := some k12c1 }
/-- java/lang/StringLatin1 -/
def k12 : Class := { plain "java/lang/StringLatin1" (some 0) with
  accessFlags := 48
  interfaces := #[]
  cf := some (fileOf pool12 14 #[.nestMembers #[390, 221]] #[{ accessFlags := 0, nameIndex := 7, descriptorIndex := 8, attributes := #[] }, { accessFlags := 9, nameIndex := 281, descriptorIndex := 282, attributes := #[] }] 48 4 #[] #[{ accessFlags := 4120, nameIndex := 121, descriptorIndex := 122, attributes := #[] }])
  fields := #[{ name := "$assertionsDisabled", type := .boolean, accessFlags := 4120, slot := 0, constantValue := 0 }]
  methods := #[k12m0, k12m1]
  instanceTypes := #[]
  staticTypes := #[.boolean]
  resolved := Array.replicate 395 none
  statics := none }

def pool13 : Array CpInfo := pool [(2, .class_ 4), (1, u "java/lang/Object"), (0, u "<init>"), (0, u "()V"), (17, .class_ 26), (1, u "jdk/internal/util/Preconditions"), (28, .class_ 56), (0, u "jdk/internal/util/Preconditions$4"), (57, .class_ 115), (0, u "jdk/internal/util/Preconditions$1"), (7, u "SIOOBE_FORMATTER"), (0, u "Ljava/util/function/BiFunction;"), (0, .class_ 126), (0, u "jdk/internal/util/Preconditions$2"), (3, u "AIOOBE_FORMATTER"), (0, .class_ 132), (0, u "jdk/internal/util/Preconditions$3"), (3, u "IOOBE_FORMATTER")] 57

def k13m0 : Method := { name := "<init>", desc := "()V", sig := { parameters := [], returnType := none }, accessFlags := 1, code := none }
/-- jdk/internal/util/Preconditions -/
def k13 : Class := { plain "jdk/internal/util/Preconditions" (some 0) with
  accessFlags := 33
  interfaces := #[]
  cf := some (fileOf pool13 24 #[.nestMembers #[55, 131, 125, 114]] #[{ accessFlags := 1, nameIndex := 5, descriptorIndex := 6, attributes := #[] }] 33 2 #[] #[{ accessFlags := 25, nameIndex := 123, descriptorIndex := 124, attributes := #[] }, { accessFlags := 25, nameIndex := 130, descriptorIndex := 124, attributes := #[] }, { accessFlags := 25, nameIndex := 136, descriptorIndex := 124, attributes := #[] }])
  fields := #[{ name := "SIOOBE_FORMATTER", type := (.object "java/util/function/BiFunction"), accessFlags := 25, slot := 0, constantValue := 0 }, { name := "AIOOBE_FORMATTER", type := (.object "java/util/function/BiFunction"), accessFlags := 25, slot := 1, constantValue := 0 }, { name := "IOOBE_FORMATTER", type := (.object "java/util/function/BiFunction"), accessFlags := 25, slot := 2, constantValue := 0 }]
  methods := #[k13m0]
  instanceTypes := #[]
  staticTypes := #[(.object "java/util/function/BiFunction"), (.object "java/util/function/BiFunction"), (.object "java/util/function/BiFunction")]
  resolved := Array.replicate 194 none
  statics := some 2 }

def pool14 : Array CpInfo := pool [(9, u "<init>"), (6, .class_ 18), (1, u "java/lang/Object"), (0, u "()V"), (1, .class_ 23), (1, u "jdk/internal/util/ArraysSupport"), (0, u "LOG2_ARRAY_LONG_INDEX_SCALE"), (0, u "I"), (2, u "U"), (0, u "Ljdk/internal/misc/Unsafe;"), (8, u "BIG_ENDIAN"), (0, u "Z"), (8, u "LOG2_BYTE_BIT_SIZE"), (4, u "LOG2_ARRAY_INT_INDEX_SCALE"), (54, u "JLA"), (0, u "Ljdk/internal/access/JavaLangAccess;"), (11, u "LOG2_ARRAY_BOOLEAN_INDEX_SCALE"), (9, u "LOG2_ARRAY_BYTE_INDEX_SCALE"), (5, u "LOG2_ARRAY_CHAR_INDEX_SCALE"), (5, u "LOG2_ARRAY_SHORT_INDEX_SCALE"), (18, u "LOG2_ARRAY_FLOAT_INDEX_SCALE"), (24, u "LOG2_ARRAY_DOUBLE_INDEX_SCALE"), (89, u "T_BOOLEAN"), (2, u "T_CHAR"), (1, u "T_FLOAT"), (1, u "T_DOUBLE"), (1, u "T_BYTE"), (1, u "T_SHORT"), (1, u "T_INT"), (1, u "T_LONG"), (1, u "SOFT_MAX_ARRAY_LENGTH")] 83

def k14m0 : Method := { name := "<init>", desc := "()V", sig := { parameters := [], returnType := none }, accessFlags := 2, code := none }
/-- jdk/internal/util/ArraysSupport -/
def k14 : Class := { plain "jdk/internal/util/ArraysSupport" (some 0) with
  accessFlags := 33
  interfaces := #[]
  cf := some (fileOf pool14 21 #[] #[{ accessFlags := 2, nameIndex := 9, descriptorIndex := 19, attributes := #[] }] 33 16 #[] #[{ accessFlags := 24, nameIndex := 28, descriptorIndex := 29, attributes := #[] }, { accessFlags := 26, nameIndex := 38, descriptorIndex := 39, attributes := #[] }, { accessFlags := 25, nameIndex := 121, descriptorIndex := 25, attributes := #[] }, { accessFlags := 25, nameIndex := 131, descriptorIndex := 25, attributes := #[] }, { accessFlags := 25, nameIndex := 137, descriptorIndex := 25, attributes := #[] }, { accessFlags := 25, nameIndex := 143, descriptorIndex := 25, attributes := #[] }, { accessFlags := 25, nameIndex := 53, descriptorIndex := 25, attributes := #[] }, { accessFlags := 25, nameIndex := 24, descriptorIndex := 25, attributes := #[] }, { accessFlags := 25, nameIndex := 162, descriptorIndex := 25, attributes := #[] }, { accessFlags := 25, nameIndex := 187, descriptorIndex := 25, attributes := #[] }, { accessFlags := 26, nameIndex := 48, descriptorIndex := 25, attributes := #[] }, { accessFlags := 25, nameIndex := 277, descriptorIndex := 25, attributes := #[] }, { accessFlags := 25, nameIndex := 280, descriptorIndex := 25, attributes := #[] }, { accessFlags := 25, nameIndex := 282, descriptorIndex := 25, attributes := #[] }, { accessFlags := 25, nameIndex := 284, descriptorIndex := 25, attributes := #[] }, { accessFlags := 25, nameIndex := 286, descriptorIndex := 25, attributes := #[] }, { accessFlags := 25, nameIndex := 288, descriptorIndex := 25, attributes := #[] }, { accessFlags := 25, nameIndex := 290, descriptorIndex := 25, attributes := #[] }, { accessFlags := 25, nameIndex := 292, descriptorIndex := 25, attributes := #[] }, { accessFlags := 26, nameIndex := 108, descriptorIndex := 109, attributes := #[] }, { accessFlags := 25, nameIndex := 294, descriptorIndex := 25, attributes := #[] }])
  fields := #[{ name := "U", type := (.object "jdk/internal/misc/Unsafe"), accessFlags := 24, slot := 0, constantValue := 0 }, { name := "BIG_ENDIAN", type := .boolean, accessFlags := 26, slot := 1, constantValue := 0 }, { name := "LOG2_ARRAY_BOOLEAN_INDEX_SCALE", type := .int, accessFlags := 25, slot := 2, constantValue := 0 }, { name := "LOG2_ARRAY_BYTE_INDEX_SCALE", type := .int, accessFlags := 25, slot := 3, constantValue := 0 }, { name := "LOG2_ARRAY_CHAR_INDEX_SCALE", type := .int, accessFlags := 25, slot := 4, constantValue := 0 }, { name := "LOG2_ARRAY_SHORT_INDEX_SCALE", type := .int, accessFlags := 25, slot := 5, constantValue := 0 }, { name := "LOG2_ARRAY_INT_INDEX_SCALE", type := .int, accessFlags := 25, slot := 6, constantValue := 0 }, { name := "LOG2_ARRAY_LONG_INDEX_SCALE", type := .int, accessFlags := 25, slot := 7, constantValue := 0 }, { name := "LOG2_ARRAY_FLOAT_INDEX_SCALE", type := .int, accessFlags := 25, slot := 8, constantValue := 0 }, { name := "LOG2_ARRAY_DOUBLE_INDEX_SCALE", type := .int, accessFlags := 25, slot := 9, constantValue := 0 }, { name := "LOG2_BYTE_BIT_SIZE", type := .int, accessFlags := 26, slot := 10, constantValue := 0 }, { name := "T_BOOLEAN", type := .int, accessFlags := 25, slot := 11, constantValue := 0 }, { name := "T_CHAR", type := .int, accessFlags := 25, slot := 12, constantValue := 0 }, { name := "T_FLOAT", type := .int, accessFlags := 25, slot := 13, constantValue := 0 }, { name := "T_DOUBLE", type := .int, accessFlags := 25, slot := 14, constantValue := 0 }, { name := "T_BYTE", type := .int, accessFlags := 25, slot := 15, constantValue := 0 }, { name := "T_SHORT", type := .int, accessFlags := 25, slot := 16, constantValue := 0 }, { name := "T_INT", type := .int, accessFlags := 25, slot := 17, constantValue := 0 }, { name := "T_LONG", type := .int, accessFlags := 25, slot := 18, constantValue := 0 }, { name := "JLA", type := (.object "jdk/internal/access/JavaLangAccess"), accessFlags := 26, slot := 19, constantValue := 0 }, { name := "SOFT_MAX_ARRAY_LENGTH", type := .int, accessFlags := 25, slot := 20, constantValue := 0 }]
  methods := #[k14m0]
  instanceTypes := #[]
  staticTypes := #[(.object "jdk/internal/misc/Unsafe"), .boolean, .int, .int, .int, .int, .int, .int, .int, .int, .int, .int, .int, .int, .int, .int, .int, .int, .int, (.object "jdk/internal/access/JavaLangAccess"), .int]
  resolved := Array.replicate 378 none
  statics := none }

/-- the primitive byte -/
def k15 : Class := { plain "byte" none with kind := .primitive 'B', accessFlags := 0x411 }
/-- [B -/
def k16 : Class := { plain "[B" (some 0) with kind := .array 15 .byte, interfaces := #[11, 4], accessFlags := 1041 }

/-- the primitive char -/
def k17 : Class := { plain "char" none with kind := .primitive 'C', accessFlags := 0x411 }
/-- [C -/
def k18 : Class := { plain "[C" (some 0) with kind := .array 17 .char, interfaces := #[11, 4], accessFlags := 1041 }

/-- the primitive int -/
def k19 : Class := { plain "int" none with kind := .primitive 'I', accessFlags := 0x411 }
/-- [I -/
def k20 : Class := { plain "[I" (some 0) with kind := .array 19 .int, interfaces := #[11, 4], accessFlags := 1041 }

/-- [Lcom/example/meter_to_invoice/metertoinvoice/billing/Metering; -/
def k21 : Class := { plain "[Lcom/example/meter_to_invoice/metertoinvoice/billing/Metering;" (some 0) with kind := .array 6 (.object "com/example/meter_to_invoice/metertoinvoice/billing/Metering"), interfaces := #[11, 4], accessFlags := 1041 }

def heap : Heap := #[{ cls := 6, slots := #[.ref 4, .ref 5, .ref 6, .ref 3], vm := .statics 6 },
  { cls := 9, slots := #[.long 0, .int 1, .null, .int 0, .null, .int 0, .int 0], vm := .statics 9 },
  { cls := 13, slots := #[.null, .null, .null], vm := .statics 13 },
  { cls := 21, slots := #[.ref 4, .ref 5, .ref 6], vm := .none },
  { cls := 6, slots := #[.null, .int 0, .int 0, .ref 7, .null], vm := .none },
  { cls := 6, slots := #[.null, .int 0, .int 0, .ref 8, .null], vm := .none },
  { cls := 6, slots := #[.null, .int 0, .int 0, .ref 9, .null], vm := .none },
  { cls := 9, slots := #[.ref 10, .int 0, .int 0, .int 0], vm := .none },
  { cls := 9, slots := #[.ref 11, .int 0, .int 0, .int 0], vm := .none },
  { cls := 9, slots := #[.ref 12, .int 0, .int 0, .int 0], vm := .none },
  { cls := 16, slots := #[.int 110, .int 111, .int 110, .int 45, .int 116, .int 101, .int 108, .int 101, .int 109, .int 101, .int 116, .int 101, .int 114, .int 101, .int 100], vm := .none },
  { cls := 16, slots := #[.int 116, .int 101, .int 108, .int 101, .int 109, .int 101, .int 116, .int 101, .int 114, .int 101, .int 100], vm := .none },
  { cls := 16, slots := #[.int 99, .int 110, .int 103], vm := .none }]
def classes : Array Class := #[k0, k1, k2, k3, k4, k5, k6, k7, k8, k9, k10, k11, k12, k13, k14, k15, k16, k17, k18, k19, k20, k21]
def interned : List (Array UInt16 × Addr) := []
def slotsUsed : Nat := 73
def theMethod : MethodId := ⟨1, 1⟩
def args0 : Array Value := #[.int 5]
def aboutOver (below : List Frame) : State where
  vm := { classes := classes, interned := interned.toArray }
  heap := heap
  slotsUsed := slotsUsed
  threads := #[{ frames := .invoking theMethod args0 :: below }]
def below0 : List Frame := [.native { method := ⟨0, 0⟩, args := #[] }]
def about1 : State := aboutOver below0
def p0 : Program := .bare "" "" ""
def e0 : Env := launch0.env 0 0 0
theorem w_frames : about1.frames = Frame.invoking theMethod args0 :: below0 := rfl
set_option maxRecDepth 65536 in
theorem w_args : argsFit about1.vm theMethod args0 = true := by decide +kernel
set_option maxRecDepth 65536 in
theorem w_heap : heapFits about1 = true := by decide +kernel
set_option maxRecDepth 65536 in
theorem w_runnable : about1.curStatus? = some .runnable := by decide +kernel
set_option maxRecDepth 65536 in
theorem w_alone : about1.alone = true := by decide +kernel
set_option maxRecDepth 65536 in
theorem w_named : about1.methodNamed? x = some theMethod := by decide +kernel
set_option maxRecDepth 65536 in
theorem w_hears : about1.hears theMethod below0 = true := by decide +kernel
set_option maxRecDepth 65536 in
theorem w_ripe : about1.ripe theMethod args0 below0 = true := by decide +kernel
theorem w_running : about1.status = .running := rfl
set_option maxRecDepth 65536 in
theorem w_room : about1.hasRoom e0.platform room_1 = true :=
  launch0.hasRoom_least _ room_1 (by decide +kernel) (by decide +kernel) (by decide +kernel) (by decide +kernel) (by decide +kernel) (by decide +kernel)
theorem allAtoms_all (ts : List Jvm.Cond) (a : Array Jvm.Value) (st : Jvm.State) : (allAtoms ts).before a st = ts.all (fun c => c.before a st) := by
  induction ts with
  | nil => rfl
  | cons c t ih =>
    show (Jvm.Cond.and c (allAtoms t)).before a st = _
    rw [Jvm.Cond.before_and, ih, List.all_cons]
def words1 : List Jvm.Cond := Jvm.Cond.code x code maxLocals ret :: tables_1
/-- a 'code' word, met by the world's own term for the bytes: nothing is compared byte by byte -/
theorem code_word {y : MethodName} {bytes : ByteArray} {mx : Nat} {rt : Option FieldType} {a : Array Value} {s : State} {m : MethodId} {meth : Method} {c : Code} (h1 : s.methodNamed? y = some m) (h2 : s.vm.method? m = some meth) (h3 : meth.code = some c) (h4 : c.code = bytes)
    (h5 : (c.maxLocals == mx && c.exceptionTable.isEmpty && decide (c.maxStack ≤ mostOperands) && decide (meth.sig.returnType = rt) && !meth.locks && decide (parseMethodDescriptor y.desc = some meth.sig)) = true) : (Jvm.Cond.code y bytes mx rt).before a s = true := by
  simp only [Bool.and_eq_true, beq_iff_eq, Bool.not_eq_true', decide_eq_true_eq] at h5
  obtain ⟨⟨⟨⟨⟨g1, g2⟩, g3⟩, g4⟩, g5⟩, g6⟩ := h5
  simp [Cond.before, Cond.holds, Cond.value, h1, h2, h3, h4, g1, g2, g3, g4, g5, g6]
def isCode : Jvm.Cond → Bool
  | .code _ _ _ _ => true
  | _ => false
theorem all_split {L : List Jvm.Cond} {P : Jvm.Cond → Bool} (h1 : L.all (fun c => isCode c || P c) = true) (h2 : ∀ c ∈ L.filter isCode, P c = true) : L.all P = true := by
  refine List.all_eq_true.mpr fun c hc => ?_
  have h := List.all_eq_true.mp h1 c hc
  rcases Bool.eq_false_or_eq_true (isCode c) with hi | hi
  · exact h2 c (List.mem_filter.mpr ⟨hc, hi⟩)
  · simpa [hi] using h
set_option maxRecDepth 65536 in
theorem w_c0 : (Jvm.Cond.code x code maxLocals ret).before args0 about1 = true := code_word (m := ⟨1, 1⟩) (meth := k1m1) (c := k1c1) (by decide +kernel) rfl rfl rfl (by decide +kernel)
set_option maxRecDepth 65536 in
theorem w_c1 : (Jvm.Cond.code ({ cls := "java/lang/String", name := "<init>", desc := "([C)V" } : Jvm.MethodName) jdk_42_method_3_code (2 : Nat) (Option.none : Option Jvm.ClassFile.FieldType)).before args0 about1 = true := code_word (m := ⟨9, 1⟩) (meth := k9m1) (c := k9c1) (by decide +kernel) rfl rfl rfl (by decide +kernel)
set_option maxRecDepth 65536 in
theorem w_c2 : (Jvm.Cond.code ({ cls := "java/lang/String", name := "<init>", desc := "([CIILjava/lang/Void;)V" } : Jvm.MethodName) jdk_42_method_149_code (6 : Nat) (Option.none : Option Jvm.ClassFile.FieldType)).before args0 about1 = true := code_word (m := ⟨9, 3⟩) (meth := k9m3) (c := k9c3) (by decide +kernel) rfl rfl rfl (by decide +kernel)
set_option maxRecDepth 65536 in
theorem w_c3 : (Jvm.Cond.code ({ cls := "java/lang/Object", name := "<init>", desc := "()V" } : Jvm.MethodName) object_method_1_code (1 : Nat) (Option.none : Option Jvm.ClassFile.FieldType)).before args0 about1 = true := code_word (m := ⟨0, 0⟩) (meth := k0m0) (c := k0c0) (by decide +kernel) rfl rfl rfl (by decide +kernel)
set_option maxRecDepth 65536 in
theorem w_c4 : (Jvm.Cond.code ({ cls := "java/lang/StringUTF16", name := "compress", desc := "([CII)[B" } : Jvm.MethodName) jdk_52_method_16_code (6 : Nat) (Option.some (Jvm.ClassFile.FieldType.array Jvm.ClassFile.FieldType.byte))).before args0 about1 = true := code_word (m := ⟨10, 2⟩) (meth := k10m2) (c := k10c2) (by decide +kernel) rfl rfl rfl (by decide +kernel)
set_option maxRecDepth 65536 in
theorem w_c5 : (Jvm.Cond.code ({ cls := "java/lang/StringUTF16", name := "compress", desc := "([CI[BII)I" } : Jvm.MethodName) jdk_52_method_21_code (7 : Nat) (Option.some Jvm.ClassFile.FieldType.int)).before args0 about1 = true := code_word (m := ⟨10, 3⟩) (meth := k10m3) (c := k10c3) (by decide +kernel) rfl rfl rfl (by decide +kernel)
set_option maxRecDepth 65536 in
theorem w_c6 : (Jvm.Cond.code ({ cls := "java/lang/StringUTF16", name := "coderFromArrayLen", desc := "([BI)B" } : Jvm.MethodName) jdk_52_method_15_code (2 : Nat) (Option.some Jvm.ClassFile.FieldType.byte)).before args0 about1 = true := code_word (m := ⟨10, 1⟩) (meth := k10m1) (c := k10c1) (by decide +kernel) rfl rfl rfl (by decide +kernel)
set_option maxRecDepth 65536 in
theorem w_c7 : (Jvm.Cond.code ({ cls := "com/example/meter_to_invoice/metertoinvoice/billing/Metering", name := "named", desc := "(Ljava/lang/String;)Lcom/example/meter_to_invoice/metertoinvoice/billing/Metering;" } : Jvm.MethodName) prog_23_method_6_code (5 : Nat) (Option.some (Jvm.ClassFile.FieldType.object "com/example/meter_to_invoice/metertoinvoice/billing/Metering"))).before args0 about1 = true := code_word (m := ⟨6, 2⟩) (meth := k6m2) (c := k6c2) (by decide +kernel) rfl rfl rfl (by decide +kernel)
set_option maxRecDepth 65536 in
theorem w_c8 : (Jvm.Cond.code ({ cls := "com/example/meter_to_invoice/metertoinvoice/billing/Metering", name := "values", desc := "()[Lcom/example/meter_to_invoice/metertoinvoice/billing/Metering;" } : Jvm.MethodName) prog_23_method_1_code (0 : Nat) (Option.some (Jvm.ClassFile.FieldType.array (Jvm.ClassFile.FieldType.object "com/example/meter_to_invoice/metertoinvoice/billing/Metering")))).before args0 about1 = true := code_word (m := ⟨6, 0⟩) (meth := k6m0) (c := k6c0) (by decide +kernel) rfl rfl rfl (by decide +kernel)
set_option maxRecDepth 65536 in
theorem w_c9 : (Jvm.Cond.code ({ cls := "java/lang/String", name := "equals", desc := "(Ljava/lang/Object;)Z" } : Jvm.MethodName) jdk_42_method_66_code (3 : Nat) (Option.some Jvm.ClassFile.FieldType.boolean)).before args0 about1 = true := code_word (m := ⟨9, 2⟩) (meth := k9m2) (c := k9c2) (by decide +kernel) rfl rfl rfl (by decide +kernel)
set_option maxRecDepth 65536 in
theorem w_c10 : (Jvm.Cond.code ({ cls := "java/lang/StringLatin1", name := "equals", desc := "([B[B)Z" } : Jvm.MethodName) jdk_43_method_13_code (3 : Nat) (Option.some Jvm.ClassFile.FieldType.boolean)).before args0 about1 = true := code_word (m := ⟨12, 1⟩) (meth := k12m1) (c := k12c1) (by decide +kernel) rfl rfl rfl (by decide +kernel)
set_option maxRecDepth 65536 in
theorem w_c11 : (Jvm.Cond.code ({ cls := "com/example/meter_to_invoice/metertoinvoice/billing/Metering", name := "word", desc := "()Ljava/lang/String;" } : Jvm.MethodName) prog_23_method_4_code (1 : Nat) (Option.some (Jvm.ClassFile.FieldType.object "java/lang/String"))).before args0 about1 = true := code_word (m := ⟨6, 1⟩) (meth := k6m1) (c := k6c1) (by decide +kernel) rfl rfl rfl (by decide +kernel)
def codes1 : List Jvm.Cond := [Jvm.Cond.code x code maxLocals ret, Jvm.Cond.code ({ cls := "java/lang/String", name := "<init>", desc := "([C)V" } : Jvm.MethodName) jdk_42_method_3_code (2 : Nat) (Option.none : Option Jvm.ClassFile.FieldType), Jvm.Cond.code ({ cls := "java/lang/String", name := "<init>", desc := "([CIILjava/lang/Void;)V" } : Jvm.MethodName) jdk_42_method_149_code (6 : Nat) (Option.none : Option Jvm.ClassFile.FieldType), Jvm.Cond.code ({ cls := "java/lang/Object", name := "<init>", desc := "()V" } : Jvm.MethodName) object_method_1_code (1 : Nat) (Option.none : Option Jvm.ClassFile.FieldType), Jvm.Cond.code ({ cls := "java/lang/StringUTF16", name := "compress", desc := "([CII)[B" } : Jvm.MethodName) jdk_52_method_16_code (6 : Nat) (Option.some (Jvm.ClassFile.FieldType.array Jvm.ClassFile.FieldType.byte)), Jvm.Cond.code ({ cls := "java/lang/StringUTF16", name := "compress", desc := "([CI[BII)I" } : Jvm.MethodName) jdk_52_method_21_code (7 : Nat) (Option.some Jvm.ClassFile.FieldType.int), Jvm.Cond.code ({ cls := "java/lang/StringUTF16", name := "coderFromArrayLen", desc := "([BI)B" } : Jvm.MethodName) jdk_52_method_15_code (2 : Nat) (Option.some Jvm.ClassFile.FieldType.byte), Jvm.Cond.code ({ cls := "com/example/meter_to_invoice/metertoinvoice/billing/Metering", name := "named", desc := "(Ljava/lang/String;)Lcom/example/meter_to_invoice/metertoinvoice/billing/Metering;" } : Jvm.MethodName) prog_23_method_6_code (5 : Nat) (Option.some (Jvm.ClassFile.FieldType.object "com/example/meter_to_invoice/metertoinvoice/billing/Metering")), Jvm.Cond.code ({ cls := "com/example/meter_to_invoice/metertoinvoice/billing/Metering", name := "values", desc := "()[Lcom/example/meter_to_invoice/metertoinvoice/billing/Metering;" } : Jvm.MethodName) prog_23_method_1_code (0 : Nat) (Option.some (Jvm.ClassFile.FieldType.array (Jvm.ClassFile.FieldType.object "com/example/meter_to_invoice/metertoinvoice/billing/Metering"))), Jvm.Cond.code ({ cls := "java/lang/String", name := "equals", desc := "(Ljava/lang/Object;)Z" } : Jvm.MethodName) jdk_42_method_66_code (3 : Nat) (Option.some Jvm.ClassFile.FieldType.boolean), Jvm.Cond.code ({ cls := "java/lang/StringLatin1", name := "equals", desc := "([B[B)Z" } : Jvm.MethodName) jdk_43_method_13_code (3 : Nat) (Option.some Jvm.ClassFile.FieldType.boolean), Jvm.Cond.code ({ cls := "com/example/meter_to_invoice/metertoinvoice/billing/Metering", name := "word", desc := "()Ljava/lang/String;" } : Jvm.MethodName) prog_23_method_4_code (1 : Nat) (Option.some (Jvm.ClassFile.FieldType.object "java/lang/String"))]
set_option maxRecDepth 65536 in
theorem codes_eq : words1.filter isCode = codes1 := rfl
theorem w_codes : ∀ c ∈ words1.filter isCode, c.before args0 about1 = true := by
  rw [codes_eq]
  intro c hc
  simp only [codes1, List.mem_cons, List.not_mem_nil, or_false] at hc
  rcases hc with rfl | rfl | rfl | rfl | rfl | rfl | rfl | rfl | rfl | rfl | rfl | rfl
  · exact w_c0
  · exact w_c1
  · exact w_c2
  · exact w_c3
  · exact w_c4
  · exact w_c5
  · exact w_c6
  · exact w_c7
  · exact w_c8
  · exact w_c9
  · exact w_c10
  · exact w_c11
set_option maxRecDepth 65536 in
theorem w_t1 : (words1.take 24).all (fun c => isCode c || c.before args0 about1) = true := by decide +kernel
set_option maxRecDepth 65536 in
theorem w_t2 : ((words1.drop 24).take 24).all (fun c => isCode c || c.before args0 about1) = true := by decide +kernel
set_option maxRecDepth 65536 in
theorem w_t3 : (((words1.drop 24).drop 24).take 24).all (fun c => isCode c || c.before args0 about1) = true := by decide +kernel
set_option maxRecDepth 65536 in
theorem w_t4 : (((words1.drop 24).drop 24).drop 24).all (fun c => isCode c || c.before args0 about1) = true := by decide +kernel
theorem w_tables : (allAtoms (Jvm.Cond.code x code maxLocals ret :: tables_1)).before args0 about1 = true := by
  rw [allAtoms_all]
  show words1.all (fun c => c.before args0 about1) = true
  refine all_split ?_ w_codes
  rw [← List.take_append_drop 24 words1, List.all_append, w_t1, ← List.take_append_drop 24 (words1.drop 24), List.all_append, w_t2, ← List.take_append_drop 24 ((words1.drop 24).drop 24), List.all_append, w_t3, w_t4]
  rfl
set_option maxRecDepth 65536 in
theorem w_rest : rest_1_c.before args0 about1 = true := by decide +kernel
set_option maxRecDepth 65536 in
theorem w_case : (Jvm.Cond.and given_1 narrow_1).before args0 about1 = true := by decide +kernel
theorem w_applies : (headSpec (Jvm.Cond.code x code maxLocals ret :: tables_1) room_1).applies x e0.platform about1 = true :=
  (Spec.applies_iff w_frames).mpr ⟨w_running, w_runnable, w_alone, w_named, w_hears, w_ripe, w_room, w_tables⟩
theorem atStart : AtStart classFile x code maxLocals ret World_1 tables_1 room_1 Calls_1 rest_1 Pre_1 launch0 p0 e0 about1 theMethod args0 below0 :=
  ⟨lists_1, trivial, launch0.admits_env _ _ _, launch0.least_env, fairChoices_fair.cas, fairChoices_fair.clock, w_frames, w_args, w_heap, w_applies, trivial, w_rest, w_case⟩
end start1
theorem witness_1 : WitnessClaimed_1 := ⟨start1.p0, start1.e0, start1.about1, start1.theMethod, start1.args0, start1.below0, start1.atStart⟩
end Jvm.Pilot.@@N@@
