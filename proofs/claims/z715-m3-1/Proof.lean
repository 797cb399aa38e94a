import JvmDerived
import JvmDerived.Pilot.@@N@@Statement
import JvmDerived.Pilot.@@N@@Code
set_option linter.unusedVariables false
set_option linter.unusedSimpArgs false
namespace Jvm.RoadKit
open Sem ClassFile Op Lib Jvm.Stand Jvm.Free Jvm.LawKit
section New
variable {p : Program} {l : Launch} {e : Env} {R : Room} {s : State} {m : MethodId} {args : Array Value} {below : List Frame} {meth : Method} {c : Code} {T : State} {locs : List Loc} {cells slots : Nat}
theorem retI (X : Stand p l e R s m args below meth c T locs cells slots) (hx : p.tables.exec = Jvm.exec) {pc : Nat} {Ls : Array Slot} {z : Int32} {rest : List Value} (hret : meth.sig.returnType = some .int) (hd : decode c.code pc = .ok (.ireturn, 1)) {fs : List Frame}
    (hl : ∀ (f : JFrame) (acts : List Action), f.method = m → f.locked = none → f.entered = [] → (doReturn e (T.setTop f) acts (some (.int z))).1 = T.setFrames fs) : Steps p.tables e below (T.setTop (mkF m pc Ls (.int z :: rest))) (T.setFrames fs) := by
  have hm' : T.vm.method? m = some meth := X.method'
  have hn : narrow .int (.int z) = .int z := rfl
  show Steps p.tables e below (T.setTop { method := m, pc := pc, locals := Ls, stack := _ :: rest, locked := none }) _
  jvm_step X.here [X.here.top, hx, hd, hm', hret, hn]
  first | (intro acts; rw [hl _ acts rfl rfl rfl]) | rw [hl _ _ rfl rfl rfl]
  exact Steps.refl _
end New
end Jvm.RoadKit
/- laws to paste: Road.backV, Road.eqW, codOf (cut by pick.py; bodies as the Statement names them) -/
namespace Jvm.Pilot.@@N@@
namespace StrChars
open Jvm Sem ClassFile Op Lib Jvm.Stand Jvm.Free.XT Jvm.Free.ALB Jvm.Free.JM Jvm.Free
open Jvm.Lib.Cold (StaticIs)
/-- a char array whose places are chars -/
def Ch (a : Addr) (A : Cell) (U : State) : Prop := Arr .char a A U ∧ Typed .char A
theorem Ch.mv {a : Addr} {A : Cell} {U U' : State} (h : Ch a A U) (hal : U.vm.Alike U'.vm) (hh : U'.heap = U.heap) : Ch a A U' := ⟨h.1.mv hal hh, h.2⟩
theorem Ch.keep {a : Addr} {A : Cell} {U U' : State} (h : Ch a A U) (hal : U.vm.Alike U'.vm) (hk : U'.heap[a]? = some A) : Ch a A U' := ⟨h.1.keep hal hk, h.2⟩
/-- what place i of a char[]'s cell holds -/
def cv (A : Cell) (i : Nat) : Int32 := match A.slots[i]? with | some (.int x) => x | _ => 0
theorem Ch.get {a : Addr} {A : Cell} {U : State} (h : Ch a A U) {i : Nat} (hi : i < A.slots.size) : A.slots[i]? = some (.int (cv A i)) := by
  have e := Array.getElem?_eq_getElem hi
  have f := h.2 i _ e
  unfold cv; rw [e]
  generalize A.slots[i] = v at f
  cases v <;> simp [fits] at f ⊢
/-- the byte that i2b leaves of a char -/
def lo8 (x : Int32) : Int32 := x.toInt8.toInt32
theorem fits_lo8 (y : Int32) : fits .byte (.int (lo8 y)) = true := by
  have h1 := y.toInt8.le_toInt
  have h2 := y.toInt8.toInt_lt
  simp only [lo8, fits, Bool.and_eq_true, decide_eq_true_eq, Int32.le_iff_toInt_le, Int8.toInt_toInt32, show (-128 : Int32).toInt = -128 from by decide, show (127 : Int32).toInt = 127 from by decide]
  omega
/-- A' is A but that each place j of lo .. hi - 1 holds f j -/
def Laid (A A' : Cell) (lo hi : Nat) (f : Nat → Value) : Prop := A'.cls = A.cls ∧ A'.vm = A.vm ∧ A'.slots.size = A.slots.size ∧ ∀ i, A'.slots[i]? = if lo ≤ i ∧ i < hi then some (f i) else A.slots[i]?
theorem Laid.zero (A : Cell) (lo : Nat) (f : Nat → Value) : Laid A A lo (lo + 0) f := ⟨rfl, rfl, rfl, fun i => by rw [if_neg (by omega)]⟩
theorem Laid.step {A Ak : Cell} {lo k : Nat} {f : Nat → Value} {v : Value} (h : Laid A Ak lo k f) (hlo : lo ≤ k) (hk : k < Ak.slots.size) (hv : v = f k) : Laid A (Ak.setSlot k v) lo (k + 1) f := by
  refine ⟨h.1, h.2.1, by simpa [Cell.setSlot] using h.2.2.1, fun i => ?_⟩
  by_cases e : k = i
  · subst e; rw [Cell.slots_setSlot_self v hk, if_pos (by omega), hv]
  · rw [Cell.slots_setSlot_ne v e, h.2.2.2 i]
    by_cases q : lo ≤ i ∧ i < k
    · rw [if_pos q, if_pos (by omega)]
    · rw [if_neg q, if_neg (by omega)]
def U16 : String := "java/lang/StringUTF16"
namespace Cmp5
def yN : MethodName := ⟨"java/lang/StringUTF16", "compress", "([CI[BII)I"⟩
abbrev yB : ByteArray := jdk_52_method_21_code
theorem d0 : decode yB 0 = .ok (.iconst 0, 1) := by decide +kernel
theorem d1 : decode yB 1 = .ok (.istore 5, 2) := by decide +kernel
theorem d3 : decode yB 3 = .ok (.iload 5, 2) := by decide +kernel
theorem d5 : decode yB 5 = .ok (.iload 4, 2) := by decide +kernel
theorem d7 : decode yB 7 = .ok (.if_icmp (.ge) 37, 3) := by decide +kernel
theorem d10 : decode yB 10 = .ok (.aload_n 0, 1) := by decide +kernel
theorem d11 : decode yB 11 = .ok (.iload_n 1, 1) := by decide +kernel
theorem d12 : decode yB 12 = .ok (.caload, 1) := by decide +kernel
theorem d13 : decode yB 13 = .ok (.istore 6, 2) := by decide +kernel
theorem d15 : decode yB 15 = .ok (.iload 6, 2) := by decide +kernel
theorem d17 : decode yB 17 = .ok (.sipush 255, 3) := by decide +kernel
theorem d20 : decode yB 20 = .ok (.if_icmp (.le) 6, 3) := by decide +kernel
theorem d26 : decode yB 26 = .ok (.aload_n 2, 1) := by decide +kernel
theorem d27 : decode yB 27 = .ok (.iload_n 3, 1) := by decide +kernel
theorem d28 : decode yB 28 = .ok (.iload 6, 2) := by decide +kernel
theorem d30 : decode yB 30 = .ok (.i2b, 1) := by decide +kernel
theorem d31 : decode yB 31 = .ok (.bastore, 1) := by decide +kernel
theorem d32 : decode yB 32 = .ok (.iinc 1 1, 3) := by decide +kernel
theorem d35 : decode yB 35 = .ok (.iinc 3 1, 3) := by decide +kernel
theorem d38 : decode yB 38 = .ok (.iinc 5 1, 3) := by decide +kernel
theorem d41 : decode yB 41 = .ok (.goto (-38), 3) := by decide +kernel
theorem d44 : decode yB 44 = .ok (.iload 4, 2) := by decide +kernel
theorem d46 : decode yB 46 = .ok (.ireturn, 1) := by decide +kernel
def site : List Cond := []
def tab : Cond := tabOf yN yB 7 (some .int) site
def P (b : Addr) (A : Cell) (d : Addr) (B : Cell) (o q len : Nat) (args : Array Value) (s : State) : Prop := args = #[.ref b, .int (Int32.ofNat o), .ref d, .int (Int32.ofNat q), .int (Int32.ofNat len)] ∧ Ch b A s ∧ Arr .byte d B s ∧ b ≠ d ∧ o + len ≤ A.slots.size ∧ q + len ≤ B.slots.size ∧ ∀ i, i < len → ¬ 255 < cv A (o + i)
def E (b : Addr) (A : Cell) (d : Addr) (B : Cell) (o q len : Nat) (r : Option Value) (s u : State) : Prop := r = some (.int (Int32.ofNat len)) ∧ ∃ B', Put d B' s u ∧ Laid B B' q (q + len) (fun j => Value.int (lo8 (cv A (o + (j - q)))))
/-- no char of the range above 255: len; the places written hold each char's low byte -/
theorem law (l : Launch) (b : Addr) (A : Cell) (d : Addr) (B : Cell) (o q len : Nat) : Law l yN 5 5 0 0 yB 7 (some .int) site (P b A d B o q len) (E b A d B o q len) (copyLocs d q len) 0 0 := by
  refine Law.of_walk (plainFor_of_name (by decide +kernel)) (by decide +kernel) (by decide +kernel) (by decide) (fun _ _ h => by rw [h.1]; rfl) (fun _ U U' hal hh h => ⟨h.1, h.2.1.mv hal hh, h.2.2.1.mv hal hh, h.2.2.2⟩) (fun r U U' V V' h1 hal h2 h => ⟨h.1, h.2.elim fun B' q => ⟨B', q.1.mv h1 h2, q.2⟩⟩) ?_
  intro p e s m args below meth c s₁ X0 hexec hbytes hml hret hlk hnm hown hh0 W hP
  obtain ⟨rfl, hA, hB, hne, l1, l2, hp⟩ := hP
  have c1 : Steps p.tables e below (s₁.setTop (entryFrame m #[.ref b, .int (Int32.ofNat o), .ref d, .int (Int32.ofNat q), .int (Int32.ofNat len)] 7)) (s₁.setTop (mkF m 0 #[.val (.ref b), .val (.int (Int32.ofNat o)), .val (.ref d), .val (.int (Int32.ofNat q)), .val (.int (Int32.ofNat len)), .unset, .unset] [])) := entry rfl
  have hA0 := hA.1.mv X0.warmed.alike hh0
  have hB0 := hB.mv X0.warmed.alike hh0
  have a31 := hA.1.2.2.2
  have c2 : Steps p.tables e below (s₁.setTop (entryFrame m #[.ref b, .int (Int32.ofNat o), .ref d, .int (Int32.ofNat q), .int (Int32.ofNat len)] 7)) (s₁.setTop (mkF m 3 #[.val (.ref b), .val (.int (Int32.ofNat o)), .val (.ref d), .val (.int (Int32.ofNat q)), .val (.int (Int32.ofNat len)), .val (.int 0), .unset] [])) := c1.trans (by
    refine iconstV X0.here hexec rfl 0 (hb hbytes d0) (by decide) ?_
    refine XS.istore X0.here hexec rfl (hb hbytes d1) rfl rfl ?_
    exact Steps.refl _)
  have loop : ∀ (r i : Nat), i + r = len → ∀ (z : Slot), (z = .unset ∨ ∃ w, z = .val w ∧ w.category = 1) → ∀ (Tl : State) (Bk : Cell), Stand p l e { frames := 0, locals := 0, cells := 0, slots := 0 } s m #[.ref b, .int (Int32.ofNat o), .ref d, .int (Int32.ofNat q), .int (Int32.ofNat len)] below meth c Tl ([] ++ copyLocs d q i) 0 0 → Put d Bk s₁ Tl → Laid B Bk q (q + i) (fun j => Value.int (lo8 (cv A (o + (j - q))))) →
      Steps p.tables e below (s₁.setTop (entryFrame m #[.ref b, .int (Int32.ofNat o), .ref d, .int (Int32.ofNat q), .int (Int32.ofNat len)] 7)) (Tl.setTop (mkF m 3 #[.val (.ref b), .val (.int (Int32.ofNat (o + i))), .val (.ref d), .val (.int (Int32.ofNat (q + i))), .val (.int (Int32.ofNat len)), .val (.int (Int32.ofNat i)), z] [])) → ∃ (T' : State) (B' : Cell) (z' : Slot), Stand p l e { frames := 0, locals := 0, cells := 0, slots := 0 } s m #[.ref b, .int (Int32.ofNat o), .ref d, .int (Int32.ofNat q), .int (Int32.ofNat len)] below meth c T' ([] ++ copyLocs d q len) 0 0 ∧ Put d B' s₁ T' ∧ Laid B B' q (q + len) (fun j => Value.int (lo8 (cv A (o + (j - q))))) ∧
      Steps p.tables e below (s₁.setTop (entryFrame m #[.ref b, .int (Int32.ofNat o), .ref d, .int (Int32.ofNat q), .int (Int32.ofNat len)] 7)) (T'.setTop (mkF m 3 #[.val (.ref b), .val (.int (Int32.ofNat (o + len))), .val (.ref d), .val (.int (Int32.ofNat (q + len))), .val (.int (Int32.ofNat len)), .val (.int (Int32.ofNat len)), z'] [])) := by
    intro r
    induction r with
    | zero =>
      intro i hi z hz Tl Bk Xl pl fl cl
      have hil : i = len := by omega
      rw [hil] at Xl fl cl
      exact ⟨Tl, Bk, z, Xl, pl, fl, cl⟩
    | succ r ih =>
      intro i hi z hz Tl Bk Xl pl fl cl
      have all := X0.warmed.alike.symm.trans Xl.warmed.alike
      have hAl := hA0.keep all (pl.other hne hA0.1)
      have hBk := hB0.like all pl.1 fl.1 fl.2.1 fl.2.2.1
      have hlt : q + i < Bk.slots.size := by rw [fl.2.2.1]; omega
      have c3 : Steps p.tables e below (s₁.setTop (entryFrame m #[.ref b, .int (Int32.ofNat o), .ref d, .int (Int32.ofNat q), .int (Int32.ofNat len)] 7)) (Tl.setTop (mkF m 12 #[.val (.ref b), .val (.int (Int32.ofNat (o + i))), .val (.ref d), .val (.int (Int32.ofNat (q + i))), .val (.int (Int32.ofNat len)), .val (.int (Int32.ofNat i)), z] [.int (Int32.ofNat (o + i)), .ref b])) := cl.trans (by
        refine XS.iload Xl.here hexec rfl (hb hbytes d3) rfl ?_
        refine XS.iload Xl.here hexec rfl (hb hbytes d5) rfl ?_
        refine XS.icmpNo Xl.here hexec rfl (hb hbytes d7) rfl (ii_ge_f (lt32 (by omega) (by omega))) ?_
        refine XS.aloadN Xl.here hexec rfl (hb hbytes d10) rfl rfl ?_
        refine XS.iloadN Xl.here hexec rfl (hb hbytes d11) rfl ?_
        exact Steps.refl _)
      have c4 : Steps p.tables e below (s₁.setTop (entryFrame m #[.ref b, .int (Int32.ofNat o), .ref d, .int (Int32.ofNat q), .int (Int32.ofNat len)] 7)) (Tl.setTop (mkF m 13 #[.val (.ref b), .val (.int (Int32.ofNat (o + i))), .val (.ref d), .val (.int (Int32.ofNat (q + i))), .val (.int (Int32.ofNat len)), .val (.int (Int32.ofNat i)), z] [.int (cv A (o + i))])) := c3.trans (by
        refine Xl.aget hexec hAl rfl (hA.get (i := o + i) (by omega)) rfl rfl (hb hbytes d12) ?_
        exact Steps.refl _)
      have c5 : Steps p.tables e below (s₁.setTop (entryFrame m #[.ref b, .int (Int32.ofNat o), .ref d, .int (Int32.ofNat q), .int (Int32.ofNat len)] 7)) (Tl.setTop (mkF m 15 #[.val (.ref b), .val (.int (Int32.ofNat (o + i))), .val (.ref d), .val (.int (Int32.ofNat (q + i))), .val (.int (Int32.ofNat len)), .val (.int (Int32.ofNat i)), .val (.int (cv A (o + i)))] [])) := c4.trans (by
        refine XS.istoreS Xl.here hexec rfl (hb hbytes d13) rfl rfl hz ?_
        exact Steps.refl _)
      have c6 : Steps p.tables e below (s₁.setTop (entryFrame m #[.ref b, .int (Int32.ofNat o), .ref d, .int (Int32.ofNat q), .int (Int32.ofNat len)] 7)) (Tl.setTop (mkF m 31 #[.val (.ref b), .val (.int (Int32.ofNat (o + i))), .val (.ref d), .val (.int (Int32.ofNat (q + i))), .val (.int (Int32.ofNat len)), .val (.int (Int32.ofNat i)), .val (.int (cv A (o + i)))] [.int (lo8 (cv A (o + i))), .int (Int32.ofNat (q + i)), .ref d])) := c5.trans (by
        refine XS.iload Xl.here hexec rfl (hb hbytes d15) rfl ?_
        refine sipushV Xl.here hexec rfl 255 (hb hbytes d17) (by decide) ?_
        refine XS.icmpYes Xl.here hexec rfl (pc0 := 20) rfl (hb hbytes d20) rfl (ii_le_t (hp i (by omega))) (by decide) rfl ?_
        refine XS.aloadN Xl.here hexec rfl (hb hbytes d26) rfl rfl ?_
        refine XS.iloadN Xl.here hexec rfl (hb hbytes d27) rfl ?_
        refine XS.iload Xl.here hexec rfl (hb hbytes d28) rfl ?_
        refine i2b Xl.here hexec rfl (hb hbytes d30) rfl ?_
        exact Steps.refl _)
      obtain ⟨T7, X7, p7, st7⟩ := Xl.aput hexec hBk rfl hlt rfl (fits_lo8 (cv A (o + i))) (g := (mkF m 31 #[.val (.ref b), .val (.int (Int32.ofNat (o + i))), .val (.ref d), .val (.int (Int32.ofNat (q + i))), .val (.int (Int32.ofNat len)), .val (.int (Int32.ofNat i)), .val (.int (cv A (o + i)))] [.int (lo8 (cv A (o + i))), .int (Int32.ofNat (q + i)), .ref d])) rfl (rest := []) rfl (hb hbytes d31)
      have c8 : Steps p.tables e below (s₁.setTop (entryFrame m #[.ref b, .int (Int32.ofNat o), .ref d, .int (Int32.ofNat q), .int (Int32.ofNat len)] 7)) (T7.setTop (mkF m 32 #[.val (.ref b), .val (.int (Int32.ofNat (o + i))), .val (.ref d), .val (.int (Int32.ofNat (q + i))), .val (.int (Int32.ofNat len)), .val (.int (Int32.ofNat i)), .val (.int (cv A (o + i)))] [])) := c6.trans (st7 _ (Steps.refl _))
      have c9 : Steps p.tables e below (s₁.setTop (entryFrame m #[.ref b, .int (Int32.ofNat o), .ref d, .int (Int32.ofNat q), .int (Int32.ofNat len)] 7)) (T7.setTop (mkF m 3 #[.val (.ref b), .val (.int (Int32.ofNat (o + i) + 1)), .val (.ref d), .val (.int (Int32.ofNat (q + i) + 1)), .val (.int (Int32.ofNat len)), .val (.int (Int32.ofNat i + 1)), .val (.int (cv A (o + i)))] [])) := c8.trans (by
        refine iincV X7.here hexec rfl 1 (hb hbytes d32) (by decide) rfl rfl ?_
        refine iincV X7.here hexec rfl 1 (hb hbytes d35) (by decide) rfl rfl ?_
        refine iincV X7.here hexec rfl 1 (hb hbytes d38) (by decide) rfl rfl ?_
        refine XS.goto X7.here hexec rfl (pc0 := 41) rfl (hb hbytes d41) (by decide) rfl ?_
        exact Steps.refl _)
      have c10 : Steps p.tables e below (s₁.setTop (entryFrame m #[.ref b, .int (Int32.ofNat o), .ref d, .int (Int32.ofNat q), .int (Int32.ofNat len)] 7)) (T7.setTop (mkF m 3 #[.val (.ref b), .val (.int (Int32.ofNat (o + (i + 1)))), .val (.ref d), .val (.int (Int32.ofNat (q + (i + 1)))), .val (.int (Int32.ofNat len)), .val (.int (Int32.ofNat (i + 1))), .val (.int (cv A (o + i)))] [])) := by
        have := c9
        rw [succ32, succ32, succ32] at this
        exact this
      exact ih (i + 1) (by omega) _ (Or.inr ⟨_, rfl, rfl⟩) T7 _ (by rw [copyLocs_step, ← List.append_assoc]; exact X7) (pl.trans p7) (fl.step (by omega) hlt (by simp)) c10
  obtain ⟨T9, B9, z9, X9, p9, f9, g9⟩ := loop len 0 (by omega) .unset (Or.inl rfl) s₁ B (by simpa [copyLocs] using X0) ⟨hB0.1, fun _ _ => rfl, rfl⟩ (Laid.zero _ _ _) c2
  have c11 : Steps p.tables e below (s₁.setTop (entryFrame m #[.ref b, .int (Int32.ofNat o), .ref d, .int (Int32.ofNat q), .int (Int32.ofNat len)] 7)) (T9.setTop (mkF m 46 #[.val (.ref b), .val (.int (Int32.ofNat (o + len))), .val (.ref d), .val (.int (Int32.ofNat (q + len))), .val (.int (Int32.ofNat len)), .val (.int (Int32.ofNat len)), z9] [.int (Int32.ofNat len)])) := g9.trans (by
    refine XS.iload X9.here hexec rfl (hb hbytes d3) rfl ?_
    refine XS.iload X9.here hexec rfl (hb hbytes d5) rfl ?_
    refine XS.icmpYes X9.here hexec rfl (pc0 := 7) rfl (hb hbytes d7) rfl (ii_ge_t (nlt32 (by omega) (Nat.le_refl _))) (by decide) rfl ?_
    refine XS.iload X9.here hexec rfl (hb hbytes d44) rfl ?_
    exact Steps.refl _)
  exact ⟨T9, some (.int (Int32.ofNat len)), _, _, _, X9, by simp, rfl, rfl, (fun h => by cases h), ⟨rfl, B9, p9.from hh0, f9⟩, fun fs hl => c11.trans (X9.ireturnOut hexec hret rfl (Or.inl rfl) (hb hbytes d46) hl)⟩
end Cmp5
namespace Cmp3
def yN : MethodName := ⟨"java/lang/StringUTF16", "compress", "([CII)[B"⟩
abbrev yB : ByteArray := jdk_52_method_16_code
theorem d0 : decode yB 0 = .ok (.iload_n 2, 1) := by decide +kernel
theorem d1 : decode yB 1 = .ok (.newarray .byte, 2) := by decide +kernel
theorem d3 : decode yB 3 = .ok (.astore_n 3, 1) := by decide +kernel
theorem d4 : decode yB 4 = .ok (.aload_n 0, 1) := by decide +kernel
theorem d5 : decode yB 5 = .ok (.iload_n 1, 1) := by decide +kernel
theorem d6 : decode yB 6 = .ok (.aload_n 3, 1) := by decide +kernel
theorem d7 : decode yB 7 = .ok (.iconst 0, 1) := by decide +kernel
theorem d8 : decode yB 8 = .ok (.iload_n 2, 1) := by decide +kernel
theorem d9 : decode yB 9 = .ok (.invokestatic 115, 3) := by decide +kernel
theorem d12 : decode yB 12 = .ok (.istore 4, 2) := by decide +kernel
theorem d14 : decode yB 14 = .ok (.iload 4, 2) := by decide +kernel
theorem d16 : decode yB 16 = .ok (.iload_n 2, 1) := by decide +kernel
theorem d17 : decode yB 17 = .ok (.if_icmp (.eq) 40, 3) := by decide +kernel
theorem d57 : decode yB 57 = .ok (.aload_n 3, 1) := by decide +kernel
theorem d58 : decode yB 58 = .ok (.areturn, 1) := by decide +kernel
def site : List Cond := [.arrayClass .byte, Cmp5.tab] ++ staticW U16 115 Cmp5.yN
def tab : Cond := tabOf yN yB 6 (some (.array .byte)) site
def P (b : Addr) (A : Cell) (o len : Nat) (args : Array Value) (s : State) : Prop := args = #[.ref b, .int (Int32.ofNat o), .int (Int32.ofNat len)] ∧ Ch b A s ∧ o + len ≤ A.slots.size ∧ len ≤ 536870912 ∧ ∀ i, i < len → ¬ 255 < cv A (o + i)
def E (b : Addr) (A : Cell) (o len : Nat) (r : Option Value) (s u : State) : Prop := NewArr .byte "[B" len (fun j => .int (lo8 (cv A (o + j)))) r s u ∧ u.heap.size = s.heap.size + 1
/-- no char of the range above 255: a new byte[] of their low bytes -/
theorem law (l : Launch) (b : Addr) (A : Cell) (o len : Nat) : Law l yN 3 3 1 18 yB 6 (some (.array .byte)) site (P b A o len) (E b A o len) [] 1 len := by
  refine Law.of_walk (plainFor_of_name (by decide +kernel)) (by decide +kernel) (by decide +kernel) (by decide) (fun _ _ h => by rw [h.1]; rfl) (fun _ U U' hal hh h => ⟨h.1, h.2.1.mv hal hh, h.2.2⟩) (fun r U U' V V' h1 hal h2 h => ⟨NewArr.mv r U U' V V' h1 hal h2 h.1, by rw [h1, h2]; exact h.2⟩) ?_
  intro p e s m args below meth c s₁ X0 hexec hbytes hml hret hlk hnm hown hh0 W hP
  obtain ⟨rfl, hA, l1, l2, hp⟩ := hP
  have a31 := hA.1.2.2.2
  have c1 : Steps p.tables e below (s₁.setTop (entryFrame m #[.ref b, .int (Int32.ofNat o), .int (Int32.ofNat len)] 6)) (s₁.setTop (mkF m 0 #[.val (.ref b), .val (.int (Int32.ofNat o)), .val (.int (Int32.ofNat len)), .unset, .unset, .unset] [])) := entry rfl
  have c2 : Steps p.tables e below (s₁.setTop (entryFrame m #[.ref b, .int (Int32.ofNat o), .int (Int32.ofNat len)] 6)) (s₁.setTop (mkF m 1 #[.val (.ref b), .val (.int (Int32.ofNat o)), .val (.int (Int32.ofNat len)), .unset, .unset, .unset] [.int (Int32.ofNat len)])) := c1.trans (by
    refine XS.iloadN X0.here hexec rfl (hb hbytes d0) rfl ?_
    exact Steps.refl _)
  obtain ⟨T3, B3, X3, ba3, bs3, bv3, bh3, bf3, st3⟩ := X0.anew hexec (atype := .byte) (wk W (.arrayClass .byte)) rfl (by show len * 1 ≤ _; omega) (by omega) (g := (mkF m 1 #[.val (.ref b), .val (.int (Int32.ofNat o)), .val (.int (Int32.ofNat len)), .unset, .unset, .unset] [.int (Int32.ofNat len)])) rfl (hb hbytes d1) (rest := []) rfl (Nat.le_refl _) (by show 0 + len ≤ len; omega)
  rw [hh0] at ba3 st3
  have kp3 : XT.Kept s T3 := (XT.Kept.of_eq hh0).push bh3
  have hA3 := hA.keep X3.warmed.alike (kp3 _ _ hA.1.1)
  have hne : b ≠ s.heap.size := hA.1.ne
  have c4 : Steps p.tables e below (s₁.setTop (entryFrame m #[.ref b, .int (Int32.ofNat o), .int (Int32.ofNat len)] 6)) (T3.setTop (mkF m 3 #[.val (.ref b), .val (.int (Int32.ofNat o)), .val (.int (Int32.ofNat len)), .unset, .unset, .unset] [.ref s.heap.size])) := c2.trans (st3 _ (Steps.refl _))
  have c5 : Steps p.tables e below (s₁.setTop (entryFrame m #[.ref b, .int (Int32.ofNat o), .int (Int32.ofNat len)] 6)) (T3.setTop (mkF m 9 #[.val (.ref b), .val (.int (Int32.ofNat o)), .val (.int (Int32.ofNat len)), .val (.ref s.heap.size), .unset, .unset] [.int (Int32.ofNat len), .int 0, .ref s.heap.size, .int (Int32.ofNat o), .ref b])) := c4.trans (by
    refine XS.astoreN X3.here hexec rfl (hb hbytes d3) rfl rfl rfl ?_
    refine XS.aloadN X3.here hexec rfl (hb hbytes d4) rfl rfl ?_
    refine XS.iloadN X3.here hexec rfl (hb hbytes d5) rfl ?_
    refine XS.aloadN X3.here hexec rfl (hb hbytes d6) rfl rfl ?_
    refine iconstV X3.here hexec rfl 0 (hb hbytes d7) (by decide) ?_
    refine XS.iloadN X3.here hexec rfl (hb hbytes d8) rfl ?_
    exact Steps.refl _)
  obtain ⟨v6, T6, X6, E6, g6⟩ := X3.callS hexec (Cmp5.law l b A s.heap.size B3 o 0 len) hown (wks W (staticW U16 115 Cmp5.yN)) (wk W Cmp5.tab) (W := 0) (Nat.le_of_ble_eq_true rfl) (Nat.le_of_ble_eq_true rfl) (Nat.le_refl _) (by show 0 + len + 0 ≤ len; omega) (g := (mkF m 9 #[.val (.ref b), .val (.int (Int32.ofNat o)), .val (.int (Int32.ofNat len)), .val (.ref s.heap.size), .unset, .unset] [.int (Int32.ofNat len), .int (Int32.ofNat 0), .ref s.heap.size, .int (Int32.ofNat o), .ref b])) rfl (by rw [hml]; rfl) c5 (argsL := [.ref b, .int (Int32.ofNat o), .ref s.heap.size, .int (Int32.ofNat 0), .int (Int32.ofNat len)]) (rest := []) rfl rfl (by show 2 * 0 + 0 ≤ _; decide) (hb hbytes d9) (⟨rfl, hA3, ba3, hne, l1, by rw [bs3]; simp, hp⟩)
  obtain ⟨rfl, B6, p6, f6⟩ := E6
  have c7 : Steps p.tables e below (s₁.setTop (entryFrame m #[.ref b, .int (Int32.ofNat o), .int (Int32.ofNat len)] 6)) (T6.setTop (mkF m 12 #[.val (.ref b), .val (.int (Int32.ofNat o)), .val (.int (Int32.ofNat len)), .val (.ref s.heap.size), .unset, .unset] [.int (Int32.ofNat len)])) := g6
  have c8 : Steps p.tables e below (s₁.setTop (entryFrame m #[.ref b, .int (Int32.ofNat o), .int (Int32.ofNat len)] 6)) (T6.setTop (mkF m 58 #[.val (.ref b), .val (.int (Int32.ofNat o)), .val (.int (Int32.ofNat len)), .val (.ref s.heap.size), .val (.int (Int32.ofNat len)), .unset] [.ref s.heap.size])) := c7.trans (by
    refine XS.istore X6.here hexec rfl (hb hbytes d12) rfl rfl ?_
    refine XS.iload X6.here hexec rfl (hb hbytes d14) rfl ?_
    refine XS.iloadN X6.here hexec rfl (hb hbytes d16) rfl ?_
    refine XS.icmpYes X6.here hexec rfl (pc0 := 17) rfl (hb hbytes d17) rfl (ii_eq_t rfl) (by decide) rfl ?_
    refine XS.aloadN X6.here hexec rfl (hb hbytes d57) rfl rfl ?_
    exact Steps.refl _)
  have X8 := X6.wide (L' := []) (cells' := 1) (slots' := len) (fun x hx hlt => by
    simp only [List.nil_append, copyLocs, List.mem_map, List.mem_range] at hx
    obtain ⟨i, -, rfl⟩ := hx
    exact absurd hlt (Nat.lt_irrefl _)) (Nat.le_refl _) (by omega)
  exact ⟨T6, some (.ref s.heap.size), _, _, _, X8, rfl, rfl, rfl, (fun h => by cases h), ⟨⟨rfl, B6, ba3.like (X3.warmed.alike.symm.trans X6.warmed.alike) p6.1 f6.1 f6.2.1 f6.2.2.1, f6.2.1.trans bv3, by rw [X6.warmed.alike.findClass, f6.1]; exact bf3, by rw [f6.2.2.1, bs3]; simp, fun j hj => by rw [f6.2.2.2 j, if_pos (by omega)]; rfl, kp3.put p6 (Nat.le_refl _)⟩, by rw [p6.2.2, bh3, hh0]; simp⟩, fun fs hl => c8.trans (X8.areturnOut hexec rfl hret rfl (hb hbytes d58) hl)⟩
end Cmp3
namespace CodL
def yN : MethodName := ⟨"java/lang/StringUTF16", "coderFromArrayLen", "([BI)B"⟩
abbrev yB : ByteArray := jdk_52_method_15_code
theorem d0 : decode yB 0 = .ok (.iload_n 1, 1) := by decide +kernel
theorem d1 : decode yB 1 = .ok (.aload_n 0, 1) := by decide +kernel
theorem d2 : decode yB 2 = .ok (.arraylength, 1) := by decide +kernel
theorem d3 : decode yB 3 = .ok (.isub, 1) := by decide +kernel
theorem d4 : decode yB 4 = .ok (.bipush 31, 2) := by decide +kernel
theorem d6 : decode yB 6 = .ok (.iushr, 1) := by decide +kernel
theorem d7 : decode yB 7 = .ok (.i2b, 1) := by decide +kernel
theorem d8 : decode yB 8 = .ok (.ireturn, 1) := by decide +kernel
def site : List Cond := []
def tab : Cond := tabOf yN yB 2 (some .byte) site
def P (d : Addr) (B : Cell) (args : Array Value) (s : State) : Prop := args = #[.ref d, .int (Int32.ofNat B.slots.size)] ∧ Arr .byte d B s
def E (r : Option Value) (s u : State) : Prop := XT.PureE (some (.int 0)) r s u
/-- an array as long as the number of chars: LATIN1 -/
theorem law (l : Launch) (d : Addr) (B : Cell) : Law l yN 2 2 0 0 yB 2 (some .byte) site (P d B) E [] 0 0 := by
  refine Law.of_walk (plainFor_of_name (by decide +kernel)) (by decide +kernel) (by decide +kernel) (by decide) (fun _ _ h => by rw [h.1]; rfl) (fun _ U U' hal hh h => ⟨h.1, h.2.mv hal hh⟩) (fun r U U' V V' h1 hal h2 h => XT.PureE.mv r U U' V V' h1 hal h2 h) ?_
  intro p e s m args below meth c s₁ X0 hexec hbytes hml hret hlk hnm hown hh0 W hP
  obtain ⟨rfl, hB⟩ := hP
  have hB0 := hB.mv X0.warmed.alike hh0
  have c1 : Steps p.tables e below (s₁.setTop (entryFrame m #[.ref d, .int (Int32.ofNat B.slots.size)] 2)) (s₁.setTop (mkF m 0 #[.val (.ref d), .val (.int (Int32.ofNat B.slots.size))] [])) := entry rfl
  have c2 : Steps p.tables e below (s₁.setTop (entryFrame m #[.ref d, .int (Int32.ofNat B.slots.size)] 2)) (s₁.setTop (mkF m 2 #[.val (.ref d), .val (.int (Int32.ofNat B.slots.size))] [.ref d, .int (Int32.ofNat B.slots.size)])) := c1.trans (by
    refine XS.iloadN X0.here hexec rfl (hb hbytes d0) rfl ?_
    refine XS.aloadN X0.here hexec rfl (hb hbytes d1) rfl rfl ?_
    exact Steps.refl _)
  have c3 : Steps p.tables e below (s₁.setTop (entryFrame m #[.ref d, .int (Int32.ofNat B.slots.size)] 2)) (s₁.setTop (mkF m 8 #[.val (.ref d), .val (.int (Int32.ofNat B.slots.size))] [.int (lo8 (ushr (Int32.ofNat B.slots.size - Int32.ofNat B.slots.size) 31))])) := c2.trans (by
    refine X0.alen hexec hB0 rfl rfl (hb hbytes d2) ?_
    refine XS.isub X0.here hexec rfl (hb hbytes d3) rfl ?_
    refine bipushV X0.here hexec rfl 31 (hb hbytes d4) (by decide) ?_
    refine iushr X0.here hexec rfl (hb hbytes d6) rfl ?_
    refine i2b X0.here hexec rfl (hb hbytes d7) rfl ?_
    exact Steps.refl _)
  have e0 : lo8 (ushr (Int32.ofNat B.slots.size - Int32.ofNat B.slots.size) 31) = 0 := by rw [Int32.sub_self]; decide
  rw [e0] at c3
  exact ⟨s₁, some (.int 0), _, _, _, X0, rfl, rfl, rfl, (fun h => by cases h), ⟨rfl, hh0⟩, fun fs hl => c3.trans (X0.ireturnOut hexec hret rfl (Or.inr (Or.inr (Or.inl rfl))) (hb hbytes d8) hl)⟩
end CodL
/-- the String at a is Latin-1 over a new byte[] (the heap's one new cell): the low bytes of the len chars of A from o on; every cell but a is kept -/
def Got (a : Addr) (D : Cell) (fV fC : Field) (A : Cell) (o len : Nat) (r : Option Value) (s u : State) : Prop := r = none ∧ ∃ D' V : Cell, Blank "java/lang/String" a D' u ∧ Same D D' [fV.slot, fC.slot] ∧ D'.slots[fV.slot]? = some (.ref s.heap.size) ∧ D'.slots[fC.slot]? = some (.int 0) ∧ Arr .byte s.heap.size V u ∧ V.vm = .none ∧ u.vm.findClass "[B" = some V.cls ∧ V.slots.size = len ∧ (∀ j, j < len → V.slots[j]? = some (.int (lo8 (cv A (o + j))))) ∧ (∀ (y : Addr) (c : Cell), y ≠ a → s.heap[y]? = some c → u.heap[y]? = some c) ∧ u.heap.size = s.heap.size + 1
theorem Got.mv {a : Addr} {D A : Cell} {fV fC : Field} {o len : Nat} : ∀ r (U U' V V' : State), U'.heap = U.heap → V.vm.Alike V'.vm → V'.heap = V.heap → Got a D fV fC A o len r U V → Got a D fV fC A o len r U' V' :=
  fun r U U' V V' h1 hal h2 ⟨e0, D', X, a1, a2, a3, a4, a5, a6, a7, a8, a9, a10, a11⟩ => ⟨e0, D', X, a1.mv hal h2, a2, by rw [h1]; exact a3, a4, by rw [h1]; exact a5.mv hal h2, a6, by rw [hal.findClass]; exact a7, a8, a9, by rw [h1, h2]; exact a10, by rw [h1, h2]; exact a11⟩
namespace New4
def yN : MethodName := ⟨"java/lang/String", "<init>", "([CIILjava/lang/Void;)V"⟩
abbrev yB : ByteArray := jdk_42_method_149_code
theorem d0 : decode yB 0 = .ok (.aload_n 0, 1) := by decide +kernel
theorem d1 : decode yB 1 = .ok (.invokespecial 1, 3) := by decide +kernel
theorem d4 : decode yB 4 = .ok (.iload_n 3, 1) := by decide +kernel
theorem d5 : decode yB 5 = .ok (.ifCond (.ne) 22, 3) := by decide +kernel
theorem d27 : decode yB 27 = .ok (.getstatic 38, 3) := by decide +kernel
theorem d30 : decode yB 30 = .ok (.ifCond (.eq) 28, 3) := by decide +kernel
theorem d33 : decode yB 33 = .ok (.aload_n 1, 1) := by decide +kernel
theorem d34 : decode yB 34 = .ok (.iload_n 2, 1) := by decide +kernel
theorem d35 : decode yB 35 = .ok (.iload_n 3, 1) := by decide +kernel
theorem d36 : decode yB 36 = .ok (.invokestatic 177, 3) := by decide +kernel
theorem d39 : decode yB 39 = .ok (.astore 5, 2) := by decide +kernel
theorem d41 : decode yB 41 = .ok (.aload_n 0, 1) := by decide +kernel
theorem d42 : decode yB 42 = .ok (.aload 5, 2) := by decide +kernel
theorem d44 : decode yB 44 = .ok (.iload_n 3, 1) := by decide +kernel
theorem d45 : decode yB 45 = .ok (.invokestatic 47, 3) := by decide +kernel
theorem d48 : decode yB 48 = .ok (.putfield 15, 3) := by decide +kernel
theorem d51 : decode yB 51 = .ok (.aload_n 0, 1) := by decide +kernel
theorem d52 : decode yB 52 = .ok (.aload 5, 2) := by decide +kernel
theorem d54 : decode yB 54 = .ok (.putfield 9, 3) := by decide +kernel
theorem d57 : decode yB 57 = .ok (.return_, 1) := by decide +kernel
def site : List Cond := [.fieldLink "java/lang/String" 38 "java/lang/String" "COMPACT_STRINGS" "Z", Cmp3.tab, CodL.tab, .laysFinal "java/lang/String" "java/lang/String" "value" "[B", .fieldLink "java/lang/String" 9 "java/lang/String" "value" "[B", .laysFinal "java/lang/String" "java/lang/String" "coder" "B", .fieldLink "java/lang/String" 15 "java/lang/String" "coder" "B"] ++ objW "java/lang/String" 1 ++ staticW "java/lang/String" 177 Cmp3.yN ++ staticW "java/lang/String" 47 CodL.yN
def tab : Cond := tabOf yN yB 6 none site
def P (a : Addr) (D : Cell) (fV fC : Field) (b : Addr) (A : Cell) (z : Int32) (o len : Nat) (args : Array Value) (s : State) : Prop := args = #[.ref a, .ref b, .int (Int32.ofNat o), .int (Int32.ofNat len), .null] ∧ Blank "java/lang/String" a D s ∧ Found "java/lang/String" "value" "[B" fV s ∧ Found "java/lang/String" "coder" "B" fC s ∧ Ch b A s ∧ StaticIs s "java/lang/String" "COMPACT_STRINGS" "Z" (.int z) ∧ ¬ z = 0 ∧ 0 < len ∧ o + len ≤ A.slots.size ∧ len ≤ 536870912 ∧ ∀ i, i < len → ¬ 255 < cv A (o + i)
def E (a : Addr) (D : Cell) (fV fC : Field) (A : Cell) (o len : Nat) (r : Option Value) (s u : State) : Prop := Got a D fV fC A o len r s u
/-- len > 0, no char of the range above 255: a Latin-1 String of their low bytes -/
theorem law (l : Launch) (a : Addr) (D : Cell) (fV fC : Field) (b : Addr) (A : Cell) (z : Int32) (o len : Nat) : Law l yN 5 4 2 35 yB 6 none site (P a D fV fC b A z o len) (E a D fV fC A o len) [⟨a, fC.slot⟩, ⟨a, fV.slot⟩] 1 len := by
  refine Law.of_walk (plainFor_of_name (by decide +kernel)) (by decide +kernel) (by decide +kernel) (by decide) (fun _ _ h => by rw [h.1]; rfl) (fun _ U U' hal hh h => ⟨h.1, h.2.1.mv hal hh, h.2.2.1.al hal, h.2.2.2.1.al hal, h.2.2.2.2.1.mv hal hh, h.2.2.2.2.2.1.there hal hh, h.2.2.2.2.2.2⟩) (fun r U U' V V' h1 hal h2 h => Got.mv r U U' V V' h1 hal h2 h) ?_
  intro p e s m args below meth c s₁ X0 hexec hbytes hml hret hlk hnm hown hh0 W hP
  obtain ⟨rfl, hB, f1, f2, hA, s1, hz, l0, l1, l2, hp⟩ := hP
  have a31 := hA.1.2.2.2
  have c1 : Steps p.tables e below (s₁.setTop (entryFrame m #[.ref a, .ref b, .int (Int32.ofNat o), .int (Int32.ofNat len), .null] 6)) (s₁.setTop (mkF m 0 #[.val (.ref a), .val (.ref b), .val (.int (Int32.ofNat o)), .val (.int (Int32.ofNat len)), .val .null, .unset] [])) := entry rfl
  have c2 : Steps p.tables e below (s₁.setTop (entryFrame m #[.ref a, .ref b, .int (Int32.ofNat o), .int (Int32.ofNat len), .null] 6)) (s₁.setTop (mkF m 1 #[.val (.ref a), .val (.ref b), .val (.int (Int32.ofNat o)), .val (.int (Int32.ofNat len)), .val .null, .unset] [.ref a])) := c1.trans (by
    refine XS.aloadN X0.here hexec rfl (hb hbytes d0) rfl rfl ?_
    exact Steps.refl _)
  obtain ⟨T3, X3, q3, st3⟩ := X0.oinit hexec hown (wks W (objW "java/lang/String" 1)) (g := (mkF m 1 #[.val (.ref a), .val (.ref b), .val (.int (Int32.ofNat o)), .val (.int (Int32.ofNat len)), .val .null, .unset] [.ref a])) rfl (by rw [hml]; rfl) (rest := []) rfl (hb hbytes d1) (W := 0) (by show 2 * 0 + 0 ≤ _; decide) (Nat.le_of_ble_eq_true rfl) (Nat.le_of_ble_eq_true rfl)
  have hh3 := q3.trans hh0
  have c4 : Steps p.tables e below (s₁.setTop (entryFrame m #[.ref a, .ref b, .int (Int32.ofNat o), .int (Int32.ofNat len), .null] 6)) (T3.setTop (mkF m 27 #[.val (.ref a), .val (.ref b), .val (.int (Int32.ofNat o)), .val (.int (Int32.ofNat len)), .val .null, .unset] [])) := (c2.trans (st3 _ (Steps.refl _))).trans (by
    refine XS.iloadN X3.here hexec rfl (hb hbytes d4) rfl ?_
    refine XS.ifYes X3.here hexec rfl (pc0 := 5) rfl (hb hbytes d5) rfl (i0_ne_t (nz32 (by omega) l0)) (by decide) rfl ?_
    exact Steps.refl _)
  obtain ⟨T5, X5, q5, st5⟩ := X3.sget hexec hown (wk W (.fieldLink "java/lang/String" 38 "java/lang/String" "COMPACT_STRINGS" "Z")) s1 (fun _ _ h => by rw [hh3]; exact h) (g := (mkF m 27 #[.val (.ref a), .val (.ref b), .val (.int (Int32.ofNat o)), .val (.int (Int32.ofNat len)), .val .null, .unset] [])) rfl (hb hbytes d27)
  have hh5 := q5.trans hh3
  have c6 : Steps p.tables e below (s₁.setTop (entryFrame m #[.ref a, .ref b, .int (Int32.ofNat o), .int (Int32.ofNat len), .null] 6)) (T5.setTop (mkF m 30 #[.val (.ref a), .val (.ref b), .val (.int (Int32.ofNat o)), .val (.int (Int32.ofNat len)), .val .null, .unset] [.int z])) := c4.trans (st5 _ (Steps.refl _))
  have c7 : Steps p.tables e below (s₁.setTop (entryFrame m #[.ref a, .ref b, .int (Int32.ofNat o), .int (Int32.ofNat len), .null] 6)) (T5.setTop (mkF m 36 #[.val (.ref a), .val (.ref b), .val (.int (Int32.ofNat o)), .val (.int (Int32.ofNat len)), .val .null, .unset] [.int (Int32.ofNat len), .int (Int32.ofNat o), .ref b])) := c6.trans (by
    refine XS.ifNo X5.here hexec rfl (hb hbytes d30) rfl (i0_eq_f hz) ?_
    refine XS.aloadN X5.here hexec rfl (hb hbytes d33) rfl rfl ?_
    refine XS.iloadN X5.here hexec rfl (hb hbytes d34) rfl ?_
    refine XS.iloadN X5.here hexec rfl (hb hbytes d35) rfl ?_
    exact Steps.refl _)
  obtain ⟨v8, T8, X8, E8, g8⟩ := X5.callS hexec (Cmp3.law l b A o len) hown (wks W (staticW "java/lang/String" 177 Cmp3.yN)) (wk W Cmp3.tab) (W := 0) (Nat.le_of_ble_eq_true rfl) (Nat.le_of_ble_eq_true rfl) (Nat.le_refl _) (by show 0 + len ≤ len; omega) (g := (mkF m 36 #[.val (.ref a), .val (.ref b), .val (.int (Int32.ofNat o)), .val (.int (Int32.ofNat len)), .val .null, .unset] [.int (Int32.ofNat len), .int (Int32.ofNat o), .ref b])) rfl (by rw [hml]; rfl) c7 (argsL := [.ref b, .int (Int32.ofNat o), .int (Int32.ofNat len)]) (rest := []) rfl rfl (by show 2 * 0 + 0 ≤ _; decide) (hb hbytes d36) (⟨rfl, hA.mv X5.warmed.alike hh5, l1, l2, hp⟩)
  obtain ⟨e8, z8⟩ := E8
  obtain ⟨rfl, N, n1, n2, n3, n4, n5, n6⟩ := NewArr.mv _ T5 s _ _ hh5.symm (Vm.Alike.refl _) rfl e8
  rw [hh5] at z8
  have hB1 := hB.keep X8.warmed.alike (n6 _ _ hB.1)
  have hne : s.heap.size ≠ a := (Nat.ne_of_lt (Array.getElem?_eq_some_iff.mp hB.1).1).symm
  have c9 : Steps p.tables e below (s₁.setTop (entryFrame m #[.ref a, .ref b, .int (Int32.ofNat o), .int (Int32.ofNat len), .null] 6)) (T8.setTop (mkF m 39 #[.val (.ref a), .val (.ref b), .val (.int (Int32.ofNat o)), .val (.int (Int32.ofNat len)), .val .null, .unset] [.ref s.heap.size])) := g8
  have c10 : Steps p.tables e below (s₁.setTop (entryFrame m #[.ref a, .ref b, .int (Int32.ofNat o), .int (Int32.ofNat len), .null] 6)) (T8.setTop (mkF m 45 #[.val (.ref a), .val (.ref b), .val (.int (Int32.ofNat o)), .val (.int (Int32.ofNat len)), .val .null, .val (.ref s.heap.size)] [.int (Int32.ofNat N.slots.size), .ref s.heap.size, .ref a])) := by
    have hc : Steps p.tables e below (s₁.setTop (entryFrame m #[.ref a, .ref b, .int (Int32.ofNat o), .int (Int32.ofNat len), .null] 6)) (T8.setTop (mkF m 45 #[.val (.ref a), .val (.ref b), .val (.int (Int32.ofNat o)), .val (.int (Int32.ofNat len)), .val .null, .val (.ref s.heap.size)] [.int (Int32.ofNat len), .ref s.heap.size, .ref a])) := c9.trans (by
      refine XS.astore X8.here hexec rfl (hb hbytes d39) rfl rfl rfl ?_
      refine XS.aloadN X8.here hexec rfl (hb hbytes d41) rfl rfl ?_
      refine XS.aload X8.here hexec rfl (hb hbytes d42) rfl rfl ?_
      refine XS.iloadN X8.here hexec rfl (hb hbytes d44) rfl ?_
      exact Steps.refl _)
    rw [n4]; exact hc
  obtain ⟨v11, T11, X11, E11, g11⟩ := X8.callS hexec (CodL.law l s.heap.size N) hown (wks W (staticW "java/lang/String" 47 CodL.yN)) (wk W CodL.tab) (W := 1) (Nat.le_of_ble_eq_true rfl) (Nat.le_of_ble_eq_true rfl) (Nat.le_refl _) (by show 0 + len + 0 ≤ len; omega) (g := (mkF m 45 #[.val (.ref a), .val (.ref b), .val (.int (Int32.ofNat o)), .val (.int (Int32.ofNat len)), .val .null, .val (.ref s.heap.size)] [.int (Int32.ofNat N.slots.size), .ref s.heap.size, .ref a])) rfl (by rw [hml]; rfl) c10 (argsL := [.ref s.heap.size, .int (Int32.ofNat N.slots.size)]) (rest := [.ref a]) rfl rfl (by show 2 * 0 + (1 + 0) ≤ _; decide) (hb hbytes d45) (⟨rfl, n1⟩)
  obtain ⟨rfl, q11⟩ := E11
  have hB11 := hB1.mv (X8.warmed.alike.symm.trans X11.warmed.alike) q11
  have c12 : Steps p.tables e below (s₁.setTop (entryFrame m #[.ref a, .ref b, .int (Int32.ofNat o), .int (Int32.ofNat len), .null] 6)) (T11.setTop (mkF m 48 #[.val (.ref a), .val (.ref b), .val (.int (Int32.ofNat o)), .val (.int (Int32.ofNat len)), .val .null, .val (.ref s.heap.size)] [.int 0, .ref a])) := g11
  obtain ⟨T13, X13, p13, bl13, sl13, st13⟩ := X11.finit hexec hown (wk W (.fieldLink "java/lang/String" 15 "java/lang/String" "coder" "B")) (Or.inr ⟨_, (wk W (.laysFinal "java/lang/String" "java/lang/String" "coder" "B"))⟩) (Or.inl ⟨rfl, hnm⟩) f2 (Or.inl rfl) hB11 (t := .byte) (by decide +kernel) rfl (g := (mkF m 48 #[.val (.ref a), .val (.ref b), .val (.int (Int32.ofNat o)), .val (.int (Int32.ofNat len)), .val .null, .val (.ref s.heap.size)] [.int 0, .ref a])) rfl (rest := []) rfl (hb hbytes d48)
  have c14 : Steps p.tables e below (s₁.setTop (entryFrame m #[.ref a, .ref b, .int (Int32.ofNat o), .int (Int32.ofNat len), .null] 6)) (T13.setTop (mkF m 54 #[.val (.ref a), .val (.ref b), .val (.int (Int32.ofNat o)), .val (.int (Int32.ofNat len)), .val .null, .val (.ref s.heap.size)] [.ref s.heap.size, .ref a])) := (c12.trans (st13 _ (Steps.refl _))).trans (by
    refine XS.aloadN X13.here hexec rfl (hb hbytes d51) rfl rfl ?_
    refine XS.aload X13.here hexec rfl (hb hbytes d52) rfl rfl ?_
    exact Steps.refl _)
  obtain ⟨T15, X15, p15, bl15, sl15, st15⟩ := X13.finit hexec hown (wk W (.fieldLink "java/lang/String" 9 "java/lang/String" "value" "[B")) (Or.inr ⟨_, (wk W (.laysFinal "java/lang/String" "java/lang/String" "value" "[B"))⟩) (Or.inl ⟨rfl, hnm⟩) f1 (Or.inl rfl) bl13 (t := (.array .byte)) (by decide +kernel) rfl (g := (mkF m 54 #[.val (.ref a), .val (.ref b), .val (.int (Int32.ofNat o)), .val (.int (Int32.ofNat len)), .val .null, .val (.ref s.heap.size)] [.ref s.heap.size, .ref a])) rfl (rest := []) rfl (hb hbytes d54)
  have c16 : Steps p.tables e below (s₁.setTop (entryFrame m #[.ref a, .ref b, .int (Int32.ofNat o), .int (Int32.ofNat len), .null] 6)) (T15.setTop (mkF m 57 #[.val (.ref a), .val (.ref b), .val (.int (Int32.ofNat o)), .val (.int (Int32.ofNat len)), .val .null, .val (.ref s.heap.size)] [])) := c14.trans (st15 _ (Steps.refl _))
  have ap := apart (Or.inr ⟨_, (wk W (.laysFinal "java/lang/String" "java/lang/String" "value" "[B"))⟩) (Or.inr ⟨_, (wk W (.laysFinal "java/lang/String" "java/lang/String" "coder" "B"))⟩) f1 f2 (t₁ := .array .byte) (t₂ := .byte) (by decide +kernel) (by decide +kernel) (by decide)
  have al := X8.warmed.alike.symm.trans X15.warmed.alike
  have n7 : T11.heap[s.heap.size]? = some N := by rw [q11]; exact n1.1
  exact ⟨T15, none, _, _, _, X15, by simp, rfl, by omega, (fun _ => rfl), ⟨rfl, _, N, bl15, ((Same.refl D _).set _ (by simp)).set _ (by simp), sl15, (Cell.slots_setSlot_ne _ ap).trans sl13, n1.keep al (p15.other hne (p13.other hne n7)), n2, by rw [al.findClass]; exact n3, n4, n5, fun y c h1 h2 => p15.other h1 (p13.other h1 (by rw [q11]; exact n6 y c h2)), by rw [p15.2.2, p13.2.2, q11]; exact z8⟩, fun fs hl => c16.trans (X15.returnOut hexec hret (hb hbytes d57) hl)⟩
end New4
namespace New1
def yN : MethodName := ⟨"java/lang/String", "<init>", "([C)V"⟩
abbrev yB : ByteArray := jdk_42_method_3_code
theorem d0 : decode yB 0 = .ok (.aload_n 0, 1) := by decide +kernel
theorem d1 : decode yB 1 = .ok (.aload_n 1, 1) := by decide +kernel
theorem d2 : decode yB 2 = .ok (.iconst 0, 1) := by decide +kernel
theorem d3 : decode yB 3 = .ok (.aload_n 1, 1) := by decide +kernel
theorem d4 : decode yB 4 = .ok (.arraylength, 1) := by decide +kernel
theorem d5 : decode yB 5 = .ok (.aconst_null, 1) := by decide +kernel
theorem d6 : decode yB 6 = .ok (.invokespecial 27, 3) := by decide +kernel
theorem d9 : decode yB 9 = .ok (.return_, 1) := by decide +kernel
def site : List Cond := [New4.tab] ++ initW "java/lang/String" 27 New4.yN
def tab : Cond := tabOf yN yB 2 none site
def P (a : Addr) (D : Cell) (fV fC : Field) (b : Addr) (A : Cell) (z : Int32) (args : Array Value) (s : State) : Prop := args = #[.ref a, .ref b] ∧ Blank "java/lang/String" a D s ∧ Found "java/lang/String" "value" "[B" fV s ∧ Found "java/lang/String" "coder" "B" fC s ∧ Ch b A s ∧ StaticIs s "java/lang/String" "COMPACT_STRINGS" "Z" (.int z) ∧ ¬ z = 0 ∧ 0 < A.slots.size ∧ A.slots.size ≤ 536870912 ∧ ∀ i, i < A.slots.size → ¬ 255 < cv A i
def E (a : Addr) (D : Cell) (fV fC : Field) (A : Cell) (r : Option Value) (s u : State) : Prop := Got a D fV fC A 0 A.slots.size r s u
/-- new String(chars), not empty, no char above 255: a Latin-1 String of their low bytes -/
theorem law (l : Launch) (a : Addr) (D : Cell) (fV fC : Field) (b : Addr) (A : Cell) (z : Int32) : Law l yN 2 1 3 52 yB 2 none site (P a D fV fC b A z) (E a D fV fC A) [⟨a, fC.slot⟩, ⟨a, fV.slot⟩] 1 A.slots.size := by
  refine Law.of_walk (plainFor_of_name (by decide +kernel)) (by decide +kernel) (by decide +kernel) (by decide) (fun _ _ h => by rw [h.1]; rfl) (fun _ U U' hal hh h => ⟨h.1, h.2.1.mv hal hh, h.2.2.1.al hal, h.2.2.2.1.al hal, h.2.2.2.2.1.mv hal hh, h.2.2.2.2.2.1.there hal hh, h.2.2.2.2.2.2⟩) (fun r U U' V V' h1 hal h2 h => Got.mv r U U' V V' h1 hal h2 h) ?_
  intro p e s m args below meth c s₁ X0 hexec hbytes hml hret hlk hnm hown hh0 W hP
  obtain ⟨rfl, hB, f1, f2, hA, s1, hz, l0, l2, hp⟩ := hP
  have c1 : Steps p.tables e below (s₁.setTop (entryFrame m #[.ref a, .ref b] 2)) (s₁.setTop (mkF m 0 #[.val (.ref a), .val (.ref b)] [])) := entry rfl
  have c2 : Steps p.tables e below (s₁.setTop (entryFrame m #[.ref a, .ref b] 2)) (s₁.setTop (mkF m 6 #[.val (.ref a), .val (.ref b)] [.null, .int (Int32.ofNat A.slots.size), .int 0, .ref b, .ref a])) := c1.trans (by
    refine XS.aloadN X0.here hexec rfl (hb hbytes d0) rfl rfl ?_
    refine XS.aloadN X0.here hexec rfl (hb hbytes d1) rfl rfl ?_
    refine iconstV X0.here hexec rfl 0 (hb hbytes d2) (by decide) ?_
    refine XS.aloadN X0.here hexec rfl (hb hbytes d3) rfl rfl ?_
    refine X0.alen hexec (hA.1.mv X0.warmed.alike hh0) rfl rfl (hb hbytes d4) ?_
    refine XS.aconstNull X0.here hexec rfl (hb hbytes d5) ?_
    exact Steps.refl _)
  obtain ⟨v3, T3, X3, E3, g3⟩ := X0.callN hexec (New4.law l a D fV fC b A z 0 A.slots.size) rfl hown (wks W (initW "java/lang/String" 27 New4.yN)) (W New4.tab (by simp only [site, List.mem_cons, List.mem_append, true_or, or_true])) (W := 0) (Nat.le_of_ble_eq_true rfl) (Nat.le_of_ble_eq_true rfl) (Nat.le_refl _) (by show 0 + A.slots.size ≤ A.slots.size; omega) (g := (mkF m 6 #[.val (.ref a), .val (.ref b)] [.null, .int (Int32.ofNat A.slots.size), .int (Int32.ofNat 0), .ref b, .ref a])) rfl (by rw [hml]; rfl) c2 (argsL := [.ref b, .int (Int32.ofNat 0), .int (Int32.ofNat A.slots.size), .null]) (rest := []) rfl rfl (by show 2 * 0 + 0 ≤ _; decide) (hb hbytes d6) (⟨rfl, hB.mv X0.warmed.alike hh0, f1.al X0.warmed.alike, f2.al X0.warmed.alike, hA.mv X0.warmed.alike hh0, s1.there X0.warmed.alike hh0, hz, l0, by omega, l2, fun i hi => by rw [Nat.zero_add]; exact hp i hi⟩)
  have e0 := Got.mv _ s₁ s _ _ hh0.symm (Vm.Alike.refl _) rfl E3
  obtain rfl := e0.1
  have c4 : Steps p.tables e below (s₁.setTop (entryFrame m #[.ref a, .ref b] 2)) (T3.setTop (mkF m 9 #[.val (.ref a), .val (.ref b)] [])) := g3
  exact ⟨T3, none, _, _, _, X3, by simp, rfl, by omega, (fun _ => rfl), e0, fun fs hl => c4.trans (X3.returnOut hexec hret (hb hbytes d9) hl)⟩
theorem pays {l : Launch} {R : Room} {p : Program} {e : Env} {below : List Frame} {s : State} {sargs : Array Value} {len W : Nat} (a : Addr) (D : Cell) (fV fC : Field) (b : Addr) (A : Cell) (z : Int32) (htab : tab.before sargs s = true) (hfr : 4 ≤ R.frames) (hlo : W + 65 ≤ R.locals) :
    Back l R p e below s sargs yN len W (fun A₁ a₁ => A₁.cells + 1 ≤ R.cells ∧ A₁.slots + A.slots.size ≤ R.slots ∧ P a D fV fC b A z a₁ A₁.U) (fun A₁ _ v₁ B₁ => E a D fV fC A v₁ A₁.U B₁.U ∧ B₁.locs = A₁.locs ++ [⟨a, fC.slot⟩, ⟨a, fV.slot⟩] ∧ B₁.cells = A₁.cells + 1 ∧ B₁.slots = A₁.slots + A.slots.size) :=
  (law l a D fV fC b A z).pays htab hfr (by omega)
end New1
/-- the byte, read back as charAt reads it, is the char -/
theorem lo8_mask {x : Int32} (h0 : ¬ x < 0) (h1 : ¬ 255 < x) : lo8 x &&& 255 = x := by
  have t : ∀ k : Fin 256, lo8 (Int32.ofNat k.val) &&& 255 = Int32.ofNat k.val := by decide +kernel
  rw [Int32.lt_iff_toInt_lt] at h0 h1
  have e0 : (0 : Int32).toInt = 0 := rfl
  have e1 : (255 : Int32).toInt = 255 := rfl
  obtain ⟨k, hk⟩ : ∃ k : Nat, x.toInt = k := ⟨x.toInt.toNat, by omega⟩
  have hx : x = Int32.ofNat k := Int32.toInt_inj.mp (by rw [hk, Int32.toInt_ofNat_small (by omega)])
  rw [hx]
  exact t ⟨k, by omega⟩
end StrChars
namespace StrChars.Road
open Jvm Sem ClassFile Op Lib Jvm.Stand Jvm.Free Jvm.Free.XT
open Jvm.Lib.Cold (StaticIs)
abbrev ST : String := "java/lang/String"
/-- every table word that New1's law asks, flat -/
abbrev words : List Jvm.Cond := [.code New1.yN New1.yB 2 none, .initialized ST, .methodLink ST 27 New4.yN, .instanceMethod New4.yN,
  .code New4.yN New4.yB 6 none, .fieldLink ST 38 ST "COMPACT_STRINGS" "Z", .laysFinal ST ST "value" "[B", .fieldLink ST 9 ST "value" "[B", .laysFinal ST ST "coder" "B", .fieldLink ST 15 ST "coder" "B",
  .methodLink ST 1 Lib.objectInit, .instanceMethod Lib.objectInit, .code Lib.objectInit ⟨#[0xb1]⟩ 1 none, .methodLink ST 177 Cmp3.yN, .static Cmp3.yN, .methodLink ST 47 CodL.yN, .static CodL.yN,
  .code Cmp3.yN Cmp3.yB 6 (some (.array .byte)), .initialized U16, .arrayClass .byte, .methodLink U16 115 Cmp5.yN, .static Cmp5.yN, .code Cmp5.yN Cmp5.yB 7 (some .int), .code CodL.yN CodL.yB 2 (some .byte)]
theorem tab_of {a : Array Value} {s : State} (h : ∀ w ∈ words, w.before a s = true) : New1.tab.before a s = true := by
  have h5 : Cmp5.tab.before a s = true := unparts (wk h (.code Cmp5.yN Cmp5.yB 7 (some .int))) (wks h (.initialized Cmp5.yN.cls :: Cmp5.site))
  have hc : CodL.tab.before a s = true := unparts (wk h (.code CodL.yN CodL.yB 2 (some .byte))) (wks h (.initialized CodL.yN.cls :: CodL.site))
  have q5 : ∀ w ∈ Cmp5.tab :: words, w.before a s = true := fun w hw => (List.mem_cons.mp hw).elim (fun e => e ▸ h5) (h w)
  have h3 : Cmp3.tab.before a s = true := unparts (wk q5 (.code Cmp3.yN Cmp3.yB 6 (some (.array .byte)))) (wks q5 (.initialized Cmp3.yN.cls :: Cmp3.site))
  have q3 : ∀ w ∈ Cmp3.tab :: CodL.tab :: words, w.before a s = true := fun w hw => (List.mem_cons.mp hw).elim (fun e => e ▸ h3) fun hw => (List.mem_cons.mp hw).elim (fun e => e ▸ hc) (h w)
  have h4 : New4.tab.before a s = true := unparts (wk q3 (.code New4.yN New4.yB 6 none)) (wks q3 (.initialized New4.yN.cls :: New4.site))
  have q4 : ∀ w ∈ New4.tab :: words, w.before a s = true := fun w hw => (List.mem_cons.mp hw).elim (fun e => e ▸ h4) (h w)
  exact unparts (wk q4 (.code New1.yN New1.yB 2 none)) (wks q4 (.initialized New1.yN.cls :: New1.site))
/-- the words ride from the start Z to the walk's own state -/
theorem moved {Z s : State} {a0 args : Array Value} (hZ : Z.Warmed39 s.vm) (hw : ∀ d ∈ words, d.before a0 Z = true) : ∀ d ∈ words, d.before args s = true := fun d hd => by
  have q := hw d hd
  have t : ∀ d ∈ words, d = .arrayClass .byte ∨ (d.onTables && d.keepsFace) = true := by decide +kernel
  rcases t d hd with rfl | t
  · exact RoadKit.mvA hZ q
  · exact RoadKit.mv hZ q t
/-- WHAT COMES BACK, over the tables of the start Z: h the heap at the call, h' behind it -/
def Q (Z : State) (x : Addr) (A : Cell) (h : Heap) (v : Option Value) (h' : Heap) (L : List Loc) : Prop := v = none ∧ (∀ y ∈ L, y.base = x) ∧ RoadKit.Keep h h' [x] ∧ h'.size = h.size + 1 ∧ RoadKit.Exa Z h' x ST ∧ RoadKit.Fld Z h' x ST "value" "[B" (.ref h.size) ∧ RoadKit.Fld Z h' x ST "coder" "B" (.int 0) ∧
  (∃ V : Cell, RoadKit.Arr Z h' h.size V .byte ∧ V.vm = .none ∧ Z.vm.findClass "[B" = some V.cls ∧ V.slots.size = A.slots.size ∧ ∀ j, j < A.slots.size → V.slots[j]? = some (.int (lo8 (cv A j)))) ∧
  ∀ (O n d : String) (w : Value), RoadKit.Fld Z h x O n d w → RoadKit.slotOf Z O n d ≠ RoadKit.slotOf Z ST "value" "[B" → RoadKit.slotOf Z O n d ≠ RoadKit.slotOf Z ST "coder" "B" → RoadKit.Fld Z h' x O n d w
/-- **new String(chars) AT A CALL, IN THE ROAD'S FORM**: for specialBack behind newO: x the fresh String, b the char[] with the cell A -/
theorem back {p : Program} {l : Launch} {e : Env} {R : Room} {s : State} {args : Array Value} {below : List Frame} {len W : Nat} {Z : State} {a0 : Array Value} {h : Heap} (hZ : Z.Warmed39 s.vm) (hw : ∀ d ∈ words, d.before a0 Z = true) {kI : Nat} (wi : (Jvm.Cond.instantiable ST kI).before a0 Z = true)
    {x b : Addr} {A : Cell} {z : Int32} {v0 c0 : Value} (E : RoadKit.Exa Z h x ST) (V : RoadKit.Fld Z h x ST "value" "[B" v0) (C : RoadKit.Fld Z h x ST "coder" "B" c0) (K : RoadKit.Arr Z h b A .char) (hty : Typed .char A) (S : RoadKit.Sta Z h ST "COMPACT_STRINGS" "Z" (.int z)) (hz : ¬ z = 0)
    (l0 : 0 < A.slots.size) (l2 : A.slots.size ≤ 536870912) (hp : ∀ i, i < A.slots.size → ¬ 255 < cv A i) (hfr : 4 ≤ R.frames) (hlo : W + 65 ≤ R.locals) :
    Back l R p e below s args New1.yN len W (fun P a => a = #[.ref x, .ref b] ∧ P.U.heap = h ∧ P.cells + 1 ≤ R.cells ∧ P.slots + A.slots.size ≤ R.slots)
      (fun P _ v B => ∃ L, Q Z x A h v B.U.heap L ∧ B.locs = P.locs ++ L ∧ B.cells = P.cells + 1 ∧ B.slots = P.slots + A.slots.size) := by
  intro m meth c P g ig mk a X hg hsize hdg hW hn hp'
  obtain ⟨rfl, rfl, r1, r2⟩ := hp'
  have al : Z.vm.Alike P.U.vm := hZ.alike.trans X.warmed.alike
  obtain ⟨D, cfV, kV, iV, fV, hD, gV, stV, knV, obV, asV, slV⟩ := id V
  obtain ⟨D', cfC, kC, iC, fC, hD', gC, stC, -, -, asC, slC⟩ := id C
  cases hD.symm.trans hD'
  obtain ⟨D2, kD, e1, e2, e3, e4, e5⟩ := id E
  cases hD.symm.trans e1
  obtain ⟨c2, k2, i1, i2, i3, -⟩ := Cond.instantiable_spec wi
  cases e2.symm.trans i1
  cases e3.symm.trans i2
  obtain ⟨kU, u1, u2⟩ := al.2.2 _ _ e3
  have hB : Blank ST x D P.U := ⟨hD, ⟨knV, fun q hq => by rw [hq] at obV; cases obV⟩, by rw [al.findClass]; exact e2, kU, u1, by rw [u2]; exact i3, by rw [u2]; exact e5 i3⟩
  have F1 : Found ST "value" "[B" fV P.U := ⟨SBG.found_only al ⟨cfV, kV, iV, gV⟩, stV⟩
  have F2 : Found ST "coder" "B" fC P.U := ⟨SBG.found_only al ⟨cfC, kC, iC, gC⟩, stC⟩
  have hA : Ch b A P.U := ⟨⟨K.1, State.isArrayOf_alike al K.2.1, K.2.2, by omega⟩, hty⟩
  have hS : StaticIs P.U ST "COMPACT_STRINGS" "Z" (.int z) := by
    obtain ⟨cfS, iS, kS, fS, st, cS, t1, t2, t3, t4, t5, t6, t7⟩ := S
    exact StaticIs.there (s := { Z with heap := P.U.heap }) ⟨cfS, iS, kS, fS, st, cS, t1, t2, t3, t4, t5, (fun q => by rw [q] at t6; cases t6), t7⟩ al rfl
  obtain ⟨v, B, X', ⟨⟨hv, E', V', q1, q2, q3, q4, q5, q6, q7, q8, q9, q10, q11⟩, hl, hc, hs⟩, st⟩ := New1.pays x D fV fC b A z (tab_of (moved hZ hw)) hfr hlo m meth c P g ig mk _ X hg hsize hdg hW hn ⟨r1, r2, rfl, hB, F1, F2, hA, hS, hz, l0, l2, hp⟩
  have al' : Z.vm.Alike B.U.vm := hZ.alike.trans X'.warmed.alike
  have hsz : E'.slots.size = D.slots.size := by
    obtain ⟨-, -, -, kB, w1, w2, w3⟩ := q1
    obtain ⟨kB', y1, y2⟩ := al'.2.2 _ _ e3
    rw [q2.2.1] at w1
    cases w1.symm.trans y1
    rw [w3, e5 i3, y2]
  refine ⟨v, B, X', ⟨_, ⟨hv, ?_, ⟨by omega, fun y cy hy hn' => q10 y cy (by simpa using hn') hy, fun y cy hy => ?_⟩, q11, ⟨E', _, q1.1, by rw [q2.2.1]; exact e2, by rw [q2.2.1]; exact e3, by rw [q2.1]; exact obV, fun _ => by rw [hsz]; exact e5 i3⟩,
    ⟨E', cfV, kV, iV, fV, q1.1, gV, stV, by rw [q2.1]; exact knV, by rw [q2.1]; exact obV, by rw [q2.2.1]; exact asV, q3⟩, ⟨E', cfC, kC, iC, fC, q1.1, gC, stC, by rw [q2.1]; exact knV, by rw [q2.1]; exact obV, by rw [q2.2.1]; exact asC, q4⟩,
    ⟨V', ⟨q5.1, State.isArrayOf_alike al'.symm q5.2.1, q5.2.2.1⟩, q6, by rw [← al'.findClass]; exact q7, q8, fun j hj => by have := q9 j hj; rwa [Nat.zero_add] at this⟩, fun O n d w F n1 n2 => ?_⟩, hl, hc, hs⟩, st⟩
  · intro y hy
    simp only [List.mem_cons, List.not_mem_nil, or_false] at hy
    rcases hy with rfl | rfl <;> rfl
  · by_cases q : y = x
    · subst q
      cases hD.symm.trans hy
      exact ⟨E', q1.1, q2.2.1, q2.1, hsz⟩
    · exact ⟨cy, q10 y cy q hy, rfl, rfl, rfl⟩
  · obtain ⟨D3, cf, k, i, f, g1, g2, g3, g4, g5, g6, g7⟩ := F
    cases hD.symm.trans g1
    simp only [RoadKit.slotOf, g2, gV, gC, Option.map_some, Option.getD_some] at n1 n2
    exact ⟨E', cf, k, i, f, q1.1, g2, g3, by rw [q2.1]; exact g4, by rw [q2.1]; exact g5, by rw [q2.2.1]; exact g6, by rw [q2.2.2 f.slot (by simp [n1, n2])]; exact g7⟩
end StrChars.Road
namespace StrChars.Road
open Jvm Sem ClassFile Op Lib Jvm.Stand Jvm.Free Jvm.Free.XT
/-- WHAT COMES BACK, the byte[] as a list of values -/
def QA (Z : State) (x : Addr) (zn : Int32) (cs : List Int32) (h : Heap) (v : Option Value) (h' : Heap) (L : List Loc) : Prop := v = none ∧ (∀ y ∈ L, y.base = x) ∧ RoadKit.Keep h h' [x] ∧ h'.size = h.size + 1 ∧ RoadKit.Exa Z h' x ST ∧ RoadKit.Fld Z h' x ST "value" "[B" (.ref h.size) ∧ RoadKit.Fld Z h' x ST "coder" "B" (.int 0) ∧
  (∃ kb, Z.vm.findClass "[B" = some kb ∧ RoadKit.Arv Z h' h.size kb .byte zn (cs.map fun c => .int (lo8 c)) (.int 0)) ∧
  ∀ (O n d : String) (w : Value), RoadKit.Fld Z h x O n d w → RoadKit.slotOf Z O n d ≠ RoadKit.slotOf Z ST "value" "[B" → RoadKit.slotOf Z O n d ≠ RoadKit.slotOf Z ST "coder" "B" → RoadKit.Fld Z h' x O n d w
/-- **new String(chars) AT A CALL, THE ARRAYS AS LISTS**: the char[] at b holds cs, not empty, no char above 255 -/
theorem backArv {p : Program} {l : Launch} {e : Env} {R : Room} {s : State} {args : Array Value} {below : List Frame} {len W : Nat} {Z : State} {a0 : Array Value} {h : Heap} (hZ : Z.Warmed39 s.vm) (hw : ∀ d ∈ words, d.before a0 Z = true) {kI : Nat} (wi : (Jvm.Cond.instantiable ST kI).before a0 Z = true)
    {x b : Addr} {k : ClassId} {zn z : Int32} {cs : List Int32} {dv v0 c0 : Value} (E : RoadKit.Exa Z h x ST) (V : RoadKit.Fld Z h x ST "value" "[B" v0) (C : RoadKit.Fld Z h x ST "coder" "B" c0) (K : RoadKit.Arv Z h b k .char zn (cs.map Value.int) dv) (S : RoadKit.Sta Z h ST "COMPACT_STRINGS" "Z" (.int z)) (hz : ¬ z = 0)
    (hlen : zn.toNatClampNeg = cs.length) (h0 : 0 < cs.length) (hbig : cs.length ≤ 536870912) (hall : ∀ c ∈ cs, ¬ 255 < c) (hfr : 4 ≤ R.frames) (hlo : W + 65 ≤ R.locals) :
    Back l R p e below s args New1.yN len W (fun P a => a = #[.ref x, .ref b] ∧ P.U.heap = h ∧ P.cells + 1 ≤ R.cells ∧ P.slots + cs.length ≤ R.slots)
      (fun P _ v B => ∃ L, QA Z x zn cs h v B.U.heap L ∧ B.locs = P.locs ++ L ∧ B.cells = P.cells + 1 ∧ B.slots = P.slots + cs.length) := by
  obtain ⟨A, K1, K2, K3, K4, K5, K6⟩ := K
  have e : A.slots.size = cs.length := K3.trans hlen
  have hat : ∀ (i : Nat) (hi : i < cs.length), A.slots[i]? = some (.int cs[i]) := fun i hi => by rw [K5 i (by omega)]; simp [List.getD_eq_getElem?_getD, hi]
  have hcv : ∀ (i : Nat) (hi : i < cs.length), cv A i = cs[i] := fun i hi => by unfold cv; rw [hat i hi]
  have hty : Typed .char A := fun i v hv => by
    have hi : i < A.slots.size := (Array.getElem?_eq_some_iff.mp hv).1
    have q := K5 i hi
    rw [hv] at q
    rw [Option.some.inj q]
    exact K6 i hi
  refine Back.mono (back hZ hw wi E V C K1 hty S hz (by omega) (by omega) (fun i hi => by rw [hcv i (by omega)]; exact hall _ (List.getElem_mem _)) hfr hlo) (fun P a hp => ⟨hp.1, hp.2.1, hp.2.2.1, by rw [e]; exact hp.2.2.2⟩) (fun P a v B hp hq => ?_)
  obtain ⟨L, ⟨q1, q2, q3, q4, q5, q6, q7, ⟨V', v1, v2, v3, v4, v5⟩, q9⟩, hl, hc, hs⟩ := hq
  refine ⟨L, ⟨q1, q2, q3, q4, q5, q6, q7, ⟨V'.cls, v3, V', v1, rfl, by rw [v4, e, hlen], K4, fun i hi => ?_, fun i hi => ?_⟩, q9⟩, hl, hc, by rw [hs, e]⟩
  · have hi' : i < cs.length := by omega
    rw [v5 i (by omega), hcv i hi']; simp [List.getD_eq_getElem?_getD, hi']
  · have hi' : i < cs.length := by omega
    simp only [List.getD_eq_getElem?_getD, List.getElem?_map, List.getElem?_eq_getElem hi', Option.map_some, Option.getD_some]
    exact fits_lo8 _
end StrChars.Road
namespace StrChars.Road
open Jvm Sem ClassFile Op Lib Jvm.Stand Jvm.Free Jvm.Free.XT
/-- WHAT COMES BACK, in the writer's own shape -/
def QV (Z : State) (x : Addr) (N : Int32) (bs : List Int32) (h : Heap) (n0 : Nat) (v : Option Value) (h' : Heap) (L : List Loc) : Prop := v = none ∧ RoadKit.Fr n0 L ∧ RoadKit.Keep h h' [x] ∧ RoadKit.Exa Z h' x ST ∧ RoadKit.Fld Z h' x ST "coder" "B" (.int 0) ∧
  ∃ (t : Addr) (kb : ClassId), n0 ≤ t ∧ h.size ≤ t ∧ ¬ t = x ∧ RoadKit.Fld Z h' x ST "value" "[B" (.ref t) ∧ RoadKit.Arv Z h' t kb .byte N (bs.map Value.int) (.int 0)
/-- **new String(chars) AT A CALL, FOR THE WRITER**: a char[] of n known ints, each 0 to 255 -/
theorem backV {p : Program} {l : Launch} {e : Env} {R : Room} {s : State} {args : Array Value} {below : List Frame} {len W : Nat} {Z : State} {a0 : Array Value} {h : Heap} (hZ : Z.Warmed39 s.vm) (hw : ∀ d ∈ words, d.before a0 Z = true) {kI : Nat} (wi : (Jvm.Cond.instantiable ST kI).before a0 Z = true)
    {x b : Addr} {kC : ClassId} {cs bs : List Int32} {d v0 c0 : Value} {z N : Int32} {n n0 : Nat} (hx0 : n0 ≤ x) (hh0 : n0 ≤ h.size) (E : RoadKit.Exa Z h x ST) (V : RoadKit.Fld Z h x ST "value" "[B" v0) (C : RoadKit.Fld Z h x ST "coder" "B" c0) (K : RoadKit.Arv Z h b kC .char N (cs.map Value.int) d) (S : RoadKit.Sta Z h ST "COMPACT_STRINGS" "Z" (.int z)) (hz : ¬ z = 0)
    (hn : cs.length = n) (hN : N = Int32.ofNat n) (l0 : 0 < n) (l2 : n ≤ 4000) (hp : ∀ c ∈ cs, ¬ c < 0 ∧ ¬ (255 : Int32) < c) (hb : bs = cs.map (fun c => c.toInt8.toInt32)) (hfr : 4 ≤ R.frames) (hlo : W + 65 ≤ R.locals) :
    Back l R p e below s args (⟨"java/lang/String", "<init>", "([C)V"⟩ : MethodName) len W (fun P a => a = #[.ref x, .ref b] ∧ P.U.heap = h ∧ P.cells + 1 ≤ R.cells ∧ P.slots + n ≤ R.slots)
      (fun P _ v B => ∃ L, QV Z x N bs h n0 v B.U.heap L ∧ B.locs = P.locs ++ L ∧ B.cells = P.cells + 1 ∧ B.slots = P.slots + n) := by
  subst hn hN hb
  refine Back.mono (backArv hZ hw wi E V C K S hz (n32 (by omega)) l0 (by omega) (fun c hc => (hp c hc).2) hfr hlo) (fun P a hp => hp) (fun P a v B hp hq => ?_)
  obtain ⟨L, ⟨q1, q2, q3, q4, q5, q6, q7, ⟨kb, v1, v2⟩, q9⟩, hl, hc, hs⟩ := hq
  exact ⟨L, ⟨q1, fun y hy => by rw [q2 y hy]; exact hx0, q3, q5, q7, h.size, kb, hh0, Nat.le_refl _, Nat.ne_of_gt E.lt, q6, by rw [List.map_map]; exact v2⟩, hl, hc, hs⟩
end StrChars.Road
namespace StrChars
open Jvm Sem ClassFile Op Lib Jvm.Stand Jvm.Free.XT Jvm.Free.ALB Jvm.Free.JM Jvm.Free
open Jvm.Lib.Cold (StaticIs)
def hi8 (x : Int32) : Int32 := lo8 (x >>> ((8 : Int32) &&& 31))
/-- what StringUTF16.getChar makes of two bytes -/
def pairCh (u v : Int32) : Int32 := (((u &&& 255) <<< ((0 : Int32) &&& 31)) ||| ((v &&& 255) <<< ((8 : Int32) &&& 31))).toUInt32.toUInt16.toUInt32.toInt32
theorem lo8_and (x : Int32) : (lo8 x &&& 255).toBitVec.toNat = x.toBitVec.toNat % 256 := by
  have h : (lo8 x).toBitVec = (x.toBitVec.signExtend 8).signExtend 32 := by rw [lo8, Int8.toBitVec_toInt32, Int32.toBitVec_toInt8]
  rw [Int32.toBitVec_and, BitVec.toNat_and, h]
  have e : ((x.toBitVec.signExtend 8).signExtend 32).toNat % 256 = x.toBitVec.toNat % 256 := by
    rw [BitVec.toNat_signExtend]
    have hlt := x.toBitVec.isLt
    simp only [BitVec.toNat_setWidth, BitVec.toNat_signExtend]
    split <;> split <;> omega
  rw [← e]
  exact Nat.and_two_pow_sub_one_eq_mod _ 8
theorem pair_says {c : Int32} (h0 : ¬ c < 0) (h1 : ¬ 65535 < c) : pairCh (lo8 c) (hi8 c) = c := by
  rw [Int32.lt_iff_toInt_lt] at h0 h1
  have e0 : (0 : Int32).toInt = 0 := rfl
  have e1 : (65535 : Int32).toInt = 65535 := rfl
  have hc : c.toInt = c.toBitVec.toNat := by
    have := c.toBitVec.isLt
    have e : c.toInt = c.toBitVec.toInt := rfl
    rw [e] at h0 h1
    rw [e]
    rw [BitVec.toInt_eq_toNat_cond] at h0 h1 ⊢
    split at h0 <;> split <;> omega
  have hn : c.toBitVec.toNat < 65536 := by omega
  have a1 := lo8_and c
  have a2 : (hi8 c &&& 255).toBitVec.toNat = c.toBitVec.toNat / 256 := by
    rw [hi8, lo8_and]
    have e : ((8 : Int32) &&& 31) = 8 := by decide
    rw [e, Int32.toBitVec_shiftRight]
    have e2 : ((8 : Int32).toBitVec.smod 32) = 8#32 := by decide
    rw [e2, BitVec.sshiftRight_eq', BitVec.toNat_sshiftRight_of_msb_false (by rw [BitVec.msb_eq_false_iff_two_mul_lt]; omega)]
    show c.toBitVec.toNat >>> 8 % 256 = _
    rw [Nat.shiftRight_eq_div_pow]
    omega
  unfold pairCh
  apply Int32.toBitVec_inj.mp
  apply BitVec.eq_of_toNat_eq
  have f0 : ((0 : Int32) &&& 31) = 0 := by decide
  have f8 : ((8 : Int32) &&& 31) = 8 := by decide
  rw [f0, f8]
  have g : (((lo8 c &&& 255) <<< (0 : Int32)) ||| ((hi8 c &&& 255) <<< (8 : Int32))).toBitVec.toNat = c.toBitVec.toNat := by
    rw [Int32.toBitVec_or, Int32.toBitVec_shiftLeft, Int32.toBitVec_shiftLeft]
    have s0 : ((0 : Int32).toBitVec.smod 32) = 0#32 := by decide
    have s8 : ((8 : Int32).toBitVec.smod 32) = 8#32 := by decide
    rw [s0, s8, BitVec.toNat_or]
    simp only [BitVec.shiftLeft_eq', BitVec.toNat_shiftLeft, a1, a2]
    show (c.toBitVec.toNat % 256) <<< 0 % 2 ^ 32 ||| (c.toBitVec.toNat / 256) <<< 8 % 2 ^ 32 = _
    rw [Nat.shiftLeft_zero, Nat.mod_eq_of_lt (show c.toBitVec.toNat % 256 < 2 ^ 32 by omega), Nat.mod_eq_of_lt (show (c.toBitVec.toNat / 256) <<< 8 < 2 ^ 32 by rw [Nat.shiftLeft_eq]; omega), Nat.or_comm, ← Nat.shiftLeft_add_eq_or_of_lt (by omega), Nat.shiftLeft_eq]
    omega
  show BitVec.toNat (((((lo8 c &&& 255) <<< (0 : Int32)) ||| ((hi8 c &&& 255) <<< (8 : Int32))).toBitVec.setWidth 16).setWidth 32) = _
  rw [BitVec.toNat_setWidth, BitVec.toNat_setWidth, g]
  omega
end StrChars
namespace StrChars
open Jvm Sem ClassFile Op Lib Jvm.Stand Jvm.Free.XT Jvm.Free.ALB Jvm.Free.JM Jvm.Free
open Jvm.Lib.Cold (StaticIs)
/-- the array's cell V codes the n chars f 0 .. f (n - 1) by the coder cd, as the JDK does: coder 1 just where some char is above 255 -/
def Cod (cd : Int32) (n : Nat) (f : Nat → Int32) (V : Cell) : Prop := (cd = 0 ∧ V.slots.size = n ∧ ∀ j, j < n → V.slots[j]? = some (.int (lo8 (f j))) ∧ ¬ 255 < f j) ∨ (cd = 1 ∧ V.slots.size = 2 * n ∧ (∀ j, j < n → V.slots[2 * j]? = some (.int (lo8 (f j))) ∧ V.slots[2 * j + 1]? = some (.int (hi8 (f j)))) ∧ ∃ j, j < n ∧ 255 < f j)
/-- **x is a String of the n chars f 0 .. f (n - 1)**, Latin-1 or UTF-16; its array at t has the cell V -/
def Txt (x t : Addr) (V : Cell) (cd : Int32) (n : Nat) (f : Nat → Int32) (U : State) : Prop := Exact "java/lang/String" x U ∧ Has x "java/lang/String" "value" "[B" (.ref t) U ∧ Has x "java/lang/String" "coder" "B" (.int cd) U ∧ XT.Arr .byte t V U ∧ Cod cd n f V ∧ ∀ j, j < n → ¬ f j < 0 ∧ ¬ 65535 < f j
theorem Txt.mv {x t : Addr} {V : Cell} {cd : Int32} {n : Nat} {f : Nat → Int32} {U U' : State} (h : Txt x t V cd n f U) (hal : U.vm.Alike U'.vm) (hh : U'.heap = U.heap) : Txt x t V cd n f U' := ⟨h.1.mv hal hh, h.2.1.mv hal hh, h.2.2.1.mv hal hh, h.2.2.2.1.mv hal hh, h.2.2.2.2⟩
end StrChars
namespace StrChars.Road
open Jvm Sem ClassFile Op Lib Jvm.Stand Jvm.Free Jvm.Free.XT
open Jvm.Lib.Cold (StaticIs)
theorem consq {a : Array Value} {s : State} {c : Jvm.Cond} {L : List Jvm.Cond} (h0 : c.before a s = true) (h : ∀ w ∈ L, w.before a s = true) : ∀ w ∈ c :: L, w.before a s = true := fun w hw => (List.mem_cons.mp hw).elim (fun e => e ▸ h0) (h w)
/-- the bytes of the chars cs, low before high -/
def wideBytes : List Int32 → List Value
  | [] => []
  | c :: cs => .int (lo8 c) :: .int (hi8 c) :: wideBytes cs
theorem wide_lo (d : Value) : ∀ (cs : List Int32) (j : Nat), j < cs.length → (wideBytes cs).getD (2 * j) d = .int (lo8 (cs.getD j 0))
  | [], j, h => absurd h (Nat.not_lt_zero j)
  | c :: cs, 0, _ => rfl
  | c :: cs, j + 1, h => by
    have q := wide_lo d cs j (by simpa using h)
    rw [show 2 * (j + 1) = 2 * j + 1 + 1 from by omega]
    simpa [wideBytes] using q
theorem wide_hi (d : Value) : ∀ (cs : List Int32) (j : Nat), j < cs.length → (wideBytes cs).getD (2 * j + 1) d = .int (hi8 (cs.getD j 0))
  | [], j, h => absurd h (Nat.not_lt_zero j)
  | c :: cs, 0, _ => rfl
  | c :: cs, j + 1, h => by
    have q := wide_hi d cs j (by simpa using h)
    rw [show 2 * (j + 1) + 1 = 2 * j + 1 + 1 + 1 from by omega]
    simpa [wideBytes] using q
theorem low_at (d : Value) (cs : List Int32) (j : Nat) (h : j < cs.length) : (cs.map fun c => Value.int (lo8 c)).getD j d = .int (lo8 (cs.getD j 0)) := by
  simp [List.getD_eq_getElem?_getD, h]
/-- an array of N2 bytes vs codes the chars cs by the coder cd -/
def CodA (cs : List Int32) (cd N2 : Int32) (vs : List Value) : Prop := (cd = 0 ∧ N2 = Int32.ofNat cs.length ∧ vs = (cs.map fun c => Value.int (lo8 c)) ∧ ∀ c ∈ cs, ¬ 255 < c) ∨ (cd = 1 ∧ N2 = Int32.ofNat (2 * cs.length) ∧ vs = wideBytes cs ∧ ∃ c ∈ cs, 255 < c)
theorem CodA.cod {cs : List Int32} {cd N2 : Int32} {vs : List Value} {V : Cell} (h : CodA cs cd N2 vs) (hn : 2 * cs.length < 2 ^ 31) (hs : V.slots.size = N2.toNatClampNeg) (hv : RoadKit.Has V vs (.int 0)) : Cod cd cs.length (fun j => cs.getD j 0) V := by
  rcases h with ⟨rfl, rfl, rfl, h⟩ | ⟨rfl, rfl, rfl, c, hc, hw⟩
  · rw [n32 (by omega)] at hs
    exact Or.inl ⟨rfl, hs, fun j hj => ⟨by rw [hv j (by omega), low_at _ _ _ hj], by
      have e : cs.getD j 0 = cs[j] := by simp [List.getD_eq_getElem?_getD, hj]
      show ¬ 255 < cs.getD j 0
      rw [e]; exact h _ (List.getElem_mem _)⟩⟩
  · rw [n32 (by omega)] at hs
    obtain ⟨j, hj, rfl⟩ := List.getElem_of_mem hc
    exact Or.inr ⟨rfl, hs, fun j hj => ⟨by rw [hv _ (by omega), wide_lo _ _ _ hj], by rw [hv _ (by omega), wide_hi _ _ _ hj]⟩, j, hj, by
      have e : cs.getD j 0 = cs[j] := by simp [List.getD_eq_getElem?_getD, hj]
      show 255 < cs.getD j 0
      rw [e]; exact hw⟩
/-- an object of exactly java/lang/String, its two fields found: as the laws ask it -/
theorem strObj {Z U : State} {a0 : Array Value} {kI : Nat} (wi : (Jvm.Cond.instantiable ST kI).before a0 Z = true) (al : Z.vm.Alike U.vm) {x : Addr} {v0 c0 : Value} (E : RoadKit.Exa Z U.heap x ST) (V : RoadKit.Fld Z U.heap x ST "value" "[B" v0) (C : RoadKit.Fld Z U.heap x ST "coder" "B" c0) :
    ∃ (D : Cell) (fV fC : Field), Blank ST x D U ∧ Found ST "value" "[B" fV U ∧ Found ST "coder" "B" fC U ∧ D.slots[fV.slot]? = some v0 ∧ D.slots[fC.slot]? = some c0 ∧ RoadKit.slotOf Z ST "value" "[B" = fV.slot ∧ RoadKit.slotOf Z ST "coder" "B" = fC.slot := by
  obtain ⟨D, cfV, kV, iV, fV, hD, gV, stV, knV, obV, asV, slV⟩ := V
  obtain ⟨D', cfC, kC, iC, fC, hD', gC, stC, -, -, asC, slC⟩ := C
  cases hD.symm.trans hD'
  obtain ⟨D2, kD, e1, e2, e3, e4, e5⟩ := E
  cases hD.symm.trans e1
  obtain ⟨c2, k2, i1, i2, i3, -⟩ := Cond.instantiable_spec wi
  cases e2.symm.trans i1
  cases e3.symm.trans i2
  obtain ⟨kU, u1, u2⟩ := al.2.2 _ _ e3
  exact ⟨D, fV, fC, ⟨hD, ⟨knV, fun q hq => by rw [hq] at obV; cases obV⟩, by rw [al.findClass]; exact e2, kU, u1, by rw [u2]; exact i3, by rw [u2]; exact e5 i3⟩, ⟨SBG.found_only al ⟨cfV, kV, iV, gV⟩, stV⟩, ⟨SBG.found_only al ⟨cfC, kC, iC, gC⟩, stC⟩, slV, slC, by simp [RoadKit.slotOf, gV], by simp [RoadKit.slotOf, gC]⟩
theorem sta_is {Z U : State} (al : Z.vm.Alike U.vm) {C n d : String} {v : Value} (S : RoadKit.Sta Z U.heap C n d v) : StaticIs U C n d v := by
  obtain ⟨cfS, iS, kS, fS, st, cS, t1, t2, t3, t4, t5, t6, t7⟩ := S
  exact StaticIs.there (s := { Z with heap := U.heap }) ⟨cfS, iS, kS, fS, st, cS, t1, t2, t3, t4, t5, (fun q => by rw [q] at t6; cases t6), t7⟩ al rfl
end StrChars.Road
namespace StrChars
open Jvm Sem ClassFile Op Lib Jvm.Stand Jvm.Free.XT Jvm.Free.ALB Jvm.Free.JM Jvm.Free
open Jvm.Lib.Cold (StaticIs)
/-- what place i of a byte[]'s cell holds -/
def yv (A : Cell) (i : Nat) : Int32 := match A.slots[i]? with | some (.int x) => x | _ => 0
theorem yv_get {a : Addr} {A : Cell} {U : State} (h : XT.Arr .byte a A U) (ht : Typed .byte A) {i : Nat} (hi : i < A.slots.size) : A.slots[i]? = some (.int (yv A i)) := by
  have e := Array.getElem?_eq_getElem hi
  have f := ht i _ e
  unfold yv; rw [e]
  generalize A.slots[i] = v at f
  cases v <;> simp [fits] at f ⊢
/-- the two arrays are equal, place for place -/
def EqC (A B : Cell) : Prop := A.slots.size = B.slots.size ∧ ∀ i, i < A.slots.size → yv A i = yv B i
/-- a boolean that says whether p -/
def Says01 (q : Prop) (r : Option Value) (s u : State) : Prop := ∃ v : Int32, r = some (.int v) ∧ u.heap = s.heap ∧ ((v = 1 ∧ q) ∨ (v = 0 ∧ ¬ q))
theorem Says01.mv {q : Prop} : ∀ r (U U' V V' : State), U'.heap = U.heap → V.vm.Alike V'.vm → V'.heap = V.heap → Says01 q r U V → Says01 q r U' V' :=
  fun r U U' V V' h1 _ h2 ⟨v, a, b, c⟩ => ⟨v, a, by rw [h1, h2]; exact b, c⟩
namespace LEq
def yN : MethodName := ⟨"java/lang/StringLatin1", "equals", "([B[B)Z"⟩
abbrev yB : ByteArray := jdk_43_method_13_code
theorem d0 : decode yB 0 = .ok (.aload_n 0, 1) := by decide +kernel
theorem d1 : decode yB 1 = .ok (.arraylength, 1) := by decide +kernel
theorem d2 : decode yB 2 = .ok (.aload_n 1, 1) := by decide +kernel
theorem d3 : decode yB 3 = .ok (.arraylength, 1) := by decide +kernel
theorem d4 : decode yB 4 = .ok (.if_icmp (.ne) 30, 3) := by decide +kernel
theorem d7 : decode yB 7 = .ok (.iconst 0, 1) := by decide +kernel
theorem d8 : decode yB 8 = .ok (.istore_n 2, 1) := by decide +kernel
theorem d9 : decode yB 9 = .ok (.iload_n 2, 1) := by decide +kernel
theorem d10 : decode yB 10 = .ok (.aload_n 0, 1) := by decide +kernel
theorem d11 : decode yB 11 = .ok (.arraylength, 1) := by decide +kernel
theorem d12 : decode yB 12 = .ok (.if_icmp (.ge) 20, 3) := by decide +kernel
theorem d15 : decode yB 15 = .ok (.aload_n 0, 1) := by decide +kernel
theorem d16 : decode yB 16 = .ok (.iload_n 2, 1) := by decide +kernel
theorem d17 : decode yB 17 = .ok (.baload, 1) := by decide +kernel
theorem d18 : decode yB 18 = .ok (.aload_n 1, 1) := by decide +kernel
theorem d19 : decode yB 19 = .ok (.iload_n 2, 1) := by decide +kernel
theorem d20 : decode yB 20 = .ok (.baload, 1) := by decide +kernel
theorem d21 : decode yB 21 = .ok (.if_icmp (.eq) 5, 3) := by decide +kernel
theorem d24 : decode yB 24 = .ok (.iconst 0, 1) := by decide +kernel
theorem d25 : decode yB 25 = .ok (.ireturn, 1) := by decide +kernel
theorem d26 : decode yB 26 = .ok (.iinc 2 1, 3) := by decide +kernel
theorem d29 : decode yB 29 = .ok (.goto (-20), 3) := by decide +kernel
theorem d32 : decode yB 32 = .ok (.iconst 1, 1) := by decide +kernel
theorem d33 : decode yB 33 = .ok (.ireturn, 1) := by decide +kernel
theorem d34 : decode yB 34 = .ok (.iconst 0, 1) := by decide +kernel
theorem d35 : decode yB 35 = .ok (.ireturn, 1) := by decide +kernel
def site : List Cond := []
def tab : Cond := tabOf yN yB 3 (some .boolean) site
def P (a : Addr) (A : Cell) (b : Addr) (B : Cell) (args : Array Value) (s : State) : Prop := args = #[.ref a, .ref b] ∧ XT.Arr .byte a A s ∧ Typed .byte A ∧ XT.Arr .byte b B s ∧ Typed .byte B
/-- whether two byte[] are equal, place for place -/
theorem law (l : Launch) (a : Addr) (A : Cell) (b : Addr) (B : Cell) : Law l yN 2 2 0 0 yB 3 (some .boolean) site (P a A b B) (Says01 (EqC A B)) [] 0 0 := by
  refine Law.of_walk (plainFor_of_name (by decide +kernel)) (by decide +kernel) (by decide +kernel) (by decide) (fun _ _ h => by rw [h.1]; rfl) (fun _ U U' hal hh h => ⟨h.1, h.2.1.mv hal hh, h.2.2.1, h.2.2.2.1.mv hal hh, h.2.2.2.2⟩) (fun r U U' V V' h1 hal h2 h => Says01.mv r U U' V V' h1 hal h2 h) ?_
  intro p e s m args below meth c s₁ X0 hexec hbytes hml hret hlk hnm hown hh0 W hP
  obtain ⟨rfl, hA, tA, hB, tB⟩ := hP
  have a31 := hA.2.2.2
  have b31 := hB.2.2.2
  have hA0 := hA.mv X0.warmed.alike hh0
  have hB0 := hB.mv X0.warmed.alike hh0
  have c1 : Steps p.tables e below (s₁.setTop (entryFrame m #[.ref a, .ref b] 3)) (s₁.setTop (mkF m 0 #[.val (.ref a), .val (.ref b), .unset] [])) := entry rfl
  have c2 : Steps p.tables e below (s₁.setTop (entryFrame m #[.ref a, .ref b] 3)) (s₁.setTop (mkF m 4 #[.val (.ref a), .val (.ref b), .unset] [.int (Int32.ofNat B.slots.size), .int (Int32.ofNat A.slots.size)])) := c1.trans (by
    refine XS.aloadN X0.here hexec rfl (hb hbytes d0) rfl rfl ?_
    refine X0.alen hexec hA0 rfl rfl (hb hbytes d1) ?_
    refine XS.aloadN X0.here hexec rfl (hb hbytes d2) rfl rfl ?_
    refine X0.alen hexec hB0 rfl rfl (hb hbytes d3) ?_
    exact Steps.refl _)
  by_cases hs : A.slots.size = B.slots.size
  · have c3 : Steps p.tables e below (s₁.setTop (entryFrame m #[.ref a, .ref b] 3)) (s₁.setTop (mkF m 9 #[.val (.ref a), .val (.ref b), .val (.int 0)] [])) := c2.trans (by
      refine XS.icmpNo X0.here hexec rfl (hb hbytes d4) rfl (ii_ne_f (by rw [hs])) ?_
      refine iconstV X0.here hexec rfl 0 (hb hbytes d7) (by decide) ?_
      refine XS.istoreN X0.here hexec rfl (hb hbytes d8) rfl rfl ?_
      exact Steps.refl _)
    have loop : ∀ (r i : Nat), i + r = A.slots.size → (∀ j, j < i → yv A j = yv B j) → Steps p.tables e below (s₁.setTop (entryFrame m #[.ref a, .ref b] 3)) (s₁.setTop (mkF m 9 #[.val (.ref a), .val (.ref b), .val (.int (Int32.ofNat i))] [])) → ∃ (pc : Nat) (Ls : Array Slot) (v : Int32), (pc = 25 ∨ pc = 33) ∧ ((v = 1 ∧ EqC A B) ∨ (v = 0 ∧ ¬ EqC A B)) ∧ Steps p.tables e below (s₁.setTop (entryFrame m #[.ref a, .ref b] 3)) (s₁.setTop (mkF m pc Ls [.int v])) := by
      intro r
      induction r with
      | zero =>
        intro i hi he cl
        exact ⟨33, _, 1, Or.inr rfl, Or.inl ⟨rfl, hs, fun j hj => he j (by omega)⟩, cl.trans (by
          refine XS.iloadN X0.here hexec rfl (hb hbytes d9) rfl ?_
          refine XS.aloadN X0.here hexec rfl (hb hbytes d10) rfl rfl ?_
          refine X0.alen hexec hA0 rfl rfl (hb hbytes d11) ?_
          refine XS.icmpYes X0.here hexec rfl (pc0 := 12) rfl (hb hbytes d12) rfl (ii_ge_t (nlt32 (by omega) (by omega))) (by decide) rfl ?_
          refine iconstV X0.here hexec rfl 1 (hb hbytes d32) (by decide) ?_
          exact Steps.refl _)⟩
      | succ r ih =>
        intro i hi he cl
        have c4 : Steps p.tables e below (s₁.setTop (entryFrame m #[.ref a, .ref b] 3)) (s₁.setTop (mkF m 21 #[.val (.ref a), .val (.ref b), .val (.int (Int32.ofNat i))] [.int (yv B i), .int (yv A i)])) := cl.trans (by
          refine XS.iloadN X0.here hexec rfl (hb hbytes d9) rfl ?_
          refine XS.aloadN X0.here hexec rfl (hb hbytes d10) rfl rfl ?_
          refine X0.alen hexec hA0 rfl rfl (hb hbytes d11) ?_
          refine XS.icmpNo X0.here hexec rfl (hb hbytes d12) rfl (ii_ge_f (lt32 (by omega) (by omega))) ?_
          refine XS.aloadN X0.here hexec rfl (hb hbytes d15) rfl rfl ?_
          refine XS.iloadN X0.here hexec rfl (hb hbytes d16) rfl ?_
          refine X0.aget hexec hA0 rfl (yv_get hA tA (i := i) (by omega)) rfl rfl (hb hbytes d17) ?_
          refine XS.aloadN X0.here hexec rfl (hb hbytes d18) rfl rfl ?_
          refine XS.iloadN X0.here hexec rfl (hb hbytes d19) rfl ?_
          refine X0.aget hexec hB0 rfl (yv_get hB tB (i := i) (by omega)) rfl rfl (hb hbytes d20) ?_
          exact Steps.refl _)
        by_cases hv : yv A i = yv B i
        · have c5 : Steps p.tables e below (s₁.setTop (entryFrame m #[.ref a, .ref b] 3)) (s₁.setTop (mkF m 9 #[.val (.ref a), .val (.ref b), .val (.int (Int32.ofNat i + 1))] [])) := c4.trans (by
            refine XS.icmpYes X0.here hexec rfl (pc0 := 21) rfl (hb hbytes d21) rfl (ii_eq_t hv) (by decide) rfl ?_
            refine iincV X0.here hexec rfl 1 (hb hbytes d26) (by decide) rfl rfl ?_
            refine XS.goto X0.here hexec rfl (pc0 := 29) rfl (hb hbytes d29) (by decide) rfl ?_
            exact Steps.refl _)
          rw [succ32] at c5
          exact ih (i + 1) (by omega) (fun j hj => by
            by_cases e : j = i
            · rw [e]; exact hv
            · exact he j (by omega)) c5
        · exact ⟨25, _, 0, Or.inl rfl, Or.inr ⟨rfl, fun q => hv (q.2 i (by omega))⟩, c4.trans (by
            refine XS.icmpNo X0.here hexec rfl (hb hbytes d21) rfl (ii_eq_f hv) ?_
            refine iconstV X0.here hexec rfl 0 (hb hbytes d24) (by decide) ?_
            exact Steps.refl _)⟩
    obtain ⟨pc, Ls, v, hpc, hv, cz⟩ := loop A.slots.size 0 (by omega) (fun j hj => absurd hj (Nat.not_lt_zero j)) c3
    have nv : narrow .boolean (.int v) = .int v := by rcases hv with ⟨rfl, -⟩ | ⟨rfl, -⟩ <;> rfl
    rcases hpc with rfl | rfl
    · exact ⟨s₁, some (.int v), _, _, _, X0, rfl, rfl, rfl, (fun h => by cases h), ⟨v, rfl, hh0, hv⟩, fun fs hl => cz.trans (X0.ireturnOut hexec hret nv (Or.inr (Or.inl rfl)) (hb hbytes d25) hl)⟩
    · exact ⟨s₁, some (.int v), _, _, _, X0, rfl, rfl, rfl, (fun h => by cases h), ⟨v, rfl, hh0, hv⟩, fun fs hl => cz.trans (X0.ireturnOut hexec hret nv (Or.inr (Or.inl rfl)) (hb hbytes d33) hl)⟩
  · have c3 : Steps p.tables e below (s₁.setTop (entryFrame m #[.ref a, .ref b] 3)) (s₁.setTop (mkF m 35 #[.val (.ref a), .val (.ref b), .unset] [.int 0])) := c2.trans (by
      refine XS.icmpYes X0.here hexec rfl (pc0 := 4) rfl (hb hbytes d4) rfl (ii_ne_t (ne32 a31 b31 hs)) (by decide) rfl ?_
      refine iconstV X0.here hexec rfl 0 (hb hbytes d34) (by decide) ?_
      exact Steps.refl _)
    exact ⟨s₁, some (.int 0), _, _, _, X0, rfl, rfl, rfl, (fun h => by cases h), ⟨0, rfl, hh0, Or.inr ⟨rfl, fun q => hs q.1⟩⟩, fun fs hl => c3.trans (X0.ireturnOut hexec hret rfl (Or.inr (Or.inl rfl)) (hb hbytes d35) hl)⟩
end LEq
theorem Cod.ty {cd : Int32} {n : Nat} {f : Nat → Int32} {V : Cell} (h : Cod cd n f V) : Typed .byte V := fun i v hv => by
  have hi : i < V.slots.size := (Array.getElem?_eq_some_iff.mp hv).1
  rcases h with ⟨-, k1, k2⟩ | ⟨-, k1, k2, -⟩
  · rw [(k2 i (by omega)).1] at hv; cases hv; exact fits_lo8 _
  · rcases Nat.mod_two_eq_zero_or_one i with e | e
    · obtain ⟨j, rfl⟩ : ∃ j, i = 2 * j := ⟨i / 2, by omega⟩
      rw [(k2 j (by omega)).1] at hv; cases hv; exact fits_lo8 _
    · obtain ⟨j, rfl⟩ : ∃ j, i = 2 * j + 1 := ⟨i / 2, by omega⟩
      rw [(k2 j (by omega)).2] at hv; cases hv; exact fits_lo8 _
/-- the same text -/
def SameT (n : Nat) (f : Nat → Int32) (k : Nat) (g : Nat → Int32) : Prop := n = k ∧ ∀ j, j < n → f j = g j
theorem lo8_inj {x y : Int32} (h0 : ¬ x < 0) (h1 : ¬ 255 < x) (k0 : ¬ y < 0) (k1 : ¬ 255 < y) (h : lo8 x = lo8 y) : x = y := by
  rw [← lo8_mask h0 h1, ← lo8_mask k0 k1, h]
/-- arrays coded by one coder are equal just where the texts are -/
theorem Cod.eqv {cd : Int32} {n k : Nat} {f g : Nat → Int32} {V V' : Cell} (h : Cod cd n f V) (h' : Cod cd k g V') (hf : ∀ j, j < n → ¬ f j < 0 ∧ ¬ 65535 < f j) (hg : ∀ j, j < k → ¬ g j < 0 ∧ ¬ 65535 < g j) : EqC V V' ↔ SameT n f k g := by
  have yvv : ∀ {W : Cell} {i : Nat} {x : Int32}, W.slots[i]? = some (.int x) → yv W i = x := fun q => by unfold yv; rw [q]
  rcases h with ⟨rfl, k1, k2⟩ | ⟨rfl, k1, k2, -⟩
  · rcases h' with ⟨-, m1, m2⟩ | ⟨e, -⟩
    · constructor
      · rintro ⟨e1, e2⟩
        refine ⟨by omega, fun j hj => ?_⟩
        have q := e2 j (by omega)
        rw [yvv (k2 j hj).1, yvv (m2 j (by omega)).1] at q
        exact lo8_inj (hf j hj).1 (k2 j hj).2 (hg j (by omega)).1 (m2 j (by omega)).2 q
      · rintro ⟨rfl, e2⟩
        refine ⟨by omega, fun j hj => ?_⟩
        rw [yvv (k2 j (by omega)).1, yvv (m2 j (by omega)).1, e2 j (by omega)]
    · exact absurd e (by decide)
  · rcases h' with ⟨e, -⟩ | ⟨-, m1, m2, -⟩
    · exact absurd e (by decide)
    · constructor
      · rintro ⟨e1, e2⟩
        refine ⟨by omega, fun j hj => ?_⟩
        have q1 := e2 (2 * j) (by omega)
        have q2 := e2 (2 * j + 1) (by omega)
        rw [yvv (k2 j hj).1, yvv (m2 j (by omega)).1] at q1
        rw [yvv (k2 j hj).2, yvv (m2 j (by omega)).2] at q2
        rw [← pair_says (hf j hj).1 (hf j hj).2, ← pair_says (hg j (by omega)).1 (hg j (by omega)).2, q1, q2]
      · rintro ⟨rfl, e2⟩
        refine ⟨by omega, fun i hi => ?_⟩
        rcases Nat.mod_two_eq_zero_or_one i with e | e
        · obtain ⟨j, rfl⟩ : ∃ j, i = 2 * j := ⟨i / 2, by omega⟩
          rw [yvv (k2 j (by omega)).1, yvv (m2 j (by omega)).1, e2 j (by omega)]
        · obtain ⟨j, rfl⟩ : ∃ j, i = 2 * j + 1 := ⟨i / 2, by omega⟩
          rw [yvv (k2 j (by omega)).2, yvv (m2 j (by omega)).2, e2 j (by omega)]
/-- two codings differ: so do the texts -/
theorem Cod.dif {cd cd' : Int32} {n k : Nat} {f g : Nat → Int32} {V V' : Cell} (h : Cod cd n f V) (h' : Cod cd' k g V') (hne : ¬ cd = cd') : ¬ SameT n f k g := by
  rintro ⟨rfl, e⟩
  rcases h with ⟨rfl, -, k2⟩ | ⟨rfl, -, -, j, hj, hw⟩
  · rcases h' with ⟨rfl, -⟩ | ⟨-, -, -, j, hj, hw⟩
    · exact hne rfl
    · exact (k2 j hj).2 (by rw [e j hj]; exact hw)
  · rcases h' with ⟨-, -, m2⟩ | ⟨rfl, -⟩
    · exact (m2 j hj).2 (by rw [← e j hj]; exact hw)
    · exact hne rfl
/-- an object of exactly C is an instance of C -/
theorem cinst {p : Program} {l : Launch} {e : Env} {R : Room} {s : State} {m : MethodId} {args : Array Value} {below : List Frame} {meth : Method} {c : Code} {T : State} {locs : List Loc} {cells slots : Nat} (X : Stand p l e R s m args below meth c T locs cells slots) (hexec : p.tables.exec = Jvm.exec) {own C : String} {index : Nat} (hown : s.vm.findClass own = some m.cls) (hlink : (Cond.classLink own index C).before args s = true) {a : Addr} (hE : Exact C a T)
    {g : JFrame} (hg : g.method = m) {rest : List Value} (hstack : g.stack = .ref a :: rest) (hdg : decode c.code g.pc = .ok (.instanceof index, 3)) :
    ∃ T', Stand p l e R s m args below meth c T' locs cells slots ∧ T'.heap = T.heap ∧ ∀ target, Steps p.tables e below (T'.setTop { g with pc := g.pc + 3, stack := .int 1 :: rest }) target → Steps p.tables e below (T.setTop g) target := by
  obtain ⟨cB, h1, D, h2, h3, h4⟩ := hE
  have h1' : s.vm.findClass C = some cB := by rw [← X.warmed.alike.findClass]; exact h1
  obtain ⟨vm', X', st⟩ := X.instanceofYes hexec hown hlink h2 h4 h1' (by rw [h3]; exact Jvm.Free.SB.assignable_self _ _) hg hstack hdg
  exact ⟨_, X', rfl, st⟩
theorem cself {p : Program} {l : Launch} {e : Env} {R : Room} {s : State} {m : MethodId} {args : Array Value} {below : List Frame} {meth : Method} {c : Code} {T : State} {locs : List Loc} {cells slots : Nat} (X : Stand p l e R s m args below meth c T locs cells slots) (hexec : p.tables.exec = Jvm.exec) {own C : String} {index : Nat} (hown : s.vm.findClass own = some m.cls) (hlink : (Cond.classLink own index C).before args s = true) {a : Addr} (hE : Exact C a T)
    {g : JFrame} (hg : g.method = m) {rest : List Value} (hstack : g.stack = .ref a :: rest) (hdg : decode c.code g.pc = .ok (.checkcast index, 3)) :
    ∃ T', Stand p l e R s m args below meth c T' locs cells slots ∧ T'.heap = T.heap ∧ ∀ target, Steps p.tables e below (T'.setTop { g with pc := g.pc + 3, stack := .ref a :: rest }) target → Steps p.tables e below (T.setTop g) target := by
  obtain ⟨cB, h1, D, h2, h3, h4⟩ := hE
  have h1' : s.vm.findClass C = some cB := by rw [← X.warmed.alike.findClass]; exact h1
  obtain ⟨vm', X', st⟩ := X.checkcastYes hexec hown hlink h2 h4 h1' (by rw [h3]; exact Jvm.Free.SB.assignable_self _ _) hg hstack hdg
  exact ⟨_, X', rfl, fun t h => st t (by rw [← hstack] at h; exact h)⟩
namespace SEq
def yN : MethodName := ⟨"java/lang/String", "equals", "(Ljava/lang/Object;)Z"⟩
abbrev yB : ByteArray := jdk_42_method_66_code
theorem d0 : decode yB 0 = .ok (.aload_n 0, 1) := by decide +kernel
theorem d1 : decode yB 1 = .ok (.aload_n 1, 1) := by decide +kernel
theorem d2 : decode yB 2 = .ok (.if_acmp (.ne) 5, 3) := by decide +kernel
theorem d5 : decode yB 5 = .ok (.iconst 1, 1) := by decide +kernel
theorem d6 : decode yB 6 = .ok (.ireturn, 1) := by decide +kernel
theorem d7 : decode yB 7 = .ok (.aload_n 1, 1) := by decide +kernel
theorem d8 : decode yB 8 = .ok (.instanceof 10, 3) := by decide +kernel
theorem d11 : decode yB 11 = .ok (.ifCond (.eq) 43, 3) := by decide +kernel
theorem d14 : decode yB 14 = .ok (.aload_n 1, 1) := by decide +kernel
theorem d15 : decode yB 15 = .ok (.checkcast 10, 3) := by decide +kernel
theorem d18 : decode yB 18 = .ok (.astore_n 2, 1) := by decide +kernel
theorem d19 : decode yB 19 = .ok (.getstatic 38, 3) := by decide +kernel
theorem d22 : decode yB 22 = .ok (.ifCond (.eq) 14, 3) := by decide +kernel
theorem d25 : decode yB 25 = .ok (.aload_n 0, 1) := by decide +kernel
theorem d26 : decode yB 26 = .ok (.getfield 15, 3) := by decide +kernel
theorem d29 : decode yB 29 = .ok (.aload_n 2, 1) := by decide +kernel
theorem d30 : decode yB 30 = .ok (.getfield 15, 3) := by decide +kernel
theorem d33 : decode yB 33 = .ok (.if_icmp (.ne) 21, 3) := by decide +kernel
theorem d36 : decode yB 36 = .ok (.aload_n 0, 1) := by decide +kernel
theorem d37 : decode yB 37 = .ok (.getfield 9, 3) := by decide +kernel
theorem d40 : decode yB 40 = .ok (.aload_n 2, 1) := by decide +kernel
theorem d41 : decode yB 41 = .ok (.getfield 9, 3) := by decide +kernel
theorem d44 : decode yB 44 = .ok (.invokestatic 541, 3) := by decide +kernel
theorem d47 : decode yB 47 = .ok (.ifCond (.eq) 7, 3) := by decide +kernel
theorem d50 : decode yB 50 = .ok (.iconst 1, 1) := by decide +kernel
theorem d51 : decode yB 51 = .ok (.goto 4, 3) := by decide +kernel
theorem d54 : decode yB 54 = .ok (.iconst 0, 1) := by decide +kernel
theorem d55 : decode yB 55 = .ok (.ireturn, 1) := by decide +kernel
def site : List Cond := [.classLink "java/lang/String" 10 "java/lang/String", .fieldLink "java/lang/String" 38 "java/lang/String" "COMPACT_STRINGS" "Z", .fieldLink "java/lang/String" 15 "java/lang/String" "coder" "B", .fieldLink "java/lang/String" 9 "java/lang/String" "value" "[B", LEq.tab] ++ staticW "java/lang/String" 541 LEq.yN
def tab : Cond := tabOf yN yB 3 (some .boolean) site
def P (x t : Addr) (V : Cell) (cd : Int32) (n : Nat) (f : Nat → Int32) (y t' : Addr) (V' : Cell) (cd' : Int32) (k : Nat) (g : Nat → Int32) (z : Int32) (args : Array Value) (s : State) : Prop := args = #[.ref x, .ref y] ∧ Txt x t V cd n f s ∧ Txt y t' V' cd' k g s ∧ StaticIs s "java/lang/String" "COMPACT_STRINGS" "Z" (.int z) ∧ ¬ z = 0
/-- equals(Object) of two Strings: whether the texts are the same -/
theorem law (l : Launch) (x t : Addr) (V : Cell) (cd : Int32) (n : Nat) (f : Nat → Int32) (y t' : Addr) (V' : Cell) (cd' : Int32) (k : Nat) (g : Nat → Int32) (z : Int32) : Law l yN 2 1 1 14 yB 3 (some .boolean) site (P x t V cd n f y t' V' cd' k g z) (Says01 (SameT n f k g)) [] 0 0 := by
  refine Law.of_walk (plainFor_of_name (by decide +kernel)) (by decide +kernel) (by decide +kernel) (by decide) (fun _ _ h => by rw [h.1]; rfl) (fun _ U U' hal hh h => ⟨h.1, h.2.1.mv hal hh, h.2.2.1.mv hal hh, h.2.2.2.1.there hal hh, h.2.2.2.2⟩) (fun r U U' V V' h1 hal h2 h => Says01.mv r U U' V V' h1 hal h2 h) ?_
  intro p e s m args below meth c s₁ X0 hexec hbytes hml hret hlk hnm hown hh0 W hP
  obtain ⟨rfl, hx, hy, s1, hz⟩ := hP
  have c1 : Steps p.tables e below (s₁.setTop (entryFrame m #[.ref x, .ref y] 3)) (s₁.setTop (mkF m 2 #[.val (.ref x), .val (.ref y), .unset] [.ref y, .ref x])) := Steps.trans (entry rfl) (by
    show Steps p.tables e below (s₁.setTop (mkF m 0 #[.val (.ref x), .val (.ref y), .unset] [])) _
    refine XS.aloadN X0.here hexec rfl (hb hbytes d0) rfl rfl ?_
    refine XS.aloadN X0.here hexec rfl (hb hbytes d1) rfl rfl ?_
    exact Steps.refl _)
  by_cases hxy : x = y
  · have c2 : Steps p.tables e below (s₁.setTop (entryFrame m #[.ref x, .ref y] 3)) (s₁.setTop (mkF m 6 #[.val (.ref x), .val (.ref y), .unset] [.int 1])) := c1.trans (by
      refine acmpNo X0.here hexec rfl (hb hbytes d2) rfl rfl rfl (by simp [acmp, hxy]) ?_
      refine iconstV X0.here hexec rfl 1 (hb hbytes d5) (by decide) ?_
      exact Steps.refl _)
    subst hxy
    have ec : cd = cd' := by
      obtain ⟨D, fd, a1, a2, a3⟩ := hx.2.2.1
      obtain ⟨D', fd', b1, b2, b3⟩ := hy.2.2.1
      cases a1.symm.trans b1
      obtain ⟨q1, q2, q3, q4⟩ := a2.1
      obtain ⟨r1, r2, r3, r4⟩ := b2.1
      cases q4.symm.trans r4
      cases a3.symm.trans b3; rfl
    have et : t = t' := by
      obtain ⟨D, fd, a1, a2, a3⟩ := hx.2.1
      obtain ⟨D', fd', b1, b2, b3⟩ := hy.2.1
      cases a1.symm.trans b1
      obtain ⟨q1, q2, q3, q4⟩ := a2.1
      obtain ⟨r1, r2, r3, r4⟩ := b2.1
      cases q4.symm.trans r4
      cases a3.symm.trans b3; rfl
    subst ec et
    have ev : V = V' := by cases hx.2.2.2.1.1.symm.trans hy.2.2.2.1.1; rfl
    subst ev
    have hs : SameT n f k g := (Cod.eqv hx.2.2.2.2.1 hy.2.2.2.2.1 hx.2.2.2.2.2 hy.2.2.2.2.2).mp ⟨rfl, fun _ _ => rfl⟩
    exact ⟨s₁, some (.int 1), _, _, _, X0, rfl, rfl, rfl, (fun h => by cases h), ⟨1, rfl, hh0, Or.inl ⟨rfl, hs⟩⟩, fun fs hl => c2.trans (X0.ireturnOut hexec hret rfl (Or.inr (Or.inl rfl)) (hb hbytes d6) hl)⟩
  · have c2 : Steps p.tables e below (s₁.setTop (entryFrame m #[.ref x, .ref y] 3)) (s₁.setTop (mkF m 8 #[.val (.ref x), .val (.ref y), .unset] [.ref y])) := c1.trans (by
      refine acmpYes X0.here hexec rfl (pc0 := 2) rfl (hb hbytes d2) rfl rfl rfl (by simp [acmp, hxy]) (by decide) rfl ?_
      refine XS.aloadN X0.here hexec rfl (hb hbytes d7) rfl rfl ?_
      exact Steps.refl _)
    obtain ⟨T3, X3, q3, st3⟩ := cinst X0 hexec hown (wk W (.classLink "java/lang/String" 10 "java/lang/String")) (hy.mv X0.warmed.alike hh0).1 (g := (mkF m 8 #[.val (.ref x), .val (.ref y), .unset] [.ref y])) rfl (rest := []) rfl (hb hbytes d8)
    have hh3 := q3.trans hh0
    have c4 : Steps p.tables e below (s₁.setTop (entryFrame m #[.ref x, .ref y] 3)) (T3.setTop (mkF m 15 #[.val (.ref x), .val (.ref y), .unset] [.ref y])) := (c2.trans (st3 _ (Steps.refl _))).trans (by
      refine XS.ifNo X3.here hexec rfl (hb hbytes d11) rfl (i0_eq_f (by decide)) ?_
      refine XS.aloadN X3.here hexec rfl (hb hbytes d14) rfl rfl ?_
      exact Steps.refl _)
    obtain ⟨T5, X5, q5, st5⟩ := cself X3 hexec hown (wk W (.classLink "java/lang/String" 10 "java/lang/String")) (hy.mv X3.warmed.alike hh3).1 (g := (mkF m 15 #[.val (.ref x), .val (.ref y), .unset] [.ref y])) rfl (rest := []) rfl (hb hbytes d15)
    have hh5 := q5.trans hh3
    have c6 : Steps p.tables e below (s₁.setTop (entryFrame m #[.ref x, .ref y] 3)) (T5.setTop (mkF m 19 #[.val (.ref x), .val (.ref y), .val (.ref y)] [])) := (c4.trans (st5 _ (Steps.refl _))).trans (by
      refine XS.astoreN X5.here hexec rfl (hb hbytes d18) rfl rfl rfl ?_
      exact Steps.refl _)
    obtain ⟨T7, X7, q7, st7⟩ := X5.sget hexec hown (wk W (.fieldLink "java/lang/String" 38 "java/lang/String" "COMPACT_STRINGS" "Z")) s1 (fun _ _ h => by rw [hh5]; exact h) (g := (mkF m 19 #[.val (.ref x), .val (.ref y), .val (.ref y)] [])) rfl (hb hbytes d19)
    have hh7 := q7.trans hh5
    have c8 : Steps p.tables e below (s₁.setTop (entryFrame m #[.ref x, .ref y] 3)) (T7.setTop (mkF m 26 #[.val (.ref x), .val (.ref y), .val (.ref y)] [.ref x])) := (c6.trans (st7 _ (Steps.refl _))).trans (by
      refine XS.ifNo X7.here hexec rfl (hb hbytes d22) rfl (i0_eq_f hz) ?_
      refine XS.aloadN X7.here hexec rfl (hb hbytes d25) rfl rfl ?_
      exact Steps.refl _)
    obtain ⟨T9, X9, q9, st9⟩ := X7.hget hexec hown (wk W (.fieldLink "java/lang/String" 15 "java/lang/String" "coder" "B")) (hx.mv X7.warmed.alike hh7).2.2.1 (g := (mkF m 26 #[.val (.ref x), .val (.ref y), .val (.ref y)] [.ref x])) rfl (rest := []) rfl (hb hbytes d26)
    have hh9 := q9.trans hh7
    have c10 : Steps p.tables e below (s₁.setTop (entryFrame m #[.ref x, .ref y] 3)) (T9.setTop (mkF m 30 #[.val (.ref x), .val (.ref y), .val (.ref y)] [.ref y, .int cd])) := (c8.trans (st9 _ (Steps.refl _))).trans (by
      refine XS.aloadN X9.here hexec rfl (hb hbytes d29) rfl rfl ?_
      exact Steps.refl _)
    obtain ⟨T11, X11, q11, st11⟩ := X9.hget hexec hown (wk W (.fieldLink "java/lang/String" 15 "java/lang/String" "coder" "B")) (hy.mv X9.warmed.alike hh9).2.2.1 (g := (mkF m 30 #[.val (.ref x), .val (.ref y), .val (.ref y)] [.ref y, .int cd])) rfl (rest := [.int cd]) rfl (hb hbytes d30)
    have hh11 := q11.trans hh9
    have c12 : Steps p.tables e below (s₁.setTop (entryFrame m #[.ref x, .ref y] 3)) (T11.setTop (mkF m 33 #[.val (.ref x), .val (.ref y), .val (.ref y)] [.int cd', .int cd])) := c10.trans (st11 _ (Steps.refl _))
    by_cases hcd : cd = cd'
    · subst hcd
      have c13 : Steps p.tables e below (s₁.setTop (entryFrame m #[.ref x, .ref y] 3)) (T11.setTop (mkF m 37 #[.val (.ref x), .val (.ref y), .val (.ref y)] [.ref x])) := c12.trans (by
        refine XS.icmpNo X11.here hexec rfl (hb hbytes d33) rfl (ii_ne_f rfl) ?_
        refine XS.aloadN X11.here hexec rfl (hb hbytes d36) rfl rfl ?_
        exact Steps.refl _)
      obtain ⟨T14, X14, q14, st14⟩ := X11.hget hexec hown (wk W (.fieldLink "java/lang/String" 9 "java/lang/String" "value" "[B")) (hx.mv X11.warmed.alike hh11).2.1 (g := (mkF m 37 #[.val (.ref x), .val (.ref y), .val (.ref y)] [.ref x])) rfl (rest := []) rfl (hb hbytes d37)
      have hh14 := q14.trans hh11
      have c15 : Steps p.tables e below (s₁.setTop (entryFrame m #[.ref x, .ref y] 3)) (T14.setTop (mkF m 41 #[.val (.ref x), .val (.ref y), .val (.ref y)] [.ref y, .ref t])) := (c13.trans (st14 _ (Steps.refl _))).trans (by
        refine XS.aloadN X14.here hexec rfl (hb hbytes d40) rfl rfl ?_
        exact Steps.refl _)
      obtain ⟨T16, X16, q16, st16⟩ := X14.hget hexec hown (wk W (.fieldLink "java/lang/String" 9 "java/lang/String" "value" "[B")) (hy.mv X14.warmed.alike hh14).2.1 (g := (mkF m 41 #[.val (.ref x), .val (.ref y), .val (.ref y)] [.ref y, .ref t])) rfl (rest := [.ref t]) rfl (hb hbytes d41)
      have hh16 := q16.trans hh14
      have c17 : Steps p.tables e below (s₁.setTop (entryFrame m #[.ref x, .ref y] 3)) (T16.setTop (mkF m 44 #[.val (.ref x), .val (.ref y), .val (.ref y)] [.ref t', .ref t])) := c15.trans (st16 _ (Steps.refl _))
      obtain ⟨v18, T18, X18, E18, g18⟩ := X16.callS hexec (LEq.law l t V t' V') hown (wks W (staticW "java/lang/String" 541 LEq.yN)) (wk W LEq.tab) (W := 0) (Nat.le_of_ble_eq_true rfl) (Nat.le_of_ble_eq_true rfl) (Nat.le_refl _) (Nat.le_refl _) (g := (mkF m 44 #[.val (.ref x), .val (.ref y), .val (.ref y)] [.ref t', .ref t])) rfl (by rw [hml]; rfl) c17 (argsL := [.ref t, .ref t']) (rest := []) rfl rfl (by show 2 * 0 + 0 ≤ _; decide) (hb hbytes d44) (⟨rfl, hx.2.2.2.1.mv X16.warmed.alike hh16, hx.2.2.2.2.1.ty, hy.2.2.2.1.mv X16.warmed.alike hh16, hy.2.2.2.2.1.ty⟩)
      obtain ⟨v, rfl, q18, hv⟩ := E18
      have iff := Cod.eqv hx.2.2.2.2.1 hy.2.2.2.2.1 hx.2.2.2.2.2 hy.2.2.2.2.2
      rcases hv with ⟨rfl, he⟩ | ⟨rfl, he⟩
      · have c19 : Steps p.tables e below (s₁.setTop (entryFrame m #[.ref x, .ref y] 3)) (T18.setTop (mkF m 55 #[.val (.ref x), .val (.ref y), .val (.ref y)] [.int 1])) := Steps.trans g18 (by
          refine XS.ifNo X18.here hexec rfl (hb hbytes d47) rfl (i0_eq_f (by decide)) ?_
          refine iconstV X18.here hexec rfl 1 (hb hbytes d50) (by decide) ?_
          refine XS.goto X18.here hexec rfl (pc0 := 51) rfl (hb hbytes d51) (by decide) rfl ?_
          exact Steps.refl _)
        exact ⟨T18, some (.int 1), _, _, _, X18, rfl, rfl, rfl, (fun h => by cases h), ⟨1, rfl, q18.trans hh16, Or.inl ⟨rfl, iff.mp he⟩⟩, fun fs hl => c19.trans (X18.ireturnOut hexec hret rfl (Or.inr (Or.inl rfl)) (hb hbytes d55) hl)⟩
      · have c19 : Steps p.tables e below (s₁.setTop (entryFrame m #[.ref x, .ref y] 3)) (T18.setTop (mkF m 55 #[.val (.ref x), .val (.ref y), .val (.ref y)] [.int 0])) := Steps.trans g18 (by
          refine XS.ifYes X18.here hexec rfl (pc0 := 47) rfl (hb hbytes d47) rfl (i0_eq_t rfl) (by decide) rfl ?_
          refine iconstV X18.here hexec rfl 0 (hb hbytes d54) (by decide) ?_
          exact Steps.refl _)
        exact ⟨T18, some (.int 0), _, _, _, X18, rfl, rfl, rfl, (fun h => by cases h), ⟨0, rfl, q18.trans hh16, Or.inr ⟨rfl, fun q => he (iff.mpr q)⟩⟩, fun fs hl => c19.trans (X18.ireturnOut hexec hret rfl (Or.inr (Or.inl rfl)) (hb hbytes d55) hl)⟩
    · have c13 : Steps p.tables e below (s₁.setTop (entryFrame m #[.ref x, .ref y] 3)) (T11.setTop (mkF m 55 #[.val (.ref x), .val (.ref y), .val (.ref y)] [.int 0])) := c12.trans (by
        refine XS.icmpYes X11.here hexec rfl (pc0 := 33) rfl (hb hbytes d33) rfl (ii_ne_t hcd) (by decide) rfl ?_
        refine iconstV X11.here hexec rfl 0 (hb hbytes d54) (by decide) ?_
        exact Steps.refl _)
      exact ⟨T11, some (.int 0), _, _, _, X11, rfl, rfl, rfl, (fun h => by cases h), ⟨0, rfl, hh11, Or.inr ⟨rfl, Cod.dif hx.2.2.2.2.1 hy.2.2.2.2.1 hcd⟩⟩, fun fs hl => c13.trans (X11.ireturnOut hexec hret rfl (Or.inr (Or.inl rfl)) (hb hbytes d55) hl)⟩
theorem pays {l : Launch} {R : Room} {p : Program} {e : Env} {below : List Frame} {s : State} {sargs : Array Value} {len W : Nat} (x t : Addr) (V : Cell) (cd : Int32) (n : Nat) (f : Nat → Int32) (y t' : Addr) (V' : Cell) (cd' : Int32) (k : Nat) (g : Nat → Int32) (z : Int32) (htab : tab.before sargs s = true) (hfr : 2 ≤ R.frames) (hlo : W + 28 ≤ R.locals) :
    Back l R p e below s sargs yN len W (fun A₁ a₁ => A₁.cells + 0 ≤ R.cells ∧ A₁.slots + 0 ≤ R.slots ∧ P x t V cd n f y t' V' cd' k g z a₁ A₁.U) (fun A₁ _ v₁ B₁ => Says01 (SameT n f k g) v₁ A₁.U B₁.U ∧ B₁.locs = A₁.locs ++ [] ∧ B₁.cells = A₁.cells + 0 ∧ B₁.slots = A₁.slots + 0) :=
  (law l x t V cd n f y t' V' cd' k g z).pays htab hfr (by omega)
end SEq
end StrChars
namespace StrChars.Road
open Jvm Sem ClassFile Op Lib Jvm.Stand Jvm.Free Jvm.Free.XT
open Jvm.Lib.Cold (StaticIs)
/-- the words of String.equals(Object) -/
abbrev wordsEq : List Jvm.Cond := [.code SEq.yN SEq.yB 3 (some .boolean), .initialized ST, .classLink ST 10 ST, .fieldLink ST 38 ST "COMPACT_STRINGS" "Z", .fieldLink ST 15 ST "coder" "B", .fieldLink ST 9 ST "value" "[B", .methodLink ST 541 LEq.yN, .static LEq.yN, .code LEq.yN LEq.yB 3 (some .boolean), .initialized "java/lang/StringLatin1"]
theorem tabEq_of {a : Array Value} {s : State} (h : ∀ w ∈ wordsEq, w.before a s = true) : SEq.tab.before a s = true := by
  have hl : LEq.tab.before a s = true := unparts (wk h (.code LEq.yN LEq.yB 3 (some .boolean))) (wks h (.initialized LEq.yN.cls :: LEq.site))
  have q := consq hl h
  exact unparts (wk q (.code SEq.yN SEq.yB 3 (some .boolean))) (wks q (.initialized SEq.yN.cls :: SEq.site))
theorem movedEq {Z s : State} {a0 args : Array Value} (hZ : Z.Warmed39 s.vm) (hw : ∀ d ∈ wordsEq, d.before a0 Z = true) : ∀ d ∈ wordsEq, d.before args s = true := fun d hd => by
  have t : ∀ d ∈ wordsEq, (d.onTables && d.keepsFace) = true := by decide +kernel
  exact RoadKit.mv hZ (hw d hd) (t d hd)
/-- the road's facts of a String, as the laws ask it -/
theorem txt_of {Z U : State} {a0 : Array Value} {kI : Nat} (wi : (Jvm.Cond.instantiable ST kI).before a0 Z = true) (al : Z.vm.Alike U.vm) {x t : Addr} {kb : ClassId} {cs : List Int32} {cd N2 : Int32} {vs : List Value} (E : RoadKit.Exa Z U.heap x ST) (V : RoadKit.Fld Z U.heap x ST "value" "[B" (.ref t)) (C : RoadKit.Fld Z U.heap x ST "coder" "B" (.int cd)) (K : RoadKit.Arv Z U.heap t kb .byte N2 vs (.int 0)) (hc : CodA cs cd N2 vs) (hb : ∀ c ∈ cs, ¬ c < 0 ∧ ¬ (65535 : Int32) < c) (l2 : cs.length ≤ 4000) :
    ∃ A, Txt x t A cd cs.length (fun j => cs.getD j 0) U := by
  obtain ⟨A, K1, K2, K3, K4, K5, K6⟩ := K
  have hcod := hc.cod (by omega) K3 K5
  obtain ⟨D, fV, fC, hB, F1, F2, g1, g2, -, -⟩ := strObj wi al E V C
  exact ⟨A, ⟨_, hB.2.2.1, D, hB.1, rfl, by cases q : D.vm <;> first | rfl | exact absurd q (hB.2.1.2 _)⟩, Has.of hB F1 g1, Has.of hB F2 g2, ⟨K1.1, State.isArrayOf_alike al K1.2.1, K1.2.2, by rcases hcod with ⟨-, q, -⟩ | ⟨-, q, -⟩ <;> omega⟩, hcod, fun j hj => by
    have e : cs.getD j 0 = cs[j] := by simp [List.getD_eq_getElem?_getD, hj]
    show ¬ cs.getD j 0 < 0 ∧ ¬ 65535 < cs.getD j 0
    rw [e]; exact hb _ (List.getElem_mem _)⟩
theorem same_list (cs ds : List Int32) : SameT cs.length (fun j => cs.getD j 0) ds.length (fun j => ds.getD j 0) ↔ cs = ds := by
  constructor
  · rintro ⟨e, q⟩
    refine List.ext_getElem e fun j h1 h2 => ?_
    have := q j h1
    simpa [List.getD_eq_getElem?_getD, h1, h2] using this
  · rintro rfl
    exact ⟨rfl, fun _ _ => rfl⟩
/-- **equals(Object) OF TWO SUCH STRINGS**: 1 just where the chars are the same -/
theorem eqW {p : Program} {l : Launch} {e : Env} {R : Room} {s : State} {args : Array Value} {below : List Frame} {len W : Nat} {Z : State} {a0 : Array Value} {h : Heap} (hZ : Z.Warmed39 s.vm) (hw : ∀ d ∈ wordsEq, d.before a0 Z = true) {kI : Nat} (wi : (Jvm.Cond.instantiable ST kI).before a0 Z = true)
    {x t : Addr} {kb : ClassId} {cs : List Int32} {cd N2 : Int32} {vs : List Value} (E : RoadKit.Exa Z h x ST) (V : RoadKit.Fld Z h x ST "value" "[B" (.ref t)) (C : RoadKit.Fld Z h x ST "coder" "B" (.int cd)) (K : RoadKit.Arv Z h t kb .byte N2 vs (.int 0)) (hc : CodA cs cd N2 vs) (hb : ∀ c ∈ cs, ¬ c < 0 ∧ ¬ (65535 : Int32) < c) (l2 : cs.length ≤ 4000)
    {y t' : Addr} {kb' : ClassId} {ds : List Int32} {cd' N2' : Int32} {vs' : List Value} (E' : RoadKit.Exa Z h y ST) (V' : RoadKit.Fld Z h y ST "value" "[B" (.ref t')) (C' : RoadKit.Fld Z h y ST "coder" "B" (.int cd')) (K' : RoadKit.Arv Z h t' kb' .byte N2' vs' (.int 0)) (hc' : CodA ds cd' N2' vs') (hb' : ∀ c ∈ ds, ¬ c < 0 ∧ ¬ (65535 : Int32) < c) (l2' : ds.length ≤ 4000)
    {z : Int32} (S : RoadKit.Sta Z h ST "COMPACT_STRINGS" "Z" (.int z)) (hz : ¬ z = 0) (hfr : 2 ≤ R.frames) (hlo : W + 28 ≤ R.locals) :
    Back l R p e below s args (⟨"java/lang/String", "equals", "(Ljava/lang/Object;)Z"⟩ : MethodName) len W (fun P a => a = #[.ref x, .ref y] ∧ P.U.heap = h ∧ P.cells + 0 ≤ R.cells ∧ P.slots + 0 ≤ R.slots)
      (fun P _ v B => ∃ L, (((v = some (.int 1) ∧ cs = ds) ∨ (v = some (.int 0) ∧ ¬ cs = ds)) ∧ L = [] ∧ B.U.heap = h) ∧ B.locs = P.locs ++ L ∧ B.cells = P.cells + 0 ∧ B.slots = P.slots + 0) := by
  intro m meth c P g ig mk a X hg hsize hdg hW hn hp'
  obtain ⟨rfl, rfl, r1, r2⟩ := hp'
  have al : Z.vm.Alike P.U.vm := hZ.alike.trans X.warmed.alike
  obtain ⟨A, hx⟩ := txt_of wi al E V C K hc hb l2
  obtain ⟨A', hy⟩ := txt_of wi al E' V' C' K' hc' hb' l2'
  obtain ⟨v, B, X', ⟨⟨w, hv, hh, hq⟩, hl, hk, hs⟩, st⟩ := SEq.pays x t A cd cs.length (fun j => cs.getD j 0) y t' A' cd' ds.length (fun j => ds.getD j 0) z (tabEq_of (movedEq hZ hw)) hfr hlo m meth c P g ig mk _ X hg hsize hdg hW hn ⟨r1, r2, rfl, hx, hy, sta_is al S, hz⟩
  refine ⟨v, B, X', ⟨[], ⟨?_, rfl, hh⟩, hl, hk, hs⟩, st⟩
  rcases hq with ⟨rfl, q⟩ | ⟨rfl, q⟩
  · exact Or.inl ⟨hv, (same_list cs ds).mp q⟩
  · exact Or.inr ⟨hv, fun e => q ((same_list cs ds).mpr e)⟩
end StrChars.Road
namespace StrChars.Road
open Jvm Sem ClassFile Op Lib Jvm.Stand Jvm.Free Jvm.Free.XT
open Jvm.Lib.Cold (StaticIs)
/-- what backV says of its String, as the contracts of this text ask it: cs's low bytes, coder 0 -/
theorem codOf {cs : List Int32} {n : Nat} (hn : cs.length = n) (hb : ∀ c ∈ cs, ¬ 255 < c) : CodA cs 0 (Int32.ofNat n) ((cs.map lo8).map Value.int) := Or.inl ⟨rfl, by rw [hn], by simp [List.map_map, Function.comp_def], hb⟩
end StrChars.Road
end Jvm.Pilot.@@N@@

namespace Jvm.Pilot.@@N@@
open Jvm Jvm.ClassFile Sem Op Lib Jvm.Free Jvm.Stand Jvm.LawKit Jvm.RoadKit Bundle Jvm.Pilot.@@N@@.Jvm.D
theorem own_w {Z : State} {a0 : Array Value} (hw : ∀ d ∈ tables_1, d.before a0 Z = true) (i : Nat) {d : Jvm.Cond} (h : tables_1[i]? = some d) : d.before a0 Z = true := hw d (List.mem_of_getElem? h)
abbrev own_Go (p : Program) (e : Env) (below : List Frame) (Φ : State → Outcome → Prop) (T : State) (g : JFrame) : Prop := ∃ s₂ o, Steps p.tables e below (T.setTop g) s₂ ∧ Φ s₂ o
section OwnGo
variable {p : Program} {e : Env} {below : List Frame} {Φ : State → Outcome → Prop} {T T' : State} {g g' : JFrame}
theorem own_step (st : ∀ target, Steps p.tables e below (T'.setTop g') target → Steps p.tables e below (T.setTop g) target) (k : own_Go p e below Φ T' g') : own_Go p e below Φ T g := by
  obtain ⟨t, o, h, r⟩ := k
  exact ⟨t, o, st t h, r⟩
theorem own_jump (st : Steps p.tables e below (T.setTop g) (T'.setTop g')) (k : own_Go p e below Φ T' g') : own_Go p e below Φ T g := by
  obtain ⟨t, o, h, r⟩ := k
  exact ⟨t, o, st.trans h, r⟩
theorem own_cast (q : g = g') (k : own_Go p e below Φ T g') : own_Go p e below Φ T g := q ▸ k
theorem own_insKeep {Z : State} {h h' : Heap} {a : Addr} {C : String} {ws : List Addr} (F : Ins Z h a C true) (K : Keep h h' ws) : Ins Z h' a C true := by
  obtain ⟨cell, cT, h1, h2, h3⟩ := F
  obtain ⟨c', q1, q2, q3, -⟩ := K.2.2 _ _ h1
  exact ⟨c', cT, q1, h2, by rw [q2, q3]; exact h3⟩
end OwnGo
section OwnCall
variable {p : Program} {l : Launch} {e : Env} {R : Room} {s : State} {m : MethodId} {args : Array Value} {below : List Frame} {meth : Method} {c : Code} {T : State} {locs : List Loc} {cells slots : Nat} {Z : State} {a0 : Array Value} {h : Heap}
  {own : String} {index : Nat} {y z : MethodName} {bytes : ByteArray} {maxL W k n : Nat} {ret : Option FieldType} {as' : Array Value} {Q : Option Value → Heap → List Loc → Prop} {g : JFrame} {argsL rest : List Value} {a : Addr} {C : String} {J J' : Vm → Prop}
/-- who pays a call: what it asks, what it leaves -/
abbrev own_Pay (l : Launch) (R : Room) (p : Program) (e : Env) (below : List Frame) (s : State) (args : Array Value) (y : MethodName) (len W : Nat) (as' : Array Value) (h : Heap) (k n : Nat) (Q : Option Value → Heap → List Loc → Prop) : Prop :=
  Back l R p e below s args y len W (fun A a => a = as' ∧ A.U.heap = h ∧ A.cells + k ≤ R.cells ∧ A.slots + n ≤ R.slots) (fun A _ v B => ∃ L, Q v B.U.heap L ∧ B.locs = A.locs ++ L ∧ B.cells = A.cells + k ∧ B.slots = A.slots + n)
abbrev own_PayW (l : Launch) (R : Room) (p : Program) (e : Env) (below : List Frame) (s : State) (args : Array Value) (y : MethodName) (len W : Nat) (as' : Array Value) (h : Heap) (k n : Nat) (J J' : Vm → Prop) (Q : Option Value → Heap → List Loc → Prop) : Prop :=
  BackS l R p e below s args y len W (fun A a => a = as' ∧ A.U.heap = h ∧ A.cells + k ≤ R.cells ∧ A.slots + n ≤ R.slots ∧ J A.U.vm) (fun A _ v B => ∃ L, (Q v B.U.heap L ∧ J' B.U.vm) ∧ B.locs = A.locs ++ L ∧ B.cells = A.cells + k ∧ B.slots = A.slots + n)
theorem own_cS (X : Stand p l e R s m args below meth c T locs cells slots) (hx : p.tables.exec = Jvm.exec) (hZ : Z.Warmed39 s.vm) (hown : s.vm.findClass own = some m.cls) (w1 : (Jvm.Cond.methodLink own index y).before a0 Z = true) (w2 : (Jvm.Cond.static y).before a0 Z = true) (w3 : (Jvm.Cond.initialized y.cls).before a0 Z = true) (w4 : (Jvm.Cond.code y bytes maxL ret).before a0 Z = true)
    (hy : y.cls ≠ "java/lang/invoke/MethodHandle" ∧ y.cls ≠ "java/lang/invoke/VarHandle") (hK : own_Pay l R p e below s args y 3 W as' h k n Q) (hg : g.method = m) (hsize : g.locals.size = c.maxLocals) (hlen : ∀ sig, parseMethodDescriptor y.desc = some sig → argsL.length = sig.parameters.length) (hstack : g.stack = argsL.reverse ++ rest)
    (hW : 2 * g.monitorRoom + (rest.map fun v => v.category).sum ≤ W) (hdg : decode c.code g.pc = .ok (.invokestatic index, 3)) (ha : argsL.toArray = as') (eT : T.heap = h) (hc : cells + k ≤ R.cells) (hs : slots + n ≤ R.slots) :
    ∃ v T' L, Stand p l e R s m args below meth c T' (locs ++ L) (cells + k) (slots + n) ∧ Q v T'.heap L ∧ Steps p.tables e below (T.setTop g) (T'.setTop { g with pc := g.pc + 3, stack := v.toList ++ rest }) := by
  obtain ⟨v, vm₁, ⟨T', L', c', n'⟩, -, X', ⟨L, hQ, e1, e2, e3⟩, st⟩ := Jvm.LawKit.callS X hx hown (mvT hZ w1) (mvT hZ w2) (mvT hZ w3) (mvT hZ w4) hy hK hg hsize hlen hstack hW hdg (fun _ _ => ⟨ha, eT, hc, hs⟩)
  dsimp only [Pt.U, Pt.locs, Pt.cells, Pt.slots] at X' e1 e2 e3 st hQ
  subst e1 e2 e3
  exact ⟨v, T', L, X', hQ, st _ (Steps.refl _)⟩
theorem own_cI (X : Stand p l e R s m args below meth c T locs cells slots) (hx : p.tables.exec = Jvm.exec) (hZ : Z.Warmed39 s.vm) (hy1 : y.name = "<init>") (hown : s.vm.findClass own = some m.cls) (w1 : (Jvm.Cond.methodLink own index y).before a0 Z = true) (w2 : (Jvm.Cond.instanceMethod y).before a0 Z = true) (w4 : (Jvm.Cond.code y bytes maxL none).before a0 Z = true)
    (hy : y.cls ≠ "java/lang/invoke/MethodHandle" ∧ y.cls ≠ "java/lang/invoke/VarHandle") (hK : own_Pay l R p e below s args y 3 W as' h k n Q) (hg : g.method = m) (hsize : g.locals.size = c.maxLocals) (hlen : ∀ sig, parseMethodDescriptor y.desc = some sig → argsL.length = sig.parameters.length) (hstack : g.stack = argsL.reverse ++ .ref a :: rest)
    (hW : 2 * g.monitorRoom + (rest.map fun v => v.category).sum ≤ W) (hdg : decode c.code g.pc = .ok (.invokespecial index, 3)) (ha : (.ref a :: argsL).toArray = as') (eT : T.heap = h) (hc : cells + k ≤ R.cells) (hs : slots + n ≤ R.slots) :
    ∃ v T' L, Stand p l e R s m args below meth c T' (locs ++ L) (cells + k) (slots + n) ∧ Q v T'.heap L ∧ Steps p.tables e below (T.setTop g) (T'.setTop { g with pc := g.pc + 3, stack := v.toList ++ rest }) := by
  obtain ⟨v, vm₁, ⟨T', L', c', n'⟩, -, X', ⟨L, hQ, e1, e2, e3⟩, st⟩ := X.specialBack hx hy1 hown (mvT hZ w1) (mvT hZ w2) (mvT hZ w4) hy hK hg hsize (Steps.refl _) hlen hstack hW hdg (fun _ _ => ⟨ha, eT, hc, hs⟩)
  dsimp only [Pt.U, Pt.locs, Pt.cells, Pt.slots] at X' e1 e2 e3 st hQ
  subst e1 e2 e3
  exact ⟨v, T', L, X', hQ, st⟩
theorem own_cV (X : Stand p l e R s m args below meth c T locs cells slots) (hx : p.tables.exec = Jvm.exec) (hZ : Z.Warmed39 s.vm) (hown : s.vm.findClass own = some m.cls) (w1 : (Jvm.Cond.methodLink own index y).before a0 Z = true) (w2 : (Jvm.Cond.declares y).before a0 Z = true) (hnf : NotFace s y) (w3 : (Jvm.Cond.selects C y z).before a0 Z = true) (w4 : (Jvm.Cond.instanceMethod z).before a0 Z = true)
    (hy : y.cls ≠ "java/lang/invoke/MethodHandle" ∧ y.cls ≠ "java/lang/invoke/VarHandle") (hK : own_Pay l R p e below s args z 3 W as' h k n Q) (E : Exa Z h a C) (hg : g.method = m) (hsize : g.locals.size = c.maxLocals) (hlen : ∀ sig, parseMethodDescriptor y.desc = some sig → argsL.length = sig.parameters.length) (hstack : g.stack = argsL.reverse ++ .ref a :: rest)
    (hW : 2 * g.monitorRoom + (rest.map fun v => v.category).sum ≤ W) (hdg : decode c.code g.pc = .ok (.invokevirtual index, 3)) (ha : (.ref a :: argsL).toArray = as') (eT : T.heap = h) (hc : cells + k ≤ R.cells) (hs : slots + n ≤ R.slots) :
    ∃ v T' L, Stand p l e R s m args below meth c T' (locs ++ L) (cells + k) (slots + n) ∧ Q v T'.heap L ∧ Steps p.tables e below (T.setTop g) (T'.setTop { g with pc := g.pc + 3, stack := v.toList ++ rest }) := by
  obtain ⟨cq, kq, q1, q2, q3⟩ := isOf hZ eT E
  obtain ⟨v, vm₁, ⟨T', L', c', n'⟩, -, X', ⟨L, hQ, e1, e2, e3⟩, st⟩ := X.virtualBack hx hown (mvT hZ w1) (mvT hZ w2) hnf (mvT hZ w3) (mvT hZ w4) hy hK q1 q3 hg hsize (Steps.refl _) hlen hstack hW hdg (fun _ _ => ⟨ha, eT, hc, hs⟩)
  dsimp only [Pt.U, Pt.locs, Pt.cells, Pt.slots] at X' e1 e2 e3 st hQ
  subst e1 e2 e3
  exact ⟨v, T', L, X', hQ, st⟩
end OwnCall
/-- a String of Latin-1 signs: its object, its byte[], its signs -/
def own_Str (Z : State) (h : Heap) (a t : Addr) (cs : List Int32) : Prop :=
  Exa Z h a "java/lang/String" ∧ Fld Z h a "java/lang/String" "coder" "B" (.int (0 : Int32)) ∧ Fld Z h a "java/lang/String" "value" "[B" (.ref t) ∧ (∃ kb, Arv Z h t kb .byte (Int32.ofNat cs.length) ((cs.map fun c => c.toInt8.toInt32).map Value.int) (.int 0)) ∧ (∀ c ∈ cs, ¬ c < 0 ∧ ¬ (255 : Int32) < c) ∧ cs.length ≤ 4000
section OwnStr
variable {Z : State} {h h' : Heap} {a t : Addr} {cs ds : List Int32} {ws : List Addr}
theorem own_Str.lt (F : own_Str Z h a t cs) : a < h.size := F.1.lt
theorem own_Str.ltT (F : own_Str Z h a t cs) : t < h.size := by obtain ⟨-, -, -, ⟨kb, A⟩, -⟩ := F; exact A.lt
theorem own_Str.ext (F : own_Str Z h a t cs) (E : Ext h h') : own_Str Z h' a t cs := by
  obtain ⟨f1, f2, f3, ⟨kb, f4⟩, f5⟩ := F
  exact ⟨f1.ext E, f2.ext E, f3.ext E, ⟨kb, f4.ext E⟩, f5⟩
theorem own_Str.keep (F : own_Str Z h a t cs) (K : Keep h h' ws) (qa : a ∉ ws) (qt : t ∉ ws) : own_Str Z h' a t cs := by
  obtain ⟨f1, f2, f3, ⟨kb, f4⟩, f5⟩ := F
  exact ⟨f1.keep K, f2.keep K qa, f3.keep K qa, ⟨kb, f4.keep K qt⟩, f5⟩
theorem own_neT {x : Addr} {C : String} {a0 : Array Value} {n : Nat} (E : Exa Z h x C) (F : own_Str Z h a t cs) (w : (Jvm.Cond.instantiable C n).before a0 Z = true) : x ≠ t := by
  obtain ⟨-, -, -, ⟨kb, f4⟩, -⟩ := F
  exact Exa.neArv E f4 w
theorem own_narLit : ∀ x : Int32, ¬ x < 0 → ¬ (65535 : Int32) < x → nar .char x = x := fun x h0 h1 => by
  have q := c_i2c x
  have r := rng32 x
  rw [Int32.lt_iff_toInt_lt] at h0 h1
  have e0 : (0 : Int32).toInt = 0 := rfl
  have e1 : (65535 : Int32).toInt = 65535 := rfl
  exact Int32.toInt_inj.mp (by show (x.toUInt32.toUInt16.toUInt32.toInt32).toInt = _; omega)
theorem own_up (hp : ∀ c ∈ cs, ¬ c < 0 ∧ ¬ (255 : Int32) < c) : ∀ c ∈ cs, ¬ c < 0 ∧ ¬ (65535 : Int32) < c := fun c hc => ⟨(hp c hc).1, fun q => (hp c hc).2 (by rw [Int32.lt_iff_toInt_lt] at q ⊢; have e1 : (65535 : Int32).toInt = 65535 := rfl; have e2 : (255 : Int32).toInt = 255 := rfl; omega)⟩
theorem own_sgc {c : Int32} (h : ¬ c < (0 : Int32) ∧ ¬ (255 : Int32) < c) : ¬ c < 0 ∧ ¬ (65535 : Int32) < c := own_up (cs := [c]) (fun x hx => by cases List.mem_singleton.mp hx; exact h) c (List.mem_singleton.mpr rfl)
theorem own_Str.sgD {i : Nat} (F : own_Str Z h a t cs) (hi : i < cs.length) : ¬ cs.getD i 0 < (0 : Int32) ∧ ¬ (255 : Int32) < cs.getD i 0 := by
  have e : cs.getD i 0 = cs[i] := by simp [List.getD, List.getElem?_eq_getElem hi]
  rw [e]
  exact F.2.2.2.2.1 _ (List.getElem_mem hi)
theorem own_Str.cast (F : own_Str Z h a t cs) (e : cs = ds) : own_Str Z h a t ds := e ▸ F
theorem own_nar255 (x : Int32) : nar .char (x &&& (255 : Int32)) = x &&& (255 : Int32) := i2c_mask x
theorem own_narB (x : Int32) : x.toInt8.toInt32.toInt8.toInt32 = x.toInt8.toInt32 := by
  rw [Int8.toInt8_toInt32]
theorem own_and255 (x : Int32) : ¬ x &&& (255 : Int32) < 0 ∧ ¬ (255 : Int32) < x &&& (255 : Int32) := by
  have h := c_and x 255 (by decide)
  have e : (255 : Int32).toInt = 255 := rfl
  rw [e] at h
  exact ⟨fun q => by rw [Int32.lt_iff_toInt_lt] at q; have e0 : (0 : Int32).toInt = 0 := rfl; omega, fun q => by rw [Int32.lt_iff_toInt_lt, e] at q; omega⟩
end OwnStr
theorem own_newS {p : Program} {l : Launch} {e : Env} {R : Room} {s : State} {args : Array Value} {below : List Frame} {len W : Nat} {Z : State} {a0 : Array Value} {h : Heap} (hZ : Z.Warmed39 s.vm) (hw : ∀ d ∈ tables_1, d.before a0 Z = true)
    {x b : Addr} {kC : ClassId} {cs : List Int32} {vs : List Value} {d v0 c0 : Value} {z N : Int32} {n n0 : Nat} (hx0 : n0 ≤ x) (hh0 : n0 ≤ h.size) (E : Exa Z h x "java/lang/String") (V : Fld Z h x "java/lang/String" "value" "[B" v0) (C : Fld Z h x "java/lang/String" "coder" "B" c0) (K : Arv Z h b kC .char N vs d) (S : Sta Z h "java/lang/String" "COMPACT_STRINGS" "Z" (.int z)) (hz : ¬ z = 0)
    (hv : vs = cs.map Value.int) (hn : cs.length = n) (hN : N = Int32.ofNat n) (l0 : 0 < n) (l2 : n ≤ 4000) (hp : ∀ c ∈ cs, ¬ c < 0 ∧ ¬ (255 : Int32) < c) (hfr : 4 ≤ R.frames) (hlo : W + 65 ≤ R.locals) :
    own_Pay l R p e below s args (⟨"java/lang/String", "<init>", "([C)V"⟩ : MethodName) len W #[.ref x, .ref b] h 1 n (fun v h' L => ∃ t, v = none ∧ Fr n0 L ∧ Keep h h' [x] ∧ h.size ≤ t ∧ own_Str Z h' x t cs) := by
  have hws : ∀ d ∈ StrChars.Road.words, d.before a0 Z = true := fun d hd => hw d ((by decide +kernel : ∀ d ∈ StrChars.Road.words, d ∈ tables_1) d hd)
  subst hv
  refine Back.mono (StrChars.Road.backV hZ hws (kI := 4) (hw _ ((by decide +kernel : Jvm.Cond.instantiable "java/lang/String" 4 ∈ tables_1))) (bs := cs.map fun c => c.toInt8.toInt32) hx0 hh0 E V C K S hz hn hN l0 l2 hp rfl hfr hlo) (fun P a hp => hp) (fun P a v B _ hq => ?_)
  obtain ⟨L, ⟨q1, q2, q3, q4, q5, t, kb, -, q6, -, q7, q8⟩, hl, hc, hs⟩ := hq
  exact ⟨L, ⟨t, q1, q2, q3, q6, q4, q5, q7, ⟨kb, by rw [hn, ← hN]; exact q8⟩, hp, by omega⟩, hl, hc, hs⟩
theorem own_eqS {p : Program} {l : Launch} {e : Env} {R : Room} {s : State} {args : Array Value} {below : List Frame} {len W : Nat} {Z : State} {a0 : Array Value} {h : Heap} (hZ : Z.Warmed39 s.vm) (hw : ∀ d ∈ tables_1, d.before a0 Z = true)
    {x t y t' : Addr} {cs ds : List Int32} (F : own_Str Z h x t cs) (F' : own_Str Z h y t' ds) {z : Int32} (S : Sta Z h "java/lang/String" "COMPACT_STRINGS" "Z" (.int z)) (hz : ¬ z = 0) (hfr : 2 ≤ R.frames) (hlo : W + 28 ≤ R.locals) :
    own_Pay l R p e below s args (⟨"java/lang/String", "equals", "(Ljava/lang/Object;)Z"⟩ : MethodName) len W #[.ref x, .ref y] h 0 0 (fun v h' L => ((v = some (.int 1) ∧ cs = ds) ∨ (v = some (.int 0) ∧ ¬ cs = ds)) ∧ L = [] ∧ h' = h) := by
  have hws : ∀ d ∈ StrChars.Road.wordsEq, d.before a0 Z = true := fun d hd => hw d ((by decide +kernel : ∀ d ∈ StrChars.Road.wordsEq, d ∈ tables_1) d hd)
  obtain ⟨f1, f2, f3, ⟨kb, f4⟩, f5, f6⟩ := F
  obtain ⟨g1, g2, g3, ⟨kb', g4⟩, g5, g6⟩ := F'
  exact StrChars.Road.eqW hZ hws (kI := 4) (hw _ ((by decide +kernel : Jvm.Cond.instantiable "java/lang/String" 4 ∈ tables_1))) f1 f3 f2 f4 (StrChars.Road.codOf rfl fun c hc => (f5 c hc).2) (own_up f5) f6 g1 g3 g2 g4 (StrChars.Road.codOf rfl fun c hc => (g5 c hc).2) (own_up g5) g6 S hz hfr hlo
section OwnWide
variable {p : Program} {l : Launch} {e : Env} {R : Room} {s : State} {args : Array Value} {below : List Frame} {Z : State} {a0 : Array Value} {h : Heap} {vm0 vm1 : Vm} {Ts Ts' : List String} {J J' : Vm → Prop}
theorem own_IB_warm (I : IB Z s.vm Ts) (hw : s.WarmedH vm1) : IB Z vm1 Ts := by
  obtain ⟨more, h1, h2⟩ := I
  exact ⟨more, by rw [hw.interned_eq]; exact h1, h2⟩
theorem own_IB_mono (I : IB Z vm0 Ts) (h : ∀ t ∈ Ts, t ∈ Ts') : IB Z vm0 Ts' := by
  obtain ⟨more, h1, h2⟩ := I
  exact ⟨more, h1, fun q hq => by obtain ⟨t, ht, e⟩ := h2 q hq; exact ⟨t, h t ht, e⟩⟩
theorem own_endMono {s t : State} {o : Outcome} {L : List Loc} {k n k' n' : Nat} (h : ReturnedEndW s o t L k n) (hk : k ≤ k') (hn : n ≤ n') : ReturnedEndW s o t L k' n' := ⟨h.1, h.2.1, h.2.2.1, h.2.2.2.mono hk hn⟩
theorem own_backI {y : MethodName} {bytes : ByteArray} {maxL : Nat} {ret : Option FieldType} {rm : Room} {len W : Nat} {as' : Array Value} {Q : Option Value → Heap → List Loc → Prop}
    (hM : MetFree l y (head1 [Cond.code y bytes maxL ret] rm) (fun a U => a = as' ∧ Z.Warmed39 U.vm ∧ U.heap = h ∧ J U.vm) (fun _ _ _ _ _ => True) (fun _ U o U' => ∃ v L, o = .returned v ∧ Q v U'.heap L ∧ J' U'.vm ∧ ReturnedEndW U o U' L rm.cells rm.slots))
    (hZ : Z.Warmed39 s.vm) (wc : (Cond.code y bytes maxL ret).before a0 Z = true) (wz : (Cond.initialized y.cls).before a0 Z = true) (hf : rm.frames + 1 ≤ R.frames) (hl : W + (maxL + 11) + rm.locals ≤ R.locals) :
    BackS l R p e below s args y len W (fun A a => a = as' ∧ A.U.heap = h ∧ A.cells + rm.cells ≤ R.cells ∧ A.slots + rm.slots ≤ R.slots ∧ J A.U.vm)
      (fun A _ v B => ∃ L, (Q v B.U.heap L ∧ J' B.U.vm) ∧ B.locs = A.locs ++ L ∧ B.cells = A.cells + rm.cells ∧ B.slots = A.slots + rm.slots) :=
  BackS.of_freeW (bytes := bytes) (maxL := maxL) (ret := ret) (E := fun _ _ o t L k n => k = rm.cells ∧ n = rm.slots ∧ ∃ v, o = .returned v ∧ Q v t.heap L ∧ J' t.vm) hM hf hl
    (fun m meth c A a Y hp => have hU : Z.Warmed39 A.U.vm := wtrans hZ Y.warmed
      ⟨by show (Cond.and _ .tt).before a A.U = true; rw [Cond.before_and, mv hU wc]; rfl, mv hU wc, mv hU wz, hp.2.2.1, hp.2.2.2.1⟩)
    (fun m meth c A a g mk Y hp => ⟨hp.1, wtrans hZ Y.warmed, hp.2.1, hp.2.2.2.2⟩) (fun _ _ _ _ _ _ _ _ _ => trivial)
    (fun _ _ _ _ ⟨v, L, h1, h2, h3, h4⟩ => ⟨L, _, _, h4, rfl, rfl, v, h1, h2, h3⟩)
    (fun m meth c A a g mk v t L k n Y hp _ _ ⟨e1, e2, v', e3, e4, e5⟩ => by cases e3; subst e1 e2; exact ⟨L, ⟨e4, e5⟩, rfl, rfl, rfl⟩)
end OwnWide
section OwnStart
variable {args : Array Value} {s : State} {t u : Term} {a : Addr} {cl : Cell} {ty : FieldType} {z k : Int32}
theorem own_eqInt (h : (Jvm.Cond.eq t (.int k)).value args s none s [] = some true) : t.eval args s none [] s = some (.int k) := by
  obtain ⟨x, y, h1, h2, h3, -⟩ := cmp_v (Or.inl h)
  cases h2
  cases x <;> simp [Kin, Value.isRef] at h3
  have := gotT (Cond.eq_ints h1 (Term.int_eval k)) h
  rw [h1, this]
theorem own_eqRef (h : (Jvm.Cond.eq t u).value args s none s [] = some true) (hu : u.eval args s none [] s = some (.ref a)) : t.eval args s none [] s = some (.ref a) := by
  obtain ⟨x, y, h1, h2, h3, h4⟩ := cmp_v (Or.inl h)
  cases hu.symm.trans h2
  have hx : x.isRef = true := by cases x <;> simp [Kin, Value.isRef] at h3 h4 ⊢
  have := gotT (eq_R h1 hu hx rfl) h
  rw [h1, this]
theorem own_len (h : (Term.length t).eval args s none [] s = some (.int z)) (ht : t.eval args s none [] s = some (.ref a)) (A : Arr s s.heap a cl ty) : cl.slots.size < 2 ^ 31 ∧ cl.slots.size.toInt32 = z := by
  have ha : s.arrayAt? a = some cl := Arr.fin (Vm.Alike.refl _) A
  simp only [Term.eval, ht, ha, Option.bind_eq_bind, Option.bind_some] at h
  split at h
  · rename_i q
    exact ⟨q, by simpa using h⟩
  · cases h
theorem own_elem {v : Value} {i : Nat} {j : Int32} (h : (Term.elem t (.int j)).eval args s none [] s = some v) (ht : t.eval args s none [] s = some (.ref a)) (A : Arr s s.heap a cl ty) (hi : j.toNatClampNeg = i) : cl.slots[i]? = some v := by
  have q := (elem_in h ht (Term.int_eval j) A.1).2
  rw [hi] at q
  exact q
theorem own_fld {C n d : String} {v : Value} (h : (Term.field t C n d).eval args s none [] s = some v) (ht : t.eval args s none [] s = some (.ref a)) : Fld s s.heap a C n d v := Fld.start (by rw [← fld_at ht]; exact h)
end OwnStart
def own_St (Z : State) (zc : Int32) (w_0 : Addr) (w_1 : Addr) (wV : Addr) (kV : ClassId) (s_0 : Addr) (t_0 : Addr) (s_1 : Addr) (t_1 : Addr) : Prop := (Sta Z Z.heap "java/lang/String" "COMPACT_STRINGS" "Z" (.int zc)) ∧ (¬ zc = (0 : Int32)) ∧ (Sta Z Z.heap "com/example/clearwrit/clearwrit/Side" "BUY" "Lcom/example/clearwrit/clearwrit/Side;" (.ref w_0)) ∧ (Sta Z Z.heap "com/example/clearwrit/clearwrit/Side" "SELL" "Lcom/example/clearwrit/clearwrit/Side;" (.ref w_1)) ∧ (Sta Z Z.heap "com/example/clearwrit/clearwrit/Side" "$VALUES" "[Lcom/example/clearwrit/clearwrit/Side;" (.ref wV)) ∧ (Exa Z Z.heap w_0 "com/example/clearwrit/clearwrit/Side") ∧ (Exa Z Z.heap w_1 "com/example/clearwrit/clearwrit/Side") ∧ (Exa Z Z.heap wV "[Lcom/example/clearwrit/clearwrit/Side;") ∧ (Arv Z Z.heap wV kV (.object "com/example/clearwrit/clearwrit/Side") (2 : Int32) [(.ref w_0), (.ref w_1)] .null) ∧ (Fld Z Z.heap w_0 "com/example/clearwrit/clearwrit/Side" "utiCode" "Ljava/lang/String;" (.ref s_0)) ∧ (own_Str Z Z.heap s_0 t_0 [(66 : Int32), (85 : Int32)]) ∧ (Fld Z Z.heap w_1 "com/example/clearwrit/clearwrit/Side" "utiCode" "Ljava/lang/String;" (.ref s_1)) ∧ (own_Str Z Z.heap s_1 t_1 [(83 : Int32), (69 : Int32)]) ∧ (Jvm.Lit.compactW.before #[] Z = true) ∧ (Jvm.Lit.constHeld Z "com/example/clearwrit/clearwrit/SideOfUtiCodePinLaw" 12) ∧ (Jvm.Lit.constHeld Z "com/example/clearwrit/clearwrit/SideOfUtiCodePinLaw" 24)
theorem dc_p63_m1_0 : decode prog_63_method_1_code 0 = .ok (.getstatic 10, 3) := by decide +kernel
theorem dc_p63_m1_3 : decode prog_63_method_1_code 3 = .ok (.invokevirtual 14, 3) := by decide +kernel
theorem dc_p63_m1_6 : decode prog_63_method_1_code 6 = .ok (.checkcast 15, 3) := by decide +kernel
theorem dc_p63_m1_9 : decode prog_63_method_1_code 9 = .ok (.areturn, 1) := by decide +kernel
theorem pn_com_example_clearwrit_clearwrit_Side : plainName "com/example/clearwrit/clearwrit/Side" = true := by first | (simp [plainName, overriddenIn]; done) | decide +kernel
theorem ef_rmV (mm_ : MethodId)  : entryFrame mm_ #[] 0 = (mkF mm_ 0 #[] []) := by first | (simp [entryFrame, mkF, argsToLocals, Value.category]; done) | rfl
def QrmV (Z : State) (w_0 : Addr) (w_1 : Addr) (kV : ClassId) (h0 : Heap) (n0 : Nat) (vv_ : Option Value) (hh_ : Heap) (LL_ : List Loc) : Prop := ∃ (r : Addr), (vv_ = some (.ref r)) ∧ (Fr n0 LL_) ∧ (Keep h0 hh_ []) ∧ (h0.size ≤ r) ∧ (Arv Z hh_ r kV (.object "com/example/clearwrit/clearwrit/Side") (2 : Int32) [(.ref w_0), (.ref w_1)] .null)
set_option maxRecDepth 65536 in
set_option maxHeartbeats 40000000 in
theorem rmV (l : Launch) (Z : State) (a0 : Array Value) (hw : ∀ d ∈ tables_1, d.before a0 Z = true) (ws : List Jvm.Cond) {zc : Int32} {w_0 : Addr} {w_1 : Addr} {wV : Addr} {kV : ClassId} {s_0 : Addr} {t_0 : Addr} {s_1 : Addr} {t_1 : Addr} (h0 : Heap) (n0 : Nat) (O0 : Old Z n0 h0) (G_ : own_St Z zc w_0 w_1 wV kV s_0 t_0 s_1 t_1) :
    MetFree l (⟨"com/example/clearwrit/clearwrit/Side", "values", "()[Lcom/example/clearwrit/clearwrit/Side;"⟩ : MethodName) (head1 (Jvm.Cond.code (⟨"com/example/clearwrit/clearwrit/Side", "values", "()[Lcom/example/clearwrit/clearwrit/Side;"⟩ : MethodName) prog_63_method_1_code 0 (some (.array (.object "com/example/clearwrit/clearwrit/Side"))) :: ws) ({ frames := 1, cells := 1, slots := 2, locals := 14 } : Room)) (fun aa_ UU_ => aa_ = #[] ∧ Z.Warmed39 UU_.vm ∧ UU_.heap = h0) (fun _ _ _ _ _ => True) (fun _ UU_ oo_ UV_ => ∃ vv_ LL_, oo_ = .returned vv_ ∧ QrmV Z w_0 w_1 kV h0 n0 vv_ UV_.heap LL_ ∧ FrameEnd UU_ oo_ UV_ LL_ ({ frames := 1, cells := 1, slots := 2, locals := 14 } : Room).cells ({ frames := 1, cells := 1, slots := 2, locals := 14 } : Room).slots) := by
  refine MetFree.of_bodySF (plainFor_of_name pn_com_example_clearwrit_clearwrit_Side) hisR ?_
  intro pp_ ee_ ss_ mm_ args_ bb_ me_ cc_ s₁ Bd hml0 hP hK
  obtain ⟨rfl, hZ, hh⟩ := hP
  have hx := Bd.exec
  have hby := Bd.bytes
  have hml : cc_.maxLocals = 0 := hml0
  have hown : ss_.vm.findClass "com/example/clearwrit/clearwrit/Side" = some mm_.cls := findClass_of_methodNamed Bd.named
  have hnm := (name_of_methodNamed Bd.named Bd.method).1
  have X0 : Stand pp_ l ee_ ({ frames := 1, cells := 1, slots := 2, locals := 14 } : Room) ss_ mm_ #[] bb_ me_ cc_ s₁ [] 0 0 := Stand.of_body Bd
  have e0 : s₁.heap = h0 := by rw [← hh, Bd.state]; rfl
  have N0 := Fr.nil n0
  show own_Go pp_ ee_ bb_ (fun s₂ oo_ => s₂.status = .running ∧ Ended s₂ bb_ oo_ ∧ (∃ vv_ LL_, oo_ = .returned vv_ ∧ QrmV Z w_0 w_1 kV h0 n0 vv_ s₂.heap LL_ ∧ FrameEnd ss_ oo_ s₂ LL_ ({ frames := 1, cells := 1, slots := 2, locals := 14 } : Room).cells ({ frames := 1, cells := 1, slots := 2, locals := 14 } : Room).slots)) s₁ (entryFrame mm_ #[] 0)
  refine own_cast (ef_rmV mm_ ) ?_
  have Z0 : n0 ≤ h0.size := by have q := O0.2.1; rw [O0.1] at q; exact q
  have K0 : Keep h0 h0 [] := Keep.refl _ _
  obtain ⟨G_cs, G_cs0, G_S1, G_S2, G_S3, G_E4, G_E5, G_E6, G_V7, G_F8, G_T9, G_F13, G_T14, G_cw, G_h_com_example_clearwrit_clearwrit_SideOfUtiCodePinLaw_12, G_h_com_example_clearwrit_clearwrit_SideOfUtiCodePinLaw_24⟩ := id G_
  show own_Go _ _ _ _ s₁ (mkF mm_ 0 #[] [])
  obtain ⟨T1, X1, e1, st1⟩ := getS2 X0 hx hZ hown (host := "") (Or.inl (own_w hw 53 rfl)) Via.refl e0 (G_S3.ext O0.2) (g := (mkF mm_ 0 #[] [])) rfl (hb hby dc_p63_m1_0)
  refine own_step st1 ?_
  show own_Go _ _ _ _ T1 (mkF mm_ 3 #[] [(.ref wV)])
  obtain ⟨T2, h2, X2, e2, E2, V2, A2, st2⟩ := cloneH X1 hx hZ hown (own_w hw 55 rfl) (own_w hw 56 rfl) (own_w hw 60 rfl) (own_w hw 58 rfl) (own_w hw 59 rfl) (own_w hw 61 rfl) e1 (Arv.arh (G_V7.ext O0.2)) (G_E6.ext O0.2) (g := (mkF mm_ 3 #[] [(.ref wV)])) rfl (by rw [hml]; rfl) rfl (hb hby dc_p63_m1_3) (by decide) (W := 0) (cap := 2) (by show 2 * 0 + _ ≤ _; exact Nat.le_of_eq rfl) (by decide) (by decide) (by decide) (by decide)
  obtain ⟨b2, q2⟩ : ∃ z, z = h0.size := ⟨_, rfl⟩
  rw [← q2] at A2 V2 st2
  have lo_b2 : h0.size ≤ b2 := Nat.le_trans K0.1 (Nat.le_of_eq q2.symm)
  have g_b2 : n0 ≤ b2 := Nat.le_trans Z0 lo_b2
  refine own_step st2 ?_
  have Vc2 : Arv Z h2 b2 kV (.object "com/example/clearwrit/clearwrit/Side") (2 : Int32) [(.ref w_0), (.ref w_1)] .null := V2
  show own_Go _ _ _ _ T2 (mkF mm_ 6 #[] [(.ref b2)])
  obtain ⟨T3, X3, e3, st3⟩ := castY X2 hx hZ hown (own_w hw 64 rfl) e2 (Ins.self A2) (g := (mkF mm_ 6 #[] [(.ref b2)])) rfl rfl (hb hby dc_p63_m1_6)
  refine own_step st3 ?_
  show own_Go _ _ _ _ T3 (mkF mm_ 9 #[] [(.ref b2)])
  have K4 : Keep h0 h2 [] := (K0.ext E2)
  obtain ⟨fs, hr, hrun, hended, hW, hsame⟩ := X3.leave (v := some (.ref b2)) (fun h => by rw [Bd.returns] at h; cases h)
  refine ⟨_, _, ?_, hrun, hended, _, _, rfl, ?_, ⟨_, rfl⟩, hW, hsame.mono (by decide) (by decide)⟩
  · jvm_step X3.here [X3.here.top, hx, (hb hby dc_p63_m1_9), X3.method', Bd.returns, Value.isRef, FieldType.isReference]
    first | (intro acts; rw [hr _ acts rfl rfl rfl]) | rw [hr _ _ rfl rfl rfl]
    exact Steps.refl _
  · show QrmV Z w_0 w_1 kV h0 n0 (some (.ref b2)) T3.heap _
    rw [e3]
    exact ⟨b2, rfl, N0, K4, lo_b2, Vc2⟩
theorem dc_p63_m8_0 : decode prog_63_method_8_code 0 = .ok (.invokestatic 39, 3) := by decide +kernel
theorem pd_0 : parseMethodDescriptor "()[Lcom/example/clearwrit/clearwrit/Side;" = some ⟨[], some (.array (.object "com/example/clearwrit/clearwrit/Side"))⟩ := by decide +kernel
theorem dc_p63_m8_3 : decode prog_63_method_8_code 3 = .ok (.astore_n 1, 1) := by decide +kernel
theorem dc_p63_m8_4 : decode prog_63_method_8_code 4 = .ok (.aload_n 1, 1) := by decide +kernel
theorem dc_p63_m8_5 : decode prog_63_method_8_code 5 = .ok (.arraylength, 1) := by decide +kernel
theorem dc_p63_m8_6 : decode prog_63_method_8_code 6 = .ok (.istore_n 2, 1) := by decide +kernel
theorem dc_p63_m8_7 : decode prog_63_method_8_code 7 = .ok (.iconst 0, 1) := by decide +kernel
theorem dc_p63_m8_8 : decode prog_63_method_8_code 8 = .ok (.istore_n 3, 1) := by decide +kernel
theorem dc_p63_m8_9 : decode prog_63_method_8_code 9 = .ok (.iload_n 3, 1) := by decide +kernel
theorem dc_p63_m8_10 : decode prog_63_method_8_code 10 = .ok (.iload_n 2, 1) := by decide +kernel
theorem dc_p63_m8_11 : decode prog_63_method_8_code 11 = .ok (.if_icmp .ge 29, 3) := by decide +kernel
theorem dc_p63_m8_14 : decode prog_63_method_8_code 14 = .ok (.aload_n 1, 1) := by decide +kernel
theorem dc_p63_m8_15 : decode prog_63_method_8_code 15 = .ok (.iload_n 3, 1) := by decide +kernel
theorem dc_p63_m8_16 : decode prog_63_method_8_code 16 = .ok (.aaload, 1) := by decide +kernel
theorem dc_p63_m8_17 : decode prog_63_method_8_code 17 = .ok (.astore 4, 2) := by decide +kernel
theorem dc_p63_m8_19 : decode prog_63_method_8_code 19 = .ok (.aload 4, 2) := by decide +kernel
theorem dc_p63_m8_21 : decode prog_63_method_8_code 21 = .ok (.getfield 33, 3) := by decide +kernel
theorem dc_p63_m8_24 : decode prog_63_method_8_code 24 = .ok (.aload_n 0, 1) := by decide +kernel
theorem dc_p63_m8_25 : decode prog_63_method_8_code 25 = .ok (.invokevirtual 43, 3) := by decide +kernel
theorem pd_1 : parseMethodDescriptor "(Ljava/lang/Object;)Z" = some ⟨[(.object "java/lang/Object")], some .boolean⟩ := by decide +kernel
theorem dc_p63_m8_28 : decode prog_63_method_8_code 28 = .ok (.ifCond .eq 6, 3) := by decide +kernel
theorem dc_p63_m8_31 : decode prog_63_method_8_code 31 = .ok (.aload 4, 2) := by decide +kernel
theorem dc_p63_m8_33 : decode prog_63_method_8_code 33 = .ok (.areturn, 1) := by decide +kernel
theorem ef_rmO0 (mm_ : MethodId) (a : Addr) : entryFrame mm_ #[(.ref a)] 5 = (mkF mm_ 0 #[.val (.ref a), .unset, .unset, .unset, .unset] []) := by first | (simp [entryFrame, mkF, argsToLocals, Value.category]; done) | rfl
def QrmO0 (Z : State) (a : Addr) (t : Addr) (w_0 : Addr) (h0 : Heap) (n0 : Nat) (vv_ : Option Value) (hh_ : Heap) (LL_ : List Loc) : Prop := (vv_ = some (.ref w_0)) ∧ (Fr n0 LL_) ∧ (Keep h0 hh_ [])
set_option maxRecDepth 65536 in
set_option maxHeartbeats 40000000 in
theorem rmO0 (l : Launch) (Z : State) (a0 : Array Value) (hw : ∀ d ∈ tables_1, d.before a0 Z = true) (ws : List Jvm.Cond) (a : Addr) (t : Addr) {zc : Int32} {w_0 : Addr} {w_1 : Addr} {wV : Addr} {kV : ClassId} {s_0 : Addr} {t_0 : Addr} {s_1 : Addr} {t_1 : Addr} (h0 : Heap) (n0 : Nat) (O0 : Old Z n0 h0) (G_ : own_St Z zc w_0 w_1 wV kV s_0 t_0 s_1 t_1) (pr0 : own_Str Z h0 a t [(66 : Int32), (85 : Int32)]) :
    MetFree l (⟨"com/example/clearwrit/clearwrit/Side", "ofUtiCode", "(Ljava/lang/String;)Lcom/example/clearwrit/clearwrit/Side;"⟩ : MethodName) (head1 (Jvm.Cond.code (⟨"com/example/clearwrit/clearwrit/Side", "ofUtiCode", "(Ljava/lang/String;)Lcom/example/clearwrit/clearwrit/Side;"⟩ : MethodName) prog_63_method_8_code 5 (some (.object "com/example/clearwrit/clearwrit/Side")) :: ws) ({ frames := 2, cells := 1, slots := 2, locals := 28 } : Room)) (fun aa_ UU_ => aa_ = #[(.ref a)] ∧ Z.Warmed39 UU_.vm ∧ UU_.heap = h0) (fun _ _ _ _ _ => True) (fun _ UU_ oo_ UV_ => ∃ vv_ LL_, oo_ = .returned vv_ ∧ QrmO0 Z a t w_0 h0 n0 vv_ UV_.heap LL_ ∧ FrameEnd UU_ oo_ UV_ LL_ ({ frames := 2, cells := 1, slots := 2, locals := 28 } : Room).cells ({ frames := 2, cells := 1, slots := 2, locals := 28 } : Room).slots) := by
  refine MetFree.of_bodySF (plainFor_of_name pn_com_example_clearwrit_clearwrit_Side) hisR ?_
  intro pp_ ee_ ss_ mm_ args_ bb_ me_ cc_ s₁ Bd hml0 hP hK
  obtain ⟨rfl, hZ, hh⟩ := hP
  have hx := Bd.exec
  have hby := Bd.bytes
  have hml : cc_.maxLocals = 5 := hml0
  have hown : ss_.vm.findClass "com/example/clearwrit/clearwrit/Side" = some mm_.cls := findClass_of_methodNamed Bd.named
  have hnm := (name_of_methodNamed Bd.named Bd.method).1
  have X0 : Stand pp_ l ee_ ({ frames := 2, cells := 1, slots := 2, locals := 28 } : Room) ss_ mm_ #[(.ref a)] bb_ me_ cc_ s₁ [] 0 0 := Stand.of_body Bd
  have e0 : s₁.heap = h0 := by rw [← hh, Bd.state]; rfl
  have N0 := Fr.nil n0
  show own_Go pp_ ee_ bb_ (fun s₂ oo_ => s₂.status = .running ∧ Ended s₂ bb_ oo_ ∧ (∃ vv_ LL_, oo_ = .returned vv_ ∧ QrmO0 Z a t w_0 h0 n0 vv_ s₂.heap LL_ ∧ FrameEnd ss_ oo_ s₂ LL_ ({ frames := 2, cells := 1, slots := 2, locals := 28 } : Room).cells ({ frames := 2, cells := 1, slots := 2, locals := 28 } : Room).slots)) s₁ (entryFrame mm_ #[(.ref a)] 5)
  refine own_cast (ef_rmO0 mm_ a) ?_
  have Z0 : n0 ≤ h0.size := by have q := O0.2.1; rw [O0.1] at q; exact q
  have K0 : Keep h0 h0 [] := Keep.refl _ _
  obtain ⟨G_cs, G_cs0, G_S1, G_S2, G_S3, G_E4, G_E5, G_E6, G_V7, G_F8, G_T9, G_F13, G_T14, G_cw, G_h_com_example_clearwrit_clearwrit_SideOfUtiCodePinLaw_12, G_h_com_example_clearwrit_clearwrit_SideOfUtiCodePinLaw_24⟩ := id G_
  show own_Go _ _ _ _ s₁ (mkF mm_ 0 #[.val (.ref a), .unset, .unset, .unset, .unset] [])
  obtain ⟨_, T1, Lc1, X1, hQ1, st1⟩ := own_cS X0 hx hZ hown (own_w hw 50 rfl) (own_w hw 51 rfl) (own_w hw 45 rfl) (own_w hw 52 rfl) (by decide) (backOf (W := 0) (rmV l Z a0 hw []  h0 n0 O0 G_ ) hZ (own_w hw 52 rfl) (own_w hw 45 rfl) (by decide) (by decide)) (g := (mkF mm_ 0 #[.val (.ref a), .unset, .unset, .unset, .unset] [])) rfl (by rw [hml]; rfl) (argsL := []) (rest := []) (lenOf pd_0 rfl) rfl (by show 2 * 0 + _ ≤ _; exact Nat.le_of_eq rfl) (hb hby dc_p63_m8_0) rfl e0 (by decide) (by decide)
  obtain ⟨r_1, rfl, Nq1, Kc1, r1_0, r1_1⟩ := hQ1
  have N1 := Fr.app N0 Nq1
  have lo_r_1 : h0.size ≤ r_1 := Nat.le_trans K0.1 r1_0
  have g_r_1 : n0 ≤ r_1 := Nat.le_trans Z0 lo_r_1
  refine own_jump st1 ?_
  show own_Go _ _ _ _ T1 (mkF mm_ 3 #[.val (.ref a), .unset, .unset, .unset, .unset] [(.ref r_1)])
  refine own_step (fun t_ k_ => XS.astoreN X1.here hx rfl (hb hby dc_p63_m8_3) rfl rfl (l' := #[.val (.ref a), .val (.ref r_1), .unset, .unset, .unset]) rfl (XS.aloadN X1.here hx rfl (hb hby dc_p63_m8_4) rfl rfl k_)) ?_
  show own_Go _ _ _ _ T1 (mkF mm_ 5 #[.val (.ref a), .val (.ref r_1), .unset, .unset, .unset] [(.ref r_1)])
  obtain ⟨cl2, Ar2, -, S2, M2, -, -⟩ := id r1_1
  refine own_step (fun t_ k_ => X1.arraylength hx Ar2.1 (State.isArrayOf_alike hZ.alike Ar2.2.1) (g := (mkF mm_ 5 #[.val (.ref a), .val (.ref r_1), .unset, .unset, .unset] [(.ref r_1)])) rfl rfl (hb hby dc_p63_m8_5) t_ (by rw [len_of S2 M2]; exact k_)) ?_
  show own_Go _ _ _ _ T1 (mkF mm_ 6 #[.val (.ref a), .val (.ref r_1), .unset, .unset, .unset] [(.int (2 : Int32))])
  refine own_step (fun t_ k_ => XS.istoreN X1.here hx rfl (hb hby dc_p63_m8_6) rfl (l' := #[.val (.ref a), .val (.ref r_1), .val (.int (2 : Int32)), .unset, .unset]) rfl (XS.iconst X1.here hx rfl (hb hby dc_p63_m8_7) (XS.istoreN X1.here hx rfl (hb hby dc_p63_m8_8) rfl (l' := #[.val (.ref a), .val (.ref r_1), .val (.int (2 : Int32)), .val (.int (0 : Int32)), .unset]) rfl (XS.iloadN X1.here hx rfl (hb hby dc_p63_m8_9) rfl  (XS.iloadN X1.here hx rfl (hb hby dc_p63_m8_10) rfl  k_))))) ?_
  show own_Go _ _ _ _ T1 (mkF mm_ 11 #[.val (.ref a), .val (.ref r_1), .val (.int (2 : Int32)), .val (.int (0 : Int32)), .unset] [(.int (2 : Int32)), (.int (0 : Int32))])
  refine own_step (fun t_ k_ => XS.icmpNo X1.here hx rfl (hb hby dc_p63_m8_11) rfl (tlt (by decide : (0 : Int32) < (2 : Int32))).2.1 k_) ?_
  show own_Go _ _ _ _ T1 (mkF mm_ 14 #[.val (.ref a), .val (.ref r_1), .val (.int (2 : Int32)), .val (.int (0 : Int32)), .unset] [])
  refine own_step (fun t_ k_ => XS.aloadN X1.here hx rfl (hb hby dc_p63_m8_14) rfl rfl (XS.iloadN X1.here hx rfl (hb hby dc_p63_m8_15) rfl  k_)) ?_
  show own_Go _ _ _ _ T1 (mkF mm_ 16 #[.val (.ref a), .val (.ref r_1), .val (.int (2 : Int32)), .val (.int (0 : Int32)), .unset] [(.int (0 : Int32)), (.ref r_1)])
  obtain ⟨cl3, Ar3, q3, S3, M3, H3, G3⟩ := id r1_1
  have hin3 : ¬ ((0 : Int32) < 0 ∨ cl3.slots.size ≤ ((0 : Int32)).toNatClampNeg) := inb_of S3 ⟨by decide, by decide⟩
  have hat3 : cl3.slots[((0 : Int32)).toNatClampNeg]? = some (.ref w_0) := Has.at H3 hin3 rfl
  refine own_step (fun t_ k_ => X1.aaload hx (j := (0 : Int32)) (v := (.ref w_0)) Ar3.1 (State.isArrayOf_alike hZ.alike Ar3.2.1) rfl Ar3.2.2 hin3 hat3 (g := (mkF mm_ 16 #[.val (.ref a), .val (.ref r_1), .val (.int (2 : Int32)), .val (.int (0 : Int32)), .unset] [(.int (0 : Int32)), (.ref r_1)])) rfl rfl (hb hby dc_p63_m8_16) t_ k_) ?_
  show own_Go _ _ _ _ T1 (mkF mm_ 17 #[.val (.ref a), .val (.ref r_1), .val (.int (2 : Int32)), .val (.int (0 : Int32)), .unset] [(.ref w_0)])
  refine own_step (fun t_ k_ => XS.astore X1.here hx rfl (hb hby dc_p63_m8_17) rfl rfl (l' := #[.val (.ref a), .val (.ref r_1), .val (.int (2 : Int32)), .val (.int (0 : Int32)), .val (.ref w_0)]) rfl (XS.aload X1.here hx rfl (hb hby dc_p63_m8_19) rfl rfl k_)) ?_
  show own_Go _ _ _ _ T1 (mkF mm_ 21 #[.val (.ref a), .val (.ref r_1), .val (.int (2 : Int32)), .val (.int (0 : Int32)), .val (.ref w_0)] [(.ref w_0)])
  have O4 : Old Z n0 T1.heap := (O0.keep Kc1 all0)
  obtain ⟨T5, X5, e5, st5⟩ := getF X1 hx hZ hown (host := "") (Or.inl (own_w hw 66 rfl)) Via.refl rfl (G_F8.ext O4.2) (g := (mkF mm_ 21 #[.val (.ref a), .val (.ref r_1), .val (.int (2 : Int32)), .val (.int (0 : Int32)), .val (.ref w_0)] [(.ref w_0)])) rfl rfl (hb hby dc_p63_m8_21)
  refine own_step st5 ?_
  show own_Go _ _ _ _ T5 (mkF mm_ 24 #[.val (.ref a), .val (.ref r_1), .val (.int (2 : Int32)), .val (.int (0 : Int32)), .val (.ref w_0)] [(.ref s_0)])
  refine own_step (fun t_ k_ => XS.aloadN X5.here hx rfl (hb hby dc_p63_m8_24) rfl rfl k_) ?_
  show own_Go _ _ _ _ T5 (mkF mm_ 25 #[.val (.ref a), .val (.ref r_1), .val (.int (2 : Int32)), .val (.int (0 : Int32)), .val (.ref w_0)] [(.ref a), (.ref s_0)])
  have f7 : own_Str Z T1.heap a t [(66 : Int32), (85 : Int32)] := (pr0.keep Kc1 nin0 nin0)
  obtain ⟨_, T6, Lc6, X6, hQ6, st6⟩ := own_cV X5 hx hZ hown (own_w hw 68 rfl) (own_w hw 34 rfl) (notFace_of_selects (args := #[]) (mvT hZ (own_w hw 36 rfl))) (own_w hw 36 rfl) (own_w hw 35 rfl) (by decide) (own_eqS (W := 0) hZ hw (G_T9.ext O4.2) f7 (G_cs.ext O4.2) G_cs0 (by decide) (by decide)) (G_T9.ext O4.2).1 (g := (mkF mm_ 25 #[.val (.ref a), .val (.ref r_1), .val (.int (2 : Int32)), .val (.int (0 : Int32)), .val (.ref w_0)] [(.ref a), (.ref s_0)])) rfl (by rw [hml]; rfl) (argsL := [(.ref a)]) (rest := []) (lenOf pd_1 rfl) rfl (by show 2 * 0 + _ ≤ _; exact Nat.le_of_eq rfl) (hb hby dc_p63_m8_25) rfl e5 (by decide) (by decide)
  obtain ⟨⟨rfl, -⟩ | ⟨-, hq6⟩, rfl, Eh6⟩ := hQ6
  rotate_left
  · exact absurd rfl hq6
  have N6 := Fr.app N1 (Fr.nil n0)
  refine own_jump st6 ?_
  show own_Go _ _ _ _ T6 (mkF mm_ 28 #[.val (.ref a), .val (.ref r_1), .val (.int (2 : Int32)), .val (.int (0 : Int32)), .val (.ref w_0)] [(.int (1 : Int32))])
  refine own_step (fun t_ k_ => XS.ifNo X6.here hx rfl (hb hby dc_p63_m8_28) rfl ((if0 _ _).trans (feq (by decide : ¬ ((1 : Int32) = (0 : Int32)))).1) k_) ?_
  show own_Go _ _ _ _ T6 (mkF mm_ 31 #[.val (.ref a), .val (.ref r_1), .val (.int (2 : Int32)), .val (.int (0 : Int32)), .val (.ref w_0)] [])
  refine own_step (fun t_ k_ => XS.aload X6.here hx rfl (hb hby dc_p63_m8_31) rfl rfl k_) ?_
  show own_Go _ _ _ _ T6 (mkF mm_ 33 #[.val (.ref a), .val (.ref r_1), .val (.int (2 : Int32)), .val (.int (0 : Int32)), .val (.ref w_0)] [(.ref w_0)])
  have K8 : Keep h0 T1.heap [] := (K0.trans Kc1 all0)
  obtain ⟨fs, hr, hrun, hended, hW, hsame⟩ := X6.leave (v := some (.ref w_0)) (fun h => by rw [Bd.returns] at h; cases h)
  refine ⟨_, _, ?_, hrun, hended, _, _, rfl, ?_, ⟨_, rfl⟩, hW, hsame.mono (by decide) (by decide)⟩
  · jvm_step X6.here [X6.here.top, hx, (hb hby dc_p63_m8_33), X6.method', Bd.returns, Value.isRef, FieldType.isReference]
    first | (intro acts; rw [hr _ acts rfl rfl rfl]) | rw [hr _ _ rfl rfl rfl]
    exact Steps.refl _
  · show QrmO0 Z a t w_0 h0 n0 (some (.ref w_0)) T6.heap _
    rw [Eh6]
    exact ⟨rfl, N6, K8⟩
theorem dc_p63_m8_34 : decode prog_63_method_8_code 34 = .ok (.iinc 3 1, 3) := by decide +kernel
theorem dc_p63_m8_37 : decode prog_63_method_8_code 37 = .ok (.goto (-28), 3) := by decide +kernel
theorem ef_rmO1 (mm_ : MethodId) (a : Addr) : entryFrame mm_ #[(.ref a)] 5 = (mkF mm_ 0 #[.val (.ref a), .unset, .unset, .unset, .unset] []) := by first | (simp [entryFrame, mkF, argsToLocals, Value.category]; done) | rfl
def QrmO1 (Z : State) (a : Addr) (t : Addr) (w_1 : Addr) (h0 : Heap) (n0 : Nat) (vv_ : Option Value) (hh_ : Heap) (LL_ : List Loc) : Prop := (vv_ = some (.ref w_1)) ∧ (Fr n0 LL_) ∧ (Keep h0 hh_ [])
set_option maxRecDepth 65536 in
set_option maxHeartbeats 40000000 in
theorem rmO1 (l : Launch) (Z : State) (a0 : Array Value) (hw : ∀ d ∈ tables_1, d.before a0 Z = true) (ws : List Jvm.Cond) (a : Addr) (t : Addr) {zc : Int32} {w_0 : Addr} {w_1 : Addr} {wV : Addr} {kV : ClassId} {s_0 : Addr} {t_0 : Addr} {s_1 : Addr} {t_1 : Addr} (h0 : Heap) (n0 : Nat) (O0 : Old Z n0 h0) (G_ : own_St Z zc w_0 w_1 wV kV s_0 t_0 s_1 t_1) (pr0 : own_Str Z h0 a t [(83 : Int32), (69 : Int32)]) :
    MetFree l (⟨"com/example/clearwrit/clearwrit/Side", "ofUtiCode", "(Ljava/lang/String;)Lcom/example/clearwrit/clearwrit/Side;"⟩ : MethodName) (head1 (Jvm.Cond.code (⟨"com/example/clearwrit/clearwrit/Side", "ofUtiCode", "(Ljava/lang/String;)Lcom/example/clearwrit/clearwrit/Side;"⟩ : MethodName) prog_63_method_8_code 5 (some (.object "com/example/clearwrit/clearwrit/Side")) :: ws) ({ frames := 2, cells := 1, slots := 2, locals := 28 } : Room)) (fun aa_ UU_ => aa_ = #[(.ref a)] ∧ Z.Warmed39 UU_.vm ∧ UU_.heap = h0) (fun _ _ _ _ _ => True) (fun _ UU_ oo_ UV_ => ∃ vv_ LL_, oo_ = .returned vv_ ∧ QrmO1 Z a t w_1 h0 n0 vv_ UV_.heap LL_ ∧ FrameEnd UU_ oo_ UV_ LL_ ({ frames := 2, cells := 1, slots := 2, locals := 28 } : Room).cells ({ frames := 2, cells := 1, slots := 2, locals := 28 } : Room).slots) := by
  refine MetFree.of_bodySF (plainFor_of_name pn_com_example_clearwrit_clearwrit_Side) hisR ?_
  intro pp_ ee_ ss_ mm_ args_ bb_ me_ cc_ s₁ Bd hml0 hP hK
  obtain ⟨rfl, hZ, hh⟩ := hP
  have hx := Bd.exec
  have hby := Bd.bytes
  have hml : cc_.maxLocals = 5 := hml0
  have hown : ss_.vm.findClass "com/example/clearwrit/clearwrit/Side" = some mm_.cls := findClass_of_methodNamed Bd.named
  have hnm := (name_of_methodNamed Bd.named Bd.method).1
  have X0 : Stand pp_ l ee_ ({ frames := 2, cells := 1, slots := 2, locals := 28 } : Room) ss_ mm_ #[(.ref a)] bb_ me_ cc_ s₁ [] 0 0 := Stand.of_body Bd
  have e0 : s₁.heap = h0 := by rw [← hh, Bd.state]; rfl
  have N0 := Fr.nil n0
  show own_Go pp_ ee_ bb_ (fun s₂ oo_ => s₂.status = .running ∧ Ended s₂ bb_ oo_ ∧ (∃ vv_ LL_, oo_ = .returned vv_ ∧ QrmO1 Z a t w_1 h0 n0 vv_ s₂.heap LL_ ∧ FrameEnd ss_ oo_ s₂ LL_ ({ frames := 2, cells := 1, slots := 2, locals := 28 } : Room).cells ({ frames := 2, cells := 1, slots := 2, locals := 28 } : Room).slots)) s₁ (entryFrame mm_ #[(.ref a)] 5)
  refine own_cast (ef_rmO1 mm_ a) ?_
  have Z0 : n0 ≤ h0.size := by have q := O0.2.1; rw [O0.1] at q; exact q
  have K0 : Keep h0 h0 [] := Keep.refl _ _
  obtain ⟨G_cs, G_cs0, G_S1, G_S2, G_S3, G_E4, G_E5, G_E6, G_V7, G_F8, G_T9, G_F13, G_T14, G_cw, G_h_com_example_clearwrit_clearwrit_SideOfUtiCodePinLaw_12, G_h_com_example_clearwrit_clearwrit_SideOfUtiCodePinLaw_24⟩ := id G_
  show own_Go _ _ _ _ s₁ (mkF mm_ 0 #[.val (.ref a), .unset, .unset, .unset, .unset] [])
  obtain ⟨_, T1, Lc1, X1, hQ1, st1⟩ := own_cS X0 hx hZ hown (own_w hw 50 rfl) (own_w hw 51 rfl) (own_w hw 45 rfl) (own_w hw 52 rfl) (by decide) (backOf (W := 0) (rmV l Z a0 hw []  h0 n0 O0 G_ ) hZ (own_w hw 52 rfl) (own_w hw 45 rfl) (by decide) (by decide)) (g := (mkF mm_ 0 #[.val (.ref a), .unset, .unset, .unset, .unset] [])) rfl (by rw [hml]; rfl) (argsL := []) (rest := []) (lenOf pd_0 rfl) rfl (by show 2 * 0 + _ ≤ _; exact Nat.le_of_eq rfl) (hb hby dc_p63_m8_0) rfl e0 (by decide) (by decide)
  obtain ⟨r_1, rfl, Nq1, Kc1, r1_0, r1_1⟩ := hQ1
  have N1 := Fr.app N0 Nq1
  have lo_r_1 : h0.size ≤ r_1 := Nat.le_trans K0.1 r1_0
  have g_r_1 : n0 ≤ r_1 := Nat.le_trans Z0 lo_r_1
  refine own_jump st1 ?_
  show own_Go _ _ _ _ T1 (mkF mm_ 3 #[.val (.ref a), .unset, .unset, .unset, .unset] [(.ref r_1)])
  refine own_step (fun t_ k_ => XS.astoreN X1.here hx rfl (hb hby dc_p63_m8_3) rfl rfl (l' := #[.val (.ref a), .val (.ref r_1), .unset, .unset, .unset]) rfl (XS.aloadN X1.here hx rfl (hb hby dc_p63_m8_4) rfl rfl k_)) ?_
  show own_Go _ _ _ _ T1 (mkF mm_ 5 #[.val (.ref a), .val (.ref r_1), .unset, .unset, .unset] [(.ref r_1)])
  obtain ⟨cl2, Ar2, -, S2, M2, -, -⟩ := id r1_1
  refine own_step (fun t_ k_ => X1.arraylength hx Ar2.1 (State.isArrayOf_alike hZ.alike Ar2.2.1) (g := (mkF mm_ 5 #[.val (.ref a), .val (.ref r_1), .unset, .unset, .unset] [(.ref r_1)])) rfl rfl (hb hby dc_p63_m8_5) t_ (by rw [len_of S2 M2]; exact k_)) ?_
  show own_Go _ _ _ _ T1 (mkF mm_ 6 #[.val (.ref a), .val (.ref r_1), .unset, .unset, .unset] [(.int (2 : Int32))])
  refine own_step (fun t_ k_ => XS.istoreN X1.here hx rfl (hb hby dc_p63_m8_6) rfl (l' := #[.val (.ref a), .val (.ref r_1), .val (.int (2 : Int32)), .unset, .unset]) rfl (XS.iconst X1.here hx rfl (hb hby dc_p63_m8_7) (XS.istoreN X1.here hx rfl (hb hby dc_p63_m8_8) rfl (l' := #[.val (.ref a), .val (.ref r_1), .val (.int (2 : Int32)), .val (.int (0 : Int32)), .unset]) rfl (XS.iloadN X1.here hx rfl (hb hby dc_p63_m8_9) rfl  (XS.iloadN X1.here hx rfl (hb hby dc_p63_m8_10) rfl  k_))))) ?_
  show own_Go _ _ _ _ T1 (mkF mm_ 11 #[.val (.ref a), .val (.ref r_1), .val (.int (2 : Int32)), .val (.int (0 : Int32)), .unset] [(.int (2 : Int32)), (.int (0 : Int32))])
  refine own_step (fun t_ k_ => XS.icmpNo X1.here hx rfl (hb hby dc_p63_m8_11) rfl (tlt (by decide : (0 : Int32) < (2 : Int32))).2.1 k_) ?_
  show own_Go _ _ _ _ T1 (mkF mm_ 14 #[.val (.ref a), .val (.ref r_1), .val (.int (2 : Int32)), .val (.int (0 : Int32)), .unset] [])
  refine own_step (fun t_ k_ => XS.aloadN X1.here hx rfl (hb hby dc_p63_m8_14) rfl rfl (XS.iloadN X1.here hx rfl (hb hby dc_p63_m8_15) rfl  k_)) ?_
  show own_Go _ _ _ _ T1 (mkF mm_ 16 #[.val (.ref a), .val (.ref r_1), .val (.int (2 : Int32)), .val (.int (0 : Int32)), .unset] [(.int (0 : Int32)), (.ref r_1)])
  obtain ⟨cl3, Ar3, q3, S3, M3, H3, G3⟩ := id r1_1
  have hin3 : ¬ ((0 : Int32) < 0 ∨ cl3.slots.size ≤ ((0 : Int32)).toNatClampNeg) := inb_of S3 ⟨by decide, by decide⟩
  have hat3 : cl3.slots[((0 : Int32)).toNatClampNeg]? = some (.ref w_0) := Has.at H3 hin3 rfl
  refine own_step (fun t_ k_ => X1.aaload hx (j := (0 : Int32)) (v := (.ref w_0)) Ar3.1 (State.isArrayOf_alike hZ.alike Ar3.2.1) rfl Ar3.2.2 hin3 hat3 (g := (mkF mm_ 16 #[.val (.ref a), .val (.ref r_1), .val (.int (2 : Int32)), .val (.int (0 : Int32)), .unset] [(.int (0 : Int32)), (.ref r_1)])) rfl rfl (hb hby dc_p63_m8_16) t_ k_) ?_
  show own_Go _ _ _ _ T1 (mkF mm_ 17 #[.val (.ref a), .val (.ref r_1), .val (.int (2 : Int32)), .val (.int (0 : Int32)), .unset] [(.ref w_0)])
  refine own_step (fun t_ k_ => XS.astore X1.here hx rfl (hb hby dc_p63_m8_17) rfl rfl (l' := #[.val (.ref a), .val (.ref r_1), .val (.int (2 : Int32)), .val (.int (0 : Int32)), .val (.ref w_0)]) rfl (XS.aload X1.here hx rfl (hb hby dc_p63_m8_19) rfl rfl k_)) ?_
  show own_Go _ _ _ _ T1 (mkF mm_ 21 #[.val (.ref a), .val (.ref r_1), .val (.int (2 : Int32)), .val (.int (0 : Int32)), .val (.ref w_0)] [(.ref w_0)])
  have O4 : Old Z n0 T1.heap := (O0.keep Kc1 all0)
  obtain ⟨T5, X5, e5, st5⟩ := getF X1 hx hZ hown (host := "") (Or.inl (own_w hw 66 rfl)) Via.refl rfl (G_F8.ext O4.2) (g := (mkF mm_ 21 #[.val (.ref a), .val (.ref r_1), .val (.int (2 : Int32)), .val (.int (0 : Int32)), .val (.ref w_0)] [(.ref w_0)])) rfl rfl (hb hby dc_p63_m8_21)
  refine own_step st5 ?_
  show own_Go _ _ _ _ T5 (mkF mm_ 24 #[.val (.ref a), .val (.ref r_1), .val (.int (2 : Int32)), .val (.int (0 : Int32)), .val (.ref w_0)] [(.ref s_0)])
  refine own_step (fun t_ k_ => XS.aloadN X5.here hx rfl (hb hby dc_p63_m8_24) rfl rfl k_) ?_
  show own_Go _ _ _ _ T5 (mkF mm_ 25 #[.val (.ref a), .val (.ref r_1), .val (.int (2 : Int32)), .val (.int (0 : Int32)), .val (.ref w_0)] [(.ref a), (.ref s_0)])
  have f7 : own_Str Z T1.heap a t [(83 : Int32), (69 : Int32)] := (pr0.keep Kc1 nin0 nin0)
  obtain ⟨_, T6, Lc6, X6, hQ6, st6⟩ := own_cV X5 hx hZ hown (own_w hw 68 rfl) (own_w hw 34 rfl) (notFace_of_selects (args := #[]) (mvT hZ (own_w hw 36 rfl))) (own_w hw 36 rfl) (own_w hw 35 rfl) (by decide) (own_eqS (W := 0) hZ hw (G_T9.ext O4.2) f7 (G_cs.ext O4.2) G_cs0 (by decide) (by decide)) (G_T9.ext O4.2).1 (g := (mkF mm_ 25 #[.val (.ref a), .val (.ref r_1), .val (.int (2 : Int32)), .val (.int (0 : Int32)), .val (.ref w_0)] [(.ref a), (.ref s_0)])) rfl (by rw [hml]; rfl) (argsL := [(.ref a)]) (rest := []) (lenOf pd_1 rfl) rfl (by show 2 * 0 + _ ≤ _; exact Nat.le_of_eq rfl) (hb hby dc_p63_m8_25) rfl e5 (by decide) (by decide)
  obtain ⟨⟨-, hq6⟩ | ⟨rfl, -⟩, rfl, Eh6⟩ := hQ6
  · exact absurd hq6 (by decide)
  have N6 := Fr.app N1 (Fr.nil n0)
  refine own_jump st6 ?_
  show own_Go _ _ _ _ T6 (mkF mm_ 28 #[.val (.ref a), .val (.ref r_1), .val (.int (2 : Int32)), .val (.int (0 : Int32)), .val (.ref w_0)] [(.int (0 : Int32))])
  refine own_step (fun t_ k_ => XS.ifYes X6.here hx rfl (pc0 := 28) (pc' := 34) rfl (hb hby dc_p63_m8_28) rfl ((if0 _ _).trans (teq (by decide : (0 : Int32) = (0 : Int32))).1) (by decide) (by decide) k_) ?_
  show own_Go _ _ _ _ T6 (mkF mm_ 34 #[.val (.ref a), .val (.ref r_1), .val (.int (2 : Int32)), .val (.int (0 : Int32)), .val (.ref w_0)] [])
  refine own_step (fun t_ k_ => XS.iinc X6.here hx rfl (hb hby dc_p63_m8_34) rfl (l' := #[.val (.ref a), .val (.ref r_1), .val (.int (2 : Int32)), .val (.int (1 : Int32)), .val (.ref w_0)]) rfl (XS.goto X6.here hx rfl (pc0 := 37) (pc' := 9) rfl (hb hby dc_p63_m8_37) (by decide) (by decide) (XS.iloadN X6.here hx rfl (hb hby dc_p63_m8_9) rfl  (XS.iloadN X6.here hx rfl (hb hby dc_p63_m8_10) rfl  k_)))) ?_
  show own_Go _ _ _ _ T6 (mkF mm_ 11 #[.val (.ref a), .val (.ref r_1), .val (.int (2 : Int32)), .val (.int (1 : Int32)), .val (.ref w_0)] [(.int (2 : Int32)), (.int (1 : Int32))])
  refine own_step (fun t_ k_ => XS.icmpNo X6.here hx rfl (hb hby dc_p63_m8_11) rfl (tlt (by decide : (1 : Int32) < (2 : Int32))).2.1 k_) ?_
  show own_Go _ _ _ _ T6 (mkF mm_ 14 #[.val (.ref a), .val (.ref r_1), .val (.int (2 : Int32)), .val (.int (1 : Int32)), .val (.ref w_0)] [])
  refine own_step (fun t_ k_ => XS.aloadN X6.here hx rfl (hb hby dc_p63_m8_14) rfl rfl (XS.iloadN X6.here hx rfl (hb hby dc_p63_m8_15) rfl  k_)) ?_
  show own_Go _ _ _ _ T6 (mkF mm_ 16 #[.val (.ref a), .val (.ref r_1), .val (.int (2 : Int32)), .val (.int (1 : Int32)), .val (.ref w_0)] [(.int (1 : Int32)), (.ref r_1)])
  obtain ⟨cl8, Ar8, q8, S8, M8, H8, G8⟩ := id r1_1
  have hin8 : ¬ ((1 : Int32) < 0 ∨ cl8.slots.size ≤ ((1 : Int32)).toNatClampNeg) := inb_of S8 ⟨by decide, by decide⟩
  have hat8 : cl8.slots[((1 : Int32)).toNatClampNeg]? = some (.ref w_1) := Has.at H8 hin8 rfl
  refine own_step (fun t_ k_ => X6.aaload hx (j := (1 : Int32)) (v := (.ref w_1)) (by rw [Eh6]; exact Ar8.1) (State.isArrayOf_alike hZ.alike Ar8.2.1) rfl Ar8.2.2 hin8 hat8 (g := (mkF mm_ 16 #[.val (.ref a), .val (.ref r_1), .val (.int (2 : Int32)), .val (.int (1 : Int32)), .val (.ref w_0)] [(.int (1 : Int32)), (.ref r_1)])) rfl rfl (hb hby dc_p63_m8_16) t_ k_) ?_
  show own_Go _ _ _ _ T6 (mkF mm_ 17 #[.val (.ref a), .val (.ref r_1), .val (.int (2 : Int32)), .val (.int (1 : Int32)), .val (.ref w_0)] [(.ref w_1)])
  refine own_step (fun t_ k_ => XS.astore X6.here hx rfl (hb hby dc_p63_m8_17) rfl rfl (l' := #[.val (.ref a), .val (.ref r_1), .val (.int (2 : Int32)), .val (.int (1 : Int32)), .val (.ref w_1)]) rfl (XS.aload X6.here hx rfl (hb hby dc_p63_m8_19) rfl rfl k_)) ?_
  show own_Go _ _ _ _ T6 (mkF mm_ 21 #[.val (.ref a), .val (.ref r_1), .val (.int (2 : Int32)), .val (.int (1 : Int32)), .val (.ref w_1)] [(.ref w_1)])
  obtain ⟨T9, X9, e9, st9⟩ := getF X6 hx hZ hown (host := "") (Or.inl (own_w hw 66 rfl)) Via.refl Eh6 (G_F13.ext O4.2) (g := (mkF mm_ 21 #[.val (.ref a), .val (.ref r_1), .val (.int (2 : Int32)), .val (.int (1 : Int32)), .val (.ref w_1)] [(.ref w_1)])) rfl rfl (hb hby dc_p63_m8_21)
  refine own_step st9 ?_
  show own_Go _ _ _ _ T9 (mkF mm_ 24 #[.val (.ref a), .val (.ref r_1), .val (.int (2 : Int32)), .val (.int (1 : Int32)), .val (.ref w_1)] [(.ref s_1)])
  refine own_step (fun t_ k_ => XS.aloadN X9.here hx rfl (hb hby dc_p63_m8_24) rfl rfl k_) ?_
  show own_Go _ _ _ _ T9 (mkF mm_ 25 #[.val (.ref a), .val (.ref r_1), .val (.int (2 : Int32)), .val (.int (1 : Int32)), .val (.ref w_1)] [(.ref a), (.ref s_1)])
  obtain ⟨_, T10, Lc10, X10, hQ10, st10⟩ := own_cV X9 hx hZ hown (own_w hw 68 rfl) (own_w hw 34 rfl) (notFace_of_selects (args := #[]) (mvT hZ (own_w hw 36 rfl))) (own_w hw 36 rfl) (own_w hw 35 rfl) (by decide) (own_eqS (W := 0) hZ hw (G_T14.ext O4.2) f7 (G_cs.ext O4.2) G_cs0 (by decide) (by decide)) (G_T14.ext O4.2).1 (g := (mkF mm_ 25 #[.val (.ref a), .val (.ref r_1), .val (.int (2 : Int32)), .val (.int (1 : Int32)), .val (.ref w_1)] [(.ref a), (.ref s_1)])) rfl (by rw [hml]; rfl) (argsL := [(.ref a)]) (rest := []) (lenOf pd_1 rfl) rfl (by show 2 * 0 + _ ≤ _; exact Nat.le_of_eq rfl) (hb hby dc_p63_m8_25) rfl e9 (by decide) (by decide)
  obtain ⟨⟨rfl, -⟩ | ⟨-, hq10⟩, rfl, Eh10⟩ := hQ10
  rotate_left
  · exact absurd rfl hq10
  have N10 := Fr.app N6 (Fr.nil n0)
  refine own_jump st10 ?_
  show own_Go _ _ _ _ T10 (mkF mm_ 28 #[.val (.ref a), .val (.ref r_1), .val (.int (2 : Int32)), .val (.int (1 : Int32)), .val (.ref w_1)] [(.int (1 : Int32))])
  refine own_step (fun t_ k_ => XS.ifNo X10.here hx rfl (hb hby dc_p63_m8_28) rfl ((if0 _ _).trans (feq (by decide : ¬ ((1 : Int32) = (0 : Int32)))).1) k_) ?_
  show own_Go _ _ _ _ T10 (mkF mm_ 31 #[.val (.ref a), .val (.ref r_1), .val (.int (2 : Int32)), .val (.int (1 : Int32)), .val (.ref w_1)] [])
  refine own_step (fun t_ k_ => XS.aload X10.here hx rfl (hb hby dc_p63_m8_31) rfl rfl k_) ?_
  show own_Go _ _ _ _ T10 (mkF mm_ 33 #[.val (.ref a), .val (.ref r_1), .val (.int (2 : Int32)), .val (.int (1 : Int32)), .val (.ref w_1)] [(.ref w_1)])
  have K11 : Keep h0 T1.heap [] := (K0.trans Kc1 all0)
  obtain ⟨fs, hr, hrun, hended, hW, hsame⟩ := X10.leave (v := some (.ref w_1)) (fun h => by rw [Bd.returns] at h; cases h)
  refine ⟨_, _, ?_, hrun, hended, _, _, rfl, ?_, ⟨_, rfl⟩, hW, hsame.mono (by decide) (by decide)⟩
  · jvm_step X10.here [X10.here.top, hx, (hb hby dc_p63_m8_33), X10.method', Bd.returns, Value.isRef, FieldType.isReference]
    first | (intro acts; rw [hr _ acts rfl rfl rfl]) | rw [hr _ _ rfl rfl rfl]
    exact Steps.refl _
  · show QrmO1 Z a t w_1 h0 n0 (some (.ref w_1)) T10.heap _
    rw [Eh10]
    exact ⟨rfl, N10, K11⟩
theorem dc_p63_m4_0 : decode prog_63_method_4_code 0 = .ok (.aload_n 0, 1) := by decide +kernel
theorem dc_p63_m4_1 : decode prog_63_method_4_code 1 = .ok (.getfield 33, 3) := by decide +kernel
theorem dc_p63_m4_4 : decode prog_63_method_4_code 4 = .ok (.areturn, 1) := by decide +kernel
theorem ef_rmG (mm_ : MethodId) (a : Addr) : entryFrame mm_ #[(.ref a)] 1 = (mkF mm_ 0 #[.val (.ref a)] []) := by first | (simp [entryFrame, mkF, argsToLocals, Value.category]; done) | rfl
def QrmG (Z : State) (a : Addr) (v : Addr) (h0 : Heap) (n0 : Nat) (vv_ : Option Value) (hh_ : Heap) (LL_ : List Loc) : Prop := (vv_ = some (.ref v)) ∧ (LL_ = []) ∧ (hh_ = h0)
set_option maxRecDepth 65536 in
set_option maxHeartbeats 40000000 in
theorem rmG (l : Launch) (Z : State) (a0 : Array Value) (hw : ∀ d ∈ tables_1, d.before a0 Z = true) (ws : List Jvm.Cond) (a : Addr) (v : Addr) (h0 : Heap) (n0 : Nat) (O0 : Old Z n0 h0) (pr0 : Fld Z h0 a "com/example/clearwrit/clearwrit/Side" "utiCode" "Ljava/lang/String;" (.ref v)) :
    MetFree l (⟨"com/example/clearwrit/clearwrit/Side", "utiCode", "()Ljava/lang/String;"⟩ : MethodName) (head1 (Jvm.Cond.code (⟨"com/example/clearwrit/clearwrit/Side", "utiCode", "()Ljava/lang/String;"⟩ : MethodName) prog_63_method_4_code 1 (some (.object "java/lang/String")) :: ws) ({ frames := 0, cells := 0, slots := 0, locals := 0 } : Room)) (fun aa_ UU_ => aa_ = #[(.ref a)] ∧ Z.Warmed39 UU_.vm ∧ UU_.heap = h0) (fun _ _ _ _ _ => True) (fun _ UU_ oo_ UV_ => ∃ vv_ LL_, oo_ = .returned vv_ ∧ QrmG Z a v h0 n0 vv_ UV_.heap LL_ ∧ FrameEnd UU_ oo_ UV_ LL_ ({ frames := 0, cells := 0, slots := 0, locals := 0 } : Room).cells ({ frames := 0, cells := 0, slots := 0, locals := 0 } : Room).slots) := by
  refine MetFree.of_bodySF (plainFor_of_name pn_com_example_clearwrit_clearwrit_Side) hisR ?_
  intro pp_ ee_ ss_ mm_ args_ bb_ me_ cc_ s₁ Bd hml0 hP hK
  obtain ⟨rfl, hZ, hh⟩ := hP
  have hx := Bd.exec
  have hby := Bd.bytes
  have hml : cc_.maxLocals = 1 := hml0
  have hown : ss_.vm.findClass "com/example/clearwrit/clearwrit/Side" = some mm_.cls := findClass_of_methodNamed Bd.named
  have hnm := (name_of_methodNamed Bd.named Bd.method).1
  have X0 : Stand pp_ l ee_ ({ frames := 0, cells := 0, slots := 0, locals := 0 } : Room) ss_ mm_ #[(.ref a)] bb_ me_ cc_ s₁ [] 0 0 := Stand.of_body Bd
  have e0 : s₁.heap = h0 := by rw [← hh, Bd.state]; rfl
  have N0 := Fr.nil n0
  show own_Go pp_ ee_ bb_ (fun s₂ oo_ => s₂.status = .running ∧ Ended s₂ bb_ oo_ ∧ (∃ vv_ LL_, oo_ = .returned vv_ ∧ QrmG Z a v h0 n0 vv_ s₂.heap LL_ ∧ FrameEnd ss_ oo_ s₂ LL_ ({ frames := 0, cells := 0, slots := 0, locals := 0 } : Room).cells ({ frames := 0, cells := 0, slots := 0, locals := 0 } : Room).slots)) s₁ (entryFrame mm_ #[(.ref a)] 1)
  refine own_cast (ef_rmG mm_ a) ?_
  have Z0 : n0 ≤ h0.size := by have q := O0.2.1; rw [O0.1] at q; exact q
  have K0 : Keep h0 h0 [] := Keep.refl _ _
  show own_Go _ _ _ _ s₁ (mkF mm_ 0 #[.val (.ref a)] [])
  refine own_step (fun t_ k_ => XS.aloadN X0.here hx rfl (hb hby dc_p63_m4_0) rfl rfl k_) ?_
  show own_Go _ _ _ _ s₁ (mkF mm_ 1 #[.val (.ref a)] [(.ref a)])
  obtain ⟨T1, X1, e1, st1⟩ := getF X0 hx hZ hown (host := "") (Or.inl (own_w hw 66 rfl)) Via.refl e0 pr0 (g := (mkF mm_ 1 #[.val (.ref a)] [(.ref a)])) rfl rfl (hb hby dc_p63_m4_1)
  refine own_step st1 ?_
  show own_Go _ _ _ _ T1 (mkF mm_ 4 #[.val (.ref a)] [(.ref v)])
  obtain ⟨fs, hr, hrun, hended, hW, hsame⟩ := X1.leave (v := some (.ref v)) (fun h => by rw [Bd.returns] at h; cases h)
  refine ⟨_, _, ?_, hrun, hended, _, _, rfl, ?_, ⟨_, rfl⟩, hW, hsame.mono (by decide) (by decide)⟩
  · jvm_step X1.here [X1.here.top, hx, (hb hby dc_p63_m4_4), X1.method', Bd.returns, Value.isRef, FieldType.isReference]
    first | (intro acts; rw [hr _ acts rfl rfl rfl]) | rw [hr _ _ rfl rfl rfl]
    exact Steps.refl _
  · show QrmG Z a v h0 n0 (some (.ref v)) T1.heap _
    rw [e1]
    exact ⟨rfl, rfl, rfl⟩
theorem pd_2 : parseMethodDescriptor "([C)V" = some ⟨[(.array .char)], none⟩ := by decide +kernel
theorem pd_3 : parseMethodDescriptor "(Ljava/lang/String;)Lcom/example/clearwrit/clearwrit/Side;" = some ⟨[(.object "java/lang/String")], some (.object "com/example/clearwrit/clearwrit/Side")⟩ := by decide +kernel
theorem pd_4 : parseMethodDescriptor "()Ljava/lang/String;" = some ⟨[], some (.object "java/lang/String")⟩ := by decide +kernel
theorem pn_com_example_clearwrit_clearwrit_SideOfUtiCodePinLaw : plainName "com/example/clearwrit/clearwrit/SideOfUtiCodePinLaw" = true := by first | (simp [plainName, overriddenIn]; done) | decide +kernel
theorem ef_rm0 (mm_ : MethodId) (p1 : Int32) (p2 : Int32) (p3 : Int32) : entryFrame mm_ #[(.int p1), (.int p2), (.int p3)] maxLocals = (mkF mm_ 0 #[.val (.int p1), .val (.int p2), .val (.int p3), .unset, .unset, .unset, .unset, .unset, .unset, .unset] []) := by first | (simp [entryFrame, mkF, argsToLocals, Value.category, maxLocals]; done) | rfl
def Qrm0 (Z : State) (p1 : Int32) (p2 : Int32) (p3 : Int32) (h0 : Heap) (n0 : Nat) (vv_ : Option Value) (hh_ : Heap) (LL_ : List Loc) : Prop := (vv_ = some (.int (1 : Int32))) ∧ (Fr n0 LL_) ∧ (Keep h0 hh_ [])
set_option maxRecDepth 65536 in
set_option maxHeartbeats 40000000 in
theorem rm0 (l : Launch) (Z : State) (a0 : Array Value) (hw : ∀ d ∈ tables_1, d.before a0 Z = true) (ws : List Jvm.Cond) (p1 : Int32) (p2 : Int32) (p3 : Int32) {zc : Int32} {w_0 : Addr} {w_1 : Addr} {wV : Addr} {kV : ClassId} {s_0 : Addr} {t_0 : Addr} {s_1 : Addr} {t_1 : Addr} (h0 : Heap) (n0 : Nat) (O0 : Old Z n0 h0) (G_ : own_St Z zc w_0 w_1 wV kV s_0 t_0 s_1 t_1) (hn0 : h0.size = n0) :
    MetFree l x (head1 (Jvm.Cond.code x code maxLocals ret :: ws) room_1) (fun aa_ UU_ => aa_ = #[(.int p1), (.int p2), (.int p3)] ∧ Z.Warmed39 UU_.vm ∧ UU_.heap = h0 ∧ (IB Z UU_.vm [])) (fun _ _ _ _ _ => True) (fun _ UU_ oo_ UV_ => ∃ vv_ LL_, oo_ = .returned vv_ ∧ Qrm0 Z p1 p2 p3 h0 n0 vv_ UV_.heap LL_ ∧ IB Z UV_.vm ["SE", "BU"] ∧ ReturnedEndW UU_ oo_ UV_ LL_ room_1.cells room_1.slots) := by
  refine MetFree.of_bodySF (plainFor_of_name pn_com_example_clearwrit_clearwrit_SideOfUtiCodePinLaw) hisR ?_
  intro pp_ ee_ ss_ mm_ args_ bb_ me_ cc_ s₁ Bd hml0 hP hK
  obtain ⟨rfl, hZ, hh, hI⟩ := hP
  have hx := Bd.exec
  have hby := Bd.bytes
  have hml : cc_.maxLocals = 10 := hml0
  have hown : ss_.vm.findClass "com/example/clearwrit/clearwrit/SideOfUtiCodePinLaw" = some mm_.cls := findClass_of_methodNamed Bd.named
  have hnm := (name_of_methodNamed Bd.named Bd.method).1
  have X0 : Stand pp_ l ee_ room_1 ss_ mm_ #[(.int p1), (.int p2), (.int p3)] bb_ me_ cc_ s₁ [] 0 0 := Stand.of_body Bd
  have e0 : s₁.heap = h0 := by rw [← hh, Bd.state]; rfl
  have N0 := Fr.nil n0
  have X0 : Stand pp_ l ee_ _ (ss_.setVm ss_.vm) mm_ _ bb_ me_ cc_ s₁ [] 0 0 := X0
  have hZ : Z.Warmed39 (ss_.setVm ss_.vm).vm := hZ
  have hown : (ss_.setVm ss_.vm).vm.findClass "com/example/clearwrit/clearwrit/SideOfUtiCodePinLaw" = some mm_.cls := hown
  have hS0 : ss_.Since ss_.vm 0 := (State.WarmedH.refl ss_).since 0
  have hkeep_ : ∀ (b : Addr) (cl : Cell), Z.heap[b]? = some cl → ss_.heap[b]? = some cl := by rw [hh]; exact O0.2.2
  have own_atoms_ : ∀ a ∈ Bundle.stringAtoms, a.before a0 Z = true := fun d hd => hw d ((by decide +kernel : ∀ d ∈ Bundle.stringAtoms, d ∈ tables_1) d hd)
  show own_Go pp_ ee_ bb_ (fun s₂ oo_ => s₂.status = .running ∧ Ended s₂ bb_ oo_ ∧ (∃ vv_ LL_, oo_ = .returned vv_ ∧ Qrm0 Z p1 p2 p3 h0 n0 vv_ s₂.heap LL_ ∧ IB Z s₂.vm ["SE", "BU"] ∧ ReturnedEndW ss_ oo_ s₂ LL_ room_1.cells room_1.slots)) s₁ (entryFrame mm_ #[(.int p1), (.int p2), (.int p3)] maxLocals)
  refine own_cast (ef_rm0 mm_ p1 p2 p3) ?_
  have Z0 : n0 ≤ h0.size := by have q := O0.2.1; rw [O0.1] at q; exact q
  have K0 : Keep h0 h0 [] := Keep.refl _ _
  obtain ⟨G_cs, G_cs0, G_S1, G_S2, G_S3, G_E4, G_E5, G_E6, G_V7, G_F8, G_T9, G_F13, G_T14, G_cw, G_h_com_example_clearwrit_clearwrit_SideOfUtiCodePinLaw_12, G_h_com_example_clearwrit_clearwrit_SideOfUtiCodePinLaw_24⟩ := id G_
  have own_cw_ : Jvm.Lit.compactW.before a0 Z = true := G_cw
  show own_Go _ _ _ _ s₁ (mkF mm_ 0 #[.val (.int p1), .val (.int p2), .val (.int p3), .unset, .unset, .unset, .unset, .unset, .unset, .unset] [])
  refine own_step (fun t_ k_ => XS.iloadN X0.here hx rfl (hb hby at_0) rfl  (XS.iconst X0.here hx rfl (hb hby at_1) (XS.iand X0.here hx rfl (hb hby at_2) rfl k_))) ?_
  show own_Go _ _ _ _ s₁ (mkF mm_ 3 #[.val (.int p1), .val (.int p2), .val (.int p3), .unset, .unset, .unset, .unset, .unset, .unset, .unset] [(.int (p1 &&& (1 : Int32)))])
  by_cases hc3_1 : (p1 &&& (1 : Int32)) = (0 : Int32)
  · skip
    refine own_step (fun t_ k_ => XS.ifYes X0.here hx rfl (pc0 := 3) (pc' := 10) rfl (hb hby at_3) rfl ((if0 _ _).trans (teq hc3_1).1) (by decide) (by decide) k_) ?_
    show own_Go _ _ _ _ s₁ (mkF mm_ 10 #[.val (.int p1), .val (.int p2), .val (.int p3), .unset, .unset, .unset, .unset, .unset, .unset, .unset] [])
    refine own_step (fun t_ k_ => XS.iconst X0.here hx rfl (hb hby at_10) (XS.istoreN X0.here hx rfl (hb hby at_11) rfl (l' := #[.val (.int p1), .val (.int p2), .val (.int p3), .val (.int (0 : Int32)), .unset, .unset, .unset, .unset, .unset, .unset]) rfl (XS.iloadN X0.here hx rfl (hb hby at_12) rfl  (XS.sipush X0.here hx rfl (hb hby at_13) (XS.iand X0.here hx rfl (hb hby at_16) rfl k_))))) ?_
    show own_Go _ _ _ _ s₁ (mkF mm_ 17 #[.val (.int p1), .val (.int p2), .val (.int p3), .val (.int (0 : Int32)), .unset, .unset, .unset, .unset, .unset, .unset] [(.int (p2 &&& (255 : Int32)))])
    refine own_step (fun t_ k_ => XS.i2c X0.here hx rfl (hb hby at_17) rfl (by rw [i2c_mask]; exact (XS.istore X0.here hx rfl (hb hby at_18) rfl (l' := #[.val (.int p1), .val (.int p2), .val (.int p3), .val (.int (0 : Int32)), .val (.int (p2 &&& (255 : Int32))), .unset, .unset, .unset, .unset, .unset]) rfl (XS.iloadN X0.here hx rfl (hb hby at_20) rfl  (XS.sipush X0.here hx rfl (hb hby at_21) (XS.iand X0.here hx rfl (hb hby at_24) rfl k_)))))) ?_
    show own_Go _ _ _ _ s₁ (mkF mm_ 25 #[.val (.int p1), .val (.int p2), .val (.int p3), .val (.int (0 : Int32)), .val (.int (p2 &&& (255 : Int32))), .unset, .unset, .unset, .unset, .unset] [(.int (p3 &&& (255 : Int32)))])
    refine own_step (fun t_ k_ => XS.i2c X0.here hx rfl (hb hby at_25) rfl (by rw [i2c_mask]; exact (XS.istore X0.here hx rfl (hb hby at_26) rfl (l' := #[.val (.int p1), .val (.int p2), .val (.int p3), .val (.int (0 : Int32)), .val (.int (p2 &&& (255 : Int32))), .val (.int (p3 &&& (255 : Int32))), .unset, .unset, .unset, .unset]) rfl k_))) ?_
    show own_Go _ _ _ _ s₁ (mkF mm_ 28 #[.val (.int p1), .val (.int p2), .val (.int p3), .val (.int (0 : Int32)), .val (.int (p2 &&& (255 : Int32))), .val (.int (p3 &&& (255 : Int32))), .unset, .unset, .unset, .unset] [])
    obtain ⟨T2, h2, X2, e2, E2, A2, D2, -, st2⟩ := newO X0 hx hZ hown (own_w hw 0 rfl) (own_w hw 1 rfl) (own_w hw 2 rfl) e0 (g := (mkF mm_ 28 #[.val (.int p1), .val (.int p2), .val (.int p3), .val (.int (0 : Int32)), .val (.int (p2 &&& (255 : Int32))), .val (.int (p3 &&& (255 : Int32))), .unset, .unset, .unset, .unset] [])) rfl (hb hby at_28) (by decide) (by decide)
    obtain ⟨b2, q2⟩ : ∃ z, z = h0.size := ⟨_, rfl⟩
    rw [← q2] at A2 D2 st2
    have lo_b2 : h0.size ≤ b2 := Nat.le_trans K0.1 (Nat.le_of_eq q2.symm)
    have g_b2 : n0 ≤ b2 := Nat.le_trans Z0 lo_b2
    refine own_step st2 ?_
    have F2_coder : Fld Z h2 b2 "java/lang/String" "coder" "B" (.int (0 : Int32)) := D2 (Or.inr (own_w hw 27 rfl)) (ty := .byte) (by decide)
    have F2_value : Fld Z h2 b2 "java/lang/String" "value" "[B" .null := D2 (Or.inr (own_w hw 29 rfl)) (ty := (.array .byte)) (by decide)
    show own_Go _ _ _ _ T2 (mkF mm_ 31 #[.val (.int p1), .val (.int p2), .val (.int p3), .val (.int (0 : Int32)), .val (.int (p2 &&& (255 : Int32))), .val (.int (p3 &&& (255 : Int32))), .unset, .unset, .unset, .unset] [(.ref b2)])
    refine own_step (fun t_ k_ => XS.dup X2.here hx rfl (hb hby at_31) rfl rfl (XS.iconst X2.here hx rfl (hb hby at_32) k_)) ?_
    show own_Go _ _ _ _ T2 (mkF mm_ 33 #[.val (.int p1), .val (.int p2), .val (.int p3), .val (.int (0 : Int32)), .val (.int (p2 &&& (255 : Int32))), .val (.int (p3 &&& (255 : Int32))), .unset, .unset, .unset, .unset] [(.int (2 : Int32)), (.ref b2), (.ref b2)])
    obtain ⟨T3, h3, k3, X3, e3, E3, A3, st3⟩ := newP X2 hx hZ (own_w hw 3 rfl) e2 (g := (mkF mm_ 33 #[.val (.int p1), .val (.int p2), .val (.int p3), .val (.int (0 : Int32)), .val (.int (p2 &&& (255 : Int32))), .val (.int (p3 &&& (255 : Int32))), .unset, .unset, .unset, .unset] [(.int (2 : Int32)), (.ref b2), (.ref b2)])) rfl (hb hby at_33) rfl (by decide) (cap := 2) (by decide) (by decide) (by decide) (by decide)
    obtain ⟨b3, q3⟩ : ∃ z, z = h2.size := ⟨_, rfl⟩
    rw [← q3] at A3 st3
    have K4 : Keep h0 h2 [] := (K0.ext E2)
    have lo_b3 : h0.size ≤ b3 := Nat.le_trans K4.1 (Nat.le_of_eq q3.symm)
    have g_b3 : n0 ≤ b3 := Nat.le_trans Z0 lo_b3
    refine own_step st3 ?_
    have V3 : Arv Z h3 b3 k3 .char (2 : Int32) [(.int (0 : Int32)), (.int (0 : Int32))] (.int (0 : Int32)) := (Arv.new A3 (by decide)).pad (pad_rep [] (.int (0 : Int32)) 2)
    show own_Go _ _ _ _ T3 (mkF mm_ 35 #[.val (.int p1), .val (.int p2), .val (.int p3), .val (.int (0 : Int32)), .val (.int (p2 &&& (255 : Int32))), .val (.int (p3 &&& (255 : Int32))), .unset, .unset, .unset, .unset] [(.ref b3), (.ref b2), (.ref b2)])
    refine own_step (fun t_ k_ => XS.dup X3.here hx rfl (hb hby at_35) rfl rfl (XS.iconst X3.here hx rfl (hb hby at_36) (XS.iload X3.here hx rfl (hb hby at_37) rfl  k_))) ?_
    show own_Go _ _ _ _ T3 (mkF mm_ 39 #[.val (.int p1), .val (.int p2), .val (.int p3), .val (.int (0 : Int32)), .val (.int (p2 &&& (255 : Int32))), .val (.int (p3 &&& (255 : Int32))), .unset, .unset, .unset, .unset] [(.int (p2 &&& (255 : Int32))), (.int (0 : Int32)), (.ref b3), (.ref b3), (.ref b2), (.ref b2)])
    obtain ⟨cl5, Ar5, q5, S5, M5, H5, G5⟩ := id V3
    have hin5 : ¬ ((0 : Int32) < 0 ∨ cl5.slots.size ≤ ((0 : Int32)).toNatClampNeg) := inb_of S5 ⟨by decide, by decide⟩
    obtain ⟨T5, h5, X5, e5, W5, st5⟩ := stC X3 hx hZ e3 Ar5 (j := (0 : Int32)) hin5 (g := (mkF mm_ 39 #[.val (.int p1), .val (.int p2), .val (.int p3), .val (.int (0 : Int32)), .val (.int (p2 &&& (255 : Int32))), .val (.int (p3 &&& (255 : Int32))), .unset, .unset, .unset, .unset] [(.int (p2 &&& (255 : Int32))), (.int (0 : Int32)), (.ref b3), (.ref b3), (.ref b2), (.ref b2)])) rfl rfl (hb hby at_39)
    have V5 : Arv Z h5 b3 k3 .char (2 : Int32) [(.int (p2 &&& (255 : Int32))), (.int (0 : Int32))] (.int (0 : Int32)) := by
      have q := Arv.set Ar5 q5 S5 M5 H5 G5 (fits_nar_char _) W5 0 rfl (Nat.le_of_ble_eq_true rfl)
      rw [own_nar255] at q
      exact q
    have N5 := Fr.snoc X5 N0 g_b3
    refine own_step st5 ?_
    show own_Go _ _ _ _ T5 (mkF mm_ 40 #[.val (.int p1), .val (.int p2), .val (.int p3), .val (.int (0 : Int32)), .val (.int (p2 &&& (255 : Int32))), .val (.int (p3 &&& (255 : Int32))), .unset, .unset, .unset, .unset] [(.ref b3), (.ref b2), (.ref b2)])
    refine own_step (fun t_ k_ => XS.dup X5.here hx rfl (hb hby at_40) rfl rfl (XS.iconst X5.here hx rfl (hb hby at_41) (XS.iload X5.here hx rfl (hb hby at_42) rfl  k_))) ?_
    show own_Go _ _ _ _ T5 (mkF mm_ 44 #[.val (.int p1), .val (.int p2), .val (.int p3), .val (.int (0 : Int32)), .val (.int (p2 &&& (255 : Int32))), .val (.int (p3 &&& (255 : Int32))), .unset, .unset, .unset, .unset] [(.int (p3 &&& (255 : Int32))), (.int (1 : Int32)), (.ref b3), (.ref b3), (.ref b2), (.ref b2)])
    obtain ⟨cl6, Ar6, q6, S6, M6, H6, G6⟩ := id V5
    have hin6 : ¬ ((1 : Int32) < 0 ∨ cl6.slots.size ≤ ((1 : Int32)).toNatClampNeg) := inb_of S6 ⟨by decide, by decide⟩
    obtain ⟨T6, h6, X6, e6, W6, st6⟩ := stC X5 hx hZ e5 Ar6 (j := (1 : Int32)) hin6 (g := (mkF mm_ 44 #[.val (.int p1), .val (.int p2), .val (.int p3), .val (.int (0 : Int32)), .val (.int (p2 &&& (255 : Int32))), .val (.int (p3 &&& (255 : Int32))), .unset, .unset, .unset, .unset] [(.int (p3 &&& (255 : Int32))), (.int (1 : Int32)), (.ref b3), (.ref b3), (.ref b2), (.ref b2)])) rfl rfl (hb hby at_44)
    have V6 : Arv Z h6 b3 k3 .char (2 : Int32) [(.int (p2 &&& (255 : Int32))), (.int (p3 &&& (255 : Int32)))] (.int (0 : Int32)) := by
      have q := Arv.set Ar6 q6 S6 M6 H6 G6 (fits_nar_char _) W6 1 rfl (Nat.le_of_ble_eq_true rfl)
      rw [own_nar255] at q
      exact q
    have N6 := Fr.snoc X6 N5 g_b3
    refine own_step st6 ?_
    show own_Go _ _ _ _ T6 (mkF mm_ 45 #[.val (.int p1), .val (.int p2), .val (.int p3), .val (.int (0 : Int32)), .val (.int (p2 &&& (255 : Int32))), .val (.int (p3 &&& (255 : Int32))), .unset, .unset, .unset, .unset] [(.ref b3), (.ref b2), (.ref b2)])
    have hp8 : ∀ ch_ ∈ ([(p2 &&& (255 : Int32)), (p3 &&& (255 : Int32))] : List Int32), ¬ ch_ < 0 ∧ ¬ (255 : Int32) < ch_ := by
      intro ch_ hc
      simp only [List.mem_cons, List.not_mem_nil, or_false] at hc
      rcases hc with rfl | rfl
      · exact own_and255 _
      · exact own_and255 _
    have f9 : Exa Z h6 b2 "java/lang/String" := (((A2.ext E3).wr W5).wr W6)
    have f10 : Fld Z h6 b2 "java/lang/String" "value" "[B" .null := (((F2_value.ext E3).other W5 (Or.inl (Nat.ne_of_lt (Nat.lt_of_lt_of_le A2.lt (Nat.le_of_eq q3.symm))))).other W6 (Or.inl (Nat.ne_of_lt (Nat.lt_of_lt_of_le A2.lt (Nat.le_of_eq q3.symm)))))
    have f11 : Fld Z h6 b2 "java/lang/String" "coder" "B" (.int (0 : Int32)) := (((F2_coder.ext E3).other W5 (Or.inl (Nat.ne_of_lt (Nat.lt_of_lt_of_le A2.lt (Nat.le_of_eq q3.symm))))).other W6 (Or.inl (Nat.ne_of_lt (Nat.lt_of_lt_of_le A2.lt (Nat.le_of_eq q3.symm)))))
    have O12 : Old Z n0 h6 := ((((O0.ext E2).ext E3).wr W5 g_b3).wr W6 g_b3)
    have K13 : Keep h0 h6 [] := (((K4.ext E3).wr W5 (Or.inr lo_b3)).wr W6 (Or.inr lo_b3))
    obtain ⟨_, T7, Lc7, X7, hQ7, st7⟩ := own_cI X6 hx hZ rfl hown (own_w hw 4 rfl) (own_w hw 5 rfl) (own_w hw 6 rfl) (by decide) (own_newS (W := 1) hZ hw (cs := [(p2 &&& (255 : Int32)), (p3 &&& (255 : Int32))]) (n := 2) g_b2 (Nat.le_trans Z0 K13.1) f9 f10 f11 V6 (G_cs.ext O12.2) G_cs0 rfl rfl rfl (by decide) (by decide) hp8 (by decide) (by decide)) (g := (mkF mm_ 45 #[.val (.int p1), .val (.int p2), .val (.int p3), .val (.int (0 : Int32)), .val (.int (p2 &&& (255 : Int32))), .val (.int (p3 &&& (255 : Int32))), .unset, .unset, .unset, .unset] [(.ref b3), (.ref b2), (.ref b2)])) rfl (by rw [hml]; rfl) (a := b2) (argsL := [(.ref b3)]) (rest := [(.ref b2)]) (lenOf pd_2 rfl) rfl (by show 2 * 0 + _ ≤ _; exact Nat.le_of_eq rfl) (hb hby at_45) rfl e6 (by decide) (by decide)
    obtain ⟨t7, rfl, Nq7, Kc7, lo7, Fs7⟩ := hQ7
    have N7 := Fr.app N6 Nq7
    have lo_t7 : h0.size ≤ t7 := Nat.le_trans K13.1 lo7
    have g_t7 : n0 ≤ t7 := Nat.le_trans Z0 lo_t7
    refine own_jump st7 ?_
    show own_Go _ _ _ _ T7 (mkF mm_ 48 #[.val (.int p1), .val (.int p2), .val (.int p3), .val (.int (0 : Int32)), .val (.int (p2 &&& (255 : Int32))), .val (.int (p3 &&& (255 : Int32))), .unset, .unset, .unset, .unset] [(.ref b2)])
    refine own_step (fun t_ k_ => XS.astore X7.here hx rfl (hb hby at_48) rfl rfl (l' := #[.val (.int p1), .val (.int p2), .val (.int p3), .val (.int (0 : Int32)), .val (.int (p2 &&& (255 : Int32))), .val (.int (p3 &&& (255 : Int32))), .val (.ref b2), .unset, .unset, .unset]) rfl (XS.aload X7.here hx rfl (hb hby at_50) rfl rfl k_)) ?_
    show own_Go _ _ _ _ T7 (mkF mm_ 52 #[.val (.int p1), .val (.int p2), .val (.int p3), .val (.int (0 : Int32)), .val (.int (p2 &&& (255 : Int32))), .val (.int (p3 &&& (255 : Int32))), .val (.ref b2), .unset, .unset, .unset] [(.ref b2)])
    obtain ⟨a14, T14, h14, k14, t14, kb14, X14, e14, E14, hS14, hk14, hZ14, hown14, Ex14, Fc14, Fv14, V14, -, -, I14, L14, st14⟩ := ldcSVL (s := ss_) (vm0 := ss_.vm) X7 hx hZ hown (own_w hw 30 rfl) own_atoms_ rfl hS0 (Nat.le_trans (Nat.le_trans (Nat.le_trans (Nat.le_trans (Nat.le_trans (Nat.zero_le _) E2.1) E3.1) (Keep.of_wr W5).1) (Keep.of_wr W6).1) Kc7.1) (by rw [hh, hn0]; exact N7) hkeep_ hI (by first | assumption | decide) (G_h_com_example_clearwrit_clearwrit_SideOfUtiCodePinLaw_12) own_cw_ (vs := [(.int (66 : Int32)), (.int (85 : Int32))]) (z := (2 : Int32)) ⟨by decide, rfl⟩ (by decide) (by decide) (g := (mkF mm_ 52 #[.val (.int p1), .val (.int p2), .val (.int p3), .val (.int (0 : Int32)), .val (.int (p2 &&& (255 : Int32))), .val (.int (p3 &&& (255 : Int32))), .val (.ref b2), .unset, .unset, .unset] [(.ref b2)])) rfl (hb hby at_52) (n := 8) (by decide) (by decide) (by decide) (by decide)
    have Ls14 : own_Str Z h14 a14 t14 [(66 : Int32), (85 : Int32)] := ⟨Ex14, Fc14, Fv14, ⟨kb14, V14⟩, by decide, by decide⟩
    refine own_step st14 ?_
    show own_Go _ _ _ _ T14 (mkF mm_ 54 #[.val (.int p1), .val (.int p2), .val (.int p3), .val (.int (0 : Int32)), .val (.int (p2 &&& (255 : Int32))), .val (.int (p3 &&& (255 : Int32))), .val (.ref b2), .unset, .unset, .unset] [(.ref a14), (.ref b2)])
    have f16 : own_Str Z h14 b2 t7 [(p2 &&& (255 : Int32)), (p3 &&& (255 : Int32))] := (Fs7.ext E14)
    have O17 : Old Z n0 h14 := ((O12.keep Kc7 (allS g_b2 all0)).ext E14)
    have f18 : Exa Z h14 b2 "java/lang/String" := ((f9.keep Kc7).ext E14)
    obtain ⟨_, T15, Lc15, X15, hQ15, st15⟩ := own_cV X14 hx hZ14 hown14 (own_w hw 33 rfl) (own_w hw 34 rfl) (notFace_of_selects (args := #[]) (mvT hZ14 (own_w hw 36 rfl))) (own_w hw 36 rfl) (own_w hw 35 rfl) (by decide) (own_eqS (W := 0) hZ14 hw f16 Ls14 (G_cs.ext O17.2) G_cs0 (by decide) (by decide)) f18 (g := (mkF mm_ 54 #[.val (.int p1), .val (.int p2), .val (.int p3), .val (.int (0 : Int32)), .val (.int (p2 &&& (255 : Int32))), .val (.int (p3 &&& (255 : Int32))), .val (.ref b2), .unset, .unset, .unset] [(.ref a14), (.ref b2)])) rfl (by rw [hml]; rfl) (argsL := [(.ref a14)]) (rest := []) (lenOf pd_1 rfl) rfl (by show 2 * 0 + _ ≤ _; exact Nat.le_of_eq rfl) (hb hby at_54) rfl e14 (by decide) (by decide)
    obtain ⟨⟨rfl, hq15⟩ | ⟨rfl, hq15⟩, rfl, Eh15⟩ := hQ15
    · skip
      have N15 := Fr.app N7 (Fr.nil n0)
      refine own_jump st15 ?_
      refine own_step (fun t_ k_ => XS.ifNo X15.here hx rfl (hb hby at_57) rfl ((if0 _ _).trans (feq (by decide : ¬ ((1 : Int32) = (0 : Int32)))).1) k_) ?_
      show own_Go _ _ _ _ T15 (mkF mm_ 60 #[.val (.int p1), .val (.int p2), .val (.int p3), .val (.int (0 : Int32)), .val (.int (p2 &&& (255 : Int32))), .val (.int (p3 &&& (255 : Int32))), .val (.ref b2), .unset, .unset, .unset] [])
      refine own_step (fun t_ k_ => XS.aload X15.here hx rfl (hb hby at_60) rfl rfl (XS.astore X15.here hx rfl (hb hby at_62) rfl rfl (l' := #[.val (.int p1), .val (.int p2), .val (.int p3), .val (.int (0 : Int32)), .val (.int (p2 &&& (255 : Int32))), .val (.int (p3 &&& (255 : Int32))), .val (.ref b2), .val (.ref b2), .unset, .unset]) rfl k_)) ?_
      show own_Go _ _ _ _ T15 (mkF mm_ 64 #[.val (.int p1), .val (.int p2), .val (.int p3), .val (.int (0 : Int32)), .val (.int (p2 &&& (255 : Int32))), .val (.int (p3 &&& (255 : Int32))), .val (.ref b2), .val (.ref b2), .unset, .unset] [])
      obtain ⟨T19, X19, e19, st19⟩ := getS2 X15 hx hZ14 hown14 (host := "") (Or.inl (own_w hw 44 rfl)) Via.refl Eh15 (G_S1.ext O17.2) (g := (mkF mm_ 64 #[.val (.int p1), .val (.int p2), .val (.int p3), .val (.int (0 : Int32)), .val (.int (p2 &&& (255 : Int32))), .val (.int (p3 &&& (255 : Int32))), .val (.ref b2), .val (.ref b2), .unset, .unset] [])) rfl (hb hby at_64)
      refine own_step st19 ?_
      show own_Go _ _ _ _ T19 (mkF mm_ 67 #[.val (.int p1), .val (.int p2), .val (.int p3), .val (.int (0 : Int32)), .val (.int (p2 &&& (255 : Int32))), .val (.int (p3 &&& (255 : Int32))), .val (.ref b2), .val (.ref b2), .unset, .unset] [(.ref w_0)])
      refine own_step (fun t_ k_ => XS.astore X19.here hx rfl (hb hby at_67) rfl rfl (l' := #[.val (.int p1), .val (.int p2), .val (.int p3), .val (.int (0 : Int32)), .val (.int (p2 &&& (255 : Int32))), .val (.int (p3 &&& (255 : Int32))), .val (.ref b2), .val (.ref b2), .val (.ref w_0), .unset]) rfl (XS.goto X19.here hx rfl (pc0 := 69) (pc' := 155) rfl (hb hby at_69) (by decide) (by decide) (XS.aload X19.here hx rfl (hb hby at_155) rfl rfl k_))) ?_
      show own_Go _ _ _ _ T19 (mkF mm_ 157 #[.val (.int p1), .val (.int p2), .val (.int p3), .val (.int (0 : Int32)), .val (.int (p2 &&& (255 : Int32))), .val (.int (p3 &&& (255 : Int32))), .val (.ref b2), .val (.ref b2), .val (.ref w_0), .unset] [(.ref b2)])
      obtain ⟨_, T20, Lc20, X20, hQ20, st20⟩ := own_cS X19 hx hZ14 hown14 (own_w hw 47 rfl) (own_w hw 48 rfl) (own_w hw 45 rfl) (own_w hw 49 rfl) (by decide) (backOf (W := 0) (rmO0 l Z a0 hw [] b2 t7 h14 n0 O17 G_ (f16.cast hq15)) hZ14 (own_w hw 49 rfl) (own_w hw 45 rfl) (by decide) (by decide)) (g := (mkF mm_ 157 #[.val (.int p1), .val (.int p2), .val (.int p3), .val (.int (0 : Int32)), .val (.int (p2 &&& (255 : Int32))), .val (.int (p3 &&& (255 : Int32))), .val (.ref b2), .val (.ref b2), .val (.ref w_0), .unset] [(.ref b2)])) rfl (by rw [hml]; rfl) (argsL := [(.ref b2)]) (rest := []) (lenOf pd_3 rfl) rfl (by show 2 * 0 + _ ≤ _; exact Nat.le_of_eq rfl) (hb hby at_157) rfl e19 (by decide) (by decide)
      obtain ⟨rfl, Nq20, Kc20⟩ := hQ20
      have N20 := Fr.app N15 Nq20
      refine own_jump st20 ?_
      show own_Go _ _ _ _ T20 (mkF mm_ 160 #[.val (.int p1), .val (.int p2), .val (.int p3), .val (.int (0 : Int32)), .val (.int (p2 &&& (255 : Int32))), .val (.int (p3 &&& (255 : Int32))), .val (.ref b2), .val (.ref b2), .val (.ref w_0), .unset] [(.ref w_0)])
      refine own_step (fun t_ k_ => XS.astore X20.here hx rfl (hb hby at_160) rfl rfl (l' := #[.val (.int p1), .val (.int p2), .val (.int p3), .val (.int (0 : Int32)), .val (.int (p2 &&& (255 : Int32))), .val (.int (p3 &&& (255 : Int32))), .val (.ref b2), .val (.ref b2), .val (.ref w_0), .val (.ref w_0)]) rfl (XS.aload X20.here hx rfl (hb hby at_162) rfl rfl (XS.aload X20.here hx rfl (hb hby at_164) rfl rfl k_))) ?_
      show own_Go _ _ _ _ T20 (mkF mm_ 166 #[.val (.int p1), .val (.int p2), .val (.int p3), .val (.int (0 : Int32)), .val (.int (p2 &&& (255 : Int32))), .val (.int (p3 &&& (255 : Int32))), .val (.ref b2), .val (.ref b2), .val (.ref w_0), .val (.ref w_0)] [(.ref w_0), (.ref w_0)])
      refine own_step (fun t_ k_ => Jvm.RoadKit.acmp (g := (mkF mm_ 166 #[.val (.int p1), .val (.int p2), .val (.int p3), .val (.int (0 : Int32)), .val (.int (p2 &&& (255 : Int32))), .val (.int (p3 &&& (255 : Int32))), .val (.ref b2), .val (.ref b2), .val (.ref w_0), .val (.ref w_0)] [(.ref w_0), (.ref w_0)])) X20 hx rfl rfl rfl (pc0 := 166) (pc' := 169) (same := true) rfl (hb hby at_166) rfl (decide_eq_true rfl) (by decide) (by decide) (XS.aload X20.here hx rfl (hb hby at_169) rfl rfl k_)) ?_
      show own_Go _ _ _ _ T20 (mkF mm_ 171 #[.val (.int p1), .val (.int p2), .val (.int p3), .val (.int (0 : Int32)), .val (.int (p2 &&& (255 : Int32))), .val (.int (p3 &&& (255 : Int32))), .val (.ref b2), .val (.ref b2), .val (.ref w_0), .val (.ref w_0)] [(.ref w_0)])
      have O22 : Old Z n0 T20.heap := (O17.keep Kc20 all0)
      obtain ⟨_, T21, Lc21, X21, hQ21, st21⟩ := own_cV X20 hx hZ14 hown14 (own_w hw 69 rfl) (own_w hw 70 rfl) (notFace_of_selects (args := #[]) (mvT hZ14 (own_w hw 72 rfl))) (own_w hw 72 rfl) (own_w hw 71 rfl) (by decide) (backOf (W := 0) (rmG l Z a0 hw [] w_0 s_0 T20.heap n0 O22 (G_F8.ext O22.2)) hZ14 (own_w hw 73 rfl) (own_w hw 45 rfl) (by decide) (by decide)) (G_E4.ext O22.2) (g := (mkF mm_ 171 #[.val (.int p1), .val (.int p2), .val (.int p3), .val (.int (0 : Int32)), .val (.int (p2 &&& (255 : Int32))), .val (.int (p3 &&& (255 : Int32))), .val (.ref b2), .val (.ref b2), .val (.ref w_0), .val (.ref w_0)] [(.ref w_0)])) rfl (by rw [hml]; rfl) (argsL := []) (rest := []) (lenOf pd_4 rfl) rfl (by show 2 * 0 + _ ≤ _; exact Nat.le_of_eq rfl) (hb hby at_171) rfl rfl (by decide) (by decide)
      obtain ⟨rfl, rfl, Eh21⟩ := hQ21
      have N21 := Fr.app N20 (Fr.nil n0)
      refine own_jump st21 ?_
      show own_Go _ _ _ _ T21 (mkF mm_ 174 #[.val (.int p1), .val (.int p2), .val (.int p3), .val (.int (0 : Int32)), .val (.int (p2 &&& (255 : Int32))), .val (.int (p3 &&& (255 : Int32))), .val (.ref b2), .val (.ref b2), .val (.ref w_0), .val (.ref w_0)] [(.ref s_0)])
      refine own_step (fun t_ k_ => XS.aload X21.here hx rfl (hb hby at_174) rfl rfl k_) ?_
      show own_Go _ _ _ _ T21 (mkF mm_ 176 #[.val (.int p1), .val (.int p2), .val (.int p3), .val (.int (0 : Int32)), .val (.int (p2 &&& (255 : Int32))), .val (.int (p3 &&& (255 : Int32))), .val (.ref b2), .val (.ref b2), .val (.ref w_0), .val (.ref w_0)] [(.ref b2), (.ref s_0)])
      have f24 : own_Str Z T20.heap b2 t7 [(66 : Int32), (85 : Int32)] := ((f16.cast hq15).keep Kc20 nin0 nin0)
      obtain ⟨_, T23, Lc23, X23, hQ23, st23⟩ := own_cV X21 hx hZ14 hown14 (own_w hw 33 rfl) (own_w hw 34 rfl) (notFace_of_selects (args := #[]) (mvT hZ14 (own_w hw 36 rfl))) (own_w hw 36 rfl) (own_w hw 35 rfl) (by decide) (own_eqS (W := 0) hZ14 hw (G_T9.ext O22.2) f24 (G_cs.ext O22.2) G_cs0 (by decide) (by decide)) (G_T9.ext O22.2).1 (g := (mkF mm_ 176 #[.val (.int p1), .val (.int p2), .val (.int p3), .val (.int (0 : Int32)), .val (.int (p2 &&& (255 : Int32))), .val (.int (p3 &&& (255 : Int32))), .val (.ref b2), .val (.ref b2), .val (.ref w_0), .val (.ref w_0)] [(.ref b2), (.ref s_0)])) rfl (by rw [hml]; rfl) (argsL := [(.ref b2)]) (rest := []) (lenOf pd_1 rfl) rfl (by show 2 * 0 + _ ≤ _; exact Nat.le_of_eq rfl) (hb hby at_176) rfl Eh21 (by decide) (by decide)
      obtain ⟨⟨rfl, -⟩ | ⟨-, hq23⟩, rfl, Eh23⟩ := hQ23
      rotate_left
      · exact absurd rfl hq23
      have N23 := Fr.app N21 (Fr.nil n0)
      refine own_jump st23 ?_
      show own_Go _ _ _ _ T23 (mkF mm_ 179 #[.val (.int p1), .val (.int p2), .val (.int p3), .val (.int (0 : Int32)), .val (.int (p2 &&& (255 : Int32))), .val (.int (p3 &&& (255 : Int32))), .val (.ref b2), .val (.ref b2), .val (.ref w_0), .val (.ref w_0)] [(.int (1 : Int32))])
      refine own_step (fun t_ k_ => XS.ifNo X23.here hx rfl (hb hby at_179) rfl ((if0 _ _).trans (feq (by decide : ¬ ((1 : Int32) = (0 : Int32)))).1) k_) ?_
      show own_Go _ _ _ _ T23 (mkF mm_ 182 #[.val (.int p1), .val (.int p2), .val (.int p3), .val (.int (0 : Int32)), .val (.int (p2 &&& (255 : Int32))), .val (.int (p3 &&& (255 : Int32))), .val (.ref b2), .val (.ref b2), .val (.ref w_0), .val (.ref w_0)] [])
      refine own_step (fun t_ k_ => XS.iconst X23.here hx rfl (hb hby at_182) (XS.goto X23.here hx rfl (pc0 := 183) (pc' := 187) rfl (hb hby at_183) (by decide) (by decide) k_)) ?_
      show own_Go _ _ _ _ T23 (mkF mm_ 187 #[.val (.int p1), .val (.int p2), .val (.int p3), .val (.int (0 : Int32)), .val (.int (p2 &&& (255 : Int32))), .val (.int (p3 &&& (255 : Int32))), .val (.ref b2), .val (.ref b2), .val (.ref w_0), .val (.ref w_0)] [(.int (1 : Int32))])
      have K25 : Keep h0 T20.heap [] := (((K13.trans Kc7 (allS (Or.inr lo_b2) all0)).ext E14).trans Kc20 all0)
      obtain ⟨fs, hr, hrun, hended, hEnd⟩ := X23.leaveW hS14 (by rw [Eh23]; exact (Nat.le_trans hk14 Kc20.1)) (v := some (.int (1 : Int32))) (fun h => by rw [Bd.returns] at h; cases h)
      refine ⟨_, _, ?_, hrun, hended, _, _, rfl, ?_, own_IB_mono (own_IB_warm I14 X23.warmed) (by intro t_ h_; first | exact h_ | exact List.mem_cons_of_mem _ h_ | (revert t_ h_; decide)), own_endMono hEnd (by decide) (by decide)⟩
      · exact retN X23 hx (t := .boolean) Bd.returns (by simp) (hb hby at_187) hr
      · show Qrm0 Z p1 p2 p3 h0 n0 (some (.int (1 : Int32))) T23.heap _
        rw [Eh23]
        exact ⟨rfl, N23, K25⟩
    · skip
      have N15 := Fr.app N7 (Fr.nil n0)
      refine own_jump st15 ?_
      refine own_step (fun t_ k_ => XS.ifYes X15.here hx rfl (pc0 := 57) (pc' := 72) rfl (hb hby at_57) rfl ((if0 _ _).trans (teq (by decide : (0 : Int32) = (0 : Int32))).1) (by decide) (by decide) k_) ?_
      show own_Go _ _ _ _ T15 (mkF mm_ 72 #[.val (.int p1), .val (.int p2), .val (.int p3), .val (.int (0 : Int32)), .val (.int (p2 &&& (255 : Int32))), .val (.int (p3 &&& (255 : Int32))), .val (.ref b2), .unset, .unset, .unset] [])
      refine own_step (fun t_ k_ => XS.aload X15.here hx rfl (hb hby at_72) rfl rfl k_) ?_
      show own_Go _ _ _ _ T15 (mkF mm_ 74 #[.val (.int p1), .val (.int p2), .val (.int p3), .val (.int (0 : Int32)), .val (.int (p2 &&& (255 : Int32))), .val (.int (p3 &&& (255 : Int32))), .val (.ref b2), .unset, .unset, .unset] [(.ref b2)])
      obtain ⟨a26, T26, h26, k26, t26, kb26, X26, e26, E26, hS26, hk26, hZ26, hown26, Ex26, Fc26, Fv26, V26, -, -, I26, L26, st26⟩ := ldcSVL (s := ss_) (vm0 := T14.vm) X15 hx hZ14 hown14 (own_w hw 43 rfl) own_atoms_ Eh15 hS14 hk14 (by rw [hh, hn0]; exact N15) hkeep_ I14 (by first | assumption | decide) (G_h_com_example_clearwrit_clearwrit_SideOfUtiCodePinLaw_24) own_cw_ (vs := [(.int (83 : Int32)), (.int (69 : Int32))]) (z := (2 : Int32)) ⟨by decide, rfl⟩ (by decide) (by decide) (g := (mkF mm_ 74 #[.val (.int p1), .val (.int p2), .val (.int p3), .val (.int (0 : Int32)), .val (.int (p2 &&& (255 : Int32))), .val (.int (p3 &&& (255 : Int32))), .val (.ref b2), .unset, .unset, .unset] [(.ref b2)])) rfl (hb hby at_74) (n := 8) (by decide) (by decide) (by decide) (by decide)
      have Ls26 : own_Str Z h26 a26 t26 [(83 : Int32), (69 : Int32)] := ⟨Ex26, Fc26, Fv26, ⟨kb26, V26⟩, by decide, by decide⟩
      refine own_step st26 ?_
      show own_Go _ _ _ _ T26 (mkF mm_ 76 #[.val (.int p1), .val (.int p2), .val (.int p3), .val (.int (0 : Int32)), .val (.int (p2 &&& (255 : Int32))), .val (.int (p3 &&& (255 : Int32))), .val (.ref b2), .unset, .unset, .unset] [(.ref a26), (.ref b2)])
      have f28 : own_Str Z h26 b2 t7 [(p2 &&& (255 : Int32)), (p3 &&& (255 : Int32))] := (f16.ext E26)
      have O29 : Old Z n0 h26 := (O17.ext E26)
      have f30 : Exa Z h26 b2 "java/lang/String" := (f18.ext E26)
      obtain ⟨_, T27, Lc27, X27, hQ27, st27⟩ := own_cV X26 hx hZ26 hown26 (own_w hw 33 rfl) (own_w hw 34 rfl) (notFace_of_selects (args := #[]) (mvT hZ26 (own_w hw 36 rfl))) (own_w hw 36 rfl) (own_w hw 35 rfl) (by decide) (own_eqS (W := 0) hZ26 hw f28 Ls26 (G_cs.ext O29.2) G_cs0 (by decide) (by decide)) f30 (g := (mkF mm_ 76 #[.val (.int p1), .val (.int p2), .val (.int p3), .val (.int (0 : Int32)), .val (.int (p2 &&& (255 : Int32))), .val (.int (p3 &&& (255 : Int32))), .val (.ref b2), .unset, .unset, .unset] [(.ref a26), (.ref b2)])) rfl (by rw [hml]; rfl) (argsL := [(.ref a26)]) (rest := []) (lenOf pd_1 rfl) rfl (by show 2 * 0 + _ ≤ _; exact Nat.le_of_eq rfl) (hb hby at_76) rfl e26 (by decide) (by decide)
      obtain ⟨⟨rfl, hq27⟩ | ⟨rfl, hq27⟩, rfl, Eh27⟩ := hQ27
      · skip
        have N27 := Fr.app N15 (Fr.nil n0)
        refine own_jump st27 ?_
        refine own_step (fun t_ k_ => XS.ifNo X27.here hx rfl (hb hby at_79) rfl ((if0 _ _).trans (feq (by decide : ¬ ((1 : Int32) = (0 : Int32)))).1) k_) ?_
        show own_Go _ _ _ _ T27 (mkF mm_ 82 #[.val (.int p1), .val (.int p2), .val (.int p3), .val (.int (0 : Int32)), .val (.int (p2 &&& (255 : Int32))), .val (.int (p3 &&& (255 : Int32))), .val (.ref b2), .unset, .unset, .unset] [])
        refine own_step (fun t_ k_ => XS.aload X27.here hx rfl (hb hby at_82) rfl rfl (XS.astore X27.here hx rfl (hb hby at_84) rfl rfl (l' := #[.val (.int p1), .val (.int p2), .val (.int p3), .val (.int (0 : Int32)), .val (.int (p2 &&& (255 : Int32))), .val (.int (p3 &&& (255 : Int32))), .val (.ref b2), .val (.ref b2), .unset, .unset]) rfl k_)) ?_
        show own_Go _ _ _ _ T27 (mkF mm_ 86 #[.val (.int p1), .val (.int p2), .val (.int p3), .val (.int (0 : Int32)), .val (.int (p2 &&& (255 : Int32))), .val (.int (p3 &&& (255 : Int32))), .val (.ref b2), .val (.ref b2), .unset, .unset] [])
        obtain ⟨T31, X31, e31, st31⟩ := getS2 X27 hx hZ26 hown26 (host := "") (Or.inl (own_w hw 74 rfl)) Via.refl Eh27 (G_S2.ext O29.2) (g := (mkF mm_ 86 #[.val (.int p1), .val (.int p2), .val (.int p3), .val (.int (0 : Int32)), .val (.int (p2 &&& (255 : Int32))), .val (.int (p3 &&& (255 : Int32))), .val (.ref b2), .val (.ref b2), .unset, .unset] [])) rfl (hb hby at_86)
        refine own_step st31 ?_
        show own_Go _ _ _ _ T31 (mkF mm_ 89 #[.val (.int p1), .val (.int p2), .val (.int p3), .val (.int (0 : Int32)), .val (.int (p2 &&& (255 : Int32))), .val (.int (p3 &&& (255 : Int32))), .val (.ref b2), .val (.ref b2), .unset, .unset] [(.ref w_1)])
        refine own_step (fun t_ k_ => XS.astore X31.here hx rfl (hb hby at_89) rfl rfl (l' := #[.val (.int p1), .val (.int p2), .val (.int p3), .val (.int (0 : Int32)), .val (.int (p2 &&& (255 : Int32))), .val (.int (p3 &&& (255 : Int32))), .val (.ref b2), .val (.ref b2), .val (.ref w_1), .unset]) rfl (XS.goto X31.here hx rfl (pc0 := 91) (pc' := 155) rfl (hb hby at_91) (by decide) (by decide) (XS.aload X31.here hx rfl (hb hby at_155) rfl rfl k_))) ?_
        show own_Go _ _ _ _ T31 (mkF mm_ 157 #[.val (.int p1), .val (.int p2), .val (.int p3), .val (.int (0 : Int32)), .val (.int (p2 &&& (255 : Int32))), .val (.int (p3 &&& (255 : Int32))), .val (.ref b2), .val (.ref b2), .val (.ref w_1), .unset] [(.ref b2)])
        obtain ⟨_, T32, Lc32, X32, hQ32, st32⟩ := own_cS X31 hx hZ26 hown26 (own_w hw 47 rfl) (own_w hw 48 rfl) (own_w hw 45 rfl) (own_w hw 49 rfl) (by decide) (backOf (W := 0) (rmO1 l Z a0 hw [] b2 t7 h26 n0 O29 G_ (f28.cast hq27)) hZ26 (own_w hw 49 rfl) (own_w hw 45 rfl) (by decide) (by decide)) (g := (mkF mm_ 157 #[.val (.int p1), .val (.int p2), .val (.int p3), .val (.int (0 : Int32)), .val (.int (p2 &&& (255 : Int32))), .val (.int (p3 &&& (255 : Int32))), .val (.ref b2), .val (.ref b2), .val (.ref w_1), .unset] [(.ref b2)])) rfl (by rw [hml]; rfl) (argsL := [(.ref b2)]) (rest := []) (lenOf pd_3 rfl) rfl (by show 2 * 0 + _ ≤ _; exact Nat.le_of_eq rfl) (hb hby at_157) rfl e31 (by decide) (by decide)
        obtain ⟨rfl, Nq32, Kc32⟩ := hQ32
        have N32 := Fr.app N27 Nq32
        refine own_jump st32 ?_
        show own_Go _ _ _ _ T32 (mkF mm_ 160 #[.val (.int p1), .val (.int p2), .val (.int p3), .val (.int (0 : Int32)), .val (.int (p2 &&& (255 : Int32))), .val (.int (p3 &&& (255 : Int32))), .val (.ref b2), .val (.ref b2), .val (.ref w_1), .unset] [(.ref w_1)])
        refine own_step (fun t_ k_ => XS.astore X32.here hx rfl (hb hby at_160) rfl rfl (l' := #[.val (.int p1), .val (.int p2), .val (.int p3), .val (.int (0 : Int32)), .val (.int (p2 &&& (255 : Int32))), .val (.int (p3 &&& (255 : Int32))), .val (.ref b2), .val (.ref b2), .val (.ref w_1), .val (.ref w_1)]) rfl (XS.aload X32.here hx rfl (hb hby at_162) rfl rfl (XS.aload X32.here hx rfl (hb hby at_164) rfl rfl k_))) ?_
        show own_Go _ _ _ _ T32 (mkF mm_ 166 #[.val (.int p1), .val (.int p2), .val (.int p3), .val (.int (0 : Int32)), .val (.int (p2 &&& (255 : Int32))), .val (.int (p3 &&& (255 : Int32))), .val (.ref b2), .val (.ref b2), .val (.ref w_1), .val (.ref w_1)] [(.ref w_1), (.ref w_1)])
        refine own_step (fun t_ k_ => Jvm.RoadKit.acmp (g := (mkF mm_ 166 #[.val (.int p1), .val (.int p2), .val (.int p3), .val (.int (0 : Int32)), .val (.int (p2 &&& (255 : Int32))), .val (.int (p3 &&& (255 : Int32))), .val (.ref b2), .val (.ref b2), .val (.ref w_1), .val (.ref w_1)] [(.ref w_1), (.ref w_1)])) X32 hx rfl rfl rfl (pc0 := 166) (pc' := 169) (same := true) rfl (hb hby at_166) rfl (decide_eq_true rfl) (by decide) (by decide) (XS.aload X32.here hx rfl (hb hby at_169) rfl rfl k_)) ?_
        show own_Go _ _ _ _ T32 (mkF mm_ 171 #[.val (.int p1), .val (.int p2), .val (.int p3), .val (.int (0 : Int32)), .val (.int (p2 &&& (255 : Int32))), .val (.int (p3 &&& (255 : Int32))), .val (.ref b2), .val (.ref b2), .val (.ref w_1), .val (.ref w_1)] [(.ref w_1)])
        have O34 : Old Z n0 T32.heap := (O29.keep Kc32 all0)
        obtain ⟨_, T33, Lc33, X33, hQ33, st33⟩ := own_cV X32 hx hZ26 hown26 (own_w hw 69 rfl) (own_w hw 70 rfl) (notFace_of_selects (args := #[]) (mvT hZ26 (own_w hw 72 rfl))) (own_w hw 72 rfl) (own_w hw 71 rfl) (by decide) (backOf (W := 0) (rmG l Z a0 hw [] w_1 s_1 T32.heap n0 O34 (G_F13.ext O34.2)) hZ26 (own_w hw 73 rfl) (own_w hw 45 rfl) (by decide) (by decide)) (G_E5.ext O34.2) (g := (mkF mm_ 171 #[.val (.int p1), .val (.int p2), .val (.int p3), .val (.int (0 : Int32)), .val (.int (p2 &&& (255 : Int32))), .val (.int (p3 &&& (255 : Int32))), .val (.ref b2), .val (.ref b2), .val (.ref w_1), .val (.ref w_1)] [(.ref w_1)])) rfl (by rw [hml]; rfl) (argsL := []) (rest := []) (lenOf pd_4 rfl) rfl (by show 2 * 0 + _ ≤ _; exact Nat.le_of_eq rfl) (hb hby at_171) rfl rfl (by decide) (by decide)
        obtain ⟨rfl, rfl, Eh33⟩ := hQ33
        have N33 := Fr.app N32 (Fr.nil n0)
        refine own_jump st33 ?_
        show own_Go _ _ _ _ T33 (mkF mm_ 174 #[.val (.int p1), .val (.int p2), .val (.int p3), .val (.int (0 : Int32)), .val (.int (p2 &&& (255 : Int32))), .val (.int (p3 &&& (255 : Int32))), .val (.ref b2), .val (.ref b2), .val (.ref w_1), .val (.ref w_1)] [(.ref s_1)])
        refine own_step (fun t_ k_ => XS.aload X33.here hx rfl (hb hby at_174) rfl rfl k_) ?_
        show own_Go _ _ _ _ T33 (mkF mm_ 176 #[.val (.int p1), .val (.int p2), .val (.int p3), .val (.int (0 : Int32)), .val (.int (p2 &&& (255 : Int32))), .val (.int (p3 &&& (255 : Int32))), .val (.ref b2), .val (.ref b2), .val (.ref w_1), .val (.ref w_1)] [(.ref b2), (.ref s_1)])
        have f36 : own_Str Z T32.heap b2 t7 [(83 : Int32), (69 : Int32)] := ((f28.cast hq27).keep Kc32 nin0 nin0)
        obtain ⟨_, T35, Lc35, X35, hQ35, st35⟩ := own_cV X33 hx hZ26 hown26 (own_w hw 33 rfl) (own_w hw 34 rfl) (notFace_of_selects (args := #[]) (mvT hZ26 (own_w hw 36 rfl))) (own_w hw 36 rfl) (own_w hw 35 rfl) (by decide) (own_eqS (W := 0) hZ26 hw (G_T14.ext O34.2) f36 (G_cs.ext O34.2) G_cs0 (by decide) (by decide)) (G_T14.ext O34.2).1 (g := (mkF mm_ 176 #[.val (.int p1), .val (.int p2), .val (.int p3), .val (.int (0 : Int32)), .val (.int (p2 &&& (255 : Int32))), .val (.int (p3 &&& (255 : Int32))), .val (.ref b2), .val (.ref b2), .val (.ref w_1), .val (.ref w_1)] [(.ref b2), (.ref s_1)])) rfl (by rw [hml]; rfl) (argsL := [(.ref b2)]) (rest := []) (lenOf pd_1 rfl) rfl (by show 2 * 0 + _ ≤ _; exact Nat.le_of_eq rfl) (hb hby at_176) rfl Eh33 (by decide) (by decide)
        obtain ⟨⟨rfl, -⟩ | ⟨-, hq35⟩, rfl, Eh35⟩ := hQ35
        rotate_left
        · exact absurd rfl hq35
        have N35 := Fr.app N33 (Fr.nil n0)
        refine own_jump st35 ?_
        show own_Go _ _ _ _ T35 (mkF mm_ 179 #[.val (.int p1), .val (.int p2), .val (.int p3), .val (.int (0 : Int32)), .val (.int (p2 &&& (255 : Int32))), .val (.int (p3 &&& (255 : Int32))), .val (.ref b2), .val (.ref b2), .val (.ref w_1), .val (.ref w_1)] [(.int (1 : Int32))])
        refine own_step (fun t_ k_ => XS.ifNo X35.here hx rfl (hb hby at_179) rfl ((if0 _ _).trans (feq (by decide : ¬ ((1 : Int32) = (0 : Int32)))).1) k_) ?_
        show own_Go _ _ _ _ T35 (mkF mm_ 182 #[.val (.int p1), .val (.int p2), .val (.int p3), .val (.int (0 : Int32)), .val (.int (p2 &&& (255 : Int32))), .val (.int (p3 &&& (255 : Int32))), .val (.ref b2), .val (.ref b2), .val (.ref w_1), .val (.ref w_1)] [])
        refine own_step (fun t_ k_ => XS.iconst X35.here hx rfl (hb hby at_182) (XS.goto X35.here hx rfl (pc0 := 183) (pc' := 187) rfl (hb hby at_183) (by decide) (by decide) k_)) ?_
        show own_Go _ _ _ _ T35 (mkF mm_ 187 #[.val (.int p1), .val (.int p2), .val (.int p3), .val (.int (0 : Int32)), .val (.int (p2 &&& (255 : Int32))), .val (.int (p3 &&& (255 : Int32))), .val (.ref b2), .val (.ref b2), .val (.ref w_1), .val (.ref w_1)] [(.int (1 : Int32))])
        have K37 : Keep h0 T32.heap [] := ((((K13.trans Kc7 (allS (Or.inr lo_b2) all0)).ext E14).ext E26).trans Kc32 all0)
        obtain ⟨fs, hr, hrun, hended, hEnd⟩ := X35.leaveW hS26 (by rw [Eh35]; exact (Nat.le_trans hk26 Kc32.1)) (v := some (.int (1 : Int32))) (fun h => by rw [Bd.returns] at h; cases h)
        refine ⟨_, _, ?_, hrun, hended, _, _, rfl, ?_, own_IB_mono (own_IB_warm I26 X35.warmed) (by intro t_ h_; first | exact h_ | exact List.mem_cons_of_mem _ h_ | (revert t_ h_; decide)), own_endMono hEnd (by decide) (by decide)⟩
        · exact retN X35 hx (t := .boolean) Bd.returns (by simp) (hb hby at_187) hr
        · show Qrm0 Z p1 p2 p3 h0 n0 (some (.int (1 : Int32))) T35.heap _
          rw [Eh35]
          exact ⟨rfl, N35, K37⟩
      · skip
        have N27 := Fr.app N15 (Fr.nil n0)
        refine own_jump st27 ?_
        refine own_step (fun t_ k_ => XS.ifYes X27.here hx rfl (pc0 := 79) (pc' := 94) rfl (hb hby at_79) rfl ((if0 _ _).trans (teq (by decide : (0 : Int32) = (0 : Int32))).1) (by decide) (by decide) k_) ?_
        show own_Go _ _ _ _ T27 (mkF mm_ 94 #[.val (.int p1), .val (.int p2), .val (.int p3), .val (.int (0 : Int32)), .val (.int (p2 &&& (255 : Int32))), .val (.int (p3 &&& (255 : Int32))), .val (.ref b2), .unset, .unset, .unset] [])
        refine own_step (fun t_ k_ => XS.iloadN X27.here hx rfl (hb hby at_94) rfl  k_) ?_
        show own_Go _ _ _ _ T27 (mkF mm_ 95 #[.val (.int p1), .val (.int p2), .val (.int p3), .val (.int (0 : Int32)), .val (.int (p2 &&& (255 : Int32))), .val (.int (p3 &&& (255 : Int32))), .val (.ref b2), .unset, .unset, .unset] [(.int (0 : Int32))])
        refine own_step (fun t_ k_ => XS.ifYes X27.here hx rfl (pc0 := 95) (pc' := 128) rfl (hb hby at_95) rfl ((if0 _ _).trans (teq (by decide : (0 : Int32) = (0 : Int32))).1) (by decide) (by decide) k_) ?_
        show own_Go _ _ _ _ T27 (mkF mm_ 128 #[.val (.int p1), .val (.int p2), .val (.int p3), .val (.int (0 : Int32)), .val (.int (p2 &&& (255 : Int32))), .val (.int (p3 &&& (255 : Int32))), .val (.ref b2), .unset, .unset, .unset] [])
        obtain ⟨T38, h38, X38, e38, E38, A38, D38, -, st38⟩ := newO X27 hx hZ26 hown26 (own_w hw 0 rfl) (own_w hw 1 rfl) (own_w hw 2 rfl) Eh27 (g := (mkF mm_ 128 #[.val (.int p1), .val (.int p2), .val (.int p3), .val (.int (0 : Int32)), .val (.int (p2 &&& (255 : Int32))), .val (.int (p3 &&& (255 : Int32))), .val (.ref b2), .unset, .unset, .unset] [])) rfl (hb hby at_128) (by decide) (by decide)
        obtain ⟨b38, q38⟩ : ∃ z, z = h26.size := ⟨_, rfl⟩
        rw [← q38] at A38 D38 st38
        have K39 : Keep h0 h26 [] := (((K13.trans Kc7 (allS (Or.inr lo_b2) all0)).ext E14).ext E26)
        have lo_b38 : h0.size ≤ b38 := Nat.le_trans K39.1 (Nat.le_of_eq q38.symm)
        have g_b38 : n0 ≤ b38 := Nat.le_trans Z0 lo_b38
        refine own_step st38 ?_
        have F38_coder : Fld Z h38 b38 "java/lang/String" "coder" "B" (.int (0 : Int32)) := D38 (Or.inr (own_w hw 27 rfl)) (ty := .byte) (by decide)
        have F38_value : Fld Z h38 b38 "java/lang/String" "value" "[B" .null := D38 (Or.inr (own_w hw 29 rfl)) (ty := (.array .byte)) (by decide)
        show own_Go _ _ _ _ T38 (mkF mm_ 131 #[.val (.int p1), .val (.int p2), .val (.int p3), .val (.int (0 : Int32)), .val (.int (p2 &&& (255 : Int32))), .val (.int (p3 &&& (255 : Int32))), .val (.ref b2), .unset, .unset, .unset] [(.ref b38)])
        refine own_step (fun t_ k_ => XS.dup X38.here hx rfl (hb hby at_131) rfl rfl (XS.iconst X38.here hx rfl (hb hby at_132) k_)) ?_
        show own_Go _ _ _ _ T38 (mkF mm_ 133 #[.val (.int p1), .val (.int p2), .val (.int p3), .val (.int (0 : Int32)), .val (.int (p2 &&& (255 : Int32))), .val (.int (p3 &&& (255 : Int32))), .val (.ref b2), .unset, .unset, .unset] [(.int (2 : Int32)), (.ref b38), (.ref b38)])
        obtain ⟨T40, h40, k40, X40, e40, E40, A40, st40⟩ := newP X38 hx hZ26 (own_w hw 3 rfl) e38 (g := (mkF mm_ 133 #[.val (.int p1), .val (.int p2), .val (.int p3), .val (.int (0 : Int32)), .val (.int (p2 &&& (255 : Int32))), .val (.int (p3 &&& (255 : Int32))), .val (.ref b2), .unset, .unset, .unset] [(.int (2 : Int32)), (.ref b38), (.ref b38)])) rfl (hb hby at_133) rfl (by decide) (cap := 2) (by decide) (by decide) (by decide) (by decide)
        obtain ⟨b40, q40⟩ : ∃ z, z = h38.size := ⟨_, rfl⟩
        rw [← q40] at A40 st40
        have K41 : Keep h0 h38 [] := (K39.ext E38)
        have lo_b40 : h0.size ≤ b40 := Nat.le_trans K41.1 (Nat.le_of_eq q40.symm)
        have g_b40 : n0 ≤ b40 := Nat.le_trans Z0 lo_b40
        refine own_step st40 ?_
        have V40 : Arv Z h40 b40 k40 .char (2 : Int32) [(.int (0 : Int32)), (.int (0 : Int32))] (.int (0 : Int32)) := (Arv.new A40 (by decide)).pad (pad_rep [] (.int (0 : Int32)) 2)
        show own_Go _ _ _ _ T40 (mkF mm_ 135 #[.val (.int p1), .val (.int p2), .val (.int p3), .val (.int (0 : Int32)), .val (.int (p2 &&& (255 : Int32))), .val (.int (p3 &&& (255 : Int32))), .val (.ref b2), .unset, .unset, .unset] [(.ref b40), (.ref b38), (.ref b38)])
        refine own_step (fun t_ k_ => XS.dup X40.here hx rfl (hb hby at_135) rfl rfl (XS.iconst X40.here hx rfl (hb hby at_136) (XS.bipush X40.here hx rfl (hb hby at_137) k_))) ?_
        show own_Go _ _ _ _ T40 (mkF mm_ 139 #[.val (.int p1), .val (.int p2), .val (.int p3), .val (.int (0 : Int32)), .val (.int (p2 &&& (255 : Int32))), .val (.int (p3 &&& (255 : Int32))), .val (.ref b2), .unset, .unset, .unset] [(.int (66 : Int32)), (.int (0 : Int32)), (.ref b40), (.ref b40), (.ref b38), (.ref b38)])
        obtain ⟨cl42, Ar42, q42, S42, M42, H42, G42⟩ := id V40
        have hin42 : ¬ ((0 : Int32) < 0 ∨ cl42.slots.size ≤ ((0 : Int32)).toNatClampNeg) := inb_of S42 ⟨by decide, by decide⟩
        obtain ⟨T42, h42, X42, e42, W42, st42⟩ := stC X40 hx hZ26 e40 Ar42 (j := (0 : Int32)) hin42 (g := (mkF mm_ 139 #[.val (.int p1), .val (.int p2), .val (.int p3), .val (.int (0 : Int32)), .val (.int (p2 &&& (255 : Int32))), .val (.int (p3 &&& (255 : Int32))), .val (.ref b2), .unset, .unset, .unset] [(.int (66 : Int32)), (.int (0 : Int32)), (.ref b40), (.ref b40), (.ref b38), (.ref b38)])) rfl rfl (hb hby at_139)
        have V42 : Arv Z h42 b40 k40 .char (2 : Int32) [(.int (66 : Int32)), (.int (0 : Int32))] (.int (0 : Int32)) := Arv.set Ar42 q42 S42 M42 H42 G42 (fits_nar_char _) W42 0 rfl (Nat.le_of_ble_eq_true rfl)
        have N42 := Fr.snoc X42 N27 g_b40
        refine own_step st42 ?_
        show own_Go _ _ _ _ T42 (mkF mm_ 140 #[.val (.int p1), .val (.int p2), .val (.int p3), .val (.int (0 : Int32)), .val (.int (p2 &&& (255 : Int32))), .val (.int (p3 &&& (255 : Int32))), .val (.ref b2), .unset, .unset, .unset] [(.ref b40), (.ref b38), (.ref b38)])
        refine own_step (fun t_ k_ => XS.dup X42.here hx rfl (hb hby at_140) rfl rfl (XS.iconst X42.here hx rfl (hb hby at_141) (XS.bipush X42.here hx rfl (hb hby at_142) k_))) ?_
        show own_Go _ _ _ _ T42 (mkF mm_ 144 #[.val (.int p1), .val (.int p2), .val (.int p3), .val (.int (0 : Int32)), .val (.int (p2 &&& (255 : Int32))), .val (.int (p3 &&& (255 : Int32))), .val (.ref b2), .unset, .unset, .unset] [(.int (85 : Int32)), (.int (1 : Int32)), (.ref b40), (.ref b40), (.ref b38), (.ref b38)])
        obtain ⟨cl43, Ar43, q43, S43, M43, H43, G43⟩ := id V42
        have hin43 : ¬ ((1 : Int32) < 0 ∨ cl43.slots.size ≤ ((1 : Int32)).toNatClampNeg) := inb_of S43 ⟨by decide, by decide⟩
        obtain ⟨T43, h43, X43, e43, W43, st43⟩ := stC X42 hx hZ26 e42 Ar43 (j := (1 : Int32)) hin43 (g := (mkF mm_ 144 #[.val (.int p1), .val (.int p2), .val (.int p3), .val (.int (0 : Int32)), .val (.int (p2 &&& (255 : Int32))), .val (.int (p3 &&& (255 : Int32))), .val (.ref b2), .unset, .unset, .unset] [(.int (85 : Int32)), (.int (1 : Int32)), (.ref b40), (.ref b40), (.ref b38), (.ref b38)])) rfl rfl (hb hby at_144)
        have V43 : Arv Z h43 b40 k40 .char (2 : Int32) [(.int (66 : Int32)), (.int (85 : Int32))] (.int (0 : Int32)) := Arv.set Ar43 q43 S43 M43 H43 G43 (fits_nar_char _) W43 1 rfl (Nat.le_of_ble_eq_true rfl)
        have N43 := Fr.snoc X43 N42 g_b40
        refine own_step st43 ?_
        show own_Go _ _ _ _ T43 (mkF mm_ 145 #[.val (.int p1), .val (.int p2), .val (.int p3), .val (.int (0 : Int32)), .val (.int (p2 &&& (255 : Int32))), .val (.int (p3 &&& (255 : Int32))), .val (.ref b2), .unset, .unset, .unset] [(.ref b40), (.ref b38), (.ref b38)])
        have hp45 : ∀ ch_ ∈ ([(66 : Int32), (85 : Int32)] : List Int32), ¬ ch_ < 0 ∧ ¬ (255 : Int32) < ch_ := by
          intro ch_ hc
          simp only [List.mem_cons, List.not_mem_nil, or_false] at hc
          rcases hc with rfl | rfl
          · exact ⟨by decide, by decide⟩
          · exact ⟨by decide, by decide⟩
        have f46 : Exa Z h43 b38 "java/lang/String" := (((A38.ext E40).wr W42).wr W43)
        have f47 : Fld Z h43 b38 "java/lang/String" "value" "[B" .null := (((F38_value.ext E40).other W42 (Or.inl (Nat.ne_of_lt (Nat.lt_of_lt_of_le A38.lt (Nat.le_of_eq q40.symm))))).other W43 (Or.inl (Nat.ne_of_lt (Nat.lt_of_lt_of_le A38.lt (Nat.le_of_eq q40.symm)))))
        have f48 : Fld Z h43 b38 "java/lang/String" "coder" "B" (.int (0 : Int32)) := (((F38_coder.ext E40).other W42 (Or.inl (Nat.ne_of_lt (Nat.lt_of_lt_of_le A38.lt (Nat.le_of_eq q40.symm))))).other W43 (Or.inl (Nat.ne_of_lt (Nat.lt_of_lt_of_le A38.lt (Nat.le_of_eq q40.symm)))))
        have O49 : Old Z n0 h43 := ((((O29.ext E38).ext E40).wr W42 g_b40).wr W43 g_b40)
        have K50 : Keep h0 h43 [] := (((K41.ext E40).wr W42 (Or.inr lo_b40)).wr W43 (Or.inr lo_b40))
        obtain ⟨_, T44, Lc44, X44, hQ44, st44⟩ := own_cI X43 hx hZ26 rfl hown26 (own_w hw 4 rfl) (own_w hw 5 rfl) (own_w hw 6 rfl) (by decide) (own_newS (W := 1) hZ26 hw (cs := [(66 : Int32), (85 : Int32)]) (n := 2) g_b38 (Nat.le_trans Z0 K50.1) f46 f47 f48 V43 (G_cs.ext O49.2) G_cs0 rfl rfl rfl (by decide) (by decide) hp45 (by decide) (by decide)) (g := (mkF mm_ 145 #[.val (.int p1), .val (.int p2), .val (.int p3), .val (.int (0 : Int32)), .val (.int (p2 &&& (255 : Int32))), .val (.int (p3 &&& (255 : Int32))), .val (.ref b2), .unset, .unset, .unset] [(.ref b40), (.ref b38), (.ref b38)])) rfl (by rw [hml]; rfl) (a := b38) (argsL := [(.ref b40)]) (rest := [(.ref b38)]) (lenOf pd_2 rfl) rfl (by show 2 * 0 + _ ≤ _; exact Nat.le_of_eq rfl) (hb hby at_145) rfl e43 (by decide) (by decide)
        obtain ⟨t44, rfl, Nq44, Kc44, lo44, Fs44⟩ := hQ44
        have N44 := Fr.app N43 Nq44
        have lo_t44 : h0.size ≤ t44 := Nat.le_trans K50.1 lo44
        have g_t44 : n0 ≤ t44 := Nat.le_trans Z0 lo_t44
        refine own_jump st44 ?_
        show own_Go _ _ _ _ T44 (mkF mm_ 148 #[.val (.int p1), .val (.int p2), .val (.int p3), .val (.int (0 : Int32)), .val (.int (p2 &&& (255 : Int32))), .val (.int (p3 &&& (255 : Int32))), .val (.ref b2), .unset, .unset, .unset] [(.ref b38)])
        refine own_step (fun t_ k_ => XS.astore X44.here hx rfl (hb hby at_148) rfl rfl (l' := #[.val (.int p1), .val (.int p2), .val (.int p3), .val (.int (0 : Int32)), .val (.int (p2 &&& (255 : Int32))), .val (.int (p3 &&& (255 : Int32))), .val (.ref b2), .val (.ref b38), .unset, .unset]) rfl k_) ?_
        show own_Go _ _ _ _ T44 (mkF mm_ 150 #[.val (.int p1), .val (.int p2), .val (.int p3), .val (.int (0 : Int32)), .val (.int (p2 &&& (255 : Int32))), .val (.int (p3 &&& (255 : Int32))), .val (.ref b2), .val (.ref b38), .unset, .unset] [])
        have O51 : Old Z n0 T44.heap := (O49.keep Kc44 (allS g_b38 all0))
        obtain ⟨T52, X52, e52, st52⟩ := getS2 X44 hx hZ26 hown26 (host := "") (Or.inl (own_w hw 44 rfl)) Via.refl rfl (G_S1.ext O51.2) (g := (mkF mm_ 150 #[.val (.int p1), .val (.int p2), .val (.int p3), .val (.int (0 : Int32)), .val (.int (p2 &&& (255 : Int32))), .val (.int (p3 &&& (255 : Int32))), .val (.ref b2), .val (.ref b38), .unset, .unset] [])) rfl (hb hby at_150)
        refine own_step st52 ?_
        show own_Go _ _ _ _ T52 (mkF mm_ 153 #[.val (.int p1), .val (.int p2), .val (.int p3), .val (.int (0 : Int32)), .val (.int (p2 &&& (255 : Int32))), .val (.int (p3 &&& (255 : Int32))), .val (.ref b2), .val (.ref b38), .unset, .unset] [(.ref w_0)])
        refine own_step (fun t_ k_ => XS.astore X52.here hx rfl (hb hby at_153) rfl rfl (l' := #[.val (.int p1), .val (.int p2), .val (.int p3), .val (.int (0 : Int32)), .val (.int (p2 &&& (255 : Int32))), .val (.int (p3 &&& (255 : Int32))), .val (.ref b2), .val (.ref b38), .val (.ref w_0), .unset]) rfl (XS.aload X52.here hx rfl (hb hby at_155) rfl rfl k_)) ?_
        show own_Go _ _ _ _ T52 (mkF mm_ 157 #[.val (.int p1), .val (.int p2), .val (.int p3), .val (.int (0 : Int32)), .val (.int (p2 &&& (255 : Int32))), .val (.int (p3 &&& (255 : Int32))), .val (.ref b2), .val (.ref b38), .val (.ref w_0), .unset] [(.ref b38)])
        obtain ⟨_, T53, Lc53, X53, hQ53, st53⟩ := own_cS X52 hx hZ26 hown26 (own_w hw 47 rfl) (own_w hw 48 rfl) (own_w hw 45 rfl) (own_w hw 49 rfl) (by decide) (backOf (W := 0) (rmO0 l Z a0 hw [] b38 t44 T44.heap n0 O51 G_ Fs44) hZ26 (own_w hw 49 rfl) (own_w hw 45 rfl) (by decide) (by decide)) (g := (mkF mm_ 157 #[.val (.int p1), .val (.int p2), .val (.int p3), .val (.int (0 : Int32)), .val (.int (p2 &&& (255 : Int32))), .val (.int (p3 &&& (255 : Int32))), .val (.ref b2), .val (.ref b38), .val (.ref w_0), .unset] [(.ref b38)])) rfl (by rw [hml]; rfl) (argsL := [(.ref b38)]) (rest := []) (lenOf pd_3 rfl) rfl (by show 2 * 0 + _ ≤ _; exact Nat.le_of_eq rfl) (hb hby at_157) rfl e52 (by decide) (by decide)
        obtain ⟨rfl, Nq53, Kc53⟩ := hQ53
        have N53 := Fr.app N44 Nq53
        refine own_jump st53 ?_
        show own_Go _ _ _ _ T53 (mkF mm_ 160 #[.val (.int p1), .val (.int p2), .val (.int p3), .val (.int (0 : Int32)), .val (.int (p2 &&& (255 : Int32))), .val (.int (p3 &&& (255 : Int32))), .val (.ref b2), .val (.ref b38), .val (.ref w_0), .unset] [(.ref w_0)])
        refine own_step (fun t_ k_ => XS.astore X53.here hx rfl (hb hby at_160) rfl rfl (l' := #[.val (.int p1), .val (.int p2), .val (.int p3), .val (.int (0 : Int32)), .val (.int (p2 &&& (255 : Int32))), .val (.int (p3 &&& (255 : Int32))), .val (.ref b2), .val (.ref b38), .val (.ref w_0), .val (.ref w_0)]) rfl (XS.aload X53.here hx rfl (hb hby at_162) rfl rfl (XS.aload X53.here hx rfl (hb hby at_164) rfl rfl k_))) ?_
        show own_Go _ _ _ _ T53 (mkF mm_ 166 #[.val (.int p1), .val (.int p2), .val (.int p3), .val (.int (0 : Int32)), .val (.int (p2 &&& (255 : Int32))), .val (.int (p3 &&& (255 : Int32))), .val (.ref b2), .val (.ref b38), .val (.ref w_0), .val (.ref w_0)] [(.ref w_0), (.ref w_0)])
        refine own_step (fun t_ k_ => Jvm.RoadKit.acmp (g := (mkF mm_ 166 #[.val (.int p1), .val (.int p2), .val (.int p3), .val (.int (0 : Int32)), .val (.int (p2 &&& (255 : Int32))), .val (.int (p3 &&& (255 : Int32))), .val (.ref b2), .val (.ref b38), .val (.ref w_0), .val (.ref w_0)] [(.ref w_0), (.ref w_0)])) X53 hx rfl rfl rfl (pc0 := 166) (pc' := 169) (same := true) rfl (hb hby at_166) rfl (decide_eq_true rfl) (by decide) (by decide) (XS.aload X53.here hx rfl (hb hby at_169) rfl rfl k_)) ?_
        show own_Go _ _ _ _ T53 (mkF mm_ 171 #[.val (.int p1), .val (.int p2), .val (.int p3), .val (.int (0 : Int32)), .val (.int (p2 &&& (255 : Int32))), .val (.int (p3 &&& (255 : Int32))), .val (.ref b2), .val (.ref b38), .val (.ref w_0), .val (.ref w_0)] [(.ref w_0)])
        have O55 : Old Z n0 T53.heap := (O51.keep Kc53 all0)
        obtain ⟨_, T54, Lc54, X54, hQ54, st54⟩ := own_cV X53 hx hZ26 hown26 (own_w hw 69 rfl) (own_w hw 70 rfl) (notFace_of_selects (args := #[]) (mvT hZ26 (own_w hw 72 rfl))) (own_w hw 72 rfl) (own_w hw 71 rfl) (by decide) (backOf (W := 0) (rmG l Z a0 hw [] w_0 s_0 T53.heap n0 O55 (G_F8.ext O55.2)) hZ26 (own_w hw 73 rfl) (own_w hw 45 rfl) (by decide) (by decide)) (G_E4.ext O55.2) (g := (mkF mm_ 171 #[.val (.int p1), .val (.int p2), .val (.int p3), .val (.int (0 : Int32)), .val (.int (p2 &&& (255 : Int32))), .val (.int (p3 &&& (255 : Int32))), .val (.ref b2), .val (.ref b38), .val (.ref w_0), .val (.ref w_0)] [(.ref w_0)])) rfl (by rw [hml]; rfl) (argsL := []) (rest := []) (lenOf pd_4 rfl) rfl (by show 2 * 0 + _ ≤ _; exact Nat.le_of_eq rfl) (hb hby at_171) rfl rfl (by decide) (by decide)
        obtain ⟨rfl, rfl, Eh54⟩ := hQ54
        have N54 := Fr.app N53 (Fr.nil n0)
        refine own_jump st54 ?_
        show own_Go _ _ _ _ T54 (mkF mm_ 174 #[.val (.int p1), .val (.int p2), .val (.int p3), .val (.int (0 : Int32)), .val (.int (p2 &&& (255 : Int32))), .val (.int (p3 &&& (255 : Int32))), .val (.ref b2), .val (.ref b38), .val (.ref w_0), .val (.ref w_0)] [(.ref s_0)])
        refine own_step (fun t_ k_ => XS.aload X54.here hx rfl (hb hby at_174) rfl rfl k_) ?_
        show own_Go _ _ _ _ T54 (mkF mm_ 176 #[.val (.int p1), .val (.int p2), .val (.int p3), .val (.int (0 : Int32)), .val (.int (p2 &&& (255 : Int32))), .val (.int (p3 &&& (255 : Int32))), .val (.ref b2), .val (.ref b38), .val (.ref w_0), .val (.ref w_0)] [(.ref b38), (.ref s_0)])
        have f57 : own_Str Z T53.heap b38 t44 [(66 : Int32), (85 : Int32)] := (Fs44.keep Kc53 nin0 nin0)
        obtain ⟨_, T56, Lc56, X56, hQ56, st56⟩ := own_cV X54 hx hZ26 hown26 (own_w hw 33 rfl) (own_w hw 34 rfl) (notFace_of_selects (args := #[]) (mvT hZ26 (own_w hw 36 rfl))) (own_w hw 36 rfl) (own_w hw 35 rfl) (by decide) (own_eqS (W := 0) hZ26 hw (G_T9.ext O55.2) f57 (G_cs.ext O55.2) G_cs0 (by decide) (by decide)) (G_T9.ext O55.2).1 (g := (mkF mm_ 176 #[.val (.int p1), .val (.int p2), .val (.int p3), .val (.int (0 : Int32)), .val (.int (p2 &&& (255 : Int32))), .val (.int (p3 &&& (255 : Int32))), .val (.ref b2), .val (.ref b38), .val (.ref w_0), .val (.ref w_0)] [(.ref b38), (.ref s_0)])) rfl (by rw [hml]; rfl) (argsL := [(.ref b38)]) (rest := []) (lenOf pd_1 rfl) rfl (by show 2 * 0 + _ ≤ _; exact Nat.le_of_eq rfl) (hb hby at_176) rfl Eh54 (by decide) (by decide)
        obtain ⟨⟨rfl, -⟩ | ⟨-, hq56⟩, rfl, Eh56⟩ := hQ56
        rotate_left
        · exact absurd rfl hq56
        have N56 := Fr.app N54 (Fr.nil n0)
        refine own_jump st56 ?_
        show own_Go _ _ _ _ T56 (mkF mm_ 179 #[.val (.int p1), .val (.int p2), .val (.int p3), .val (.int (0 : Int32)), .val (.int (p2 &&& (255 : Int32))), .val (.int (p3 &&& (255 : Int32))), .val (.ref b2), .val (.ref b38), .val (.ref w_0), .val (.ref w_0)] [(.int (1 : Int32))])
        refine own_step (fun t_ k_ => XS.ifNo X56.here hx rfl (hb hby at_179) rfl ((if0 _ _).trans (feq (by decide : ¬ ((1 : Int32) = (0 : Int32)))).1) k_) ?_
        show own_Go _ _ _ _ T56 (mkF mm_ 182 #[.val (.int p1), .val (.int p2), .val (.int p3), .val (.int (0 : Int32)), .val (.int (p2 &&& (255 : Int32))), .val (.int (p3 &&& (255 : Int32))), .val (.ref b2), .val (.ref b38), .val (.ref w_0), .val (.ref w_0)] [])
        refine own_step (fun t_ k_ => XS.iconst X56.here hx rfl (hb hby at_182) (XS.goto X56.here hx rfl (pc0 := 183) (pc' := 187) rfl (hb hby at_183) (by decide) (by decide) k_)) ?_
        show own_Go _ _ _ _ T56 (mkF mm_ 187 #[.val (.int p1), .val (.int p2), .val (.int p3), .val (.int (0 : Int32)), .val (.int (p2 &&& (255 : Int32))), .val (.int (p3 &&& (255 : Int32))), .val (.ref b2), .val (.ref b38), .val (.ref w_0), .val (.ref w_0)] [(.int (1 : Int32))])
        have K58 : Keep h0 T53.heap [] := ((K50.trans Kc44 (allS (Or.inr lo_b38) all0)).trans Kc53 all0)
        obtain ⟨fs, hr, hrun, hended, hEnd⟩ := X56.leaveW hS26 (by rw [Eh56]; exact (Nat.le_trans (Nat.le_trans (Nat.le_trans (Nat.le_trans (Nat.le_trans (Nat.le_trans hk26 E38.1) E40.1) (Keep.of_wr W42).1) (Keep.of_wr W43).1) Kc44.1) Kc53.1)) (v := some (.int (1 : Int32))) (fun h => by rw [Bd.returns] at h; cases h)
        refine ⟨_, _, ?_, hrun, hended, _, _, rfl, ?_, own_IB_mono (own_IB_warm I26 X56.warmed) (by intro t_ h_; first | exact h_ | exact List.mem_cons_of_mem _ h_ | (revert t_ h_; decide)), own_endMono hEnd (by decide) (by decide)⟩
        · exact retN X56 hx (t := .boolean) Bd.returns (by simp) (hb hby at_187) hr
        · show Qrm0 Z p1 p2 p3 h0 n0 (some (.int (1 : Int32))) T56.heap _
          rw [Eh56]
          exact ⟨rfl, N56, K58⟩
  · skip
    refine own_step (fun t_ k_ => XS.ifNo X0.here hx rfl (hb hby at_3) rfl ((if0 _ _).trans (feq hc3_1).1) k_) ?_
    show own_Go _ _ _ _ s₁ (mkF mm_ 6 #[.val (.int p1), .val (.int p2), .val (.int p3), .unset, .unset, .unset, .unset, .unset, .unset, .unset] [])
    refine own_step (fun t_ k_ => XS.iconst X0.here hx rfl (hb hby at_6) (XS.goto X0.here hx rfl (pc0 := 7) (pc' := 11) rfl (hb hby at_7) (by decide) (by decide) (XS.istoreN X0.here hx rfl (hb hby at_11) rfl (l' := #[.val (.int p1), .val (.int p2), .val (.int p3), .val (.int (1 : Int32)), .unset, .unset, .unset, .unset, .unset, .unset]) rfl (XS.iloadN X0.here hx rfl (hb hby at_12) rfl  (XS.sipush X0.here hx rfl (hb hby at_13) (XS.iand X0.here hx rfl (hb hby at_16) rfl k_)))))) ?_
    show own_Go _ _ _ _ s₁ (mkF mm_ 17 #[.val (.int p1), .val (.int p2), .val (.int p3), .val (.int (1 : Int32)), .unset, .unset, .unset, .unset, .unset, .unset] [(.int (p2 &&& (255 : Int32)))])
    refine own_step (fun t_ k_ => XS.i2c X0.here hx rfl (hb hby at_17) rfl (by rw [i2c_mask]; exact (XS.istore X0.here hx rfl (hb hby at_18) rfl (l' := #[.val (.int p1), .val (.int p2), .val (.int p3), .val (.int (1 : Int32)), .val (.int (p2 &&& (255 : Int32))), .unset, .unset, .unset, .unset, .unset]) rfl (XS.iloadN X0.here hx rfl (hb hby at_20) rfl  (XS.sipush X0.here hx rfl (hb hby at_21) (XS.iand X0.here hx rfl (hb hby at_24) rfl k_)))))) ?_
    show own_Go _ _ _ _ s₁ (mkF mm_ 25 #[.val (.int p1), .val (.int p2), .val (.int p3), .val (.int (1 : Int32)), .val (.int (p2 &&& (255 : Int32))), .unset, .unset, .unset, .unset, .unset] [(.int (p3 &&& (255 : Int32)))])
    refine own_step (fun t_ k_ => XS.i2c X0.here hx rfl (hb hby at_25) rfl (by rw [i2c_mask]; exact (XS.istore X0.here hx rfl (hb hby at_26) rfl (l' := #[.val (.int p1), .val (.int p2), .val (.int p3), .val (.int (1 : Int32)), .val (.int (p2 &&& (255 : Int32))), .val (.int (p3 &&& (255 : Int32))), .unset, .unset, .unset, .unset]) rfl k_))) ?_
    show own_Go _ _ _ _ s₁ (mkF mm_ 28 #[.val (.int p1), .val (.int p2), .val (.int p3), .val (.int (1 : Int32)), .val (.int (p2 &&& (255 : Int32))), .val (.int (p3 &&& (255 : Int32))), .unset, .unset, .unset, .unset] [])
    obtain ⟨T59, h59, X59, e59, E59, A59, D59, -, st59⟩ := newO X0 hx hZ hown (own_w hw 0 rfl) (own_w hw 1 rfl) (own_w hw 2 rfl) e0 (g := (mkF mm_ 28 #[.val (.int p1), .val (.int p2), .val (.int p3), .val (.int (1 : Int32)), .val (.int (p2 &&& (255 : Int32))), .val (.int (p3 &&& (255 : Int32))), .unset, .unset, .unset, .unset] [])) rfl (hb hby at_28) (by decide) (by decide)
    obtain ⟨b59, q59⟩ : ∃ z, z = h0.size := ⟨_, rfl⟩
    rw [← q59] at A59 D59 st59
    have lo_b59 : h0.size ≤ b59 := Nat.le_trans K0.1 (Nat.le_of_eq q59.symm)
    have g_b59 : n0 ≤ b59 := Nat.le_trans Z0 lo_b59
    refine own_step st59 ?_
    have F59_coder : Fld Z h59 b59 "java/lang/String" "coder" "B" (.int (0 : Int32)) := D59 (Or.inr (own_w hw 27 rfl)) (ty := .byte) (by decide)
    have F59_value : Fld Z h59 b59 "java/lang/String" "value" "[B" .null := D59 (Or.inr (own_w hw 29 rfl)) (ty := (.array .byte)) (by decide)
    show own_Go _ _ _ _ T59 (mkF mm_ 31 #[.val (.int p1), .val (.int p2), .val (.int p3), .val (.int (1 : Int32)), .val (.int (p2 &&& (255 : Int32))), .val (.int (p3 &&& (255 : Int32))), .unset, .unset, .unset, .unset] [(.ref b59)])
    refine own_step (fun t_ k_ => XS.dup X59.here hx rfl (hb hby at_31) rfl rfl (XS.iconst X59.here hx rfl (hb hby at_32) k_)) ?_
    show own_Go _ _ _ _ T59 (mkF mm_ 33 #[.val (.int p1), .val (.int p2), .val (.int p3), .val (.int (1 : Int32)), .val (.int (p2 &&& (255 : Int32))), .val (.int (p3 &&& (255 : Int32))), .unset, .unset, .unset, .unset] [(.int (2 : Int32)), (.ref b59), (.ref b59)])
    obtain ⟨T60, h60, k60, X60, e60, E60, A60, st60⟩ := newP X59 hx hZ (own_w hw 3 rfl) e59 (g := (mkF mm_ 33 #[.val (.int p1), .val (.int p2), .val (.int p3), .val (.int (1 : Int32)), .val (.int (p2 &&& (255 : Int32))), .val (.int (p3 &&& (255 : Int32))), .unset, .unset, .unset, .unset] [(.int (2 : Int32)), (.ref b59), (.ref b59)])) rfl (hb hby at_33) rfl (by decide) (cap := 2) (by decide) (by decide) (by decide) (by decide)
    obtain ⟨b60, q60⟩ : ∃ z, z = h59.size := ⟨_, rfl⟩
    rw [← q60] at A60 st60
    have K61 : Keep h0 h59 [] := (K0.ext E59)
    have lo_b60 : h0.size ≤ b60 := Nat.le_trans K61.1 (Nat.le_of_eq q60.symm)
    have g_b60 : n0 ≤ b60 := Nat.le_trans Z0 lo_b60
    refine own_step st60 ?_
    have V60 : Arv Z h60 b60 k60 .char (2 : Int32) [(.int (0 : Int32)), (.int (0 : Int32))] (.int (0 : Int32)) := (Arv.new A60 (by decide)).pad (pad_rep [] (.int (0 : Int32)) 2)
    show own_Go _ _ _ _ T60 (mkF mm_ 35 #[.val (.int p1), .val (.int p2), .val (.int p3), .val (.int (1 : Int32)), .val (.int (p2 &&& (255 : Int32))), .val (.int (p3 &&& (255 : Int32))), .unset, .unset, .unset, .unset] [(.ref b60), (.ref b59), (.ref b59)])
    refine own_step (fun t_ k_ => XS.dup X60.here hx rfl (hb hby at_35) rfl rfl (XS.iconst X60.here hx rfl (hb hby at_36) (XS.iload X60.here hx rfl (hb hby at_37) rfl  k_))) ?_
    show own_Go _ _ _ _ T60 (mkF mm_ 39 #[.val (.int p1), .val (.int p2), .val (.int p3), .val (.int (1 : Int32)), .val (.int (p2 &&& (255 : Int32))), .val (.int (p3 &&& (255 : Int32))), .unset, .unset, .unset, .unset] [(.int (p2 &&& (255 : Int32))), (.int (0 : Int32)), (.ref b60), (.ref b60), (.ref b59), (.ref b59)])
    obtain ⟨cl62, Ar62, q62, S62, M62, H62, G62⟩ := id V60
    have hin62 : ¬ ((0 : Int32) < 0 ∨ cl62.slots.size ≤ ((0 : Int32)).toNatClampNeg) := inb_of S62 ⟨by decide, by decide⟩
    obtain ⟨T62, h62, X62, e62, W62, st62⟩ := stC X60 hx hZ e60 Ar62 (j := (0 : Int32)) hin62 (g := (mkF mm_ 39 #[.val (.int p1), .val (.int p2), .val (.int p3), .val (.int (1 : Int32)), .val (.int (p2 &&& (255 : Int32))), .val (.int (p3 &&& (255 : Int32))), .unset, .unset, .unset, .unset] [(.int (p2 &&& (255 : Int32))), (.int (0 : Int32)), (.ref b60), (.ref b60), (.ref b59), (.ref b59)])) rfl rfl (hb hby at_39)
    have V62 : Arv Z h62 b60 k60 .char (2 : Int32) [(.int (p2 &&& (255 : Int32))), (.int (0 : Int32))] (.int (0 : Int32)) := by
      have q := Arv.set Ar62 q62 S62 M62 H62 G62 (fits_nar_char _) W62 0 rfl (Nat.le_of_ble_eq_true rfl)
      rw [own_nar255] at q
      exact q
    have N62 := Fr.snoc X62 N0 g_b60
    refine own_step st62 ?_
    show own_Go _ _ _ _ T62 (mkF mm_ 40 #[.val (.int p1), .val (.int p2), .val (.int p3), .val (.int (1 : Int32)), .val (.int (p2 &&& (255 : Int32))), .val (.int (p3 &&& (255 : Int32))), .unset, .unset, .unset, .unset] [(.ref b60), (.ref b59), (.ref b59)])
    refine own_step (fun t_ k_ => XS.dup X62.here hx rfl (hb hby at_40) rfl rfl (XS.iconst X62.here hx rfl (hb hby at_41) (XS.iload X62.here hx rfl (hb hby at_42) rfl  k_))) ?_
    show own_Go _ _ _ _ T62 (mkF mm_ 44 #[.val (.int p1), .val (.int p2), .val (.int p3), .val (.int (1 : Int32)), .val (.int (p2 &&& (255 : Int32))), .val (.int (p3 &&& (255 : Int32))), .unset, .unset, .unset, .unset] [(.int (p3 &&& (255 : Int32))), (.int (1 : Int32)), (.ref b60), (.ref b60), (.ref b59), (.ref b59)])
    obtain ⟨cl63, Ar63, q63, S63, M63, H63, G63⟩ := id V62
    have hin63 : ¬ ((1 : Int32) < 0 ∨ cl63.slots.size ≤ ((1 : Int32)).toNatClampNeg) := inb_of S63 ⟨by decide, by decide⟩
    obtain ⟨T63, h63, X63, e63, W63, st63⟩ := stC X62 hx hZ e62 Ar63 (j := (1 : Int32)) hin63 (g := (mkF mm_ 44 #[.val (.int p1), .val (.int p2), .val (.int p3), .val (.int (1 : Int32)), .val (.int (p2 &&& (255 : Int32))), .val (.int (p3 &&& (255 : Int32))), .unset, .unset, .unset, .unset] [(.int (p3 &&& (255 : Int32))), (.int (1 : Int32)), (.ref b60), (.ref b60), (.ref b59), (.ref b59)])) rfl rfl (hb hby at_44)
    have V63 : Arv Z h63 b60 k60 .char (2 : Int32) [(.int (p2 &&& (255 : Int32))), (.int (p3 &&& (255 : Int32)))] (.int (0 : Int32)) := by
      have q := Arv.set Ar63 q63 S63 M63 H63 G63 (fits_nar_char _) W63 1 rfl (Nat.le_of_ble_eq_true rfl)
      rw [own_nar255] at q
      exact q
    have N63 := Fr.snoc X63 N62 g_b60
    refine own_step st63 ?_
    show own_Go _ _ _ _ T63 (mkF mm_ 45 #[.val (.int p1), .val (.int p2), .val (.int p3), .val (.int (1 : Int32)), .val (.int (p2 &&& (255 : Int32))), .val (.int (p3 &&& (255 : Int32))), .unset, .unset, .unset, .unset] [(.ref b60), (.ref b59), (.ref b59)])
    have hp65 : ∀ ch_ ∈ ([(p2 &&& (255 : Int32)), (p3 &&& (255 : Int32))] : List Int32), ¬ ch_ < 0 ∧ ¬ (255 : Int32) < ch_ := by
      intro ch_ hc
      simp only [List.mem_cons, List.not_mem_nil, or_false] at hc
      rcases hc with rfl | rfl
      · exact own_and255 _
      · exact own_and255 _
    have f66 : Exa Z h63 b59 "java/lang/String" := (((A59.ext E60).wr W62).wr W63)
    have f67 : Fld Z h63 b59 "java/lang/String" "value" "[B" .null := (((F59_value.ext E60).other W62 (Or.inl (Nat.ne_of_lt (Nat.lt_of_lt_of_le A59.lt (Nat.le_of_eq q60.symm))))).other W63 (Or.inl (Nat.ne_of_lt (Nat.lt_of_lt_of_le A59.lt (Nat.le_of_eq q60.symm)))))
    have f68 : Fld Z h63 b59 "java/lang/String" "coder" "B" (.int (0 : Int32)) := (((F59_coder.ext E60).other W62 (Or.inl (Nat.ne_of_lt (Nat.lt_of_lt_of_le A59.lt (Nat.le_of_eq q60.symm))))).other W63 (Or.inl (Nat.ne_of_lt (Nat.lt_of_lt_of_le A59.lt (Nat.le_of_eq q60.symm)))))
    have O69 : Old Z n0 h63 := ((((O0.ext E59).ext E60).wr W62 g_b60).wr W63 g_b60)
    have K70 : Keep h0 h63 [] := (((K61.ext E60).wr W62 (Or.inr lo_b60)).wr W63 (Or.inr lo_b60))
    obtain ⟨_, T64, Lc64, X64, hQ64, st64⟩ := own_cI X63 hx hZ rfl hown (own_w hw 4 rfl) (own_w hw 5 rfl) (own_w hw 6 rfl) (by decide) (own_newS (W := 1) hZ hw (cs := [(p2 &&& (255 : Int32)), (p3 &&& (255 : Int32))]) (n := 2) g_b59 (Nat.le_trans Z0 K70.1) f66 f67 f68 V63 (G_cs.ext O69.2) G_cs0 rfl rfl rfl (by decide) (by decide) hp65 (by decide) (by decide)) (g := (mkF mm_ 45 #[.val (.int p1), .val (.int p2), .val (.int p3), .val (.int (1 : Int32)), .val (.int (p2 &&& (255 : Int32))), .val (.int (p3 &&& (255 : Int32))), .unset, .unset, .unset, .unset] [(.ref b60), (.ref b59), (.ref b59)])) rfl (by rw [hml]; rfl) (a := b59) (argsL := [(.ref b60)]) (rest := [(.ref b59)]) (lenOf pd_2 rfl) rfl (by show 2 * 0 + _ ≤ _; exact Nat.le_of_eq rfl) (hb hby at_45) rfl e63 (by decide) (by decide)
    obtain ⟨t64, rfl, Nq64, Kc64, lo64, Fs64⟩ := hQ64
    have N64 := Fr.app N63 Nq64
    have lo_t64 : h0.size ≤ t64 := Nat.le_trans K70.1 lo64
    have g_t64 : n0 ≤ t64 := Nat.le_trans Z0 lo_t64
    refine own_jump st64 ?_
    show own_Go _ _ _ _ T64 (mkF mm_ 48 #[.val (.int p1), .val (.int p2), .val (.int p3), .val (.int (1 : Int32)), .val (.int (p2 &&& (255 : Int32))), .val (.int (p3 &&& (255 : Int32))), .unset, .unset, .unset, .unset] [(.ref b59)])
    refine own_step (fun t_ k_ => XS.astore X64.here hx rfl (hb hby at_48) rfl rfl (l' := #[.val (.int p1), .val (.int p2), .val (.int p3), .val (.int (1 : Int32)), .val (.int (p2 &&& (255 : Int32))), .val (.int (p3 &&& (255 : Int32))), .val (.ref b59), .unset, .unset, .unset]) rfl (XS.aload X64.here hx rfl (hb hby at_50) rfl rfl k_)) ?_
    show own_Go _ _ _ _ T64 (mkF mm_ 52 #[.val (.int p1), .val (.int p2), .val (.int p3), .val (.int (1 : Int32)), .val (.int (p2 &&& (255 : Int32))), .val (.int (p3 &&& (255 : Int32))), .val (.ref b59), .unset, .unset, .unset] [(.ref b59)])
    obtain ⟨a71, T71, h71, k71, t71, kb71, X71, e71, E71, hS71, hk71, hZ71, hown71, Ex71, Fc71, Fv71, V71, -, -, I71, L71, st71⟩ := ldcSVL (s := ss_) (vm0 := ss_.vm) X64 hx hZ hown (own_w hw 30 rfl) own_atoms_ rfl hS0 (Nat.le_trans (Nat.le_trans (Nat.le_trans (Nat.le_trans (Nat.le_trans (Nat.zero_le _) E59.1) E60.1) (Keep.of_wr W62).1) (Keep.of_wr W63).1) Kc64.1) (by rw [hh, hn0]; exact N64) hkeep_ hI (by first | assumption | decide) (G_h_com_example_clearwrit_clearwrit_SideOfUtiCodePinLaw_12) own_cw_ (vs := [(.int (66 : Int32)), (.int (85 : Int32))]) (z := (2 : Int32)) ⟨by decide, rfl⟩ (by decide) (by decide) (g := (mkF mm_ 52 #[.val (.int p1), .val (.int p2), .val (.int p3), .val (.int (1 : Int32)), .val (.int (p2 &&& (255 : Int32))), .val (.int (p3 &&& (255 : Int32))), .val (.ref b59), .unset, .unset, .unset] [(.ref b59)])) rfl (hb hby at_52) (n := 8) (by decide) (by decide) (by decide) (by decide)
    have Ls71 : own_Str Z h71 a71 t71 [(66 : Int32), (85 : Int32)] := ⟨Ex71, Fc71, Fv71, ⟨kb71, V71⟩, by decide, by decide⟩
    refine own_step st71 ?_
    show own_Go _ _ _ _ T71 (mkF mm_ 54 #[.val (.int p1), .val (.int p2), .val (.int p3), .val (.int (1 : Int32)), .val (.int (p2 &&& (255 : Int32))), .val (.int (p3 &&& (255 : Int32))), .val (.ref b59), .unset, .unset, .unset] [(.ref a71), (.ref b59)])
    have f73 : own_Str Z h71 b59 t64 [(p2 &&& (255 : Int32)), (p3 &&& (255 : Int32))] := (Fs64.ext E71)
    have O74 : Old Z n0 h71 := ((O69.keep Kc64 (allS g_b59 all0)).ext E71)
    have f75 : Exa Z h71 b59 "java/lang/String" := ((f66.keep Kc64).ext E71)
    obtain ⟨_, T72, Lc72, X72, hQ72, st72⟩ := own_cV X71 hx hZ71 hown71 (own_w hw 33 rfl) (own_w hw 34 rfl) (notFace_of_selects (args := #[]) (mvT hZ71 (own_w hw 36 rfl))) (own_w hw 36 rfl) (own_w hw 35 rfl) (by decide) (own_eqS (W := 0) hZ71 hw f73 Ls71 (G_cs.ext O74.2) G_cs0 (by decide) (by decide)) f75 (g := (mkF mm_ 54 #[.val (.int p1), .val (.int p2), .val (.int p3), .val (.int (1 : Int32)), .val (.int (p2 &&& (255 : Int32))), .val (.int (p3 &&& (255 : Int32))), .val (.ref b59), .unset, .unset, .unset] [(.ref a71), (.ref b59)])) rfl (by rw [hml]; rfl) (argsL := [(.ref a71)]) (rest := []) (lenOf pd_1 rfl) rfl (by show 2 * 0 + _ ≤ _; exact Nat.le_of_eq rfl) (hb hby at_54) rfl e71 (by decide) (by decide)
    obtain ⟨⟨rfl, hq72⟩ | ⟨rfl, hq72⟩, rfl, Eh72⟩ := hQ72
    · skip
      have N72 := Fr.app N64 (Fr.nil n0)
      refine own_jump st72 ?_
      refine own_step (fun t_ k_ => XS.ifNo X72.here hx rfl (hb hby at_57) rfl ((if0 _ _).trans (feq (by decide : ¬ ((1 : Int32) = (0 : Int32)))).1) k_) ?_
      show own_Go _ _ _ _ T72 (mkF mm_ 60 #[.val (.int p1), .val (.int p2), .val (.int p3), .val (.int (1 : Int32)), .val (.int (p2 &&& (255 : Int32))), .val (.int (p3 &&& (255 : Int32))), .val (.ref b59), .unset, .unset, .unset] [])
      refine own_step (fun t_ k_ => XS.aload X72.here hx rfl (hb hby at_60) rfl rfl (XS.astore X72.here hx rfl (hb hby at_62) rfl rfl (l' := #[.val (.int p1), .val (.int p2), .val (.int p3), .val (.int (1 : Int32)), .val (.int (p2 &&& (255 : Int32))), .val (.int (p3 &&& (255 : Int32))), .val (.ref b59), .val (.ref b59), .unset, .unset]) rfl k_)) ?_
      show own_Go _ _ _ _ T72 (mkF mm_ 64 #[.val (.int p1), .val (.int p2), .val (.int p3), .val (.int (1 : Int32)), .val (.int (p2 &&& (255 : Int32))), .val (.int (p3 &&& (255 : Int32))), .val (.ref b59), .val (.ref b59), .unset, .unset] [])
      obtain ⟨T76, X76, e76, st76⟩ := getS2 X72 hx hZ71 hown71 (host := "") (Or.inl (own_w hw 44 rfl)) Via.refl Eh72 (G_S1.ext O74.2) (g := (mkF mm_ 64 #[.val (.int p1), .val (.int p2), .val (.int p3), .val (.int (1 : Int32)), .val (.int (p2 &&& (255 : Int32))), .val (.int (p3 &&& (255 : Int32))), .val (.ref b59), .val (.ref b59), .unset, .unset] [])) rfl (hb hby at_64)
      refine own_step st76 ?_
      show own_Go _ _ _ _ T76 (mkF mm_ 67 #[.val (.int p1), .val (.int p2), .val (.int p3), .val (.int (1 : Int32)), .val (.int (p2 &&& (255 : Int32))), .val (.int (p3 &&& (255 : Int32))), .val (.ref b59), .val (.ref b59), .unset, .unset] [(.ref w_0)])
      refine own_step (fun t_ k_ => XS.astore X76.here hx rfl (hb hby at_67) rfl rfl (l' := #[.val (.int p1), .val (.int p2), .val (.int p3), .val (.int (1 : Int32)), .val (.int (p2 &&& (255 : Int32))), .val (.int (p3 &&& (255 : Int32))), .val (.ref b59), .val (.ref b59), .val (.ref w_0), .unset]) rfl (XS.goto X76.here hx rfl (pc0 := 69) (pc' := 155) rfl (hb hby at_69) (by decide) (by decide) (XS.aload X76.here hx rfl (hb hby at_155) rfl rfl k_))) ?_
      show own_Go _ _ _ _ T76 (mkF mm_ 157 #[.val (.int p1), .val (.int p2), .val (.int p3), .val (.int (1 : Int32)), .val (.int (p2 &&& (255 : Int32))), .val (.int (p3 &&& (255 : Int32))), .val (.ref b59), .val (.ref b59), .val (.ref w_0), .unset] [(.ref b59)])
      obtain ⟨_, T77, Lc77, X77, hQ77, st77⟩ := own_cS X76 hx hZ71 hown71 (own_w hw 47 rfl) (own_w hw 48 rfl) (own_w hw 45 rfl) (own_w hw 49 rfl) (by decide) (backOf (W := 0) (rmO0 l Z a0 hw [] b59 t64 h71 n0 O74 G_ (f73.cast hq72)) hZ71 (own_w hw 49 rfl) (own_w hw 45 rfl) (by decide) (by decide)) (g := (mkF mm_ 157 #[.val (.int p1), .val (.int p2), .val (.int p3), .val (.int (1 : Int32)), .val (.int (p2 &&& (255 : Int32))), .val (.int (p3 &&& (255 : Int32))), .val (.ref b59), .val (.ref b59), .val (.ref w_0), .unset] [(.ref b59)])) rfl (by rw [hml]; rfl) (argsL := [(.ref b59)]) (rest := []) (lenOf pd_3 rfl) rfl (by show 2 * 0 + _ ≤ _; exact Nat.le_of_eq rfl) (hb hby at_157) rfl e76 (by decide) (by decide)
      obtain ⟨rfl, Nq77, Kc77⟩ := hQ77
      have N77 := Fr.app N72 Nq77
      refine own_jump st77 ?_
      show own_Go _ _ _ _ T77 (mkF mm_ 160 #[.val (.int p1), .val (.int p2), .val (.int p3), .val (.int (1 : Int32)), .val (.int (p2 &&& (255 : Int32))), .val (.int (p3 &&& (255 : Int32))), .val (.ref b59), .val (.ref b59), .val (.ref w_0), .unset] [(.ref w_0)])
      refine own_step (fun t_ k_ => XS.astore X77.here hx rfl (hb hby at_160) rfl rfl (l' := #[.val (.int p1), .val (.int p2), .val (.int p3), .val (.int (1 : Int32)), .val (.int (p2 &&& (255 : Int32))), .val (.int (p3 &&& (255 : Int32))), .val (.ref b59), .val (.ref b59), .val (.ref w_0), .val (.ref w_0)]) rfl (XS.aload X77.here hx rfl (hb hby at_162) rfl rfl (XS.aload X77.here hx rfl (hb hby at_164) rfl rfl k_))) ?_
      show own_Go _ _ _ _ T77 (mkF mm_ 166 #[.val (.int p1), .val (.int p2), .val (.int p3), .val (.int (1 : Int32)), .val (.int (p2 &&& (255 : Int32))), .val (.int (p3 &&& (255 : Int32))), .val (.ref b59), .val (.ref b59), .val (.ref w_0), .val (.ref w_0)] [(.ref w_0), (.ref w_0)])
      refine own_step (fun t_ k_ => Jvm.RoadKit.acmp (g := (mkF mm_ 166 #[.val (.int p1), .val (.int p2), .val (.int p3), .val (.int (1 : Int32)), .val (.int (p2 &&& (255 : Int32))), .val (.int (p3 &&& (255 : Int32))), .val (.ref b59), .val (.ref b59), .val (.ref w_0), .val (.ref w_0)] [(.ref w_0), (.ref w_0)])) X77 hx rfl rfl rfl (pc0 := 166) (pc' := 169) (same := true) rfl (hb hby at_166) rfl (decide_eq_true rfl) (by decide) (by decide) (XS.aload X77.here hx rfl (hb hby at_169) rfl rfl k_)) ?_
      show own_Go _ _ _ _ T77 (mkF mm_ 171 #[.val (.int p1), .val (.int p2), .val (.int p3), .val (.int (1 : Int32)), .val (.int (p2 &&& (255 : Int32))), .val (.int (p3 &&& (255 : Int32))), .val (.ref b59), .val (.ref b59), .val (.ref w_0), .val (.ref w_0)] [(.ref w_0)])
      have O79 : Old Z n0 T77.heap := (O74.keep Kc77 all0)
      obtain ⟨_, T78, Lc78, X78, hQ78, st78⟩ := own_cV X77 hx hZ71 hown71 (own_w hw 69 rfl) (own_w hw 70 rfl) (notFace_of_selects (args := #[]) (mvT hZ71 (own_w hw 72 rfl))) (own_w hw 72 rfl) (own_w hw 71 rfl) (by decide) (backOf (W := 0) (rmG l Z a0 hw [] w_0 s_0 T77.heap n0 O79 (G_F8.ext O79.2)) hZ71 (own_w hw 73 rfl) (own_w hw 45 rfl) (by decide) (by decide)) (G_E4.ext O79.2) (g := (mkF mm_ 171 #[.val (.int p1), .val (.int p2), .val (.int p3), .val (.int (1 : Int32)), .val (.int (p2 &&& (255 : Int32))), .val (.int (p3 &&& (255 : Int32))), .val (.ref b59), .val (.ref b59), .val (.ref w_0), .val (.ref w_0)] [(.ref w_0)])) rfl (by rw [hml]; rfl) (argsL := []) (rest := []) (lenOf pd_4 rfl) rfl (by show 2 * 0 + _ ≤ _; exact Nat.le_of_eq rfl) (hb hby at_171) rfl rfl (by decide) (by decide)
      obtain ⟨rfl, rfl, Eh78⟩ := hQ78
      have N78 := Fr.app N77 (Fr.nil n0)
      refine own_jump st78 ?_
      show own_Go _ _ _ _ T78 (mkF mm_ 174 #[.val (.int p1), .val (.int p2), .val (.int p3), .val (.int (1 : Int32)), .val (.int (p2 &&& (255 : Int32))), .val (.int (p3 &&& (255 : Int32))), .val (.ref b59), .val (.ref b59), .val (.ref w_0), .val (.ref w_0)] [(.ref s_0)])
      refine own_step (fun t_ k_ => XS.aload X78.here hx rfl (hb hby at_174) rfl rfl k_) ?_
      show own_Go _ _ _ _ T78 (mkF mm_ 176 #[.val (.int p1), .val (.int p2), .val (.int p3), .val (.int (1 : Int32)), .val (.int (p2 &&& (255 : Int32))), .val (.int (p3 &&& (255 : Int32))), .val (.ref b59), .val (.ref b59), .val (.ref w_0), .val (.ref w_0)] [(.ref b59), (.ref s_0)])
      have f81 : own_Str Z T77.heap b59 t64 [(66 : Int32), (85 : Int32)] := ((f73.cast hq72).keep Kc77 nin0 nin0)
      obtain ⟨_, T80, Lc80, X80, hQ80, st80⟩ := own_cV X78 hx hZ71 hown71 (own_w hw 33 rfl) (own_w hw 34 rfl) (notFace_of_selects (args := #[]) (mvT hZ71 (own_w hw 36 rfl))) (own_w hw 36 rfl) (own_w hw 35 rfl) (by decide) (own_eqS (W := 0) hZ71 hw (G_T9.ext O79.2) f81 (G_cs.ext O79.2) G_cs0 (by decide) (by decide)) (G_T9.ext O79.2).1 (g := (mkF mm_ 176 #[.val (.int p1), .val (.int p2), .val (.int p3), .val (.int (1 : Int32)), .val (.int (p2 &&& (255 : Int32))), .val (.int (p3 &&& (255 : Int32))), .val (.ref b59), .val (.ref b59), .val (.ref w_0), .val (.ref w_0)] [(.ref b59), (.ref s_0)])) rfl (by rw [hml]; rfl) (argsL := [(.ref b59)]) (rest := []) (lenOf pd_1 rfl) rfl (by show 2 * 0 + _ ≤ _; exact Nat.le_of_eq rfl) (hb hby at_176) rfl Eh78 (by decide) (by decide)
      obtain ⟨⟨rfl, -⟩ | ⟨-, hq80⟩, rfl, Eh80⟩ := hQ80
      rotate_left
      · exact absurd rfl hq80
      have N80 := Fr.app N78 (Fr.nil n0)
      refine own_jump st80 ?_
      show own_Go _ _ _ _ T80 (mkF mm_ 179 #[.val (.int p1), .val (.int p2), .val (.int p3), .val (.int (1 : Int32)), .val (.int (p2 &&& (255 : Int32))), .val (.int (p3 &&& (255 : Int32))), .val (.ref b59), .val (.ref b59), .val (.ref w_0), .val (.ref w_0)] [(.int (1 : Int32))])
      refine own_step (fun t_ k_ => XS.ifNo X80.here hx rfl (hb hby at_179) rfl ((if0 _ _).trans (feq (by decide : ¬ ((1 : Int32) = (0 : Int32)))).1) k_) ?_
      show own_Go _ _ _ _ T80 (mkF mm_ 182 #[.val (.int p1), .val (.int p2), .val (.int p3), .val (.int (1 : Int32)), .val (.int (p2 &&& (255 : Int32))), .val (.int (p3 &&& (255 : Int32))), .val (.ref b59), .val (.ref b59), .val (.ref w_0), .val (.ref w_0)] [])
      refine own_step (fun t_ k_ => XS.iconst X80.here hx rfl (hb hby at_182) (XS.goto X80.here hx rfl (pc0 := 183) (pc' := 187) rfl (hb hby at_183) (by decide) (by decide) k_)) ?_
      show own_Go _ _ _ _ T80 (mkF mm_ 187 #[.val (.int p1), .val (.int p2), .val (.int p3), .val (.int (1 : Int32)), .val (.int (p2 &&& (255 : Int32))), .val (.int (p3 &&& (255 : Int32))), .val (.ref b59), .val (.ref b59), .val (.ref w_0), .val (.ref w_0)] [(.int (1 : Int32))])
      have K82 : Keep h0 T77.heap [] := (((K70.trans Kc64 (allS (Or.inr lo_b59) all0)).ext E71).trans Kc77 all0)
      obtain ⟨fs, hr, hrun, hended, hEnd⟩ := X80.leaveW hS71 (by rw [Eh80]; exact (Nat.le_trans hk71 Kc77.1)) (v := some (.int (1 : Int32))) (fun h => by rw [Bd.returns] at h; cases h)
      refine ⟨_, _, ?_, hrun, hended, _, _, rfl, ?_, own_IB_mono (own_IB_warm I71 X80.warmed) (by intro t_ h_; first | exact h_ | exact List.mem_cons_of_mem _ h_ | (revert t_ h_; decide)), own_endMono hEnd (by decide) (by decide)⟩
      · exact retN X80 hx (t := .boolean) Bd.returns (by simp) (hb hby at_187) hr
      · show Qrm0 Z p1 p2 p3 h0 n0 (some (.int (1 : Int32))) T80.heap _
        rw [Eh80]
        exact ⟨rfl, N80, K82⟩
    · skip
      have N72 := Fr.app N64 (Fr.nil n0)
      refine own_jump st72 ?_
      refine own_step (fun t_ k_ => XS.ifYes X72.here hx rfl (pc0 := 57) (pc' := 72) rfl (hb hby at_57) rfl ((if0 _ _).trans (teq (by decide : (0 : Int32) = (0 : Int32))).1) (by decide) (by decide) k_) ?_
      show own_Go _ _ _ _ T72 (mkF mm_ 72 #[.val (.int p1), .val (.int p2), .val (.int p3), .val (.int (1 : Int32)), .val (.int (p2 &&& (255 : Int32))), .val (.int (p3 &&& (255 : Int32))), .val (.ref b59), .unset, .unset, .unset] [])
      refine own_step (fun t_ k_ => XS.aload X72.here hx rfl (hb hby at_72) rfl rfl k_) ?_
      show own_Go _ _ _ _ T72 (mkF mm_ 74 #[.val (.int p1), .val (.int p2), .val (.int p3), .val (.int (1 : Int32)), .val (.int (p2 &&& (255 : Int32))), .val (.int (p3 &&& (255 : Int32))), .val (.ref b59), .unset, .unset, .unset] [(.ref b59)])
      obtain ⟨a83, T83, h83, k83, t83, kb83, X83, e83, E83, hS83, hk83, hZ83, hown83, Ex83, Fc83, Fv83, V83, -, -, I83, L83, st83⟩ := ldcSVL (s := ss_) (vm0 := T71.vm) X72 hx hZ71 hown71 (own_w hw 43 rfl) own_atoms_ Eh72 hS71 hk71 (by rw [hh, hn0]; exact N72) hkeep_ I71 (by first | assumption | decide) (G_h_com_example_clearwrit_clearwrit_SideOfUtiCodePinLaw_24) own_cw_ (vs := [(.int (83 : Int32)), (.int (69 : Int32))]) (z := (2 : Int32)) ⟨by decide, rfl⟩ (by decide) (by decide) (g := (mkF mm_ 74 #[.val (.int p1), .val (.int p2), .val (.int p3), .val (.int (1 : Int32)), .val (.int (p2 &&& (255 : Int32))), .val (.int (p3 &&& (255 : Int32))), .val (.ref b59), .unset, .unset, .unset] [(.ref b59)])) rfl (hb hby at_74) (n := 8) (by decide) (by decide) (by decide) (by decide)
      have Ls83 : own_Str Z h83 a83 t83 [(83 : Int32), (69 : Int32)] := ⟨Ex83, Fc83, Fv83, ⟨kb83, V83⟩, by decide, by decide⟩
      refine own_step st83 ?_
      show own_Go _ _ _ _ T83 (mkF mm_ 76 #[.val (.int p1), .val (.int p2), .val (.int p3), .val (.int (1 : Int32)), .val (.int (p2 &&& (255 : Int32))), .val (.int (p3 &&& (255 : Int32))), .val (.ref b59), .unset, .unset, .unset] [(.ref a83), (.ref b59)])
      have f85 : own_Str Z h83 b59 t64 [(p2 &&& (255 : Int32)), (p3 &&& (255 : Int32))] := (f73.ext E83)
      have O86 : Old Z n0 h83 := (O74.ext E83)
      have f87 : Exa Z h83 b59 "java/lang/String" := (f75.ext E83)
      obtain ⟨_, T84, Lc84, X84, hQ84, st84⟩ := own_cV X83 hx hZ83 hown83 (own_w hw 33 rfl) (own_w hw 34 rfl) (notFace_of_selects (args := #[]) (mvT hZ83 (own_w hw 36 rfl))) (own_w hw 36 rfl) (own_w hw 35 rfl) (by decide) (own_eqS (W := 0) hZ83 hw f85 Ls83 (G_cs.ext O86.2) G_cs0 (by decide) (by decide)) f87 (g := (mkF mm_ 76 #[.val (.int p1), .val (.int p2), .val (.int p3), .val (.int (1 : Int32)), .val (.int (p2 &&& (255 : Int32))), .val (.int (p3 &&& (255 : Int32))), .val (.ref b59), .unset, .unset, .unset] [(.ref a83), (.ref b59)])) rfl (by rw [hml]; rfl) (argsL := [(.ref a83)]) (rest := []) (lenOf pd_1 rfl) rfl (by show 2 * 0 + _ ≤ _; exact Nat.le_of_eq rfl) (hb hby at_76) rfl e83 (by decide) (by decide)
      obtain ⟨⟨rfl, hq84⟩ | ⟨rfl, hq84⟩, rfl, Eh84⟩ := hQ84
      · skip
        have N84 := Fr.app N72 (Fr.nil n0)
        refine own_jump st84 ?_
        refine own_step (fun t_ k_ => XS.ifNo X84.here hx rfl (hb hby at_79) rfl ((if0 _ _).trans (feq (by decide : ¬ ((1 : Int32) = (0 : Int32)))).1) k_) ?_
        show own_Go _ _ _ _ T84 (mkF mm_ 82 #[.val (.int p1), .val (.int p2), .val (.int p3), .val (.int (1 : Int32)), .val (.int (p2 &&& (255 : Int32))), .val (.int (p3 &&& (255 : Int32))), .val (.ref b59), .unset, .unset, .unset] [])
        refine own_step (fun t_ k_ => XS.aload X84.here hx rfl (hb hby at_82) rfl rfl (XS.astore X84.here hx rfl (hb hby at_84) rfl rfl (l' := #[.val (.int p1), .val (.int p2), .val (.int p3), .val (.int (1 : Int32)), .val (.int (p2 &&& (255 : Int32))), .val (.int (p3 &&& (255 : Int32))), .val (.ref b59), .val (.ref b59), .unset, .unset]) rfl k_)) ?_
        show own_Go _ _ _ _ T84 (mkF mm_ 86 #[.val (.int p1), .val (.int p2), .val (.int p3), .val (.int (1 : Int32)), .val (.int (p2 &&& (255 : Int32))), .val (.int (p3 &&& (255 : Int32))), .val (.ref b59), .val (.ref b59), .unset, .unset] [])
        obtain ⟨T88, X88, e88, st88⟩ := getS2 X84 hx hZ83 hown83 (host := "") (Or.inl (own_w hw 74 rfl)) Via.refl Eh84 (G_S2.ext O86.2) (g := (mkF mm_ 86 #[.val (.int p1), .val (.int p2), .val (.int p3), .val (.int (1 : Int32)), .val (.int (p2 &&& (255 : Int32))), .val (.int (p3 &&& (255 : Int32))), .val (.ref b59), .val (.ref b59), .unset, .unset] [])) rfl (hb hby at_86)
        refine own_step st88 ?_
        show own_Go _ _ _ _ T88 (mkF mm_ 89 #[.val (.int p1), .val (.int p2), .val (.int p3), .val (.int (1 : Int32)), .val (.int (p2 &&& (255 : Int32))), .val (.int (p3 &&& (255 : Int32))), .val (.ref b59), .val (.ref b59), .unset, .unset] [(.ref w_1)])
        refine own_step (fun t_ k_ => XS.astore X88.here hx rfl (hb hby at_89) rfl rfl (l' := #[.val (.int p1), .val (.int p2), .val (.int p3), .val (.int (1 : Int32)), .val (.int (p2 &&& (255 : Int32))), .val (.int (p3 &&& (255 : Int32))), .val (.ref b59), .val (.ref b59), .val (.ref w_1), .unset]) rfl (XS.goto X88.here hx rfl (pc0 := 91) (pc' := 155) rfl (hb hby at_91) (by decide) (by decide) (XS.aload X88.here hx rfl (hb hby at_155) rfl rfl k_))) ?_
        show own_Go _ _ _ _ T88 (mkF mm_ 157 #[.val (.int p1), .val (.int p2), .val (.int p3), .val (.int (1 : Int32)), .val (.int (p2 &&& (255 : Int32))), .val (.int (p3 &&& (255 : Int32))), .val (.ref b59), .val (.ref b59), .val (.ref w_1), .unset] [(.ref b59)])
        obtain ⟨_, T89, Lc89, X89, hQ89, st89⟩ := own_cS X88 hx hZ83 hown83 (own_w hw 47 rfl) (own_w hw 48 rfl) (own_w hw 45 rfl) (own_w hw 49 rfl) (by decide) (backOf (W := 0) (rmO1 l Z a0 hw [] b59 t64 h83 n0 O86 G_ (f85.cast hq84)) hZ83 (own_w hw 49 rfl) (own_w hw 45 rfl) (by decide) (by decide)) (g := (mkF mm_ 157 #[.val (.int p1), .val (.int p2), .val (.int p3), .val (.int (1 : Int32)), .val (.int (p2 &&& (255 : Int32))), .val (.int (p3 &&& (255 : Int32))), .val (.ref b59), .val (.ref b59), .val (.ref w_1), .unset] [(.ref b59)])) rfl (by rw [hml]; rfl) (argsL := [(.ref b59)]) (rest := []) (lenOf pd_3 rfl) rfl (by show 2 * 0 + _ ≤ _; exact Nat.le_of_eq rfl) (hb hby at_157) rfl e88 (by decide) (by decide)
        obtain ⟨rfl, Nq89, Kc89⟩ := hQ89
        have N89 := Fr.app N84 Nq89
        refine own_jump st89 ?_
        show own_Go _ _ _ _ T89 (mkF mm_ 160 #[.val (.int p1), .val (.int p2), .val (.int p3), .val (.int (1 : Int32)), .val (.int (p2 &&& (255 : Int32))), .val (.int (p3 &&& (255 : Int32))), .val (.ref b59), .val (.ref b59), .val (.ref w_1), .unset] [(.ref w_1)])
        refine own_step (fun t_ k_ => XS.astore X89.here hx rfl (hb hby at_160) rfl rfl (l' := #[.val (.int p1), .val (.int p2), .val (.int p3), .val (.int (1 : Int32)), .val (.int (p2 &&& (255 : Int32))), .val (.int (p3 &&& (255 : Int32))), .val (.ref b59), .val (.ref b59), .val (.ref w_1), .val (.ref w_1)]) rfl (XS.aload X89.here hx rfl (hb hby at_162) rfl rfl (XS.aload X89.here hx rfl (hb hby at_164) rfl rfl k_))) ?_
        show own_Go _ _ _ _ T89 (mkF mm_ 166 #[.val (.int p1), .val (.int p2), .val (.int p3), .val (.int (1 : Int32)), .val (.int (p2 &&& (255 : Int32))), .val (.int (p3 &&& (255 : Int32))), .val (.ref b59), .val (.ref b59), .val (.ref w_1), .val (.ref w_1)] [(.ref w_1), (.ref w_1)])
        refine own_step (fun t_ k_ => Jvm.RoadKit.acmp (g := (mkF mm_ 166 #[.val (.int p1), .val (.int p2), .val (.int p3), .val (.int (1 : Int32)), .val (.int (p2 &&& (255 : Int32))), .val (.int (p3 &&& (255 : Int32))), .val (.ref b59), .val (.ref b59), .val (.ref w_1), .val (.ref w_1)] [(.ref w_1), (.ref w_1)])) X89 hx rfl rfl rfl (pc0 := 166) (pc' := 169) (same := true) rfl (hb hby at_166) rfl (decide_eq_true rfl) (by decide) (by decide) (XS.aload X89.here hx rfl (hb hby at_169) rfl rfl k_)) ?_
        show own_Go _ _ _ _ T89 (mkF mm_ 171 #[.val (.int p1), .val (.int p2), .val (.int p3), .val (.int (1 : Int32)), .val (.int (p2 &&& (255 : Int32))), .val (.int (p3 &&& (255 : Int32))), .val (.ref b59), .val (.ref b59), .val (.ref w_1), .val (.ref w_1)] [(.ref w_1)])
        have O91 : Old Z n0 T89.heap := (O86.keep Kc89 all0)
        obtain ⟨_, T90, Lc90, X90, hQ90, st90⟩ := own_cV X89 hx hZ83 hown83 (own_w hw 69 rfl) (own_w hw 70 rfl) (notFace_of_selects (args := #[]) (mvT hZ83 (own_w hw 72 rfl))) (own_w hw 72 rfl) (own_w hw 71 rfl) (by decide) (backOf (W := 0) (rmG l Z a0 hw [] w_1 s_1 T89.heap n0 O91 (G_F13.ext O91.2)) hZ83 (own_w hw 73 rfl) (own_w hw 45 rfl) (by decide) (by decide)) (G_E5.ext O91.2) (g := (mkF mm_ 171 #[.val (.int p1), .val (.int p2), .val (.int p3), .val (.int (1 : Int32)), .val (.int (p2 &&& (255 : Int32))), .val (.int (p3 &&& (255 : Int32))), .val (.ref b59), .val (.ref b59), .val (.ref w_1), .val (.ref w_1)] [(.ref w_1)])) rfl (by rw [hml]; rfl) (argsL := []) (rest := []) (lenOf pd_4 rfl) rfl (by show 2 * 0 + _ ≤ _; exact Nat.le_of_eq rfl) (hb hby at_171) rfl rfl (by decide) (by decide)
        obtain ⟨rfl, rfl, Eh90⟩ := hQ90
        have N90 := Fr.app N89 (Fr.nil n0)
        refine own_jump st90 ?_
        show own_Go _ _ _ _ T90 (mkF mm_ 174 #[.val (.int p1), .val (.int p2), .val (.int p3), .val (.int (1 : Int32)), .val (.int (p2 &&& (255 : Int32))), .val (.int (p3 &&& (255 : Int32))), .val (.ref b59), .val (.ref b59), .val (.ref w_1), .val (.ref w_1)] [(.ref s_1)])
        refine own_step (fun t_ k_ => XS.aload X90.here hx rfl (hb hby at_174) rfl rfl k_) ?_
        show own_Go _ _ _ _ T90 (mkF mm_ 176 #[.val (.int p1), .val (.int p2), .val (.int p3), .val (.int (1 : Int32)), .val (.int (p2 &&& (255 : Int32))), .val (.int (p3 &&& (255 : Int32))), .val (.ref b59), .val (.ref b59), .val (.ref w_1), .val (.ref w_1)] [(.ref b59), (.ref s_1)])
        have f93 : own_Str Z T89.heap b59 t64 [(83 : Int32), (69 : Int32)] := ((f85.cast hq84).keep Kc89 nin0 nin0)
        obtain ⟨_, T92, Lc92, X92, hQ92, st92⟩ := own_cV X90 hx hZ83 hown83 (own_w hw 33 rfl) (own_w hw 34 rfl) (notFace_of_selects (args := #[]) (mvT hZ83 (own_w hw 36 rfl))) (own_w hw 36 rfl) (own_w hw 35 rfl) (by decide) (own_eqS (W := 0) hZ83 hw (G_T14.ext O91.2) f93 (G_cs.ext O91.2) G_cs0 (by decide) (by decide)) (G_T14.ext O91.2).1 (g := (mkF mm_ 176 #[.val (.int p1), .val (.int p2), .val (.int p3), .val (.int (1 : Int32)), .val (.int (p2 &&& (255 : Int32))), .val (.int (p3 &&& (255 : Int32))), .val (.ref b59), .val (.ref b59), .val (.ref w_1), .val (.ref w_1)] [(.ref b59), (.ref s_1)])) rfl (by rw [hml]; rfl) (argsL := [(.ref b59)]) (rest := []) (lenOf pd_1 rfl) rfl (by show 2 * 0 + _ ≤ _; exact Nat.le_of_eq rfl) (hb hby at_176) rfl Eh90 (by decide) (by decide)
        obtain ⟨⟨rfl, -⟩ | ⟨-, hq92⟩, rfl, Eh92⟩ := hQ92
        rotate_left
        · exact absurd rfl hq92
        have N92 := Fr.app N90 (Fr.nil n0)
        refine own_jump st92 ?_
        show own_Go _ _ _ _ T92 (mkF mm_ 179 #[.val (.int p1), .val (.int p2), .val (.int p3), .val (.int (1 : Int32)), .val (.int (p2 &&& (255 : Int32))), .val (.int (p3 &&& (255 : Int32))), .val (.ref b59), .val (.ref b59), .val (.ref w_1), .val (.ref w_1)] [(.int (1 : Int32))])
        refine own_step (fun t_ k_ => XS.ifNo X92.here hx rfl (hb hby at_179) rfl ((if0 _ _).trans (feq (by decide : ¬ ((1 : Int32) = (0 : Int32)))).1) k_) ?_
        show own_Go _ _ _ _ T92 (mkF mm_ 182 #[.val (.int p1), .val (.int p2), .val (.int p3), .val (.int (1 : Int32)), .val (.int (p2 &&& (255 : Int32))), .val (.int (p3 &&& (255 : Int32))), .val (.ref b59), .val (.ref b59), .val (.ref w_1), .val (.ref w_1)] [])
        refine own_step (fun t_ k_ => XS.iconst X92.here hx rfl (hb hby at_182) (XS.goto X92.here hx rfl (pc0 := 183) (pc' := 187) rfl (hb hby at_183) (by decide) (by decide) k_)) ?_
        show own_Go _ _ _ _ T92 (mkF mm_ 187 #[.val (.int p1), .val (.int p2), .val (.int p3), .val (.int (1 : Int32)), .val (.int (p2 &&& (255 : Int32))), .val (.int (p3 &&& (255 : Int32))), .val (.ref b59), .val (.ref b59), .val (.ref w_1), .val (.ref w_1)] [(.int (1 : Int32))])
        have K94 : Keep h0 T89.heap [] := ((((K70.trans Kc64 (allS (Or.inr lo_b59) all0)).ext E71).ext E83).trans Kc89 all0)
        obtain ⟨fs, hr, hrun, hended, hEnd⟩ := X92.leaveW hS83 (by rw [Eh92]; exact (Nat.le_trans hk83 Kc89.1)) (v := some (.int (1 : Int32))) (fun h => by rw [Bd.returns] at h; cases h)
        refine ⟨_, _, ?_, hrun, hended, _, _, rfl, ?_, own_IB_mono (own_IB_warm I83 X92.warmed) (by intro t_ h_; first | exact h_ | exact List.mem_cons_of_mem _ h_ | (revert t_ h_; decide)), own_endMono hEnd (by decide) (by decide)⟩
        · exact retN X92 hx (t := .boolean) Bd.returns (by simp) (hb hby at_187) hr
        · show Qrm0 Z p1 p2 p3 h0 n0 (some (.int (1 : Int32))) T92.heap _
          rw [Eh92]
          exact ⟨rfl, N92, K94⟩
      · skip
        have N84 := Fr.app N72 (Fr.nil n0)
        refine own_jump st84 ?_
        refine own_step (fun t_ k_ => XS.ifYes X84.here hx rfl (pc0 := 79) (pc' := 94) rfl (hb hby at_79) rfl ((if0 _ _).trans (teq (by decide : (0 : Int32) = (0 : Int32))).1) (by decide) (by decide) k_) ?_
        show own_Go _ _ _ _ T84 (mkF mm_ 94 #[.val (.int p1), .val (.int p2), .val (.int p3), .val (.int (1 : Int32)), .val (.int (p2 &&& (255 : Int32))), .val (.int (p3 &&& (255 : Int32))), .val (.ref b59), .unset, .unset, .unset] [])
        refine own_step (fun t_ k_ => XS.iloadN X84.here hx rfl (hb hby at_94) rfl  k_) ?_
        show own_Go _ _ _ _ T84 (mkF mm_ 95 #[.val (.int p1), .val (.int p2), .val (.int p3), .val (.int (1 : Int32)), .val (.int (p2 &&& (255 : Int32))), .val (.int (p3 &&& (255 : Int32))), .val (.ref b59), .unset, .unset, .unset] [(.int (1 : Int32))])
        refine own_step (fun t_ k_ => XS.ifNo X84.here hx rfl (hb hby at_95) rfl ((if0 _ _).trans (feq (by decide : ¬ ((1 : Int32) = (0 : Int32)))).1) k_) ?_
        show own_Go _ _ _ _ T84 (mkF mm_ 98 #[.val (.int p1), .val (.int p2), .val (.int p3), .val (.int (1 : Int32)), .val (.int (p2 &&& (255 : Int32))), .val (.int (p3 &&& (255 : Int32))), .val (.ref b59), .unset, .unset, .unset] [])
        obtain ⟨T95, h95, X95, e95, E95, A95, D95, -, st95⟩ := newO X84 hx hZ83 hown83 (own_w hw 0 rfl) (own_w hw 1 rfl) (own_w hw 2 rfl) Eh84 (g := (mkF mm_ 98 #[.val (.int p1), .val (.int p2), .val (.int p3), .val (.int (1 : Int32)), .val (.int (p2 &&& (255 : Int32))), .val (.int (p3 &&& (255 : Int32))), .val (.ref b59), .unset, .unset, .unset] [])) rfl (hb hby at_98) (by decide) (by decide)
        obtain ⟨b95, q95⟩ : ∃ z, z = h83.size := ⟨_, rfl⟩
        rw [← q95] at A95 D95 st95
        have K96 : Keep h0 h83 [] := (((K70.trans Kc64 (allS (Or.inr lo_b59) all0)).ext E71).ext E83)
        have lo_b95 : h0.size ≤ b95 := Nat.le_trans K96.1 (Nat.le_of_eq q95.symm)
        have g_b95 : n0 ≤ b95 := Nat.le_trans Z0 lo_b95
        refine own_step st95 ?_
        have F95_coder : Fld Z h95 b95 "java/lang/String" "coder" "B" (.int (0 : Int32)) := D95 (Or.inr (own_w hw 27 rfl)) (ty := .byte) (by decide)
        have F95_value : Fld Z h95 b95 "java/lang/String" "value" "[B" .null := D95 (Or.inr (own_w hw 29 rfl)) (ty := (.array .byte)) (by decide)
        show own_Go _ _ _ _ T95 (mkF mm_ 101 #[.val (.int p1), .val (.int p2), .val (.int p3), .val (.int (1 : Int32)), .val (.int (p2 &&& (255 : Int32))), .val (.int (p3 &&& (255 : Int32))), .val (.ref b59), .unset, .unset, .unset] [(.ref b95)])
        refine own_step (fun t_ k_ => XS.dup X95.here hx rfl (hb hby at_101) rfl rfl (XS.iconst X95.here hx rfl (hb hby at_102) k_)) ?_
        show own_Go _ _ _ _ T95 (mkF mm_ 103 #[.val (.int p1), .val (.int p2), .val (.int p3), .val (.int (1 : Int32)), .val (.int (p2 &&& (255 : Int32))), .val (.int (p3 &&& (255 : Int32))), .val (.ref b59), .unset, .unset, .unset] [(.int (2 : Int32)), (.ref b95), (.ref b95)])
        obtain ⟨T97, h97, k97, X97, e97, E97, A97, st97⟩ := newP X95 hx hZ83 (own_w hw 3 rfl) e95 (g := (mkF mm_ 103 #[.val (.int p1), .val (.int p2), .val (.int p3), .val (.int (1 : Int32)), .val (.int (p2 &&& (255 : Int32))), .val (.int (p3 &&& (255 : Int32))), .val (.ref b59), .unset, .unset, .unset] [(.int (2 : Int32)), (.ref b95), (.ref b95)])) rfl (hb hby at_103) rfl (by decide) (cap := 2) (by decide) (by decide) (by decide) (by decide)
        obtain ⟨b97, q97⟩ : ∃ z, z = h95.size := ⟨_, rfl⟩
        rw [← q97] at A97 st97
        have K98 : Keep h0 h95 [] := (K96.ext E95)
        have lo_b97 : h0.size ≤ b97 := Nat.le_trans K98.1 (Nat.le_of_eq q97.symm)
        have g_b97 : n0 ≤ b97 := Nat.le_trans Z0 lo_b97
        refine own_step st97 ?_
        have V97 : Arv Z h97 b97 k97 .char (2 : Int32) [(.int (0 : Int32)), (.int (0 : Int32))] (.int (0 : Int32)) := (Arv.new A97 (by decide)).pad (pad_rep [] (.int (0 : Int32)) 2)
        show own_Go _ _ _ _ T97 (mkF mm_ 105 #[.val (.int p1), .val (.int p2), .val (.int p3), .val (.int (1 : Int32)), .val (.int (p2 &&& (255 : Int32))), .val (.int (p3 &&& (255 : Int32))), .val (.ref b59), .unset, .unset, .unset] [(.ref b97), (.ref b95), (.ref b95)])
        refine own_step (fun t_ k_ => XS.dup X97.here hx rfl (hb hby at_105) rfl rfl (XS.iconst X97.here hx rfl (hb hby at_106) (XS.bipush X97.here hx rfl (hb hby at_107) k_))) ?_
        show own_Go _ _ _ _ T97 (mkF mm_ 109 #[.val (.int p1), .val (.int p2), .val (.int p3), .val (.int (1 : Int32)), .val (.int (p2 &&& (255 : Int32))), .val (.int (p3 &&& (255 : Int32))), .val (.ref b59), .unset, .unset, .unset] [(.int (83 : Int32)), (.int (0 : Int32)), (.ref b97), (.ref b97), (.ref b95), (.ref b95)])
        obtain ⟨cl99, Ar99, q99, S99, M99, H99, G99⟩ := id V97
        have hin99 : ¬ ((0 : Int32) < 0 ∨ cl99.slots.size ≤ ((0 : Int32)).toNatClampNeg) := inb_of S99 ⟨by decide, by decide⟩
        obtain ⟨T99, h99, X99, e99, W99, st99⟩ := stC X97 hx hZ83 e97 Ar99 (j := (0 : Int32)) hin99 (g := (mkF mm_ 109 #[.val (.int p1), .val (.int p2), .val (.int p3), .val (.int (1 : Int32)), .val (.int (p2 &&& (255 : Int32))), .val (.int (p3 &&& (255 : Int32))), .val (.ref b59), .unset, .unset, .unset] [(.int (83 : Int32)), (.int (0 : Int32)), (.ref b97), (.ref b97), (.ref b95), (.ref b95)])) rfl rfl (hb hby at_109)
        have V99 : Arv Z h99 b97 k97 .char (2 : Int32) [(.int (83 : Int32)), (.int (0 : Int32))] (.int (0 : Int32)) := Arv.set Ar99 q99 S99 M99 H99 G99 (fits_nar_char _) W99 0 rfl (Nat.le_of_ble_eq_true rfl)
        have N99 := Fr.snoc X99 N84 g_b97
        refine own_step st99 ?_
        show own_Go _ _ _ _ T99 (mkF mm_ 110 #[.val (.int p1), .val (.int p2), .val (.int p3), .val (.int (1 : Int32)), .val (.int (p2 &&& (255 : Int32))), .val (.int (p3 &&& (255 : Int32))), .val (.ref b59), .unset, .unset, .unset] [(.ref b97), (.ref b95), (.ref b95)])
        refine own_step (fun t_ k_ => XS.dup X99.here hx rfl (hb hby at_110) rfl rfl (XS.iconst X99.here hx rfl (hb hby at_111) (XS.bipush X99.here hx rfl (hb hby at_112) k_))) ?_
        show own_Go _ _ _ _ T99 (mkF mm_ 114 #[.val (.int p1), .val (.int p2), .val (.int p3), .val (.int (1 : Int32)), .val (.int (p2 &&& (255 : Int32))), .val (.int (p3 &&& (255 : Int32))), .val (.ref b59), .unset, .unset, .unset] [(.int (69 : Int32)), (.int (1 : Int32)), (.ref b97), (.ref b97), (.ref b95), (.ref b95)])
        obtain ⟨cl100, Ar100, q100, S100, M100, H100, G100⟩ := id V99
        have hin100 : ¬ ((1 : Int32) < 0 ∨ cl100.slots.size ≤ ((1 : Int32)).toNatClampNeg) := inb_of S100 ⟨by decide, by decide⟩
        obtain ⟨T100, h100, X100, e100, W100, st100⟩ := stC X99 hx hZ83 e99 Ar100 (j := (1 : Int32)) hin100 (g := (mkF mm_ 114 #[.val (.int p1), .val (.int p2), .val (.int p3), .val (.int (1 : Int32)), .val (.int (p2 &&& (255 : Int32))), .val (.int (p3 &&& (255 : Int32))), .val (.ref b59), .unset, .unset, .unset] [(.int (69 : Int32)), (.int (1 : Int32)), (.ref b97), (.ref b97), (.ref b95), (.ref b95)])) rfl rfl (hb hby at_114)
        have V100 : Arv Z h100 b97 k97 .char (2 : Int32) [(.int (83 : Int32)), (.int (69 : Int32))] (.int (0 : Int32)) := Arv.set Ar100 q100 S100 M100 H100 G100 (fits_nar_char _) W100 1 rfl (Nat.le_of_ble_eq_true rfl)
        have N100 := Fr.snoc X100 N99 g_b97
        refine own_step st100 ?_
        show own_Go _ _ _ _ T100 (mkF mm_ 115 #[.val (.int p1), .val (.int p2), .val (.int p3), .val (.int (1 : Int32)), .val (.int (p2 &&& (255 : Int32))), .val (.int (p3 &&& (255 : Int32))), .val (.ref b59), .unset, .unset, .unset] [(.ref b97), (.ref b95), (.ref b95)])
        have hp102 : ∀ ch_ ∈ ([(83 : Int32), (69 : Int32)] : List Int32), ¬ ch_ < 0 ∧ ¬ (255 : Int32) < ch_ := by
          intro ch_ hc
          simp only [List.mem_cons, List.not_mem_nil, or_false] at hc
          rcases hc with rfl | rfl
          · exact ⟨by decide, by decide⟩
          · exact ⟨by decide, by decide⟩
        have f103 : Exa Z h100 b95 "java/lang/String" := (((A95.ext E97).wr W99).wr W100)
        have f104 : Fld Z h100 b95 "java/lang/String" "value" "[B" .null := (((F95_value.ext E97).other W99 (Or.inl (Nat.ne_of_lt (Nat.lt_of_lt_of_le A95.lt (Nat.le_of_eq q97.symm))))).other W100 (Or.inl (Nat.ne_of_lt (Nat.lt_of_lt_of_le A95.lt (Nat.le_of_eq q97.symm)))))
        have f105 : Fld Z h100 b95 "java/lang/String" "coder" "B" (.int (0 : Int32)) := (((F95_coder.ext E97).other W99 (Or.inl (Nat.ne_of_lt (Nat.lt_of_lt_of_le A95.lt (Nat.le_of_eq q97.symm))))).other W100 (Or.inl (Nat.ne_of_lt (Nat.lt_of_lt_of_le A95.lt (Nat.le_of_eq q97.symm)))))
        have O106 : Old Z n0 h100 := ((((O86.ext E95).ext E97).wr W99 g_b97).wr W100 g_b97)
        have K107 : Keep h0 h100 [] := (((K98.ext E97).wr W99 (Or.inr lo_b97)).wr W100 (Or.inr lo_b97))
        obtain ⟨_, T101, Lc101, X101, hQ101, st101⟩ := own_cI X100 hx hZ83 rfl hown83 (own_w hw 4 rfl) (own_w hw 5 rfl) (own_w hw 6 rfl) (by decide) (own_newS (W := 1) hZ83 hw (cs := [(83 : Int32), (69 : Int32)]) (n := 2) g_b95 (Nat.le_trans Z0 K107.1) f103 f104 f105 V100 (G_cs.ext O106.2) G_cs0 rfl rfl rfl (by decide) (by decide) hp102 (by decide) (by decide)) (g := (mkF mm_ 115 #[.val (.int p1), .val (.int p2), .val (.int p3), .val (.int (1 : Int32)), .val (.int (p2 &&& (255 : Int32))), .val (.int (p3 &&& (255 : Int32))), .val (.ref b59), .unset, .unset, .unset] [(.ref b97), (.ref b95), (.ref b95)])) rfl (by rw [hml]; rfl) (a := b95) (argsL := [(.ref b97)]) (rest := [(.ref b95)]) (lenOf pd_2 rfl) rfl (by show 2 * 0 + _ ≤ _; exact Nat.le_of_eq rfl) (hb hby at_115) rfl e100 (by decide) (by decide)
        obtain ⟨t101, rfl, Nq101, Kc101, lo101, Fs101⟩ := hQ101
        have N101 := Fr.app N100 Nq101
        have lo_t101 : h0.size ≤ t101 := Nat.le_trans K107.1 lo101
        have g_t101 : n0 ≤ t101 := Nat.le_trans Z0 lo_t101
        refine own_jump st101 ?_
        show own_Go _ _ _ _ T101 (mkF mm_ 118 #[.val (.int p1), .val (.int p2), .val (.int p3), .val (.int (1 : Int32)), .val (.int (p2 &&& (255 : Int32))), .val (.int (p3 &&& (255 : Int32))), .val (.ref b59), .unset, .unset, .unset] [(.ref b95)])
        refine own_step (fun t_ k_ => XS.astore X101.here hx rfl (hb hby at_118) rfl rfl (l' := #[.val (.int p1), .val (.int p2), .val (.int p3), .val (.int (1 : Int32)), .val (.int (p2 &&& (255 : Int32))), .val (.int (p3 &&& (255 : Int32))), .val (.ref b59), .val (.ref b95), .unset, .unset]) rfl k_) ?_
        show own_Go _ _ _ _ T101 (mkF mm_ 120 #[.val (.int p1), .val (.int p2), .val (.int p3), .val (.int (1 : Int32)), .val (.int (p2 &&& (255 : Int32))), .val (.int (p3 &&& (255 : Int32))), .val (.ref b59), .val (.ref b95), .unset, .unset] [])
        have O108 : Old Z n0 T101.heap := (O106.keep Kc101 (allS g_b95 all0))
        obtain ⟨T109, X109, e109, st109⟩ := getS2 X101 hx hZ83 hown83 (host := "") (Or.inl (own_w hw 74 rfl)) Via.refl rfl (G_S2.ext O108.2) (g := (mkF mm_ 120 #[.val (.int p1), .val (.int p2), .val (.int p3), .val (.int (1 : Int32)), .val (.int (p2 &&& (255 : Int32))), .val (.int (p3 &&& (255 : Int32))), .val (.ref b59), .val (.ref b95), .unset, .unset] [])) rfl (hb hby at_120)
        refine own_step st109 ?_
        show own_Go _ _ _ _ T109 (mkF mm_ 123 #[.val (.int p1), .val (.int p2), .val (.int p3), .val (.int (1 : Int32)), .val (.int (p2 &&& (255 : Int32))), .val (.int (p3 &&& (255 : Int32))), .val (.ref b59), .val (.ref b95), .unset, .unset] [(.ref w_1)])
        refine own_step (fun t_ k_ => XS.astore X109.here hx rfl (hb hby at_123) rfl rfl (l' := #[.val (.int p1), .val (.int p2), .val (.int p3), .val (.int (1 : Int32)), .val (.int (p2 &&& (255 : Int32))), .val (.int (p3 &&& (255 : Int32))), .val (.ref b59), .val (.ref b95), .val (.ref w_1), .unset]) rfl (XS.goto X109.here hx rfl (pc0 := 125) (pc' := 155) rfl (hb hby at_125) (by decide) (by decide) (XS.aload X109.here hx rfl (hb hby at_155) rfl rfl k_))) ?_
        show own_Go _ _ _ _ T109 (mkF mm_ 157 #[.val (.int p1), .val (.int p2), .val (.int p3), .val (.int (1 : Int32)), .val (.int (p2 &&& (255 : Int32))), .val (.int (p3 &&& (255 : Int32))), .val (.ref b59), .val (.ref b95), .val (.ref w_1), .unset] [(.ref b95)])
        obtain ⟨_, T110, Lc110, X110, hQ110, st110⟩ := own_cS X109 hx hZ83 hown83 (own_w hw 47 rfl) (own_w hw 48 rfl) (own_w hw 45 rfl) (own_w hw 49 rfl) (by decide) (backOf (W := 0) (rmO1 l Z a0 hw [] b95 t101 T101.heap n0 O108 G_ Fs101) hZ83 (own_w hw 49 rfl) (own_w hw 45 rfl) (by decide) (by decide)) (g := (mkF mm_ 157 #[.val (.int p1), .val (.int p2), .val (.int p3), .val (.int (1 : Int32)), .val (.int (p2 &&& (255 : Int32))), .val (.int (p3 &&& (255 : Int32))), .val (.ref b59), .val (.ref b95), .val (.ref w_1), .unset] [(.ref b95)])) rfl (by rw [hml]; rfl) (argsL := [(.ref b95)]) (rest := []) (lenOf pd_3 rfl) rfl (by show 2 * 0 + _ ≤ _; exact Nat.le_of_eq rfl) (hb hby at_157) rfl e109 (by decide) (by decide)
        obtain ⟨rfl, Nq110, Kc110⟩ := hQ110
        have N110 := Fr.app N101 Nq110
        refine own_jump st110 ?_
        show own_Go _ _ _ _ T110 (mkF mm_ 160 #[.val (.int p1), .val (.int p2), .val (.int p3), .val (.int (1 : Int32)), .val (.int (p2 &&& (255 : Int32))), .val (.int (p3 &&& (255 : Int32))), .val (.ref b59), .val (.ref b95), .val (.ref w_1), .unset] [(.ref w_1)])
        refine own_step (fun t_ k_ => XS.astore X110.here hx rfl (hb hby at_160) rfl rfl (l' := #[.val (.int p1), .val (.int p2), .val (.int p3), .val (.int (1 : Int32)), .val (.int (p2 &&& (255 : Int32))), .val (.int (p3 &&& (255 : Int32))), .val (.ref b59), .val (.ref b95), .val (.ref w_1), .val (.ref w_1)]) rfl (XS.aload X110.here hx rfl (hb hby at_162) rfl rfl (XS.aload X110.here hx rfl (hb hby at_164) rfl rfl k_))) ?_
        show own_Go _ _ _ _ T110 (mkF mm_ 166 #[.val (.int p1), .val (.int p2), .val (.int p3), .val (.int (1 : Int32)), .val (.int (p2 &&& (255 : Int32))), .val (.int (p3 &&& (255 : Int32))), .val (.ref b59), .val (.ref b95), .val (.ref w_1), .val (.ref w_1)] [(.ref w_1), (.ref w_1)])
        refine own_step (fun t_ k_ => Jvm.RoadKit.acmp (g := (mkF mm_ 166 #[.val (.int p1), .val (.int p2), .val (.int p3), .val (.int (1 : Int32)), .val (.int (p2 &&& (255 : Int32))), .val (.int (p3 &&& (255 : Int32))), .val (.ref b59), .val (.ref b95), .val (.ref w_1), .val (.ref w_1)] [(.ref w_1), (.ref w_1)])) X110 hx rfl rfl rfl (pc0 := 166) (pc' := 169) (same := true) rfl (hb hby at_166) rfl (decide_eq_true rfl) (by decide) (by decide) (XS.aload X110.here hx rfl (hb hby at_169) rfl rfl k_)) ?_
        show own_Go _ _ _ _ T110 (mkF mm_ 171 #[.val (.int p1), .val (.int p2), .val (.int p3), .val (.int (1 : Int32)), .val (.int (p2 &&& (255 : Int32))), .val (.int (p3 &&& (255 : Int32))), .val (.ref b59), .val (.ref b95), .val (.ref w_1), .val (.ref w_1)] [(.ref w_1)])
        have O112 : Old Z n0 T110.heap := (O108.keep Kc110 all0)
        obtain ⟨_, T111, Lc111, X111, hQ111, st111⟩ := own_cV X110 hx hZ83 hown83 (own_w hw 69 rfl) (own_w hw 70 rfl) (notFace_of_selects (args := #[]) (mvT hZ83 (own_w hw 72 rfl))) (own_w hw 72 rfl) (own_w hw 71 rfl) (by decide) (backOf (W := 0) (rmG l Z a0 hw [] w_1 s_1 T110.heap n0 O112 (G_F13.ext O112.2)) hZ83 (own_w hw 73 rfl) (own_w hw 45 rfl) (by decide) (by decide)) (G_E5.ext O112.2) (g := (mkF mm_ 171 #[.val (.int p1), .val (.int p2), .val (.int p3), .val (.int (1 : Int32)), .val (.int (p2 &&& (255 : Int32))), .val (.int (p3 &&& (255 : Int32))), .val (.ref b59), .val (.ref b95), .val (.ref w_1), .val (.ref w_1)] [(.ref w_1)])) rfl (by rw [hml]; rfl) (argsL := []) (rest := []) (lenOf pd_4 rfl) rfl (by show 2 * 0 + _ ≤ _; exact Nat.le_of_eq rfl) (hb hby at_171) rfl rfl (by decide) (by decide)
        obtain ⟨rfl, rfl, Eh111⟩ := hQ111
        have N111 := Fr.app N110 (Fr.nil n0)
        refine own_jump st111 ?_
        show own_Go _ _ _ _ T111 (mkF mm_ 174 #[.val (.int p1), .val (.int p2), .val (.int p3), .val (.int (1 : Int32)), .val (.int (p2 &&& (255 : Int32))), .val (.int (p3 &&& (255 : Int32))), .val (.ref b59), .val (.ref b95), .val (.ref w_1), .val (.ref w_1)] [(.ref s_1)])
        refine own_step (fun t_ k_ => XS.aload X111.here hx rfl (hb hby at_174) rfl rfl k_) ?_
        show own_Go _ _ _ _ T111 (mkF mm_ 176 #[.val (.int p1), .val (.int p2), .val (.int p3), .val (.int (1 : Int32)), .val (.int (p2 &&& (255 : Int32))), .val (.int (p3 &&& (255 : Int32))), .val (.ref b59), .val (.ref b95), .val (.ref w_1), .val (.ref w_1)] [(.ref b95), (.ref s_1)])
        have f114 : own_Str Z T110.heap b95 t101 [(83 : Int32), (69 : Int32)] := (Fs101.keep Kc110 nin0 nin0)
        obtain ⟨_, T113, Lc113, X113, hQ113, st113⟩ := own_cV X111 hx hZ83 hown83 (own_w hw 33 rfl) (own_w hw 34 rfl) (notFace_of_selects (args := #[]) (mvT hZ83 (own_w hw 36 rfl))) (own_w hw 36 rfl) (own_w hw 35 rfl) (by decide) (own_eqS (W := 0) hZ83 hw (G_T14.ext O112.2) f114 (G_cs.ext O112.2) G_cs0 (by decide) (by decide)) (G_T14.ext O112.2).1 (g := (mkF mm_ 176 #[.val (.int p1), .val (.int p2), .val (.int p3), .val (.int (1 : Int32)), .val (.int (p2 &&& (255 : Int32))), .val (.int (p3 &&& (255 : Int32))), .val (.ref b59), .val (.ref b95), .val (.ref w_1), .val (.ref w_1)] [(.ref b95), (.ref s_1)])) rfl (by rw [hml]; rfl) (argsL := [(.ref b95)]) (rest := []) (lenOf pd_1 rfl) rfl (by show 2 * 0 + _ ≤ _; exact Nat.le_of_eq rfl) (hb hby at_176) rfl Eh111 (by decide) (by decide)
        obtain ⟨⟨rfl, -⟩ | ⟨-, hq113⟩, rfl, Eh113⟩ := hQ113
        rotate_left
        · exact absurd rfl hq113
        have N113 := Fr.app N111 (Fr.nil n0)
        refine own_jump st113 ?_
        show own_Go _ _ _ _ T113 (mkF mm_ 179 #[.val (.int p1), .val (.int p2), .val (.int p3), .val (.int (1 : Int32)), .val (.int (p2 &&& (255 : Int32))), .val (.int (p3 &&& (255 : Int32))), .val (.ref b59), .val (.ref b95), .val (.ref w_1), .val (.ref w_1)] [(.int (1 : Int32))])
        refine own_step (fun t_ k_ => XS.ifNo X113.here hx rfl (hb hby at_179) rfl ((if0 _ _).trans (feq (by decide : ¬ ((1 : Int32) = (0 : Int32)))).1) k_) ?_
        show own_Go _ _ _ _ T113 (mkF mm_ 182 #[.val (.int p1), .val (.int p2), .val (.int p3), .val (.int (1 : Int32)), .val (.int (p2 &&& (255 : Int32))), .val (.int (p3 &&& (255 : Int32))), .val (.ref b59), .val (.ref b95), .val (.ref w_1), .val (.ref w_1)] [])
        refine own_step (fun t_ k_ => XS.iconst X113.here hx rfl (hb hby at_182) (XS.goto X113.here hx rfl (pc0 := 183) (pc' := 187) rfl (hb hby at_183) (by decide) (by decide) k_)) ?_
        show own_Go _ _ _ _ T113 (mkF mm_ 187 #[.val (.int p1), .val (.int p2), .val (.int p3), .val (.int (1 : Int32)), .val (.int (p2 &&& (255 : Int32))), .val (.int (p3 &&& (255 : Int32))), .val (.ref b59), .val (.ref b95), .val (.ref w_1), .val (.ref w_1)] [(.int (1 : Int32))])
        have K115 : Keep h0 T110.heap [] := ((K107.trans Kc101 (allS (Or.inr lo_b95) all0)).trans Kc110 all0)
        obtain ⟨fs, hr, hrun, hended, hEnd⟩ := X113.leaveW hS83 (by rw [Eh113]; exact (Nat.le_trans (Nat.le_trans (Nat.le_trans (Nat.le_trans (Nat.le_trans (Nat.le_trans hk83 E95.1) E97.1) (Keep.of_wr W99).1) (Keep.of_wr W100).1) Kc101.1) Kc110.1)) (v := some (.int (1 : Int32))) (fun h => by rw [Bd.returns] at h; cases h)
        refine ⟨_, _, ?_, hrun, hended, _, _, rfl, ?_, own_IB_mono (own_IB_warm I83 X113.warmed) (by intro t_ h_; first | exact h_ | exact List.mem_cons_of_mem _ h_ | (revert t_ h_; decide)), own_endMono hEnd (by decide) (by decide)⟩
        · exact retN X113 hx (t := .boolean) Bd.returns (by simp) (hb hby at_187) hr
        · show Qrm0 Z p1 p2 p3 h0 n0 (some (.int (1 : Int32))) T113.heap _
          rw [Eh113]
          exact ⟨rfl, N113, K115⟩
set_option maxRecDepth 65536 in
set_option maxHeartbeats 40000000 in
theorem comes_1 {Post : Tables → Env → Array Value → State → Outcome → State → Prop} (hpost : ∀ tb e args s v u, (limb_1_1.after args s (.returned v) u = true ∧ limb_1_2.after args s (.returned v) u = true ∧ True) → ReturnedEndW s (.returned v) u (Jvm.fieldLocs frame_1_writes args s ++ Jvm.arrayLocs frame_1_arrays args s ++ Jvm.staticLocs frame_1_statics s) 32 2176 → Post tb e args s (.returned v) u) :
    ArmFor flags0 classFile x code maxLocals ret World_1 tables_1 room_1 Calls_1 rest_1 Pre_1 Post := by
  intro l hfl _ _ p e ha hc hk s m args below hf hA hF happ hP
  obtain ⟨hcalls, hrest, hpre⟩ := hP
  obtain ⟨-, -, -, hnamed, -, -, -, hat⟩ := (Spec.applies_iff hf).mp happ
  obtain ⟨hg, hn⟩ := and_e (Cond.before_iff.mp (show (Jvm.Cond.and given_1 narrow_1).before args s = true from hpre))
  obtain ⟨ga, gb0⟩ := and_e hg
  obtain ⟨w0_, w1_, w2_, rfl⟩ : ∃ w0_ w1_ w2_ : Value, args = #[w0_, w1_, w2_] := by
    have hs : args.size = 3 := by simpa [Cond.value, given_1] using ga
    obtain ⟨L⟩ := args
    match L, hs with
    | [w0_, w1_, w2_], _ => exact ⟨w0_, w1_, w2_, rfl⟩
  have hw := fun d (hd : d ∈ tables_1) => atoms_spec (ws := Jvm.Cond.code x code maxLocals ret :: tables_1) hat d (List.mem_cons_of_mem _ hd)
  have hfit : Fit s := fun {y c} hc i hi => by
    obtain ⟨ha, rfl⟩ := Array.getElem?_eq_some_iff.mp hc
    have q := List.all_eq_true.mp ((Array.all_eq_true_iff_forall_mem.mp hF) _ (Array.getElem_mem ha)) i (List.mem_range.mpr hi)
    simpa [Array.getElem?_eq_getElem hi] using q
  obtain ⟨hsets, hown0⟩ := atoms_of _ (rest_1_c_eq ▸ (show rest_1_c.before _ s = true from hrest))
  obtain ⟨gc0, gb1⟩ := and_e gb0
  obtain ⟨i0, ei0⟩ := is_v gc0
  obtain rfl : w0_ = (.int i0) := Option.some.inj ei0
  obtain ⟨gc1, gb2⟩ := and_e gb1
  obtain ⟨i1, ei1⟩ := is_v gc1
  obtain rfl : w1_ = (.int i1) := Option.some.inj ei1
  obtain ⟨i2, ei2⟩ := is_v gb2
  obtain rfl : w2_ = (.int i2) := Option.some.inj ei2
  obtain ⟨c1, hn1⟩ := and_e hn
  obtain ⟨c2, hn2⟩ := and_e hn1
  obtain ⟨c3, hn3⟩ := and_e hn2
  obtain ⟨c4, hn4⟩ := and_e hn3
  obtain ⟨c5, hn5⟩ := and_e hn4
  obtain ⟨c6, hn6⟩ := and_e hn5
  obtain ⟨c7, hn7⟩ := and_e hn6
  obtain ⟨c8, hn8⟩ := and_e hn7
  obtain ⟨c9, hn9⟩ := and_e hn8
  obtain ⟨c10, hn10⟩ := and_e hn9
  obtain ⟨c11, hn11⟩ := and_e hn10
  obtain ⟨c12, hn12⟩ := and_e hn11
  obtain ⟨c13, hn13⟩ := and_e hn12
  obtain ⟨c14, hn14⟩ := and_e hn13
  obtain ⟨c15, hn15⟩ := and_e hn14
  obtain ⟨c16, hn16⟩ := and_e hn15
  obtain ⟨c17, hn17⟩ := and_e hn16
  obtain ⟨c18, hn18⟩ := and_e hn17
  obtain ⟨zc, ev_zc⟩ := is_v (Cond.before_iff.mp (hsets _ (List.mem_of_getElem? (i := 1) rfl)))
  have G_cs : Sta s s.heap "java/lang/String" "COMPACT_STRINGS" "Z" (.int zc) := Sta.start ev_zc (Or.inl (hsets _ (List.mem_of_getElem? (i := 0) rfl)))
  have G_cs0 : ¬ zc = (0 : Int32) := gotF (Cond.eq_ints ev_zc (Term.int_eval (0))) (not_v (Cond.before_iff.mp (hsets _ (List.mem_of_getElem? (i := 2) rfl))))
  obtain ⟨w_0, ev_w_0⟩ := exa_v c1
  have G_S1 : Sta s s.heap "com/example/clearwrit/clearwrit/Side" "BUY" "Lcom/example/clearwrit/clearwrit/Side;" (.ref w_0) := Sta.start ev_w_0 (Or.inr ⟨(own_w hw 45 rfl), (own_w hw 46 rfl)⟩)
  obtain ⟨w_1, ev_w_1⟩ := exa_v c6
  have G_S2 : Sta s s.heap "com/example/clearwrit/clearwrit/Side" "SELL" "Lcom/example/clearwrit/clearwrit/Side;" (.ref w_1) := Sta.start ev_w_1 (Or.inr ⟨(own_w hw 45 rfl), (own_w hw 62 rfl)⟩)
  obtain ⟨wV, ev_wV⟩ := exa_v c3
  have G_S3 : Sta s s.heap "com/example/clearwrit/clearwrit/Side" "$VALUES" "[Lcom/example/clearwrit/clearwrit/Side;" (.ref wV) := Sta.start ev_wV (Or.inl (own_w hw 63 rfl))
  have G_E4 : Exa s s.heap w_0 "com/example/clearwrit/clearwrit/Side" := Exa.start ev_w_0 c1
  have G_E5 : Exa s s.heap w_1 "com/example/clearwrit/clearwrit/Side" := Exa.start ev_w_1 c6
  have G_E6 : Exa s s.heap wV "[Lcom/example/clearwrit/clearwrit/Side;" := Exa.start ev_wV c3
  obtain ⟨cl7, Ar7⟩ := Arr.start ev_wV c2
  obtain ⟨z7, zz7⟩ := own_len (own_eqInt c4) ev_wV Ar7
  have G_V7 : Arv s s.heap wV cl7.cls (.object "com/example/clearwrit/clearwrit/Side") (2 : Int32) [(.ref w_0), (.ref w_1)] .null := Arv.start hfit Ar7 z7 zz7 (by decide) rfl ⟨own_elem (own_eqRef c5 ev_w_0) ev_wV Ar7 rfl, own_elem (own_eqRef c7 ev_w_1) ev_wV Ar7 rfl, trivial⟩
  obtain ⟨s_0, ev_s_0⟩ := exa_v c8
  have G_F8 : Fld s s.heap w_0 "com/example/clearwrit/clearwrit/Side" "utiCode" "Ljava/lang/String;" (.ref s_0) := own_fld ev_s_0 ev_w_0
  have E9 : Exa s s.heap s_0 "java/lang/String" := Exa.start ev_s_0 c8
  have G_I10 : Fld s s.heap s_0 "java/lang/String" "coder" "B" (.int (0 : Int32)) := own_fld (own_eqInt c9) ev_s_0
  obtain ⟨t_0, ev_t_0⟩ := arr_v c10
  have G_F11 : Fld s s.heap s_0 "java/lang/String" "value" "[B" (.ref t_0) := own_fld ev_t_0 ev_s_0
  obtain ⟨cl12, Ar12⟩ := Arr.start ev_t_0 c10
  obtain ⟨z12, zz12⟩ := own_len (own_eqInt c11) ev_t_0 Ar12
  have G_V12 : Arv s s.heap t_0 cl12.cls .byte (2 : Int32) [(.int (66 : Int32)), (.int (85 : Int32))] (.int 0) := Arv.start hfit Ar12 z12 zz12 (by decide) rfl ⟨own_elem (own_eqInt c12) ev_t_0 Ar12 rfl, own_elem (own_eqInt c13) ev_t_0 Ar12 rfl, trivial⟩
  have G_T9 : own_Str s s.heap s_0 t_0 [(66 : Int32), (85 : Int32)] := ⟨E9, G_I10, G_F11, ⟨_, G_V12⟩, by decide, by decide⟩
  obtain ⟨s_1, ev_s_1⟩ := exa_v c14
  have G_F13 : Fld s s.heap w_1 "com/example/clearwrit/clearwrit/Side" "utiCode" "Ljava/lang/String;" (.ref s_1) := own_fld ev_s_1 ev_w_1
  have E14 : Exa s s.heap s_1 "java/lang/String" := Exa.start ev_s_1 c14
  have G_I15 : Fld s s.heap s_1 "java/lang/String" "coder" "B" (.int (0 : Int32)) := own_fld (own_eqInt c15) ev_s_1
  obtain ⟨t_1, ev_t_1⟩ := arr_v c16
  have G_F16 : Fld s s.heap s_1 "java/lang/String" "value" "[B" (.ref t_1) := own_fld ev_t_1 ev_s_1
  obtain ⟨cl17, Ar17⟩ := Arr.start ev_t_1 c16
  obtain ⟨z17, zz17⟩ := own_len (own_eqInt c17) ev_t_1 Ar17
  have G_V17 : Arv s s.heap t_1 cl17.cls .byte (2 : Int32) [(.int (83 : Int32)), (.int (69 : Int32))] (.int 0) := Arv.start hfit Ar17 z17 zz17 (by decide) rfl ⟨own_elem (own_eqInt c18) ev_t_1 Ar17 rfl, own_elem (own_eqInt hn18) ev_t_1 Ar17 rfl, trivial⟩
  have G_T14 : own_Str s s.heap s_1 t_1 [(83 : Int32), (69 : Int32)] := ⟨E14, G_I15, G_F16, ⟨_, G_V17⟩, by decide, by decide⟩
  have G_cw : Jvm.Lit.compactW.before #[] s = true := (hsets _ (List.mem_of_getElem? (i := 2) rfl))
  have G_h_com_example_clearwrit_clearwrit_SideOfUtiCodePinLaw_12 : Jvm.Lit.constHeld s "com/example/clearwrit/clearwrit/SideOfUtiCodePinLaw" 12 := hcalls.1 ("com/example/clearwrit/clearwrit/SideOfUtiCodePinLaw", 12) (List.mem_of_getElem? (i := 0) rfl)
  have G_h_com_example_clearwrit_clearwrit_SideOfUtiCodePinLaw_24 : Jvm.Lit.constHeld s "com/example/clearwrit/clearwrit/SideOfUtiCodePinLaw" 24 := hcalls.1 ("com/example/clearwrit/clearwrit/SideOfUtiCodePinLaw", 24) (List.mem_of_getElem? (i := 1) rfl)
  obtain ⟨n, o, h1, h2, h3, _, L, rfl, ⟨rfl, N, -⟩, hq⟩ := rm0 l s _ hw tables_1 i0 i1 i2 s.heap s.heap.size (Old.start s) (⟨G_cs, G_cs0, G_S1, G_S2, G_S3, G_E4, G_E5, G_E6, G_V7, G_F8, G_T9, G_F13, G_T14, G_cw, G_h_com_example_clearwrit_clearwrit_SideOfUtiCodePinLaw_12, G_h_com_example_clearwrit_clearwrit_SideOfUtiCodePinLaw_24⟩ : own_St s (zc) (w_0) (w_1) (wV) (cl7.cls) (s_0) (t_0) (s_1) (t_1)) rfl p e ha hc hk s m _ below hf ((Spec.applies_iff_loose hf).mp happ).1 ⟨rfl, State.Warmed39.refl s, rfl, IB.start⟩ trivial
  refine ⟨n, _, h1, h2, h3, hpost _ _ _ _ _ _ ⟨Cond.after_iff.mpr rfl, Cond.after_iff.mpr (eq_i res_at (Term.int_eval (1)) rfl), trivial⟩ ⟨hq.2.1, hq.2.2.1, hq.2.2.2.1, (hq.2.2.2.2.sift fun y hy => Or.inr (N y hy)).mono (by decide) (by decide)⟩⟩
theorem main_1_1 : Claimed_1_1 := comes_1 fun _ _ _ _ _ _ h hF => ⟨h.1, hF⟩
theorem main_1_2 : Claimed_1_2 := comes_1 fun _ _ _ _ _ _ h hF => ⟨h.2.1, hF⟩
end Jvm.Pilot.@@N@@
namespace Jvm.Pilot.@@N@@
open Jvm Jvm.ClassFile Sem Op Lib Jvm.Free Jvm.Stand Jvm.Pilot.@@N@@.Jvm.D
/-! MADE BY PROGRAM (witnessworld.py) out of the Statement's table words and the real class files: 22 classes; the members and pool entries that the words name. The judged class is class 1, her method 1. -/
namespace start1
open Jvm.ClassFile
def u (s : String) : CpInfo := .utf8 (stringToUtf16 s)
/-- a pool by its gaps: so many unusable entries, then the entry; so many at the end -/
def gap : Nat → List CpInfo → List CpInfo
  | 0, r => r
  | n + 1, r => .unusable :: gap n r
def poolList (es : List (Nat × CpInfo)) (last : Nat) : List CpInfo := es.foldr (fun e r => gap e.1 (e.2 :: r)) (gap last [])
def pool (es : List (Nat × CpInfo)) (last : Nat) : Array CpInfo := ⟨poolList es last⟩
def fileOf (pool : Array CpInfo) (this : Nat) (attrs : Array Attribute := #[]) (ms : Array MethodInfo := #[]) (fl : Nat := 33) (sup : Nat := 0) (ifs : Array Nat := #[]) (fds : Array FieldInfo := #[]) : ClassFile where
  minorVersion := 0
  majorVersion := 65
  constantPool := pool
  accessFlags := fl
  thisClass := this
  superClass := sup
  interfaces := ifs
  fields := fds
  methods := ms
  attributes := attrs
def plain (name : String) (sup : Option ClassId) : Class where
  name := name
  kind := .ordinary
  loader := none
  accessFlags := 33
  super := sup
  interfaces := #[]
  cf := none
  fields := #[]
  methods := #[]
  instanceTypes := #[]
  staticTypes := #[]
  resolved := #[]
  callSites := []
  init := .initialized
  statics := none
  mirror := none

def pool0 : Array CpInfo := pool [(5, u "<init>"), (0, u "()V"), (1, .class_ 10), (1, u "java/lang/Object"), (85, u "clone"), (0, u "()Ljava/lang/Object;")] 26

def k0c0 : Code := { maxStack := 0, maxLocals := 1, code := object_method_1_code, exceptionTable := #[], attributes := #[] }
def k0m0 : Method := { name := "<init>", desc := "()V", sig := { parameters := [], returnType := none }, accessFlags := 1, code := some k0c0 }
def k0m1 : Method := { name := "clone", desc := "()Ljava/lang/Object;", sig := { parameters := [], returnType := some (.object "java/lang/Object") }, accessFlags := 260, code := none }
/-- java/lang/Object -/
def k0 : Class := { plain "java/lang/Object" none with
  accessFlags := 33
  interfaces := #[]
  cf := some (fileOf pool0 8 #[] #[{ accessFlags := 1, nameIndex := 5, descriptorIndex := 6, attributes := #[] }, { accessFlags := 260, nameIndex := 96, descriptorIndex := 97, attributes := #[] }] 33 0 #[] #[])
  fields := #[]
  methods := #[k0m0, k0m1]
  instanceTypes := #[]
  staticTypes := #[]
  resolved := Array.replicate 124 none
  statics := none }

def pool1 : Array CpInfo := pool [(2, .class_ 4), (1, u "java/lang/Object"), (0, u "<init>"), (0, u "()V"), (0, .class_ 8), (0, u "java/lang/String"), (0, .methodref 7 10), (0, .nameAndType 5 11), (0, u "([C)V"), (0, .string 13), (0, u "BU"), (0, .methodref 7 15), (0, .nameAndType 16 17), (0, u "equals"), (0, u "(Ljava/lang/Object;)Z"), (0, .fieldref 19 20), (0, .class_ 21), (0, .nameAndType 22 23), (0, u "com/example/clearwrit/clearwrit/Side"), (0, u "BUY"), (0, u "Lcom/example/clearwrit/clearwrit/Side;"), (0, .string 25), (0, u "SE"), (0, .fieldref 19 27), (0, .nameAndType 28 23), (0, u "SELL"), (0, .methodref 19 30), (0, .nameAndType 31 32), (0, u "ofUtiCode"), (0, u "(Ljava/lang/String;)Lcom/example/clearwrit/clearwrit/Side;"), (0, .methodref 19 34), (0, .nameAndType 35 36), (0, u "utiCode"), (0, u "()Ljava/lang/String;"), (0, .class_ 38), (0, u "com/example/clearwrit/clearwrit/SideOfUtiCodePinLaw"), (2, u "law"), (0, u "(III)Z")] 3

def k1m0 : Method := { name := "<init>", desc := "()V", sig := { parameters := [], returnType := none }, accessFlags := 1, code := none }
def k1c1 : Code := { maxStack := 6, maxLocals := 10, code := code, exceptionTable := #[], attributes := #[] }
def k1m1 : Method := { name := "law", desc := "(III)Z", sig := { parameters := [.int, .int, .int], returnType := some .boolean }, accessFlags := 9, code := some k1c1 }
/-- com/example/clearwrit/clearwrit/SideOfUtiCodePinLaw -/
def k1 : Class := { plain "com/example/clearwrit/clearwrit/SideOfUtiCodePinLaw" (some 0) with
  accessFlags := 49
  interfaces := #[]
  cf := some (fileOf pool1 37 #[] #[{ accessFlags := 1, nameIndex := 5, descriptorIndex := 6, attributes := #[] }, { accessFlags := 9, nameIndex := 41, descriptorIndex := 42, attributes := #[] }] 49 2 #[] #[])
  fields := #[]
  methods := #[k1m0, k1m1]
  instanceTypes := #[]
  staticTypes := #[]
  resolved := Array.replicate 46 none
  statics := none }

def pool2 : Array CpInfo := pool [(1, .class_ 2), (0, u "java/io/Serializable"), (0, .class_ 4), (0, u "java/lang/Object")] 2

/-- java/io/Serializable -/
def k2 : Class := { plain "java/io/Serializable" (some 0) with
  accessFlags := 1537
  interfaces := #[]
  cf := some (fileOf pool2 1 #[] #[] 1537 3 #[] #[])
  fields := #[]
  methods := #[]
  instanceTypes := #[]
  staticTypes := #[]
  resolved := Array.replicate 7 none
  statics := none }

def pool3 : Array CpInfo := pool [(1, .class_ 2), (0, u "java/lang/Comparable"), (0, .class_ 4), (0, u "java/lang/Object")] 7

/-- java/lang/Comparable -/
def k3 : Class := { plain "java/lang/Comparable" (some 0) with
  accessFlags := 1537
  interfaces := #[]
  cf := some (fileOf pool3 1 #[] #[] 1537 3 #[] #[])
  fields := #[]
  methods := #[]
  instanceTypes := #[]
  staticTypes := #[]
  resolved := Array.replicate 12 none
  statics := none }

def pool4 : Array CpInfo := pool [(2, .class_ 4), (1, u "java/lang/CharSequence"), (42, .class_ 48), (0, u "java/lang/CharSequence$1CodePointIterator"), (10, .class_ 60), (0, u "java/lang/CharSequence$1CharIterator"), (5, .class_ 67), (0, u "java/lang/Object")] 63

/-- java/lang/CharSequence -/
def k4 : Class := { plain "java/lang/CharSequence" (some 0) with
  accessFlags := 1537
  interfaces := #[]
  cf := some (fileOf pool4 2 #[.nestMembers #[47, 59]] #[] 1537 66 #[] #[])
  fields := #[]
  methods := #[]
  instanceTypes := #[]
  staticTypes := #[]
  resolved := Array.replicate 131 none
  statics := none }

def pool5 : Array CpInfo := pool [(1, .class_ 2), (0, u "java/lang/constant/Constable"), (0, .class_ 4), (0, u "java/lang/Object")] 6

/-- java/lang/constant/Constable -/
def k5 : Class := { plain "java/lang/constant/Constable" (some 0) with
  accessFlags := 1537
  interfaces := #[]
  cf := some (fileOf pool5 1 #[] #[] 1537 3 #[] #[])
  fields := #[]
  methods := #[]
  instanceTypes := #[]
  staticTypes := #[]
  resolved := Array.replicate 11 none
  statics := none }

def pool6 : Array CpInfo := pool [(1, .class_ 2), (0, u "java/lang/constant/ConstantDesc"), (0, .class_ 4), (0, u "java/lang/Object")] 32

/-- java/lang/constant/ConstantDesc -/
def k6 : Class := { plain "java/lang/constant/ConstantDesc" (some 0) with
  accessFlags := 1537
  interfaces := #[]
  cf := some (fileOf pool6 1 #[] #[] 1537 3 #[] #[])
  fields := #[]
  methods := #[]
  instanceTypes := #[]
  staticTypes := #[]
  resolved := Array.replicate 37 none
  statics := none }

def pool7 : Array CpInfo := pool [(1, .methodref 2 3), (0, .class_ 4), (0, .nameAndType 5 6), (0, u "java/lang/Object"), (0, u "<init>"), (0, u "()V"), (2, .fieldref 10 11), (0, .class_ 12), (0, .nameAndType 13 14), (0, u "java/lang/String"), (0, u "value"), (0, u "[B"), (0, .fieldref 10 16), (0, .nameAndType 17 18), (0, u "coder"), (0, u "B"), (2, u "hash"), (0, u "I"), (2, u "hashIsZero"), (0, u "Z"), (0, .methodref 10 28), (0, .nameAndType 5 29), (0, u "([CIILjava/lang/Void;)V"), (8, .fieldref 10 39), (0, .nameAndType 40 26), (0, u "COMPACT_STRINGS"), (1, .class_ 44), (1, u "java/lang/StringUTF16"), (0, u "compress"), (1, .methodref 42 48), (0, .nameAndType 49 50), (0, u "coderFromArrayLen"), (0, u "([BI)B"), (56, .class_ 109), (1, u "java/lang/StringLatin1"), (67, .methodref 42 178), (0, .nameAndType 45 179), (0, u "([CII)[B"), (361, .methodref 107 542), (0, .nameAndType 543 544), (0, u "equals"), (0, u "([B[B)Z"), (28, u "(Ljava/lang/Object;)Z"), (1, .class_ 576), (0, u "java/lang/CharSequence"), (22, u "CASE_INSENSITIVE_ORDER"), (0, u "Ljava/util/Comparator;"), (409, u "([C)V"), (90, u "serialPersistentFields"), (0, u "[Ljava/io/ObjectStreamField;"), (0, .class_ 1104), (0, u "java/lang/String$CaseInsensitiveComparator"), (1, .class_ 1107), (0, u "java/io/Serializable"), (0, .class_ 1109), (0, u "java/lang/Comparable"), (0, .class_ 1111), (0, u "java/lang/constant/Constable"), (0, .class_ 1113), (0, u "java/lang/constant/ConstantDesc"), (2, u "serialVersionUID"), (0, u "J"), (3, u "REPL"), (0, u "C"), (2, u "LATIN1"), (1, u "UTF16")] 323

def k7m0 : Method := { name := "<init>", desc := "()V", sig := { parameters := [], returnType := none }, accessFlags := 1, code := none }
def k7c1 : Code := { maxStack := 5, maxLocals := 2, code := jdk_42_method_3_code, exceptionTable := #[], attributes := #[] }
def k7m1 : Method := { name := "<init>", desc := "([C)V", sig := { parameters := [(.array .char)], returnType := none }, accessFlags := 1, code := some k7c1 }
def k7c2 : Code := { maxStack := 2, maxLocals := 3, code := jdk_42_method_66_code, exceptionTable := #[], attributes := #[] }
def k7m2 : Method := { name := "equals", desc := "(Ljava/lang/Object;)Z", sig := { parameters := [(.object "java/lang/Object")], returnType := some .boolean }, accessFlags := 1, code := some k7c2 }
def k7c3 : Code := { maxStack := 4, maxLocals := 6, code := jdk_42_method_149_code, exceptionTable := #[], attributes := #[] }
def k7m3 : Method := { name := "<init>", desc := "([CIILjava/lang/Void;)V", sig := { parameters := [(.array .char), .int, .int, (.object "java/lang/Void")], returnType := none }, accessFlags := 2, code := some k7c3 }
/-- java/lang/String -/
def k7 : Class := { plain "java/lang/String" (some 0) with
  accessFlags := 49
  interfaces := #[2, 3, 4, 5, 6]
  cf := some (fileOf pool7 10 #[.nestMembers #[1103]] #[{ accessFlags := 1, nameIndex := 5, descriptorIndex := 6, attributes := #[] }, { accessFlags := 1, nameIndex := 5, descriptorIndex := 1010, attributes := #[] }, { accessFlags := 1, nameIndex := 543, descriptorIndex := 573, attributes := #[] }, { accessFlags := 2, nameIndex := 5, descriptorIndex := 29, attributes := #[] }] 49 2 #[1106, 1108, 575, 1110, 1112] #[{ accessFlags := 18, nameIndex := 13, descriptorIndex := 14, attributes := #[] }, { accessFlags := 18, nameIndex := 17, descriptorIndex := 18, attributes := #[] }, { accessFlags := 2, nameIndex := 21, descriptorIndex := 22, attributes := #[] }, { accessFlags := 2, nameIndex := 25, descriptorIndex := 26, attributes := #[] }, { accessFlags := 26, nameIndex := 1116, descriptorIndex := 1117, attributes := #[] }, { accessFlags := 24, nameIndex := 40, descriptorIndex := 26, attributes := #[] }, { accessFlags := 26, nameIndex := 1101, descriptorIndex := 1102, attributes := #[] }, { accessFlags := 26, nameIndex := 1121, descriptorIndex := 1122, attributes := #[] }, { accessFlags := 25, nameIndex := 599, descriptorIndex := 600, attributes := #[] }, { accessFlags := 24, nameIndex := 1125, descriptorIndex := 18, attributes := #[] }, { accessFlags := 24, nameIndex := 1127, descriptorIndex := 18, attributes := #[] }])
  fields := #[{ name := "value", type := (.array .byte), accessFlags := 18, slot := 0, constantValue := 0 }, { name := "coder", type := .byte, accessFlags := 18, slot := 1, constantValue := 0 }, { name := "hash", type := .int, accessFlags := 2, slot := 2, constantValue := 0 }, { name := "hashIsZero", type := .boolean, accessFlags := 2, slot := 3, constantValue := 0 }, { name := "serialVersionUID", type := .long, accessFlags := 26, slot := 0, constantValue := 0 }, { name := "COMPACT_STRINGS", type := .boolean, accessFlags := 24, slot := 1, constantValue := 0 }, { name := "serialPersistentFields", type := (.array (.object "java/io/ObjectStreamField")), accessFlags := 26, slot := 2, constantValue := 0 }, { name := "REPL", type := .char, accessFlags := 26, slot := 3, constantValue := 0 }, { name := "CASE_INSENSITIVE_ORDER", type := (.object "java/util/Comparator"), accessFlags := 25, slot := 4, constantValue := 0 }, { name := "LATIN1", type := .byte, accessFlags := 24, slot := 5, constantValue := 0 }, { name := "UTF16", type := .byte, accessFlags := 24, slot := 6, constantValue := 0 }]
  methods := #[k7m0, k7m1, k7m2, k7m3]
  instanceTypes := #[(.array .byte), .byte, .int, .boolean]
  staticTypes := #[.long, .boolean, (.array (.object "java/io/ObjectStreamField")), .char, (.object "java/util/Comparator"), .byte, .byte]
  resolved := Array.replicate 1451 none
  statics := some 0 }

def pool8 : Array CpInfo := pool [(6, .class_ 8), (1, u "java/lang/Object"), (0, u "<init>"), (0, u "()V"), (1, .class_ 14), (1, u "java/lang/StringUTF16"), (31, u "$assertionsDisabled"), (0, u "Z"), (13, u "HI_BYTE_SHIFT"), (0, u "I"), (2, u "LO_BYTE_SHIFT"), (49, .methodref 12 116), (0, .nameAndType 117 118), (0, u "compress"), (0, u "([CI[BII)I"), (3, u "([CII)[B"), (138, u "coderFromArrayLen"), (0, u "([BI)B"), (106, .class_ 371), (1, u "java/lang/StringUTF16$LinesSpliterator"), (58, u "MAX_LENGTH"), (196, .class_ 628), (0, u "java/lang/StringUTF16$CodePointsSpliterator"), (0, .class_ 630), (0, u "java/lang/StringUTF16$CharsSpliterator")] 4

def k8m0 : Method := { name := "<init>", desc := "()V", sig := { parameters := [], returnType := none }, accessFlags := 0, code := none }
def k8c1 : Code := { maxStack := 2, maxLocals := 2, code := jdk_52_method_15_code, exceptionTable := #[], attributes := #[] }
def k8m1 : Method := { name := "coderFromArrayLen", desc := "([BI)B", sig := { parameters := [(.array .byte), .int], returnType := some .byte }, accessFlags := 8, code := some k8c1 }
def k8c2 : Code := { maxStack := 5, maxLocals := 6, code := jdk_52_method_16_code, exceptionTable := #[], attributes := #[] }
def k8m2 : Method := { name := "compress", desc := "([CII)[B", sig := { parameters := [(.array .char), .int, .int], returnType := some (.array .byte) }, accessFlags := 9, code := some k8c2 }
def k8c3 : Code := { maxStack := 3, maxLocals := 7, code := jdk_52_method_21_code, exceptionTable := #[], attributes := #[] }
def k8m3 : Method := { name := "compress", desc := "([CI[BII)I", sig := { parameters := [(.array .char), .int, (.array .byte), .int, .int], returnType := some .int }, accessFlags := 9, code := some k8c3 }
/-- java/lang/StringUTF16 -/
def k8 : Class := { plain "java/lang/StringUTF16" (some 0) with
  accessFlags := 48
  interfaces := #[]
  cf := some (fileOf pool8 12 #[.nestMembers #[627, 629, 369]] #[{ accessFlags := 0, nameIndex := 9, descriptorIndex := 10, attributes := #[] }, { accessFlags := 8, nameIndex := 261, descriptorIndex := 262, attributes := #[] }, { accessFlags := 9, nameIndex := 117, descriptorIndex := 122, attributes := #[] }, { accessFlags := 9, nameIndex := 117, descriptorIndex := 118, attributes := #[] }] 48 6 #[] #[{ accessFlags := 26, nameIndex := 61, descriptorIndex := 62, attributes := #[] }, { accessFlags := 26, nameIndex := 65, descriptorIndex := 62, attributes := #[] }, { accessFlags := 24, nameIndex := 430, descriptorIndex := 62, attributes := #[] }, { accessFlags := 4120, nameIndex := 46, descriptorIndex := 47, attributes := #[] }])
  fields := #[{ name := "HI_BYTE_SHIFT", type := .int, accessFlags := 26, slot := 0, constantValue := 0 }, { name := "LO_BYTE_SHIFT", type := .int, accessFlags := 26, slot := 1, constantValue := 0 }, { name := "MAX_LENGTH", type := .int, accessFlags := 24, slot := 2, constantValue := 0 }, { name := "$assertionsDisabled", type := .boolean, accessFlags := 4120, slot := 3, constantValue := 0 }]
  methods := #[k8m0, k8m1, k8m2, k8m3]
  instanceTypes := #[]
  staticTypes := #[.int, .int, .int, .boolean]
  resolved := Array.replicate 635 none
  statics := none }

def pool9 : Array CpInfo := pool [(4, .class_ 6), (1, u "java/lang/Object"), (0, u "<init>"), (0, u "()V"), (5, .class_ 16), (1, u "java/lang/StringLatin1"), (104, u "$assertionsDisabled"), (0, u "Z"), (98, .class_ 223), (1, u "java/lang/StringLatin1$LinesSpliterator"), (57, u "equals"), (0, u "([B[B)Z"), (107, .class_ 391), (0, u "java/lang/StringLatin1$CharsSpliterator")] 3

def k9m0 : Method := { name := "<init>", desc := "()V", sig := { parameters := [], returnType := none }, accessFlags := 0, code := none }
def k9c1 : Code := { maxStack := 3, maxLocals := 3, code := jdk_43_method_13_code, exceptionTable := #[], attributes := #[] }
def k9m1 : Method := { name := "equals", desc := "([B[B)Z", sig := { parameters := [(.array .byte), (.array .byte)], returnType := some .boolean }, accessFlags := 9, code := some k9c1 }
/-- java/lang/StringLatin1 -/
def k9 : Class := { plain "java/lang/StringLatin1" (some 0) with
  accessFlags := 48
  interfaces := #[]
  cf := some (fileOf pool9 14 #[.nestMembers #[390, 221]] #[{ accessFlags := 0, nameIndex := 7, descriptorIndex := 8, attributes := #[] }, { accessFlags := 9, nameIndex := 281, descriptorIndex := 282, attributes := #[] }] 48 4 #[] #[{ accessFlags := 4120, nameIndex := 121, descriptorIndex := 122, attributes := #[] }])
  fields := #[{ name := "$assertionsDisabled", type := .boolean, accessFlags := 4120, slot := 0, constantValue := 0 }]
  methods := #[k9m0, k9m1]
  instanceTypes := #[]
  staticTypes := #[.boolean]
  resolved := Array.replicate 395 none
  statics := none }

def pool10 : Array CpInfo := pool [(2, .class_ 4), (1, u "java/lang/Enum"), (0, u "name"), (0, u "Ljava/lang/String;"), (2, u "ordinal"), (0, u "I"), (1, .class_ 14), (1, u "java/lang/Object"), (4, u "hash"), (86, .class_ 108), (1, u "java/lang/Enum$EnumDesc"), (2, .class_ 112), (0, u "java/lang/constant/Constable"), (0, .class_ 114), (0, u "java/lang/Comparable"), (0, .class_ 116), (0, u "java/io/Serializable")] 87

/-- java/lang/Enum -/
def k10 : Class := { plain "java/lang/Enum" (some 0) with
  accessFlags := 1057
  interfaces := #[5, 3, 2]
  cf := some (fileOf pool10 2 #[.nestMembers #[106]] #[] 1057 12 #[111, 113, 115] #[{ accessFlags := 18, nameIndex := 5, descriptorIndex := 6, attributes := #[] }, { accessFlags := 18, nameIndex := 9, descriptorIndex := 10, attributes := #[] }, { accessFlags := 2, nameIndex := 19, descriptorIndex := 10, attributes := #[] }])
  fields := #[{ name := "name", type := (.object "java/lang/String"), accessFlags := 18, slot := 0, constantValue := 0 }, { name := "ordinal", type := .int, accessFlags := 18, slot := 1, constantValue := 0 }, { name := "hash", type := .int, accessFlags := 2, slot := 2, constantValue := 0 }]
  methods := #[]
  instanceTypes := #[(.object "java/lang/String"), .int, .int]
  staticTypes := #[]
  resolved := Array.replicate 204 none
  statics := none }

def pool11 : Array CpInfo := pool [(1, .class_ 2), (0, u "com/example/clearwrit/clearwrit/Side"), (2, u "BUY"), (0, u "Lcom/example/clearwrit/clearwrit/Side;"), (2, u "SELL"), (0, .fieldref 1 11), (0, .nameAndType 12 13), (0, u "$VALUES"), (0, u "[Lcom/example/clearwrit/clearwrit/Side;"), (0, .methodref 15 16), (0, .class_ 13), (0, .nameAndType 17 18), (0, u "clone"), (0, u "()Ljava/lang/Object;"), (1, .class_ 22), (1, u "java/lang/Enum"), (8, u "buySell"), (0, u "Ljava/lang/String;"), (0, .fieldref 1 34), (0, .nameAndType 35 32), (0, u "utiCode"), (2, u "counterpartySide"), (0, .methodref 1 40), (0, .nameAndType 41 42), (0, u "values"), (0, u "()[Lcom/example/clearwrit/clearwrit/Side;"), (0, .methodref 44 45), (0, .class_ 46), (0, .nameAndType 47 48), (0, u "java/lang/String"), (0, u "equals"), (0, u "(Ljava/lang/Object;)Z"), (37, u "(Ljava/lang/String;)Lcom/example/clearwrit/clearwrit/Side;"), (3, u "()Ljava/lang/String;"), (4, u "ofUtiCode")] 5

def k11c0 : Code := { maxStack := 1, maxLocals := 0, code := prog_63_method_1_code, exceptionTable := #[], attributes := #[] }
def k11m0 : Method := { name := "values", desc := "()[Lcom/example/clearwrit/clearwrit/Side;", sig := { parameters := [], returnType := some (.array (.object "com/example/clearwrit/clearwrit/Side")) }, accessFlags := 9, code := some k11c0 }
def k11c1 : Code := { maxStack := 1, maxLocals := 1, code := prog_63_method_4_code, exceptionTable := #[], attributes := #[] }
def k11m1 : Method := { name := "utiCode", desc := "()Ljava/lang/String;", sig := { parameters := [], returnType := some (.object "java/lang/String") }, accessFlags := 1, code := some k11c1 }
def k11c2 : Code := { maxStack := 3, maxLocals := 5, code := prog_63_method_8_code, exceptionTable := #[], attributes := #[] }
def k11m2 : Method := { name := "ofUtiCode", desc := "(Ljava/lang/String;)Lcom/example/clearwrit/clearwrit/Side;", sig := { parameters := [(.object "java/lang/String")], returnType := some (.object "com/example/clearwrit/clearwrit/Side") }, accessFlags := 9, code := some k11c2 }
/-- com/example/clearwrit/clearwrit/Side -/
def k11 : Class := { plain "com/example/clearwrit/clearwrit/Side" (some 10) with
  accessFlags := 16433
  interfaces := #[]
  cf := some (fileOf pool11 1 #[] #[{ accessFlags := 9, nameIndex := 41, descriptorIndex := 42, attributes := #[] }, { accessFlags := 1, nameIndex := 35, descriptorIndex := 90, attributes := #[] }, { accessFlags := 9, nameIndex := 95, descriptorIndex := 86, attributes := #[] }] 16433 20 #[] #[{ accessFlags := 16409, nameIndex := 5, descriptorIndex := 6, attributes := #[] }, { accessFlags := 16409, nameIndex := 9, descriptorIndex := 6, attributes := #[] }, { accessFlags := 18, nameIndex := 31, descriptorIndex := 32, attributes := #[] }, { accessFlags := 18, nameIndex := 35, descriptorIndex := 32, attributes := #[] }, { accessFlags := 18, nameIndex := 38, descriptorIndex := 32, attributes := #[] }, { accessFlags := 4122, nameIndex := 12, descriptorIndex := 13, attributes := #[] }])
  fields := #[{ name := "BUY", type := (.object "com/example/clearwrit/clearwrit/Side"), accessFlags := 16409, slot := 0, constantValue := 0 }, { name := "SELL", type := (.object "com/example/clearwrit/clearwrit/Side"), accessFlags := 16409, slot := 1, constantValue := 0 }, { name := "buySell", type := (.object "java/lang/String"), accessFlags := 18, slot := 3, constantValue := 0 }, { name := "utiCode", type := (.object "java/lang/String"), accessFlags := 18, slot := 4, constantValue := 0 }, { name := "counterpartySide", type := (.object "java/lang/String"), accessFlags := 18, slot := 5, constantValue := 0 }, { name := "$VALUES", type := (.array (.object "com/example/clearwrit/clearwrit/Side")), accessFlags := 4122, slot := 2, constantValue := 0 }]
  methods := #[k11m0, k11m1, k11m2]
  instanceTypes := #[(.object "java/lang/String"), .int, .int, (.object "java/lang/String"), (.object "java/lang/String"), (.object "java/lang/String")]
  staticTypes := #[(.object "com/example/clearwrit/clearwrit/Side"), (.object "com/example/clearwrit/clearwrit/Side"), (.array (.object "com/example/clearwrit/clearwrit/Side"))]
  resolved := Array.replicate 101 none
  statics := some 1 }

def pool12 : Array CpInfo := pool [(1, .class_ 2), (0, u "java/lang/Cloneable"), (0, .class_ 4), (0, u "java/lang/Object")] 2

/-- java/lang/Cloneable -/
def k12 : Class := { plain "java/lang/Cloneable" (some 0) with
  accessFlags := 1537
  interfaces := #[]
  cf := some (fileOf pool12 1 #[] #[] 1537 3 #[] #[])
  fields := #[]
  methods := #[]
  instanceTypes := #[]
  staticTypes := #[]
  resolved := Array.replicate 7 none
  statics := none }

def pool13 : Array CpInfo := pool [(2, .class_ 4), (1, u "java/lang/Object"), (0, u "<init>"), (0, u "()V"), (17, .class_ 26), (1, u "jdk/internal/util/Preconditions"), (28, .class_ 56), (0, u "jdk/internal/util/Preconditions$4"), (57, .class_ 115), (0, u "jdk/internal/util/Preconditions$1"), (7, u "SIOOBE_FORMATTER"), (0, u "Ljava/util/function/BiFunction;"), (0, .class_ 126), (0, u "jdk/internal/util/Preconditions$2"), (3, u "AIOOBE_FORMATTER"), (0, .class_ 132), (0, u "jdk/internal/util/Preconditions$3"), (3, u "IOOBE_FORMATTER")] 57

def k13m0 : Method := { name := "<init>", desc := "()V", sig := { parameters := [], returnType := none }, accessFlags := 1, code := none }
/-- jdk/internal/util/Preconditions -/
def k13 : Class := { plain "jdk/internal/util/Preconditions" (some 0) with
  accessFlags := 33
  interfaces := #[]
  cf := some (fileOf pool13 24 #[.nestMembers #[55, 131, 125, 114]] #[{ accessFlags := 1, nameIndex := 5, descriptorIndex := 6, attributes := #[] }] 33 2 #[] #[{ accessFlags := 25, nameIndex := 123, descriptorIndex := 124, attributes := #[] }, { accessFlags := 25, nameIndex := 130, descriptorIndex := 124, attributes := #[] }, { accessFlags := 25, nameIndex := 136, descriptorIndex := 124, attributes := #[] }])
  fields := #[{ name := "SIOOBE_FORMATTER", type := (.object "java/util/function/BiFunction"), accessFlags := 25, slot := 0, constantValue := 0 }, { name := "AIOOBE_FORMATTER", type := (.object "java/util/function/BiFunction"), accessFlags := 25, slot := 1, constantValue := 0 }, { name := "IOOBE_FORMATTER", type := (.object "java/util/function/BiFunction"), accessFlags := 25, slot := 2, constantValue := 0 }]
  methods := #[k13m0]
  instanceTypes := #[]
  staticTypes := #[(.object "java/util/function/BiFunction"), (.object "java/util/function/BiFunction"), (.object "java/util/function/BiFunction")]
  resolved := Array.replicate 194 none
  statics := some 2 }

def pool14 : Array CpInfo := pool [(9, u "<init>"), (6, .class_ 18), (1, u "java/lang/Object"), (0, u "()V"), (1, .class_ 23), (1, u "jdk/internal/util/ArraysSupport"), (0, u "LOG2_ARRAY_LONG_INDEX_SCALE"), (0, u "I"), (2, u "U"), (0, u "Ljdk/internal/misc/Unsafe;"), (8, u "BIG_ENDIAN"), (0, u "Z"), (8, u "LOG2_BYTE_BIT_SIZE"), (4, u "LOG2_ARRAY_INT_INDEX_SCALE"), (54, u "JLA"), (0, u "Ljdk/internal/access/JavaLangAccess;"), (11, u "LOG2_ARRAY_BOOLEAN_INDEX_SCALE"), (9, u "LOG2_ARRAY_BYTE_INDEX_SCALE"), (5, u "LOG2_ARRAY_CHAR_INDEX_SCALE"), (5, u "LOG2_ARRAY_SHORT_INDEX_SCALE"), (18, u "LOG2_ARRAY_FLOAT_INDEX_SCALE"), (24, u "LOG2_ARRAY_DOUBLE_INDEX_SCALE"), (89, u "T_BOOLEAN"), (2, u "T_CHAR"), (1, u "T_FLOAT"), (1, u "T_DOUBLE"), (1, u "T_BYTE"), (1, u "T_SHORT"), (1, u "T_INT"), (1, u "T_LONG"), (1, u "SOFT_MAX_ARRAY_LENGTH")] 83

def k14m0 : Method := { name := "<init>", desc := "()V", sig := { parameters := [], returnType := none }, accessFlags := 2, code := none }
/-- jdk/internal/util/ArraysSupport -/
def k14 : Class := { plain "jdk/internal/util/ArraysSupport" (some 0) with
  accessFlags := 33
  interfaces := #[]
  cf := some (fileOf pool14 21 #[] #[{ accessFlags := 2, nameIndex := 9, descriptorIndex := 19, attributes := #[] }] 33 16 #[] #[{ accessFlags := 24, nameIndex := 28, descriptorIndex := 29, attributes := #[] }, { accessFlags := 26, nameIndex := 38, descriptorIndex := 39, attributes := #[] }, { accessFlags := 25, nameIndex := 121, descriptorIndex := 25, attributes := #[] }, { accessFlags := 25, nameIndex := 131, descriptorIndex := 25, attributes := #[] }, { accessFlags := 25, nameIndex := 137, descriptorIndex := 25, attributes := #[] }, { accessFlags := 25, nameIndex := 143, descriptorIndex := 25, attributes := #[] }, { accessFlags := 25, nameIndex := 53, descriptorIndex := 25, attributes := #[] }, { accessFlags := 25, nameIndex := 24, descriptorIndex := 25, attributes := #[] }, { accessFlags := 25, nameIndex := 162, descriptorIndex := 25, attributes := #[] }, { accessFlags := 25, nameIndex := 187, descriptorIndex := 25, attributes := #[] }, { accessFlags := 26, nameIndex := 48, descriptorIndex := 25, attributes := #[] }, { accessFlags := 25, nameIndex := 277, descriptorIndex := 25, attributes := #[] }, { accessFlags := 25, nameIndex := 280, descriptorIndex := 25, attributes := #[] }, { accessFlags := 25, nameIndex := 282, descriptorIndex := 25, attributes := #[] }, { accessFlags := 25, nameIndex := 284, descriptorIndex := 25, attributes := #[] }, { accessFlags := 25, nameIndex := 286, descriptorIndex := 25, attributes := #[] }, { accessFlags := 25, nameIndex := 288, descriptorIndex := 25, attributes := #[] }, { accessFlags := 25, nameIndex := 290, descriptorIndex := 25, attributes := #[] }, { accessFlags := 25, nameIndex := 292, descriptorIndex := 25, attributes := #[] }, { accessFlags := 26, nameIndex := 108, descriptorIndex := 109, attributes := #[] }, { accessFlags := 25, nameIndex := 294, descriptorIndex := 25, attributes := #[] }])
  fields := #[{ name := "U", type := (.object "jdk/internal/misc/Unsafe"), accessFlags := 24, slot := 0, constantValue := 0 }, { name := "BIG_ENDIAN", type := .boolean, accessFlags := 26, slot := 1, constantValue := 0 }, { name := "LOG2_ARRAY_BOOLEAN_INDEX_SCALE", type := .int, accessFlags := 25, slot := 2, constantValue := 0 }, { name := "LOG2_ARRAY_BYTE_INDEX_SCALE", type := .int, accessFlags := 25, slot := 3, constantValue := 0 }, { name := "LOG2_ARRAY_CHAR_INDEX_SCALE", type := .int, accessFlags := 25, slot := 4, constantValue := 0 }, { name := "LOG2_ARRAY_SHORT_INDEX_SCALE", type := .int, accessFlags := 25, slot := 5, constantValue := 0 }, { name := "LOG2_ARRAY_INT_INDEX_SCALE", type := .int, accessFlags := 25, slot := 6, constantValue := 0 }, { name := "LOG2_ARRAY_LONG_INDEX_SCALE", type := .int, accessFlags := 25, slot := 7, constantValue := 0 }, { name := "LOG2_ARRAY_FLOAT_INDEX_SCALE", type := .int, accessFlags := 25, slot := 8, constantValue := 0 }, { name := "LOG2_ARRAY_DOUBLE_INDEX_SCALE", type := .int, accessFlags := 25, slot := 9, constantValue := 0 }, { name := "LOG2_BYTE_BIT_SIZE", type := .int, accessFlags := 26, slot := 10, constantValue := 0 }, { name := "T_BOOLEAN", type := .int, accessFlags := 25, slot := 11, constantValue := 0 }, { name := "T_CHAR", type := .int, accessFlags := 25, slot := 12, constantValue := 0 }, { name := "T_FLOAT", type := .int, accessFlags := 25, slot := 13, constantValue := 0 }, { name := "T_DOUBLE", type := .int, accessFlags := 25, slot := 14, constantValue := 0 }, { name := "T_BYTE", type := .int, accessFlags := 25, slot := 15, constantValue := 0 }, { name := "T_SHORT", type := .int, accessFlags := 25, slot := 16, constantValue := 0 }, { name := "T_INT", type := .int, accessFlags := 25, slot := 17, constantValue := 0 }, { name := "T_LONG", type := .int, accessFlags := 25, slot := 18, constantValue := 0 }, { name := "JLA", type := (.object "jdk/internal/access/JavaLangAccess"), accessFlags := 26, slot := 19, constantValue := 0 }, { name := "SOFT_MAX_ARRAY_LENGTH", type := .int, accessFlags := 25, slot := 20, constantValue := 0 }]
  methods := #[k14m0]
  instanceTypes := #[]
  staticTypes := #[(.object "jdk/internal/misc/Unsafe"), .boolean, .int, .int, .int, .int, .int, .int, .int, .int, .int, .int, .int, .int, .int, .int, .int, .int, .int, (.object "jdk/internal/access/JavaLangAccess"), .int]
  resolved := Array.replicate 378 none
  statics := none }

/-- the primitive byte -/
def k15 : Class := { plain "byte" none with kind := .primitive 'B', accessFlags := 0x411 }
/-- [B -/
def k16 : Class := { plain "[B" (some 0) with kind := .array 15 .byte, interfaces := #[12, 2], accessFlags := 1041 }

/-- the primitive char -/
def k17 : Class := { plain "char" none with kind := .primitive 'C', accessFlags := 0x411 }
/-- [C -/
def k18 : Class := { plain "[C" (some 0) with kind := .array 17 .char, interfaces := #[12, 2], accessFlags := 1041 }

/-- the primitive int -/
def k19 : Class := { plain "int" none with kind := .primitive 'I', accessFlags := 0x411 }
/-- [I -/
def k20 : Class := { plain "[I" (some 0) with kind := .array 19 .int, interfaces := #[12, 2], accessFlags := 1041 }

/-- [Lcom/example/clearwrit/clearwrit/Side; -/
def k21 : Class := { plain "[Lcom/example/clearwrit/clearwrit/Side;" (some 0) with kind := .array 11 (.object "com/example/clearwrit/clearwrit/Side"), interfaces := #[12, 2], accessFlags := 1041 }

def heap : Heap := #[{ cls := 7, slots := #[.long 0, .int 1, .null, .int 0, .null, .int 0, .int 0], vm := .statics 7 },
  { cls := 11, slots := #[.ref 4, .ref 5, .ref 3], vm := .statics 11 },
  { cls := 13, slots := #[.null, .null, .null], vm := .statics 13 },
  { cls := 21, slots := #[.ref 4, .ref 5], vm := .none },
  { cls := 11, slots := #[.null, .int 0, .int 0, .null, .ref 6, .null], vm := .none },
  { cls := 11, slots := #[.null, .int 0, .int 0, .null, .ref 7, .null], vm := .none },
  { cls := 7, slots := #[.ref 8, .int 0, .int 0, .int 0], vm := .none },
  { cls := 7, slots := #[.ref 9, .int 0, .int 0, .int 0], vm := .none },
  { cls := 16, slots := #[.int 66, .int 85], vm := .none },
  { cls := 16, slots := #[.int 83, .int 69], vm := .none }]
def classes : Array Class := #[k0, k1, k2, k3, k4, k5, k6, k7, k8, k9, k10, k11, k12, k13, k14, k15, k16, k17, k18, k19, k20, k21]
def interned : List (Array UInt16 × Addr) := []
def slotsUsed : Nat := 39
def theMethod : MethodId := ⟨1, 1⟩
def args0 : Array Value := #[.int 5, .int 6, .int 7]
def aboutOver (below : List Frame) : State where
  vm := { classes := classes, interned := interned.toArray }
  heap := heap
  slotsUsed := slotsUsed
  threads := #[{ frames := .invoking theMethod args0 :: below }]
def below0 : List Frame := [.native { method := ⟨0, 0⟩, args := #[] }]
def about1 : State := aboutOver below0
def p0 : Program := .bare "" "" ""
def e0 : Env := launch0.env 0 0 0
theorem w_frames : about1.frames = Frame.invoking theMethod args0 :: below0 := rfl
set_option maxRecDepth 65536 in
theorem w_args : argsFit about1.vm theMethod args0 = true := by decide +kernel
set_option maxRecDepth 65536 in
theorem w_heap : heapFits about1 = true := by decide +kernel
set_option maxRecDepth 65536 in
theorem w_runnable : about1.curStatus? = some .runnable := by decide +kernel
set_option maxRecDepth 65536 in
theorem w_alone : about1.alone = true := by decide +kernel
set_option maxRecDepth 65536 in
theorem w_named : about1.methodNamed? x = some theMethod := by decide +kernel
set_option maxRecDepth 65536 in
theorem w_hears : about1.hears theMethod below0 = true := by decide +kernel
set_option maxRecDepth 65536 in
theorem w_ripe : about1.ripe theMethod args0 below0 = true := by decide +kernel
theorem w_running : about1.status = .running := rfl
set_option maxRecDepth 65536 in
theorem w_room : about1.hasRoom e0.platform room_1 = true :=
  launch0.hasRoom_least _ room_1 (by decide +kernel) (by decide +kernel) (by decide +kernel) (by decide +kernel) (by decide +kernel) (by decide +kernel)
theorem allAtoms_all (ts : List Jvm.Cond) (a : Array Jvm.Value) (st : Jvm.State) : (allAtoms ts).before a st = ts.all (fun c => c.before a st) := by
  induction ts with
  | nil => rfl
  | cons c t ih =>
    show (Jvm.Cond.and c (allAtoms t)).before a st = _
    rw [Jvm.Cond.before_and, ih, List.all_cons]
def words1 : List Jvm.Cond := Jvm.Cond.code x code maxLocals ret :: tables_1
/-- a 'code' word, met by the world's own term for the bytes: nothing is compared byte by byte -/
theorem code_word {y : MethodName} {bytes : ByteArray} {mx : Nat} {rt : Option FieldType} {a : Array Value} {s : State} {m : MethodId} {meth : Method} {c : Code} (h1 : s.methodNamed? y = some m) (h2 : s.vm.method? m = some meth) (h3 : meth.code = some c) (h4 : c.code = bytes)
    (h5 : (c.maxLocals == mx && c.exceptionTable.isEmpty && decide (c.maxStack ≤ mostOperands) && decide (meth.sig.returnType = rt) && !meth.locks && decide (parseMethodDescriptor y.desc = some meth.sig)) = true) : (Jvm.Cond.code y bytes mx rt).before a s = true := by
  simp only [Bool.and_eq_true, beq_iff_eq, Bool.not_eq_true', decide_eq_true_eq] at h5
  obtain ⟨⟨⟨⟨⟨g1, g2⟩, g3⟩, g4⟩, g5⟩, g6⟩ := h5
  simp [Cond.before, Cond.holds, Cond.value, h1, h2, h3, h4, g1, g2, g3, g4, g5, g6]
def isCode : Jvm.Cond → Bool
  | .code _ _ _ _ => true
  | _ => false
theorem all_split {L : List Jvm.Cond} {P : Jvm.Cond → Bool} (h1 : L.all (fun c => isCode c || P c) = true) (h2 : ∀ c ∈ L.filter isCode, P c = true) : L.all P = true := by
  refine List.all_eq_true.mpr fun c hc => ?_
  have h := List.all_eq_true.mp h1 c hc
  rcases Bool.eq_false_or_eq_true (isCode c) with hi | hi
  · exact h2 c (List.mem_filter.mpr ⟨hc, hi⟩)
  · simpa [hi] using h
set_option maxRecDepth 65536 in
theorem w_c0 : (Jvm.Cond.code x code maxLocals ret).before args0 about1 = true := code_word (m := ⟨1, 1⟩) (meth := k1m1) (c := k1c1) (by decide +kernel) rfl rfl rfl (by decide +kernel)
set_option maxRecDepth 65536 in
theorem w_c1 : (Jvm.Cond.code ({ cls := "java/lang/String", name := "<init>", desc := "([C)V" } : Jvm.MethodName) jdk_42_method_3_code (2 : Nat) (Option.none : Option Jvm.ClassFile.FieldType)).before args0 about1 = true := code_word (m := ⟨7, 1⟩) (meth := k7m1) (c := k7c1) (by decide +kernel) rfl rfl rfl (by decide +kernel)
set_option maxRecDepth 65536 in
theorem w_c2 : (Jvm.Cond.code ({ cls := "java/lang/String", name := "<init>", desc := "([CIILjava/lang/Void;)V" } : Jvm.MethodName) jdk_42_method_149_code (6 : Nat) (Option.none : Option Jvm.ClassFile.FieldType)).before args0 about1 = true := code_word (m := ⟨7, 3⟩) (meth := k7m3) (c := k7c3) (by decide +kernel) rfl rfl rfl (by decide +kernel)
set_option maxRecDepth 65536 in
theorem w_c3 : (Jvm.Cond.code ({ cls := "java/lang/Object", name := "<init>", desc := "()V" } : Jvm.MethodName) object_method_1_code (1 : Nat) (Option.none : Option Jvm.ClassFile.FieldType)).before args0 about1 = true := code_word (m := ⟨0, 0⟩) (meth := k0m0) (c := k0c0) (by decide +kernel) rfl rfl rfl (by decide +kernel)
set_option maxRecDepth 65536 in
theorem w_c4 : (Jvm.Cond.code ({ cls := "java/lang/StringUTF16", name := "compress", desc := "([CII)[B" } : Jvm.MethodName) jdk_52_method_16_code (6 : Nat) (Option.some (Jvm.ClassFile.FieldType.array Jvm.ClassFile.FieldType.byte))).before args0 about1 = true := code_word (m := ⟨8, 2⟩) (meth := k8m2) (c := k8c2) (by decide +kernel) rfl rfl rfl (by decide +kernel)
set_option maxRecDepth 65536 in
theorem w_c5 : (Jvm.Cond.code ({ cls := "java/lang/StringUTF16", name := "compress", desc := "([CI[BII)I" } : Jvm.MethodName) jdk_52_method_21_code (7 : Nat) (Option.some Jvm.ClassFile.FieldType.int)).before args0 about1 = true := code_word (m := ⟨8, 3⟩) (meth := k8m3) (c := k8c3) (by decide +kernel) rfl rfl rfl (by decide +kernel)
set_option maxRecDepth 65536 in
theorem w_c6 : (Jvm.Cond.code ({ cls := "java/lang/StringUTF16", name := "coderFromArrayLen", desc := "([BI)B" } : Jvm.MethodName) jdk_52_method_15_code (2 : Nat) (Option.some Jvm.ClassFile.FieldType.byte)).before args0 about1 = true := code_word (m := ⟨8, 1⟩) (meth := k8m1) (c := k8c1) (by decide +kernel) rfl rfl rfl (by decide +kernel)
set_option maxRecDepth 65536 in
theorem w_c7 : (Jvm.Cond.code ({ cls := "java/lang/String", name := "equals", desc := "(Ljava/lang/Object;)Z" } : Jvm.MethodName) jdk_42_method_66_code (3 : Nat) (Option.some Jvm.ClassFile.FieldType.boolean)).before args0 about1 = true := code_word (m := ⟨7, 2⟩) (meth := k7m2) (c := k7c2) (by decide +kernel) rfl rfl rfl (by decide +kernel)
set_option maxRecDepth 65536 in
theorem w_c8 : (Jvm.Cond.code ({ cls := "java/lang/StringLatin1", name := "equals", desc := "([B[B)Z" } : Jvm.MethodName) jdk_43_method_13_code (3 : Nat) (Option.some Jvm.ClassFile.FieldType.boolean)).before args0 about1 = true := code_word (m := ⟨9, 1⟩) (meth := k9m1) (c := k9c1) (by decide +kernel) rfl rfl rfl (by decide +kernel)
set_option maxRecDepth 65536 in
theorem w_c9 : (Jvm.Cond.code ({ cls := "com/example/clearwrit/clearwrit/Side", name := "ofUtiCode", desc := "(Ljava/lang/String;)Lcom/example/clearwrit/clearwrit/Side;" } : Jvm.MethodName) prog_63_method_8_code (5 : Nat) (Option.some (Jvm.ClassFile.FieldType.object "com/example/clearwrit/clearwrit/Side"))).before args0 about1 = true := code_word (m := ⟨11, 2⟩) (meth := k11m2) (c := k11c2) (by decide +kernel) rfl rfl rfl (by decide +kernel)
set_option maxRecDepth 65536 in
theorem w_c10 : (Jvm.Cond.code ({ cls := "com/example/clearwrit/clearwrit/Side", name := "values", desc := "()[Lcom/example/clearwrit/clearwrit/Side;" } : Jvm.MethodName) prog_63_method_1_code (0 : Nat) (Option.some (Jvm.ClassFile.FieldType.array (Jvm.ClassFile.FieldType.object "com/example/clearwrit/clearwrit/Side")))).before args0 about1 = true := code_word (m := ⟨11, 0⟩) (meth := k11m0) (c := k11c0) (by decide +kernel) rfl rfl rfl (by decide +kernel)
set_option maxRecDepth 65536 in
theorem w_c11 : (Jvm.Cond.code ({ cls := "com/example/clearwrit/clearwrit/Side", name := "utiCode", desc := "()Ljava/lang/String;" } : Jvm.MethodName) prog_63_method_4_code (1 : Nat) (Option.some (Jvm.ClassFile.FieldType.object "java/lang/String"))).before args0 about1 = true := code_word (m := ⟨11, 1⟩) (meth := k11m1) (c := k11c1) (by decide +kernel) rfl rfl rfl (by decide +kernel)
def codes1 : List Jvm.Cond := [Jvm.Cond.code x code maxLocals ret, Jvm.Cond.code ({ cls := "java/lang/String", name := "<init>", desc := "([C)V" } : Jvm.MethodName) jdk_42_method_3_code (2 : Nat) (Option.none : Option Jvm.ClassFile.FieldType), Jvm.Cond.code ({ cls := "java/lang/String", name := "<init>", desc := "([CIILjava/lang/Void;)V" } : Jvm.MethodName) jdk_42_method_149_code (6 : Nat) (Option.none : Option Jvm.ClassFile.FieldType), Jvm.Cond.code ({ cls := "java/lang/Object", name := "<init>", desc := "()V" } : Jvm.MethodName) object_method_1_code (1 : Nat) (Option.none : Option Jvm.ClassFile.FieldType), Jvm.Cond.code ({ cls := "java/lang/StringUTF16", name := "compress", desc := "([CII)[B" } : Jvm.MethodName) jdk_52_method_16_code (6 : Nat) (Option.some (Jvm.ClassFile.FieldType.array Jvm.ClassFile.FieldType.byte)), Jvm.Cond.code ({ cls := "java/lang/StringUTF16", name := "compress", desc := "([CI[BII)I" } : Jvm.MethodName) jdk_52_method_21_code (7 : Nat) (Option.some Jvm.ClassFile.FieldType.int), Jvm.Cond.code ({ cls := "java/lang/StringUTF16", name := "coderFromArrayLen", desc := "([BI)B" } : Jvm.MethodName) jdk_52_method_15_code (2 : Nat) (Option.some Jvm.ClassFile.FieldType.byte), Jvm.Cond.code ({ cls := "java/lang/String", name := "equals", desc := "(Ljava/lang/Object;)Z" } : Jvm.MethodName) jdk_42_method_66_code (3 : Nat) (Option.some Jvm.ClassFile.FieldType.boolean), Jvm.Cond.code ({ cls := "java/lang/StringLatin1", name := "equals", desc := "([B[B)Z" } : Jvm.MethodName) jdk_43_method_13_code (3 : Nat) (Option.some Jvm.ClassFile.FieldType.boolean), Jvm.Cond.code ({ cls := "com/example/clearwrit/clearwrit/Side", name := "ofUtiCode", desc := "(Ljava/lang/String;)Lcom/example/clearwrit/clearwrit/Side;" } : Jvm.MethodName) prog_63_method_8_code (5 : Nat) (Option.some (Jvm.ClassFile.FieldType.object "com/example/clearwrit/clearwrit/Side")), Jvm.Cond.code ({ cls := "com/example/clearwrit/clearwrit/Side", name := "values", desc := "()[Lcom/example/clearwrit/clearwrit/Side;" } : Jvm.MethodName) prog_63_method_1_code (0 : Nat) (Option.some (Jvm.ClassFile.FieldType.array (Jvm.ClassFile.FieldType.object "com/example/clearwrit/clearwrit/Side"))), Jvm.Cond.code ({ cls := "com/example/clearwrit/clearwrit/Side", name := "utiCode", desc := "()Ljava/lang/String;" } : Jvm.MethodName) prog_63_method_4_code (1 : Nat) (Option.some (Jvm.ClassFile.FieldType.object "java/lang/String"))]
set_option maxRecDepth 65536 in
theorem codes_eq : words1.filter isCode = codes1 := rfl
theorem w_codes : ∀ c ∈ words1.filter isCode, c.before args0 about1 = true := by
  rw [codes_eq]
  intro c hc
  simp only [codes1, List.mem_cons, List.not_mem_nil, or_false] at hc
  rcases hc with rfl | rfl | rfl | rfl | rfl | rfl | rfl | rfl | rfl | rfl | rfl | rfl
  · exact w_c0
  · exact w_c1
  · exact w_c2
  · exact w_c3
  · exact w_c4
  · exact w_c5
  · exact w_c6
  · exact w_c7
  · exact w_c8
  · exact w_c9
  · exact w_c10
  · exact w_c11
set_option maxRecDepth 65536 in
theorem w_t1 : (words1.take 24).all (fun c => isCode c || c.before args0 about1) = true := by decide +kernel
set_option maxRecDepth 65536 in
theorem w_t2 : ((words1.drop 24).take 24).all (fun c => isCode c || c.before args0 about1) = true := by decide +kernel
set_option maxRecDepth 65536 in
theorem w_t3 : (((words1.drop 24).drop 24).take 24).all (fun c => isCode c || c.before args0 about1) = true := by decide +kernel
set_option maxRecDepth 65536 in
theorem w_t4 : (((words1.drop 24).drop 24).drop 24).all (fun c => isCode c || c.before args0 about1) = true := by decide +kernel
theorem w_tables : (allAtoms (Jvm.Cond.code x code maxLocals ret :: tables_1)).before args0 about1 = true := by
  rw [allAtoms_all]
  show words1.all (fun c => c.before args0 about1) = true
  refine all_split ?_ w_codes
  rw [← List.take_append_drop 24 words1, List.all_append, w_t1, ← List.take_append_drop 24 (words1.drop 24), List.all_append, w_t2, ← List.take_append_drop 24 ((words1.drop 24).drop 24), List.all_append, w_t3, w_t4]
  rfl
set_option maxRecDepth 65536 in
theorem w_rest : rest_1_c.before args0 about1 = true := by decide +kernel
set_option maxRecDepth 65536 in
theorem w_case : (Jvm.Cond.and given_1 narrow_1).before args0 about1 = true := by decide +kernel
set_option maxRecDepth 65536 in
theorem w_consts : constsHeld consts_1 about1 := Jvm.Lit.constsHeldB_iff.mp (by decide +kernel)
theorem w_applies : (headSpec (Jvm.Cond.code x code maxLocals ret :: tables_1) room_1).applies x e0.platform about1 = true :=
  (Spec.applies_iff w_frames).mpr ⟨w_running, w_runnable, w_alone, w_named, w_hears, w_ripe, w_room, w_tables⟩
theorem atStart : AtStart classFile x code maxLocals ret World_1 tables_1 room_1 Calls_1 rest_1 Pre_1 launch0 p0 e0 about1 theMethod args0 below0 :=
  ⟨lists_1, trivial, launch0.admits_env _ _ _, launch0.least_env, fairChoices_fair.cas, fairChoices_fair.clock, w_frames, w_args, w_heap, w_applies, ⟨w_consts, trivial⟩, w_rest, w_case⟩
end start1
theorem witness_1 : WitnessClaimed_1 := ⟨start1.p0, start1.e0, start1.about1, start1.theMethod, start1.args0, start1.below0, start1.atStart⟩
end Jvm.Pilot.@@N@@
