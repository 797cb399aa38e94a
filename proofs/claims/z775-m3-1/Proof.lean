import JvmDerived
import JvmDerived.Pilot.@@N@@Statement
import JvmDerived.Pilot.@@N@@Code
set_option linter.unusedVariables false
set_option linter.unusedSimpArgs false
namespace Jvm.RoadKit
open Sem ClassFile Op Lib Jvm.Stand Jvm.Free Jvm.LawKit
section New
variable {p : Program} {l : Launch} {e : Env} {R : Room} {s : State} {m : MethodId} {args : Array Value} {below : List Frame} {meth : Method} {c : Code} {T : State} {locs : List Loc} {cells slots : Nat}
theorem retI (X : Stand p l e R s m args below meth c T locs cells slots) (hx : p.tables.exec = Jvm.exec) {pc : Nat} {Ls : Array Slot} {z : Int32} {rest : List Value} (hret : meth.sig.returnType = some .int) (hd : decode c.code pc = .ok (.ireturn, 1)) {fs : List Frame}
    (hl : ∀ (f : JFrame) (acts : List Action), f.method = m → f.locked = none → f.entered = [] → (doReturn e (T.setTop f) acts (some (.int z))).1 = T.setFrames fs) : Steps p.tables e below (T.setTop (mkF m pc Ls (.int z :: rest))) (T.setFrames fs) := by
  have hm' : T.vm.method? m = some meth := X.method'
  have hn : narrow .int (.int z) = .int z := rfl
  show Steps p.tables e below (T.setTop { method := m, pc := pc, locals := Ls, stack := _ :: rest, locked := none }) _
  jvm_step X.here [X.here.top, hx, hd, hm', hret, hn]
  first | (intro acts; rw [hl _ acts rfl rfl rfl]) | rw [hl _ _ rfl rfl rfl]
  exact Steps.refl _
end New
end Jvm.RoadKit
/- laws to paste: Road.backV, Road.lenW, Road.chN, pair_says, shr0, codOf (cut by pick.py; bodies as the Statement names them) -/
namespace Jvm.Pilot.@@N@@
namespace StrChars
open Jvm Sem ClassFile Op Lib Jvm.Stand Jvm.Free.XT Jvm.Free.ALB Jvm.Free.JM Jvm.Free
open Jvm.Lib.Cold (StaticIs)
/-- a char array whose places are chars -/
def Ch (a : Addr) (A : Cell) (U : State) : Prop := Arr .char a A U ∧ Typed .char A
theorem Ch.mv {a : Addr} {A : Cell} {U U' : State} (h : Ch a A U) (hal : U.vm.Alike U'.vm) (hh : U'.heap = U.heap) : Ch a A U' := ⟨h.1.mv hal hh, h.2⟩
theorem Ch.keep {a : Addr} {A : Cell} {U U' : State} (h : Ch a A U) (hal : U.vm.Alike U'.vm) (hk : U'.heap[a]? = some A) : Ch a A U' := ⟨h.1.keep hal hk, h.2⟩
/-- what place i of a char[]'s cell holds -/
def cv (A : Cell) (i : Nat) : Int32 := match A.slots[i]? with | some (.int x) => x | _ => 0
theorem Ch.get {a : Addr} {A : Cell} {U : State} (h : Ch a A U) {i : Nat} (hi : i < A.slots.size) : A.slots[i]? = some (.int (cv A i)) := by
  have e := Array.getElem?_eq_getElem hi
  have f := h.2 i _ e
  unfold cv; rw [e]
  generalize A.slots[i] = v at f
  cases v <;> simp [fits] at f ⊢
/-- the byte that i2b leaves of a char -/
def lo8 (x : Int32) : Int32 := x.toInt8.toInt32
theorem fits_lo8 (y : Int32) : fits .byte (.int (lo8 y)) = true := by
  have h1 := y.toInt8.le_toInt
  have h2 := y.toInt8.toInt_lt
  simp only [lo8, fits, Bool.and_eq_true, decide_eq_true_eq, Int32.le_iff_toInt_le, Int8.toInt_toInt32, show (-128 : Int32).toInt = -128 from by decide, show (127 : Int32).toInt = 127 from by decide]
  omega
/-- A' is A but that each place j of lo .. hi - 1 holds f j -/
def Laid (A A' : Cell) (lo hi : Nat) (f : Nat → Value) : Prop := A'.cls = A.cls ∧ A'.vm = A.vm ∧ A'.slots.size = A.slots.size ∧ ∀ i, A'.slots[i]? = if lo ≤ i ∧ i < hi then some (f i) else A.slots[i]?
theorem Laid.zero (A : Cell) (lo : Nat) (f : Nat → Value) : Laid A A lo (lo + 0) f := ⟨rfl, rfl, rfl, fun i => by rw [if_neg (by omega)]⟩
theorem Laid.step {A Ak : Cell} {lo k : Nat} {f : Nat → Value} {v : Value} (h : Laid A Ak lo k f) (hlo : lo ≤ k) (hk : k < Ak.slots.size) (hv : v = f k) : Laid A (Ak.setSlot k v) lo (k + 1) f := by
  refine ⟨h.1, h.2.1, by simpa [Cell.setSlot] using h.2.2.1, fun i => ?_⟩
  by_cases e : k = i
  · subst e; rw [Cell.slots_setSlot_self v hk, if_pos (by omega), hv]
  · rw [Cell.slots_setSlot_ne v e, h.2.2.2 i]
    by_cases q : lo ≤ i ∧ i < k
    · rw [if_pos q, if_pos (by omega)]
    · rw [if_neg q, if_neg (by omega)]
def U16 : String := "java/lang/StringUTF16"
namespace Cmp5
def yN : MethodName := ⟨"java/lang/StringUTF16", "compress", "([CI[BII)I"⟩
abbrev yB : ByteArray := jdk_52_method_21_code
theorem d0 : decode yB 0 = .ok (.iconst 0, 1) := by decide +kernel
theorem d1 : decode yB 1 = .ok (.istore 5, 2) := by decide +kernel
theorem d3 : decode yB 3 = .ok (.iload 5, 2) := by decide +kernel
theorem d5 : decode yB 5 = .ok (.iload 4, 2) := by decide +kernel
theorem d7 : decode yB 7 = .ok (.if_icmp (.ge) 37, 3) := by decide +kernel
theorem d10 : decode yB 10 = .ok (.aload_n 0, 1) := by decide +kernel
theorem d11 : decode yB 11 = .ok (.iload_n 1, 1) := by decide +kernel
theorem d12 : decode yB 12 = .ok (.caload, 1) := by decide +kernel
theorem d13 : decode yB 13 = .ok (.istore 6, 2) := by decide +kernel
theorem d15 : decode yB 15 = .ok (.iload 6, 2) := by decide +kernel
theorem d17 : decode yB 17 = .ok (.sipush 255, 3) := by decide +kernel
theorem d20 : decode yB 20 = .ok (.if_icmp (.le) 6, 3) := by decide +kernel
theorem d26 : decode yB 26 = .ok (.aload_n 2, 1) := by decide +kernel
theorem d27 : decode yB 27 = .ok (.iload_n 3, 1) := by decide +kernel
theorem d28 : decode yB 28 = .ok (.iload 6, 2) := by decide +kernel
theorem d30 : decode yB 30 = .ok (.i2b, 1) := by decide +kernel
theorem d31 : decode yB 31 = .ok (.bastore, 1) := by decide +kernel
theorem d32 : decode yB 32 = .ok (.iinc 1 1, 3) := by decide +kernel
theorem d35 : decode yB 35 = .ok (.iinc 3 1, 3) := by decide +kernel
theorem d38 : decode yB 38 = .ok (.iinc 5 1, 3) := by decide +kernel
theorem d41 : decode yB 41 = .ok (.goto (-38), 3) := by decide +kernel
theorem d44 : decode yB 44 = .ok (.iload 4, 2) := by decide +kernel
theorem d46 : decode yB 46 = .ok (.ireturn, 1) := by decide +kernel
def site : List Cond := []
def tab : Cond := tabOf yN yB 7 (some .int) site
def P (b : Addr) (A : Cell) (d : Addr) (B : Cell) (o q len : Nat) (args : Array Value) (s : State) : Prop := args = #[.ref b, .int (Int32.ofNat o), .ref d, .int (Int32.ofNat q), .int (Int32.ofNat len)] ∧ Ch b A s ∧ Arr .byte d B s ∧ b ≠ d ∧ o + len ≤ A.slots.size ∧ q + len ≤ B.slots.size ∧ ∀ i, i < len → ¬ 255 < cv A (o + i)
def E (b : Addr) (A : Cell) (d : Addr) (B : Cell) (o q len : Nat) (r : Option Value) (s u : State) : Prop := r = some (.int (Int32.ofNat len)) ∧ ∃ B', Put d B' s u ∧ Laid B B' q (q + len) (fun j => Value.int (lo8 (cv A (o + (j - q)))))
/-- no char of the range above 255: len; the places written hold each char's low byte -/
theorem law (l : Launch) (b : Addr) (A : Cell) (d : Addr) (B : Cell) (o q len : Nat) : Law l yN 5 5 0 0 yB 7 (some .int) site (P b A d B o q len) (E b A d B o q len) (copyLocs d q len) 0 0 := by
  refine Law.of_walk (plainFor_of_name (by decide +kernel)) (by decide +kernel) (by decide +kernel) (by decide) (fun _ _ h => by rw [h.1]; rfl) (fun _ U U' hal hh h => ⟨h.1, h.2.1.mv hal hh, h.2.2.1.mv hal hh, h.2.2.2⟩) (fun r U U' V V' h1 hal h2 h => ⟨h.1, h.2.elim fun B' q => ⟨B', q.1.mv h1 h2, q.2⟩⟩) ?_
  intro p e s m args below meth c s₁ X0 hexec hbytes hml hret hlk hnm hown hh0 W hP
  obtain ⟨rfl, hA, hB, hne, l1, l2, hp⟩ := hP
  have c1 : Steps p.tables e below (s₁.setTop (entryFrame m #[.ref b, .int (Int32.ofNat o), .ref d, .int (Int32.ofNat q), .int (Int32.ofNat len)] 7)) (s₁.setTop (mkF m 0 #[.val (.ref b), .val (.int (Int32.ofNat o)), .val (.ref d), .val (.int (Int32.ofNat q)), .val (.int (Int32.ofNat len)), .unset, .unset] [])) := entry rfl
  have hA0 := hA.1.mv X0.warmed.alike hh0
  have hB0 := hB.mv X0.warmed.alike hh0
  have a31 := hA.1.2.2.2
  have c2 : Steps p.tables e below (s₁.setTop (entryFrame m #[.ref b, .int (Int32.ofNat o), .ref d, .int (Int32.ofNat q), .int (Int32.ofNat len)] 7)) (s₁.setTop (mkF m 3 #[.val (.ref b), .val (.int (Int32.ofNat o)), .val (.ref d), .val (.int (Int32.ofNat q)), .val (.int (Int32.ofNat len)), .val (.int 0), .unset] [])) := c1.trans (by
    refine iconstV X0.here hexec rfl 0 (hb hbytes d0) (by decide) ?_
    refine XS.istore X0.here hexec rfl (hb hbytes d1) rfl rfl ?_
    exact Steps.refl _)
  have loop : ∀ (r i : Nat), i + r = len → ∀ (z : Slot), (z = .unset ∨ ∃ w, z = .val w ∧ w.category = 1) → ∀ (Tl : State) (Bk : Cell), Stand p l e { frames := 0, locals := 0, cells := 0, slots := 0 } s m #[.ref b, .int (Int32.ofNat o), .ref d, .int (Int32.ofNat q), .int (Int32.ofNat len)] below meth c Tl ([] ++ copyLocs d q i) 0 0 → Put d Bk s₁ Tl → Laid B Bk q (q + i) (fun j => Value.int (lo8 (cv A (o + (j - q))))) →
      Steps p.tables e below (s₁.setTop (entryFrame m #[.ref b, .int (Int32.ofNat o), .ref d, .int (Int32.ofNat q), .int (Int32.ofNat len)] 7)) (Tl.setTop (mkF m 3 #[.val (.ref b), .val (.int (Int32.ofNat (o + i))), .val (.ref d), .val (.int (Int32.ofNat (q + i))), .val (.int (Int32.ofNat len)), .val (.int (Int32.ofNat i)), z] [])) → ∃ (T' : State) (B' : Cell) (z' : Slot), Stand p l e { frames := 0, locals := 0, cells := 0, slots := 0 } s m #[.ref b, .int (Int32.ofNat o), .ref d, .int (Int32.ofNat q), .int (Int32.ofNat len)] below meth c T' ([] ++ copyLocs d q len) 0 0 ∧ Put d B' s₁ T' ∧ Laid B B' q (q + len) (fun j => Value.int (lo8 (cv A (o + (j - q))))) ∧
      Steps p.tables e below (s₁.setTop (entryFrame m #[.ref b, .int (Int32.ofNat o), .ref d, .int (Int32.ofNat q), .int (Int32.ofNat len)] 7)) (T'.setTop (mkF m 3 #[.val (.ref b), .val (.int (Int32.ofNat (o + len))), .val (.ref d), .val (.int (Int32.ofNat (q + len))), .val (.int (Int32.ofNat len)), .val (.int (Int32.ofNat len)), z'] [])) := by
    intro r
    induction r with
    | zero =>
      intro i hi z hz Tl Bk Xl pl fl cl
      have hil : i = len := by omega
      rw [hil] at Xl fl cl
      exact ⟨Tl, Bk, z, Xl, pl, fl, cl⟩
    | succ r ih =>
      intro i hi z hz Tl Bk Xl pl fl cl
      have all := X0.warmed.alike.symm.trans Xl.warmed.alike
      have hAl := hA0.keep all (pl.other hne hA0.1)
      have hBk := hB0.like all pl.1 fl.1 fl.2.1 fl.2.2.1
      have hlt : q + i < Bk.slots.size := by rw [fl.2.2.1]; omega
      have c3 : Steps p.tables e below (s₁.setTop (entryFrame m #[.ref b, .int (Int32.ofNat o), .ref d, .int (Int32.ofNat q), .int (Int32.ofNat len)] 7)) (Tl.setTop (mkF m 12 #[.val (.ref b), .val (.int (Int32.ofNat (o + i))), .val (.ref d), .val (.int (Int32.ofNat (q + i))), .val (.int (Int32.ofNat len)), .val (.int (Int32.ofNat i)), z] [.int (Int32.ofNat (o + i)), .ref b])) := cl.trans (by
        refine XS.iload Xl.here hexec rfl (hb hbytes d3) rfl ?_
        refine XS.iload Xl.here hexec rfl (hb hbytes d5) rfl ?_
        refine XS.icmpNo Xl.here hexec rfl (hb hbytes d7) rfl (ii_ge_f (lt32 (by omega) (by omega))) ?_
        refine XS.aloadN Xl.here hexec rfl (hb hbytes d10) rfl rfl ?_
        refine XS.iloadN Xl.here hexec rfl (hb hbytes d11) rfl ?_
        exact Steps.refl _)
      have c4 : Steps p.tables e below (s₁.setTop (entryFrame m #[.ref b, .int (Int32.ofNat o), .ref d, .int (Int32.ofNat q), .int (Int32.ofNat len)] 7)) (Tl.setTop (mkF m 13 #[.val (.ref b), .val (.int (Int32.ofNat (o + i))), .val (.ref d), .val (.int (Int32.ofNat (q + i))), .val (.int (Int32.ofNat len)), .val (.int (Int32.ofNat i)), z] [.int (cv A (o + i))])) := c3.trans (by
        refine Xl.aget hexec hAl rfl (hA.get (i := o + i) (by omega)) rfl rfl (hb hbytes d12) ?_
        exact Steps.refl _)
      have c5 : Steps p.tables e below (s₁.setTop (entryFrame m #[.ref b, .int (Int32.ofNat o), .ref d, .int (Int32.ofNat q), .int (Int32.ofNat len)] 7)) (Tl.setTop (mkF m 15 #[.val (.ref b), .val (.int (Int32.ofNat (o + i))), .val (.ref d), .val (.int (Int32.ofNat (q + i))), .val (.int (Int32.ofNat len)), .val (.int (Int32.ofNat i)), .val (.int (cv A (o + i)))] [])) := c4.trans (by
        refine XS.istoreS Xl.here hexec rfl (hb hbytes d13) rfl rfl hz ?_
        exact Steps.refl _)
      have c6 : Steps p.tables e below (s₁.setTop (entryFrame m #[.ref b, .int (Int32.ofNat o), .ref d, .int (Int32.ofNat q), .int (Int32.ofNat len)] 7)) (Tl.setTop (mkF m 31 #[.val (.ref b), .val (.int (Int32.ofNat (o + i))), .val (.ref d), .val (.int (Int32.ofNat (q + i))), .val (.int (Int32.ofNat len)), .val (.int (Int32.ofNat i)), .val (.int (cv A (o + i)))] [.int (lo8 (cv A (o + i))), .int (Int32.ofNat (q + i)), .ref d])) := c5.trans (by
        refine XS.iload Xl.here hexec rfl (hb hbytes d15) rfl ?_
        refine sipushV Xl.here hexec rfl 255 (hb hbytes d17) (by decide) ?_
        refine XS.icmpYes Xl.here hexec rfl (pc0 := 20) rfl (hb hbytes d20) rfl (ii_le_t (hp i (by omega))) (by decide) rfl ?_
        refine XS.aloadN Xl.here hexec rfl (hb hbytes d26) rfl rfl ?_
        refine XS.iloadN Xl.here hexec rfl (hb hbytes d27) rfl ?_
        refine XS.iload Xl.here hexec rfl (hb hbytes d28) rfl ?_
        refine i2b Xl.here hexec rfl (hb hbytes d30) rfl ?_
        exact Steps.refl _)
      obtain ⟨T7, X7, p7, st7⟩ := Xl.aput hexec hBk rfl hlt rfl (fits_lo8 (cv A (o + i))) (g := (mkF m 31 #[.val (.ref b), .val (.int (Int32.ofNat (o + i))), .val (.ref d), .val (.int (Int32.ofNat (q + i))), .val (.int (Int32.ofNat len)), .val (.int (Int32.ofNat i)), .val (.int (cv A (o + i)))] [.int (lo8 (cv A (o + i))), .int (Int32.ofNat (q + i)), .ref d])) rfl (rest := []) rfl (hb hbytes d31)
      have c8 : Steps p.tables e below (s₁.setTop (entryFrame m #[.ref b, .int (Int32.ofNat o), .ref d, .int (Int32.ofNat q), .int (Int32.ofNat len)] 7)) (T7.setTop (mkF m 32 #[.val (.ref b), .val (.int (Int32.ofNat (o + i))), .val (.ref d), .val (.int (Int32.ofNat (q + i))), .val (.int (Int32.ofNat len)), .val (.int (Int32.ofNat i)), .val (.int (cv A (o + i)))] [])) := c6.trans (st7 _ (Steps.refl _))
      have c9 : Steps p.tables e below (s₁.setTop (entryFrame m #[.ref b, .int (Int32.ofNat o), .ref d, .int (Int32.ofNat q), .int (Int32.ofNat len)] 7)) (T7.setTop (mkF m 3 #[.val (.ref b), .val (.int (Int32.ofNat (o + i) + 1)), .val (.ref d), .val (.int (Int32.ofNat (q + i) + 1)), .val (.int (Int32.ofNat len)), .val (.int (Int32.ofNat i + 1)), .val (.int (cv A (o + i)))] [])) := c8.trans (by
        refine iincV X7.here hexec rfl 1 (hb hbytes d32) (by decide) rfl rfl ?_
        refine iincV X7.here hexec rfl 1 (hb hbytes d35) (by decide) rfl rfl ?_
        refine iincV X7.here hexec rfl 1 (hb hbytes d38) (by decide) rfl rfl ?_
        refine XS.goto X7.here hexec rfl (pc0 := 41) rfl (hb hbytes d41) (by decide) rfl ?_
        exact Steps.refl _)
      have c10 : Steps p.tables e below (s₁.setTop (entryFrame m #[.ref b, .int (Int32.ofNat o), .ref d, .int (Int32.ofNat q), .int (Int32.ofNat len)] 7)) (T7.setTop (mkF m 3 #[.val (.ref b), .val (.int (Int32.ofNat (o + (i + 1)))), .val (.ref d), .val (.int (Int32.ofNat (q + (i + 1)))), .val (.int (Int32.ofNat len)), .val (.int (Int32.ofNat (i + 1))), .val (.int (cv A (o + i)))] [])) := by
        have := c9
        rw [succ32, succ32, succ32] at this
        exact this
      exact ih (i + 1) (by omega) _ (Or.inr ⟨_, rfl, rfl⟩) T7 _ (by rw [copyLocs_step, ← List.append_assoc]; exact X7) (pl.trans p7) (fl.step (by omega) hlt (by simp)) c10
  obtain ⟨T9, B9, z9, X9, p9, f9, g9⟩ := loop len 0 (by omega) .unset (Or.inl rfl) s₁ B (by simpa [copyLocs] using X0) ⟨hB0.1, fun _ _ => rfl, rfl⟩ (Laid.zero _ _ _) c2
  have c11 : Steps p.tables e below (s₁.setTop (entryFrame m #[.ref b, .int (Int32.ofNat o), .ref d, .int (Int32.ofNat q), .int (Int32.ofNat len)] 7)) (T9.setTop (mkF m 46 #[.val (.ref b), .val (.int (Int32.ofNat (o + len))), .val (.ref d), .val (.int (Int32.ofNat (q + len))), .val (.int (Int32.ofNat len)), .val (.int (Int32.ofNat len)), z9] [.int (Int32.ofNat len)])) := g9.trans (by
    refine XS.iload X9.here hexec rfl (hb hbytes d3) rfl ?_
    refine XS.iload X9.here hexec rfl (hb hbytes d5) rfl ?_
    refine XS.icmpYes X9.here hexec rfl (pc0 := 7) rfl (hb hbytes d7) rfl (ii_ge_t (nlt32 (by omega) (Nat.le_refl _))) (by decide) rfl ?_
    refine XS.iload X9.here hexec rfl (hb hbytes d44) rfl ?_
    exact Steps.refl _)
  exact ⟨T9, some (.int (Int32.ofNat len)), _, _, _, X9, by simp, rfl, rfl, (fun h => by cases h), ⟨rfl, B9, p9.from hh0, f9⟩, fun fs hl => c11.trans (X9.ireturnOut hexec hret rfl (Or.inl rfl) (hb hbytes d46) hl)⟩
end Cmp5
namespace Cmp3
def yN : MethodName := ⟨"java/lang/StringUTF16", "compress", "([CII)[B"⟩
abbrev yB : ByteArray := jdk_52_method_16_code
theorem d0 : decode yB 0 = .ok (.iload_n 2, 1) := by decide +kernel
theorem d1 : decode yB 1 = .ok (.newarray .byte, 2) := by decide +kernel
theorem d3 : decode yB 3 = .ok (.astore_n 3, 1) := by decide +kernel
theorem d4 : decode yB 4 = .ok (.aload_n 0, 1) := by decide +kernel
theorem d5 : decode yB 5 = .ok (.iload_n 1, 1) := by decide +kernel
theorem d6 : decode yB 6 = .ok (.aload_n 3, 1) := by decide +kernel
theorem d7 : decode yB 7 = .ok (.iconst 0, 1) := by decide +kernel
theorem d8 : decode yB 8 = .ok (.iload_n 2, 1) := by decide +kernel
theorem d9 : decode yB 9 = .ok (.invokestatic 115, 3) := by decide +kernel
theorem d12 : decode yB 12 = .ok (.istore 4, 2) := by decide +kernel
theorem d14 : decode yB 14 = .ok (.iload 4, 2) := by decide +kernel
theorem d16 : decode yB 16 = .ok (.iload_n 2, 1) := by decide +kernel
theorem d17 : decode yB 17 = .ok (.if_icmp (.eq) 40, 3) := by decide +kernel
theorem d57 : decode yB 57 = .ok (.aload_n 3, 1) := by decide +kernel
theorem d58 : decode yB 58 = .ok (.areturn, 1) := by decide +kernel
def site : List Cond := [.arrayClass .byte, Cmp5.tab] ++ staticW U16 115 Cmp5.yN
def tab : Cond := tabOf yN yB 6 (some (.array .byte)) site
def P (b : Addr) (A : Cell) (o len : Nat) (args : Array Value) (s : State) : Prop := args = #[.ref b, .int (Int32.ofNat o), .int (Int32.ofNat len)] ∧ Ch b A s ∧ o + len ≤ A.slots.size ∧ len ≤ 536870912 ∧ ∀ i, i < len → ¬ 255 < cv A (o + i)
def E (b : Addr) (A : Cell) (o len : Nat) (r : Option Value) (s u : State) : Prop := NewArr .byte "[B" len (fun j => .int (lo8 (cv A (o + j)))) r s u ∧ u.heap.size = s.heap.size + 1
/-- no char of the range above 255: a new byte[] of their low bytes -/
theorem law (l : Launch) (b : Addr) (A : Cell) (o len : Nat) : Law l yN 3 3 1 18 yB 6 (some (.array .byte)) site (P b A o len) (E b A o len) [] 1 len := by
  refine Law.of_walk (plainFor_of_name (by decide +kernel)) (by decide +kernel) (by decide +kernel) (by decide) (fun _ _ h => by rw [h.1]; rfl) (fun _ U U' hal hh h => ⟨h.1, h.2.1.mv hal hh, h.2.2⟩) (fun r U U' V V' h1 hal h2 h => ⟨NewArr.mv r U U' V V' h1 hal h2 h.1, by rw [h1, h2]; exact h.2⟩) ?_
  intro p e s m args below meth c s₁ X0 hexec hbytes hml hret hlk hnm hown hh0 W hP
  obtain ⟨rfl, hA, l1, l2, hp⟩ := hP
  have a31 := hA.1.2.2.2
  have c1 : Steps p.tables e below (s₁.setTop (entryFrame m #[.ref b, .int (Int32.ofNat o), .int (Int32.ofNat len)] 6)) (s₁.setTop (mkF m 0 #[.val (.ref b), .val (.int (Int32.ofNat o)), .val (.int (Int32.ofNat len)), .unset, .unset, .unset] [])) := entry rfl
  have c2 : Steps p.tables e below (s₁.setTop (entryFrame m #[.ref b, .int (Int32.ofNat o), .int (Int32.ofNat len)] 6)) (s₁.setTop (mkF m 1 #[.val (.ref b), .val (.int (Int32.ofNat o)), .val (.int (Int32.ofNat len)), .unset, .unset, .unset] [.int (Int32.ofNat len)])) := c1.trans (by
    refine XS.iloadN X0.here hexec rfl (hb hbytes d0) rfl ?_
    exact Steps.refl _)
  obtain ⟨T3, B3, X3, ba3, bs3, bv3, bh3, bf3, st3⟩ := X0.anew hexec (atype := .byte) (wk W (.arrayClass .byte)) rfl (by show len * 1 ≤ _; omega) (by omega) (g := (mkF m 1 #[.val (.ref b), .val (.int (Int32.ofNat o)), .val (.int (Int32.ofNat len)), .unset, .unset, .unset] [.int (Int32.ofNat len)])) rfl (hb hbytes d1) (rest := []) rfl (Nat.le_refl _) (by show 0 + len ≤ len; omega)
  rw [hh0] at ba3 st3
  have kp3 : XT.Kept s T3 := (XT.Kept.of_eq hh0).push bh3
  have hA3 := hA.keep X3.warmed.alike (kp3 _ _ hA.1.1)
  have hne : b ≠ s.heap.size := hA.1.ne
  have c4 : Steps p.tables e below (s₁.setTop (entryFrame m #[.ref b, .int (Int32.ofNat o), .int (Int32.ofNat len)] 6)) (T3.setTop (mkF m 3 #[.val (.ref b), .val (.int (Int32.ofNat o)), .val (.int (Int32.ofNat len)), .unset, .unset, .unset] [.ref s.heap.size])) := c2.trans (st3 _ (Steps.refl _))
  have c5 : Steps p.tables e below (s₁.setTop (entryFrame m #[.ref b, .int (Int32.ofNat o), .int (Int32.ofNat len)] 6)) (T3.setTop (mkF m 9 #[.val (.ref b), .val (.int (Int32.ofNat o)), .val (.int (Int32.ofNat len)), .val (.ref s.heap.size), .unset, .unset] [.int (Int32.ofNat len), .int 0, .ref s.heap.size, .int (Int32.ofNat o), .ref b])) := c4.trans (by
    refine XS.astoreN X3.here hexec rfl (hb hbytes d3) rfl rfl rfl ?_
    refine XS.aloadN X3.here hexec rfl (hb hbytes d4) rfl rfl ?_
    refine XS.iloadN X3.here hexec rfl (hb hbytes d5) rfl ?_
    refine XS.aloadN X3.here hexec rfl (hb hbytes d6) rfl rfl ?_
    refine iconstV X3.here hexec rfl 0 (hb hbytes d7) (by decide) ?_
    refine XS.iloadN X3.here hexec rfl (hb hbytes d8) rfl ?_
    exact Steps.refl _)
  obtain ⟨v6, T6, X6, E6, g6⟩ := X3.callS hexec (Cmp5.law l b A s.heap.size B3 o 0 len) hown (wks W (staticW U16 115 Cmp5.yN)) (wk W Cmp5.tab) (W := 0) (Nat.le_of_ble_eq_true rfl) (Nat.le_of_ble_eq_true rfl) (Nat.le_refl _) (by show 0 + len + 0 ≤ len; omega) (g := (mkF m 9 #[.val (.ref b), .val (.int (Int32.ofNat o)), .val (.int (Int32.ofNat len)), .val (.ref s.heap.size), .unset, .unset] [.int (Int32.ofNat len), .int (Int32.ofNat 0), .ref s.heap.size, .int (Int32.ofNat o), .ref b])) rfl (by rw [hml]; rfl) c5 (argsL := [.ref b, .int (Int32.ofNat o), .ref s.heap.size, .int (Int32.ofNat 0), .int (Int32.ofNat len)]) (rest := []) rfl rfl (by show 2 * 0 + 0 ≤ _; decide) (hb hbytes d9) (⟨rfl, hA3, ba3, hne, l1, by rw [bs3]; simp, hp⟩)
  obtain ⟨rfl, B6, p6, f6⟩ := E6
  have c7 : Steps p.tables e below (s₁.setTop (entryFrame m #[.ref b, .int (Int32.ofNat o), .int (Int32.ofNat len)] 6)) (T6.setTop (mkF m 12 #[.val (.ref b), .val (.int (Int32.ofNat o)), .val (.int (Int32.ofNat len)), .val (.ref s.heap.size), .unset, .unset] [.int (Int32.ofNat len)])) := g6
  have c8 : Steps p.tables e below (s₁.setTop (entryFrame m #[.ref b, .int (Int32.ofNat o), .int (Int32.ofNat len)] 6)) (T6.setTop (mkF m 58 #[.val (.ref b), .val (.int (Int32.ofNat o)), .val (.int (Int32.ofNat len)), .val (.ref s.heap.size), .val (.int (Int32.ofNat len)), .unset] [.ref s.heap.size])) := c7.trans (by
    refine XS.istore X6.here hexec rfl (hb hbytes d12) rfl rfl ?_
    refine XS.iload X6.here hexec rfl (hb hbytes d14) rfl ?_
    refine XS.iloadN X6.here hexec rfl (hb hbytes d16) rfl ?_
    refine XS.icmpYes X6.here hexec rfl (pc0 := 17) rfl (hb hbytes d17) rfl (ii_eq_t rfl) (by decide) rfl ?_
    refine XS.aloadN X6.here hexec rfl (hb hbytes d57) rfl rfl ?_
    exact Steps.refl _)
  have X8 := X6.wide (L' := []) (cells' := 1) (slots' := len) (fun x hx hlt => by
    simp only [List.nil_append, copyLocs, List.mem_map, List.mem_range] at hx
    obtain ⟨i, -, rfl⟩ := hx
    exact absurd hlt (Nat.lt_irrefl _)) (Nat.le_refl _) (by omega)
  exact ⟨T6, some (.ref s.heap.size), _, _, _, X8, rfl, rfl, rfl, (fun h => by cases h), ⟨⟨rfl, B6, ba3.like (X3.warmed.alike.symm.trans X6.warmed.alike) p6.1 f6.1 f6.2.1 f6.2.2.1, f6.2.1.trans bv3, by rw [X6.warmed.alike.findClass, f6.1]; exact bf3, by rw [f6.2.2.1, bs3]; simp, fun j hj => by rw [f6.2.2.2 j, if_pos (by omega)]; rfl, kp3.put p6 (Nat.le_refl _)⟩, by rw [p6.2.2, bh3, hh0]; simp⟩, fun fs hl => c8.trans (X8.areturnOut hexec rfl hret rfl (hb hbytes d58) hl)⟩
end Cmp3
namespace CodL
def yN : MethodName := ⟨"java/lang/StringUTF16", "coderFromArrayLen", "([BI)B"⟩
abbrev yB : ByteArray := jdk_52_method_15_code
theorem d0 : decode yB 0 = .ok (.iload_n 1, 1) := by decide +kernel
theorem d1 : decode yB 1 = .ok (.aload_n 0, 1) := by decide +kernel
theorem d2 : decode yB 2 = .ok (.arraylength, 1) := by decide +kernel
theorem d3 : decode yB 3 = .ok (.isub, 1) := by decide +kernel
theorem d4 : decode yB 4 = .ok (.bipush 31, 2) := by decide +kernel
theorem d6 : decode yB 6 = .ok (.iushr, 1) := by decide +kernel
theorem d7 : decode yB 7 = .ok (.i2b, 1) := by decide +kernel
theorem d8 : decode yB 8 = .ok (.ireturn, 1) := by decide +kernel
def site : List Cond := []
def tab : Cond := tabOf yN yB 2 (some .byte) site
def P (d : Addr) (B : Cell) (args : Array Value) (s : State) : Prop := args = #[.ref d, .int (Int32.ofNat B.slots.size)] ∧ Arr .byte d B s
def E (r : Option Value) (s u : State) : Prop := XT.PureE (some (.int 0)) r s u
/-- an array as long as the number of chars: LATIN1 -/
theorem law (l : Launch) (d : Addr) (B : Cell) : Law l yN 2 2 0 0 yB 2 (some .byte) site (P d B) E [] 0 0 := by
  refine Law.of_walk (plainFor_of_name (by decide +kernel)) (by decide +kernel) (by decide +kernel) (by decide) (fun _ _ h => by rw [h.1]; rfl) (fun _ U U' hal hh h => ⟨h.1, h.2.mv hal hh⟩) (fun r U U' V V' h1 hal h2 h => XT.PureE.mv r U U' V V' h1 hal h2 h) ?_
  intro p e s m args below meth c s₁ X0 hexec hbytes hml hret hlk hnm hown hh0 W hP
  obtain ⟨rfl, hB⟩ := hP
  have hB0 := hB.mv X0.warmed.alike hh0
  have c1 : Steps p.tables e below (s₁.setTop (entryFrame m #[.ref d, .int (Int32.ofNat B.slots.size)] 2)) (s₁.setTop (mkF m 0 #[.val (.ref d), .val (.int (Int32.ofNat B.slots.size))] [])) := entry rfl
  have c2 : Steps p.tables e below (s₁.setTop (entryFrame m #[.ref d, .int (Int32.ofNat B.slots.size)] 2)) (s₁.setTop (mkF m 2 #[.val (.ref d), .val (.int (Int32.ofNat B.slots.size))] [.ref d, .int (Int32.ofNat B.slots.size)])) := c1.trans (by
    refine XS.iloadN X0.here hexec rfl (hb hbytes d0) rfl ?_
    refine XS.aloadN X0.here hexec rfl (hb hbytes d1) rfl rfl ?_
    exact Steps.refl _)
  have c3 : Steps p.tables e below (s₁.setTop (entryFrame m #[.ref d, .int (Int32.ofNat B.slots.size)] 2)) (s₁.setTop (mkF m 8 #[.val (.ref d), .val (.int (Int32.ofNat B.slots.size))] [.int (lo8 (ushr (Int32.ofNat B.slots.size - Int32.ofNat B.slots.size) 31))])) := c2.trans (by
    refine X0.alen hexec hB0 rfl rfl (hb hbytes d2) ?_
    refine XS.isub X0.here hexec rfl (hb hbytes d3) rfl ?_
    refine bipushV X0.here hexec rfl 31 (hb hbytes d4) (by decide) ?_
    refine iushr X0.here hexec rfl (hb hbytes d6) rfl ?_
    refine i2b X0.here hexec rfl (hb hbytes d7) rfl ?_
    exact Steps.refl _)
  have e0 : lo8 (ushr (Int32.ofNat B.slots.size - Int32.ofNat B.slots.size) 31) = 0 := by rw [Int32.sub_self]; decide
  rw [e0] at c3
  exact ⟨s₁, some (.int 0), _, _, _, X0, rfl, rfl, rfl, (fun h => by cases h), ⟨rfl, hh0⟩, fun fs hl => c3.trans (X0.ireturnOut hexec hret rfl (Or.inr (Or.inr (Or.inl rfl))) (hb hbytes d8) hl)⟩
end CodL
/-- the String at a is Latin-1 over a new byte[] (the heap's one new cell): the low bytes of the len chars of A from o on; every cell but a is kept -/
def Got (a : Addr) (D : Cell) (fV fC : Field) (A : Cell) (o len : Nat) (r : Option Value) (s u : State) : Prop := r = none ∧ ∃ D' V : Cell, Blank "java/lang/String" a D' u ∧ Same D D' [fV.slot, fC.slot] ∧ D'.slots[fV.slot]? = some (.ref s.heap.size) ∧ D'.slots[fC.slot]? = some (.int 0) ∧ Arr .byte s.heap.size V u ∧ V.vm = .none ∧ u.vm.findClass "[B" = some V.cls ∧ V.slots.size = len ∧ (∀ j, j < len → V.slots[j]? = some (.int (lo8 (cv A (o + j))))) ∧ (∀ (y : Addr) (c : Cell), y ≠ a → s.heap[y]? = some c → u.heap[y]? = some c) ∧ u.heap.size = s.heap.size + 1
theorem Got.mv {a : Addr} {D A : Cell} {fV fC : Field} {o len : Nat} : ∀ r (U U' V V' : State), U'.heap = U.heap → V.vm.Alike V'.vm → V'.heap = V.heap → Got a D fV fC A o len r U V → Got a D fV fC A o len r U' V' :=
  fun r U U' V V' h1 hal h2 ⟨e0, D', X, a1, a2, a3, a4, a5, a6, a7, a8, a9, a10, a11⟩ => ⟨e0, D', X, a1.mv hal h2, a2, by rw [h1]; exact a3, a4, by rw [h1]; exact a5.mv hal h2, a6, by rw [hal.findClass]; exact a7, a8, a9, by rw [h1, h2]; exact a10, by rw [h1, h2]; exact a11⟩
namespace New4
def yN : MethodName := ⟨"java/lang/String", "<init>", "([CIILjava/lang/Void;)V"⟩
abbrev yB : ByteArray := jdk_42_method_149_code
theorem d0 : decode yB 0 = .ok (.aload_n 0, 1) := by decide +kernel
theorem d1 : decode yB 1 = .ok (.invokespecial 1, 3) := by decide +kernel
theorem d4 : decode yB 4 = .ok (.iload_n 3, 1) := by decide +kernel
theorem d5 : decode yB 5 = .ok (.ifCond (.ne) 22, 3) := by decide +kernel
theorem d27 : decode yB 27 = .ok (.getstatic 38, 3) := by decide +kernel
theorem d30 : decode yB 30 = .ok (.ifCond (.eq) 28, 3) := by decide +kernel
theorem d33 : decode yB 33 = .ok (.aload_n 1, 1) := by decide +kernel
theorem d34 : decode yB 34 = .ok (.iload_n 2, 1) := by decide +kernel
theorem d35 : decode yB 35 = .ok (.iload_n 3, 1) := by decide +kernel
theorem d36 : decode yB 36 = .ok (.invokestatic 177, 3) := by decide +kernel
theorem d39 : decode yB 39 = .ok (.astore 5, 2) := by decide +kernel
theorem d41 : decode yB 41 = .ok (.aload_n 0, 1) := by decide +kernel
theorem d42 : decode yB 42 = .ok (.aload 5, 2) := by decide +kernel
theorem d44 : decode yB 44 = .ok (.iload_n 3, 1) := by decide +kernel
theorem d45 : decode yB 45 = .ok (.invokestatic 47, 3) := by decide +kernel
theorem d48 : decode yB 48 = .ok (.putfield 15, 3) := by decide +kernel
theorem d51 : decode yB 51 = .ok (.aload_n 0, 1) := by decide +kernel
theorem d52 : decode yB 52 = .ok (.aload 5, 2) := by decide +kernel
theorem d54 : decode yB 54 = .ok (.putfield 9, 3) := by decide +kernel
theorem d57 : decode yB 57 = .ok (.return_, 1) := by decide +kernel
def site : List Cond := [.fieldLink "java/lang/String" 38 "java/lang/String" "COMPACT_STRINGS" "Z", Cmp3.tab, CodL.tab, .laysFinal "java/lang/String" "java/lang/String" "value" "[B", .fieldLink "java/lang/String" 9 "java/lang/String" "value" "[B", .laysFinal "java/lang/String" "java/lang/String" "coder" "B", .fieldLink "java/lang/String" 15 "java/lang/String" "coder" "B"] ++ objW "java/lang/String" 1 ++ staticW "java/lang/String" 177 Cmp3.yN ++ staticW "java/lang/String" 47 CodL.yN
def tab : Cond := tabOf yN yB 6 none site
def P (a : Addr) (D : Cell) (fV fC : Field) (b : Addr) (A : Cell) (z : Int32) (o len : Nat) (args : Array Value) (s : State) : Prop := args = #[.ref a, .ref b, .int (Int32.ofNat o), .int (Int32.ofNat len), .null] ∧ Blank "java/lang/String" a D s ∧ Found "java/lang/String" "value" "[B" fV s ∧ Found "java/lang/String" "coder" "B" fC s ∧ Ch b A s ∧ StaticIs s "java/lang/String" "COMPACT_STRINGS" "Z" (.int z) ∧ ¬ z = 0 ∧ 0 < len ∧ o + len ≤ A.slots.size ∧ len ≤ 536870912 ∧ ∀ i, i < len → ¬ 255 < cv A (o + i)
def E (a : Addr) (D : Cell) (fV fC : Field) (A : Cell) (o len : Nat) (r : Option Value) (s u : State) : Prop := Got a D fV fC A o len r s u
/-- len > 0, no char of the range above 255: a Latin-1 String of their low bytes -/
theorem law (l : Launch) (a : Addr) (D : Cell) (fV fC : Field) (b : Addr) (A : Cell) (z : Int32) (o len : Nat) : Law l yN 5 4 2 35 yB 6 none site (P a D fV fC b A z o len) (E a D fV fC A o len) [⟨a, fC.slot⟩, ⟨a, fV.slot⟩] 1 len := by
  refine Law.of_walk (plainFor_of_name (by decide +kernel)) (by decide +kernel) (by decide +kernel) (by decide) (fun _ _ h => by rw [h.1]; rfl) (fun _ U U' hal hh h => ⟨h.1, h.2.1.mv hal hh, h.2.2.1.al hal, h.2.2.2.1.al hal, h.2.2.2.2.1.mv hal hh, h.2.2.2.2.2.1.there hal hh, h.2.2.2.2.2.2⟩) (fun r U U' V V' h1 hal h2 h => Got.mv r U U' V V' h1 hal h2 h) ?_
  intro p e s m args below meth c s₁ X0 hexec hbytes hml hret hlk hnm hown hh0 W hP
  obtain ⟨rfl, hB, f1, f2, hA, s1, hz, l0, l1, l2, hp⟩ := hP
  have a31 := hA.1.2.2.2
  have c1 : Steps p.tables e below (s₁.setTop (entryFrame m #[.ref a, .ref b, .int (Int32.ofNat o), .int (Int32.ofNat len), .null] 6)) (s₁.setTop (mkF m 0 #[.val (.ref a), .val (.ref b), .val (.int (Int32.ofNat o)), .val (.int (Int32.ofNat len)), .val .null, .unset] [])) := entry rfl
  have c2 : Steps p.tables e below (s₁.setTop (entryFrame m #[.ref a, .ref b, .int (Int32.ofNat o), .int (Int32.ofNat len), .null] 6)) (s₁.setTop (mkF m 1 #[.val (.ref a), .val (.ref b), .val (.int (Int32.ofNat o)), .val (.int (Int32.ofNat len)), .val .null, .unset] [.ref a])) := c1.trans (by
    refine XS.aloadN X0.here hexec rfl (hb hbytes d0) rfl rfl ?_
    exact Steps.refl _)
  obtain ⟨T3, X3, q3, st3⟩ := X0.oinit hexec hown (wks W (objW "java/lang/String" 1)) (g := (mkF m 1 #[.val (.ref a), .val (.ref b), .val (.int (Int32.ofNat o)), .val (.int (Int32.ofNat len)), .val .null, .unset] [.ref a])) rfl (by rw [hml]; rfl) (rest := []) rfl (hb hbytes d1) (W := 0) (by show 2 * 0 + 0 ≤ _; decide) (Nat.le_of_ble_eq_true rfl) (Nat.le_of_ble_eq_true rfl)
  have hh3 := q3.trans hh0
  have c4 : Steps p.tables e below (s₁.setTop (entryFrame m #[.ref a, .ref b, .int (Int32.ofNat o), .int (Int32.ofNat len), .null] 6)) (T3.setTop (mkF m 27 #[.val (.ref a), .val (.ref b), .val (.int (Int32.ofNat o)), .val (.int (Int32.ofNat len)), .val .null, .unset] [])) := (c2.trans (st3 _ (Steps.refl _))).trans (by
    refine XS.iloadN X3.here hexec rfl (hb hbytes d4) rfl ?_
    refine XS.ifYes X3.here hexec rfl (pc0 := 5) rfl (hb hbytes d5) rfl (i0_ne_t (nz32 (by omega) l0)) (by decide) rfl ?_
    exact Steps.refl _)
  obtain ⟨T5, X5, q5, st5⟩ := X3.sget hexec hown (wk W (.fieldLink "java/lang/String" 38 "java/lang/String" "COMPACT_STRINGS" "Z")) s1 (fun _ _ h => by rw [hh3]; exact h) (g := (mkF m 27 #[.val (.ref a), .val (.ref b), .val (.int (Int32.ofNat o)), .val (.int (Int32.ofNat len)), .val .null, .unset] [])) rfl (hb hbytes d27)
  have hh5 := q5.trans hh3
  have c6 : Steps p.tables e below (s₁.setTop (entryFrame m #[.ref a, .ref b, .int (Int32.ofNat o), .int (Int32.ofNat len), .null] 6)) (T5.setTop (mkF m 30 #[.val (.ref a), .val (.ref b), .val (.int (Int32.ofNat o)), .val (.int (Int32.ofNat len)), .val .null, .unset] [.int z])) := c4.trans (st5 _ (Steps.refl _))
  have c7 : Steps p.tables e below (s₁.setTop (entryFrame m #[.ref a, .ref b, .int (Int32.ofNat o), .int (Int32.ofNat len), .null] 6)) (T5.setTop (mkF m 36 #[.val (.ref a), .val (.ref b), .val (.int (Int32.ofNat o)), .val (.int (Int32.ofNat len)), .val .null, .unset] [.int (Int32.ofNat len), .int (Int32.ofNat o), .ref b])) := c6.trans (by
    refine XS.ifNo X5.here hexec rfl (hb hbytes d30) rfl (i0_eq_f hz) ?_
    refine XS.aloadN X5.here hexec rfl (hb hbytes d33) rfl rfl ?_
    refine XS.iloadN X5.here hexec rfl (hb hbytes d34) rfl ?_
    refine XS.iloadN X5.here hexec rfl (hb hbytes d35) rfl ?_
    exact Steps.refl _)
  obtain ⟨v8, T8, X8, E8, g8⟩ := X5.callS hexec (Cmp3.law l b A o len) hown (wks W (staticW "java/lang/String" 177 Cmp3.yN)) (wk W Cmp3.tab) (W := 0) (Nat.le_of_ble_eq_true rfl) (Nat.le_of_ble_eq_true rfl) (Nat.le_refl _) (by show 0 + len ≤ len; omega) (g := (mkF m 36 #[.val (.ref a), .val (.ref b), .val (.int (Int32.ofNat o)), .val (.int (Int32.ofNat len)), .val .null, .unset] [.int (Int32.ofNat len), .int (Int32.ofNat o), .ref b])) rfl (by rw [hml]; rfl) c7 (argsL := [.ref b, .int (Int32.ofNat o), .int (Int32.ofNat len)]) (rest := []) rfl rfl (by show 2 * 0 + 0 ≤ _; decide) (hb hbytes d36) (⟨rfl, hA.mv X5.warmed.alike hh5, l1, l2, hp⟩)
  obtain ⟨e8, z8⟩ := E8
  obtain ⟨rfl, N, n1, n2, n3, n4, n5, n6⟩ := NewArr.mv _ T5 s _ _ hh5.symm (Vm.Alike.refl _) rfl e8
  rw [hh5] at z8
  have hB1 := hB.keep X8.warmed.alike (n6 _ _ hB.1)
  have hne : s.heap.size ≠ a := (Nat.ne_of_lt (Array.getElem?_eq_some_iff.mp hB.1).1).symm
  have c9 : Steps p.tables e below (s₁.setTop (entryFrame m #[.ref a, .ref b, .int (Int32.ofNat o), .int (Int32.ofNat len), .null] 6)) (T8.setTop (mkF m 39 #[.val (.ref a), .val (.ref b), .val (.int (Int32.ofNat o)), .val (.int (Int32.ofNat len)), .val .null, .unset] [.ref s.heap.size])) := g8
  have c10 : Steps p.tables e below (s₁.setTop (entryFrame m #[.ref a, .ref b, .int (Int32.ofNat o), .int (Int32.ofNat len), .null] 6)) (T8.setTop (mkF m 45 #[.val (.ref a), .val (.ref b), .val (.int (Int32.ofNat o)), .val (.int (Int32.ofNat len)), .val .null, .val (.ref s.heap.size)] [.int (Int32.ofNat N.slots.size), .ref s.heap.size, .ref a])) := by
    have hc : Steps p.tables e below (s₁.setTop (entryFrame m #[.ref a, .ref b, .int (Int32.ofNat o), .int (Int32.ofNat len), .null] 6)) (T8.setTop (mkF m 45 #[.val (.ref a), .val (.ref b), .val (.int (Int32.ofNat o)), .val (.int (Int32.ofNat len)), .val .null, .val (.ref s.heap.size)] [.int (Int32.ofNat len), .ref s.heap.size, .ref a])) := c9.trans (by
      refine XS.astore X8.here hexec rfl (hb hbytes d39) rfl rfl rfl ?_
      refine XS.aloadN X8.here hexec rfl (hb hbytes d41) rfl rfl ?_
      refine XS.aload X8.here hexec rfl (hb hbytes d42) rfl rfl ?_
      refine XS.iloadN X8.here hexec rfl (hb hbytes d44) rfl ?_
      exact Steps.refl _)
    rw [n4]; exact hc
  obtain ⟨v11, T11, X11, E11, g11⟩ := X8.callS hexec (CodL.law l s.heap.size N) hown (wks W (staticW "java/lang/String" 47 CodL.yN)) (wk W CodL.tab) (W := 1) (Nat.le_of_ble_eq_true rfl) (Nat.le_of_ble_eq_true rfl) (Nat.le_refl _) (by show 0 + len + 0 ≤ len; omega) (g := (mkF m 45 #[.val (.ref a), .val (.ref b), .val (.int (Int32.ofNat o)), .val (.int (Int32.ofNat len)), .val .null, .val (.ref s.heap.size)] [.int (Int32.ofNat N.slots.size), .ref s.heap.size, .ref a])) rfl (by rw [hml]; rfl) c10 (argsL := [.ref s.heap.size, .int (Int32.ofNat N.slots.size)]) (rest := [.ref a]) rfl rfl (by show 2 * 0 + (1 + 0) ≤ _; decide) (hb hbytes d45) (⟨rfl, n1⟩)
  obtain ⟨rfl, q11⟩ := E11
  have hB11 := hB1.mv (X8.warmed.alike.symm.trans X11.warmed.alike) q11
  have c12 : Steps p.tables e below (s₁.setTop (entryFrame m #[.ref a, .ref b, .int (Int32.ofNat o), .int (Int32.ofNat len), .null] 6)) (T11.setTop (mkF m 48 #[.val (.ref a), .val (.ref b), .val (.int (Int32.ofNat o)), .val (.int (Int32.ofNat len)), .val .null, .val (.ref s.heap.size)] [.int 0, .ref a])) := g11
  obtain ⟨T13, X13, p13, bl13, sl13, st13⟩ := X11.finit hexec hown (wk W (.fieldLink "java/lang/String" 15 "java/lang/String" "coder" "B")) (Or.inr ⟨_, (wk W (.laysFinal "java/lang/String" "java/lang/String" "coder" "B"))⟩) (Or.inl ⟨rfl, hnm⟩) f2 (Or.inl rfl) hB11 (t := .byte) (by decide +kernel) rfl (g := (mkF m 48 #[.val (.ref a), .val (.ref b), .val (.int (Int32.ofNat o)), .val (.int (Int32.ofNat len)), .val .null, .val (.ref s.heap.size)] [.int 0, .ref a])) rfl (rest := []) rfl (hb hbytes d48)
  have c14 : Steps p.tables e below (s₁.setTop (entryFrame m #[.ref a, .ref b, .int (Int32.ofNat o), .int (Int32.ofNat len), .null] 6)) (T13.setTop (mkF m 54 #[.val (.ref a), .val (.ref b), .val (.int (Int32.ofNat o)), .val (.int (Int32.ofNat len)), .val .null, .val (.ref s.heap.size)] [.ref s.heap.size, .ref a])) := (c12.trans (st13 _ (Steps.refl _))).trans (by
    refine XS.aloadN X13.here hexec rfl (hb hbytes d51) rfl rfl ?_
    refine XS.aload X13.here hexec rfl (hb hbytes d52) rfl rfl ?_
    exact Steps.refl _)
  obtain ⟨T15, X15, p15, bl15, sl15, st15⟩ := X13.finit hexec hown (wk W (.fieldLink "java/lang/String" 9 "java/lang/String" "value" "[B")) (Or.inr ⟨_, (wk W (.laysFinal "java/lang/String" "java/lang/String" "value" "[B"))⟩) (Or.inl ⟨rfl, hnm⟩) f1 (Or.inl rfl) bl13 (t := (.array .byte)) (by decide +kernel) rfl (g := (mkF m 54 #[.val (.ref a), .val (.ref b), .val (.int (Int32.ofNat o)), .val (.int (Int32.ofNat len)), .val .null, .val (.ref s.heap.size)] [.ref s.heap.size, .ref a])) rfl (rest := []) rfl (hb hbytes d54)
  have c16 : Steps p.tables e below (s₁.setTop (entryFrame m #[.ref a, .ref b, .int (Int32.ofNat o), .int (Int32.ofNat len), .null] 6)) (T15.setTop (mkF m 57 #[.val (.ref a), .val (.ref b), .val (.int (Int32.ofNat o)), .val (.int (Int32.ofNat len)), .val .null, .val (.ref s.heap.size)] [])) := c14.trans (st15 _ (Steps.refl _))
  have ap := apart (Or.inr ⟨_, (wk W (.laysFinal "java/lang/String" "java/lang/String" "value" "[B"))⟩) (Or.inr ⟨_, (wk W (.laysFinal "java/lang/String" "java/lang/String" "coder" "B"))⟩) f1 f2 (t₁ := .array .byte) (t₂ := .byte) (by decide +kernel) (by decide +kernel) (by decide)
  have al := X8.warmed.alike.symm.trans X15.warmed.alike
  have n7 : T11.heap[s.heap.size]? = some N := by rw [q11]; exact n1.1
  exact ⟨T15, none, _, _, _, X15, by simp, rfl, by omega, (fun _ => rfl), ⟨rfl, _, N, bl15, ((Same.refl D _).set _ (by simp)).set _ (by simp), sl15, (Cell.slots_setSlot_ne _ ap).trans sl13, n1.keep al (p15.other hne (p13.other hne n7)), n2, by rw [al.findClass]; exact n3, n4, n5, fun y c h1 h2 => p15.other h1 (p13.other h1 (by rw [q11]; exact n6 y c h2)), by rw [p15.2.2, p13.2.2, q11]; exact z8⟩, fun fs hl => c16.trans (X15.returnOut hexec hret (hb hbytes d57) hl)⟩
end New4
namespace New1
def yN : MethodName := ⟨"java/lang/String", "<init>", "([C)V"⟩
abbrev yB : ByteArray := jdk_42_method_3_code
theorem d0 : decode yB 0 = .ok (.aload_n 0, 1) := by decide +kernel
theorem d1 : decode yB 1 = .ok (.aload_n 1, 1) := by decide +kernel
theorem d2 : decode yB 2 = .ok (.iconst 0, 1) := by decide +kernel
theorem d3 : decode yB 3 = .ok (.aload_n 1, 1) := by decide +kernel
theorem d4 : decode yB 4 = .ok (.arraylength, 1) := by decide +kernel
theorem d5 : decode yB 5 = .ok (.aconst_null, 1) := by decide +kernel
theorem d6 : decode yB 6 = .ok (.invokespecial 27, 3) := by decide +kernel
theorem d9 : decode yB 9 = .ok (.return_, 1) := by decide +kernel
def site : List Cond := [New4.tab] ++ initW "java/lang/String" 27 New4.yN
def tab : Cond := tabOf yN yB 2 none site
def P (a : Addr) (D : Cell) (fV fC : Field) (b : Addr) (A : Cell) (z : Int32) (args : Array Value) (s : State) : Prop := args = #[.ref a, .ref b] ∧ Blank "java/lang/String" a D s ∧ Found "java/lang/String" "value" "[B" fV s ∧ Found "java/lang/String" "coder" "B" fC s ∧ Ch b A s ∧ StaticIs s "java/lang/String" "COMPACT_STRINGS" "Z" (.int z) ∧ ¬ z = 0 ∧ 0 < A.slots.size ∧ A.slots.size ≤ 536870912 ∧ ∀ i, i < A.slots.size → ¬ 255 < cv A i
def E (a : Addr) (D : Cell) (fV fC : Field) (A : Cell) (r : Option Value) (s u : State) : Prop := Got a D fV fC A 0 A.slots.size r s u
/-- new String(chars), not empty, no char above 255: a Latin-1 String of their low bytes -/
theorem law (l : Launch) (a : Addr) (D : Cell) (fV fC : Field) (b : Addr) (A : Cell) (z : Int32) : Law l yN 2 1 3 52 yB 2 none site (P a D fV fC b A z) (E a D fV fC A) [⟨a, fC.slot⟩, ⟨a, fV.slot⟩] 1 A.slots.size := by
  refine Law.of_walk (plainFor_of_name (by decide +kernel)) (by decide +kernel) (by decide +kernel) (by decide) (fun _ _ h => by rw [h.1]; rfl) (fun _ U U' hal hh h => ⟨h.1, h.2.1.mv hal hh, h.2.2.1.al hal, h.2.2.2.1.al hal, h.2.2.2.2.1.mv hal hh, h.2.2.2.2.2.1.there hal hh, h.2.2.2.2.2.2⟩) (fun r U U' V V' h1 hal h2 h => Got.mv r U U' V V' h1 hal h2 h) ?_
  intro p e s m args below meth c s₁ X0 hexec hbytes hml hret hlk hnm hown hh0 W hP
  obtain ⟨rfl, hB, f1, f2, hA, s1, hz, l0, l2, hp⟩ := hP
  have c1 : Steps p.tables e below (s₁.setTop (entryFrame m #[.ref a, .ref b] 2)) (s₁.setTop (mkF m 0 #[.val (.ref a), .val (.ref b)] [])) := entry rfl
  have c2 : Steps p.tables e below (s₁.setTop (entryFrame m #[.ref a, .ref b] 2)) (s₁.setTop (mkF m 6 #[.val (.ref a), .val (.ref b)] [.null, .int (Int32.ofNat A.slots.size), .int 0, .ref b, .ref a])) := c1.trans (by
    refine XS.aloadN X0.here hexec rfl (hb hbytes d0) rfl rfl ?_
    refine XS.aloadN X0.here hexec rfl (hb hbytes d1) rfl rfl ?_
    refine iconstV X0.here hexec rfl 0 (hb hbytes d2) (by decide) ?_
    refine XS.aloadN X0.here hexec rfl (hb hbytes d3) rfl rfl ?_
    refine X0.alen hexec (hA.1.mv X0.warmed.alike hh0) rfl rfl (hb hbytes d4) ?_
    refine XS.aconstNull X0.here hexec rfl (hb hbytes d5) ?_
    exact Steps.refl _)
  obtain ⟨v3, T3, X3, E3, g3⟩ := X0.callN hexec (New4.law l a D fV fC b A z 0 A.slots.size) rfl hown (wks W (initW "java/lang/String" 27 New4.yN)) (W New4.tab (by simp only [site, List.mem_cons, List.mem_append, true_or, or_true])) (W := 0) (Nat.le_of_ble_eq_true rfl) (Nat.le_of_ble_eq_true rfl) (Nat.le_refl _) (by show 0 + A.slots.size ≤ A.slots.size; omega) (g := (mkF m 6 #[.val (.ref a), .val (.ref b)] [.null, .int (Int32.ofNat A.slots.size), .int (Int32.ofNat 0), .ref b, .ref a])) rfl (by rw [hml]; rfl) c2 (argsL := [.ref b, .int (Int32.ofNat 0), .int (Int32.ofNat A.slots.size), .null]) (rest := []) rfl rfl (by show 2 * 0 + 0 ≤ _; decide) (hb hbytes d6) (⟨rfl, hB.mv X0.warmed.alike hh0, f1.al X0.warmed.alike, f2.al X0.warmed.alike, hA.mv X0.warmed.alike hh0, s1.there X0.warmed.alike hh0, hz, l0, by omega, l2, fun i hi => by rw [Nat.zero_add]; exact hp i hi⟩)
  have e0 := Got.mv _ s₁ s _ _ hh0.symm (Vm.Alike.refl _) rfl E3
  obtain rfl := e0.1
  have c4 : Steps p.tables e below (s₁.setTop (entryFrame m #[.ref a, .ref b] 2)) (T3.setTop (mkF m 9 #[.val (.ref a), .val (.ref b)] [])) := g3
  exact ⟨T3, none, _, _, _, X3, by simp, rfl, by omega, (fun _ => rfl), e0, fun fs hl => c4.trans (X3.returnOut hexec hret (hb hbytes d9) hl)⟩
theorem pays {l : Launch} {R : Room} {p : Program} {e : Env} {below : List Frame} {s : State} {sargs : Array Value} {len W : Nat} (a : Addr) (D : Cell) (fV fC : Field) (b : Addr) (A : Cell) (z : Int32) (htab : tab.before sargs s = true) (hfr : 4 ≤ R.frames) (hlo : W + 65 ≤ R.locals) :
    Back l R p e below s sargs yN len W (fun A₁ a₁ => A₁.cells + 1 ≤ R.cells ∧ A₁.slots + A.slots.size ≤ R.slots ∧ P a D fV fC b A z a₁ A₁.U) (fun A₁ _ v₁ B₁ => E a D fV fC A v₁ A₁.U B₁.U ∧ B₁.locs = A₁.locs ++ [⟨a, fC.slot⟩, ⟨a, fV.slot⟩] ∧ B₁.cells = A₁.cells + 1 ∧ B₁.slots = A₁.slots + A.slots.size) :=
  (law l a D fV fC b A z).pays htab hfr (by omega)
end New1
/-- the byte, read back as charAt reads it, is the char -/
theorem lo8_mask {x : Int32} (h0 : ¬ x < 0) (h1 : ¬ 255 < x) : lo8 x &&& 255 = x := by
  have t : ∀ k : Fin 256, lo8 (Int32.ofNat k.val) &&& 255 = Int32.ofNat k.val := by decide +kernel
  rw [Int32.lt_iff_toInt_lt] at h0 h1
  have e0 : (0 : Int32).toInt = 0 := rfl
  have e1 : (255 : Int32).toInt = 255 := rfl
  obtain ⟨k, hk⟩ : ∃ k : Nat, x.toInt = k := ⟨x.toInt.toNat, by omega⟩
  have hx : x = Int32.ofNat k := Int32.toInt_inj.mp (by rw [hk, Int32.toInt_ofNat_small (by omega)])
  rw [hx]
  exact t ⟨k, by omega⟩
end StrChars
namespace StrChars.Road
open Jvm Sem ClassFile Op Lib Jvm.Stand Jvm.Free Jvm.Free.XT
open Jvm.Lib.Cold (StaticIs)
abbrev ST : String := "java/lang/String"
/-- every table word that New1's law asks, flat -/
abbrev words : List Jvm.Cond := [.code New1.yN New1.yB 2 none, .initialized ST, .methodLink ST 27 New4.yN, .instanceMethod New4.yN,
  .code New4.yN New4.yB 6 none, .fieldLink ST 38 ST "COMPACT_STRINGS" "Z", .laysFinal ST ST "value" "[B", .fieldLink ST 9 ST "value" "[B", .laysFinal ST ST "coder" "B", .fieldLink ST 15 ST "coder" "B",
  .methodLink ST 1 Lib.objectInit, .instanceMethod Lib.objectInit, .code Lib.objectInit ⟨#[0xb1]⟩ 1 none, .methodLink ST 177 Cmp3.yN, .static Cmp3.yN, .methodLink ST 47 CodL.yN, .static CodL.yN,
  .code Cmp3.yN Cmp3.yB 6 (some (.array .byte)), .initialized U16, .arrayClass .byte, .methodLink U16 115 Cmp5.yN, .static Cmp5.yN, .code Cmp5.yN Cmp5.yB 7 (some .int), .code CodL.yN CodL.yB 2 (some .byte)]
theorem tab_of {a : Array Value} {s : State} (h : ∀ w ∈ words, w.before a s = true) : New1.tab.before a s = true := by
  have h5 : Cmp5.tab.before a s = true := unparts (wk h (.code Cmp5.yN Cmp5.yB 7 (some .int))) (wks h (.initialized Cmp5.yN.cls :: Cmp5.site))
  have hc : CodL.tab.before a s = true := unparts (wk h (.code CodL.yN CodL.yB 2 (some .byte))) (wks h (.initialized CodL.yN.cls :: CodL.site))
  have q5 : ∀ w ∈ Cmp5.tab :: words, w.before a s = true := fun w hw => (List.mem_cons.mp hw).elim (fun e => e ▸ h5) (h w)
  have h3 : Cmp3.tab.before a s = true := unparts (wk q5 (.code Cmp3.yN Cmp3.yB 6 (some (.array .byte)))) (wks q5 (.initialized Cmp3.yN.cls :: Cmp3.site))
  have q3 : ∀ w ∈ Cmp3.tab :: CodL.tab :: words, w.before a s = true := fun w hw => (List.mem_cons.mp hw).elim (fun e => e ▸ h3) fun hw => (List.mem_cons.mp hw).elim (fun e => e ▸ hc) (h w)
  have h4 : New4.tab.before a s = true := unparts (wk q3 (.code New4.yN New4.yB 6 none)) (wks q3 (.initialized New4.yN.cls :: New4.site))
  have q4 : ∀ w ∈ New4.tab :: words, w.before a s = true := fun w hw => (List.mem_cons.mp hw).elim (fun e => e ▸ h4) (h w)
  exact unparts (wk q4 (.code New1.yN New1.yB 2 none)) (wks q4 (.initialized New1.yN.cls :: New1.site))
/-- the words ride from the start Z to the walk's own state -/
theorem moved {Z s : State} {a0 args : Array Value} (hZ : Z.Warmed39 s.vm) (hw : ∀ d ∈ words, d.before a0 Z = true) : ∀ d ∈ words, d.before args s = true := fun d hd => by
  have q := hw d hd
  have t : ∀ d ∈ words, d = .arrayClass .byte ∨ (d.onTables && d.keepsFace) = true := by decide +kernel
  rcases t d hd with rfl | t
  · exact RoadKit.mvA hZ q
  · exact RoadKit.mv hZ q t
/-- WHAT COMES BACK, over the tables of the start Z: h the heap at the call, h' behind it -/
def Q (Z : State) (x : Addr) (A : Cell) (h : Heap) (v : Option Value) (h' : Heap) (L : List Loc) : Prop := v = none ∧ (∀ y ∈ L, y.base = x) ∧ RoadKit.Keep h h' [x] ∧ h'.size = h.size + 1 ∧ RoadKit.Exa Z h' x ST ∧ RoadKit.Fld Z h' x ST "value" "[B" (.ref h.size) ∧ RoadKit.Fld Z h' x ST "coder" "B" (.int 0) ∧
  (∃ V : Cell, RoadKit.Arr Z h' h.size V .byte ∧ V.vm = .none ∧ Z.vm.findClass "[B" = some V.cls ∧ V.slots.size = A.slots.size ∧ ∀ j, j < A.slots.size → V.slots[j]? = some (.int (lo8 (cv A j)))) ∧
  ∀ (O n d : String) (w : Value), RoadKit.Fld Z h x O n d w → RoadKit.slotOf Z O n d ≠ RoadKit.slotOf Z ST "value" "[B" → RoadKit.slotOf Z O n d ≠ RoadKit.slotOf Z ST "coder" "B" → RoadKit.Fld Z h' x O n d w
/-- **new String(chars) AT A CALL, IN THE ROAD'S FORM**: for specialBack behind newO: x the fresh String, b the char[] with the cell A -/
theorem back {p : Program} {l : Launch} {e : Env} {R : Room} {s : State} {args : Array Value} {below : List Frame} {len W : Nat} {Z : State} {a0 : Array Value} {h : Heap} (hZ : Z.Warmed39 s.vm) (hw : ∀ d ∈ words, d.before a0 Z = true) {kI : Nat} (wi : (Jvm.Cond.instantiable ST kI).before a0 Z = true)
    {x b : Addr} {A : Cell} {z : Int32} {v0 c0 : Value} (E : RoadKit.Exa Z h x ST) (V : RoadKit.Fld Z h x ST "value" "[B" v0) (C : RoadKit.Fld Z h x ST "coder" "B" c0) (K : RoadKit.Arr Z h b A .char) (hty : Typed .char A) (S : RoadKit.Sta Z h ST "COMPACT_STRINGS" "Z" (.int z)) (hz : ¬ z = 0)
    (l0 : 0 < A.slots.size) (l2 : A.slots.size ≤ 536870912) (hp : ∀ i, i < A.slots.size → ¬ 255 < cv A i) (hfr : 4 ≤ R.frames) (hlo : W + 65 ≤ R.locals) :
    Back l R p e below s args New1.yN len W (fun P a => a = #[.ref x, .ref b] ∧ P.U.heap = h ∧ P.cells + 1 ≤ R.cells ∧ P.slots + A.slots.size ≤ R.slots)
      (fun P _ v B => ∃ L, Q Z x A h v B.U.heap L ∧ B.locs = P.locs ++ L ∧ B.cells = P.cells + 1 ∧ B.slots = P.slots + A.slots.size) := by
  intro m meth c P g ig mk a X hg hsize hdg hW hn hp'
  obtain ⟨rfl, rfl, r1, r2⟩ := hp'
  have al : Z.vm.Alike P.U.vm := hZ.alike.trans X.warmed.alike
  obtain ⟨D, cfV, kV, iV, fV, hD, gV, stV, knV, obV, asV, slV⟩ := id V
  obtain ⟨D', cfC, kC, iC, fC, hD', gC, stC, -, -, asC, slC⟩ := id C
  cases hD.symm.trans hD'
  obtain ⟨D2, kD, e1, e2, e3, e4, e5⟩ := id E
  cases hD.symm.trans e1
  obtain ⟨c2, k2, i1, i2, i3, -⟩ := Cond.instantiable_spec wi
  cases e2.symm.trans i1
  cases e3.symm.trans i2
  obtain ⟨kU, u1, u2⟩ := al.2.2 _ _ e3
  have hB : Blank ST x D P.U := ⟨hD, ⟨knV, fun q hq => by rw [hq] at obV; cases obV⟩, by rw [al.findClass]; exact e2, kU, u1, by rw [u2]; exact i3, by rw [u2]; exact e5 i3⟩
  have F1 : Found ST "value" "[B" fV P.U := ⟨SBG.found_only al ⟨cfV, kV, iV, gV⟩, stV⟩
  have F2 : Found ST "coder" "B" fC P.U := ⟨SBG.found_only al ⟨cfC, kC, iC, gC⟩, stC⟩
  have hA : Ch b A P.U := ⟨⟨K.1, State.isArrayOf_alike al K.2.1, K.2.2, by omega⟩, hty⟩
  have hS : StaticIs P.U ST "COMPACT_STRINGS" "Z" (.int z) := by
    obtain ⟨cfS, iS, kS, fS, st, cS, t1, t2, t3, t4, t5, t6, t7⟩ := S
    exact StaticIs.there (s := { Z with heap := P.U.heap }) ⟨cfS, iS, kS, fS, st, cS, t1, t2, t3, t4, t5, (fun q => by rw [q] at t6; cases t6), t7⟩ al rfl
  obtain ⟨v, B, X', ⟨⟨hv, E', V', q1, q2, q3, q4, q5, q6, q7, q8, q9, q10, q11⟩, hl, hc, hs⟩, st⟩ := New1.pays x D fV fC b A z (tab_of (moved hZ hw)) hfr hlo m meth c P g ig mk _ X hg hsize hdg hW hn ⟨r1, r2, rfl, hB, F1, F2, hA, hS, hz, l0, l2, hp⟩
  have al' : Z.vm.Alike B.U.vm := hZ.alike.trans X'.warmed.alike
  have hsz : E'.slots.size = D.slots.size := by
    obtain ⟨-, -, -, kB, w1, w2, w3⟩ := q1
    obtain ⟨kB', y1, y2⟩ := al'.2.2 _ _ e3
    rw [q2.2.1] at w1
    cases w1.symm.trans y1
    rw [w3, e5 i3, y2]
  refine ⟨v, B, X', ⟨_, ⟨hv, ?_, ⟨by omega, fun y cy hy hn' => q10 y cy (by simpa using hn') hy, fun y cy hy => ?_⟩, q11, ⟨E', _, q1.1, by rw [q2.2.1]; exact e2, by rw [q2.2.1]; exact e3, by rw [q2.1]; exact obV, fun _ => by rw [hsz]; exact e5 i3⟩,
    ⟨E', cfV, kV, iV, fV, q1.1, gV, stV, by rw [q2.1]; exact knV, by rw [q2.1]; exact obV, by rw [q2.2.1]; exact asV, q3⟩, ⟨E', cfC, kC, iC, fC, q1.1, gC, stC, by rw [q2.1]; exact knV, by rw [q2.1]; exact obV, by rw [q2.2.1]; exact asC, q4⟩,
    ⟨V', ⟨q5.1, State.isArrayOf_alike al'.symm q5.2.1, q5.2.2.1⟩, q6, by rw [← al'.findClass]; exact q7, q8, fun j hj => by have := q9 j hj; rwa [Nat.zero_add] at this⟩, fun O n d w F n1 n2 => ?_⟩, hl, hc, hs⟩, st⟩
  · intro y hy
    simp only [List.mem_cons, List.not_mem_nil, or_false] at hy
    rcases hy with rfl | rfl <;> rfl
  · by_cases q : y = x
    · subst q
      cases hD.symm.trans hy
      exact ⟨E', q1.1, q2.2.1, q2.1, hsz⟩
    · exact ⟨cy, q10 y cy q hy, rfl, rfl, rfl⟩
  · obtain ⟨D3, cf, k, i, f, g1, g2, g3, g4, g5, g6, g7⟩ := F
    cases hD.symm.trans g1
    simp only [RoadKit.slotOf, g2, gV, gC, Option.map_some, Option.getD_some] at n1 n2
    exact ⟨E', cf, k, i, f, q1.1, g2, g3, by rw [q2.1]; exact g4, by rw [q2.1]; exact g5, by rw [q2.2.1]; exact g6, by rw [q2.2.2 f.slot (by simp [n1, n2])]; exact g7⟩
end StrChars.Road
namespace StrChars.Road
open Jvm Sem ClassFile Op Lib Jvm.Stand Jvm.Free Jvm.Free.XT
/-- WHAT COMES BACK, the byte[] as a list of values -/
def QA (Z : State) (x : Addr) (zn : Int32) (cs : List Int32) (h : Heap) (v : Option Value) (h' : Heap) (L : List Loc) : Prop := v = none ∧ (∀ y ∈ L, y.base = x) ∧ RoadKit.Keep h h' [x] ∧ h'.size = h.size + 1 ∧ RoadKit.Exa Z h' x ST ∧ RoadKit.Fld Z h' x ST "value" "[B" (.ref h.size) ∧ RoadKit.Fld Z h' x ST "coder" "B" (.int 0) ∧
  (∃ kb, Z.vm.findClass "[B" = some kb ∧ RoadKit.Arv Z h' h.size kb .byte zn (cs.map fun c => .int (lo8 c)) (.int 0)) ∧
  ∀ (O n d : String) (w : Value), RoadKit.Fld Z h x O n d w → RoadKit.slotOf Z O n d ≠ RoadKit.slotOf Z ST "value" "[B" → RoadKit.slotOf Z O n d ≠ RoadKit.slotOf Z ST "coder" "B" → RoadKit.Fld Z h' x O n d w
/-- **new String(chars) AT A CALL, THE ARRAYS AS LISTS**: the char[] at b holds cs, not empty, no char above 255 -/
theorem backArv {p : Program} {l : Launch} {e : Env} {R : Room} {s : State} {args : Array Value} {below : List Frame} {len W : Nat} {Z : State} {a0 : Array Value} {h : Heap} (hZ : Z.Warmed39 s.vm) (hw : ∀ d ∈ words, d.before a0 Z = true) {kI : Nat} (wi : (Jvm.Cond.instantiable ST kI).before a0 Z = true)
    {x b : Addr} {k : ClassId} {zn z : Int32} {cs : List Int32} {dv v0 c0 : Value} (E : RoadKit.Exa Z h x ST) (V : RoadKit.Fld Z h x ST "value" "[B" v0) (C : RoadKit.Fld Z h x ST "coder" "B" c0) (K : RoadKit.Arv Z h b k .char zn (cs.map Value.int) dv) (S : RoadKit.Sta Z h ST "COMPACT_STRINGS" "Z" (.int z)) (hz : ¬ z = 0)
    (hlen : zn.toNatClampNeg = cs.length) (h0 : 0 < cs.length) (hbig : cs.length ≤ 536870912) (hall : ∀ c ∈ cs, ¬ 255 < c) (hfr : 4 ≤ R.frames) (hlo : W + 65 ≤ R.locals) :
    Back l R p e below s args New1.yN len W (fun P a => a = #[.ref x, .ref b] ∧ P.U.heap = h ∧ P.cells + 1 ≤ R.cells ∧ P.slots + cs.length ≤ R.slots)
      (fun P _ v B => ∃ L, QA Z x zn cs h v B.U.heap L ∧ B.locs = P.locs ++ L ∧ B.cells = P.cells + 1 ∧ B.slots = P.slots + cs.length) := by
  obtain ⟨A, K1, K2, K3, K4, K5, K6⟩ := K
  have e : A.slots.size = cs.length := K3.trans hlen
  have hat : ∀ (i : Nat) (hi : i < cs.length), A.slots[i]? = some (.int cs[i]) := fun i hi => by rw [K5 i (by omega)]; simp [List.getD_eq_getElem?_getD, hi]
  have hcv : ∀ (i : Nat) (hi : i < cs.length), cv A i = cs[i] := fun i hi => by unfold cv; rw [hat i hi]
  have hty : Typed .char A := fun i v hv => by
    have hi : i < A.slots.size := (Array.getElem?_eq_some_iff.mp hv).1
    have q := K5 i hi
    rw [hv] at q
    rw [Option.some.inj q]
    exact K6 i hi
  refine Back.mono (back hZ hw wi E V C K1 hty S hz (by omega) (by omega) (fun i hi => by rw [hcv i (by omega)]; exact hall _ (List.getElem_mem _)) hfr hlo) (fun P a hp => ⟨hp.1, hp.2.1, hp.2.2.1, by rw [e]; exact hp.2.2.2⟩) (fun P a v B hp hq => ?_)
  obtain ⟨L, ⟨q1, q2, q3, q4, q5, q6, q7, ⟨V', v1, v2, v3, v4, v5⟩, q9⟩, hl, hc, hs⟩ := hq
  refine ⟨L, ⟨q1, q2, q3, q4, q5, q6, q7, ⟨V'.cls, v3, V', v1, rfl, by rw [v4, e, hlen], K4, fun i hi => ?_, fun i hi => ?_⟩, q9⟩, hl, hc, by rw [hs, e]⟩
  · have hi' : i < cs.length := by omega
    rw [v5 i (by omega), hcv i hi']; simp [List.getD_eq_getElem?_getD, hi']
  · have hi' : i < cs.length := by omega
    simp only [List.getD_eq_getElem?_getD, List.getElem?_map, List.getElem?_eq_getElem hi', Option.map_some, Option.getD_some]
    exact fits_lo8 _
end StrChars.Road
namespace StrChars.Road
open Jvm Sem ClassFile Op Lib Jvm.Stand Jvm.Free Jvm.Free.XT
/-- WHAT COMES BACK, in the writer's own shape -/
def QV (Z : State) (x : Addr) (N : Int32) (bs : List Int32) (h : Heap) (n0 : Nat) (v : Option Value) (h' : Heap) (L : List Loc) : Prop := v = none ∧ RoadKit.Fr n0 L ∧ RoadKit.Keep h h' [x] ∧ RoadKit.Exa Z h' x ST ∧ RoadKit.Fld Z h' x ST "coder" "B" (.int 0) ∧
  ∃ (t : Addr) (kb : ClassId), n0 ≤ t ∧ h.size ≤ t ∧ ¬ t = x ∧ RoadKit.Fld Z h' x ST "value" "[B" (.ref t) ∧ RoadKit.Arv Z h' t kb .byte N (bs.map Value.int) (.int 0)
/-- **new String(chars) AT A CALL, FOR THE WRITER**: a char[] of n known ints, each 0 to 255 -/
theorem backV {p : Program} {l : Launch} {e : Env} {R : Room} {s : State} {args : Array Value} {below : List Frame} {len W : Nat} {Z : State} {a0 : Array Value} {h : Heap} (hZ : Z.Warmed39 s.vm) (hw : ∀ d ∈ words, d.before a0 Z = true) {kI : Nat} (wi : (Jvm.Cond.instantiable ST kI).before a0 Z = true)
    {x b : Addr} {kC : ClassId} {cs bs : List Int32} {d v0 c0 : Value} {z N : Int32} {n n0 : Nat} (hx0 : n0 ≤ x) (hh0 : n0 ≤ h.size) (E : RoadKit.Exa Z h x ST) (V : RoadKit.Fld Z h x ST "value" "[B" v0) (C : RoadKit.Fld Z h x ST "coder" "B" c0) (K : RoadKit.Arv Z h b kC .char N (cs.map Value.int) d) (S : RoadKit.Sta Z h ST "COMPACT_STRINGS" "Z" (.int z)) (hz : ¬ z = 0)
    (hn : cs.length = n) (hN : N = Int32.ofNat n) (l0 : 0 < n) (l2 : n ≤ 4000) (hp : ∀ c ∈ cs, ¬ c < 0 ∧ ¬ (255 : Int32) < c) (hb : bs = cs.map (fun c => c.toInt8.toInt32)) (hfr : 4 ≤ R.frames) (hlo : W + 65 ≤ R.locals) :
    Back l R p e below s args (⟨"java/lang/String", "<init>", "([C)V"⟩ : MethodName) len W (fun P a => a = #[.ref x, .ref b] ∧ P.U.heap = h ∧ P.cells + 1 ≤ R.cells ∧ P.slots + n ≤ R.slots)
      (fun P _ v B => ∃ L, QV Z x N bs h n0 v B.U.heap L ∧ B.locs = P.locs ++ L ∧ B.cells = P.cells + 1 ∧ B.slots = P.slots + n) := by
  subst hn hN hb
  refine Back.mono (backArv hZ hw wi E V C K S hz (n32 (by omega)) l0 (by omega) (fun c hc => (hp c hc).2) hfr hlo) (fun P a hp => hp) (fun P a v B hp hq => ?_)
  obtain ⟨L, ⟨q1, q2, q3, q4, q5, q6, q7, ⟨kb, v1, v2⟩, q9⟩, hl, hc, hs⟩ := hq
  exact ⟨L, ⟨q1, fun y hy => by rw [q2 y hy]; exact hx0, q3, q5, q7, h.size, kb, hh0, Nat.le_refl _, Nat.ne_of_gt E.lt, q6, by rw [List.map_map]; exact v2⟩, hl, hc, hs⟩
end StrChars.Road
namespace StrChars
open Jvm Sem ClassFile Op Lib Jvm.Stand Jvm.Free.XT Jvm.Free.ALB Jvm.Free.JM Jvm.Free
open Jvm.Lib.Cold (StaticIs)
def hi8 (x : Int32) : Int32 := lo8 (x >>> ((8 : Int32) &&& 31))
/-- what StringUTF16.getChar makes of two bytes -/
def pairCh (u v : Int32) : Int32 := (((u &&& 255) <<< ((0 : Int32) &&& 31)) ||| ((v &&& 255) <<< ((8 : Int32) &&& 31))).toUInt32.toUInt16.toUInt32.toInt32
theorem shr0 (c : Int32) : c >>> ((0 : Int32) &&& 31) = c := by
  have e : ((0 : Int32) &&& 31) = 0 := by decide
  rw [e]
  apply Int32.toBitVec_inj.mp
  rw [Int32.toBitVec_shiftRight]
  have e1 : ((0 : Int32).toBitVec.smod 32) = 0#32 := by decide
  rw [e1, BitVec.sshiftRight_eq']
  exact BitVec.sshiftRight_zero
theorem lo8_and (x : Int32) : (lo8 x &&& 255).toBitVec.toNat = x.toBitVec.toNat % 256 := by
  have h : (lo8 x).toBitVec = (x.toBitVec.signExtend 8).signExtend 32 := by rw [lo8, Int8.toBitVec_toInt32, Int32.toBitVec_toInt8]
  rw [Int32.toBitVec_and, BitVec.toNat_and, h]
  have e : ((x.toBitVec.signExtend 8).signExtend 32).toNat % 256 = x.toBitVec.toNat % 256 := by
    rw [BitVec.toNat_signExtend]
    have hlt := x.toBitVec.isLt
    simp only [BitVec.toNat_setWidth, BitVec.toNat_signExtend]
    split <;> split <;> omega
  rw [← e]
  exact Nat.and_two_pow_sub_one_eq_mod _ 8
theorem pair_says {c : Int32} (h0 : ¬ c < 0) (h1 : ¬ 65535 < c) : pairCh (lo8 c) (hi8 c) = c := by
  rw [Int32.lt_iff_toInt_lt] at h0 h1
  have e0 : (0 : Int32).toInt = 0 := rfl
  have e1 : (65535 : Int32).toInt = 65535 := rfl
  have hc : c.toInt = c.toBitVec.toNat := by
    have := c.toBitVec.isLt
    have e : c.toInt = c.toBitVec.toInt := rfl
    rw [e] at h0 h1
    rw [e]
    rw [BitVec.toInt_eq_toNat_cond] at h0 h1 ⊢
    split at h0 <;> split <;> omega
  have hn : c.toBitVec.toNat < 65536 := by omega
  have a1 := lo8_and c
  have a2 : (hi8 c &&& 255).toBitVec.toNat = c.toBitVec.toNat / 256 := by
    rw [hi8, lo8_and]
    have e : ((8 : Int32) &&& 31) = 8 := by decide
    rw [e, Int32.toBitVec_shiftRight]
    have e2 : ((8 : Int32).toBitVec.smod 32) = 8#32 := by decide
    rw [e2, BitVec.sshiftRight_eq', BitVec.toNat_sshiftRight_of_msb_false (by rw [BitVec.msb_eq_false_iff_two_mul_lt]; omega)]
    show c.toBitVec.toNat >>> 8 % 256 = _
    rw [Nat.shiftRight_eq_div_pow]
    omega
  unfold pairCh
  apply Int32.toBitVec_inj.mp
  apply BitVec.eq_of_toNat_eq
  have f0 : ((0 : Int32) &&& 31) = 0 := by decide
  have f8 : ((8 : Int32) &&& 31) = 8 := by decide
  rw [f0, f8]
  have g : (((lo8 c &&& 255) <<< (0 : Int32)) ||| ((hi8 c &&& 255) <<< (8 : Int32))).toBitVec.toNat = c.toBitVec.toNat := by
    rw [Int32.toBitVec_or, Int32.toBitVec_shiftLeft, Int32.toBitVec_shiftLeft]
    have s0 : ((0 : Int32).toBitVec.smod 32) = 0#32 := by decide
    have s8 : ((8 : Int32).toBitVec.smod 32) = 8#32 := by decide
    rw [s0, s8, BitVec.toNat_or]
    simp only [BitVec.shiftLeft_eq', BitVec.toNat_shiftLeft, a1, a2]
    show (c.toBitVec.toNat % 256) <<< 0 % 2 ^ 32 ||| (c.toBitVec.toNat / 256) <<< 8 % 2 ^ 32 = _
    rw [Nat.shiftLeft_zero, Nat.mod_eq_of_lt (show c.toBitVec.toNat % 256 < 2 ^ 32 by omega), Nat.mod_eq_of_lt (show (c.toBitVec.toNat / 256) <<< 8 < 2 ^ 32 by rw [Nat.shiftLeft_eq]; omega), Nat.or_comm, ← Nat.shiftLeft_add_eq_or_of_lt (by omega), Nat.shiftLeft_eq]
    omega
  show BitVec.toNat (((((lo8 c &&& 255) <<< (0 : Int32)) ||| ((hi8 c &&& 255) <<< (8 : Int32))).toBitVec.setWidth 16).setWidth 32) = _
  rw [BitVec.toNat_setWidth, BitVec.toNat_setWidth, g]
  omega
end StrChars
namespace StrChars
open Jvm Sem ClassFile Op Lib Jvm.Stand Jvm.Free.XT Jvm.Free.ALB Jvm.Free.JM Jvm.Free
open Jvm.Lib.Cold (StaticIs)
theorem shr1 {n : Nat} (h : 2 * n < 2 ^ 31) : Int32.ofNat (2 * n) >>> ((1 : Int32) &&& 31) = Int32.ofNat n := by
  have e : ((1 : Int32) &&& 31) = 1 := by decide
  rw [e]
  apply Int32.toBitVec_inj.mp
  rw [Int32.toBitVec_shiftRight]
  have e1 : ((1 : Int32).toBitVec.smod 32) = 1#32 := by decide
  have hm : (BitVec.ofNat 32 (2 * n)).toNat = 2 * n := by rw [BitVec.toNat_ofNat, Nat.mod_eq_of_lt (by omega)]
  rw [e1, BitVec.sshiftRight_eq']
  apply BitVec.eq_of_toNat_eq
  show ((BitVec.ofNat 32 (2 * n)).sshiftRight 1).toNat = (BitVec.ofNat 32 n).toNat
  rw [BitVec.toNat_sshiftRight_of_msb_false (by rw [BitVec.msb_eq_false_iff_two_mul_lt, hm]; omega), hm, BitVec.toNat_ofNat, Nat.shiftRight_eq_div_pow]
  omega
/-- charAt's cast of a byte read back -/
def chr8 (u : Int32) : Int32 := (u &&& 255).toUInt32.toUInt16.toUInt32.toInt32
theorem chr8_lo8 {c : Int32} (h0 : ¬ c < 0) (h1 : ¬ 255 < c) : chr8 (lo8 c) = c := by
  have t : ∀ k : Fin 256, (Int32.ofNat k.val).toUInt32.toUInt16.toUInt32.toInt32 = Int32.ofNat k.val := by decide +kernel
  unfold chr8
  rw [lo8_mask h0 h1]
  rw [Int32.lt_iff_toInt_lt] at h0 h1
  have e0 : (0 : Int32).toInt = 0 := rfl
  have e1 : (255 : Int32).toInt = 255 := rfl
  obtain ⟨k, hk⟩ : ∃ k : Nat, c.toInt = k := ⟨c.toInt.toNat, by omega⟩
  have hx : c = Int32.ofNat k := Int32.toInt_inj.mp (by rw [hk, Int32.toInt_ofNat_small (by omega)])
  rw [hx]
  exact t ⟨k, by omega⟩
theorem narrow_ch {c : Int32} (h0 : ¬ c < 0) (h1 : ¬ 65535 < c) : narrow .char (.int c) = .int c := by
  have q : narrow .char (.int (pairCh (lo8 c) (hi8 c))) = .int (pairCh (lo8 c) (hi8 c)) := narrow_c _
  rwa [pair_says h0 h1] at q
/-- the array's cell V codes the n chars f 0 .. f (n - 1) by the coder cd, as the JDK does: coder 1 just where some char is above 255 -/
def Cod (cd : Int32) (n : Nat) (f : Nat → Int32) (V : Cell) : Prop := (cd = 0 ∧ V.slots.size = n ∧ ∀ j, j < n → V.slots[j]? = some (.int (lo8 (f j))) ∧ ¬ 255 < f j) ∨ (cd = 1 ∧ V.slots.size = 2 * n ∧ (∀ j, j < n → V.slots[2 * j]? = some (.int (lo8 (f j))) ∧ V.slots[2 * j + 1]? = some (.int (hi8 (f j)))) ∧ ∃ j, j < n ∧ 255 < f j)
theorem Cod.cd {cd : Int32} {n : Nat} {f : Nat → Int32} {V : Cell} (h : Cod cd n f V) : cd = 0 ∨ cd = 1 := h.imp (fun q => q.1) fun q => q.1
theorem Cod.len {cd : Int32} {n : Nat} {f : Nat → Int32} {V : Cell} (h : Cod cd n f V) (hs : V.slots.size < 2 ^ 31) : Int32.ofNat V.slots.size >>> (cd &&& 31) = Int32.ofNat n := by
  rcases h with ⟨rfl, h, -⟩ | ⟨rfl, h, -⟩
  · rw [shr0, h]
  · rw [h, shr1 (by omega)]
/-- **x is a String of the n chars f 0 .. f (n - 1)**, Latin-1 or UTF-16; its array at t has the cell V -/
def Txt (x t : Addr) (V : Cell) (cd : Int32) (n : Nat) (f : Nat → Int32) (U : State) : Prop := Exact "java/lang/String" x U ∧ Has x "java/lang/String" "value" "[B" (.ref t) U ∧ Has x "java/lang/String" "coder" "B" (.int cd) U ∧ XT.Arr .byte t V U ∧ Cod cd n f V ∧ ∀ j, j < n → ¬ f j < 0 ∧ ¬ 65535 < f j
theorem Txt.mv {x t : Addr} {V : Cell} {cd : Int32} {n : Nat} {f : Nat → Int32} {U U' : State} (h : Txt x t V cd n f U) (hal : U.vm.Alike U'.vm) (hh : U'.heap = U.heap) : Txt x t V cd n f U' := ⟨h.1.mv hal hh, h.2.1.mv hal hh, h.2.2.1.mv hal hh, h.2.2.2.1.mv hal hh, h.2.2.2.2⟩
namespace Cdr
def yN : MethodName := ⟨"java/lang/String", "coder", "()B"⟩
abbrev yB : ByteArray := jdk_42_method_152_code
theorem d0 : decode yB 0 = .ok (.getstatic 38, 3) := by decide +kernel
theorem d3 : decode yB 3 = .ok (.ifCond (.eq) 10, 3) := by decide +kernel
theorem d6 : decode yB 6 = .ok (.aload_n 0, 1) := by decide +kernel
theorem d7 : decode yB 7 = .ok (.getfield 15, 3) := by decide +kernel
theorem d10 : decode yB 10 = .ok (.goto 4, 3) := by decide +kernel
theorem d14 : decode yB 14 = .ok (.ireturn, 1) := by decide +kernel
def site : List Cond := [.fieldLink "java/lang/String" 38 "java/lang/String" "COMPACT_STRINGS" "Z", .fieldLink "java/lang/String" 15 "java/lang/String" "coder" "B"]
def tab : Cond := tabOf yN yB 1 (some .byte) site
def P (x : Addr) (cd z : Int32) (args : Array Value) (s : State) : Prop := args = #[.ref x] ∧ Has x "java/lang/String" "coder" "B" (.int cd) s ∧ (cd = 0 ∨ cd = 1) ∧ StaticIs s "java/lang/String" "COMPACT_STRINGS" "Z" (.int z) ∧ ¬ z = 0
def E (cd : Int32) (r : Option Value) (s u : State) : Prop := XT.PureE (some (.int cd)) r s u
theorem law (l : Launch) (x : Addr) (cd z : Int32) : Law l yN 1 0 0 0 yB 1 (some .byte) site (P x cd z) (E cd) [] 0 0 := by
  refine Law.of_walk (plainFor_of_name (by decide +kernel)) (by decide +kernel) (by decide +kernel) (by decide) (fun _ _ h => by rw [h.1]; rfl) (fun _ U U' hal hh h => ⟨h.1, h.2.1.mv hal hh, h.2.2.1, h.2.2.2.1.there hal hh, h.2.2.2.2⟩) (fun r U U' V V' h1 hal h2 h => XT.PureE.mv r U U' V V' h1 hal h2 h) ?_
  intro p e s m args below meth c s₁ X0 hexec hbytes hml hret hlk hnm hown hh0 W hP
  obtain ⟨rfl, hx, hc, s1, hz⟩ := hP
  have c1 : Steps p.tables e below (s₁.setTop (entryFrame m #[.ref x] 1)) (s₁.setTop (mkF m 0 #[.val (.ref x)] [])) := entry rfl
  obtain ⟨T2, X2, q2, st2⟩ := X0.sget hexec hown (wk W (.fieldLink "java/lang/String" 38 "java/lang/String" "COMPACT_STRINGS" "Z")) s1 (fun _ _ h => by rw [hh0]; exact h) (g := (mkF m 0 #[.val (.ref x)] [])) rfl (hb hbytes d0)
  have hh2 := q2.trans hh0
  have c3 : Steps p.tables e below (s₁.setTop (entryFrame m #[.ref x] 1)) (T2.setTop (mkF m 7 #[.val (.ref x)] [.ref x])) := (c1.trans (st2 _ (Steps.refl _))).trans (by
    refine XS.ifNo X2.here hexec rfl (hb hbytes d3) rfl (i0_eq_f hz) ?_
    refine XS.aloadN X2.here hexec rfl (hb hbytes d6) rfl rfl ?_
    exact Steps.refl _)
  obtain ⟨T4, X4, q4, st4⟩ := X2.hget hexec hown (wk W (.fieldLink "java/lang/String" 15 "java/lang/String" "coder" "B")) (hx.mv X2.warmed.alike hh2) (g := (mkF m 7 #[.val (.ref x)] [.ref x])) rfl (rest := []) rfl (hb hbytes d7)
  have c5 : Steps p.tables e below (s₁.setTop (entryFrame m #[.ref x] 1)) (T4.setTop (mkF m 14 #[.val (.ref x)] [.int cd])) := (c3.trans (st4 _ (Steps.refl _))).trans (by
    refine XS.goto X4.here hexec rfl (pc0 := 10) rfl (hb hbytes d10) (by decide) rfl ?_
    exact Steps.refl _)
  exact ⟨T4, some (.int cd), _, _, _, X4, rfl, rfl, rfl, (fun h => by cases h), ⟨rfl, q4.trans hh2⟩, fun fs hl => c5.trans (X4.ireturnOut hexec hret (by rcases hc with rfl | rfl <;> rfl) (Or.inr (Or.inr (Or.inl rfl))) (hb hbytes d14) hl)⟩
end Cdr
namespace Len
def yN : MethodName := ⟨"java/lang/String", "length", "()I"⟩
abbrev yB : ByteArray := jdk_42_method_54_code
theorem d0 : decode yB 0 = .ok (.aload_n 0, 1) := by decide +kernel
theorem d1 : decode yB 1 = .ok (.getfield 9, 3) := by decide +kernel
theorem d4 : decode yB 4 = .ok (.arraylength, 1) := by decide +kernel
theorem d5 : decode yB 5 = .ok (.aload_n 0, 1) := by decide +kernel
theorem d6 : decode yB 6 = .ok (.invokevirtual 335, 3) := by decide +kernel
theorem d9 : decode yB 9 = .ok (.ishr, 1) := by decide +kernel
theorem d10 : decode yB 10 = .ok (.ireturn, 1) := by decide +kernel
def site : List Cond := [.fieldLink "java/lang/String" 9 "java/lang/String" "value" "[B", Cdr.tab] ++ virtW "java/lang/String" 335 "java/lang/String" Cdr.yN Cdr.yN
def tab : Cond := tabOf yN yB 1 (some .int) site
def P (x t : Addr) (V : Cell) (cd : Int32) (n : Nat) (f : Nat → Int32) (z : Int32) (args : Array Value) (s : State) : Prop := args = #[.ref x] ∧ Txt x t V cd n f s ∧ StaticIs s "java/lang/String" "COMPACT_STRINGS" "Z" (.int z) ∧ ¬ z = 0
def E (n : Nat) (r : Option Value) (s u : State) : Prop := XT.PureE (some (.int (Int32.ofNat n))) r s u
/-- length() of a String of n chars, in either coding -/
theorem law (l : Launch) (x t : Addr) (V : Cell) (cd : Int32) (n : Nat) (f : Nat → Int32) (z : Int32) : Law l yN 1 0 1 13 yB 1 (some .int) site (P x t V cd n f z) (E n) [] 0 0 := by
  refine Law.of_walk (plainFor_of_name (by decide +kernel)) (by decide +kernel) (by decide +kernel) (by decide) (fun _ _ h => by rw [h.1]; rfl) (fun _ U U' hal hh h => ⟨h.1, h.2.1.mv hal hh, h.2.2.1.there hal hh, h.2.2.2⟩) (fun r U U' V V' h1 hal h2 h => XT.PureE.mv r U U' V V' h1 hal h2 h) ?_
  intro p e s m args below meth c s₁ X0 hexec hbytes hml hret hlk hnm hown hh0 W hP
  obtain ⟨rfl, hx, s1, hz⟩ := hP
  have v31 := hx.2.2.2.1.2.2.2
  have c1 : Steps p.tables e below (s₁.setTop (entryFrame m #[.ref x] 1)) (s₁.setTop (mkF m 1 #[.val (.ref x)] [.ref x])) := Steps.trans (entry rfl) (by
    show Steps p.tables e below (s₁.setTop (mkF m 0 #[.val (.ref x)] [])) _
    refine XS.aloadN X0.here hexec rfl (hb hbytes d0) rfl rfl ?_
    exact Steps.refl _)
  obtain ⟨T2, X2, q2, st2⟩ := X0.hget hexec hown (wk W (.fieldLink "java/lang/String" 9 "java/lang/String" "value" "[B")) (hx.mv X0.warmed.alike hh0).2.1 (g := (mkF m 1 #[.val (.ref x)] [.ref x])) rfl (rest := []) rfl (hb hbytes d1)
  have hh2 := q2.trans hh0
  have hx2 := hx.mv X2.warmed.alike hh2
  have c3 : Steps p.tables e below (s₁.setTop (entryFrame m #[.ref x] 1)) (T2.setTop (mkF m 6 #[.val (.ref x)] [.ref x, .int (Int32.ofNat V.slots.size)])) := (c1.trans (st2 _ (Steps.refl _))).trans (by
    refine X2.alen hexec hx2.2.2.2.1 rfl rfl (hb hbytes d4) ?_
    refine XS.aloadN X2.here hexec rfl (hb hbytes d5) rfl rfl ?_
    exact Steps.refl _)
  obtain ⟨v4, T4, X4, E4, g4⟩ := X2.callV hexec (Cdr.law l x cd z) hown (wks W (virtW "java/lang/String" 335 "java/lang/String" Cdr.yN Cdr.yN)) rfl (by decide) (wk W Cdr.tab) (W := 1) (Nat.le_of_ble_eq_true rfl) (Nat.le_of_ble_eq_true rfl) (Nat.le_refl _) (Nat.le_refl _) (hx2.1.fc X2.warmed.alike) hx2.1.is (g := (mkF m 6 #[.val (.ref x)] [.ref x, .int (Int32.ofNat V.slots.size)])) rfl (by rw [hml]; rfl) c3 (argsL := []) (rest := [.int (Int32.ofNat V.slots.size)]) rfl rfl (by show 2 * 0 + (1 + 0) ≤ _; decide) (hb hbytes d6) (⟨rfl, hx2.2.2.1, hx.2.2.2.2.1.cd, s1.there X2.warmed.alike hh2, hz⟩)
  obtain ⟨rfl, q4⟩ := E4
  have c5 : Steps p.tables e below (s₁.setTop (entryFrame m #[.ref x] 1)) (T4.setTop (mkF m 10 #[.val (.ref x)] [.int (Int32.ofNat V.slots.size >>> (cd &&& 31))])) := Steps.trans g4 (by
    refine ishr X4.here hexec rfl (hb hbytes d9) rfl ?_
    exact Steps.refl _)
  rw [hx.2.2.2.2.1.len v31] at c5
  exact ⟨T4, some (.int (Int32.ofNat n)), _, _, _, X4, rfl, rfl, rfl, (fun h => by cases h), ⟨rfl, q4.trans hh2⟩, fun fs hl => c5.trans (X4.ireturnOut hexec hret rfl (Or.inl rfl) (hb hbytes d10) hl)⟩
theorem pays {l : Launch} {R : Room} {p : Program} {e : Env} {below : List Frame} {s : State} {sargs : Array Value} {len W : Nat} (x t : Addr) (V : Cell) (cd : Int32) (n : Nat) (f : Nat → Int32) (z : Int32) (htab : tab.before sargs s = true) (hfr : 2 ≤ R.frames) (hlo : W + 25 ≤ R.locals) :
    Back l R p e below s sargs yN len W (fun A₁ a₁ => A₁.cells + 0 ≤ R.cells ∧ A₁.slots + 0 ≤ R.slots ∧ P x t V cd n f z a₁ A₁.U) (fun A₁ _ v₁ B₁ => E n v₁ A₁.U B₁.U ∧ B₁.locs = A₁.locs ++ [] ∧ B₁.cells = A₁.cells + 0 ∧ B₁.slots = A₁.slots + 0) :=
  (law l x t V cd n f z).pays htab hfr (by omega)
end Len
namespace IsL
def yN : MethodName := ⟨"java/lang/String", "isLatin1", "()Z"⟩
abbrev yB : ByteArray := jdk_42_method_154_code
theorem d0 : decode yB 0 = .ok (.getstatic 38, 3) := by decide +kernel
theorem d3 : decode yB 3 = .ok (.ifCond (.eq) 14, 3) := by decide +kernel
theorem d6 : decode yB 6 = .ok (.aload_n 0, 1) := by decide +kernel
theorem d7 : decode yB 7 = .ok (.getfield 15, 3) := by decide +kernel
theorem d10 : decode yB 10 = .ok (.ifCond (.ne) 7, 3) := by decide +kernel
theorem d13 : decode yB 13 = .ok (.iconst 1, 1) := by decide +kernel
theorem d14 : decode yB 14 = .ok (.goto 4, 3) := by decide +kernel
theorem d17 : decode yB 17 = .ok (.iconst 0, 1) := by decide +kernel
theorem d18 : decode yB 18 = .ok (.ireturn, 1) := by decide +kernel
def site : List Cond := [.fieldLink "java/lang/String" 38 "java/lang/String" "COMPACT_STRINGS" "Z", .fieldLink "java/lang/String" 15 "java/lang/String" "coder" "B"]
def tab : Cond := tabOf yN yB 1 (some .boolean) site
def P (x : Addr) (cd z : Int32) (args : Array Value) (s : State) : Prop := args = #[.ref x] ∧ Has x "java/lang/String" "coder" "B" (.int cd) s ∧ (cd = 0 ∨ cd = 1) ∧ StaticIs s "java/lang/String" "COMPACT_STRINGS" "Z" (.int z) ∧ ¬ z = 0
def E (cd : Int32) (r : Option Value) (s u : State) : Prop := XT.PureE (some (.int (1 - cd))) r s u
theorem law (l : Launch) (x : Addr) (cd z : Int32) : Law l yN 1 0 0 0 yB 1 (some .boolean) site (P x cd z) (E cd) [] 0 0 := by
  refine Law.of_walk (plainFor_of_name (by decide +kernel)) (by decide +kernel) (by decide +kernel) (by decide) (fun _ _ h => by rw [h.1]; rfl) (fun _ U U' hal hh h => ⟨h.1, h.2.1.mv hal hh, h.2.2.1, h.2.2.2.1.there hal hh, h.2.2.2.2⟩) (fun r U U' V V' h1 hal h2 h => XT.PureE.mv r U U' V V' h1 hal h2 h) ?_
  intro p e s m args below meth c s₁ X0 hexec hbytes hml hret hlk hnm hown hh0 W hP
  obtain ⟨rfl, hx, hc, s1, hz⟩ := hP
  have c1 : Steps p.tables e below (s₁.setTop (entryFrame m #[.ref x] 1)) (s₁.setTop (mkF m 0 #[.val (.ref x)] [])) := entry rfl
  obtain ⟨T2, X2, q2, st2⟩ := X0.sget hexec hown (wk W (.fieldLink "java/lang/String" 38 "java/lang/String" "COMPACT_STRINGS" "Z")) s1 (fun _ _ h => by rw [hh0]; exact h) (g := (mkF m 0 #[.val (.ref x)] [])) rfl (hb hbytes d0)
  have hh2 := q2.trans hh0
  have c3 : Steps p.tables e below (s₁.setTop (entryFrame m #[.ref x] 1)) (T2.setTop (mkF m 7 #[.val (.ref x)] [.ref x])) := (c1.trans (st2 _ (Steps.refl _))).trans (by
    refine XS.ifNo X2.here hexec rfl (hb hbytes d3) rfl (i0_eq_f hz) ?_
    refine XS.aloadN X2.here hexec rfl (hb hbytes d6) rfl rfl ?_
    exact Steps.refl _)
  obtain ⟨T4, X4, q4, st4⟩ := X2.hget hexec hown (wk W (.fieldLink "java/lang/String" 15 "java/lang/String" "coder" "B")) (hx.mv X2.warmed.alike hh2) (g := (mkF m 7 #[.val (.ref x)] [.ref x])) rfl (rest := []) rfl (hb hbytes d7)
  have c5 : Steps p.tables e below (s₁.setTop (entryFrame m #[.ref x] 1)) (T4.setTop (mkF m 10 #[.val (.ref x)] [.int cd])) := c3.trans (st4 _ (Steps.refl _))
  have c6 : Steps p.tables e below (s₁.setTop (entryFrame m #[.ref x] 1)) (T4.setTop (mkF m 18 #[.val (.ref x)] [.int (1 - cd)])) := by
    rcases hc with rfl | rfl
    · exact c5.trans (by
        refine XS.ifNo X4.here hexec rfl (hb hbytes d10) rfl (i0_ne_f rfl) ?_
        refine iconstV X4.here hexec rfl 1 (hb hbytes d13) (by decide) ?_
        refine XS.goto X4.here hexec rfl (pc0 := 14) rfl (hb hbytes d14) (by decide) rfl ?_
        exact Steps.refl _)
    · exact c5.trans (by
        refine XS.ifYes X4.here hexec rfl (pc0 := 10) rfl (hb hbytes d10) rfl (i0_ne_t (by decide)) (by decide) rfl ?_
        refine iconstV X4.here hexec rfl 0 (hb hbytes d17) (by decide) ?_
        exact Steps.refl _)
  exact ⟨T4, some (.int (1 - cd)), _, _, _, X4, rfl, rfl, rfl, (fun h => by cases h), ⟨rfl, q4.trans hh2⟩, fun fs hl => c6.trans (X4.ireturnOut hexec hret (by rcases hc with rfl | rfl <;> rfl) (Or.inr (Or.inl rfl)) (hb hbytes d18) hl)⟩
end IsL
namespace LChA
def yN : MethodName := ⟨"java/lang/StringLatin1", "charAt", "([BI)C"⟩
abbrev yB : ByteArray := jdk_43_method_2_code
theorem d0 : decode yB 0 = .ok (.iload_n 1, 1) := by decide +kernel
theorem d1 : decode yB 1 = .ok (.aload_n 0, 1) := by decide +kernel
theorem d2 : decode yB 2 = .ok (.arraylength, 1) := by decide +kernel
theorem d3 : decode yB 3 = .ok (.invokestatic 9, 3) := by decide +kernel
theorem d6 : decode yB 6 = .ok (.aload_n 0, 1) := by decide +kernel
theorem d7 : decode yB 7 = .ok (.iload_n 1, 1) := by decide +kernel
theorem d8 : decode yB 8 = .ok (.baload, 1) := by decide +kernel
theorem d9 : decode yB 9 = .ok (.sipush 255, 3) := by decide +kernel
theorem d12 : decode yB 12 = .ok (.iand, 1) := by decide +kernel
theorem d13 : decode yB 13 = .ok (.i2c, 1) := by decide +kernel
theorem d14 : decode yB 14 = .ok (.ireturn, 1) := by decide +kernel
def site : List Cond := [JO.Str_checkIndex.tab] ++ staticW "java/lang/StringLatin1" 9 JO.Str_checkIndex.yN
def tab : Cond := tabOf yN yB 2 (some .char) site
def P (t : Addr) (V : Cell) (i : Nat) (u : Int32) (fm : Value) (args : Array Value) (s : State) : Prop := args = #[.ref t, .int (Int32.ofNat i)] ∧ XT.Arr .byte t V s ∧ V.slots[i]? = some (.int u) ∧ (StaticIs s "jdk/internal/util/Preconditions" "SIOOBE_FORMATTER" "Ljava/util/function/BiFunction;" fm ∧ fm.isRef = true)
def E (u : Int32) (r : Option Value) (s w : State) : Prop := XT.PureE (some (.int (chr8 u))) r s w
theorem law (l : Launch) (t : Addr) (V : Cell) (i : Nat) (u : Int32) (fm : Value) : Law l yN 2 2 2 27 yB 2 (some .char) site (P t V i u fm) (E u) [] 0 0 := by
  refine Law.of_walk (plainFor_of_name (by decide +kernel)) (by decide +kernel) (by decide +kernel) (by decide) (fun _ _ h => by rw [h.1]; rfl) (fun _ U U' hal hh h => ⟨h.1, h.2.1.mv hal hh, h.2.2.1, h.2.2.2.1.there hal hh, h.2.2.2.2⟩) (fun r U U' V V' h1 hal h2 h => XT.PureE.mv r U U' V V' h1 hal h2 h) ?_
  intro p e s m args below meth c s₁ X0 hexec hbytes hml hret hlk hnm hown hh0 W hP
  obtain ⟨rfl, hV, hu, s1, rf⟩ := hP
  have v31 := hV.2.2.2
  have hi : i < V.slots.size := (Array.getElem?_eq_some_iff.mp hu).1
  have c1 : Steps p.tables e below (s₁.setTop (entryFrame m #[.ref t, .int (Int32.ofNat i)] 2)) (s₁.setTop (mkF m 0 #[.val (.ref t), .val (.int (Int32.ofNat i))] [])) := entry rfl
  have c2 : Steps p.tables e below (s₁.setTop (entryFrame m #[.ref t, .int (Int32.ofNat i)] 2)) (s₁.setTop (mkF m 3 #[.val (.ref t), .val (.int (Int32.ofNat i))] [.int (Int32.ofNat V.slots.size), .int (Int32.ofNat i)])) := c1.trans (by
    refine XS.iloadN X0.here hexec rfl (hb hbytes d0) rfl ?_
    refine XS.aloadN X0.here hexec rfl (hb hbytes d1) rfl rfl ?_
    refine X0.alen hexec (hV.mv X0.warmed.alike hh0) rfl rfl (hb hbytes d2) ?_
    exact Steps.refl _)
  obtain ⟨v3, T3, X3, E3, g3⟩ := X0.callS hexec (JO.Str_checkIndex.law l (Int32.ofNat i) (Int32.ofNat V.slots.size) fm) hown (wks W (staticW "java/lang/StringLatin1" 9 JO.Str_checkIndex.yN)) (wk W JO.Str_checkIndex.tab) (W := 0) (Nat.le_of_ble_eq_true rfl) (Nat.le_of_ble_eq_true rfl) (Nat.le_refl _) (Nat.le_refl _) (g := (mkF m 3 #[.val (.ref t), .val (.int (Int32.ofNat i))] [.int (Int32.ofNat V.slots.size), .int (Int32.ofNat i)])) rfl (by rw [hml]; rfl) c2 (argsL := [.int (Int32.ofNat i), .int (Int32.ofNat V.slots.size)]) (rest := []) rfl rfl (by show 2 * 0 + 0 ≤ _; decide) (hb hbytes d3) (⟨rfl, rf, s1.there X0.warmed.alike hh0, Int32.ofNat_not_neg (by omega), lt32 v31 hi⟩)
  obtain ⟨rfl, q3⟩ := E3
  have hh3 := q3.trans hh0
  have c4 : Steps p.tables e below (s₁.setTop (entryFrame m #[.ref t, .int (Int32.ofNat i)] 2)) (T3.setTop (mkF m 14 #[.val (.ref t), .val (.int (Int32.ofNat i))] [.int (chr8 u)])) := Steps.trans g3 (by
    refine XS.aloadN X3.here hexec rfl (hb hbytes d6) rfl rfl ?_
    refine XS.iloadN X3.here hexec rfl (hb hbytes d7) rfl ?_
    refine X3.aget hexec (hV.mv X3.warmed.alike hh3) rfl hu rfl rfl (hb hbytes d8) ?_
    refine sipushV X3.here hexec rfl 255 (hb hbytes d9) (by decide) ?_
    refine XS.iand X3.here hexec rfl (hb hbytes d12) rfl ?_
    refine i2c X3.here hexec rfl (hb hbytes d13) rfl ?_
    exact Steps.refl _)
  exact ⟨T3, some (.int (chr8 u)), _, _, _, X3, rfl, rfl, rfl, (fun h => by cases h), ⟨rfl, hh3⟩, fun fs hl => c4.trans (X3.ireturnOut hexec hret (narrow_c _) (Or.inr (Or.inr (Or.inr (Or.inl rfl)))) (hb hbytes d14) hl)⟩
end LChA
end StrChars
namespace StrChars.Road
open Jvm Sem ClassFile Op Lib Jvm.Stand Jvm.Free Jvm.Free.XT
open Jvm.Lib.Cold (StaticIs)
theorem consq {a : Array Value} {s : State} {c : Jvm.Cond} {L : List Jvm.Cond} (h0 : c.before a s = true) (h : ∀ w ∈ L, w.before a s = true) : ∀ w ∈ c :: L, w.before a s = true := fun w hw => (List.mem_cons.mp hw).elim (fun e => e ▸ h0) (h w)
/-- the words of String.length(), either coding -/
abbrev wordsLen : List Jvm.Cond := [.code Len.yN Len.yB 1 (some .int), .initialized ST, .fieldLink ST 9 ST "value" "[B", .fieldLink ST 38 ST "COMPACT_STRINGS" "Z", .fieldLink ST 15 ST "coder" "B", .code Cdr.yN Cdr.yB 1 (some .byte), .methodLink ST 335 Cdr.yN, .declares Cdr.yN, .selects ST Cdr.yN Cdr.yN, .instanceMethod Cdr.yN]
theorem tabLen_of {a : Array Value} {s : State} (h : ∀ w ∈ wordsLen, w.before a s = true) : Len.tab.before a s = true := by
  have hc : Cdr.tab.before a s = true := unparts (wk h (.code Cdr.yN Cdr.yB 1 (some .byte))) (wks h (.initialized Cdr.yN.cls :: Cdr.site))
  have q := consq hc h
  exact unparts (wk q (.code Len.yN Len.yB 1 (some .int))) (wks q (.initialized Len.yN.cls :: Len.site))
theorem movedLen {Z s : State} {a0 args : Array Value} (hZ : Z.Warmed39 s.vm) (hw : ∀ d ∈ wordsLen, d.before a0 Z = true) : ∀ d ∈ wordsLen, d.before args s = true := fun d hd => by
  have q := hw d hd
  have t : ∀ d ∈ wordsLen, d = .arrayClass .byte ∨ (d.onTables && d.keepsFace) = true := by decide +kernel
  rcases t d hd with rfl | t
  · exact RoadKit.mvA hZ q
  · exact RoadKit.mv hZ q t
/-- the bytes of the chars cs, low before high -/
def wideBytes : List Int32 → List Value
  | [] => []
  | c :: cs => .int (lo8 c) :: .int (hi8 c) :: wideBytes cs
theorem wide_lo (d : Value) : ∀ (cs : List Int32) (j : Nat), j < cs.length → (wideBytes cs).getD (2 * j) d = .int (lo8 (cs.getD j 0))
  | [], j, h => absurd h (Nat.not_lt_zero j)
  | c :: cs, 0, _ => rfl
  | c :: cs, j + 1, h => by
    have q := wide_lo d cs j (by simpa using h)
    rw [show 2 * (j + 1) = 2 * j + 1 + 1 from by omega]
    simpa [wideBytes] using q
theorem wide_hi (d : Value) : ∀ (cs : List Int32) (j : Nat), j < cs.length → (wideBytes cs).getD (2 * j + 1) d = .int (hi8 (cs.getD j 0))
  | [], j, h => absurd h (Nat.not_lt_zero j)
  | c :: cs, 0, _ => rfl
  | c :: cs, j + 1, h => by
    have q := wide_hi d cs j (by simpa using h)
    rw [show 2 * (j + 1) + 1 = 2 * j + 1 + 1 + 1 from by omega]
    simpa [wideBytes] using q
theorem low_at (d : Value) (cs : List Int32) (j : Nat) (h : j < cs.length) : (cs.map fun c => Value.int (lo8 c)).getD j d = .int (lo8 (cs.getD j 0)) := by
  simp [List.getD_eq_getElem?_getD, h]
/-- an array of N2 bytes vs codes the chars cs by the coder cd -/
def CodA (cs : List Int32) (cd N2 : Int32) (vs : List Value) : Prop := (cd = 0 ∧ N2 = Int32.ofNat cs.length ∧ vs = (cs.map fun c => Value.int (lo8 c)) ∧ ∀ c ∈ cs, ¬ 255 < c) ∨ (cd = 1 ∧ N2 = Int32.ofNat (2 * cs.length) ∧ vs = wideBytes cs ∧ ∃ c ∈ cs, 255 < c)
theorem CodA.cod {cs : List Int32} {cd N2 : Int32} {vs : List Value} {V : Cell} (h : CodA cs cd N2 vs) (hn : 2 * cs.length < 2 ^ 31) (hs : V.slots.size = N2.toNatClampNeg) (hv : RoadKit.Has V vs (.int 0)) : Cod cd cs.length (fun j => cs.getD j 0) V := by
  rcases h with ⟨rfl, rfl, rfl, h⟩ | ⟨rfl, rfl, rfl, c, hc, hw⟩
  · rw [n32 (by omega)] at hs
    exact Or.inl ⟨rfl, hs, fun j hj => ⟨by rw [hv j (by omega), low_at _ _ _ hj], by
      have e : cs.getD j 0 = cs[j] := by simp [List.getD_eq_getElem?_getD, hj]
      show ¬ 255 < cs.getD j 0
      rw [e]; exact h _ (List.getElem_mem _)⟩⟩
  · rw [n32 (by omega)] at hs
    obtain ⟨j, hj, rfl⟩ := List.getElem_of_mem hc
    exact Or.inr ⟨rfl, hs, fun j hj => ⟨by rw [hv _ (by omega), wide_lo _ _ _ hj], by rw [hv _ (by omega), wide_hi _ _ _ hj]⟩, j, hj, by
      have e : cs.getD j 0 = cs[j] := by simp [List.getD_eq_getElem?_getD, hj]
      show 255 < cs.getD j 0
      rw [e]; exact hw⟩
/-- an object of exactly java/lang/String, its two fields found: as the laws ask it -/
theorem strObj {Z U : State} {a0 : Array Value} {kI : Nat} (wi : (Jvm.Cond.instantiable ST kI).before a0 Z = true) (al : Z.vm.Alike U.vm) {x : Addr} {v0 c0 : Value} (E : RoadKit.Exa Z U.heap x ST) (V : RoadKit.Fld Z U.heap x ST "value" "[B" v0) (C : RoadKit.Fld Z U.heap x ST "coder" "B" c0) :
    ∃ (D : Cell) (fV fC : Field), Blank ST x D U ∧ Found ST "value" "[B" fV U ∧ Found ST "coder" "B" fC U ∧ D.slots[fV.slot]? = some v0 ∧ D.slots[fC.slot]? = some c0 ∧ RoadKit.slotOf Z ST "value" "[B" = fV.slot ∧ RoadKit.slotOf Z ST "coder" "B" = fC.slot := by
  obtain ⟨D, cfV, kV, iV, fV, hD, gV, stV, knV, obV, asV, slV⟩ := V
  obtain ⟨D', cfC, kC, iC, fC, hD', gC, stC, -, -, asC, slC⟩ := C
  cases hD.symm.trans hD'
  obtain ⟨D2, kD, e1, e2, e3, e4, e5⟩ := E
  cases hD.symm.trans e1
  obtain ⟨c2, k2, i1, i2, i3, -⟩ := Cond.instantiable_spec wi
  cases e2.symm.trans i1
  cases e3.symm.trans i2
  obtain ⟨kU, u1, u2⟩ := al.2.2 _ _ e3
  exact ⟨D, fV, fC, ⟨hD, ⟨knV, fun q hq => by rw [hq] at obV; cases obV⟩, by rw [al.findClass]; exact e2, kU, u1, by rw [u2]; exact i3, by rw [u2]; exact e5 i3⟩, ⟨SBG.found_only al ⟨cfV, kV, iV, gV⟩, stV⟩, ⟨SBG.found_only al ⟨cfC, kC, iC, gC⟩, stC⟩, slV, slC, by simp [RoadKit.slotOf, gV], by simp [RoadKit.slotOf, gC]⟩
theorem sta_is {Z U : State} (al : Z.vm.Alike U.vm) {C n d : String} {v : Value} (S : RoadKit.Sta Z U.heap C n d v) : StaticIs U C n d v := by
  obtain ⟨cfS, iS, kS, fS, st, cS, t1, t2, t3, t4, t5, t6, t7⟩ := S
  exact StaticIs.there (s := { Z with heap := U.heap }) ⟨cfS, iS, kS, fS, st, cS, t1, t2, t3, t4, t5, (fun q => by rw [q] at t6; cases t6), t7⟩ al rfl
/-- **length() OF SUCH A STRING** -/
theorem lenW {p : Program} {l : Launch} {e : Env} {R : Room} {s : State} {args : Array Value} {below : List Frame} {len W : Nat} {Z : State} {a0 : Array Value} {h : Heap} (hZ : Z.Warmed39 s.vm) (hw : ∀ d ∈ wordsLen, d.before a0 Z = true) {kI : Nat} (wi : (Jvm.Cond.instantiable ST kI).before a0 Z = true)
    {x t : Addr} {kb : ClassId} {cs : List Int32} {cd N2 z : Int32} {vs : List Value} (E : RoadKit.Exa Z h x ST) (V : RoadKit.Fld Z h x ST "value" "[B" (.ref t)) (C : RoadKit.Fld Z h x ST "coder" "B" (.int cd)) (K : RoadKit.Arv Z h t kb .byte N2 vs (.int 0)) (hc : CodA cs cd N2 vs) (hb : ∀ c ∈ cs, ¬ c < 0 ∧ ¬ (65535 : Int32) < c)
    (S : RoadKit.Sta Z h ST "COMPACT_STRINGS" "Z" (.int z)) (hz : ¬ z = 0) (l2 : cs.length ≤ 4000) (hfr : 2 ≤ R.frames) (hlo : W + 25 ≤ R.locals) :
    Back l R p e below s args (⟨"java/lang/String", "length", "()I"⟩ : MethodName) len W (fun P a => a = #[.ref x] ∧ P.U.heap = h ∧ P.cells + 0 ≤ R.cells ∧ P.slots + 0 ≤ R.slots)
      (fun P _ v B => ∃ L, (v = some (.int (Int32.ofNat cs.length)) ∧ L = [] ∧ B.U.heap = h) ∧ B.locs = P.locs ++ L ∧ B.cells = P.cells + 0 ∧ B.slots = P.slots + 0) := by
  obtain ⟨A, K1, K2, K3, K4, K5, K6⟩ := K
  have hcod := hc.cod (by omega) K3 K5
  intro m meth c P g ig mk a X hg hsize hdg hW hn hp'
  obtain ⟨rfl, rfl, r1, r2⟩ := hp'
  have al : Z.vm.Alike P.U.vm := hZ.alike.trans X.warmed.alike
  obtain ⟨D, fV, fC, hB, F1, F2, g1, g2, -, -⟩ := strObj wi al E V C
  have hx : Txt x t A cd cs.length (fun j => cs.getD j 0) P.U := ⟨⟨_, hB.2.2.1, D, hB.1, rfl, by cases q : D.vm <;> first | rfl | exact absurd q (hB.2.1.2 _)⟩, Has.of hB F1 g1, Has.of hB F2 g2, ⟨K1.1, State.isArrayOf_alike al K1.2.1, K1.2.2, by rcases hcod with ⟨-, q, -⟩ | ⟨-, q, -⟩ <;> omega⟩, hcod, fun j hj => by
    have e : cs.getD j 0 = cs[j] := by simp [List.getD_eq_getElem?_getD, hj]
    show ¬ cs.getD j 0 < 0 ∧ ¬ 65535 < cs.getD j 0
    rw [e]; exact hb _ (List.getElem_mem _)⟩
  obtain ⟨v, B, X', ⟨⟨hv, hh⟩, hl, hk, hs⟩, st⟩ := Len.pays x t A cd cs.length (fun j => cs.getD j 0) z (tabLen_of (movedLen hZ hw)) hfr hlo m meth c P g ig mk _ X hg hsize hdg hW hn ⟨r1, r2, rfl, hx, sta_is al S, hz⟩
  exact ⟨v, B, X', ⟨[], ⟨hv, rfl, hh⟩, hl, hk, hs⟩, st⟩
end StrChars.Road
namespace StrChars.Road
open Jvm Sem ClassFile Op Lib Jvm.Stand Jvm.Free Jvm.Free.XT
open Jvm.Lib.Cold (StaticIs)
/-- the road's facts of a String, as the laws ask it -/
theorem txt_of {Z U : State} {a0 : Array Value} {kI : Nat} (wi : (Jvm.Cond.instantiable ST kI).before a0 Z = true) (al : Z.vm.Alike U.vm) {x t : Addr} {kb : ClassId} {cs : List Int32} {cd N2 : Int32} {vs : List Value} (E : RoadKit.Exa Z U.heap x ST) (V : RoadKit.Fld Z U.heap x ST "value" "[B" (.ref t)) (C : RoadKit.Fld Z U.heap x ST "coder" "B" (.int cd)) (K : RoadKit.Arv Z U.heap t kb .byte N2 vs (.int 0)) (hc : CodA cs cd N2 vs) (hb : ∀ c ∈ cs, ¬ c < 0 ∧ ¬ (65535 : Int32) < c) (l2 : cs.length ≤ 4000) :
    ∃ A, Txt x t A cd cs.length (fun j => cs.getD j 0) U := by
  obtain ⟨A, K1, K2, K3, K4, K5, K6⟩ := K
  have hcod := hc.cod (by omega) K3 K5
  obtain ⟨D, fV, fC, hB, F1, F2, g1, g2, -, -⟩ := strObj wi al E V C
  exact ⟨A, ⟨_, hB.2.2.1, D, hB.1, rfl, by cases q : D.vm <;> first | rfl | exact absurd q (hB.2.1.2 _)⟩, Has.of hB F1 g1, Has.of hB F2 g2, ⟨K1.1, State.isArrayOf_alike al K1.2.1, K1.2.2, by rcases hcod with ⟨-, q, -⟩ | ⟨-, q, -⟩ <;> omega⟩, hcod, fun j hj => by
    have e : cs.getD j 0 = cs[j] := by simp [List.getD_eq_getElem?_getD, hj]
    show ¬ cs.getD j 0 < 0 ∧ ¬ 65535 < cs.getD j 0
    rw [e]; exact hb _ (List.getElem_mem _)⟩
end StrChars.Road
namespace StrChars
open Jvm Sem ClassFile Op Lib Jvm.Stand Jvm.Free.XT Jvm.Free.ALB Jvm.Free.JM Jvm.Free
open Jvm.Lib.Cold (StaticIs)
namespace ChN
def yN : MethodName := ⟨"java/lang/String", "charAt", "(I)C"⟩
abbrev yB : ByteArray := jdk_42_method_56_code
theorem d0 : decode yB 0 = .ok (.aload_n 0, 1) := by decide +kernel
theorem d1 : decode yB 1 = .ok (.invokevirtual 492, 3) := by decide +kernel
theorem d4 : decode yB 4 = .ok (.ifCond (.eq) 12, 3) := by decide +kernel
theorem d7 : decode yB 7 = .ok (.aload_n 0, 1) := by decide +kernel
theorem d8 : decode yB 8 = .ok (.getfield 9, 3) := by decide +kernel
theorem d11 : decode yB 11 = .ok (.iload_n 1, 1) := by decide +kernel
theorem d12 : decode yB 12 = .ok (.invokestatic 495, 3) := by decide +kernel
theorem d15 : decode yB 15 = .ok (.ireturn, 1) := by decide +kernel
def site : List Cond := [.fieldLink "java/lang/String" 9 "java/lang/String" "value" "[B", IsL.tab, LChA.tab] ++ virtW "java/lang/String" 492 "java/lang/String" IsL.yN IsL.yN ++ staticW "java/lang/String" 495 LChA.yN
def tab : Cond := tabOf yN yB 2 (some .char) site
def P (x t : Addr) (V : Cell) (n : Nat) (f : Nat → Int32) (z : Int32) (fm : Value) (i : Nat) (args : Array Value) (s : State) : Prop := args = #[.ref x, .int (Int32.ofNat i)] ∧ Txt x t V 0 n f s ∧ i < n ∧ StaticIs s "java/lang/String" "COMPACT_STRINGS" "Z" (.int z) ∧ ¬ z = 0 ∧ StaticIs s "jdk/internal/util/Preconditions" "SIOOBE_FORMATTER" "Ljava/util/function/BiFunction;" fm ∧ fm.isRef = true
def E (f : Nat → Int32) (i : Nat) (r : Option Value) (s u : State) : Prop := XT.PureE (some (.int (f i))) r s u
/-- charAt(i) of a Latin-1 String of n chars, i < n: f i -/
theorem law (l : Launch) (x t : Addr) (V : Cell) (n : Nat) (f : Nat → Int32) (z : Int32) (fm : Value) (i : Nat) : Law l yN 2 1 3 40 yB 2 (some .char) site (P x t V n f z fm i) (E f i) [] 0 0 := by
  refine Law.of_walk (plainFor_of_name (by decide +kernel)) (by decide +kernel) (by decide +kernel) (by decide) (fun _ _ h => by rw [h.1]; rfl) (fun _ U U' hal hh h => ⟨h.1, h.2.1.mv hal hh, h.2.2.1, h.2.2.2.1.there hal hh, h.2.2.2.2.1, h.2.2.2.2.2.1.there hal hh, h.2.2.2.2.2.2⟩) (fun r U U' V V' h1 hal h2 h => XT.PureE.mv r U U' V V' h1 hal h2 h) ?_
  intro p e s m args below meth c s₁ X0 hexec hbytes hml hret hlk hnm hown hh0 W hP
  obtain ⟨rfl, hx, hi, s1, hz, s3, rf⟩ := hP
  have v31 := hx.2.2.2.1.2.2.2
  have hr := hx.2.2.2.2.2 i hi
  have hx0 := hx.mv X0.warmed.alike hh0
  have c1 : Steps p.tables e below (s₁.setTop (entryFrame m #[.ref x, .int (Int32.ofNat i)] 2)) (s₁.setTop (mkF m 1 #[.val (.ref x), .val (.int (Int32.ofNat i))] [.ref x])) := Steps.trans (entry rfl) (by
    show Steps p.tables e below (s₁.setTop (mkF m 0 #[.val (.ref x), .val (.int (Int32.ofNat i))] [])) _
    refine XS.aloadN X0.here hexec rfl (hb hbytes d0) rfl rfl ?_
    exact Steps.refl _)
  obtain ⟨v2, T2, X2, E2, g2⟩ := X0.callV hexec (IsL.law l x 0 z) hown (wks W (virtW "java/lang/String" 492 "java/lang/String" IsL.yN IsL.yN)) rfl (by decide) (wk W IsL.tab) (W := 0) (Nat.le_of_ble_eq_true rfl) (Nat.le_of_ble_eq_true rfl) (Nat.le_refl _) (Nat.le_refl _) (hx0.1.fc X0.warmed.alike) hx0.1.is (g := (mkF m 1 #[.val (.ref x), .val (.int (Int32.ofNat i))] [.ref x])) rfl (by rw [hml]; rfl) c1 (argsL := []) (rest := []) rfl rfl (by show 2 * 0 + 0 ≤ _; decide) (hb hbytes d1) (⟨rfl, hx0.2.2.1, hx.2.2.2.2.1.cd, s1.there X0.warmed.alike hh0, hz⟩)
  obtain ⟨rfl, q2⟩ := E2
  have hh2 := q2.trans hh0
  have hx2 := hx.mv X2.warmed.alike hh2
  obtain ⟨-, k1, k2⟩ | ⟨k0, -⟩ := hx.2.2.2.2.1
  · have c3 : Steps p.tables e below (s₁.setTop (entryFrame m #[.ref x, .int (Int32.ofNat i)] 2)) (T2.setTop (mkF m 8 #[.val (.ref x), .val (.int (Int32.ofNat i))] [.ref x])) := Steps.trans g2 (by
      refine XS.ifNo X2.here hexec rfl (hb hbytes d4) rfl (i0_eq_f (by decide)) ?_
      refine XS.aloadN X2.here hexec rfl (hb hbytes d7) rfl rfl ?_
      exact Steps.refl _)
    obtain ⟨T4, X4, q4, st4⟩ := X2.hget hexec hown (wk W (.fieldLink "java/lang/String" 9 "java/lang/String" "value" "[B")) hx2.2.1 (g := (mkF m 8 #[.val (.ref x), .val (.int (Int32.ofNat i))] [.ref x])) rfl (rest := []) rfl (hb hbytes d8)
    have hh4 := q4.trans hh2
    have c5 : Steps p.tables e below (s₁.setTop (entryFrame m #[.ref x, .int (Int32.ofNat i)] 2)) (T4.setTop (mkF m 12 #[.val (.ref x), .val (.int (Int32.ofNat i))] [.int (Int32.ofNat i), .ref t])) := (c3.trans (st4 _ (Steps.refl _))).trans (by
      refine XS.iloadN X4.here hexec rfl (hb hbytes d11) rfl ?_
      exact Steps.refl _)
    obtain ⟨v6, T6, X6, E6, g6⟩ := X4.callS hexec (LChA.law l t V i (lo8 (f i)) fm) hown (wks W (staticW "java/lang/String" 495 LChA.yN)) (wk W LChA.tab) (W := 0) (Nat.le_of_ble_eq_true rfl) (Nat.le_of_ble_eq_true rfl) (Nat.le_refl _) (Nat.le_refl _) (g := (mkF m 12 #[.val (.ref x), .val (.int (Int32.ofNat i))] [.int (Int32.ofNat i), .ref t])) rfl (by rw [hml]; rfl) c5 (argsL := [.ref t, .int (Int32.ofNat i)]) (rest := []) rfl rfl (by show 2 * 0 + 0 ≤ _; decide) (hb hbytes d12) (⟨rfl, hx.2.2.2.1.mv X4.warmed.alike hh4, (k2 i hi).1, s3.there X4.warmed.alike hh4, rf⟩)
    obtain ⟨rfl, q6⟩ := E6
    rw [chr8_lo8 hr.1 (k2 i hi).2] at g6
    exact ⟨T6, some (.int (f i)), _, _, _, X6, rfl, rfl, rfl, (fun h => by cases h), ⟨rfl, q6.trans hh4⟩, fun fs hl => Steps.trans g6 (X6.ireturnOut hexec hret (narrow_ch hr.1 hr.2) (Or.inr (Or.inr (Or.inr (Or.inl rfl)))) (hb hbytes d15) hl)⟩
  · exact absurd k0 (by decide)
theorem pays {l : Launch} {R : Room} {p : Program} {e : Env} {below : List Frame} {s : State} {sargs : Array Value} {len W : Nat} (x t : Addr) (V : Cell) (n : Nat) (f : Nat → Int32) (z : Int32) (fm : Value) (i : Nat) (htab : tab.before sargs s = true) (hfr : 4 ≤ R.frames) (hlo : W + 53 ≤ R.locals) :
    Back l R p e below s sargs yN len W (fun A₁ a₁ => A₁.cells + 0 ≤ R.cells ∧ A₁.slots + 0 ≤ R.slots ∧ P x t V n f z fm i a₁ A₁.U) (fun A₁ _ v₁ B₁ => E f i v₁ A₁.U B₁.U ∧ B₁.locs = A₁.locs ++ [] ∧ B₁.cells = A₁.cells + 0 ∧ B₁.slots = A₁.slots + 0) :=
  (law l x t V n f z fm i).pays htab hfr (by omega)
end ChN
end StrChars
namespace StrChars.Road
open Jvm Sem ClassFile Op Lib Jvm.Stand Jvm.Free Jvm.Free.XT
open Jvm.Lib.Cold (StaticIs)
/-- the words of String.charAt(int), the Latin-1 road alone -/
abbrev wordsChN : List Jvm.Cond := [.code ChN.yN ChN.yB 2 (some .char), .initialized ST, .fieldLink ST 9 ST "value" "[B", .fieldLink ST 38 ST "COMPACT_STRINGS" "Z", .fieldLink ST 15 ST "coder" "B", .code IsL.yN IsL.yB 1 (some .boolean), .methodLink ST 492 IsL.yN, .declares IsL.yN, .selects ST IsL.yN IsL.yN, .instanceMethod IsL.yN,
  .methodLink ST 495 LChA.yN, .static LChA.yN, .code LChA.yN LChA.yB 2 (some .char), .initialized "java/lang/StringLatin1", .methodLink "java/lang/StringLatin1" 9 JO.Str_checkIndex.yN, .static JO.Str_checkIndex.yN, .code JO.Str_checkIndex.yN JO.Str_checkIndex.yB 2 none,
  .fieldLink ST 1053 "jdk/internal/util/Preconditions" "SIOOBE_FORMATTER" "Ljava/util/function/BiFunction;", .methodLink ST 1059 JC.PreCheck.yN, .static JC.PreCheck.yN, .code JC.PreCheck.yN JC.PreCheck.yB 3 (some .int), .initialized "jdk/internal/util/Preconditions"]
theorem tabChN_of {a : Array Value} {s : State} (h : ∀ w ∈ wordsChN, w.before a s = true) : ChN.tab.before a s = true := by
  have hp : JC.PreCheck.tab.before a s = true := unparts (wk h (.code JC.PreCheck.yN JC.PreCheck.yB 3 (some .int))) (wks h (.initialized JC.PreCheck.yN.cls :: JC.PreCheck.site))
  have qk := consq hp h
  have hk : JO.Str_checkIndex.tab.before a s = true := unparts (wk qk (.code JO.Str_checkIndex.yN JO.Str_checkIndex.yB 2 none)) (wks qk (.initialized JO.Str_checkIndex.yN.cls :: JO.Str_checkIndex.site))
  have ql := consq hk h
  have hl : LChA.tab.before a s = true := unparts (wk ql (.code LChA.yN LChA.yB 2 (some .char))) (wks ql (.initialized LChA.yN.cls :: LChA.site))
  have hi : IsL.tab.before a s = true := unparts (wk h (.code IsL.yN IsL.yB 1 (some .boolean))) (wks h (.initialized IsL.yN.cls :: IsL.site))
  have q := consq hi (consq hl h)
  exact unparts (wk q (.code ChN.yN ChN.yB 2 (some .char))) (wks q (.initialized ChN.yN.cls :: ChN.site))
theorem movedChN {Z s : State} {a0 args : Array Value} (hZ : Z.Warmed39 s.vm) (hw : ∀ d ∈ wordsChN, d.before a0 Z = true) : ∀ d ∈ wordsChN, d.before args s = true := fun d hd => by
  have t : ∀ d ∈ wordsChN, (d.onTables && d.keepsFace) = true := by decide +kernel
  exact RoadKit.mv hZ (hw d hd) (t d hd)
/-- **charAt(i) OF A LATIN-1 STRING**, i < n: the char -/
theorem chN {p : Program} {l : Launch} {e : Env} {R : Room} {s : State} {args : Array Value} {below : List Frame} {len W : Nat} {Z : State} {a0 : Array Value} {h : Heap} (hZ : Z.Warmed39 s.vm) (hw : ∀ d ∈ wordsChN, d.before a0 Z = true) {kI : Nat} (wi : (Jvm.Cond.instantiable ST kI).before a0 Z = true)
    {x t : Addr} {kb : ClassId} {cs : List Int32} {N2 z : Int32} {vs : List Value} {fm : Value} {i : Nat} {j : Int32} (E : RoadKit.Exa Z h x ST) (V : RoadKit.Fld Z h x ST "value" "[B" (.ref t)) (C : RoadKit.Fld Z h x ST "coder" "B" (.int 0)) (K : RoadKit.Arv Z h t kb .byte N2 vs (.int 0)) (hc : CodA cs 0 N2 vs) (hb : ∀ c ∈ cs, ¬ c < 0 ∧ ¬ (65535 : Int32) < c)
    (S : RoadKit.Sta Z h ST "COMPACT_STRINGS" "Z" (.int z)) (hz : ¬ z = 0) (F : RoadKit.Sta Z h "jdk/internal/util/Preconditions" "SIOOBE_FORMATTER" "Ljava/util/function/BiFunction;" fm) (rf : fm.isRef = true) (l2 : cs.length ≤ 4000) (hi : i < cs.length) (hj : j = Int32.ofNat i) (hfr : 4 ≤ R.frames) (hlo : W + 53 ≤ R.locals) :
    Back l R p e below s args (⟨"java/lang/String", "charAt", "(I)C"⟩ : MethodName) len W (fun P a => a = #[.ref x, .int j] ∧ P.U.heap = h ∧ P.cells + 0 ≤ R.cells ∧ P.slots + 0 ≤ R.slots)
      (fun P _ v B => ∃ L, (v = some (.int (cs.getD i 0)) ∧ L = [] ∧ B.U.heap = h) ∧ B.locs = P.locs ++ L ∧ B.cells = P.cells + 0 ∧ B.slots = P.slots + 0) := by
  subst hj
  intro m meth c P g ig mk a X hg hsize hdg hW hn hp'
  obtain ⟨rfl, rfl, r1, r2⟩ := hp'
  have al : Z.vm.Alike P.U.vm := hZ.alike.trans X.warmed.alike
  obtain ⟨A, hx⟩ := txt_of wi al E V C K hc hb l2
  obtain ⟨v, B, X', ⟨⟨hv, hh⟩, hl, hk, hs⟩, st⟩ := ChN.pays x t A cs.length (fun j => cs.getD j 0) z fm i (tabChN_of (movedChN hZ hw)) hfr hlo m meth c P g ig mk _ X hg hsize hdg hW hn ⟨r1, r2, rfl, hx, hi, sta_is al S, hz, sta_is al F, rf⟩
  exact ⟨v, B, X', ⟨[], ⟨hv, rfl, hh⟩, hl, hk, hs⟩, st⟩
/-- what backV says of its String, as the contracts of this text ask it: cs's low bytes, coder 0 -/
theorem codOf {cs : List Int32} {n : Nat} (hn : cs.length = n) (hb : ∀ c ∈ cs, ¬ 255 < c) : CodA cs 0 (Int32.ofNat n) ((cs.map lo8).map Value.int) := Or.inl ⟨rfl, by rw [hn], by simp [List.map_map, Function.comp_def], hb⟩
end StrChars.Road
end Jvm.Pilot.@@N@@

namespace Jvm.Pilot.@@N@@
open Jvm Jvm.ClassFile Sem Op Lib Jvm.Free Jvm.Stand Jvm.LawKit Jvm.RoadKit Bundle Jvm.Pilot.@@N@@.Jvm.D
theorem w_ {Z : State} {a0 : Array Value} (hw : ∀ d ∈ tables_1, d.before a0 Z = true) (i : Nat) {d : Jvm.Cond} (h : tables_1[i]? = some d) : d.before a0 Z = true := hw d (List.mem_of_getElem? h)
abbrev own_Go (p : Program) (e : Env) (below : List Frame) (Φ : State → Outcome → Prop) (T : State) (g : JFrame) : Prop := ∃ s₂ o, Steps p.tables e below (T.setTop g) s₂ ∧ Φ s₂ o
section OwnGo
variable {p : Program} {e : Env} {below : List Frame} {Φ : State → Outcome → Prop} {T T' : State} {g g' : JFrame}
theorem sp_ (st : ∀ target, Steps p.tables e below (T'.setTop g') target → Steps p.tables e below (T.setTop g) target) (k : own_Go p e below Φ T' g') : own_Go p e below Φ T g := by
  obtain ⟨t, o, h, r⟩ := k
  exact ⟨t, o, st t h, r⟩
theorem jp_ (st : Steps p.tables e below (T.setTop g) (T'.setTop g')) (k : own_Go p e below Φ T' g') : own_Go p e below Φ T g := by
  obtain ⟨t, o, h, r⟩ := k
  exact ⟨t, o, st.trans h, r⟩
theorem own_cast (q : g = g') (k : own_Go p e below Φ T g') : own_Go p e below Φ T g := q ▸ k
theorem own_insKeep {Z : State} {h h' : Heap} {a : Addr} {C : String} {ws : List Addr} (F : Ins Z h a C true) (K : Keep h h' ws) : Ins Z h' a C true := by
  obtain ⟨cell, cT, h1, h2, h3⟩ := F
  obtain ⟨c', q1, q2, q3, -⟩ := K.2.2 _ _ h1
  exact ⟨c', cT, q1, h2, by rw [q2, q3]; exact h3⟩
end OwnGo
section OwnCall
variable {p : Program} {l : Launch} {e : Env} {R : Room} {s : State} {m : MethodId} {args : Array Value} {below : List Frame} {meth : Method} {c : Code} {T : State} {locs : List Loc} {cells slots : Nat} {Z : State} {a0 : Array Value} {h : Heap}
  {own : String} {index : Nat} {y z : MethodName} {bytes : ByteArray} {maxL W k n : Nat} {ret : Option FieldType} {as' : Array Value} {Q : Option Value → Heap → List Loc → Prop} {g : JFrame} {argsL rest : List Value} {a : Addr} {C : String} {J J' : Vm → Prop}
/-- who pays a call: what it asks, what it leaves -/
abbrev own_Pay (l : Launch) (R : Room) (p : Program) (e : Env) (below : List Frame) (s : State) (args : Array Value) (y : MethodName) (len W : Nat) (as' : Array Value) (h : Heap) (k n : Nat) (Q : Option Value → Heap → List Loc → Prop) : Prop :=
  Back l R p e below s args y len W (fun A a => a = as' ∧ A.U.heap = h ∧ A.cells + k ≤ R.cells ∧ A.slots + n ≤ R.slots) (fun A _ v B => ∃ L, Q v B.U.heap L ∧ B.locs = A.locs ++ L ∧ B.cells = A.cells + k ∧ B.slots = A.slots + n)
abbrev own_PayW (l : Launch) (R : Room) (p : Program) (e : Env) (below : List Frame) (s : State) (args : Array Value) (y : MethodName) (len W : Nat) (as' : Array Value) (h : Heap) (k n : Nat) (J J' : Vm → Prop) (Q : Option Value → Heap → List Loc → Prop) : Prop :=
  BackS l R p e below s args y len W (fun A a => a = as' ∧ A.U.heap = h ∧ A.cells + k ≤ R.cells ∧ A.slots + n ≤ R.slots ∧ J A.U.vm) (fun A _ v B => ∃ L, (Q v B.U.heap L ∧ J' B.U.vm) ∧ B.locs = A.locs ++ L ∧ B.cells = A.cells + k ∧ B.slots = A.slots + n)
theorem own_cS (X : Stand p l e R s m args below meth c T locs cells slots) (hx : p.tables.exec = Jvm.exec) (hZ : Z.Warmed39 s.vm) (hown : s.vm.findClass own = some m.cls) (w1 : (Jvm.Cond.methodLink own index y).before a0 Z = true) (w2 : (Jvm.Cond.static y).before a0 Z = true) (w3 : (Jvm.Cond.initialized y.cls).before a0 Z = true) (w4 : (Jvm.Cond.code y bytes maxL ret).before a0 Z = true)
    (hy : y.cls ≠ "java/lang/invoke/MethodHandle" ∧ y.cls ≠ "java/lang/invoke/VarHandle") (hK : own_Pay l R p e below s args y 3 W as' h k n Q) (hg : g.method = m) (hsize : g.locals.size = c.maxLocals) (hlen : ∀ sig, parseMethodDescriptor y.desc = some sig → argsL.length = sig.parameters.length) (hstack : g.stack = argsL.reverse ++ rest)
    (hW : 2 * g.monitorRoom + (rest.map fun v => v.category).sum ≤ W) (hdg : decode c.code g.pc = .ok (.invokestatic index, 3)) (ha : argsL.toArray = as') (eT : T.heap = h) (hc : cells + k ≤ R.cells) (hs : slots + n ≤ R.slots) :
    ∃ v T' L, Stand p l e R s m args below meth c T' (locs ++ L) (cells + k) (slots + n) ∧ Q v T'.heap L ∧ Steps p.tables e below (T.setTop g) (T'.setTop { g with pc := g.pc + 3, stack := v.toList ++ rest }) := by
  obtain ⟨v, vm₁, ⟨T', L', c', n'⟩, -, X', ⟨L, hQ, e1, e2, e3⟩, st⟩ := Jvm.LawKit.callS X hx hown (mvT hZ w1) (mvT hZ w2) (mvT hZ w3) (mvT hZ w4) hy hK hg hsize hlen hstack hW hdg (fun _ _ => ⟨ha, eT, hc, hs⟩)
  dsimp only [Pt.U, Pt.locs, Pt.cells, Pt.slots] at X' e1 e2 e3 st hQ
  subst e1 e2 e3
  exact ⟨v, T', L, X', hQ, st _ (Steps.refl _)⟩
theorem own_cI (X : Stand p l e R s m args below meth c T locs cells slots) (hx : p.tables.exec = Jvm.exec) (hZ : Z.Warmed39 s.vm) (hy1 : y.name = "<init>") (hown : s.vm.findClass own = some m.cls) (w1 : (Jvm.Cond.methodLink own index y).before a0 Z = true) (w2 : (Jvm.Cond.instanceMethod y).before a0 Z = true) (w4 : (Jvm.Cond.code y bytes maxL none).before a0 Z = true)
    (hy : y.cls ≠ "java/lang/invoke/MethodHandle" ∧ y.cls ≠ "java/lang/invoke/VarHandle") (hK : own_Pay l R p e below s args y 3 W as' h k n Q) (hg : g.method = m) (hsize : g.locals.size = c.maxLocals) (hlen : ∀ sig, parseMethodDescriptor y.desc = some sig → argsL.length = sig.parameters.length) (hstack : g.stack = argsL.reverse ++ .ref a :: rest)
    (hW : 2 * g.monitorRoom + (rest.map fun v => v.category).sum ≤ W) (hdg : decode c.code g.pc = .ok (.invokespecial index, 3)) (ha : (.ref a :: argsL).toArray = as') (eT : T.heap = h) (hc : cells + k ≤ R.cells) (hs : slots + n ≤ R.slots) :
    ∃ v T' L, Stand p l e R s m args below meth c T' (locs ++ L) (cells + k) (slots + n) ∧ Q v T'.heap L ∧ Steps p.tables e below (T.setTop g) (T'.setTop { g with pc := g.pc + 3, stack := v.toList ++ rest }) := by
  obtain ⟨v, vm₁, ⟨T', L', c', n'⟩, -, X', ⟨L, hQ, e1, e2, e3⟩, st⟩ := X.specialBack hx hy1 hown (mvT hZ w1) (mvT hZ w2) (mvT hZ w4) hy hK hg hsize (Steps.refl _) hlen hstack hW hdg (fun _ _ => ⟨ha, eT, hc, hs⟩)
  dsimp only [Pt.U, Pt.locs, Pt.cells, Pt.slots] at X' e1 e2 e3 st hQ
  subst e1 e2 e3
  exact ⟨v, T', L, X', hQ, st⟩
theorem own_cV (X : Stand p l e R s m args below meth c T locs cells slots) (hx : p.tables.exec = Jvm.exec) (hZ : Z.Warmed39 s.vm) (hown : s.vm.findClass own = some m.cls) (w1 : (Jvm.Cond.methodLink own index y).before a0 Z = true) (w2 : (Jvm.Cond.declares y).before a0 Z = true) (hnf : NotFace s y) (w3 : (Jvm.Cond.selects C y z).before a0 Z = true) (w4 : (Jvm.Cond.instanceMethod z).before a0 Z = true)
    (hy : y.cls ≠ "java/lang/invoke/MethodHandle" ∧ y.cls ≠ "java/lang/invoke/VarHandle") (hK : own_Pay l R p e below s args z 3 W as' h k n Q) (E : Exa Z h a C) (hg : g.method = m) (hsize : g.locals.size = c.maxLocals) (hlen : ∀ sig, parseMethodDescriptor y.desc = some sig → argsL.length = sig.parameters.length) (hstack : g.stack = argsL.reverse ++ .ref a :: rest)
    (hW : 2 * g.monitorRoom + (rest.map fun v => v.category).sum ≤ W) (hdg : decode c.code g.pc = .ok (.invokevirtual index, 3)) (ha : (.ref a :: argsL).toArray = as') (eT : T.heap = h) (hc : cells + k ≤ R.cells) (hs : slots + n ≤ R.slots) :
    ∃ v T' L, Stand p l e R s m args below meth c T' (locs ++ L) (cells + k) (slots + n) ∧ Q v T'.heap L ∧ Steps p.tables e below (T.setTop g) (T'.setTop { g with pc := g.pc + 3, stack := v.toList ++ rest }) := by
  obtain ⟨cq, kq, q1, q2, q3⟩ := isOf hZ eT E
  obtain ⟨v, vm₁, ⟨T', L', c', n'⟩, -, X', ⟨L, hQ, e1, e2, e3⟩, st⟩ := X.virtualBack hx hown (mvT hZ w1) (mvT hZ w2) hnf (mvT hZ w3) (mvT hZ w4) hy hK q1 q3 hg hsize (Steps.refl _) hlen hstack hW hdg (fun _ _ => ⟨ha, eT, hc, hs⟩)
  dsimp only [Pt.U, Pt.locs, Pt.cells, Pt.slots] at X' e1 e2 e3 st hQ
  subst e1 e2 e3
  exact ⟨v, T', L, X', hQ, st⟩
end OwnCall
/-- a String of Latin-1 signs: its object, its byte[], its signs -/
def own_Str (Z : State) (h : Heap) (a t : Addr) (cs : List Int32) : Prop :=
  Exa Z h a "java/lang/String" ∧ Fld Z h a "java/lang/String" "coder" "B" (.int (0 : Int32)) ∧ Fld Z h a "java/lang/String" "value" "[B" (.ref t) ∧ (∃ kb, Arv Z h t kb .byte (Int32.ofNat cs.length) ((cs.map fun c => c.toInt8.toInt32).map Value.int) (.int 0)) ∧ (∀ c ∈ cs, ¬ c < 0 ∧ ¬ (255 : Int32) < c) ∧ cs.length ≤ 4000
section OwnStr
variable {Z : State} {h h' : Heap} {a t : Addr} {cs ds : List Int32} {ws : List Addr}
theorem own_Str.lt (F : own_Str Z h a t cs) : a < h.size := F.1.lt
theorem own_Str.ltT (F : own_Str Z h a t cs) : t < h.size := by obtain ⟨-, -, -, ⟨kb, A⟩, -⟩ := F; exact A.lt
theorem own_Str.ext (F : own_Str Z h a t cs) (E : Ext h h') : own_Str Z h' a t cs := by
  obtain ⟨f1, f2, f3, ⟨kb, f4⟩, f5⟩ := F
  exact ⟨f1.ext E, f2.ext E, f3.ext E, ⟨kb, f4.ext E⟩, f5⟩
theorem own_Str.keep (F : own_Str Z h a t cs) (K : Keep h h' ws) (qa : a ∉ ws) (qt : t ∉ ws) : own_Str Z h' a t cs := by
  obtain ⟨f1, f2, f3, ⟨kb, f4⟩, f5⟩ := F
  exact ⟨f1.keep K, f2.keep K qa, f3.keep K qa, ⟨kb, f4.keep K qt⟩, f5⟩
theorem own_neT {x : Addr} {C : String} {a0 : Array Value} {n : Nat} (E : Exa Z h x C) (F : own_Str Z h a t cs) (w : (Jvm.Cond.instantiable C n).before a0 Z = true) : x ≠ t := by
  obtain ⟨-, -, -, ⟨kb, f4⟩, -⟩ := F
  exact Exa.neArv E f4 w
theorem own_narLit : ∀ x : Int32, ¬ x < 0 → ¬ (65535 : Int32) < x → nar .char x = x := fun x h0 h1 => by
  have q := c_i2c x
  have r := rng32 x
  rw [Int32.lt_iff_toInt_lt] at h0 h1
  have e0 : (0 : Int32).toInt = 0 := rfl
  have e1 : (65535 : Int32).toInt = 65535 := rfl
  exact Int32.toInt_inj.mp (by show (x.toUInt32.toUInt16.toUInt32.toInt32).toInt = _; omega)
theorem own_up (hp : ∀ c ∈ cs, ¬ c < 0 ∧ ¬ (255 : Int32) < c) : ∀ c ∈ cs, ¬ c < 0 ∧ ¬ (65535 : Int32) < c := fun c hc => ⟨(hp c hc).1, fun q => (hp c hc).2 (by rw [Int32.lt_iff_toInt_lt] at q ⊢; have e1 : (65535 : Int32).toInt = 65535 := rfl; have e2 : (255 : Int32).toInt = 255 := rfl; omega)⟩
theorem own_sgc {c : Int32} (h : ¬ c < (0 : Int32) ∧ ¬ (255 : Int32) < c) : ¬ c < 0 ∧ ¬ (65535 : Int32) < c := own_up (cs := [c]) (fun x hx => by cases List.mem_singleton.mp hx; exact h) c (List.mem_singleton.mpr rfl)
theorem own_Str.sgD {i : Nat} (F : own_Str Z h a t cs) (hi : i < cs.length) : ¬ cs.getD i 0 < (0 : Int32) ∧ ¬ (255 : Int32) < cs.getD i 0 := by
  have e : cs.getD i 0 = cs[i] := by simp [List.getD, List.getElem?_eq_getElem hi]
  rw [e]
  exact F.2.2.2.2.1 _ (List.getElem_mem hi)
theorem own_Str.cast (F : own_Str Z h a t cs) (e : cs = ds) : own_Str Z h a t ds := e ▸ F
theorem own_nar255 (x : Int32) : nar .char (x &&& (255 : Int32)) = x &&& (255 : Int32) := i2c_mask x
theorem own_narB (x : Int32) : x.toInt8.toInt32.toInt8.toInt32 = x.toInt8.toInt32 := by
  rw [Int8.toInt8_toInt32]
theorem own_and255 (x : Int32) : ¬ x &&& (255 : Int32) < 0 ∧ ¬ (255 : Int32) < x &&& (255 : Int32) := by
  have h := c_and x 255 (by decide)
  have e : (255 : Int32).toInt = 255 := rfl
  rw [e] at h
  exact ⟨fun q => by rw [Int32.lt_iff_toInt_lt] at q; have e0 : (0 : Int32).toInt = 0 := rfl; omega, fun q => by rw [Int32.lt_iff_toInt_lt, e] at q; omega⟩
end OwnStr
theorem own_newS {p : Program} {l : Launch} {e : Env} {R : Room} {s : State} {args : Array Value} {below : List Frame} {len W : Nat} {Z : State} {a0 : Array Value} {h : Heap} (hZ : Z.Warmed39 s.vm) (hw : ∀ d ∈ tables_1, d.before a0 Z = true)
    {x b : Addr} {kC : ClassId} {cs : List Int32} {vs : List Value} {d v0 c0 : Value} {z N : Int32} {n n0 : Nat} (hx0 : n0 ≤ x) (hh0 : n0 ≤ h.size) (E : Exa Z h x "java/lang/String") (V : Fld Z h x "java/lang/String" "value" "[B" v0) (C : Fld Z h x "java/lang/String" "coder" "B" c0) (K : Arv Z h b kC .char N vs d) (S : Sta Z h "java/lang/String" "COMPACT_STRINGS" "Z" (.int z)) (hz : ¬ z = 0)
    (hv : vs = cs.map Value.int) (hn : cs.length = n) (hN : N = Int32.ofNat n) (l0 : 0 < n) (l2 : n ≤ 4000) (hp : ∀ c ∈ cs, ¬ c < 0 ∧ ¬ (255 : Int32) < c) (hfr : 4 ≤ R.frames) (hlo : W + 65 ≤ R.locals) :
    own_Pay l R p e below s args (⟨"java/lang/String", "<init>", "([C)V"⟩ : MethodName) len W #[.ref x, .ref b] h 1 n (fun v h' L => ∃ t, v = none ∧ Fr n0 L ∧ Keep h h' [x] ∧ h.size ≤ t ∧ own_Str Z h' x t cs) := by
  have hws : ∀ d ∈ StrChars.Road.words, d.before a0 Z = true := fun d hd => hw d ((by decide +kernel : ∀ d ∈ StrChars.Road.words, d ∈ tables_1) d hd)
  subst hv
  refine Back.mono (StrChars.Road.backV hZ hws (kI := 4) (hw _ ((by decide +kernel : Jvm.Cond.instantiable "java/lang/String" 4 ∈ tables_1))) (bs := cs.map fun c => c.toInt8.toInt32) hx0 hh0 E V C K S hz hn hN l0 l2 hp rfl hfr hlo) (fun P a hp => hp) (fun P a v B _ hq => ?_)
  obtain ⟨L, ⟨q1, q2, q3, q4, q5, t, kb, -, q6, -, q7, q8⟩, hl, hc, hs⟩ := hq
  exact ⟨L, ⟨t, q1, q2, q3, q6, q4, q5, q7, ⟨kb, by rw [hn, ← hN]; exact q8⟩, hp, by omega⟩, hl, hc, hs⟩
theorem own_lenS {p : Program} {l : Launch} {e : Env} {R : Room} {s : State} {args : Array Value} {below : List Frame} {len W : Nat} {Z : State} {a0 : Array Value} {h : Heap} (hZ : Z.Warmed39 s.vm) (hw : ∀ d ∈ tables_1, d.before a0 Z = true)
    {x t : Addr} {cs : List Int32} (F : own_Str Z h x t cs) {z : Int32} (S : Sta Z h "java/lang/String" "COMPACT_STRINGS" "Z" (.int z)) (hz : ¬ z = 0) (hfr : 2 ≤ R.frames) (hlo : W + 25 ≤ R.locals) :
    own_Pay l R p e below s args (⟨"java/lang/String", "length", "()I"⟩ : MethodName) len W #[.ref x] h 0 0 (fun v h' L => v = some (.int (Int32.ofNat cs.length)) ∧ L = [] ∧ h' = h) := by
  have hws : ∀ d ∈ StrChars.Road.wordsLen, d.before a0 Z = true := fun d hd => hw d ((by decide +kernel : ∀ d ∈ StrChars.Road.wordsLen, d ∈ tables_1) d hd)
  obtain ⟨f1, f2, f3, ⟨kb, f4⟩, f5, f6⟩ := F
  exact StrChars.Road.lenW hZ hws (kI := 4) (hw _ ((by decide +kernel : Jvm.Cond.instantiable "java/lang/String" 4 ∈ tables_1))) f1 f3 f2 f4 (StrChars.Road.codOf rfl fun c hc => (f5 c hc).2) (own_up f5) S hz f6 hfr hlo
theorem own_chS {p : Program} {l : Launch} {e : Env} {R : Room} {s : State} {args : Array Value} {below : List Frame} {len W : Nat} {Z : State} {a0 : Array Value} {h : Heap} (hZ : Z.Warmed39 s.vm) (hw : ∀ d ∈ tables_1, d.before a0 Z = true)
    {x t : Addr} {cs : List Int32} {fm : Value} {i : Nat} {j : Int32} (F : own_Str Z h x t cs) {z : Int32} (S : Sta Z h "java/lang/String" "COMPACT_STRINGS" "Z" (.int z)) (hz : ¬ z = 0) (Fm : Sta Z h "jdk/internal/util/Preconditions" "SIOOBE_FORMATTER" "Ljava/util/function/BiFunction;" fm) (rf : fm.isRef = true) (hi : i < cs.length) (hj : j = Int32.ofNat i) (hfr : 4 ≤ R.frames) (hlo : W + 53 ≤ R.locals) :
    own_Pay l R p e below s args (⟨"java/lang/String", "charAt", "(I)C"⟩ : MethodName) len W #[.ref x, .int j] h 0 0 (fun v h' L => v = some (.int (cs.getD i 0)) ∧ L = [] ∧ h' = h) := by
  have hws : ∀ d ∈ StrChars.Road.wordsChN, d.before a0 Z = true := fun d hd => hw d ((by decide +kernel : ∀ d ∈ StrChars.Road.wordsChN, d ∈ tables_1) d hd)
  obtain ⟨f1, f2, f3, ⟨kb, f4⟩, f5, f6⟩ := F
  exact StrChars.Road.chN hZ hws (kI := 4) (hw _ ((by decide +kernel : Jvm.Cond.instantiable "java/lang/String" 4 ∈ tables_1))) f1 f3 f2 f4 (StrChars.Road.codOf rfl fun c hc => (f5 c hc).2) (own_up f5) S hz Fm rf f6 hi hj hfr hlo
theorem own_one {c : Int32} (h0 : ¬ c < 0) (h1 : ¬ (255 : Int32) < c) : ∀ x ∈ [c], ¬ x < 0 ∧ ¬ (255 : Int32) < x := fun x hx => by
  cases List.mem_singleton.mp hx
  exact ⟨h0, h1⟩
section OwnWide
variable {p : Program} {l : Launch} {e : Env} {R : Room} {s : State} {args : Array Value} {below : List Frame} {Z : State} {a0 : Array Value} {h : Heap} {vm0 vm1 : Vm} {Ts Ts' : List String} {J J' : Vm → Prop}
theorem own_IB_warm (I : IB Z s.vm Ts) (hw : s.WarmedH vm1) : IB Z vm1 Ts := by
  obtain ⟨more, h1, h2⟩ := I
  exact ⟨more, by rw [hw.interned_eq]; exact h1, h2⟩
theorem own_IB_mono (I : IB Z vm0 Ts) (h : ∀ t ∈ Ts, t ∈ Ts') : IB Z vm0 Ts' := by
  obtain ⟨more, h1, h2⟩ := I
  exact ⟨more, h1, fun q hq => by obtain ⟨t, ht, e⟩ := h2 q hq; exact ⟨t, h t ht, e⟩⟩
theorem own_endMono {s t : State} {o : Outcome} {L : List Loc} {k n k' n' : Nat} (h : ReturnedEndW s o t L k n) (hk : k ≤ k') (hn : n ≤ n') : ReturnedEndW s o t L k' n' := ⟨h.1, h.2.1, h.2.2.1, h.2.2.2.mono hk hn⟩
theorem own_backI {y : MethodName} {bytes : ByteArray} {maxL : Nat} {ret : Option FieldType} {rm : Room} {len W : Nat} {as' : Array Value} {Q : Option Value → Heap → List Loc → Prop}
    (hM : MetFree l y (head1 [Cond.code y bytes maxL ret] rm) (fun a U => a = as' ∧ Z.Warmed39 U.vm ∧ U.heap = h ∧ J U.vm) (fun _ _ _ _ _ => True) (fun _ U o U' => ∃ v L, o = .returned v ∧ Q v U'.heap L ∧ J' U'.vm ∧ ReturnedEndW U o U' L rm.cells rm.slots))
    (hZ : Z.Warmed39 s.vm) (wc : (Cond.code y bytes maxL ret).before a0 Z = true) (wz : (Cond.initialized y.cls).before a0 Z = true) (hf : rm.frames + 1 ≤ R.frames) (hl : W + (maxL + 11) + rm.locals ≤ R.locals) :
    BackS l R p e below s args y len W (fun A a => a = as' ∧ A.U.heap = h ∧ A.cells + rm.cells ≤ R.cells ∧ A.slots + rm.slots ≤ R.slots ∧ J A.U.vm)
      (fun A _ v B => ∃ L, (Q v B.U.heap L ∧ J' B.U.vm) ∧ B.locs = A.locs ++ L ∧ B.cells = A.cells + rm.cells ∧ B.slots = A.slots + rm.slots) :=
  BackS.of_freeW (bytes := bytes) (maxL := maxL) (ret := ret) (E := fun _ _ o t L k n => k = rm.cells ∧ n = rm.slots ∧ ∃ v, o = .returned v ∧ Q v t.heap L ∧ J' t.vm) hM hf hl
    (fun m meth c A a Y hp => have hU : Z.Warmed39 A.U.vm := wtrans hZ Y.warmed
      ⟨by show (Cond.and _ .tt).before a A.U = true; rw [Cond.before_and, mv hU wc]; rfl, mv hU wc, mv hU wz, hp.2.2.1, hp.2.2.2.1⟩)
    (fun m meth c A a g mk Y hp => ⟨hp.1, wtrans hZ Y.warmed, hp.2.1, hp.2.2.2.2⟩) (fun _ _ _ _ _ _ _ _ _ => trivial)
    (fun _ _ _ _ ⟨v, L, h1, h2, h3, h4⟩ => ⟨L, _, _, h4, rfl, rfl, v, h1, h2, h3⟩)
    (fun m meth c A a g mk v t L k n Y hp _ _ ⟨e1, e2, v', e3, e4, e5⟩ => by cases e3; subst e1 e2; exact ⟨L, ⟨e4, e5⟩, rfl, rfl, rfl⟩)
end OwnWide
section OwnStart
variable {args : Array Value} {s : State} {t u : Term} {a : Addr} {cl : Cell} {ty : FieldType} {z k : Int32}
theorem own_eqInt (h : (Jvm.Cond.eq t (.int k)).value args s none s [] = some true) : t.eval args s none [] s = some (.int k) := by
  obtain ⟨x, y, h1, h2, h3, -⟩ := cmp_v (Or.inl h)
  cases h2
  cases x <;> simp [Kin, Value.isRef] at h3
  have := gotT (Cond.eq_ints h1 (Term.int_eval k)) h
  rw [h1, this]
theorem own_eqRef (h : (Jvm.Cond.eq t u).value args s none s [] = some true) (hu : u.eval args s none [] s = some (.ref a)) : t.eval args s none [] s = some (.ref a) := by
  obtain ⟨x, y, h1, h2, h3, h4⟩ := cmp_v (Or.inl h)
  cases hu.symm.trans h2
  have hx : x.isRef = true := by cases x <;> simp [Kin, Value.isRef] at h3 h4 ⊢
  have := gotT (eq_R h1 hu hx rfl) h
  rw [h1, this]
theorem own_len (h : (Term.length t).eval args s none [] s = some (.int z)) (ht : t.eval args s none [] s = some (.ref a)) (A : Arr s s.heap a cl ty) : cl.slots.size < 2 ^ 31 ∧ cl.slots.size.toInt32 = z := by
  have ha : s.arrayAt? a = some cl := Arr.fin (Vm.Alike.refl _) A
  simp only [Term.eval, ht, ha, Option.bind_eq_bind, Option.bind_some] at h
  split at h
  · rename_i q
    exact ⟨q, by simpa using h⟩
  · cases h
theorem own_elem {v : Value} {i : Nat} {j : Int32} (h : (Term.elem t (.int j)).eval args s none [] s = some v) (ht : t.eval args s none [] s = some (.ref a)) (A : Arr s s.heap a cl ty) (hi : j.toNatClampNeg = i) : cl.slots[i]? = some v := by
  have q := (elem_in h ht (Term.int_eval j) A.1).2
  rw [hi] at q
  exact q
theorem own_fld {C n d : String} {v : Value} (h : (Term.field t C n d).eval args s none [] s = some v) (ht : t.eval args s none [] s = some (.ref a)) : Fld s s.heap a C n d v := Fld.start (by rw [← fld_at ht]; exact h)
end OwnStart
/-- Integer's cache: 256 boxes, -128 to 127 -/
def own_Cache (Z : State) (h : Heap) (w : Addr) : Prop := ∃ cl : Cell, Arr Z h w cl (.object "java/lang/Integer") ∧ cl.slots.size = 256 ∧ ∀ j : Nat, j < 256 → ∃ a, cl.slots[j]? = some (.ref a) ∧ Exa Z h a "java/lang/Integer" ∧ Fld Z h a "java/lang/Integer" "value" "I" (.int (j.toInt32 - 128))
section OwnInt
variable {Z s : State} {h h' : Heap} {w : Addr} {args : Array Value} {t : Term} {i : Int32}
theorem own_Cache.ext (F : own_Cache Z h w) (E : Ext h h') : own_Cache Z h' w := by
  obtain ⟨cl, A, S, H⟩ := F
  refine ⟨cl, A.ext E, S, fun j hj => ?_⟩
  obtain ⟨a, h1, h2, h3⟩ := H j hj
  exact ⟨a, h1, h2.ext E, h3.ext E⟩
theorem own_Cache.start (hst : ∀ idx, t.eval args s none idx s = some (.ref w)) (ha : (Jvm.Cond.arrayOf t (.object "java/lang/Integer")).value args s none s [] = some true) (hl : (Jvm.Cond.eq (.length t) (.int (256 : Int32))).value args s none s [] = some true)
    (hall : (Jvm.Cond.all t (.and (.exactly (.elem t (.index 0)) "java/lang/Integer") (.eq (.field (.elem t (.index 0)) "java/lang/Integer" "value" "I") (.sub (.index 0) (.int (128 : Int32)))))).value args s none s [] = some true) : own_Cache s s.heap w := by
  obtain ⟨cl, A⟩ := Arr.start (hst []) ha
  obtain ⟨q1, q2⟩ := own_len (own_eqInt hl) (hst []) A
  have S : cl.slots.size = 256 := by
    have q := len_toInt q1
    rw [q2] at q
    have e : (256 : Int32).toInt = 256 := rfl
    omega
  refine ⟨cl, A, S, fun j hj => ?_⟩
  have hk := Cond.all_elim (hst []) (Arr.fin (Vm.Alike.refl _) A) hall j (by rw [S]; exact hj)
  obtain ⟨h1, h2⟩ := and_e hk
  obtain ⟨a, c', cell, k, e1, e2, e3, e4, e5, e6, e7⟩ := Cond.exactly_spec (beq_iff_eq.mpr h1 : (Jvm.Cond.exactly (.elem t (.index 0)) "java/lang/Integer").holds args s none s [j] = true)
  have ei : (Term.index 0).eval args s none [j] s = some (.int j.toInt32) := rfl
  have hel := (elem_in e1 (hst [j]) ei A.1).2
  have ej : j.toInt32.toNatClampNeg = j := by simp only [Int32.toNatClampNeg, len_toInt (show j < 2 ^ 31 by omega)]; rfl
  rw [ej] at hel
  obtain ⟨x, y, g1, g2, g3, g4⟩ := cmp_v (Or.inl h2)
  have ey : (Term.sub (.index 0) (.int (128 : Int32))).eval args s none [j] s = some (.int (j.toInt32 - 128)) := by simp [Term.eval]
  cases g2.symm.trans ey
  obtain ⟨z, rfl⟩ : ∃ z, x = .int z := by cases x <;> simp [Kin, Value.isRef] at g3 g4 ⊢
  have hz := gotT (Cond.eq_ints g1 ey) h2
  subst hz
  exact ⟨a, hel, ⟨cell, k, e3, by rw [e6]; exact e2, by rw [e6]; exact e4, e5, e7⟩, Fld.start (by rw [← fld_at e1]; exact g1)⟩
theorem own_Cache.at (F : own_Cache Z h w) (h1 : ¬ i < (-128 : Int32)) (h2 : ¬ (127 : Int32) < i) : ∃ (cl : Cell) (a : Addr), Arr Z h w cl (.object "java/lang/Integer") ∧ ¬ ((i + (128 : Int32)) < 0 ∨ cl.slots.size ≤ (i + (128 : Int32)).toNatClampNeg) ∧ cl.slots[(i + (128 : Int32)).toNatClampNeg]? = some (.ref a) ∧ Exa Z h a "java/lang/Integer" ∧ Fld Z h a "java/lang/Integer" "value" "I" (.int i) := by
  obtain ⟨cl, A, S, H⟩ := F
  rw [Int32.lt_iff_toInt_lt] at h1 h2
  have e1 : (-128 : Int32).toInt = -128 := rfl
  have e2 : (127 : Int32).toInt = 127 := rfl
  have e3 : (128 : Int32).toInt = 128 := rfl
  have e4 : (0 : Int32).toInt = 0 := rfl
  have q := c_iadd i 128
  have r := rng32 (i + 128)
  rw [e1] at h1; rw [e2] at h2; rw [e3] at q
  have hs : (i + 128).toInt = i.toInt + 128 := by omega
  have hn : (i + (128 : Int32)).toNatClampNeg = (i.toInt + 128).toNat := by simp only [Int32.toNatClampNeg, hs]
  obtain ⟨a, g1, g2, g3⟩ := H (i.toInt + 128).toNat (by omega)
  refine ⟨cl, a, A, ?_, by rw [hn]; exact g1, g2, ?_⟩
  · rintro (q | q)
    · rw [Int32.lt_iff_toInt_lt, hs, e4] at q; omega
    · rw [hn, S] at q; omega
  · have e : ((i.toInt + 128).toNat.toInt32 - 128) = i := by
      apply Int32.toInt_inj.mp
      have c := c_isub (i.toInt + 128).toNat.toInt32 128
      have l := len_toInt (n := (i.toInt + 128).toNat) (by omega)
      have r2 := rng32 ((i.toInt + 128).toNat.toInt32 - 128)
      rw [l, e3] at c
      omega
    rw [e] at g3
    exact g3
end OwnInt
theorem own_ch16 (x : Int32) : ¬ x.toUInt32.toUInt16.toUInt32.toInt32 < (0 : Int32) ∧ ¬ (65535 : Int32) < x.toUInt32.toUInt16.toUInt32.toInt32 := by
  have h := c_i2c x
  have e0 : (0 : Int32).toInt = 0 := rfl
  have e1 : (65535 : Int32).toInt = 65535 := rfl
  rw [Int32.lt_iff_toInt_lt, Int32.lt_iff_toInt_lt]
  omega
theorem own_pair {c : Int32} (h0 : ¬ c < (0 : Int32)) (h1 : ¬ (65535 : Int32) < c) : (((((c >>> ((0 : Int32) &&& 31)).toInt8.toInt32 &&& (255 : Int32)) <<< ((0 : Int32) &&& 31))) ||| (((c >>> ((8 : Int32) &&& 31)).toInt8.toInt32 &&& (255 : Int32)) <<< ((8 : Int32) &&& 31))).toUInt32.toUInt16.toUInt32.toInt32 = c := by
  rw [StrChars.shr0]
  exact StrChars.pair_says h0 h1
theorem own_big {c : Int32} (h : (255 : Int32) < c) : ¬ c < (48 : Int32) ∧ (57 : Int32) < c := by
  rw [Int32.lt_iff_toInt_lt] at *
  have e0 : (48 : Int32).toInt = 48 := rfl
  have e1 : (57 : Int32).toInt = 57 := rfl
  have e2 : (255 : Int32).toInt = 255 := rfl
  rw [Int32.lt_iff_toInt_lt]
  omega
theorem own_refs {v : Value} (h : v.isRef = true) : v = .null ∨ ∃ a, v = .ref a := by
  cases v <;> simp_all [Value.isRef]
abbrev own_MF (l : Launch) (Z : State) (y : MethodName) (bytes : ByteArray) (maxL : Nat) (ret : Option FieldType) (ws : List Jvm.Cond) (rm : Room) (as' : Array Value) (h0 : Heap) (Q : Option Value → Heap → List Loc → Prop) : Prop :=
  MetFree l y (head1 (Jvm.Cond.code y bytes maxL ret :: ws) rm) (fun aa_ UU_ => aa_ = as' ∧ Z.Warmed39 UU_.vm ∧ UU_.heap = h0) (fun _ _ _ _ _ => True) (fun _ UU_ oo_ UV_ => ∃ vv_ LL_, oo_ = .returned vv_ ∧ Q vv_ UV_.heap LL_ ∧ FrameEnd UU_ oo_ UV_ LL_ rm.cells rm.slots)
theorem own_met {l : Launch} {Z : State} {y : MethodName} {bytes : ByteArray} {maxL : Nat} {ret : Option FieldType} {ws : List Jvm.Cond} {rm : Room} {as' : Array Value} {h0 : Heap} {Q : Option Value → Heap → List Loc → Prop} {g0 : MethodId → JFrame} (hp : plainFor y = true) (hg : ∀ m, entryFrame m as' maxL = g0 m)
    (K : ∀ (pp_ : Program) (ee_ : Env) (ss_ : State) (mm_ : MethodId) (bb_ : List Frame) (me_ : Method) (cc_ : Code) (s₁ : State), BodyLoose pp_ l y (head1 (Jvm.Cond.code y bytes maxL ret :: ws) rm) bytes maxL ret ee_ ss_ mm_ as' bb_ me_ cc_ s₁ → pp_.tables.exec = Jvm.exec → cc_.code = bytes → cc_.maxLocals = maxL → ss_.vm.findClass y.cls = some mm_.cls → Z.Warmed39 ss_.vm → ss_.heap = h0 → Stand pp_ l ee_ rm ss_ mm_ as' bb_ me_ cc_ s₁ [] 0 0 → s₁.heap = h0 →
      own_Go pp_ ee_ bb_ (fun s₂ oo_ => s₂.status = .running ∧ Ended s₂ bb_ oo_ ∧ ∃ vv_ LL_, oo_ = .returned vv_ ∧ Q vv_ s₂.heap LL_ ∧ FrameEnd ss_ oo_ s₂ LL_ rm.cells rm.slots) s₁ (g0 mm_)) : own_MF l Z y bytes maxL ret ws rm as' h0 Q := by
  refine MetFree.of_bodySF hp hisR ?_
  intro pp_ ee_ ss_ mm_ args_ bb_ me_ cc_ s₁ Bd hml hP hK
  obtain ⟨rfl, hZ, hh⟩ := hP
  have X0 : Stand pp_ l ee_ rm ss_ mm_ args_ bb_ me_ cc_ s₁ [] 0 0 := Stand.of_body Bd
  have q := K pp_ ee_ ss_ mm_ bb_ me_ cc_ s₁ Bd Bd.exec Bd.bytes hml (findClass_of_methodNamed Bd.named) hZ hh X0 (by rw [← hh, Bd.state]; rfl)
  rw [← hg] at q
  exact q
set_option maxRecDepth 65536
set_option maxHeartbeats 40000000
theorem rN {o : Option FieldType} {t : FieldType} {P : Prop} (e : o = some t) (h : o = none) : P := by rw [e] at h; cases h
abbrev own_Hw (a0 : Array Value) (Z : State) : Prop := ∀ d ∈ tables_1, d.before a0 Z = true
abbrev J0 : ByteArray := jdk_42_method_149_code
abbrev J1 : ByteArray := jdk_42_method_3_code
abbrev J2 : ByteArray := method_2_code
abbrev J3 : ByteArray := method_3_code
abbrev J4 : ByteArray := jdk_52_method_6_code
abbrev J5 : ByteArray := jdk_52_method_3_code
abbrev J6 : ByteArray := jdk_52_method_2_code
abbrev J7 : ByteArray := jdk_52_method_4_code
abbrev J8 : ByteArray := jdk_52_method_5_code
abbrev J9 : ByteArray := jdk_52_method_14_code
abbrev J10 : ByteArray := jdk_52_method_21_code
abbrev J11 : ByteArray := jdk_52_method_16_code
abbrev J12 : ByteArray := jdk_52_method_15_code
abbrev J13 : ByteArray := jdk_42_method_152_code
abbrev J14 : ByteArray := jdk_42_method_154_code
abbrev J15 : ByteArray := jdk_42_method_55_code
abbrev J16 : ByteArray := jdk_41_method_11_code
abbrev J17 : ByteArray := jdk_42_method_155_code
abbrev J18 : ByteArray := jdk_42_method_54_code
abbrev J19 : ByteArray := jdk_52_method_91_code
abbrev J20 : ByteArray := jdk_52_method_83_code
abbrev J21 : ByteArray := jdk_42_method_56_code
abbrev J22 : ByteArray := prog_8_method_2_code
abbrev vi (x : Int32) : Slot := .val (.int x)
abbrev vr (x : Addr) : Slot := .val (.ref x)
abbrev un : Slot := .unset
abbrev lb (c : Int32) : Value := .int ((c >>> ((0 : Int32) &&& 31)).toInt8.toInt32)
abbrev hb_ (c : Int32) : Value := .int ((c >>> ((8 : Int32) &&& 31)).toInt8.toInt32)
abbrev rm_ (f c s l : Nat) : Room := { frames := f, cells := c, slots := s, locals := l }
abbrev Go_ {p : Program} {e : Env} {below : List Frame} {Q : State → Outcome → Prop} (T : State) (g : JFrame) : Prop := own_Go p e below Q T g
abbrev sc0 : String := "java/lang/String"
abbrev sc1 : String := "java/lang/StringUTF16"
abbrev sc2 : String := "com/example/malipo/malipo/core/intake/DecimalTextIsDigitsPinLaw"
abbrev sc3 : String := "com/example/malipo/malipo/core/intake/DecimalText"
abbrev sc4 : String := "jdk/internal/util/Preconditions"
abbrev ym0 : MethodName := ⟨"java/lang/StringUTF16", "putChar", "([BII)V"⟩
abbrev ym1 : MethodName := ⟨"java/lang/StringUTF16", "compress", "([CI[BII)I"⟩
abbrev ym2 : MethodName := ⟨"com/example/malipo/malipo/core/intake/DecimalText", "isDigits", "(Ljava/lang/String;)Z"⟩
abbrev ym3 : MethodName := ⟨"java/lang/String", "<init>", "([CIILjava/lang/Void;)V"⟩
abbrev ym4 : MethodName := ⟨"java/lang/String", "<init>", "([C)V"⟩
abbrev ym5 : MethodName := ⟨"java/lang/StringUTF16", "newBytesLength", "(I)I"⟩
abbrev ym6 : MethodName := ⟨"java/lang/StringUTF16", "newBytesFor", "(I)[B"⟩
abbrev ym7 : MethodName := ⟨"java/lang/StringUTF16", "getChar", "([BI)C"⟩
abbrev ym8 : MethodName := ⟨"java/lang/StringUTF16", "toBytes", "([CII)[B"⟩
abbrev ym9 : MethodName := ⟨"java/lang/StringUTF16", "compress", "([CII)[B"⟩
abbrev ym10 : MethodName := ⟨"java/lang/StringUTF16", "coderFromArrayLen", "([BI)B"⟩
abbrev ym11 : MethodName := ⟨"java/lang/String", "length", "()I"⟩
abbrev ym12 : MethodName := ⟨"java/lang/StringUTF16", "charAt", "([BI)C"⟩
abbrev ym13 : MethodName := ⟨"java/lang/String", "charAt", "(I)C"⟩
def own_St (Z : State) (zc : Int32) (fm : Value) : Prop := (Sta Z Z.heap sc0 "COMPACT_STRINGS" "Z" (.int zc)) ∧ (¬ zc = (0 : Int32)) ∧ (Jvm.Lit.compactW.before #[] Z = true) ∧ (Jvm.Lit.constHeld Z sc0 7) ∧ (Sta Z Z.heap sc4 "SIOOBE_FORMATTER" "Ljava/util/function/BiFunction;" fm) ∧ (fm.isRef = true) ∧ (Sta Z Z.heap sc1 "HI_BYTE_SHIFT" "I" (.int 0)) ∧ (Sta Z Z.heap sc1 "LO_BYTE_SHIFT" "I" (.int 8)) ∧ (Sta Z Z.heap sc1 "$assertionsDisabled" "Z" (.int 1))
theorem dk0 : decode J0 0 = .ok (.aload_n 0, 1) := by decide +kernel
theorem dk1 : decode J0 1 = .ok (.invokespecial 1, 3) := by decide +kernel
theorem dk2 : decode J0 4 = .ok (.iload_n 3, 1) := by decide +kernel
theorem dk3 : decode J0 5 = .ok (.ifCond .ne 22, 3) := by decide +kernel
theorem dk4 : decode J0 8 = .ok (.aload_n 0, 1) := by decide +kernel
theorem dk5 : decode J0 9 = .ok (.ldc 7, 2) := by decide +kernel
theorem dk6 : decode J0 11 = .ok (.getfield 9, 3) := by decide +kernel
theorem dk7 : decode J0 14 = .ok (.putfield 9, 3) := by decide +kernel
theorem dk8 : decode J0 17 = .ok (.aload_n 0, 1) := by decide +kernel
theorem dk9 : decode J0 18 = .ok (.ldc 7, 2) := by decide +kernel
theorem dk10 : decode J0 20 = .ok (.getfield 15, 3) := by decide +kernel
theorem dk11 : decode J0 23 = .ok (.putfield 15, 3) := by decide +kernel
theorem dk12 : decode J0 26 = .ok (.return_, 1) := by decide +kernel
theorem pn_java_lang_String : plainName "java/lang/String" = true := by first | (simp [plainName, overriddenIn]; done) | decide +kernel
theorem ef_rmI4 (mm_ : MethodId) (x : Addr) (b : Addr) : entryFrame mm_ #[(.ref x), (.ref b), (.int 0), (.int 0), .null] 6 = (mkF mm_ 0 #[vr x, vr b, vi 0, vi 0, .val .null, un] []) := by first | (simp [entryFrame, mkF, argsToLocals, Value.category]; done) | rfl
def QrmI4 (Z : State) (x : Addr) (b : Addr) (tz : List String) (h0 : Heap) (n0 : Nat) (vv_ : Option Value) (hh_ : Heap) (LL_ : List Loc) : Prop := ∃ (t : Addr), (vv_ = none) ∧ (Fr n0 LL_) ∧ (Keep h0 hh_ [x]) ∧ (own_Str Z hh_ x t [])
theorem rmI4 (l : Launch) (Z : State) (a0 : Array Value) (hw : own_Hw a0 Z) (ws : List Jvm.Cond) (x : Addr) (b : Addr) (tz : List String) {zc : Int32} {fm : Value} (h0 : Heap) (n0 : Nat) (O0 : Old Z n0 h0) (G_ : own_St Z zc fm) (pr0 : Exa Z h0 x sc0) (pr1 : Fld Z h0 x sc0 "value" "[B" .null) (pr2 : Fld Z h0 x sc0 "coder" "B" (.int 0)) (g_x : n0 ≤ x) (hnz : "" ∉ tz) :
 MetFree l ym3 (head1 (Jvm.Cond.code ym3 J0 6 none :: ws) (rm_ 1 2 4 12)) (fun aa_ UU_ => aa_ = #[(.ref x), (.ref b), (.int 0), (.int 0), .null] ∧ Z.Warmed39 UU_.vm ∧ UU_.heap = h0 ∧ (IB Z UU_.vm tz)) (fun _ _ _ _ _ => True) (fun _ UU_ oo_ UV_ => ∃ vv_ LL_, oo_ = .returned vv_ ∧ QrmI4 Z x b tz h0 n0 vv_ UV_.heap LL_ ∧ IB Z UV_.vm ("" :: tz) ∧ ReturnedEndW UU_ oo_ UV_ LL_ (rm_ 1 2 4 12).cells (rm_ 1 2 4 12).slots) := by
 refine MetFree.of_bodySF (plainFor_of_name pn_java_lang_String) hisR ?_
 intro pp_ ee_ ss_ mm_ args_ bb_ me_ cc_ s₁ Bd hml0 hP hK
 obtain ⟨rfl, hZ, hh, hI⟩ := hP
 have hx := Bd.exec
 have hby := Bd.bytes; have B_ {q_ : Nat} {r_ : _} (h_ : decode _ q_ = r_) := hb hby h_
 have hml : cc_.maxLocals = 6 := hml0
 have hown : ss_.vm.findClass sc0 = some mm_.cls := findClass_of_methodNamed Bd.named
 have hnm := (name_of_methodNamed Bd.named Bd.method).1
 have X0 : Stand pp_ l ee_ (rm_ 1 2 4 12) ss_ mm_ #[(.ref x), (.ref b), (.int 0), (.int 0), .null] bb_ me_ cc_ s₁ [] 0 0 := Stand.of_body Bd
 have e0 : s₁.heap = h0 := by rw [← hh, Bd.state]; rfl
 have N0 := Fr.nil n0
 have X0 : Stand pp_ l ee_ _ (ss_.setVm ss_.vm) mm_ _ bb_ me_ cc_ s₁ [] 0 0 := X0
 have hZ : Z.Warmed39 (ss_.setVm ss_.vm).vm := hZ
 have hown : (ss_.setVm ss_.vm).vm.findClass sc0 = some mm_.cls := hown
 have hS0 : ss_.Since ss_.vm 0 := (State.WarmedH.refl ss_).since 0
 have hkeep_ : ∀ (b : Addr) (cl : Cell), Z.heap[b]? = some cl → ss_.heap[b]? = some cl := by rw [hh]; exact O0.2.2
 have own_atoms_ : ∀ a ∈ Bundle.stringAtoms, a.before a0 Z = true := fun d hd => hw d ((by decide +kernel : ∀ d ∈ Bundle.stringAtoms, d ∈ tables_1) d hd)
 show own_Go pp_ ee_ bb_ _ s₁ (entryFrame mm_ #[(.ref x), (.ref b), (.int 0), (.int 0), .null] 6)
 refine own_cast (ef_rmI4 mm_ x b) ?_
 have Z0 : n0 ≤ h0.size := by have q := O0.2.1; rw [O0.1] at q; exact q
 have K0 : Keep h0 h0 [x] := Keep.refl _ _
 obtain ⟨G_cs, G_cs0, G_cw, G_h_java_lang_String_7, G_fm, G_fr, G_hb, G_lb, G_ad⟩ := id G_
 have own_cw_ : Jvm.Lit.compactW.before a0 Z = true := G_cw
 show Go_ s₁ (mkF mm_ 0 #[vr x, vr b, vi 0, vi 0, .val .null, un] [])
 refine sp_ (fun t_ k_ => XS.aloadN X0.here hx rfl (B_ dk0) rfl rfl k_) ?_
 obtain ⟨T1, X1, e1, st1⟩ := initO X0 hx hZ hown (w_ hw 18 rfl) (w_ hw 19 rfl) (w_ hw 20 rfl) e0 (g := (mkF mm_ 1 #[vr x, vr b, vi 0, vi 0, .val .null, un] [(.ref x)])) rfl hml.symm rfl (B_ dk1) (by decide) (W := 0) (Nat.le_of_eq rfl) (by decide)
 refine sp_ st1 ?_
 show Go_ T1 (mkF mm_ 4 #[vr x, vr b, vi 0, vi 0, .val .null, un] [])
 refine sp_ (fun t_ k_ => XS.iloadN X1.here hx rfl (B_ dk2) rfl  k_) ?_
 show Go_ T1 (mkF mm_ 5 #[vr x, vr b, vi 0, vi 0, .val .null, un] [(.int 0)])
 refine sp_ (fun t_ k_ => XS.ifNo X1.here hx rfl (B_ dk3) rfl ((if0 _ _).trans (teq (by decide : (0 : Int32) = (0 : Int32))).2) k_) ?_
 show Go_ T1 (mkF mm_ 8 #[vr x, vr b, vi 0, vi 0, .val .null, un] [])
 refine sp_ (fun t_ k_ => XS.aloadN X1.here hx rfl (B_ dk4) rfl rfl k_) ?_
 show Go_ T1 (mkF mm_ 9 #[vr x, vr b, vi 0, vi 0, .val .null, un] [(.ref x)])
 obtain ⟨a2, T2, h2, k2, t2, kb2, X2, e2, E2, hS2, hk2, hZ2, hown2, Ex2, Fc2, Fv2, V2, -, -, I2, L2, st2⟩ := ldcSVL (s := ss_) (vm0 := ss_.vm) X1 hx hZ hown (w_ hw 21 rfl) own_atoms_ e1 hS0 (Nat.zero_le _) (by rw [hh]; exact (Fr.nil _)) hkeep_ hI (by first | assumption | decide) (G_h_java_lang_String_7) own_cw_ (vs := []) (z := (0 : Int32)) ⟨by decide, rfl⟩ (by decide) (by decide) (g := (mkF mm_ 9 #[vr x, vr b, vi 0, vi 0, .val .null, un] [(.ref x)])) rfl (B_ dk5) (n := 0) (by decide) (by decide) (by decide) (by decide)
 have Ls2 : own_Str Z h2 a2 t2 [] := ⟨Ex2, Fc2, Fv2, ⟨kb2, V2⟩, by decide, by decide⟩
 refine sp_ st2 ?_
 obtain ⟨T3, X3, e3, st3⟩ := getF X2 hx hZ2 hown2 (host := "") (Or.inl (w_ hw 27 rfl)) Via.refl e2 Fv2 (g := (mkF mm_ 11 #[vr x, vr b, vi 0, vi 0, .val .null, un] [(.ref a2), (.ref x)])) rfl rfl (B_ dk6)
 refine sp_ st3 ?_
 have f4 : Fld Z h2 x sc0 "value" "[B" .null := (pr1.ext E2)
 have f5 : Exa Z h2 x sc0 := (pr0.ext E2)
 obtain ⟨T6, h6, X6, e6, W6, st6⟩ := putF X3 hx hZ2 hown2 (host := "") (Or.inl (w_ hw 27 rfl)) Via.refl e3 f4 f5 (Or.inr ⟨(w_ hw 23 rfl), rfl, hnm⟩) (w_ hw 8 rfl) (ty := (.array .byte)) (by decide) rfl rfl (g := (mkF mm_ 14 #[vr x, vr b, vi 0, vi 0, .val .null, un] [(.ref t2), (.ref x)])) rfl rfl (B_ dk7)
 have F6 := f4.same W6
 have N6 := Fr.snoc X6 N0 g_x
 refine sp_ st6 ?_
 show Go_ T6 (mkF mm_ 17 #[vr x, vr b, vi 0, vi 0, .val .null, un] [])
 refine sp_ (fun t_ k_ => XS.aloadN X6.here hx rfl (B_ dk8) rfl rfl k_) ?_
 show Go_ T6 (mkF mm_ 18 #[vr x, vr b, vi 0, vi 0, .val .null, un] [(.ref x)])
 refine sp_ (ldcAgain (s := ss_) (vm0 := T2.vm) X6 hx hZ2 hown2 (w_ hw 21 rfl) L2 (g := (mkF mm_ 18 #[vr x, vr b, vi 0, vi 0, .val .null, un] [(.ref x)])) rfl (B_ dk9)) ?_
 have f8 : Fld Z h6 a2 sc0 "coder" "B" (.int 0) := (Fc2.other W6 (Or.inr (slot_ne (Or.inr (w_ hw 24 rfl)) (Or.inr (w_ hw 23 rfl)) (by decide) (t := .byte) (t' := (.array .byte)) (by decide) (by decide))))
 obtain ⟨T9, X9, e9, st9⟩ := getF X6 hx hZ2 hown2 (host := "") (Or.inl (w_ hw 28 rfl)) Via.refl e6 f8 (g := (mkF mm_ 20 #[vr x, vr b, vi 0, vi 0, .val .null, un] [(.ref a2), (.ref x)])) rfl rfl (B_ dk10)
 refine sp_ st9 ?_
 have f10 : Fld Z h6 x sc0 "coder" "B" (.int 0) := ((pr2.ext E2).other W6 (Or.inr (slot_ne (Or.inr (w_ hw 24 rfl)) (Or.inr (w_ hw 23 rfl)) (by decide) (t := .byte) (t' := (.array .byte)) (by decide) (by decide))))
 have f11 : Exa Z h6 x sc0 := (f5.wr W6)
 obtain ⟨T12, h12, X12, e12, W12, st12⟩ := putFN X9 hx hZ2 hown2 (w_ hw 28 rfl) Via.refl e9 f10 f11 (Or.inr ⟨(w_ hw 24 rfl), rfl, hnm⟩) (w_ hw 8 rfl) (ty := .byte) (v' := (.int 0)) (by decide) rfl rfl (g := (mkF mm_ 23 #[vr x, vr b, vi 0, vi 0, .val .null, un] [(.int 0), (.ref x)])) rfl rfl (B_ dk11)
 have F12 := f10.same W12
 have N12 := Fr.snoc X12 N6 g_x
 refine sp_ st12 ?_
 show Go_ T12 (mkF mm_ 26 #[vr x, vr b, vi 0, vi 0, .val .null, un] [])
 have f13 : Exa Z h12 x sc0 := (f11.wr W12)
 have f14 : Fld Z h12 x sc0 "value" "[B" (.ref t2) := (F6.other W12 (Or.inr (slot_ne (Or.inr (w_ hw 23 rfl)) (Or.inr (w_ hw 24 rfl)) (by decide) (t := (.array .byte)) (t' := .byte) (by decide) (by decide))))
 have f15 : Arv Z h12 t2 kb2 .byte (0 : Int32) [] (.int 0) := ((V2.other W6 (Ne.symm (Exa.neArv f5 V2 (w_ hw 8 rfl)))).other W12 (Ne.symm (Exa.neArv f11 (V2.other W6 (Ne.symm (Exa.neArv f5 V2 (w_ hw 8 rfl)))) (w_ hw 8 rfl))))
 have Pk16 : own_Str Z h12 x t2 [] := ⟨f13, F12, f14, ⟨_, f15⟩, by decide, Nat.le_of_ble_eq_true rfl⟩
 have K17 : Keep h0 h12 [x] := (((K0.ext E2).wr W6 (Or.inl (List.mem_of_getElem? (i := 0) rfl))).wr W12 (Or.inl (List.mem_of_getElem? (i := 0) rfl)))
 obtain ⟨fs, hr, hrun, hended, hEnd⟩ := X12.leaveW hS2 (by rw [e12]; exact (Nat.le_trans (Nat.le_trans hk2 (Keep.of_wr W6).1) (Keep.of_wr W12).1)) (v := none) (fun _ => rfl)
 refine ⟨_, _, ?_, hrun, hended, _, _, rfl, ?_, own_IB_mono (own_IB_warm I2 X12.warmed) (by intro t_ h_; first | exact h_ | exact List.mem_cons_of_mem _ h_ | (revert t_ h_; decide)), own_endMono hEnd (by decide) (by decide)⟩
 · exact X12.returnOut hx Bd.returns (B_ dk12) hr
 · show QrmI4 Z x b tz h0 n0 none T12.heap _
   rw [e12]
   exact ⟨t2, rfl, N12, K17, Pk16⟩
theorem dk13 : decode J1 0 = .ok (.aload_n 0, 1) := by decide +kernel
theorem dk14 : decode J1 1 = .ok (.aload_n 1, 1) := by decide +kernel
theorem dk15 : decode J1 2 = .ok (.iconst 0, 1) := by decide +kernel
theorem dk16 : decode J1 3 = .ok (.aload_n 1, 1) := by decide +kernel
theorem dk17 : decode J1 4 = .ok (.arraylength, 1) := by decide +kernel
theorem dk18 : decode J1 5 = .ok (.aconst_null, 1) := by decide +kernel
theorem dk19 : decode J1 6 = .ok (.invokespecial 27, 3) := by decide +kernel
theorem pd_0 : parseMethodDescriptor "([CIILjava/lang/Void;)V" = some ⟨[(.array .char), .int, .int, (.object "java/lang/Void")], none⟩ := by decide +kernel
theorem dk20 : decode J1 9 = .ok (.return_, 1) := by decide +kernel
theorem ef_rmI1 (mm_ : MethodId) (x : Addr) (b : Addr) : entryFrame mm_ #[(.ref x), (.ref b)] 2 = (mkF mm_ 0 #[vr x, vr b] []) := by first | (simp [entryFrame, mkF, argsToLocals, Value.category]; done) | rfl
def QrmI1 (Z : State) (x : Addr) (b : Addr) (k : ClassId) (d : Value) (tz : List String) (h0 : Heap) (n0 : Nat) (vv_ : Option Value) (hh_ : Heap) (LL_ : List Loc) : Prop := ∃ (t : Addr), (vv_ = none) ∧ (Fr n0 LL_) ∧ (Keep h0 hh_ [x]) ∧ (own_Str Z hh_ x t [])
theorem rmI1 (l : Launch) (Z : State) (a0 : Array Value) (hw : own_Hw a0 Z) (ws : List Jvm.Cond) (x : Addr) (b : Addr) (k : ClassId) (d : Value) (tz : List String) {zc : Int32} {fm : Value} (h0 : Heap) (n0 : Nat) (O0 : Old Z n0 h0) (G_ : own_St Z zc fm) (pr0 : Exa Z h0 x sc0) (pr1 : Fld Z h0 x sc0 "value" "[B" .null) (pr2 : Fld Z h0 x sc0 "coder" "B" (.int 0)) (g_x : n0 ≤ x) (hnz : "" ∉ tz) (pr5 : Arv Z h0 b k .char (0 : Int32) [] d) :
 MetFree l ym4 (head1 (Jvm.Cond.code ym4 J1 2 none :: ws) (rm_ 2 2 4 29)) (fun aa_ UU_ => aa_ = #[(.ref x), (.ref b)] ∧ Z.Warmed39 UU_.vm ∧ UU_.heap = h0 ∧ (IB Z UU_.vm tz)) (fun _ _ _ _ _ => True) (fun _ UU_ oo_ UV_ => ∃ vv_ LL_, oo_ = .returned vv_ ∧ QrmI1 Z x b k d tz h0 n0 vv_ UV_.heap LL_ ∧ IB Z UV_.vm ("" :: tz) ∧ ReturnedEndW UU_ oo_ UV_ LL_ (rm_ 2 2 4 29).cells (rm_ 2 2 4 29).slots) := by
 refine MetFree.of_bodySF (plainFor_of_name pn_java_lang_String) hisR ?_
 intro pp_ ee_ ss_ mm_ args_ bb_ me_ cc_ s₁ Bd hml0 hP hK
 obtain ⟨rfl, hZ, hh, hI⟩ := hP
 have hx := Bd.exec
 have hby := Bd.bytes; have B_ {q_ : Nat} {r_ : _} (h_ : decode _ q_ = r_) := hb hby h_
 have hml : cc_.maxLocals = 2 := hml0
 have hown : ss_.vm.findClass sc0 = some mm_.cls := findClass_of_methodNamed Bd.named
 have hnm := (name_of_methodNamed Bd.named Bd.method).1
 have X0 : Stand pp_ l ee_ (rm_ 2 2 4 29) ss_ mm_ #[(.ref x), (.ref b)] bb_ me_ cc_ s₁ [] 0 0 := Stand.of_body Bd
 have e0 : s₁.heap = h0 := by rw [← hh, Bd.state]; rfl
 have N0 := Fr.nil n0
 have X0 : Stand pp_ l ee_ _ (ss_.setVm ss_.vm) mm_ _ bb_ me_ cc_ s₁ [] 0 0 := X0
 have hZ : Z.Warmed39 (ss_.setVm ss_.vm).vm := hZ
 have hown : (ss_.setVm ss_.vm).vm.findClass sc0 = some mm_.cls := hown
 have hS0 : ss_.Since ss_.vm 0 := (State.WarmedH.refl ss_).since 0
 have hkeep_ : ∀ (b : Addr) (cl : Cell), Z.heap[b]? = some cl → ss_.heap[b]? = some cl := by rw [hh]; exact O0.2.2
 have own_atoms_ : ∀ a ∈ Bundle.stringAtoms, a.before a0 Z = true := fun d hd => hw d ((by decide +kernel : ∀ d ∈ Bundle.stringAtoms, d ∈ tables_1) d hd)
 show own_Go pp_ ee_ bb_ _ s₁ (entryFrame mm_ #[(.ref x), (.ref b)] 2)
 refine own_cast (ef_rmI1 mm_ x b) ?_
 have Z0 : n0 ≤ h0.size := by have q := O0.2.1; rw [O0.1] at q; exact q
 have K0 : Keep h0 h0 [x] := Keep.refl _ _
 obtain ⟨G_cs, G_cs0, G_cw, G_h_java_lang_String_7, G_fm, G_fr, G_hb, G_lb, G_ad⟩ := id G_
 have own_cw_ : Jvm.Lit.compactW.before a0 Z = true := G_cw
 show Go_ s₁ (mkF mm_ 0 #[vr x, vr b] [])
 refine sp_ (fun t_ k_ => XS.aloadN X0.here hx rfl (B_ dk13) rfl rfl (XS.aloadN X0.here hx rfl (B_ dk14) rfl rfl (XS.iconst X0.here hx rfl (B_ dk15) (XS.aloadN X0.here hx rfl (B_ dk16) rfl rfl k_)))) ?_
 obtain ⟨cl1, Ar1, -, S1, M1, -, -⟩ := id pr5
 refine sp_ (fun t_ k_ => X0.arraylength hx (by rw [e0]; exact Ar1.1) (State.isArrayOf_alike hZ.alike Ar1.2.1) (g := (mkF mm_ 4 #[vr x, vr b] [(.ref b), (.int 0), (.ref b), (.ref x)])) rfl rfl (B_ dk17) t_ (by rw [len_of S1 M1]; exact k_)) ?_
 show Go_ s₁ (mkF mm_ 5 #[vr x, vr b] [(.int 0), (.int 0), (.ref b), (.ref x)])
 refine sp_ (fun t_ k_ => XS.aconstNull X0.here hx rfl (B_ dk18) k_) ?_
 obtain ⟨_, _, ⟨T2, Lx2, kx2, nx2⟩, -, X2, hS2, hG2, ⟨Lc2, hQ2, l2, y2, z2⟩, st2⟩ := X0.specialBackS hx (y := ym3) rfl hown (mvT hZ (w_ hw 14 rfl)) (mvT hZ (w_ hw 15 rfl)) (mvT hZ (w_ hw 17 rfl)) (by decide) (own_backI (J := fun q_ => IB Z q_ tz) (J' := fun q_ => IB Z q_ ("" :: tz)) (W := 0) (rmI4 l Z a0 hw [] x b tz h0 n0 O0 G_ pr0 pr1 pr2 g_x hnz) hZ (w_ hw 17 rfl) (w_ hw 9 rfl) (by decide) (by decide)) (g := (mkF mm_ 6 #[vr x, vr b] [.null, (.int 0), (.int 0), (.ref b), (.ref x)])) rfl hml.symm (Steps.refl _) (a := x) (argsL := [(.ref b), (.int 0), (.int 0), .null]) (rest := []) (lenOf pd_0 rfl) rfl (Nat.le_of_eq rfl) (B_ dk19) (fun vm_ hvm_ => ⟨rfl, e0, (by decide : 0 + 2 ≤ _), (by decide : 0 + 4 ≤ _), own_IB_mono (own_IB_warm hI hvm_) (by intro t_ h_; first | exact h_ | exact List.mem_cons_of_mem _ h_ | (revert t_ h_; decide))⟩)
 dsimp only [Pt.U, Pt.locs, Pt.cells, Pt.slots] at X2 l2 y2 z2 st2 hQ2 hS2 hG2
 subst l2 y2 z2
 obtain ⟨X2, hS2, hZ2, hown2⟩ := rebS (n1 := h0.size) hS0 (Nat.zero_le _) X2 hS2 (by rw [← e0]; exact hG2) hZ hown
 obtain ⟨hQ2, hIq2⟩ := hQ2
 obtain ⟨t_2, rfl, Nq2, Kc2, r2_0⟩ := hQ2
 have N2 := Fr.app N0 Nq2
 refine jp_ st2 ?_
 show Go_ T2 (mkF mm_ 9 #[vr x, vr b] [])
 have K3 : Keep h0 T2.heap [x] := (K0.trans Kc2 (allS (Or.inl (List.mem_of_getElem? (i := 0) rfl)) all0))
 obtain ⟨fs, hr, hrun, hended, hEnd⟩ := X2.leaveW hS2 (Nat.le_refl _) (v := none) (fun _ => rfl)
 refine ⟨_, _, ?_, hrun, hended, _, _, rfl, ?_, own_IB_mono (own_IB_warm hIq2 X2.warmed) (by intro t_ h_; first | exact h_ | exact List.mem_cons_of_mem _ h_ | (revert t_ h_; decide)), own_endMono hEnd (by decide) (by decide)⟩
 · exact X2.returnOut hx Bd.returns (B_ dk20) hr
 · show QrmI1 Z x b k d tz h0 n0 none T2.heap _
   exact ⟨t_2, rfl, N2, K3, r2_0⟩
theorem dk21 : decode J2 0 = .ok (.iload_n 0, 1) := by decide +kernel
theorem dk22 : decode J2 1 = .ok (.ldc 7, 2) := by decide +kernel
theorem dk23 : decode J2 3 = .ok (.iand, 1) := by decide +kernel
theorem dk24 : decode J2 4 = .ok (.ifCond .eq 15, 3) := by decide +kernel
theorem dk25 : decode J2 19 = .ok (.iload_n 0, 1) := by decide +kernel
theorem dk26 : decode J2 20 = .ok (.ldc 8, 2) := by decide +kernel
theorem dk27 : decode J2 22 = .ok (.iand, 1) := by decide +kernel
theorem dk28 : decode J2 23 = .ok (.i2c, 1) := by decide +kernel
theorem dk29 : decode J2 24 = .ok (.ireturn, 1) := by decide +kernel
theorem dk30 : decode J2 7 = .ok (.bipush 40, 2) := by decide +kernel
theorem dk31 : decode J2 9 = .ok (.iload_n 0, 1) := by decide +kernel
theorem dk32 : decode J2 10 = .ok (.bipush 17, 2) := by decide +kernel
theorem dk33 : decode J2 12 = .ok (.iushr, 1) := by decide +kernel
theorem dk34 : decode J2 13 = .ok (.bipush 31, 2) := by decide +kernel
theorem dk35 : decode J2 15 = .ok (.iand, 1) := by decide +kernel
theorem dk36 : decode J2 16 = .ok (.iadd, 1) := by decide +kernel
theorem dk37 : decode J2 17 = .ok (.i2c, 1) := by decide +kernel
theorem dk38 : decode J2 18 = .ok (.ireturn, 1) := by decide +kernel
theorem pn_com_example_malipo_malipo_core_intake_DecimalTextIsDigitsPinLaw : plainName "com/example/malipo/malipo/core/intake/DecimalTextIsDigitsPinLaw" = true := by first | (simp [plainName, overriddenIn]; done) | decide +kernel
theorem ef_rmPk (mm_ : MethodId) (p : Int32) : entryFrame mm_ #[(.int p)] 1 = (mkF mm_ 0 #[vi p] []) := by first | (simp [entryFrame, mkF, argsToLocals, Value.category]; done) | rfl
def QrmPk (Z : State) (p : Int32) (h0 : Heap) (n0 : Nat) (vv_ : Option Value) (hh_ : Heap) (LL_ : List Loc) : Prop := ∃ (v : Int32), (vv_ = some (.int v)) ∧ (LL_ = []) ∧ (hh_ = h0) ∧ (¬ v < (0 : Int32) ∧ ¬ (65535 : Int32) < v)
theorem rmPk (l : Launch) (Z : State) (a0 : Array Value) (hw : own_Hw a0 Z) (ws : List Jvm.Cond) (p : Int32) (h0 : Heap) (n0 : Nat) (O0 : Old Z n0 h0) :
 own_MF l Z (⟨sc2, "pick", "(I)C"⟩ : MethodName) J2 1 (some .char) ws (rm_ 0 0 0 0) #[(.int p)] h0 (QrmPk Z p h0 n0) := by
 refine own_met (plainFor_of_name pn_com_example_malipo_malipo_core_intake_DecimalTextIsDigitsPinLaw) (fun m_ => ef_rmPk m_ p) fun pp_ ee_ ss_ mm_ bb_ me_ cc_ s₁ Bd hx hby hml hown hZ hh X0 e0 => ?_
 have B_ {q_ : Nat} {r_ : _} (h_ : decode _ q_ = r_) := hb hby h_
 have hown : ss_.vm.findClass sc2 = some mm_.cls := hown
 have N0 := Fr.nil n0
 have Z0 : n0 ≤ h0.size := by have q := O0.2.1; rw [O0.1] at q; exact q
 have K0 : Keep h0 h0 [] := Keep.refl _ _
 show Go_ s₁ (mkF mm_ 0 #[vi p] [])
 refine sp_ (fun t_ k_ => XS.iloadN X0.here hx rfl (B_ dk21) rfl  k_) ?_
 show Go_ s₁ (mkF mm_ 1 #[vi p] [(.int p)])
 refine sp_ (fun t_ k_ => X0.ldcInt hx hown (mvT hZ (w_ hw 5 rfl)) (g := (mkF mm_ 1 #[vi p] [(.int p)])) rfl (B_ dk22) t_ k_) ?_
 show Go_ s₁ (mkF mm_ 3 #[vi p] [(.int 65536), (.int p)])
 refine sp_ (fun t_ k_ => XS.iand X0.here hx rfl (B_ dk23) rfl k_) ?_
 show Go_ s₁ (mkF mm_ 4 #[vi p] [(.int (p &&& (65536 : Int32)))])
 by_cases hc4_1 : (p &&& (65536 : Int32)) = (0 : Int32)
 · skip
   refine sp_ (fun t_ k_ => XS.ifYes X0.here hx rfl (pc0 := 4) (pc' := 19) rfl (B_ dk24) rfl ((if0 _ _).trans (teq hc4_1).1) (by decide) (by decide) k_) ?_
   show Go_ s₁ (mkF mm_ 19 #[vi p] [])
   refine sp_ (fun t_ k_ => XS.iloadN X0.here hx rfl (B_ dk25) rfl  k_) ?_
   show Go_ s₁ (mkF mm_ 20 #[vi p] [(.int p)])
   refine sp_ (fun t_ k_ => X0.ldcInt hx hown (mvT hZ (w_ hw 6 rfl)) (g := (mkF mm_ 20 #[vi p] [(.int p)])) rfl (B_ dk26) t_ k_) ?_
   show Go_ s₁ (mkF mm_ 22 #[vi p] [(.int 65535), (.int p)])
   refine sp_ (fun t_ k_ => XS.iand X0.here hx rfl (B_ dk27) rfl (XS.i2c X0.here hx rfl (B_ dk28) rfl k_)) ?_
   show Go_ s₁ (mkF mm_ 24 #[vi p] [(.int ((p &&& (65535 : Int32)).toUInt32.toUInt16.toUInt32.toInt32))])
   obtain ⟨fs, hr, hrun, hended, hW, hsame⟩ := X0.leave (v := some (.int (nar .char ((p &&& (65535 : Int32)).toUInt32.toUInt16.toUInt32.toInt32)))) (rN Bd.returns)
   refine ⟨_, _, ?_, hrun, hended, _, _, rfl, ?_, ⟨_, rfl⟩, hW, hsame.mono (by decide) (by decide)⟩
   · exact retN X0 hx (t := .char) Bd.returns (by simp) (B_ dk29) hr
   · show QrmPk Z p h0 n0 (some (.int (nar .char ((p &&& (65535 : Int32)).toUInt32.toUInt16.toUInt32.toInt32)))) s₁.heap _
     rw [e0]
     exact ⟨((p &&& (65535 : Int32)).toUInt32.toUInt16.toUInt32.toInt32), (by rw [own_narLit _ (own_ch16 _).1 (own_ch16 _).2]), rfl, rfl, (own_ch16 _)⟩
 · skip
   refine sp_ (fun t_ k_ => XS.ifNo X0.here hx rfl (B_ dk24) rfl ((if0 _ _).trans (feq hc4_1).1) k_) ?_
   show Go_ s₁ (mkF mm_ 7 #[vi p] [])
   refine sp_ (fun t_ k_ => XS.bipush X0.here hx rfl (B_ dk30) (XS.iloadN X0.here hx rfl (B_ dk31) rfl  (XS.bipush X0.here hx rfl (B_ dk32) (XS.iushr X0.here hx rfl (B_ dk33) rfl (XS.bipush X0.here hx rfl (B_ dk34) (XS.iand X0.here hx rfl (B_ dk35) rfl (XS.iadd X0.here hx rfl (B_ dk36) rfl (XS.i2c X0.here hx rfl (B_ dk37) rfl k_)))))))) ?_
   show Go_ s₁ (mkF mm_ 18 #[vi p] [(.int (((40 : Int32) + (((p.toUInt32 >>> ((17 : Int32) &&& 31).toUInt32).toInt32) &&& (31 : Int32))).toUInt32.toUInt16.toUInt32.toInt32))])
   obtain ⟨fs, hr, hrun, hended, hW, hsame⟩ := X0.leave (v := some (.int (nar .char (((40 : Int32) + (((p.toUInt32 >>> ((17 : Int32) &&& 31).toUInt32).toInt32) &&& (31 : Int32))).toUInt32.toUInt16.toUInt32.toInt32)))) (rN Bd.returns)
   refine ⟨_, _, ?_, hrun, hended, _, _, rfl, ?_, ⟨_, rfl⟩, hW, hsame.mono (by decide) (by decide)⟩
   · exact retN X0 hx (t := .char) Bd.returns (by simp) (B_ dk38) hr
   · show QrmPk Z p h0 n0 (some (.int (nar .char (((40 : Int32) + (((p.toUInt32 >>> ((17 : Int32) &&& 31).toUInt32).toInt32) &&& (31 : Int32))).toUInt32.toUInt16.toUInt32.toInt32)))) s₁.heap _
     rw [e0]
     exact ⟨(((40 : Int32) + (((p.toUInt32 >>> ((17 : Int32) &&& 31).toUInt32).toInt32) &&& (31 : Int32))).toUInt32.toUInt16.toUInt32.toInt32), (by rw [own_narLit _ (own_ch16 _).1 (own_ch16 _).2]), rfl, rfl, (own_ch16 _)⟩
def own_D (c : Int32) : Prop := ¬ (c < (48 : Int32)) ∧ ¬ ((57 : Int32) < c)
theorem dk39 : decode J3 0 = .ok (.iload_n 0, 1) := by decide +kernel
theorem dk40 : decode J3 1 = .ok (.bipush 48, 2) := by decide +kernel
theorem dk41 : decode J3 3 = .ok (.if_icmp .lt 13, 3) := by decide +kernel
theorem dk42 : decode J3 16 = .ok (.iconst 0, 1) := by decide +kernel
theorem dk43 : decode J3 17 = .ok (.ireturn, 1) := by decide +kernel
theorem dk44 : decode J3 6 = .ok (.iload_n 0, 1) := by decide +kernel
theorem dk45 : decode J3 7 = .ok (.bipush 57, 2) := by decide +kernel
theorem dk46 : decode J3 9 = .ok (.if_icmp .gt 7, 3) := by decide +kernel
theorem dk47 : decode J3 12 = .ok (.iconst 1, 1) := by decide +kernel
theorem dk48 : decode J3 13 = .ok (.goto 4, 3) := by decide +kernel
theorem ef_rmDg (mm_ : MethodId) (c : Int32) : entryFrame mm_ #[(.int c)] 1 = (mkF mm_ 0 #[vi c] []) := by first | (simp [entryFrame, mkF, argsToLocals, Value.category]; done) | rfl
def QrmDg (Z : State) (c : Int32) (h0 : Heap) (n0 : Nat) (vv_ : Option Value) (hh_ : Heap) (LL_ : List Loc) : Prop := ∃ (r : Int32), (vv_ = some (.int r)) ∧ (LL_ = []) ∧ (hh_ = h0) ∧ (r = (1 : Int32) ∧ own_D c ∨ r = (0 : Int32) ∧ ¬ own_D c)
theorem rmDg (l : Launch) (Z : State) (a0 : Array Value) (hw : own_Hw a0 Z) (ws : List Jvm.Cond) (c : Int32) (h0 : Heap) (n0 : Nat) (O0 : Old Z n0 h0) :
 own_MF l Z (⟨sc2, "dig", "(C)Z"⟩ : MethodName) J3 1 (some .boolean) ws (rm_ 0 0 0 0) #[(.int c)] h0 (QrmDg Z c h0 n0) := by
 refine own_met (plainFor_of_name pn_com_example_malipo_malipo_core_intake_DecimalTextIsDigitsPinLaw) (fun m_ => ef_rmDg m_ c) fun pp_ ee_ ss_ mm_ bb_ me_ cc_ s₁ Bd hx hby hml hown hZ hh X0 e0 => ?_
 have B_ {q_ : Nat} {r_ : _} (h_ : decode _ q_ = r_) := hb hby h_
 have hown : ss_.vm.findClass sc2 = some mm_.cls := hown
 have N0 := Fr.nil n0
 have Z0 : n0 ≤ h0.size := by have q := O0.2.1; rw [O0.1] at q; exact q
 have K0 : Keep h0 h0 [] := Keep.refl _ _
 show Go_ s₁ (mkF mm_ 0 #[vi c] [])
 refine sp_ (fun t_ k_ => XS.iloadN X0.here hx rfl (B_ dk39) rfl  (XS.bipush X0.here hx rfl (B_ dk40) k_)) ?_
 show Go_ s₁ (mkF mm_ 3 #[vi c] [(.int 48), (.int c)])
 by_cases hc3_1 : c < (48 : Int32)
 · skip
   refine sp_ (fun t_ k_ => XS.icmpYes X0.here hx rfl (pc0 := 3) (pc' := 16) rfl (B_ dk41) rfl (tlt hc3_1).1 (by decide) (by decide) k_) ?_
   show Go_ s₁ (mkF mm_ 16 #[vi c] [])
   refine sp_ (fun t_ k_ => XS.iconst X0.here hx rfl (B_ dk42) k_) ?_
   show Go_ s₁ (mkF mm_ 17 #[vi c] [(.int 0)])
   obtain ⟨fs, hr, hrun, hended, hW, hsame⟩ := X0.leave (v := some (.int 0)) (rN Bd.returns)
   refine ⟨_, _, ?_, hrun, hended, _, _, rfl, ?_, ⟨_, rfl⟩, hW, hsame.mono (by decide) (by decide)⟩
   · exact retN X0 hx (t := .boolean) Bd.returns (by simp) (B_ dk43) hr
   · show QrmDg Z c h0 n0 (some (.int 0)) s₁.heap _
     rw [e0]
     exact ⟨(0 : Int32), rfl, rfl, rfl, (Or.inr ⟨rfl, (fun q_ => q_.1 hc3_1)⟩)⟩
 · skip
   refine sp_ (fun t_ k_ => XS.icmpNo X0.here hx rfl (B_ dk41) rfl (flt hc3_1).1 k_) ?_
   show Go_ s₁ (mkF mm_ 6 #[vi c] [])
   refine sp_ (fun t_ k_ => XS.iloadN X0.here hx rfl (B_ dk44) rfl  (XS.bipush X0.here hx rfl (B_ dk45) k_)) ?_
   show Go_ s₁ (mkF mm_ 9 #[vi c] [(.int 57), (.int c)])
   by_cases hc9_2 : (57 : Int32) < c
   · skip
     refine sp_ (fun t_ k_ => XS.icmpYes X0.here hx rfl (pc0 := 9) (pc' := 16) rfl (B_ dk46) rfl (tlt hc9_2).2.2.1 (by decide) (by decide) k_) ?_
     show Go_ s₁ (mkF mm_ 16 #[vi c] [])
     refine sp_ (fun t_ k_ => XS.iconst X0.here hx rfl (B_ dk42) k_) ?_
     show Go_ s₁ (mkF mm_ 17 #[vi c] [(.int 0)])
     obtain ⟨fs, hr, hrun, hended, hW, hsame⟩ := X0.leave (v := some (.int 0)) (rN Bd.returns)
     refine ⟨_, _, ?_, hrun, hended, _, _, rfl, ?_, ⟨_, rfl⟩, hW, hsame.mono (by decide) (by decide)⟩
     · exact retN X0 hx (t := .boolean) Bd.returns (by simp) (B_ dk43) hr
     · show QrmDg Z c h0 n0 (some (.int 0)) s₁.heap _
       rw [e0]
       exact ⟨(0 : Int32), rfl, rfl, rfl, (Or.inr ⟨rfl, (fun q_ => q_.2 hc9_2)⟩)⟩
   · skip
     refine sp_ (fun t_ k_ => XS.icmpNo X0.here hx rfl (B_ dk46) rfl (flt hc9_2).2.2.1 k_) ?_
     show Go_ s₁ (mkF mm_ 12 #[vi c] [])
     refine sp_ (fun t_ k_ => XS.iconst X0.here hx rfl (B_ dk47) (XS.goto X0.here hx rfl (pc0 := 13) (pc' := 17) rfl (B_ dk48) (by decide) (by decide) k_)) ?_
     show Go_ s₁ (mkF mm_ 17 #[vi c] [(.int 1)])
     obtain ⟨fs, hr, hrun, hended, hW, hsame⟩ := X0.leave (v := some (.int 1)) (rN Bd.returns)
     refine ⟨_, _, ?_, hrun, hended, _, _, rfl, ?_, ⟨_, rfl⟩, hW, hsame.mono (by decide) (by decide)⟩
     · exact retN X0 hx (t := .boolean) Bd.returns (by simp) (B_ dk43) hr
     · show QrmDg Z c h0 n0 (some (.int 1)) s₁.heap _
       rw [e0]
       exact ⟨(1 : Int32), rfl, rfl, rfl, (Or.inl ⟨rfl, ⟨hc3_1, hc9_2⟩⟩)⟩
theorem dk49 : decode J4 0 = .ok (.aload_n 0, 1) := by decide +kernel
theorem dk50 : decode J4 1 = .ok (.arraylength, 1) := by decide +kernel
theorem dk51 : decode J4 2 = .ok (.iconst 1, 1) := by decide +kernel
theorem dk52 : decode J4 3 = .ok (.ishr, 1) := by decide +kernel
theorem dk53 : decode J4 4 = .ok (.ireturn, 1) := by decide +kernel
theorem pn_java_lang_StringUTF16 : plainName "java/lang/StringUTF16" = true := by first | (simp [plainName, overriddenIn]; done) | decide +kernel
theorem ef_rmUl (mm_ : MethodId) (t : Addr) : entryFrame mm_ #[(.ref t)] 1 = (mkF mm_ 0 #[vr t] []) := by first | (simp [entryFrame, mkF, argsToLocals, Value.category]; done) | rfl
def QrmUl (Z : State) (t : Addr) (k : ClassId) (z : Int32) (vs : List Value) (h0 : Heap) (n0 : Nat) (vv_ : Option Value) (hh_ : Heap) (LL_ : List Loc) : Prop := (vv_ = some (.int (z >>> ((1 : Int32) &&& 31)))) ∧ (LL_ = []) ∧ (hh_ = h0)
theorem rmUl (l : Launch) (Z : State) (a0 : Array Value) (hw : own_Hw a0 Z) (ws : List Jvm.Cond) (t : Addr) (k : ClassId) (z : Int32) (vs : List Value) (h0 : Heap) (n0 : Nat) (O0 : Old Z n0 h0) (pr0 : Arv Z h0 t k .byte z vs (.int 0)) :
 own_MF l Z (⟨sc1, "length", "([B)I"⟩ : MethodName) J4 1 (some .int) ws (rm_ 0 0 0 0) #[(.ref t)] h0 (QrmUl Z t k z vs h0 n0) := by
 refine own_met (plainFor_of_name pn_java_lang_StringUTF16) (fun m_ => ef_rmUl m_ t) fun pp_ ee_ ss_ mm_ bb_ me_ cc_ s₁ Bd hx hby hml hown hZ hh X0 e0 => ?_
 have B_ {q_ : Nat} {r_ : _} (h_ : decode _ q_ = r_) := hb hby h_
 have hown : ss_.vm.findClass sc1 = some mm_.cls := hown
 have N0 := Fr.nil n0
 have Z0 : n0 ≤ h0.size := by have q := O0.2.1; rw [O0.1] at q; exact q
 have K0 : Keep h0 h0 [] := Keep.refl _ _
 show Go_ s₁ (mkF mm_ 0 #[vr t] [])
 refine sp_ (fun t_ k_ => XS.aloadN X0.here hx rfl (B_ dk49) rfl rfl k_) ?_
 obtain ⟨cl1, Ar1, -, S1, M1, -, -⟩ := id pr0
 refine sp_ (fun t_ k_ => X0.arraylength hx (by rw [e0]; exact Ar1.1) (State.isArrayOf_alike hZ.alike Ar1.2.1) (g := (mkF mm_ 1 #[vr t] [(.ref t)])) rfl rfl (B_ dk50) t_ (by rw [len_of S1 M1]; exact k_)) ?_
 show Go_ s₁ (mkF mm_ 2 #[vr t] [(.int z)])
 refine sp_ (fun t_ k_ => XS.iconst X0.here hx rfl (B_ dk51) (XS.ishr X0.here hx rfl (B_ dk52) rfl k_)) ?_
 show Go_ s₁ (mkF mm_ 4 #[vr t] [(.int (z >>> ((1 : Int32) &&& 31)))])
 obtain ⟨fs, hr, hrun, hended, hW, hsame⟩ := X0.leave (v := some (.int (z >>> ((1 : Int32) &&& 31)))) (rN Bd.returns)
 refine ⟨_, _, ?_, hrun, hended, _, _, rfl, ?_, ⟨_, rfl⟩, hW, hsame.mono (by decide) (by decide)⟩
 · exact retI X0 hx Bd.returns (B_ dk53) hr
 · show QrmUl Z t k z vs h0 n0 (some (.int (z >>> ((1 : Int32) &&& 31)))) s₁.heap _
   rw [e0]
   exact ⟨rfl, rfl, rfl⟩
theorem dk54 : decode J5 0 = .ok (.iload_n 0, 1) := by decide +kernel
theorem dk55 : decode J5 1 = .ok (.ifCond .ge 11, 3) := by decide +kernel
theorem dk56 : decode J5 12 = .ok (.iload_n 0, 1) := by decide +kernel
theorem dk57 : decode J5 13 = .ok (.ldc 20, 2) := by decide +kernel
theorem dk58 : decode J5 15 = .ok (.if_icmp .lt 40, 3) := by decide +kernel
theorem dk59 : decode J5 55 = .ok (.iload_n 0, 1) := by decide +kernel
theorem dk60 : decode J5 56 = .ok (.iconst 1, 1) := by decide +kernel
theorem dk61 : decode J5 57 = .ok (.ishl, 1) := by decide +kernel
theorem dk62 : decode J5 58 = .ok (.ireturn, 1) := by decide +kernel
theorem ef_rmNl1 (mm_ : MethodId)  : entryFrame mm_ #[(.int 1)] 1 = (mkF mm_ 0 #[vi 1] []) := by first | (simp [entryFrame, mkF, argsToLocals, Value.category]; done) | rfl
def QrmNl1 (Z : State)  (h0 : Heap) (n0 : Nat) (vv_ : Option Value) (hh_ : Heap) (LL_ : List Loc) : Prop := (vv_ = some (.int 2)) ∧ (LL_ = []) ∧ (hh_ = h0)
theorem rmNl1 (l : Launch) (Z : State) (a0 : Array Value) (hw : own_Hw a0 Z) (ws : List Jvm.Cond)  (h0 : Heap) (n0 : Nat) (O0 : Old Z n0 h0) :
 own_MF l Z ym5 J5 1 (some .int) ws (rm_ 0 0 0 0) #[(.int 1)] h0 (QrmNl1 Z  h0 n0) := by
 refine own_met (plainFor_of_name pn_java_lang_StringUTF16) (fun m_ => ef_rmNl1 m_ ) fun pp_ ee_ ss_ mm_ bb_ me_ cc_ s₁ Bd hx hby hml hown hZ hh X0 e0 => ?_
 have B_ {q_ : Nat} {r_ : _} (h_ : decode _ q_ = r_) := hb hby h_
 have hown : ss_.vm.findClass sc1 = some mm_.cls := hown
 have N0 := Fr.nil n0
 have Z0 : n0 ≤ h0.size := by have q := O0.2.1; rw [O0.1] at q; exact q
 have K0 : Keep h0 h0 [] := Keep.refl _ _
 show Go_ s₁ (mkF mm_ 0 #[vi 1] [])
 refine sp_ (fun t_ k_ => XS.iloadN X0.here hx rfl (B_ dk54) rfl  k_) ?_
 show Go_ s₁ (mkF mm_ 1 #[vi 1] [(.int 1)])
 refine sp_ (fun t_ k_ => XS.ifYes X0.here hx rfl (pc0 := 1) (pc' := 12) rfl (B_ dk55) rfl ((if0 _ _).trans (flt (by decide : ¬ ((1 : Int32) < (0 : Int32)))).2.1) (by decide) (by decide) k_) ?_
 show Go_ s₁ (mkF mm_ 12 #[vi 1] [])
 refine sp_ (fun t_ k_ => XS.iloadN X0.here hx rfl (B_ dk56) rfl  k_) ?_
 show Go_ s₁ (mkF mm_ 13 #[vi 1] [(.int 1)])
 refine sp_ (fun t_ k_ => X0.ldcInt hx hown (mvT hZ (w_ hw 93 rfl)) (g := (mkF mm_ 13 #[vi 1] [(.int 1)])) rfl (B_ dk57) t_ k_) ?_
 show Go_ s₁ (mkF mm_ 15 #[vi 1] [(.int 1073741823), (.int 1)])
 refine sp_ (fun t_ k_ => XS.icmpYes X0.here hx rfl (pc0 := 15) (pc' := 55) rfl (B_ dk58) rfl (tlt (by decide : (1 : Int32) < (1073741823 : Int32))).1 (by decide) (by decide) k_) ?_
 show Go_ s₁ (mkF mm_ 55 #[vi 1] [])
 refine sp_ (fun t_ k_ => XS.iloadN X0.here hx rfl (B_ dk59) rfl  (XS.iconst X0.here hx rfl (B_ dk60) (XS.ishl X0.here hx rfl (B_ dk61) rfl k_))) ?_
 show Go_ s₁ (mkF mm_ 58 #[vi 1] [(.int 2)])
 obtain ⟨fs, hr, hrun, hended, hW, hsame⟩ := X0.leave (v := some (.int 2)) (rN Bd.returns)
 refine ⟨_, _, ?_, hrun, hended, _, _, rfl, ?_, ⟨_, rfl⟩, hW, hsame.mono (by decide) (by decide)⟩
 · exact retI X0 hx Bd.returns (B_ dk62) hr
 · show QrmNl1 Z  h0 n0 (some (.int 2)) s₁.heap _
   rw [e0]
   exact ⟨rfl, rfl, rfl⟩
theorem dk63 : decode J6 0 = .ok (.iload_n 0, 1) := by decide +kernel
theorem dk64 : decode J6 1 = .ok (.invokestatic 11, 3) := by decide +kernel
theorem pd_1 : parseMethodDescriptor "(I)I" = some ⟨[.int], some .int⟩ := by decide +kernel
theorem dk65 : decode J6 4 = .ok (.newarray .byte, 2) := by decide +kernel
theorem dk66 : decode J6 6 = .ok (.areturn, 1) := by decide +kernel
theorem ef_rmNb1 (mm_ : MethodId)  : entryFrame mm_ #[(.int 1)] 1 = (mkF mm_ 0 #[vi 1] []) := by first | (simp [entryFrame, mkF, argsToLocals, Value.category]; done) | rfl
def QrmNb1 (Z : State)  (h0 : Heap) (n0 : Nat) (vv_ : Option Value) (hh_ : Heap) (LL_ : List Loc) : Prop := ∃ (r : Addr), ∃ (k : ClassId), (vv_ = some (.ref r)) ∧ (Fr n0 LL_) ∧ (Keep h0 hh_ []) ∧ (h0.size ≤ r) ∧ (Arv Z hh_ r k .byte (2 : Int32) [(.int 0), (.int 0)] (.int 0))
theorem rmNb1 (l : Launch) (Z : State) (a0 : Array Value) (hw : own_Hw a0 Z) (ws : List Jvm.Cond)  (h0 : Heap) (n0 : Nat) (O0 : Old Z n0 h0) :
 own_MF l Z ym6 J6 1 (some (.array .byte)) ws (rm_ 1 1 2 12) #[(.int 1)] h0 (QrmNb1 Z  h0 n0) := by
 refine own_met (plainFor_of_name pn_java_lang_StringUTF16) (fun m_ => ef_rmNb1 m_ ) fun pp_ ee_ ss_ mm_ bb_ me_ cc_ s₁ Bd hx hby hml hown hZ hh X0 e0 => ?_
 have B_ {q_ : Nat} {r_ : _} (h_ : decode _ q_ = r_) := hb hby h_
 have hown : ss_.vm.findClass sc1 = some mm_.cls := hown
 have N0 := Fr.nil n0
 have Z0 : n0 ≤ h0.size := by have q := O0.2.1; rw [O0.1] at q; exact q
 have K0 : Keep h0 h0 [] := Keep.refl _ _
 show Go_ s₁ (mkF mm_ 0 #[vi 1] [])
 refine sp_ (fun t_ k_ => XS.iloadN X0.here hx rfl (B_ dk63) rfl  k_) ?_
 obtain ⟨_, T1, Lc1, X1, hQ1, st1⟩ := own_cS X0 hx hZ hown (w_ hw 90 rfl) (w_ hw 91 rfl) (w_ hw 41 rfl) (w_ hw 92 rfl) (by decide) (backOf (W := 0) (rmNl1 l Z a0 hw []  h0 n0 O0 ) hZ (w_ hw 92 rfl) (w_ hw 41 rfl) (by decide) (by decide)) (g := (mkF mm_ 1 #[vi 1] [(.int 1)])) rfl hml.symm (argsL := [(.int 1)]) (rest := []) (lenOf pd_1 rfl) rfl (Nat.le_of_eq rfl) (B_ dk64) rfl e0 (by decide) (by decide)
 obtain ⟨rfl, rfl, Eh1⟩ := hQ1
 have N1 := Fr.app N0 (Fr.nil n0)
 refine jp_ st1 ?_
 obtain ⟨T2, h2, k2, X2, e2, E2, A2, st2⟩ := newP X1 hx hZ (w_ hw 22 rfl) Eh1 (g := (mkF mm_ 4 #[vi 1] [(.int 2)])) rfl (B_ dk65) rfl (by decide) (cap := 2) (by decide) (by decide) (by decide) (by decide)
 obtain ⟨b2, q2⟩ : ∃ z, z = h0.size := ⟨_, rfl⟩
 rw [← q2] at A2 st2
 have lo_b2 : h0.size ≤ b2 := Nat.le_trans K0.1 (Nat.le_of_eq q2.symm)
 have g_b2 : n0 ≤ b2 := Nat.le_trans Z0 lo_b2
 refine sp_ st2 ?_
 have V2 : Arv Z h2 b2 k2 .byte (2 : Int32) [(.int 0), (.int 0)] (.int 0) := (Arv.new A2 (by decide)).pad (pad_rep [] (.int 0) 2)
 show Go_ T2 (mkF mm_ 6 #[vi 1] [(.ref b2)])
 have K3 : Keep h0 h2 [] := (K0.ext E2)
 obtain ⟨fs, hr, hrun, hended, hW, hsame⟩ := X2.leave (v := some (.ref b2)) (rN Bd.returns)
 refine ⟨_, _, ?_, hrun, hended, _, _, rfl, ?_, ⟨_, rfl⟩, hW, hsame.mono (by decide) (by decide)⟩
 · jvm_step X2.here [X2.here.top, hx, (B_ dk66), X2.method', Bd.returns, Value.isRef, FieldType.isReference]
   first | (intro acts; rw [hr _ acts rfl rfl rfl]) | rw [hr _ _ rfl rfl rfl]
   exact Steps.refl _
 · show QrmNb1 Z  h0 n0 (some (.ref b2)) T2.heap _
   rw [e2]
   exact ⟨b2, k2, rfl, N1, K3, lo_b2, V2⟩
theorem ef_rmNl2 (mm_ : MethodId)  : entryFrame mm_ #[(.int 2)] 1 = (mkF mm_ 0 #[vi 2] []) := by first | (simp [entryFrame, mkF, argsToLocals, Value.category]; done) | rfl
def QrmNl2 (Z : State)  (h0 : Heap) (n0 : Nat) (vv_ : Option Value) (hh_ : Heap) (LL_ : List Loc) : Prop := (vv_ = some (.int 4)) ∧ (LL_ = []) ∧ (hh_ = h0)
theorem rmNl2 (l : Launch) (Z : State) (a0 : Array Value) (hw : own_Hw a0 Z) (ws : List Jvm.Cond)  (h0 : Heap) (n0 : Nat) (O0 : Old Z n0 h0) :
 own_MF l Z ym5 J5 1 (some .int) ws (rm_ 0 0 0 0) #[(.int 2)] h0 (QrmNl2 Z  h0 n0) := by
 refine own_met (plainFor_of_name pn_java_lang_StringUTF16) (fun m_ => ef_rmNl2 m_ ) fun pp_ ee_ ss_ mm_ bb_ me_ cc_ s₁ Bd hx hby hml hown hZ hh X0 e0 => ?_
 have B_ {q_ : Nat} {r_ : _} (h_ : decode _ q_ = r_) := hb hby h_
 have hown : ss_.vm.findClass sc1 = some mm_.cls := hown
 have N0 := Fr.nil n0
 have Z0 : n0 ≤ h0.size := by have q := O0.2.1; rw [O0.1] at q; exact q
 have K0 : Keep h0 h0 [] := Keep.refl _ _
 show Go_ s₁ (mkF mm_ 0 #[vi 2] [])
 refine sp_ (fun t_ k_ => XS.iloadN X0.here hx rfl (B_ dk54) rfl  k_) ?_
 show Go_ s₁ (mkF mm_ 1 #[vi 2] [(.int 2)])
 refine sp_ (fun t_ k_ => XS.ifYes X0.here hx rfl (pc0 := 1) (pc' := 12) rfl (B_ dk55) rfl ((if0 _ _).trans (flt (by decide : ¬ ((2 : Int32) < (0 : Int32)))).2.1) (by decide) (by decide) k_) ?_
 show Go_ s₁ (mkF mm_ 12 #[vi 2] [])
 refine sp_ (fun t_ k_ => XS.iloadN X0.here hx rfl (B_ dk56) rfl  k_) ?_
 show Go_ s₁ (mkF mm_ 13 #[vi 2] [(.int 2)])
 refine sp_ (fun t_ k_ => X0.ldcInt hx hown (mvT hZ (w_ hw 93 rfl)) (g := (mkF mm_ 13 #[vi 2] [(.int 2)])) rfl (B_ dk57) t_ k_) ?_
 show Go_ s₁ (mkF mm_ 15 #[vi 2] [(.int 1073741823), (.int 2)])
 refine sp_ (fun t_ k_ => XS.icmpYes X0.here hx rfl (pc0 := 15) (pc' := 55) rfl (B_ dk58) rfl (tlt (by decide : (2 : Int32) < (1073741823 : Int32))).1 (by decide) (by decide) k_) ?_
 show Go_ s₁ (mkF mm_ 55 #[vi 2] [])
 refine sp_ (fun t_ k_ => XS.iloadN X0.here hx rfl (B_ dk59) rfl  (XS.iconst X0.here hx rfl (B_ dk60) (XS.ishl X0.here hx rfl (B_ dk61) rfl k_))) ?_
 show Go_ s₁ (mkF mm_ 58 #[vi 2] [(.int 4)])
 obtain ⟨fs, hr, hrun, hended, hW, hsame⟩ := X0.leave (v := some (.int 4)) (rN Bd.returns)
 refine ⟨_, _, ?_, hrun, hended, _, _, rfl, ?_, ⟨_, rfl⟩, hW, hsame.mono (by decide) (by decide)⟩
 · exact retI X0 hx Bd.returns (B_ dk62) hr
 · show QrmNl2 Z  h0 n0 (some (.int 4)) s₁.heap _
   rw [e0]
   exact ⟨rfl, rfl, rfl⟩
theorem ef_rmNb2 (mm_ : MethodId)  : entryFrame mm_ #[(.int 2)] 1 = (mkF mm_ 0 #[vi 2] []) := by first | (simp [entryFrame, mkF, argsToLocals, Value.category]; done) | rfl
def QrmNb2 (Z : State)  (h0 : Heap) (n0 : Nat) (vv_ : Option Value) (hh_ : Heap) (LL_ : List Loc) : Prop := ∃ (r : Addr), ∃ (k : ClassId), (vv_ = some (.ref r)) ∧ (Fr n0 LL_) ∧ (Keep h0 hh_ []) ∧ (h0.size ≤ r) ∧ (Arv Z hh_ r k .byte (4 : Int32) [(.int 0), (.int 0), (.int 0), (.int 0)] (.int 0))
theorem rmNb2 (l : Launch) (Z : State) (a0 : Array Value) (hw : own_Hw a0 Z) (ws : List Jvm.Cond)  (h0 : Heap) (n0 : Nat) (O0 : Old Z n0 h0) :
 own_MF l Z ym6 J6 1 (some (.array .byte)) ws (rm_ 1 1 4 12) #[(.int 2)] h0 (QrmNb2 Z  h0 n0) := by
 refine own_met (plainFor_of_name pn_java_lang_StringUTF16) (fun m_ => ef_rmNb2 m_ ) fun pp_ ee_ ss_ mm_ bb_ me_ cc_ s₁ Bd hx hby hml hown hZ hh X0 e0 => ?_
 have B_ {q_ : Nat} {r_ : _} (h_ : decode _ q_ = r_) := hb hby h_
 have hown : ss_.vm.findClass sc1 = some mm_.cls := hown
 have N0 := Fr.nil n0
 have Z0 : n0 ≤ h0.size := by have q := O0.2.1; rw [O0.1] at q; exact q
 have K0 : Keep h0 h0 [] := Keep.refl _ _
 show Go_ s₁ (mkF mm_ 0 #[vi 2] [])
 refine sp_ (fun t_ k_ => XS.iloadN X0.here hx rfl (B_ dk63) rfl  k_) ?_
 obtain ⟨_, T1, Lc1, X1, hQ1, st1⟩ := own_cS X0 hx hZ hown (w_ hw 90 rfl) (w_ hw 91 rfl) (w_ hw 41 rfl) (w_ hw 92 rfl) (by decide) (backOf (W := 0) (rmNl2 l Z a0 hw []  h0 n0 O0 ) hZ (w_ hw 92 rfl) (w_ hw 41 rfl) (by decide) (by decide)) (g := (mkF mm_ 1 #[vi 2] [(.int 2)])) rfl hml.symm (argsL := [(.int 2)]) (rest := []) (lenOf pd_1 rfl) rfl (Nat.le_of_eq rfl) (B_ dk64) rfl e0 (by decide) (by decide)
 obtain ⟨rfl, rfl, Eh1⟩ := hQ1
 have N1 := Fr.app N0 (Fr.nil n0)
 refine jp_ st1 ?_
 obtain ⟨T2, h2, k2, X2, e2, E2, A2, st2⟩ := newP X1 hx hZ (w_ hw 22 rfl) Eh1 (g := (mkF mm_ 4 #[vi 2] [(.int 4)])) rfl (B_ dk65) rfl (by decide) (cap := 4) (by decide) (by decide) (by decide) (by decide)
 obtain ⟨b2, q2⟩ : ∃ z, z = h0.size := ⟨_, rfl⟩
 rw [← q2] at A2 st2
 have lo_b2 : h0.size ≤ b2 := Nat.le_trans K0.1 (Nat.le_of_eq q2.symm)
 have g_b2 : n0 ≤ b2 := Nat.le_trans Z0 lo_b2
 refine sp_ st2 ?_
 have V2 : Arv Z h2 b2 k2 .byte (4 : Int32) [(.int 0), (.int 0), (.int 0), (.int 0)] (.int 0) := (Arv.new A2 (by decide)).pad (pad_rep [] (.int 0) 4)
 show Go_ T2 (mkF mm_ 6 #[vi 2] [(.ref b2)])
 have K3 : Keep h0 h2 [] := (K0.ext E2)
 obtain ⟨fs, hr, hrun, hended, hW, hsame⟩ := X2.leave (v := some (.ref b2)) (rN Bd.returns)
 refine ⟨_, _, ?_, hrun, hended, _, _, rfl, ?_, ⟨_, rfl⟩, hW, hsame.mono (by decide) (by decide)⟩
 · jvm_step X2.here [X2.here.top, hx, (B_ dk66), X2.method', Bd.returns, Value.isRef, FieldType.isReference]
   first | (intro acts; rw [hr _ acts rfl rfl rfl]) | rw [hr _ _ rfl rfl rfl]
   exact Steps.refl _
 · show QrmNb2 Z  h0 n0 (some (.ref b2)) T2.heap _
   rw [e2]
   exact ⟨b2, k2, rfl, N1, K3, lo_b2, V2⟩
theorem ef_rmNl3 (mm_ : MethodId)  : entryFrame mm_ #[(.int 3)] 1 = (mkF mm_ 0 #[vi 3] []) := by first | (simp [entryFrame, mkF, argsToLocals, Value.category]; done) | rfl
def QrmNl3 (Z : State)  (h0 : Heap) (n0 : Nat) (vv_ : Option Value) (hh_ : Heap) (LL_ : List Loc) : Prop := (vv_ = some (.int 6)) ∧ (LL_ = []) ∧ (hh_ = h0)
theorem rmNl3 (l : Launch) (Z : State) (a0 : Array Value) (hw : own_Hw a0 Z) (ws : List Jvm.Cond)  (h0 : Heap) (n0 : Nat) (O0 : Old Z n0 h0) :
 own_MF l Z ym5 J5 1 (some .int) ws (rm_ 0 0 0 0) #[(.int 3)] h0 (QrmNl3 Z  h0 n0) := by
 refine own_met (plainFor_of_name pn_java_lang_StringUTF16) (fun m_ => ef_rmNl3 m_ ) fun pp_ ee_ ss_ mm_ bb_ me_ cc_ s₁ Bd hx hby hml hown hZ hh X0 e0 => ?_
 have B_ {q_ : Nat} {r_ : _} (h_ : decode _ q_ = r_) := hb hby h_
 have hown : ss_.vm.findClass sc1 = some mm_.cls := hown
 have N0 := Fr.nil n0
 have Z0 : n0 ≤ h0.size := by have q := O0.2.1; rw [O0.1] at q; exact q
 have K0 : Keep h0 h0 [] := Keep.refl _ _
 show Go_ s₁ (mkF mm_ 0 #[vi 3] [])
 refine sp_ (fun t_ k_ => XS.iloadN X0.here hx rfl (B_ dk54) rfl  k_) ?_
 show Go_ s₁ (mkF mm_ 1 #[vi 3] [(.int 3)])
 refine sp_ (fun t_ k_ => XS.ifYes X0.here hx rfl (pc0 := 1) (pc' := 12) rfl (B_ dk55) rfl ((if0 _ _).trans (flt (by decide : ¬ ((3 : Int32) < (0 : Int32)))).2.1) (by decide) (by decide) k_) ?_
 show Go_ s₁ (mkF mm_ 12 #[vi 3] [])
 refine sp_ (fun t_ k_ => XS.iloadN X0.here hx rfl (B_ dk56) rfl  k_) ?_
 show Go_ s₁ (mkF mm_ 13 #[vi 3] [(.int 3)])
 refine sp_ (fun t_ k_ => X0.ldcInt hx hown (mvT hZ (w_ hw 93 rfl)) (g := (mkF mm_ 13 #[vi 3] [(.int 3)])) rfl (B_ dk57) t_ k_) ?_
 show Go_ s₁ (mkF mm_ 15 #[vi 3] [(.int 1073741823), (.int 3)])
 refine sp_ (fun t_ k_ => XS.icmpYes X0.here hx rfl (pc0 := 15) (pc' := 55) rfl (B_ dk58) rfl (tlt (by decide : (3 : Int32) < (1073741823 : Int32))).1 (by decide) (by decide) k_) ?_
 show Go_ s₁ (mkF mm_ 55 #[vi 3] [])
 refine sp_ (fun t_ k_ => XS.iloadN X0.here hx rfl (B_ dk59) rfl  (XS.iconst X0.here hx rfl (B_ dk60) (XS.ishl X0.here hx rfl (B_ dk61) rfl k_))) ?_
 show Go_ s₁ (mkF mm_ 58 #[vi 3] [(.int 6)])
 obtain ⟨fs, hr, hrun, hended, hW, hsame⟩ := X0.leave (v := some (.int 6)) (rN Bd.returns)
 refine ⟨_, _, ?_, hrun, hended, _, _, rfl, ?_, ⟨_, rfl⟩, hW, hsame.mono (by decide) (by decide)⟩
 · exact retI X0 hx Bd.returns (B_ dk62) hr
 · show QrmNl3 Z  h0 n0 (some (.int 6)) s₁.heap _
   rw [e0]
   exact ⟨rfl, rfl, rfl⟩
theorem ef_rmNb3 (mm_ : MethodId)  : entryFrame mm_ #[(.int 3)] 1 = (mkF mm_ 0 #[vi 3] []) := by first | (simp [entryFrame, mkF, argsToLocals, Value.category]; done) | rfl
def QrmNb3 (Z : State)  (h0 : Heap) (n0 : Nat) (vv_ : Option Value) (hh_ : Heap) (LL_ : List Loc) : Prop := ∃ (r : Addr), ∃ (k : ClassId), (vv_ = some (.ref r)) ∧ (Fr n0 LL_) ∧ (Keep h0 hh_ []) ∧ (h0.size ≤ r) ∧ (Arv Z hh_ r k .byte (6 : Int32) [(.int 0), (.int 0), (.int 0), (.int 0), (.int 0), (.int 0)] (.int 0))
theorem rmNb3 (l : Launch) (Z : State) (a0 : Array Value) (hw : own_Hw a0 Z) (ws : List Jvm.Cond)  (h0 : Heap) (n0 : Nat) (O0 : Old Z n0 h0) :
 own_MF l Z ym6 J6 1 (some (.array .byte)) ws (rm_ 1 1 6 12) #[(.int 3)] h0 (QrmNb3 Z  h0 n0) := by
 refine own_met (plainFor_of_name pn_java_lang_StringUTF16) (fun m_ => ef_rmNb3 m_ ) fun pp_ ee_ ss_ mm_ bb_ me_ cc_ s₁ Bd hx hby hml hown hZ hh X0 e0 => ?_
 have B_ {q_ : Nat} {r_ : _} (h_ : decode _ q_ = r_) := hb hby h_
 have hown : ss_.vm.findClass sc1 = some mm_.cls := hown
 have N0 := Fr.nil n0
 have Z0 : n0 ≤ h0.size := by have q := O0.2.1; rw [O0.1] at q; exact q
 have K0 : Keep h0 h0 [] := Keep.refl _ _
 show Go_ s₁ (mkF mm_ 0 #[vi 3] [])
 refine sp_ (fun t_ k_ => XS.iloadN X0.here hx rfl (B_ dk63) rfl  k_) ?_
 obtain ⟨_, T1, Lc1, X1, hQ1, st1⟩ := own_cS X0 hx hZ hown (w_ hw 90 rfl) (w_ hw 91 rfl) (w_ hw 41 rfl) (w_ hw 92 rfl) (by decide) (backOf (W := 0) (rmNl3 l Z a0 hw []  h0 n0 O0 ) hZ (w_ hw 92 rfl) (w_ hw 41 rfl) (by decide) (by decide)) (g := (mkF mm_ 1 #[vi 3] [(.int 3)])) rfl hml.symm (argsL := [(.int 3)]) (rest := []) (lenOf pd_1 rfl) rfl (Nat.le_of_eq rfl) (B_ dk64) rfl e0 (by decide) (by decide)
 obtain ⟨rfl, rfl, Eh1⟩ := hQ1
 have N1 := Fr.app N0 (Fr.nil n0)
 refine jp_ st1 ?_
 obtain ⟨T2, h2, k2, X2, e2, E2, A2, st2⟩ := newP X1 hx hZ (w_ hw 22 rfl) Eh1 (g := (mkF mm_ 4 #[vi 3] [(.int 6)])) rfl (B_ dk65) rfl (by decide) (cap := 6) (by decide) (by decide) (by decide) (by decide)
 obtain ⟨b2, q2⟩ : ∃ z, z = h0.size := ⟨_, rfl⟩
 rw [← q2] at A2 st2
 have lo_b2 : h0.size ≤ b2 := Nat.le_trans K0.1 (Nat.le_of_eq q2.symm)
 have g_b2 : n0 ≤ b2 := Nat.le_trans Z0 lo_b2
 refine sp_ st2 ?_
 have V2 : Arv Z h2 b2 k2 .byte (6 : Int32) [(.int 0), (.int 0), (.int 0), (.int 0), (.int 0), (.int 0)] (.int 0) := (Arv.new A2 (by decide)).pad (pad_rep [] (.int 0) 6)
 show Go_ T2 (mkF mm_ 6 #[vi 3] [(.ref b2)])
 have K3 : Keep h0 h2 [] := (K0.ext E2)
 obtain ⟨fs, hr, hrun, hended, hW, hsame⟩ := X2.leave (v := some (.ref b2)) (rN Bd.returns)
 refine ⟨_, _, ?_, hrun, hended, _, _, rfl, ?_, ⟨_, rfl⟩, hW, hsame.mono (by decide) (by decide)⟩
 · jvm_step X2.here [X2.here.top, hx, (B_ dk66), X2.method', Bd.returns, Value.isRef, FieldType.isReference]
   first | (intro acts; rw [hr _ acts rfl rfl rfl]) | rw [hr _ _ rfl rfl rfl]
   exact Steps.refl _
 · show QrmNb3 Z  h0 n0 (some (.ref b2)) T2.heap _
   rw [e2]
   exact ⟨b2, k2, rfl, N1, K3, lo_b2, V2⟩
theorem ef_rmNl4 (mm_ : MethodId)  : entryFrame mm_ #[(.int 4)] 1 = (mkF mm_ 0 #[vi 4] []) := by first | (simp [entryFrame, mkF, argsToLocals, Value.category]; done) | rfl
def QrmNl4 (Z : State)  (h0 : Heap) (n0 : Nat) (vv_ : Option Value) (hh_ : Heap) (LL_ : List Loc) : Prop := (vv_ = some (.int 8)) ∧ (LL_ = []) ∧ (hh_ = h0)
theorem rmNl4 (l : Launch) (Z : State) (a0 : Array Value) (hw : own_Hw a0 Z) (ws : List Jvm.Cond)  (h0 : Heap) (n0 : Nat) (O0 : Old Z n0 h0) :
 own_MF l Z ym5 J5 1 (some .int) ws (rm_ 0 0 0 0) #[(.int 4)] h0 (QrmNl4 Z  h0 n0) := by
 refine own_met (plainFor_of_name pn_java_lang_StringUTF16) (fun m_ => ef_rmNl4 m_ ) fun pp_ ee_ ss_ mm_ bb_ me_ cc_ s₁ Bd hx hby hml hown hZ hh X0 e0 => ?_
 have B_ {q_ : Nat} {r_ : _} (h_ : decode _ q_ = r_) := hb hby h_
 have hown : ss_.vm.findClass sc1 = some mm_.cls := hown
 have N0 := Fr.nil n0
 have Z0 : n0 ≤ h0.size := by have q := O0.2.1; rw [O0.1] at q; exact q
 have K0 : Keep h0 h0 [] := Keep.refl _ _
 show Go_ s₁ (mkF mm_ 0 #[vi 4] [])
 refine sp_ (fun t_ k_ => XS.iloadN X0.here hx rfl (B_ dk54) rfl  k_) ?_
 show Go_ s₁ (mkF mm_ 1 #[vi 4] [(.int 4)])
 refine sp_ (fun t_ k_ => XS.ifYes X0.here hx rfl (pc0 := 1) (pc' := 12) rfl (B_ dk55) rfl ((if0 _ _).trans (flt (by decide : ¬ ((4 : Int32) < (0 : Int32)))).2.1) (by decide) (by decide) k_) ?_
 show Go_ s₁ (mkF mm_ 12 #[vi 4] [])
 refine sp_ (fun t_ k_ => XS.iloadN X0.here hx rfl (B_ dk56) rfl  k_) ?_
 show Go_ s₁ (mkF mm_ 13 #[vi 4] [(.int 4)])
 refine sp_ (fun t_ k_ => X0.ldcInt hx hown (mvT hZ (w_ hw 93 rfl)) (g := (mkF mm_ 13 #[vi 4] [(.int 4)])) rfl (B_ dk57) t_ k_) ?_
 show Go_ s₁ (mkF mm_ 15 #[vi 4] [(.int 1073741823), (.int 4)])
 refine sp_ (fun t_ k_ => XS.icmpYes X0.here hx rfl (pc0 := 15) (pc' := 55) rfl (B_ dk58) rfl (tlt (by decide : (4 : Int32) < (1073741823 : Int32))).1 (by decide) (by decide) k_) ?_
 show Go_ s₁ (mkF mm_ 55 #[vi 4] [])
 refine sp_ (fun t_ k_ => XS.iloadN X0.here hx rfl (B_ dk59) rfl  (XS.iconst X0.here hx rfl (B_ dk60) (XS.ishl X0.here hx rfl (B_ dk61) rfl k_))) ?_
 show Go_ s₁ (mkF mm_ 58 #[vi 4] [(.int 8)])
 obtain ⟨fs, hr, hrun, hended, hW, hsame⟩ := X0.leave (v := some (.int 8)) (rN Bd.returns)
 refine ⟨_, _, ?_, hrun, hended, _, _, rfl, ?_, ⟨_, rfl⟩, hW, hsame.mono (by decide) (by decide)⟩
 · exact retI X0 hx Bd.returns (B_ dk62) hr
 · show QrmNl4 Z  h0 n0 (some (.int 8)) s₁.heap _
   rw [e0]
   exact ⟨rfl, rfl, rfl⟩
theorem ef_rmNb4 (mm_ : MethodId)  : entryFrame mm_ #[(.int 4)] 1 = (mkF mm_ 0 #[vi 4] []) := by first | (simp [entryFrame, mkF, argsToLocals, Value.category]; done) | rfl
def QrmNb4 (Z : State)  (h0 : Heap) (n0 : Nat) (vv_ : Option Value) (hh_ : Heap) (LL_ : List Loc) : Prop := ∃ (r : Addr), ∃ (k : ClassId), (vv_ = some (.ref r)) ∧ (Fr n0 LL_) ∧ (Keep h0 hh_ []) ∧ (h0.size ≤ r) ∧ (Arv Z hh_ r k .byte (8 : Int32) [(.int 0), (.int 0), (.int 0), (.int 0), (.int 0), (.int 0), (.int 0), (.int 0)] (.int 0))
theorem rmNb4 (l : Launch) (Z : State) (a0 : Array Value) (hw : own_Hw a0 Z) (ws : List Jvm.Cond)  (h0 : Heap) (n0 : Nat) (O0 : Old Z n0 h0) :
 own_MF l Z ym6 J6 1 (some (.array .byte)) ws (rm_ 1 1 8 12) #[(.int 4)] h0 (QrmNb4 Z  h0 n0) := by
 refine own_met (plainFor_of_name pn_java_lang_StringUTF16) (fun m_ => ef_rmNb4 m_ ) fun pp_ ee_ ss_ mm_ bb_ me_ cc_ s₁ Bd hx hby hml hown hZ hh X0 e0 => ?_
 have B_ {q_ : Nat} {r_ : _} (h_ : decode _ q_ = r_) := hb hby h_
 have hown : ss_.vm.findClass sc1 = some mm_.cls := hown
 have N0 := Fr.nil n0
 have Z0 : n0 ≤ h0.size := by have q := O0.2.1; rw [O0.1] at q; exact q
 have K0 : Keep h0 h0 [] := Keep.refl _ _
 show Go_ s₁ (mkF mm_ 0 #[vi 4] [])
 refine sp_ (fun t_ k_ => XS.iloadN X0.here hx rfl (B_ dk63) rfl  k_) ?_
 obtain ⟨_, T1, Lc1, X1, hQ1, st1⟩ := own_cS X0 hx hZ hown (w_ hw 90 rfl) (w_ hw 91 rfl) (w_ hw 41 rfl) (w_ hw 92 rfl) (by decide) (backOf (W := 0) (rmNl4 l Z a0 hw []  h0 n0 O0 ) hZ (w_ hw 92 rfl) (w_ hw 41 rfl) (by decide) (by decide)) (g := (mkF mm_ 1 #[vi 4] [(.int 4)])) rfl hml.symm (argsL := [(.int 4)]) (rest := []) (lenOf pd_1 rfl) rfl (Nat.le_of_eq rfl) (B_ dk64) rfl e0 (by decide) (by decide)
 obtain ⟨rfl, rfl, Eh1⟩ := hQ1
 have N1 := Fr.app N0 (Fr.nil n0)
 refine jp_ st1 ?_
 obtain ⟨T2, h2, k2, X2, e2, E2, A2, st2⟩ := newP X1 hx hZ (w_ hw 22 rfl) Eh1 (g := (mkF mm_ 4 #[vi 4] [(.int 8)])) rfl (B_ dk65) rfl (by decide) (cap := 8) (by decide) (by decide) (by decide) (by decide)
 obtain ⟨b2, q2⟩ : ∃ z, z = h0.size := ⟨_, rfl⟩
 rw [← q2] at A2 st2
 have lo_b2 : h0.size ≤ b2 := Nat.le_trans K0.1 (Nat.le_of_eq q2.symm)
 have g_b2 : n0 ≤ b2 := Nat.le_trans Z0 lo_b2
 refine sp_ st2 ?_
 have V2 : Arv Z h2 b2 k2 .byte (8 : Int32) [(.int 0), (.int 0), (.int 0), (.int 0), (.int 0), (.int 0), (.int 0), (.int 0)] (.int 0) := (Arv.new A2 (by decide)).pad (pad_rep [] (.int 0) 8)
 show Go_ T2 (mkF mm_ 6 #[vi 4] [(.ref b2)])
 have K3 : Keep h0 h2 [] := (K0.ext E2)
 obtain ⟨fs, hr, hrun, hended, hW, hsame⟩ := X2.leave (v := some (.ref b2)) (rN Bd.returns)
 refine ⟨_, _, ?_, hrun, hended, _, _, rfl, ?_, ⟨_, rfl⟩, hW, hsame.mono (by decide) (by decide)⟩
 · jvm_step X2.here [X2.here.top, hx, (B_ dk66), X2.method', Bd.returns, Value.isRef, FieldType.isReference]
   first | (intro acts; rw [hr _ acts rfl rfl rfl]) | rw [hr _ _ rfl rfl rfl]
   exact Steps.refl _
 · show QrmNb4 Z  h0 n0 (some (.ref b2)) T2.heap _
   rw [e2]
   exact ⟨b2, k2, rfl, N1, K3, lo_b2, V2⟩
theorem dk67 : decode J7 0 = .ok (.getstatic 44, 3) := by decide +kernel
theorem dk68 : decode J7 3 = .ok (.ifCond .ne 25, 3) := by decide +kernel
theorem dk69 : decode J7 28 = .ok (.iload_n 1, 1) := by decide +kernel
theorem dk70 : decode J7 29 = .ok (.iconst 1, 1) := by decide +kernel
theorem dk71 : decode J7 30 = .ok (.ishl, 1) := by decide +kernel
theorem dk72 : decode J7 31 = .ok (.istore_n 1, 1) := by decide +kernel
theorem dk73 : decode J7 32 = .ok (.aload_n 0, 1) := by decide +kernel
theorem dk74 : decode J7 33 = .ok (.iload_n 1, 1) := by decide +kernel
theorem dk75 : decode J7 34 = .ok (.iinc 1 1, 3) := by decide +kernel
theorem dk76 : decode J7 37 = .ok (.iload_n 2, 1) := by decide +kernel
theorem dk77 : decode J7 38 = .ok (.getstatic 59, 3) := by decide +kernel
theorem dk78 : decode J7 41 = .ok (.ishr, 1) := by decide +kernel
theorem dk79 : decode J7 42 = .ok (.i2b, 1) := by decide +kernel
theorem dk80 : decode J7 43 = .ok (.bastore, 1) := by decide +kernel
theorem dk81 : decode J7 44 = .ok (.aload_n 0, 1) := by decide +kernel
theorem dk82 : decode J7 45 = .ok (.iload_n 1, 1) := by decide +kernel
theorem dk83 : decode J7 46 = .ok (.iload_n 2, 1) := by decide +kernel
theorem dk84 : decode J7 47 = .ok (.getstatic 63, 3) := by decide +kernel
theorem dk85 : decode J7 50 = .ok (.ishr, 1) := by decide +kernel
theorem dk86 : decode J7 51 = .ok (.i2b, 1) := by decide +kernel
theorem dk87 : decode J7 52 = .ok (.bastore, 1) := by decide +kernel
theorem dk88 : decode J7 53 = .ok (.return_, 1) := by decide +kernel
theorem ef_rmPt1_0 (mm_ : MethodId) (t : Addr) (c0 : Int32) : entryFrame mm_ #[(.ref t), (.int 0), (.int c0)] 3 = (mkF mm_ 0 #[vr t, vi 0, vi c0] []) := by first | (simp [entryFrame, mkF, argsToLocals, Value.category]; done) | rfl
def QrmPt1_0 (Z : State) (t : Addr) (c0 : Int32) (k : ClassId) (h0 : Heap) (n0 : Nat) (vv_ : Option Value) (hh_ : Heap) (LL_ : List Loc) : Prop := (vv_ = none) ∧ (Fr n0 LL_) ∧ (Keep h0 hh_ [t]) ∧ (Arv Z hh_ t k .byte (2 : Int32) [(lb c0), (hb_ c0)] (.int 0))
theorem rmPt1_0 (l : Launch) (Z : State) (a0 : Array Value) (hw : own_Hw a0 Z) (ws : List Jvm.Cond) (t : Addr) (c0 : Int32) (k : ClassId) {zc : Int32} {fm : Value} (h0 : Heap) (n0 : Nat) (O0 : Old Z n0 h0) (G_ : own_St Z zc fm) (pr0 : Arv Z h0 t k .byte (2 : Int32) [(.int 0), (.int 0)] (.int 0)) (g_t : n0 ≤ t) :
 own_MF l Z ym0 J7 3 none ws (rm_ 0 0 0 0) #[(.ref t), (.int 0), (.int c0)] h0 (QrmPt1_0 Z t c0 k h0 n0) := by
 refine own_met (plainFor_of_name pn_java_lang_StringUTF16) (fun m_ => ef_rmPt1_0 m_ t c0) fun pp_ ee_ ss_ mm_ bb_ me_ cc_ s₁ Bd hx hby hml hown hZ hh X0 e0 => ?_
 have B_ {q_ : Nat} {r_ : _} (h_ : decode _ q_ = r_) := hb hby h_
 have hown : ss_.vm.findClass sc1 = some mm_.cls := hown
 have N0 := Fr.nil n0
 have Z0 : n0 ≤ h0.size := by have q := O0.2.1; rw [O0.1] at q; exact q
 have K0 : Keep h0 h0 [t] := Keep.refl _ _
 obtain ⟨G_cs, G_cs0, G_cw, G_h_java_lang_String_7, G_fm, G_fr, G_hb, G_lb, G_ad⟩ := id G_
 obtain ⟨T1, X1, e1, st1⟩ := getS2 X0 hx hZ hown (host := "") (Or.inl (w_ hw 97 rfl)) Via.refl e0 (G_ad.ext O0.2) (g := (mkF mm_ 0 #[vr t, vi 0, vi c0] [])) rfl (B_ dk67)
 refine sp_ st1 ?_
 show Go_ T1 (mkF mm_ 3 #[vr t, vi 0, vi c0] [(.int 1)])
 refine sp_ (fun t_ k_ => XS.ifYes X1.here hx rfl (pc0 := 3) (pc' := 28) rfl (B_ dk68) rfl ((if0 _ _).trans (feq (by decide : ¬ ((1 : Int32) = (0 : Int32)))).2) (by decide) (by decide) k_) ?_
 show Go_ T1 (mkF mm_ 28 #[vr t, vi 0, vi c0] [])
 refine sp_ (fun t_ k_ => XS.iloadN X1.here hx rfl (B_ dk69) rfl  (XS.iconst X1.here hx rfl (B_ dk70) (XS.ishl X1.here hx rfl (B_ dk71) rfl (XS.istoreN X1.here hx rfl (B_ dk72) rfl (l' := #[vr t, vi 0, vi c0]) rfl (XS.aloadN X1.here hx rfl (B_ dk73) rfl rfl (XS.iloadN X1.here hx rfl (B_ dk74) rfl  (XS.iinc X1.here hx rfl (B_ dk75) rfl (l' := #[vr t, vi 1, vi c0]) rfl (XS.iloadN X1.here hx rfl (B_ dk76) rfl  k_)))))))) ?_
 obtain ⟨T2, X2, e2, st2⟩ := getS2 X1 hx hZ hown (host := "") (Or.inl (w_ hw 98 rfl)) Via.refl e1 (G_hb.ext O0.2) (g := (mkF mm_ 38 #[vr t, vi 1, vi c0] [(.int c0), (.int 0), (.ref t)])) rfl (B_ dk77)
 refine sp_ st2 ?_
 show Go_ T2 (mkF mm_ 41 #[vr t, vi 1, vi c0] [(.int 0), (.int c0), (.int 0), (.ref t)])
 refine sp_ (fun t_ k_ => XS.ishr X2.here hx rfl (B_ dk78) rfl (XS.i2b X2.here hx rfl (B_ dk79) rfl k_)) ?_
 obtain ⟨cl3, Ar3, q3, S3, M3, H3, G3⟩ := id pr0
 have hin3 : ¬ ((0 : Int32) < 0 ∨ cl3.slots.size ≤ ((0 : Int32)).toNatClampNeg) := inb_of S3 ⟨by decide, by decide⟩
 obtain ⟨T3, h3, X3, e3, W3, st3⟩ := stB X2 hx hZ e2 Ar3 (j := (0 : Int32)) hin3 (g := (mkF mm_ 43 #[vr t, vi 1, vi c0] [(lb c0), (.int 0), (.ref t)])) rfl rfl (B_ dk80)
 have V3 : Arv Z h3 t k .byte (2 : Int32) [(lb c0), (.int 0)] (.int 0) := by
  have q := Arv.set Ar3 q3 S3 M3 H3 G3 (fits_nar_byte _) W3 0 rfl (Nat.le_of_ble_eq_true rfl)
  rw [own_narB] at q
  exact q
 have N3 := Fr.snoc X3 N0 g_t
 refine sp_ st3 ?_
 show Go_ T3 (mkF mm_ 44 #[vr t, vi 1, vi c0] [])
 refine sp_ (fun t_ k_ => XS.aloadN X3.here hx rfl (B_ dk81) rfl rfl (XS.iloadN X3.here hx rfl (B_ dk82) rfl  (XS.iloadN X3.here hx rfl (B_ dk83) rfl  k_))) ?_
 have O4 : Old Z n0 h3 := (O0.wr W3 g_t)
 obtain ⟨T5, X5, e5, st5⟩ := getS2 X3 hx hZ hown (host := "") (Or.inl (w_ hw 99 rfl)) Via.refl e3 (G_lb.ext O4.2) (g := (mkF mm_ 47 #[vr t, vi 1, vi c0] [(.int c0), (.int 1), (.ref t)])) rfl (B_ dk84)
 refine sp_ st5 ?_
 show Go_ T5 (mkF mm_ 50 #[vr t, vi 1, vi c0] [(.int 8), (.int c0), (.int 1), (.ref t)])
 refine sp_ (fun t_ k_ => XS.ishr X5.here hx rfl (B_ dk85) rfl (XS.i2b X5.here hx rfl (B_ dk86) rfl k_)) ?_
 obtain ⟨cl6, Ar6, q6, S6, M6, H6, G6⟩ := id V3
 have hin6 : ¬ ((1 : Int32) < 0 ∨ cl6.slots.size ≤ ((1 : Int32)).toNatClampNeg) := inb_of S6 ⟨by decide, by decide⟩
 obtain ⟨T6, h6, X6, e6, W6, st6⟩ := stB X5 hx hZ e5 Ar6 (j := (1 : Int32)) hin6 (g := (mkF mm_ 52 #[vr t, vi 1, vi c0] [(hb_ c0), (.int 1), (.ref t)])) rfl rfl (B_ dk87)
 have V6 : Arv Z h6 t k .byte (2 : Int32) [(lb c0), (hb_ c0)] (.int 0) := by
  have q := Arv.set Ar6 q6 S6 M6 H6 G6 (fits_nar_byte _) W6 1 rfl (Nat.le_of_ble_eq_true rfl)
  rw [own_narB] at q
  exact q
 have N6 := Fr.snoc X6 N3 g_t
 refine sp_ st6 ?_
 show Go_ T6 (mkF mm_ 53 #[vr t, vi 1, vi c0] [])
 have K7 : Keep h0 h6 [t] := ((K0.wr W3 (Or.inl (List.mem_of_getElem? (i := 0) rfl))).wr W6 (Or.inl (List.mem_of_getElem? (i := 0) rfl)))
 obtain ⟨fs, hr, hrun, hended, hW, hsame⟩ := X6.leave (v := none) (fun _ => rfl)
 refine ⟨_, _, ?_, hrun, hended, _, _, rfl, ?_, ⟨_, rfl⟩, hW, hsame.mono (by decide) (by decide)⟩
 · exact X6.returnOut hx Bd.returns (B_ dk88) hr
 · show QrmPt1_0 Z t c0 k h0 n0 none T6.heap _
   rw [e6]
   exact ⟨rfl, N6, K7, V6⟩
theorem ef_rmPt2_0 (mm_ : MethodId) (t : Addr) (c0 : Int32) : entryFrame mm_ #[(.ref t), (.int 0), (.int c0)] 3 = (mkF mm_ 0 #[vr t, vi 0, vi c0] []) := by first | (simp [entryFrame, mkF, argsToLocals, Value.category]; done) | rfl
def QrmPt2_0 (Z : State) (t : Addr) (c0 : Int32) (k : ClassId) (h0 : Heap) (n0 : Nat) (vv_ : Option Value) (hh_ : Heap) (LL_ : List Loc) : Prop := (vv_ = none) ∧ (Fr n0 LL_) ∧ (Keep h0 hh_ [t]) ∧ (Arv Z hh_ t k .byte (4 : Int32) [(lb c0), (hb_ c0), (.int 0), (.int 0)] (.int 0))
theorem rmPt2_0 (l : Launch) (Z : State) (a0 : Array Value) (hw : own_Hw a0 Z) (ws : List Jvm.Cond) (t : Addr) (c0 : Int32) (k : ClassId) {zc : Int32} {fm : Value} (h0 : Heap) (n0 : Nat) (O0 : Old Z n0 h0) (G_ : own_St Z zc fm) (pr0 : Arv Z h0 t k .byte (4 : Int32) [(.int 0), (.int 0), (.int 0), (.int 0)] (.int 0)) (g_t : n0 ≤ t) :
 own_MF l Z ym0 J7 3 none ws (rm_ 0 0 0 0) #[(.ref t), (.int 0), (.int c0)] h0 (QrmPt2_0 Z t c0 k h0 n0) := by
 refine own_met (plainFor_of_name pn_java_lang_StringUTF16) (fun m_ => ef_rmPt2_0 m_ t c0) fun pp_ ee_ ss_ mm_ bb_ me_ cc_ s₁ Bd hx hby hml hown hZ hh X0 e0 => ?_
 have B_ {q_ : Nat} {r_ : _} (h_ : decode _ q_ = r_) := hb hby h_
 have hown : ss_.vm.findClass sc1 = some mm_.cls := hown
 have N0 := Fr.nil n0
 have Z0 : n0 ≤ h0.size := by have q := O0.2.1; rw [O0.1] at q; exact q
 have K0 : Keep h0 h0 [t] := Keep.refl _ _
 obtain ⟨G_cs, G_cs0, G_cw, G_h_java_lang_String_7, G_fm, G_fr, G_hb, G_lb, G_ad⟩ := id G_
 obtain ⟨T1, X1, e1, st1⟩ := getS2 X0 hx hZ hown (host := "") (Or.inl (w_ hw 97 rfl)) Via.refl e0 (G_ad.ext O0.2) (g := (mkF mm_ 0 #[vr t, vi 0, vi c0] [])) rfl (B_ dk67)
 refine sp_ st1 ?_
 show Go_ T1 (mkF mm_ 3 #[vr t, vi 0, vi c0] [(.int 1)])
 refine sp_ (fun t_ k_ => XS.ifYes X1.here hx rfl (pc0 := 3) (pc' := 28) rfl (B_ dk68) rfl ((if0 _ _).trans (feq (by decide : ¬ ((1 : Int32) = (0 : Int32)))).2) (by decide) (by decide) k_) ?_
 show Go_ T1 (mkF mm_ 28 #[vr t, vi 0, vi c0] [])
 refine sp_ (fun t_ k_ => XS.iloadN X1.here hx rfl (B_ dk69) rfl  (XS.iconst X1.here hx rfl (B_ dk70) (XS.ishl X1.here hx rfl (B_ dk71) rfl (XS.istoreN X1.here hx rfl (B_ dk72) rfl (l' := #[vr t, vi 0, vi c0]) rfl (XS.aloadN X1.here hx rfl (B_ dk73) rfl rfl (XS.iloadN X1.here hx rfl (B_ dk74) rfl  (XS.iinc X1.here hx rfl (B_ dk75) rfl (l' := #[vr t, vi 1, vi c0]) rfl (XS.iloadN X1.here hx rfl (B_ dk76) rfl  k_)))))))) ?_
 obtain ⟨T2, X2, e2, st2⟩ := getS2 X1 hx hZ hown (host := "") (Or.inl (w_ hw 98 rfl)) Via.refl e1 (G_hb.ext O0.2) (g := (mkF mm_ 38 #[vr t, vi 1, vi c0] [(.int c0), (.int 0), (.ref t)])) rfl (B_ dk77)
 refine sp_ st2 ?_
 show Go_ T2 (mkF mm_ 41 #[vr t, vi 1, vi c0] [(.int 0), (.int c0), (.int 0), (.ref t)])
 refine sp_ (fun t_ k_ => XS.ishr X2.here hx rfl (B_ dk78) rfl (XS.i2b X2.here hx rfl (B_ dk79) rfl k_)) ?_
 obtain ⟨cl3, Ar3, q3, S3, M3, H3, G3⟩ := id pr0
 have hin3 : ¬ ((0 : Int32) < 0 ∨ cl3.slots.size ≤ ((0 : Int32)).toNatClampNeg) := inb_of S3 ⟨by decide, by decide⟩
 obtain ⟨T3, h3, X3, e3, W3, st3⟩ := stB X2 hx hZ e2 Ar3 (j := (0 : Int32)) hin3 (g := (mkF mm_ 43 #[vr t, vi 1, vi c0] [(lb c0), (.int 0), (.ref t)])) rfl rfl (B_ dk80)
 have V3 : Arv Z h3 t k .byte (4 : Int32) [(lb c0), (.int 0), (.int 0), (.int 0)] (.int 0) := by
  have q := Arv.set Ar3 q3 S3 M3 H3 G3 (fits_nar_byte _) W3 0 rfl (Nat.le_of_ble_eq_true rfl)
  rw [own_narB] at q
  exact q
 have N3 := Fr.snoc X3 N0 g_t
 refine sp_ st3 ?_
 show Go_ T3 (mkF mm_ 44 #[vr t, vi 1, vi c0] [])
 refine sp_ (fun t_ k_ => XS.aloadN X3.here hx rfl (B_ dk81) rfl rfl (XS.iloadN X3.here hx rfl (B_ dk82) rfl  (XS.iloadN X3.here hx rfl (B_ dk83) rfl  k_))) ?_
 have O4 : Old Z n0 h3 := (O0.wr W3 g_t)
 obtain ⟨T5, X5, e5, st5⟩ := getS2 X3 hx hZ hown (host := "") (Or.inl (w_ hw 99 rfl)) Via.refl e3 (G_lb.ext O4.2) (g := (mkF mm_ 47 #[vr t, vi 1, vi c0] [(.int c0), (.int 1), (.ref t)])) rfl (B_ dk84)
 refine sp_ st5 ?_
 show Go_ T5 (mkF mm_ 50 #[vr t, vi 1, vi c0] [(.int 8), (.int c0), (.int 1), (.ref t)])
 refine sp_ (fun t_ k_ => XS.ishr X5.here hx rfl (B_ dk85) rfl (XS.i2b X5.here hx rfl (B_ dk86) rfl k_)) ?_
 obtain ⟨cl6, Ar6, q6, S6, M6, H6, G6⟩ := id V3
 have hin6 : ¬ ((1 : Int32) < 0 ∨ cl6.slots.size ≤ ((1 : Int32)).toNatClampNeg) := inb_of S6 ⟨by decide, by decide⟩
 obtain ⟨T6, h6, X6, e6, W6, st6⟩ := stB X5 hx hZ e5 Ar6 (j := (1 : Int32)) hin6 (g := (mkF mm_ 52 #[vr t, vi 1, vi c0] [(hb_ c0), (.int 1), (.ref t)])) rfl rfl (B_ dk87)
 have V6 : Arv Z h6 t k .byte (4 : Int32) [(lb c0), (hb_ c0), (.int 0), (.int 0)] (.int 0) := by
  have q := Arv.set Ar6 q6 S6 M6 H6 G6 (fits_nar_byte _) W6 1 rfl (Nat.le_of_ble_eq_true rfl)
  rw [own_narB] at q
  exact q
 have N6 := Fr.snoc X6 N3 g_t
 refine sp_ st6 ?_
 show Go_ T6 (mkF mm_ 53 #[vr t, vi 1, vi c0] [])
 have K7 : Keep h0 h6 [t] := ((K0.wr W3 (Or.inl (List.mem_of_getElem? (i := 0) rfl))).wr W6 (Or.inl (List.mem_of_getElem? (i := 0) rfl)))
 obtain ⟨fs, hr, hrun, hended, hW, hsame⟩ := X6.leave (v := none) (fun _ => rfl)
 refine ⟨_, _, ?_, hrun, hended, _, _, rfl, ?_, ⟨_, rfl⟩, hW, hsame.mono (by decide) (by decide)⟩
 · exact X6.returnOut hx Bd.returns (B_ dk88) hr
 · show QrmPt2_0 Z t c0 k h0 n0 none T6.heap _
   rw [e6]
   exact ⟨rfl, N6, K7, V6⟩
theorem ef_rmPt2_1 (mm_ : MethodId) (t : Addr) (c1 : Int32) : entryFrame mm_ #[(.ref t), (.int 1), (.int c1)] 3 = (mkF mm_ 0 #[vr t, vi 1, vi c1] []) := by first | (simp [entryFrame, mkF, argsToLocals, Value.category]; done) | rfl
def QrmPt2_1 (Z : State) (t : Addr) (c1 : Int32) (k : ClassId) (c0 : Int32) (h0 : Heap) (n0 : Nat) (vv_ : Option Value) (hh_ : Heap) (LL_ : List Loc) : Prop := (vv_ = none) ∧ (Fr n0 LL_) ∧ (Keep h0 hh_ [t]) ∧ (Arv Z hh_ t k .byte (4 : Int32) [(lb c0), (hb_ c0), (lb c1), (hb_ c1)] (.int 0))
theorem rmPt2_1 (l : Launch) (Z : State) (a0 : Array Value) (hw : own_Hw a0 Z) (ws : List Jvm.Cond) (t : Addr) (c1 : Int32) (k : ClassId) (c0 : Int32) {zc : Int32} {fm : Value} (h0 : Heap) (n0 : Nat) (O0 : Old Z n0 h0) (G_ : own_St Z zc fm) (pr0 : Arv Z h0 t k .byte (4 : Int32) [(lb c0), (hb_ c0), (.int 0), (.int 0)] (.int 0)) (g_t : n0 ≤ t) :
 own_MF l Z ym0 J7 3 none ws (rm_ 0 0 0 0) #[(.ref t), (.int 1), (.int c1)] h0 (QrmPt2_1 Z t c1 k c0 h0 n0) := by
 refine own_met (plainFor_of_name pn_java_lang_StringUTF16) (fun m_ => ef_rmPt2_1 m_ t c1) fun pp_ ee_ ss_ mm_ bb_ me_ cc_ s₁ Bd hx hby hml hown hZ hh X0 e0 => ?_
 have B_ {q_ : Nat} {r_ : _} (h_ : decode _ q_ = r_) := hb hby h_
 have hown : ss_.vm.findClass sc1 = some mm_.cls := hown
 have N0 := Fr.nil n0
 have Z0 : n0 ≤ h0.size := by have q := O0.2.1; rw [O0.1] at q; exact q
 have K0 : Keep h0 h0 [t] := Keep.refl _ _
 obtain ⟨G_cs, G_cs0, G_cw, G_h_java_lang_String_7, G_fm, G_fr, G_hb, G_lb, G_ad⟩ := id G_
 obtain ⟨T1, X1, e1, st1⟩ := getS2 X0 hx hZ hown (host := "") (Or.inl (w_ hw 97 rfl)) Via.refl e0 (G_ad.ext O0.2) (g := (mkF mm_ 0 #[vr t, vi 1, vi c1] [])) rfl (B_ dk67)
 refine sp_ st1 ?_
 show Go_ T1 (mkF mm_ 3 #[vr t, vi 1, vi c1] [(.int 1)])
 refine sp_ (fun t_ k_ => XS.ifYes X1.here hx rfl (pc0 := 3) (pc' := 28) rfl (B_ dk68) rfl ((if0 _ _).trans (feq (by decide : ¬ ((1 : Int32) = (0 : Int32)))).2) (by decide) (by decide) k_) ?_
 show Go_ T1 (mkF mm_ 28 #[vr t, vi 1, vi c1] [])
 refine sp_ (fun t_ k_ => XS.iloadN X1.here hx rfl (B_ dk69) rfl  (XS.iconst X1.here hx rfl (B_ dk70) (XS.ishl X1.here hx rfl (B_ dk71) rfl (XS.istoreN X1.here hx rfl (B_ dk72) rfl (l' := #[vr t, vi 2, vi c1]) rfl (XS.aloadN X1.here hx rfl (B_ dk73) rfl rfl (XS.iloadN X1.here hx rfl (B_ dk74) rfl  (XS.iinc X1.here hx rfl (B_ dk75) rfl (l' := #[vr t, vi 3, vi c1]) rfl (XS.iloadN X1.here hx rfl (B_ dk76) rfl  k_)))))))) ?_
 obtain ⟨T2, X2, e2, st2⟩ := getS2 X1 hx hZ hown (host := "") (Or.inl (w_ hw 98 rfl)) Via.refl e1 (G_hb.ext O0.2) (g := (mkF mm_ 38 #[vr t, vi 3, vi c1] [(.int c1), (.int 2), (.ref t)])) rfl (B_ dk77)
 refine sp_ st2 ?_
 show Go_ T2 (mkF mm_ 41 #[vr t, vi 3, vi c1] [(.int 0), (.int c1), (.int 2), (.ref t)])
 refine sp_ (fun t_ k_ => XS.ishr X2.here hx rfl (B_ dk78) rfl (XS.i2b X2.here hx rfl (B_ dk79) rfl k_)) ?_
 obtain ⟨cl3, Ar3, q3, S3, M3, H3, G3⟩ := id pr0
 have hin3 : ¬ ((2 : Int32) < 0 ∨ cl3.slots.size ≤ ((2 : Int32)).toNatClampNeg) := inb_of S3 ⟨by decide, by decide⟩
 obtain ⟨T3, h3, X3, e3, W3, st3⟩ := stB X2 hx hZ e2 Ar3 (j := (2 : Int32)) hin3 (g := (mkF mm_ 43 #[vr t, vi 3, vi c1] [(lb c1), (.int 2), (.ref t)])) rfl rfl (B_ dk80)
 have V3 : Arv Z h3 t k .byte (4 : Int32) [(lb c0), (hb_ c0), (lb c1), (.int 0)] (.int 0) := by
  have q := Arv.set Ar3 q3 S3 M3 H3 G3 (fits_nar_byte _) W3 2 rfl (Nat.le_of_ble_eq_true rfl)
  rw [own_narB] at q
  exact q
 have N3 := Fr.snoc X3 N0 g_t
 refine sp_ st3 ?_
 show Go_ T3 (mkF mm_ 44 #[vr t, vi 3, vi c1] [])
 refine sp_ (fun t_ k_ => XS.aloadN X3.here hx rfl (B_ dk81) rfl rfl (XS.iloadN X3.here hx rfl (B_ dk82) rfl  (XS.iloadN X3.here hx rfl (B_ dk83) rfl  k_))) ?_
 have O4 : Old Z n0 h3 := (O0.wr W3 g_t)
 obtain ⟨T5, X5, e5, st5⟩ := getS2 X3 hx hZ hown (host := "") (Or.inl (w_ hw 99 rfl)) Via.refl e3 (G_lb.ext O4.2) (g := (mkF mm_ 47 #[vr t, vi 3, vi c1] [(.int c1), (.int 3), (.ref t)])) rfl (B_ dk84)
 refine sp_ st5 ?_
 show Go_ T5 (mkF mm_ 50 #[vr t, vi 3, vi c1] [(.int 8), (.int c1), (.int 3), (.ref t)])
 refine sp_ (fun t_ k_ => XS.ishr X5.here hx rfl (B_ dk85) rfl (XS.i2b X5.here hx rfl (B_ dk86) rfl k_)) ?_
 obtain ⟨cl6, Ar6, q6, S6, M6, H6, G6⟩ := id V3
 have hin6 : ¬ ((3 : Int32) < 0 ∨ cl6.slots.size ≤ ((3 : Int32)).toNatClampNeg) := inb_of S6 ⟨by decide, by decide⟩
 obtain ⟨T6, h6, X6, e6, W6, st6⟩ := stB X5 hx hZ e5 Ar6 (j := (3 : Int32)) hin6 (g := (mkF mm_ 52 #[vr t, vi 3, vi c1] [(hb_ c1), (.int 3), (.ref t)])) rfl rfl (B_ dk87)
 have V6 : Arv Z h6 t k .byte (4 : Int32) [(lb c0), (hb_ c0), (lb c1), (hb_ c1)] (.int 0) := by
  have q := Arv.set Ar6 q6 S6 M6 H6 G6 (fits_nar_byte _) W6 3 rfl (Nat.le_of_ble_eq_true rfl)
  rw [own_narB] at q
  exact q
 have N6 := Fr.snoc X6 N3 g_t
 refine sp_ st6 ?_
 show Go_ T6 (mkF mm_ 53 #[vr t, vi 3, vi c1] [])
 have K7 : Keep h0 h6 [t] := ((K0.wr W3 (Or.inl (List.mem_of_getElem? (i := 0) rfl))).wr W6 (Or.inl (List.mem_of_getElem? (i := 0) rfl)))
 obtain ⟨fs, hr, hrun, hended, hW, hsame⟩ := X6.leave (v := none) (fun _ => rfl)
 refine ⟨_, _, ?_, hrun, hended, _, _, rfl, ?_, ⟨_, rfl⟩, hW, hsame.mono (by decide) (by decide)⟩
 · exact X6.returnOut hx Bd.returns (B_ dk88) hr
 · show QrmPt2_1 Z t c1 k c0 h0 n0 none T6.heap _
   rw [e6]
   exact ⟨rfl, N6, K7, V6⟩
theorem ef_rmPt3_0 (mm_ : MethodId) (t : Addr) (c0 : Int32) : entryFrame mm_ #[(.ref t), (.int 0), (.int c0)] 3 = (mkF mm_ 0 #[vr t, vi 0, vi c0] []) := by first | (simp [entryFrame, mkF, argsToLocals, Value.category]; done) | rfl
def QrmPt3_0 (Z : State) (t : Addr) (c0 : Int32) (k : ClassId) (h0 : Heap) (n0 : Nat) (vv_ : Option Value) (hh_ : Heap) (LL_ : List Loc) : Prop := (vv_ = none) ∧ (Fr n0 LL_) ∧ (Keep h0 hh_ [t]) ∧ (Arv Z hh_ t k .byte (6 : Int32) [(lb c0), (hb_ c0), (.int 0), (.int 0), (.int 0), (.int 0)] (.int 0))
theorem rmPt3_0 (l : Launch) (Z : State) (a0 : Array Value) (hw : own_Hw a0 Z) (ws : List Jvm.Cond) (t : Addr) (c0 : Int32) (k : ClassId) {zc : Int32} {fm : Value} (h0 : Heap) (n0 : Nat) (O0 : Old Z n0 h0) (G_ : own_St Z zc fm) (pr0 : Arv Z h0 t k .byte (6 : Int32) [(.int 0), (.int 0), (.int 0), (.int 0), (.int 0), (.int 0)] (.int 0)) (g_t : n0 ≤ t) :
 own_MF l Z ym0 J7 3 none ws (rm_ 0 0 0 0) #[(.ref t), (.int 0), (.int c0)] h0 (QrmPt3_0 Z t c0 k h0 n0) := by
 refine own_met (plainFor_of_name pn_java_lang_StringUTF16) (fun m_ => ef_rmPt3_0 m_ t c0) fun pp_ ee_ ss_ mm_ bb_ me_ cc_ s₁ Bd hx hby hml hown hZ hh X0 e0 => ?_
 have B_ {q_ : Nat} {r_ : _} (h_ : decode _ q_ = r_) := hb hby h_
 have hown : ss_.vm.findClass sc1 = some mm_.cls := hown
 have N0 := Fr.nil n0
 have Z0 : n0 ≤ h0.size := by have q := O0.2.1; rw [O0.1] at q; exact q
 have K0 : Keep h0 h0 [t] := Keep.refl _ _
 obtain ⟨G_cs, G_cs0, G_cw, G_h_java_lang_String_7, G_fm, G_fr, G_hb, G_lb, G_ad⟩ := id G_
 obtain ⟨T1, X1, e1, st1⟩ := getS2 X0 hx hZ hown (host := "") (Or.inl (w_ hw 97 rfl)) Via.refl e0 (G_ad.ext O0.2) (g := (mkF mm_ 0 #[vr t, vi 0, vi c0] [])) rfl (B_ dk67)
 refine sp_ st1 ?_
 show Go_ T1 (mkF mm_ 3 #[vr t, vi 0, vi c0] [(.int 1)])
 refine sp_ (fun t_ k_ => XS.ifYes X1.here hx rfl (pc0 := 3) (pc' := 28) rfl (B_ dk68) rfl ((if0 _ _).trans (feq (by decide : ¬ ((1 : Int32) = (0 : Int32)))).2) (by decide) (by decide) k_) ?_
 show Go_ T1 (mkF mm_ 28 #[vr t, vi 0, vi c0] [])
 refine sp_ (fun t_ k_ => XS.iloadN X1.here hx rfl (B_ dk69) rfl  (XS.iconst X1.here hx rfl (B_ dk70) (XS.ishl X1.here hx rfl (B_ dk71) rfl (XS.istoreN X1.here hx rfl (B_ dk72) rfl (l' := #[vr t, vi 0, vi c0]) rfl (XS.aloadN X1.here hx rfl (B_ dk73) rfl rfl (XS.iloadN X1.here hx rfl (B_ dk74) rfl  (XS.iinc X1.here hx rfl (B_ dk75) rfl (l' := #[vr t, vi 1, vi c0]) rfl (XS.iloadN X1.here hx rfl (B_ dk76) rfl  k_)))))))) ?_
 obtain ⟨T2, X2, e2, st2⟩ := getS2 X1 hx hZ hown (host := "") (Or.inl (w_ hw 98 rfl)) Via.refl e1 (G_hb.ext O0.2) (g := (mkF mm_ 38 #[vr t, vi 1, vi c0] [(.int c0), (.int 0), (.ref t)])) rfl (B_ dk77)
 refine sp_ st2 ?_
 show Go_ T2 (mkF mm_ 41 #[vr t, vi 1, vi c0] [(.int 0), (.int c0), (.int 0), (.ref t)])
 refine sp_ (fun t_ k_ => XS.ishr X2.here hx rfl (B_ dk78) rfl (XS.i2b X2.here hx rfl (B_ dk79) rfl k_)) ?_
 obtain ⟨cl3, Ar3, q3, S3, M3, H3, G3⟩ := id pr0
 have hin3 : ¬ ((0 : Int32) < 0 ∨ cl3.slots.size ≤ ((0 : Int32)).toNatClampNeg) := inb_of S3 ⟨by decide, by decide⟩
 obtain ⟨T3, h3, X3, e3, W3, st3⟩ := stB X2 hx hZ e2 Ar3 (j := (0 : Int32)) hin3 (g := (mkF mm_ 43 #[vr t, vi 1, vi c0] [(lb c0), (.int 0), (.ref t)])) rfl rfl (B_ dk80)
 have V3 : Arv Z h3 t k .byte (6 : Int32) [(lb c0), (.int 0), (.int 0), (.int 0), (.int 0), (.int 0)] (.int 0) := by
  have q := Arv.set Ar3 q3 S3 M3 H3 G3 (fits_nar_byte _) W3 0 rfl (Nat.le_of_ble_eq_true rfl)
  rw [own_narB] at q
  exact q
 have N3 := Fr.snoc X3 N0 g_t
 refine sp_ st3 ?_
 show Go_ T3 (mkF mm_ 44 #[vr t, vi 1, vi c0] [])
 refine sp_ (fun t_ k_ => XS.aloadN X3.here hx rfl (B_ dk81) rfl rfl (XS.iloadN X3.here hx rfl (B_ dk82) rfl  (XS.iloadN X3.here hx rfl (B_ dk83) rfl  k_))) ?_
 have O4 : Old Z n0 h3 := (O0.wr W3 g_t)
 obtain ⟨T5, X5, e5, st5⟩ := getS2 X3 hx hZ hown (host := "") (Or.inl (w_ hw 99 rfl)) Via.refl e3 (G_lb.ext O4.2) (g := (mkF mm_ 47 #[vr t, vi 1, vi c0] [(.int c0), (.int 1), (.ref t)])) rfl (B_ dk84)
 refine sp_ st5 ?_
 show Go_ T5 (mkF mm_ 50 #[vr t, vi 1, vi c0] [(.int 8), (.int c0), (.int 1), (.ref t)])
 refine sp_ (fun t_ k_ => XS.ishr X5.here hx rfl (B_ dk85) rfl (XS.i2b X5.here hx rfl (B_ dk86) rfl k_)) ?_
 obtain ⟨cl6, Ar6, q6, S6, M6, H6, G6⟩ := id V3
 have hin6 : ¬ ((1 : Int32) < 0 ∨ cl6.slots.size ≤ ((1 : Int32)).toNatClampNeg) := inb_of S6 ⟨by decide, by decide⟩
 obtain ⟨T6, h6, X6, e6, W6, st6⟩ := stB X5 hx hZ e5 Ar6 (j := (1 : Int32)) hin6 (g := (mkF mm_ 52 #[vr t, vi 1, vi c0] [(hb_ c0), (.int 1), (.ref t)])) rfl rfl (B_ dk87)
 have V6 : Arv Z h6 t k .byte (6 : Int32) [(lb c0), (hb_ c0), (.int 0), (.int 0), (.int 0), (.int 0)] (.int 0) := by
  have q := Arv.set Ar6 q6 S6 M6 H6 G6 (fits_nar_byte _) W6 1 rfl (Nat.le_of_ble_eq_true rfl)
  rw [own_narB] at q
  exact q
 have N6 := Fr.snoc X6 N3 g_t
 refine sp_ st6 ?_
 show Go_ T6 (mkF mm_ 53 #[vr t, vi 1, vi c0] [])
 have K7 : Keep h0 h6 [t] := ((K0.wr W3 (Or.inl (List.mem_of_getElem? (i := 0) rfl))).wr W6 (Or.inl (List.mem_of_getElem? (i := 0) rfl)))
 obtain ⟨fs, hr, hrun, hended, hW, hsame⟩ := X6.leave (v := none) (fun _ => rfl)
 refine ⟨_, _, ?_, hrun, hended, _, _, rfl, ?_, ⟨_, rfl⟩, hW, hsame.mono (by decide) (by decide)⟩
 · exact X6.returnOut hx Bd.returns (B_ dk88) hr
 · show QrmPt3_0 Z t c0 k h0 n0 none T6.heap _
   rw [e6]
   exact ⟨rfl, N6, K7, V6⟩
theorem ef_rmPt3_1 (mm_ : MethodId) (t : Addr) (c1 : Int32) : entryFrame mm_ #[(.ref t), (.int 1), (.int c1)] 3 = (mkF mm_ 0 #[vr t, vi 1, vi c1] []) := by first | (simp [entryFrame, mkF, argsToLocals, Value.category]; done) | rfl
def QrmPt3_1 (Z : State) (t : Addr) (c1 : Int32) (k : ClassId) (c0 : Int32) (h0 : Heap) (n0 : Nat) (vv_ : Option Value) (hh_ : Heap) (LL_ : List Loc) : Prop := (vv_ = none) ∧ (Fr n0 LL_) ∧ (Keep h0 hh_ [t]) ∧ (Arv Z hh_ t k .byte (6 : Int32) [(lb c0), (hb_ c0), (lb c1), (hb_ c1), (.int 0), (.int 0)] (.int 0))
theorem rmPt3_1 (l : Launch) (Z : State) (a0 : Array Value) (hw : own_Hw a0 Z) (ws : List Jvm.Cond) (t : Addr) (c1 : Int32) (k : ClassId) (c0 : Int32) {zc : Int32} {fm : Value} (h0 : Heap) (n0 : Nat) (O0 : Old Z n0 h0) (G_ : own_St Z zc fm) (pr0 : Arv Z h0 t k .byte (6 : Int32) [(lb c0), (hb_ c0), (.int 0), (.int 0), (.int 0), (.int 0)] (.int 0)) (g_t : n0 ≤ t) :
 own_MF l Z ym0 J7 3 none ws (rm_ 0 0 0 0) #[(.ref t), (.int 1), (.int c1)] h0 (QrmPt3_1 Z t c1 k c0 h0 n0) := by
 refine own_met (plainFor_of_name pn_java_lang_StringUTF16) (fun m_ => ef_rmPt3_1 m_ t c1) fun pp_ ee_ ss_ mm_ bb_ me_ cc_ s₁ Bd hx hby hml hown hZ hh X0 e0 => ?_
 have B_ {q_ : Nat} {r_ : _} (h_ : decode _ q_ = r_) := hb hby h_
 have hown : ss_.vm.findClass sc1 = some mm_.cls := hown
 have N0 := Fr.nil n0
 have Z0 : n0 ≤ h0.size := by have q := O0.2.1; rw [O0.1] at q; exact q
 have K0 : Keep h0 h0 [t] := Keep.refl _ _
 obtain ⟨G_cs, G_cs0, G_cw, G_h_java_lang_String_7, G_fm, G_fr, G_hb, G_lb, G_ad⟩ := id G_
 obtain ⟨T1, X1, e1, st1⟩ := getS2 X0 hx hZ hown (host := "") (Or.inl (w_ hw 97 rfl)) Via.refl e0 (G_ad.ext O0.2) (g := (mkF mm_ 0 #[vr t, vi 1, vi c1] [])) rfl (B_ dk67)
 refine sp_ st1 ?_
 show Go_ T1 (mkF mm_ 3 #[vr t, vi 1, vi c1] [(.int 1)])
 refine sp_ (fun t_ k_ => XS.ifYes X1.here hx rfl (pc0 := 3) (pc' := 28) rfl (B_ dk68) rfl ((if0 _ _).trans (feq (by decide : ¬ ((1 : Int32) = (0 : Int32)))).2) (by decide) (by decide) k_) ?_
 show Go_ T1 (mkF mm_ 28 #[vr t, vi 1, vi c1] [])
 refine sp_ (fun t_ k_ => XS.iloadN X1.here hx rfl (B_ dk69) rfl  (XS.iconst X1.here hx rfl (B_ dk70) (XS.ishl X1.here hx rfl (B_ dk71) rfl (XS.istoreN X1.here hx rfl (B_ dk72) rfl (l' := #[vr t, vi 2, vi c1]) rfl (XS.aloadN X1.here hx rfl (B_ dk73) rfl rfl (XS.iloadN X1.here hx rfl (B_ dk74) rfl  (XS.iinc X1.here hx rfl (B_ dk75) rfl (l' := #[vr t, vi 3, vi c1]) rfl (XS.iloadN X1.here hx rfl (B_ dk76) rfl  k_)))))))) ?_
 obtain ⟨T2, X2, e2, st2⟩ := getS2 X1 hx hZ hown (host := "") (Or.inl (w_ hw 98 rfl)) Via.refl e1 (G_hb.ext O0.2) (g := (mkF mm_ 38 #[vr t, vi 3, vi c1] [(.int c1), (.int 2), (.ref t)])) rfl (B_ dk77)
 refine sp_ st2 ?_
 show Go_ T2 (mkF mm_ 41 #[vr t, vi 3, vi c1] [(.int 0), (.int c1), (.int 2), (.ref t)])
 refine sp_ (fun t_ k_ => XS.ishr X2.here hx rfl (B_ dk78) rfl (XS.i2b X2.here hx rfl (B_ dk79) rfl k_)) ?_
 obtain ⟨cl3, Ar3, q3, S3, M3, H3, G3⟩ := id pr0
 have hin3 : ¬ ((2 : Int32) < 0 ∨ cl3.slots.size ≤ ((2 : Int32)).toNatClampNeg) := inb_of S3 ⟨by decide, by decide⟩
 obtain ⟨T3, h3, X3, e3, W3, st3⟩ := stB X2 hx hZ e2 Ar3 (j := (2 : Int32)) hin3 (g := (mkF mm_ 43 #[vr t, vi 3, vi c1] [(lb c1), (.int 2), (.ref t)])) rfl rfl (B_ dk80)
 have V3 : Arv Z h3 t k .byte (6 : Int32) [(lb c0), (hb_ c0), (lb c1), (.int 0), (.int 0), (.int 0)] (.int 0) := by
  have q := Arv.set Ar3 q3 S3 M3 H3 G3 (fits_nar_byte _) W3 2 rfl (Nat.le_of_ble_eq_true rfl)
  rw [own_narB] at q
  exact q
 have N3 := Fr.snoc X3 N0 g_t
 refine sp_ st3 ?_
 show Go_ T3 (mkF mm_ 44 #[vr t, vi 3, vi c1] [])
 refine sp_ (fun t_ k_ => XS.aloadN X3.here hx rfl (B_ dk81) rfl rfl (XS.iloadN X3.here hx rfl (B_ dk82) rfl  (XS.iloadN X3.here hx rfl (B_ dk83) rfl  k_))) ?_
 have O4 : Old Z n0 h3 := (O0.wr W3 g_t)
 obtain ⟨T5, X5, e5, st5⟩ := getS2 X3 hx hZ hown (host := "") (Or.inl (w_ hw 99 rfl)) Via.refl e3 (G_lb.ext O4.2) (g := (mkF mm_ 47 #[vr t, vi 3, vi c1] [(.int c1), (.int 3), (.ref t)])) rfl (B_ dk84)
 refine sp_ st5 ?_
 show Go_ T5 (mkF mm_ 50 #[vr t, vi 3, vi c1] [(.int 8), (.int c1), (.int 3), (.ref t)])
 refine sp_ (fun t_ k_ => XS.ishr X5.here hx rfl (B_ dk85) rfl (XS.i2b X5.here hx rfl (B_ dk86) rfl k_)) ?_
 obtain ⟨cl6, Ar6, q6, S6, M6, H6, G6⟩ := id V3
 have hin6 : ¬ ((3 : Int32) < 0 ∨ cl6.slots.size ≤ ((3 : Int32)).toNatClampNeg) := inb_of S6 ⟨by decide, by decide⟩
 obtain ⟨T6, h6, X6, e6, W6, st6⟩ := stB X5 hx hZ e5 Ar6 (j := (3 : Int32)) hin6 (g := (mkF mm_ 52 #[vr t, vi 3, vi c1] [(hb_ c1), (.int 3), (.ref t)])) rfl rfl (B_ dk87)
 have V6 : Arv Z h6 t k .byte (6 : Int32) [(lb c0), (hb_ c0), (lb c1), (hb_ c1), (.int 0), (.int 0)] (.int 0) := by
  have q := Arv.set Ar6 q6 S6 M6 H6 G6 (fits_nar_byte _) W6 3 rfl (Nat.le_of_ble_eq_true rfl)
  rw [own_narB] at q
  exact q
 have N6 := Fr.snoc X6 N3 g_t
 refine sp_ st6 ?_
 show Go_ T6 (mkF mm_ 53 #[vr t, vi 3, vi c1] [])
 have K7 : Keep h0 h6 [t] := ((K0.wr W3 (Or.inl (List.mem_of_getElem? (i := 0) rfl))).wr W6 (Or.inl (List.mem_of_getElem? (i := 0) rfl)))
 obtain ⟨fs, hr, hrun, hended, hW, hsame⟩ := X6.leave (v := none) (fun _ => rfl)
 refine ⟨_, _, ?_, hrun, hended, _, _, rfl, ?_, ⟨_, rfl⟩, hW, hsame.mono (by decide) (by decide)⟩
 · exact X6.returnOut hx Bd.returns (B_ dk88) hr
 · show QrmPt3_1 Z t c1 k c0 h0 n0 none T6.heap _
   rw [e6]
   exact ⟨rfl, N6, K7, V6⟩
theorem ef_rmPt3_2 (mm_ : MethodId) (t : Addr) (c2 : Int32) : entryFrame mm_ #[(.ref t), (.int 2), (.int c2)] 3 = (mkF mm_ 0 #[vr t, vi 2, vi c2] []) := by first | (simp [entryFrame, mkF, argsToLocals, Value.category]; done) | rfl
def QrmPt3_2 (Z : State) (t : Addr) (c2 : Int32) (k : ClassId) (c0 : Int32) (c1 : Int32) (h0 : Heap) (n0 : Nat) (vv_ : Option Value) (hh_ : Heap) (LL_ : List Loc) : Prop := (vv_ = none) ∧ (Fr n0 LL_) ∧ (Keep h0 hh_ [t]) ∧ (Arv Z hh_ t k .byte (6 : Int32) [(lb c0), (hb_ c0), (lb c1), (hb_ c1), (lb c2), (hb_ c2)] (.int 0))
theorem rmPt3_2 (l : Launch) (Z : State) (a0 : Array Value) (hw : own_Hw a0 Z) (ws : List Jvm.Cond) (t : Addr) (c2 : Int32) (k : ClassId) (c0 : Int32) (c1 : Int32) {zc : Int32} {fm : Value} (h0 : Heap) (n0 : Nat) (O0 : Old Z n0 h0) (G_ : own_St Z zc fm) (pr0 : Arv Z h0 t k .byte (6 : Int32) [(lb c0), (hb_ c0), (lb c1), (hb_ c1), (.int 0), (.int 0)] (.int 0)) (g_t : n0 ≤ t) :
 own_MF l Z ym0 J7 3 none ws (rm_ 0 0 0 0) #[(.ref t), (.int 2), (.int c2)] h0 (QrmPt3_2 Z t c2 k c0 c1 h0 n0) := by
 refine own_met (plainFor_of_name pn_java_lang_StringUTF16) (fun m_ => ef_rmPt3_2 m_ t c2) fun pp_ ee_ ss_ mm_ bb_ me_ cc_ s₁ Bd hx hby hml hown hZ hh X0 e0 => ?_
 have B_ {q_ : Nat} {r_ : _} (h_ : decode _ q_ = r_) := hb hby h_
 have hown : ss_.vm.findClass sc1 = some mm_.cls := hown
 have N0 := Fr.nil n0
 have Z0 : n0 ≤ h0.size := by have q := O0.2.1; rw [O0.1] at q; exact q
 have K0 : Keep h0 h0 [t] := Keep.refl _ _
 obtain ⟨G_cs, G_cs0, G_cw, G_h_java_lang_String_7, G_fm, G_fr, G_hb, G_lb, G_ad⟩ := id G_
 obtain ⟨T1, X1, e1, st1⟩ := getS2 X0 hx hZ hown (host := "") (Or.inl (w_ hw 97 rfl)) Via.refl e0 (G_ad.ext O0.2) (g := (mkF mm_ 0 #[vr t, vi 2, vi c2] [])) rfl (B_ dk67)
 refine sp_ st1 ?_
 show Go_ T1 (mkF mm_ 3 #[vr t, vi 2, vi c2] [(.int 1)])
 refine sp_ (fun t_ k_ => XS.ifYes X1.here hx rfl (pc0 := 3) (pc' := 28) rfl (B_ dk68) rfl ((if0 _ _).trans (feq (by decide : ¬ ((1 : Int32) = (0 : Int32)))).2) (by decide) (by decide) k_) ?_
 show Go_ T1 (mkF mm_ 28 #[vr t, vi 2, vi c2] [])
 refine sp_ (fun t_ k_ => XS.iloadN X1.here hx rfl (B_ dk69) rfl  (XS.iconst X1.here hx rfl (B_ dk70) (XS.ishl X1.here hx rfl (B_ dk71) rfl (XS.istoreN X1.here hx rfl (B_ dk72) rfl (l' := #[vr t, vi 4, vi c2]) rfl (XS.aloadN X1.here hx rfl (B_ dk73) rfl rfl (XS.iloadN X1.here hx rfl (B_ dk74) rfl  (XS.iinc X1.here hx rfl (B_ dk75) rfl (l' := #[vr t, vi 5, vi c2]) rfl (XS.iloadN X1.here hx rfl (B_ dk76) rfl  k_)))))))) ?_
 obtain ⟨T2, X2, e2, st2⟩ := getS2 X1 hx hZ hown (host := "") (Or.inl (w_ hw 98 rfl)) Via.refl e1 (G_hb.ext O0.2) (g := (mkF mm_ 38 #[vr t, vi 5, vi c2] [(.int c2), (.int 4), (.ref t)])) rfl (B_ dk77)
 refine sp_ st2 ?_
 show Go_ T2 (mkF mm_ 41 #[vr t, vi 5, vi c2] [(.int 0), (.int c2), (.int 4), (.ref t)])
 refine sp_ (fun t_ k_ => XS.ishr X2.here hx rfl (B_ dk78) rfl (XS.i2b X2.here hx rfl (B_ dk79) rfl k_)) ?_
 obtain ⟨cl3, Ar3, q3, S3, M3, H3, G3⟩ := id pr0
 have hin3 : ¬ ((4 : Int32) < 0 ∨ cl3.slots.size ≤ ((4 : Int32)).toNatClampNeg) := inb_of S3 ⟨by decide, by decide⟩
 obtain ⟨T3, h3, X3, e3, W3, st3⟩ := stB X2 hx hZ e2 Ar3 (j := (4 : Int32)) hin3 (g := (mkF mm_ 43 #[vr t, vi 5, vi c2] [(lb c2), (.int 4), (.ref t)])) rfl rfl (B_ dk80)
 have V3 : Arv Z h3 t k .byte (6 : Int32) [(lb c0), (hb_ c0), (lb c1), (hb_ c1), (lb c2), (.int 0)] (.int 0) := by
  have q := Arv.set Ar3 q3 S3 M3 H3 G3 (fits_nar_byte _) W3 4 rfl (Nat.le_of_ble_eq_true rfl)
  rw [own_narB] at q
  exact q
 have N3 := Fr.snoc X3 N0 g_t
 refine sp_ st3 ?_
 show Go_ T3 (mkF mm_ 44 #[vr t, vi 5, vi c2] [])
 refine sp_ (fun t_ k_ => XS.aloadN X3.here hx rfl (B_ dk81) rfl rfl (XS.iloadN X3.here hx rfl (B_ dk82) rfl  (XS.iloadN X3.here hx rfl (B_ dk83) rfl  k_))) ?_
 have O4 : Old Z n0 h3 := (O0.wr W3 g_t)
 obtain ⟨T5, X5, e5, st5⟩ := getS2 X3 hx hZ hown (host := "") (Or.inl (w_ hw 99 rfl)) Via.refl e3 (G_lb.ext O4.2) (g := (mkF mm_ 47 #[vr t, vi 5, vi c2] [(.int c2), (.int 5), (.ref t)])) rfl (B_ dk84)
 refine sp_ st5 ?_
 show Go_ T5 (mkF mm_ 50 #[vr t, vi 5, vi c2] [(.int 8), (.int c2), (.int 5), (.ref t)])
 refine sp_ (fun t_ k_ => XS.ishr X5.here hx rfl (B_ dk85) rfl (XS.i2b X5.here hx rfl (B_ dk86) rfl k_)) ?_
 obtain ⟨cl6, Ar6, q6, S6, M6, H6, G6⟩ := id V3
 have hin6 : ¬ ((5 : Int32) < 0 ∨ cl6.slots.size ≤ ((5 : Int32)).toNatClampNeg) := inb_of S6 ⟨by decide, by decide⟩
 obtain ⟨T6, h6, X6, e6, W6, st6⟩ := stB X5 hx hZ e5 Ar6 (j := (5 : Int32)) hin6 (g := (mkF mm_ 52 #[vr t, vi 5, vi c2] [(hb_ c2), (.int 5), (.ref t)])) rfl rfl (B_ dk87)
 have V6 : Arv Z h6 t k .byte (6 : Int32) [(lb c0), (hb_ c0), (lb c1), (hb_ c1), (lb c2), (hb_ c2)] (.int 0) := by
  have q := Arv.set Ar6 q6 S6 M6 H6 G6 (fits_nar_byte _) W6 5 rfl (Nat.le_of_ble_eq_true rfl)
  rw [own_narB] at q
  exact q
 have N6 := Fr.snoc X6 N3 g_t
 refine sp_ st6 ?_
 show Go_ T6 (mkF mm_ 53 #[vr t, vi 5, vi c2] [])
 have K7 : Keep h0 h6 [t] := ((K0.wr W3 (Or.inl (List.mem_of_getElem? (i := 0) rfl))).wr W6 (Or.inl (List.mem_of_getElem? (i := 0) rfl)))
 obtain ⟨fs, hr, hrun, hended, hW, hsame⟩ := X6.leave (v := none) (fun _ => rfl)
 refine ⟨_, _, ?_, hrun, hended, _, _, rfl, ?_, ⟨_, rfl⟩, hW, hsame.mono (by decide) (by decide)⟩
 · exact X6.returnOut hx Bd.returns (B_ dk88) hr
 · show QrmPt3_2 Z t c2 k c0 c1 h0 n0 none T6.heap _
   rw [e6]
   exact ⟨rfl, N6, K7, V6⟩
theorem ef_rmPt4_0 (mm_ : MethodId) (t : Addr) (c0 : Int32) : entryFrame mm_ #[(.ref t), (.int 0), (.int c0)] 3 = (mkF mm_ 0 #[vr t, vi 0, vi c0] []) := by first | (simp [entryFrame, mkF, argsToLocals, Value.category]; done) | rfl
def QrmPt4_0 (Z : State) (t : Addr) (c0 : Int32) (k : ClassId) (h0 : Heap) (n0 : Nat) (vv_ : Option Value) (hh_ : Heap) (LL_ : List Loc) : Prop := (vv_ = none) ∧ (Fr n0 LL_) ∧ (Keep h0 hh_ [t]) ∧ (Arv Z hh_ t k .byte (8 : Int32) [(lb c0), (hb_ c0), (.int 0), (.int 0), (.int 0), (.int 0), (.int 0), (.int 0)] (.int 0))
theorem rmPt4_0 (l : Launch) (Z : State) (a0 : Array Value) (hw : own_Hw a0 Z) (ws : List Jvm.Cond) (t : Addr) (c0 : Int32) (k : ClassId) {zc : Int32} {fm : Value} (h0 : Heap) (n0 : Nat) (O0 : Old Z n0 h0) (G_ : own_St Z zc fm) (pr0 : Arv Z h0 t k .byte (8 : Int32) [(.int 0), (.int 0), (.int 0), (.int 0), (.int 0), (.int 0), (.int 0), (.int 0)] (.int 0)) (g_t : n0 ≤ t) :
 own_MF l Z ym0 J7 3 none ws (rm_ 0 0 0 0) #[(.ref t), (.int 0), (.int c0)] h0 (QrmPt4_0 Z t c0 k h0 n0) := by
 refine own_met (plainFor_of_name pn_java_lang_StringUTF16) (fun m_ => ef_rmPt4_0 m_ t c0) fun pp_ ee_ ss_ mm_ bb_ me_ cc_ s₁ Bd hx hby hml hown hZ hh X0 e0 => ?_
 have B_ {q_ : Nat} {r_ : _} (h_ : decode _ q_ = r_) := hb hby h_
 have hown : ss_.vm.findClass sc1 = some mm_.cls := hown
 have N0 := Fr.nil n0
 have Z0 : n0 ≤ h0.size := by have q := O0.2.1; rw [O0.1] at q; exact q
 have K0 : Keep h0 h0 [t] := Keep.refl _ _
 obtain ⟨G_cs, G_cs0, G_cw, G_h_java_lang_String_7, G_fm, G_fr, G_hb, G_lb, G_ad⟩ := id G_
 obtain ⟨T1, X1, e1, st1⟩ := getS2 X0 hx hZ hown (host := "") (Or.inl (w_ hw 97 rfl)) Via.refl e0 (G_ad.ext O0.2) (g := (mkF mm_ 0 #[vr t, vi 0, vi c0] [])) rfl (B_ dk67)
 refine sp_ st1 ?_
 show Go_ T1 (mkF mm_ 3 #[vr t, vi 0, vi c0] [(.int 1)])
 refine sp_ (fun t_ k_ => XS.ifYes X1.here hx rfl (pc0 := 3) (pc' := 28) rfl (B_ dk68) rfl ((if0 _ _).trans (feq (by decide : ¬ ((1 : Int32) = (0 : Int32)))).2) (by decide) (by decide) k_) ?_
 show Go_ T1 (mkF mm_ 28 #[vr t, vi 0, vi c0] [])
 refine sp_ (fun t_ k_ => XS.iloadN X1.here hx rfl (B_ dk69) rfl  (XS.iconst X1.here hx rfl (B_ dk70) (XS.ishl X1.here hx rfl (B_ dk71) rfl (XS.istoreN X1.here hx rfl (B_ dk72) rfl (l' := #[vr t, vi 0, vi c0]) rfl (XS.aloadN X1.here hx rfl (B_ dk73) rfl rfl (XS.iloadN X1.here hx rfl (B_ dk74) rfl  (XS.iinc X1.here hx rfl (B_ dk75) rfl (l' := #[vr t, vi 1, vi c0]) rfl (XS.iloadN X1.here hx rfl (B_ dk76) rfl  k_)))))))) ?_
 obtain ⟨T2, X2, e2, st2⟩ := getS2 X1 hx hZ hown (host := "") (Or.inl (w_ hw 98 rfl)) Via.refl e1 (G_hb.ext O0.2) (g := (mkF mm_ 38 #[vr t, vi 1, vi c0] [(.int c0), (.int 0), (.ref t)])) rfl (B_ dk77)
 refine sp_ st2 ?_
 show Go_ T2 (mkF mm_ 41 #[vr t, vi 1, vi c0] [(.int 0), (.int c0), (.int 0), (.ref t)])
 refine sp_ (fun t_ k_ => XS.ishr X2.here hx rfl (B_ dk78) rfl (XS.i2b X2.here hx rfl (B_ dk79) rfl k_)) ?_
 obtain ⟨cl3, Ar3, q3, S3, M3, H3, G3⟩ := id pr0
 have hin3 : ¬ ((0 : Int32) < 0 ∨ cl3.slots.size ≤ ((0 : Int32)).toNatClampNeg) := inb_of S3 ⟨by decide, by decide⟩
 obtain ⟨T3, h3, X3, e3, W3, st3⟩ := stB X2 hx hZ e2 Ar3 (j := (0 : Int32)) hin3 (g := (mkF mm_ 43 #[vr t, vi 1, vi c0] [(lb c0), (.int 0), (.ref t)])) rfl rfl (B_ dk80)
 have V3 : Arv Z h3 t k .byte (8 : Int32) [(lb c0), (.int 0), (.int 0), (.int 0), (.int 0), (.int 0), (.int 0), (.int 0)] (.int 0) := by
  have q := Arv.set Ar3 q3 S3 M3 H3 G3 (fits_nar_byte _) W3 0 rfl (Nat.le_of_ble_eq_true rfl)
  rw [own_narB] at q
  exact q
 have N3 := Fr.snoc X3 N0 g_t
 refine sp_ st3 ?_
 show Go_ T3 (mkF mm_ 44 #[vr t, vi 1, vi c0] [])
 refine sp_ (fun t_ k_ => XS.aloadN X3.here hx rfl (B_ dk81) rfl rfl (XS.iloadN X3.here hx rfl (B_ dk82) rfl  (XS.iloadN X3.here hx rfl (B_ dk83) rfl  k_))) ?_
 have O4 : Old Z n0 h3 := (O0.wr W3 g_t)
 obtain ⟨T5, X5, e5, st5⟩ := getS2 X3 hx hZ hown (host := "") (Or.inl (w_ hw 99 rfl)) Via.refl e3 (G_lb.ext O4.2) (g := (mkF mm_ 47 #[vr t, vi 1, vi c0] [(.int c0), (.int 1), (.ref t)])) rfl (B_ dk84)
 refine sp_ st5 ?_
 show Go_ T5 (mkF mm_ 50 #[vr t, vi 1, vi c0] [(.int 8), (.int c0), (.int 1), (.ref t)])
 refine sp_ (fun t_ k_ => XS.ishr X5.here hx rfl (B_ dk85) rfl (XS.i2b X5.here hx rfl (B_ dk86) rfl k_)) ?_
 obtain ⟨cl6, Ar6, q6, S6, M6, H6, G6⟩ := id V3
 have hin6 : ¬ ((1 : Int32) < 0 ∨ cl6.slots.size ≤ ((1 : Int32)).toNatClampNeg) := inb_of S6 ⟨by decide, by decide⟩
 obtain ⟨T6, h6, X6, e6, W6, st6⟩ := stB X5 hx hZ e5 Ar6 (j := (1 : Int32)) hin6 (g := (mkF mm_ 52 #[vr t, vi 1, vi c0] [(hb_ c0), (.int 1), (.ref t)])) rfl rfl (B_ dk87)
 have V6 : Arv Z h6 t k .byte (8 : Int32) [(lb c0), (hb_ c0), (.int 0), (.int 0), (.int 0), (.int 0), (.int 0), (.int 0)] (.int 0) := by
  have q := Arv.set Ar6 q6 S6 M6 H6 G6 (fits_nar_byte _) W6 1 rfl (Nat.le_of_ble_eq_true rfl)
  rw [own_narB] at q
  exact q
 have N6 := Fr.snoc X6 N3 g_t
 refine sp_ st6 ?_
 show Go_ T6 (mkF mm_ 53 #[vr t, vi 1, vi c0] [])
 have K7 : Keep h0 h6 [t] := ((K0.wr W3 (Or.inl (List.mem_of_getElem? (i := 0) rfl))).wr W6 (Or.inl (List.mem_of_getElem? (i := 0) rfl)))
 obtain ⟨fs, hr, hrun, hended, hW, hsame⟩ := X6.leave (v := none) (fun _ => rfl)
 refine ⟨_, _, ?_, hrun, hended, _, _, rfl, ?_, ⟨_, rfl⟩, hW, hsame.mono (by decide) (by decide)⟩
 · exact X6.returnOut hx Bd.returns (B_ dk88) hr
 · show QrmPt4_0 Z t c0 k h0 n0 none T6.heap _
   rw [e6]
   exact ⟨rfl, N6, K7, V6⟩
theorem ef_rmPt4_1 (mm_ : MethodId) (t : Addr) (c1 : Int32) : entryFrame mm_ #[(.ref t), (.int 1), (.int c1)] 3 = (mkF mm_ 0 #[vr t, vi 1, vi c1] []) := by first | (simp [entryFrame, mkF, argsToLocals, Value.category]; done) | rfl
def QrmPt4_1 (Z : State) (t : Addr) (c1 : Int32) (k : ClassId) (c0 : Int32) (h0 : Heap) (n0 : Nat) (vv_ : Option Value) (hh_ : Heap) (LL_ : List Loc) : Prop := (vv_ = none) ∧ (Fr n0 LL_) ∧ (Keep h0 hh_ [t]) ∧ (Arv Z hh_ t k .byte (8 : Int32) [(lb c0), (hb_ c0), (lb c1), (hb_ c1), (.int 0), (.int 0), (.int 0), (.int 0)] (.int 0))
theorem rmPt4_1 (l : Launch) (Z : State) (a0 : Array Value) (hw : own_Hw a0 Z) (ws : List Jvm.Cond) (t : Addr) (c1 : Int32) (k : ClassId) (c0 : Int32) {zc : Int32} {fm : Value} (h0 : Heap) (n0 : Nat) (O0 : Old Z n0 h0) (G_ : own_St Z zc fm) (pr0 : Arv Z h0 t k .byte (8 : Int32) [(lb c0), (hb_ c0), (.int 0), (.int 0), (.int 0), (.int 0), (.int 0), (.int 0)] (.int 0)) (g_t : n0 ≤ t) :
 own_MF l Z ym0 J7 3 none ws (rm_ 0 0 0 0) #[(.ref t), (.int 1), (.int c1)] h0 (QrmPt4_1 Z t c1 k c0 h0 n0) := by
 refine own_met (plainFor_of_name pn_java_lang_StringUTF16) (fun m_ => ef_rmPt4_1 m_ t c1) fun pp_ ee_ ss_ mm_ bb_ me_ cc_ s₁ Bd hx hby hml hown hZ hh X0 e0 => ?_
 have B_ {q_ : Nat} {r_ : _} (h_ : decode _ q_ = r_) := hb hby h_
 have hown : ss_.vm.findClass sc1 = some mm_.cls := hown
 have N0 := Fr.nil n0
 have Z0 : n0 ≤ h0.size := by have q := O0.2.1; rw [O0.1] at q; exact q
 have K0 : Keep h0 h0 [t] := Keep.refl _ _
 obtain ⟨G_cs, G_cs0, G_cw, G_h_java_lang_String_7, G_fm, G_fr, G_hb, G_lb, G_ad⟩ := id G_
 obtain ⟨T1, X1, e1, st1⟩ := getS2 X0 hx hZ hown (host := "") (Or.inl (w_ hw 97 rfl)) Via.refl e0 (G_ad.ext O0.2) (g := (mkF mm_ 0 #[vr t, vi 1, vi c1] [])) rfl (B_ dk67)
 refine sp_ st1 ?_
 show Go_ T1 (mkF mm_ 3 #[vr t, vi 1, vi c1] [(.int 1)])
 refine sp_ (fun t_ k_ => XS.ifYes X1.here hx rfl (pc0 := 3) (pc' := 28) rfl (B_ dk68) rfl ((if0 _ _).trans (feq (by decide : ¬ ((1 : Int32) = (0 : Int32)))).2) (by decide) (by decide) k_) ?_
 show Go_ T1 (mkF mm_ 28 #[vr t, vi 1, vi c1] [])
 refine sp_ (fun t_ k_ => XS.iloadN X1.here hx rfl (B_ dk69) rfl  (XS.iconst X1.here hx rfl (B_ dk70) (XS.ishl X1.here hx rfl (B_ dk71) rfl (XS.istoreN X1.here hx rfl (B_ dk72) rfl (l' := #[vr t, vi 2, vi c1]) rfl (XS.aloadN X1.here hx rfl (B_ dk73) rfl rfl (XS.iloadN X1.here hx rfl (B_ dk74) rfl  (XS.iinc X1.here hx rfl (B_ dk75) rfl (l' := #[vr t, vi 3, vi c1]) rfl (XS.iloadN X1.here hx rfl (B_ dk76) rfl  k_)))))))) ?_
 obtain ⟨T2, X2, e2, st2⟩ := getS2 X1 hx hZ hown (host := "") (Or.inl (w_ hw 98 rfl)) Via.refl e1 (G_hb.ext O0.2) (g := (mkF mm_ 38 #[vr t, vi 3, vi c1] [(.int c1), (.int 2), (.ref t)])) rfl (B_ dk77)
 refine sp_ st2 ?_
 show Go_ T2 (mkF mm_ 41 #[vr t, vi 3, vi c1] [(.int 0), (.int c1), (.int 2), (.ref t)])
 refine sp_ (fun t_ k_ => XS.ishr X2.here hx rfl (B_ dk78) rfl (XS.i2b X2.here hx rfl (B_ dk79) rfl k_)) ?_
 obtain ⟨cl3, Ar3, q3, S3, M3, H3, G3⟩ := id pr0
 have hin3 : ¬ ((2 : Int32) < 0 ∨ cl3.slots.size ≤ ((2 : Int32)).toNatClampNeg) := inb_of S3 ⟨by decide, by decide⟩
 obtain ⟨T3, h3, X3, e3, W3, st3⟩ := stB X2 hx hZ e2 Ar3 (j := (2 : Int32)) hin3 (g := (mkF mm_ 43 #[vr t, vi 3, vi c1] [(lb c1), (.int 2), (.ref t)])) rfl rfl (B_ dk80)
 have V3 : Arv Z h3 t k .byte (8 : Int32) [(lb c0), (hb_ c0), (lb c1), (.int 0), (.int 0), (.int 0), (.int 0), (.int 0)] (.int 0) := by
  have q := Arv.set Ar3 q3 S3 M3 H3 G3 (fits_nar_byte _) W3 2 rfl (Nat.le_of_ble_eq_true rfl)
  rw [own_narB] at q
  exact q
 have N3 := Fr.snoc X3 N0 g_t
 refine sp_ st3 ?_
 show Go_ T3 (mkF mm_ 44 #[vr t, vi 3, vi c1] [])
 refine sp_ (fun t_ k_ => XS.aloadN X3.here hx rfl (B_ dk81) rfl rfl (XS.iloadN X3.here hx rfl (B_ dk82) rfl  (XS.iloadN X3.here hx rfl (B_ dk83) rfl  k_))) ?_
 have O4 : Old Z n0 h3 := (O0.wr W3 g_t)
 obtain ⟨T5, X5, e5, st5⟩ := getS2 X3 hx hZ hown (host := "") (Or.inl (w_ hw 99 rfl)) Via.refl e3 (G_lb.ext O4.2) (g := (mkF mm_ 47 #[vr t, vi 3, vi c1] [(.int c1), (.int 3), (.ref t)])) rfl (B_ dk84)
 refine sp_ st5 ?_
 show Go_ T5 (mkF mm_ 50 #[vr t, vi 3, vi c1] [(.int 8), (.int c1), (.int 3), (.ref t)])
 refine sp_ (fun t_ k_ => XS.ishr X5.here hx rfl (B_ dk85) rfl (XS.i2b X5.here hx rfl (B_ dk86) rfl k_)) ?_
 obtain ⟨cl6, Ar6, q6, S6, M6, H6, G6⟩ := id V3
 have hin6 : ¬ ((3 : Int32) < 0 ∨ cl6.slots.size ≤ ((3 : Int32)).toNatClampNeg) := inb_of S6 ⟨by decide, by decide⟩
 obtain ⟨T6, h6, X6, e6, W6, st6⟩ := stB X5 hx hZ e5 Ar6 (j := (3 : Int32)) hin6 (g := (mkF mm_ 52 #[vr t, vi 3, vi c1] [(hb_ c1), (.int 3), (.ref t)])) rfl rfl (B_ dk87)
 have V6 : Arv Z h6 t k .byte (8 : Int32) [(lb c0), (hb_ c0), (lb c1), (hb_ c1), (.int 0), (.int 0), (.int 0), (.int 0)] (.int 0) := by
  have q := Arv.set Ar6 q6 S6 M6 H6 G6 (fits_nar_byte _) W6 3 rfl (Nat.le_of_ble_eq_true rfl)
  rw [own_narB] at q
  exact q
 have N6 := Fr.snoc X6 N3 g_t
 refine sp_ st6 ?_
 show Go_ T6 (mkF mm_ 53 #[vr t, vi 3, vi c1] [])
 have K7 : Keep h0 h6 [t] := ((K0.wr W3 (Or.inl (List.mem_of_getElem? (i := 0) rfl))).wr W6 (Or.inl (List.mem_of_getElem? (i := 0) rfl)))
 obtain ⟨fs, hr, hrun, hended, hW, hsame⟩ := X6.leave (v := none) (fun _ => rfl)
 refine ⟨_, _, ?_, hrun, hended, _, _, rfl, ?_, ⟨_, rfl⟩, hW, hsame.mono (by decide) (by decide)⟩
 · exact X6.returnOut hx Bd.returns (B_ dk88) hr
 · show QrmPt4_1 Z t c1 k c0 h0 n0 none T6.heap _
   rw [e6]
   exact ⟨rfl, N6, K7, V6⟩
theorem ef_rmPt4_2 (mm_ : MethodId) (t : Addr) (c2 : Int32) : entryFrame mm_ #[(.ref t), (.int 2), (.int c2)] 3 = (mkF mm_ 0 #[vr t, vi 2, vi c2] []) := by first | (simp [entryFrame, mkF, argsToLocals, Value.category]; done) | rfl
def QrmPt4_2 (Z : State) (t : Addr) (c2 : Int32) (k : ClassId) (c0 : Int32) (c1 : Int32) (h0 : Heap) (n0 : Nat) (vv_ : Option Value) (hh_ : Heap) (LL_ : List Loc) : Prop := (vv_ = none) ∧ (Fr n0 LL_) ∧ (Keep h0 hh_ [t]) ∧ (Arv Z hh_ t k .byte (8 : Int32) [(lb c0), (hb_ c0), (lb c1), (hb_ c1), (lb c2), (hb_ c2), (.int 0), (.int 0)] (.int 0))
theorem rmPt4_2 (l : Launch) (Z : State) (a0 : Array Value) (hw : own_Hw a0 Z) (ws : List Jvm.Cond) (t : Addr) (c2 : Int32) (k : ClassId) (c0 : Int32) (c1 : Int32) {zc : Int32} {fm : Value} (h0 : Heap) (n0 : Nat) (O0 : Old Z n0 h0) (G_ : own_St Z zc fm) (pr0 : Arv Z h0 t k .byte (8 : Int32) [(lb c0), (hb_ c0), (lb c1), (hb_ c1), (.int 0), (.int 0), (.int 0), (.int 0)] (.int 0)) (g_t : n0 ≤ t) :
 own_MF l Z ym0 J7 3 none ws (rm_ 0 0 0 0) #[(.ref t), (.int 2), (.int c2)] h0 (QrmPt4_2 Z t c2 k c0 c1 h0 n0) := by
 refine own_met (plainFor_of_name pn_java_lang_StringUTF16) (fun m_ => ef_rmPt4_2 m_ t c2) fun pp_ ee_ ss_ mm_ bb_ me_ cc_ s₁ Bd hx hby hml hown hZ hh X0 e0 => ?_
 have B_ {q_ : Nat} {r_ : _} (h_ : decode _ q_ = r_) := hb hby h_
 have hown : ss_.vm.findClass sc1 = some mm_.cls := hown
 have N0 := Fr.nil n0
 have Z0 : n0 ≤ h0.size := by have q := O0.2.1; rw [O0.1] at q; exact q
 have K0 : Keep h0 h0 [t] := Keep.refl _ _
 obtain ⟨G_cs, G_cs0, G_cw, G_h_java_lang_String_7, G_fm, G_fr, G_hb, G_lb, G_ad⟩ := id G_
 obtain ⟨T1, X1, e1, st1⟩ := getS2 X0 hx hZ hown (host := "") (Or.inl (w_ hw 97 rfl)) Via.refl e0 (G_ad.ext O0.2) (g := (mkF mm_ 0 #[vr t, vi 2, vi c2] [])) rfl (B_ dk67)
 refine sp_ st1 ?_
 show Go_ T1 (mkF mm_ 3 #[vr t, vi 2, vi c2] [(.int 1)])
 refine sp_ (fun t_ k_ => XS.ifYes X1.here hx rfl (pc0 := 3) (pc' := 28) rfl (B_ dk68) rfl ((if0 _ _).trans (feq (by decide : ¬ ((1 : Int32) = (0 : Int32)))).2) (by decide) (by decide) k_) ?_
 show Go_ T1 (mkF mm_ 28 #[vr t, vi 2, vi c2] [])
 refine sp_ (fun t_ k_ => XS.iloadN X1.here hx rfl (B_ dk69) rfl  (XS.iconst X1.here hx rfl (B_ dk70) (XS.ishl X1.here hx rfl (B_ dk71) rfl (XS.istoreN X1.here hx rfl (B_ dk72) rfl (l' := #[vr t, vi 4, vi c2]) rfl (XS.aloadN X1.here hx rfl (B_ dk73) rfl rfl (XS.iloadN X1.here hx rfl (B_ dk74) rfl  (XS.iinc X1.here hx rfl (B_ dk75) rfl (l' := #[vr t, vi 5, vi c2]) rfl (XS.iloadN X1.here hx rfl (B_ dk76) rfl  k_)))))))) ?_
 obtain ⟨T2, X2, e2, st2⟩ := getS2 X1 hx hZ hown (host := "") (Or.inl (w_ hw 98 rfl)) Via.refl e1 (G_hb.ext O0.2) (g := (mkF mm_ 38 #[vr t, vi 5, vi c2] [(.int c2), (.int 4), (.ref t)])) rfl (B_ dk77)
 refine sp_ st2 ?_
 show Go_ T2 (mkF mm_ 41 #[vr t, vi 5, vi c2] [(.int 0), (.int c2), (.int 4), (.ref t)])
 refine sp_ (fun t_ k_ => XS.ishr X2.here hx rfl (B_ dk78) rfl (XS.i2b X2.here hx rfl (B_ dk79) rfl k_)) ?_
 obtain ⟨cl3, Ar3, q3, S3, M3, H3, G3⟩ := id pr0
 have hin3 : ¬ ((4 : Int32) < 0 ∨ cl3.slots.size ≤ ((4 : Int32)).toNatClampNeg) := inb_of S3 ⟨by decide, by decide⟩
 obtain ⟨T3, h3, X3, e3, W3, st3⟩ := stB X2 hx hZ e2 Ar3 (j := (4 : Int32)) hin3 (g := (mkF mm_ 43 #[vr t, vi 5, vi c2] [(lb c2), (.int 4), (.ref t)])) rfl rfl (B_ dk80)
 have V3 : Arv Z h3 t k .byte (8 : Int32) [(lb c0), (hb_ c0), (lb c1), (hb_ c1), (lb c2), (.int 0), (.int 0), (.int 0)] (.int 0) := by
  have q := Arv.set Ar3 q3 S3 M3 H3 G3 (fits_nar_byte _) W3 4 rfl (Nat.le_of_ble_eq_true rfl)
  rw [own_narB] at q
  exact q
 have N3 := Fr.snoc X3 N0 g_t
 refine sp_ st3 ?_
 show Go_ T3 (mkF mm_ 44 #[vr t, vi 5, vi c2] [])
 refine sp_ (fun t_ k_ => XS.aloadN X3.here hx rfl (B_ dk81) rfl rfl (XS.iloadN X3.here hx rfl (B_ dk82) rfl  (XS.iloadN X3.here hx rfl (B_ dk83) rfl  k_))) ?_
 have O4 : Old Z n0 h3 := (O0.wr W3 g_t)
 obtain ⟨T5, X5, e5, st5⟩ := getS2 X3 hx hZ hown (host := "") (Or.inl (w_ hw 99 rfl)) Via.refl e3 (G_lb.ext O4.2) (g := (mkF mm_ 47 #[vr t, vi 5, vi c2] [(.int c2), (.int 5), (.ref t)])) rfl (B_ dk84)
 refine sp_ st5 ?_
 show Go_ T5 (mkF mm_ 50 #[vr t, vi 5, vi c2] [(.int 8), (.int c2), (.int 5), (.ref t)])
 refine sp_ (fun t_ k_ => XS.ishr X5.here hx rfl (B_ dk85) rfl (XS.i2b X5.here hx rfl (B_ dk86) rfl k_)) ?_
 obtain ⟨cl6, Ar6, q6, S6, M6, H6, G6⟩ := id V3
 have hin6 : ¬ ((5 : Int32) < 0 ∨ cl6.slots.size ≤ ((5 : Int32)).toNatClampNeg) := inb_of S6 ⟨by decide, by decide⟩
 obtain ⟨T6, h6, X6, e6, W6, st6⟩ := stB X5 hx hZ e5 Ar6 (j := (5 : Int32)) hin6 (g := (mkF mm_ 52 #[vr t, vi 5, vi c2] [(hb_ c2), (.int 5), (.ref t)])) rfl rfl (B_ dk87)
 have V6 : Arv Z h6 t k .byte (8 : Int32) [(lb c0), (hb_ c0), (lb c1), (hb_ c1), (lb c2), (hb_ c2), (.int 0), (.int 0)] (.int 0) := by
  have q := Arv.set Ar6 q6 S6 M6 H6 G6 (fits_nar_byte _) W6 5 rfl (Nat.le_of_ble_eq_true rfl)
  rw [own_narB] at q
  exact q
 have N6 := Fr.snoc X6 N3 g_t
 refine sp_ st6 ?_
 show Go_ T6 (mkF mm_ 53 #[vr t, vi 5, vi c2] [])
 have K7 : Keep h0 h6 [t] := ((K0.wr W3 (Or.inl (List.mem_of_getElem? (i := 0) rfl))).wr W6 (Or.inl (List.mem_of_getElem? (i := 0) rfl)))
 obtain ⟨fs, hr, hrun, hended, hW, hsame⟩ := X6.leave (v := none) (fun _ => rfl)
 refine ⟨_, _, ?_, hrun, hended, _, _, rfl, ?_, ⟨_, rfl⟩, hW, hsame.mono (by decide) (by decide)⟩
 · exact X6.returnOut hx Bd.returns (B_ dk88) hr
 · show QrmPt4_2 Z t c2 k c0 c1 h0 n0 none T6.heap _
   rw [e6]
   exact ⟨rfl, N6, K7, V6⟩
theorem ef_rmPt4_3 (mm_ : MethodId) (t : Addr) (c3 : Int32) : entryFrame mm_ #[(.ref t), (.int 3), (.int c3)] 3 = (mkF mm_ 0 #[vr t, vi 3, vi c3] []) := by first | (simp [entryFrame, mkF, argsToLocals, Value.category]; done) | rfl
def QrmPt4_3 (Z : State) (t : Addr) (c3 : Int32) (k : ClassId) (c0 : Int32) (c1 : Int32) (c2 : Int32) (h0 : Heap) (n0 : Nat) (vv_ : Option Value) (hh_ : Heap) (LL_ : List Loc) : Prop := (vv_ = none) ∧ (Fr n0 LL_) ∧ (Keep h0 hh_ [t]) ∧ (Arv Z hh_ t k .byte (8 : Int32) [(lb c0), (hb_ c0), (lb c1), (hb_ c1), (lb c2), (hb_ c2), (lb c3), (hb_ c3)] (.int 0))
theorem rmPt4_3 (l : Launch) (Z : State) (a0 : Array Value) (hw : own_Hw a0 Z) (ws : List Jvm.Cond) (t : Addr) (c3 : Int32) (k : ClassId) (c0 : Int32) (c1 : Int32) (c2 : Int32) {zc : Int32} {fm : Value} (h0 : Heap) (n0 : Nat) (O0 : Old Z n0 h0) (G_ : own_St Z zc fm) (pr0 : Arv Z h0 t k .byte (8 : Int32) [(lb c0), (hb_ c0), (lb c1), (hb_ c1), (lb c2), (hb_ c2), (.int 0), (.int 0)] (.int 0)) (g_t : n0 ≤ t) :
 own_MF l Z ym0 J7 3 none ws (rm_ 0 0 0 0) #[(.ref t), (.int 3), (.int c3)] h0 (QrmPt4_3 Z t c3 k c0 c1 c2 h0 n0) := by
 refine own_met (plainFor_of_name pn_java_lang_StringUTF16) (fun m_ => ef_rmPt4_3 m_ t c3) fun pp_ ee_ ss_ mm_ bb_ me_ cc_ s₁ Bd hx hby hml hown hZ hh X0 e0 => ?_
 have B_ {q_ : Nat} {r_ : _} (h_ : decode _ q_ = r_) := hb hby h_
 have hown : ss_.vm.findClass sc1 = some mm_.cls := hown
 have N0 := Fr.nil n0
 have Z0 : n0 ≤ h0.size := by have q := O0.2.1; rw [O0.1] at q; exact q
 have K0 : Keep h0 h0 [t] := Keep.refl _ _
 obtain ⟨G_cs, G_cs0, G_cw, G_h_java_lang_String_7, G_fm, G_fr, G_hb, G_lb, G_ad⟩ := id G_
 obtain ⟨T1, X1, e1, st1⟩ := getS2 X0 hx hZ hown (host := "") (Or.inl (w_ hw 97 rfl)) Via.refl e0 (G_ad.ext O0.2) (g := (mkF mm_ 0 #[vr t, vi 3, vi c3] [])) rfl (B_ dk67)
 refine sp_ st1 ?_
 show Go_ T1 (mkF mm_ 3 #[vr t, vi 3, vi c3] [(.int 1)])
 refine sp_ (fun t_ k_ => XS.ifYes X1.here hx rfl (pc0 := 3) (pc' := 28) rfl (B_ dk68) rfl ((if0 _ _).trans (feq (by decide : ¬ ((1 : Int32) = (0 : Int32)))).2) (by decide) (by decide) k_) ?_
 show Go_ T1 (mkF mm_ 28 #[vr t, vi 3, vi c3] [])
 refine sp_ (fun t_ k_ => XS.iloadN X1.here hx rfl (B_ dk69) rfl  (XS.iconst X1.here hx rfl (B_ dk70) (XS.ishl X1.here hx rfl (B_ dk71) rfl (XS.istoreN X1.here hx rfl (B_ dk72) rfl (l' := #[vr t, vi 6, vi c3]) rfl (XS.aloadN X1.here hx rfl (B_ dk73) rfl rfl (XS.iloadN X1.here hx rfl (B_ dk74) rfl  (XS.iinc X1.here hx rfl (B_ dk75) rfl (l' := #[vr t, vi 7, vi c3]) rfl (XS.iloadN X1.here hx rfl (B_ dk76) rfl  k_)))))))) ?_
 obtain ⟨T2, X2, e2, st2⟩ := getS2 X1 hx hZ hown (host := "") (Or.inl (w_ hw 98 rfl)) Via.refl e1 (G_hb.ext O0.2) (g := (mkF mm_ 38 #[vr t, vi 7, vi c3] [(.int c3), (.int 6), (.ref t)])) rfl (B_ dk77)
 refine sp_ st2 ?_
 show Go_ T2 (mkF mm_ 41 #[vr t, vi 7, vi c3] [(.int 0), (.int c3), (.int 6), (.ref t)])
 refine sp_ (fun t_ k_ => XS.ishr X2.here hx rfl (B_ dk78) rfl (XS.i2b X2.here hx rfl (B_ dk79) rfl k_)) ?_
 obtain ⟨cl3, Ar3, q3, S3, M3, H3, G3⟩ := id pr0
 have hin3 : ¬ ((6 : Int32) < 0 ∨ cl3.slots.size ≤ ((6 : Int32)).toNatClampNeg) := inb_of S3 ⟨by decide, by decide⟩
 obtain ⟨T3, h3, X3, e3, W3, st3⟩ := stB X2 hx hZ e2 Ar3 (j := (6 : Int32)) hin3 (g := (mkF mm_ 43 #[vr t, vi 7, vi c3] [(lb c3), (.int 6), (.ref t)])) rfl rfl (B_ dk80)
 have V3 : Arv Z h3 t k .byte (8 : Int32) [(lb c0), (hb_ c0), (lb c1), (hb_ c1), (lb c2), (hb_ c2), (lb c3), (.int 0)] (.int 0) := by
  have q := Arv.set Ar3 q3 S3 M3 H3 G3 (fits_nar_byte _) W3 6 rfl (Nat.le_of_ble_eq_true rfl)
  rw [own_narB] at q
  exact q
 have N3 := Fr.snoc X3 N0 g_t
 refine sp_ st3 ?_
 show Go_ T3 (mkF mm_ 44 #[vr t, vi 7, vi c3] [])
 refine sp_ (fun t_ k_ => XS.aloadN X3.here hx rfl (B_ dk81) rfl rfl (XS.iloadN X3.here hx rfl (B_ dk82) rfl  (XS.iloadN X3.here hx rfl (B_ dk83) rfl  k_))) ?_
 have O4 : Old Z n0 h3 := (O0.wr W3 g_t)
 obtain ⟨T5, X5, e5, st5⟩ := getS2 X3 hx hZ hown (host := "") (Or.inl (w_ hw 99 rfl)) Via.refl e3 (G_lb.ext O4.2) (g := (mkF mm_ 47 #[vr t, vi 7, vi c3] [(.int c3), (.int 7), (.ref t)])) rfl (B_ dk84)
 refine sp_ st5 ?_
 show Go_ T5 (mkF mm_ 50 #[vr t, vi 7, vi c3] [(.int 8), (.int c3), (.int 7), (.ref t)])
 refine sp_ (fun t_ k_ => XS.ishr X5.here hx rfl (B_ dk85) rfl (XS.i2b X5.here hx rfl (B_ dk86) rfl k_)) ?_
 obtain ⟨cl6, Ar6, q6, S6, M6, H6, G6⟩ := id V3
 have hin6 : ¬ ((7 : Int32) < 0 ∨ cl6.slots.size ≤ ((7 : Int32)).toNatClampNeg) := inb_of S6 ⟨by decide, by decide⟩
 obtain ⟨T6, h6, X6, e6, W6, st6⟩ := stB X5 hx hZ e5 Ar6 (j := (7 : Int32)) hin6 (g := (mkF mm_ 52 #[vr t, vi 7, vi c3] [(hb_ c3), (.int 7), (.ref t)])) rfl rfl (B_ dk87)
 have V6 : Arv Z h6 t k .byte (8 : Int32) [(lb c0), (hb_ c0), (lb c1), (hb_ c1), (lb c2), (hb_ c2), (lb c3), (hb_ c3)] (.int 0) := by
  have q := Arv.set Ar6 q6 S6 M6 H6 G6 (fits_nar_byte _) W6 7 rfl (Nat.le_of_ble_eq_true rfl)
  rw [own_narB] at q
  exact q
 have N6 := Fr.snoc X6 N3 g_t
 refine sp_ st6 ?_
 show Go_ T6 (mkF mm_ 53 #[vr t, vi 7, vi c3] [])
 have K7 : Keep h0 h6 [t] := ((K0.wr W3 (Or.inl (List.mem_of_getElem? (i := 0) rfl))).wr W6 (Or.inl (List.mem_of_getElem? (i := 0) rfl)))
 obtain ⟨fs, hr, hrun, hended, hW, hsame⟩ := X6.leave (v := none) (fun _ => rfl)
 refine ⟨_, _, ?_, hrun, hended, _, _, rfl, ?_, ⟨_, rfl⟩, hW, hsame.mono (by decide) (by decide)⟩
 · exact X6.returnOut hx Bd.returns (B_ dk88) hr
 · show QrmPt4_3 Z t c3 k c0 c1 c2 h0 n0 none T6.heap _
   rw [e6]
   exact ⟨rfl, N6, K7, V6⟩
theorem dk89 : decode J8 0 = .ok (.getstatic 44, 3) := by decide +kernel
theorem dk90 : decode J8 3 = .ok (.ifCond .ne 25, 3) := by decide +kernel
theorem dk91 : decode J8 28 = .ok (.iload_n 1, 1) := by decide +kernel
theorem dk92 : decode J8 29 = .ok (.iconst 1, 1) := by decide +kernel
theorem dk93 : decode J8 30 = .ok (.ishl, 1) := by decide +kernel
theorem dk94 : decode J8 31 = .ok (.istore_n 1, 1) := by decide +kernel
theorem dk95 : decode J8 32 = .ok (.aload_n 0, 1) := by decide +kernel
theorem dk96 : decode J8 33 = .ok (.iload_n 1, 1) := by decide +kernel
theorem dk97 : decode J8 34 = .ok (.iinc 1 1, 3) := by decide +kernel
theorem dk98 : decode J8 37 = .ok (.baload, 1) := by decide +kernel
theorem dk99 : decode J8 38 = .ok (.sipush 255, 3) := by decide +kernel
theorem dk100 : decode J8 41 = .ok (.iand, 1) := by decide +kernel
theorem dk101 : decode J8 42 = .ok (.getstatic 59, 3) := by decide +kernel
theorem dk102 : decode J8 45 = .ok (.ishl, 1) := by decide +kernel
theorem dk103 : decode J8 46 = .ok (.aload_n 0, 1) := by decide +kernel
theorem dk104 : decode J8 47 = .ok (.iload_n 1, 1) := by decide +kernel
theorem dk105 : decode J8 48 = .ok (.baload, 1) := by decide +kernel
theorem dk106 : decode J8 49 = .ok (.sipush 255, 3) := by decide +kernel
theorem dk107 : decode J8 52 = .ok (.iand, 1) := by decide +kernel
theorem dk108 : decode J8 53 = .ok (.getstatic 63, 3) := by decide +kernel
theorem dk109 : decode J8 56 = .ok (.ishl, 1) := by decide +kernel
theorem dk110 : decode J8 57 = .ok (.ior, 1) := by decide +kernel
theorem dk111 : decode J8 58 = .ok (.i2c, 1) := by decide +kernel
theorem dk112 : decode J8 59 = .ok (.ireturn, 1) := by decide +kernel
theorem ef_rmGt0 (mm_ : MethodId) (t : Addr) : entryFrame mm_ #[(.ref t), (.int 0)] 2 = (mkF mm_ 0 #[vr t, vi 0] []) := by first | (simp [entryFrame, mkF, argsToLocals, Value.category]; done) | rfl
def QrmGt0 (Z : State) (t : Addr) (k : ClassId) (z : Int32) (vs : List Value) (c : Int32) (h0 : Heap) (n0 : Nat) (vv_ : Option Value) (hh_ : Heap) (LL_ : List Loc) : Prop := (vv_ = some (.int c)) ∧ (LL_ = []) ∧ (hh_ = h0)
theorem rmGt0 (l : Launch) (Z : State) (a0 : Array Value) (hw : own_Hw a0 Z) (ws : List Jvm.Cond) (t : Addr) (k : ClassId) (z : Int32) (vs : List Value) (c : Int32) {zc : Int32} {fm : Value} (h0 : Heap) (n0 : Nat) (O0 : Old Z n0 h0) (G_ : own_St Z zc fm) (pr0 : Arv Z h0 t k .byte z vs (.int 0)) (hz0 : (0 : Int32) < z) (hz1 : (1 : Int32) < z) (hv0 : vs.getD 0 (.int 0) = (lb c)) (hv1 : vs.getD 1 (.int 0) = (hb_ c)) (hc_c : ¬ c < (0 : Int32) ∧ ¬ (65535 : Int32) < c) :
 own_MF l Z ym7 J8 2 (some .char) ws (rm_ 0 0 0 0) #[(.ref t), (.int 0)] h0 (QrmGt0 Z t k z vs c h0 n0) := by
 refine own_met (plainFor_of_name pn_java_lang_StringUTF16) (fun m_ => ef_rmGt0 m_ t) fun pp_ ee_ ss_ mm_ bb_ me_ cc_ s₁ Bd hx hby hml hown hZ hh X0 e0 => ?_
 have B_ {q_ : Nat} {r_ : _} (h_ : decode _ q_ = r_) := hb hby h_
 have hown : ss_.vm.findClass sc1 = some mm_.cls := hown
 have N0 := Fr.nil n0
 have Z0 : n0 ≤ h0.size := by have q := O0.2.1; rw [O0.1] at q; exact q
 have K0 : Keep h0 h0 [] := Keep.refl _ _
 obtain ⟨G_cs, G_cs0, G_cw, G_h_java_lang_String_7, G_fm, G_fr, G_hb, G_lb, G_ad⟩ := id G_
 show Go_ s₁ (mkF mm_ 0 #[vr t, vi 0] [])
 obtain ⟨T1, X1, e1, st1⟩ := getS2 X0 hx hZ hown (host := "") (Or.inl (w_ hw 97 rfl)) Via.refl e0 (G_ad.ext O0.2) (g := (mkF mm_ 0 #[vr t, vi 0] [])) rfl (B_ dk89)
 refine sp_ st1 ?_
 show Go_ T1 (mkF mm_ 3 #[vr t, vi 0] [(.int 1)])
 refine sp_ (fun t_ k_ => XS.ifYes X1.here hx rfl (pc0 := 3) (pc' := 28) rfl (B_ dk90) rfl ((if0 _ _).trans (feq (by decide : ¬ ((1 : Int32) = (0 : Int32)))).2) (by decide) (by decide) k_) ?_
 show Go_ T1 (mkF mm_ 28 #[vr t, vi 0] [])
 refine sp_ (fun t_ k_ => XS.iloadN X1.here hx rfl (B_ dk91) rfl  (XS.iconst X1.here hx rfl (B_ dk92) (XS.ishl X1.here hx rfl (B_ dk93) rfl (XS.istoreN X1.here hx rfl (B_ dk94) rfl (l' := #[vr t, vi 0]) rfl (XS.aloadN X1.here hx rfl (B_ dk95) rfl rfl (XS.iloadN X1.here hx rfl (B_ dk96) rfl  (XS.iinc X1.here hx rfl (B_ dk97) rfl (l' := #[vr t, vi 1]) rfl k_))))))) ?_
 obtain ⟨cl2, Ar2, q2, S2, M2, H2, G2⟩ := id pr0
 have hin2 : ¬ ((0 : Int32) < 0 ∨ cl2.slots.size ≤ ((0 : Int32)).toNatClampNeg) := inb_of S2 ⟨by decide, hz0⟩
 have hat2 : cl2.slots[((0 : Int32)).toNatClampNeg]? = some (lb c) := Has.at H2 hin2 hv0
 refine sp_ (fun t_ k_ => X1.baloadBytes hx (j := (0 : Int32)) (v := (lb c)) (by rw [e1]; exact Ar2.1) (State.isArrayOf_alike hZ.alike Ar2.2.1) Ar2.2.2 hin2 hat2 (g := (mkF mm_ 37 #[vr t, vi 1] [(.int 0), (.ref t)])) rfl rfl (B_ dk98) t_ k_) ?_
 show Go_ T1 (mkF mm_ 38 #[vr t, vi 1] [(lb c)])
 refine sp_ (fun t_ k_ => XS.sipush X1.here hx rfl (B_ dk99) (XS.iand X1.here hx rfl (B_ dk100) rfl k_)) ?_
 obtain ⟨T3, X3, e3, st3⟩ := getS2 X1 hx hZ hown (host := "") (Or.inl (w_ hw 98 rfl)) Via.refl e1 (G_hb.ext O0.2) (g := (mkF mm_ 42 #[vr t, vi 1] [(.int (((c >>> ((0 : Int32) &&& 31)).toInt8.toInt32) &&& (255 : Int32)))])) rfl (B_ dk101)
 refine sp_ st3 ?_
 show Go_ T3 (mkF mm_ 45 #[vr t, vi 1] [(.int 0), (.int (((c >>> ((0 : Int32) &&& 31)).toInt8.toInt32) &&& (255 : Int32)))])
 refine sp_ (fun t_ k_ => XS.ishl X3.here hx rfl (B_ dk102) rfl (XS.aloadN X3.here hx rfl (B_ dk103) rfl rfl (XS.iloadN X3.here hx rfl (B_ dk104) rfl  k_))) ?_
 obtain ⟨cl4, Ar4, q4, S4, M4, H4, G4⟩ := id pr0
 have hin4 : ¬ ((1 : Int32) < 0 ∨ cl4.slots.size ≤ ((1 : Int32)).toNatClampNeg) := inb_of S4 ⟨by decide, hz1⟩
 have hat4 : cl4.slots[((1 : Int32)).toNatClampNeg]? = some (hb_ c) := Has.at H4 hin4 hv1
 refine sp_ (fun t_ k_ => X3.baloadBytes hx (j := (1 : Int32)) (v := (hb_ c)) (by rw [e3]; exact Ar4.1) (State.isArrayOf_alike hZ.alike Ar4.2.1) Ar4.2.2 hin4 hat4 (g := (mkF mm_ 48 #[vr t, vi 1] [(.int 1), (.ref t), (.int ((((c >>> ((0 : Int32) &&& 31)).toInt8.toInt32) &&& (255 : Int32)) <<< ((0 : Int32) &&& 31)))])) rfl rfl (B_ dk105) t_ k_) ?_
 show Go_ T3 (mkF mm_ 49 #[vr t, vi 1] [(hb_ c), (.int ((((c >>> ((0 : Int32) &&& 31)).toInt8.toInt32) &&& (255 : Int32)) <<< ((0 : Int32) &&& 31)))])
 refine sp_ (fun t_ k_ => XS.sipush X3.here hx rfl (B_ dk106) (XS.iand X3.here hx rfl (B_ dk107) rfl k_)) ?_
 obtain ⟨T5, X5, e5, st5⟩ := getS2 X3 hx hZ hown (host := "") (Or.inl (w_ hw 99 rfl)) Via.refl e3 (G_lb.ext O0.2) (g := (mkF mm_ 53 #[vr t, vi 1] [(.int (((c >>> ((8 : Int32) &&& 31)).toInt8.toInt32) &&& (255 : Int32))), (.int ((((c >>> ((0 : Int32) &&& 31)).toInt8.toInt32) &&& (255 : Int32)) <<< ((0 : Int32) &&& 31)))])) rfl (B_ dk108)
 refine sp_ st5 ?_
 show Go_ T5 (mkF mm_ 56 #[vr t, vi 1] [(.int 8), (.int (((c >>> ((8 : Int32) &&& 31)).toInt8.toInt32) &&& (255 : Int32))), (.int ((((c >>> ((0 : Int32) &&& 31)).toInt8.toInt32) &&& (255 : Int32)) <<< ((0 : Int32) &&& 31)))])
 refine sp_ (fun t_ k_ => XS.ishl X5.here hx rfl (B_ dk109) rfl (XS.ior X5.here hx rfl (B_ dk110) rfl k_)) ?_
 show Go_ T5 (mkF mm_ 58 #[vr t, vi 1] [(.int (((((c >>> ((0 : Int32) &&& 31)).toInt8.toInt32) &&& (255 : Int32)) <<< ((0 : Int32) &&& 31)) ||| ((((c >>> ((8 : Int32) &&& 31)).toInt8.toInt32) &&& (255 : Int32)) <<< ((8 : Int32) &&& 31))))])
 refine sp_ (fun t_ k_ => XS.i2c X5.here hx rfl (B_ dk111) rfl (by rw [own_pair hc_c.1 hc_c.2]; exact k_)) ?_
 show Go_ T5 (mkF mm_ 59 #[vr t, vi 1] [(.int c)])
 obtain ⟨fs, hr, hrun, hended, hW, hsame⟩ := X5.leave (v := some (.int (nar .char c))) (rN Bd.returns)
 refine ⟨_, _, ?_, hrun, hended, _, _, rfl, ?_, ⟨_, rfl⟩, hW, hsame.mono (by decide) (by decide)⟩
 · exact retN X5 hx (t := .char) Bd.returns (by simp) (B_ dk112) hr
 · show QrmGt0 Z t k z vs c h0 n0 (some (.int (nar .char c))) T5.heap _
   rw [e5]
   exact ⟨(by rw [own_narLit _ hc_c.1 hc_c.2]), rfl, rfl⟩
theorem ef_rmGt1 (mm_ : MethodId) (t : Addr) : entryFrame mm_ #[(.ref t), (.int 1)] 2 = (mkF mm_ 0 #[vr t, vi 1] []) := by first | (simp [entryFrame, mkF, argsToLocals, Value.category]; done) | rfl
def QrmGt1 (Z : State) (t : Addr) (k : ClassId) (z : Int32) (vs : List Value) (c : Int32) (h0 : Heap) (n0 : Nat) (vv_ : Option Value) (hh_ : Heap) (LL_ : List Loc) : Prop := (vv_ = some (.int c)) ∧ (LL_ = []) ∧ (hh_ = h0)
theorem rmGt1 (l : Launch) (Z : State) (a0 : Array Value) (hw : own_Hw a0 Z) (ws : List Jvm.Cond) (t : Addr) (k : ClassId) (z : Int32) (vs : List Value) (c : Int32) {zc : Int32} {fm : Value} (h0 : Heap) (n0 : Nat) (O0 : Old Z n0 h0) (G_ : own_St Z zc fm) (pr0 : Arv Z h0 t k .byte z vs (.int 0)) (hz0 : (2 : Int32) < z) (hz1 : (3 : Int32) < z) (hv0 : vs.getD 2 (.int 0) = (lb c)) (hv1 : vs.getD 3 (.int 0) = (hb_ c)) (hc_c : ¬ c < (0 : Int32) ∧ ¬ (65535 : Int32) < c) :
 own_MF l Z ym7 J8 2 (some .char) ws (rm_ 0 0 0 0) #[(.ref t), (.int 1)] h0 (QrmGt1 Z t k z vs c h0 n0) := by
 refine own_met (plainFor_of_name pn_java_lang_StringUTF16) (fun m_ => ef_rmGt1 m_ t) fun pp_ ee_ ss_ mm_ bb_ me_ cc_ s₁ Bd hx hby hml hown hZ hh X0 e0 => ?_
 have B_ {q_ : Nat} {r_ : _} (h_ : decode _ q_ = r_) := hb hby h_
 have hown : ss_.vm.findClass sc1 = some mm_.cls := hown
 have N0 := Fr.nil n0
 have Z0 : n0 ≤ h0.size := by have q := O0.2.1; rw [O0.1] at q; exact q
 have K0 : Keep h0 h0 [] := Keep.refl _ _
 obtain ⟨G_cs, G_cs0, G_cw, G_h_java_lang_String_7, G_fm, G_fr, G_hb, G_lb, G_ad⟩ := id G_
 show Go_ s₁ (mkF mm_ 0 #[vr t, vi 1] [])
 obtain ⟨T1, X1, e1, st1⟩ := getS2 X0 hx hZ hown (host := "") (Or.inl (w_ hw 97 rfl)) Via.refl e0 (G_ad.ext O0.2) (g := (mkF mm_ 0 #[vr t, vi 1] [])) rfl (B_ dk89)
 refine sp_ st1 ?_
 show Go_ T1 (mkF mm_ 3 #[vr t, vi 1] [(.int 1)])
 refine sp_ (fun t_ k_ => XS.ifYes X1.here hx rfl (pc0 := 3) (pc' := 28) rfl (B_ dk90) rfl ((if0 _ _).trans (feq (by decide : ¬ ((1 : Int32) = (0 : Int32)))).2) (by decide) (by decide) k_) ?_
 show Go_ T1 (mkF mm_ 28 #[vr t, vi 1] [])
 refine sp_ (fun t_ k_ => XS.iloadN X1.here hx rfl (B_ dk91) rfl  (XS.iconst X1.here hx rfl (B_ dk92) (XS.ishl X1.here hx rfl (B_ dk93) rfl (XS.istoreN X1.here hx rfl (B_ dk94) rfl (l' := #[vr t, vi 2]) rfl (XS.aloadN X1.here hx rfl (B_ dk95) rfl rfl (XS.iloadN X1.here hx rfl (B_ dk96) rfl  (XS.iinc X1.here hx rfl (B_ dk97) rfl (l' := #[vr t, vi 3]) rfl k_))))))) ?_
 obtain ⟨cl2, Ar2, q2, S2, M2, H2, G2⟩ := id pr0
 have hin2 : ¬ ((2 : Int32) < 0 ∨ cl2.slots.size ≤ ((2 : Int32)).toNatClampNeg) := inb_of S2 ⟨by decide, hz0⟩
 have hat2 : cl2.slots[((2 : Int32)).toNatClampNeg]? = some (lb c) := Has.at H2 hin2 hv0
 refine sp_ (fun t_ k_ => X1.baloadBytes hx (j := (2 : Int32)) (v := (lb c)) (by rw [e1]; exact Ar2.1) (State.isArrayOf_alike hZ.alike Ar2.2.1) Ar2.2.2 hin2 hat2 (g := (mkF mm_ 37 #[vr t, vi 3] [(.int 2), (.ref t)])) rfl rfl (B_ dk98) t_ k_) ?_
 show Go_ T1 (mkF mm_ 38 #[vr t, vi 3] [(lb c)])
 refine sp_ (fun t_ k_ => XS.sipush X1.here hx rfl (B_ dk99) (XS.iand X1.here hx rfl (B_ dk100) rfl k_)) ?_
 obtain ⟨T3, X3, e3, st3⟩ := getS2 X1 hx hZ hown (host := "") (Or.inl (w_ hw 98 rfl)) Via.refl e1 (G_hb.ext O0.2) (g := (mkF mm_ 42 #[vr t, vi 3] [(.int (((c >>> ((0 : Int32) &&& 31)).toInt8.toInt32) &&& (255 : Int32)))])) rfl (B_ dk101)
 refine sp_ st3 ?_
 show Go_ T3 (mkF mm_ 45 #[vr t, vi 3] [(.int 0), (.int (((c >>> ((0 : Int32) &&& 31)).toInt8.toInt32) &&& (255 : Int32)))])
 refine sp_ (fun t_ k_ => XS.ishl X3.here hx rfl (B_ dk102) rfl (XS.aloadN X3.here hx rfl (B_ dk103) rfl rfl (XS.iloadN X3.here hx rfl (B_ dk104) rfl  k_))) ?_
 obtain ⟨cl4, Ar4, q4, S4, M4, H4, G4⟩ := id pr0
 have hin4 : ¬ ((3 : Int32) < 0 ∨ cl4.slots.size ≤ ((3 : Int32)).toNatClampNeg) := inb_of S4 ⟨by decide, hz1⟩
 have hat4 : cl4.slots[((3 : Int32)).toNatClampNeg]? = some (hb_ c) := Has.at H4 hin4 hv1
 refine sp_ (fun t_ k_ => X3.baloadBytes hx (j := (3 : Int32)) (v := (hb_ c)) (by rw [e3]; exact Ar4.1) (State.isArrayOf_alike hZ.alike Ar4.2.1) Ar4.2.2 hin4 hat4 (g := (mkF mm_ 48 #[vr t, vi 3] [(.int 3), (.ref t), (.int ((((c >>> ((0 : Int32) &&& 31)).toInt8.toInt32) &&& (255 : Int32)) <<< ((0 : Int32) &&& 31)))])) rfl rfl (B_ dk105) t_ k_) ?_
 show Go_ T3 (mkF mm_ 49 #[vr t, vi 3] [(hb_ c), (.int ((((c >>> ((0 : Int32) &&& 31)).toInt8.toInt32) &&& (255 : Int32)) <<< ((0 : Int32) &&& 31)))])
 refine sp_ (fun t_ k_ => XS.sipush X3.here hx rfl (B_ dk106) (XS.iand X3.here hx rfl (B_ dk107) rfl k_)) ?_
 obtain ⟨T5, X5, e5, st5⟩ := getS2 X3 hx hZ hown (host := "") (Or.inl (w_ hw 99 rfl)) Via.refl e3 (G_lb.ext O0.2) (g := (mkF mm_ 53 #[vr t, vi 3] [(.int (((c >>> ((8 : Int32) &&& 31)).toInt8.toInt32) &&& (255 : Int32))), (.int ((((c >>> ((0 : Int32) &&& 31)).toInt8.toInt32) &&& (255 : Int32)) <<< ((0 : Int32) &&& 31)))])) rfl (B_ dk108)
 refine sp_ st5 ?_
 show Go_ T5 (mkF mm_ 56 #[vr t, vi 3] [(.int 8), (.int (((c >>> ((8 : Int32) &&& 31)).toInt8.toInt32) &&& (255 : Int32))), (.int ((((c >>> ((0 : Int32) &&& 31)).toInt8.toInt32) &&& (255 : Int32)) <<< ((0 : Int32) &&& 31)))])
 refine sp_ (fun t_ k_ => XS.ishl X5.here hx rfl (B_ dk109) rfl (XS.ior X5.here hx rfl (B_ dk110) rfl k_)) ?_
 show Go_ T5 (mkF mm_ 58 #[vr t, vi 3] [(.int (((((c >>> ((0 : Int32) &&& 31)).toInt8.toInt32) &&& (255 : Int32)) <<< ((0 : Int32) &&& 31)) ||| ((((c >>> ((8 : Int32) &&& 31)).toInt8.toInt32) &&& (255 : Int32)) <<< ((8 : Int32) &&& 31))))])
 refine sp_ (fun t_ k_ => XS.i2c X5.here hx rfl (B_ dk111) rfl (by rw [own_pair hc_c.1 hc_c.2]; exact k_)) ?_
 show Go_ T5 (mkF mm_ 59 #[vr t, vi 3] [(.int c)])
 obtain ⟨fs, hr, hrun, hended, hW, hsame⟩ := X5.leave (v := some (.int (nar .char c))) (rN Bd.returns)
 refine ⟨_, _, ?_, hrun, hended, _, _, rfl, ?_, ⟨_, rfl⟩, hW, hsame.mono (by decide) (by decide)⟩
 · exact retN X5 hx (t := .char) Bd.returns (by simp) (B_ dk112) hr
 · show QrmGt1 Z t k z vs c h0 n0 (some (.int (nar .char c))) T5.heap _
   rw [e5]
   exact ⟨(by rw [own_narLit _ hc_c.1 hc_c.2]), rfl, rfl⟩
theorem ef_rmGt2 (mm_ : MethodId) (t : Addr) : entryFrame mm_ #[(.ref t), (.int 2)] 2 = (mkF mm_ 0 #[vr t, vi 2] []) := by first | (simp [entryFrame, mkF, argsToLocals, Value.category]; done) | rfl
def QrmGt2 (Z : State) (t : Addr) (k : ClassId) (z : Int32) (vs : List Value) (c : Int32) (h0 : Heap) (n0 : Nat) (vv_ : Option Value) (hh_ : Heap) (LL_ : List Loc) : Prop := (vv_ = some (.int c)) ∧ (LL_ = []) ∧ (hh_ = h0)
theorem rmGt2 (l : Launch) (Z : State) (a0 : Array Value) (hw : own_Hw a0 Z) (ws : List Jvm.Cond) (t : Addr) (k : ClassId) (z : Int32) (vs : List Value) (c : Int32) {zc : Int32} {fm : Value} (h0 : Heap) (n0 : Nat) (O0 : Old Z n0 h0) (G_ : own_St Z zc fm) (pr0 : Arv Z h0 t k .byte z vs (.int 0)) (hz0 : (4 : Int32) < z) (hz1 : (5 : Int32) < z) (hv0 : vs.getD 4 (.int 0) = (lb c)) (hv1 : vs.getD 5 (.int 0) = (hb_ c)) (hc_c : ¬ c < (0 : Int32) ∧ ¬ (65535 : Int32) < c) :
 own_MF l Z ym7 J8 2 (some .char) ws (rm_ 0 0 0 0) #[(.ref t), (.int 2)] h0 (QrmGt2 Z t k z vs c h0 n0) := by
 refine own_met (plainFor_of_name pn_java_lang_StringUTF16) (fun m_ => ef_rmGt2 m_ t) fun pp_ ee_ ss_ mm_ bb_ me_ cc_ s₁ Bd hx hby hml hown hZ hh X0 e0 => ?_
 have B_ {q_ : Nat} {r_ : _} (h_ : decode _ q_ = r_) := hb hby h_
 have hown : ss_.vm.findClass sc1 = some mm_.cls := hown
 have N0 := Fr.nil n0
 have Z0 : n0 ≤ h0.size := by have q := O0.2.1; rw [O0.1] at q; exact q
 have K0 : Keep h0 h0 [] := Keep.refl _ _
 obtain ⟨G_cs, G_cs0, G_cw, G_h_java_lang_String_7, G_fm, G_fr, G_hb, G_lb, G_ad⟩ := id G_
 show Go_ s₁ (mkF mm_ 0 #[vr t, vi 2] [])
 obtain ⟨T1, X1, e1, st1⟩ := getS2 X0 hx hZ hown (host := "") (Or.inl (w_ hw 97 rfl)) Via.refl e0 (G_ad.ext O0.2) (g := (mkF mm_ 0 #[vr t, vi 2] [])) rfl (B_ dk89)
 refine sp_ st1 ?_
 show Go_ T1 (mkF mm_ 3 #[vr t, vi 2] [(.int 1)])
 refine sp_ (fun t_ k_ => XS.ifYes X1.here hx rfl (pc0 := 3) (pc' := 28) rfl (B_ dk90) rfl ((if0 _ _).trans (feq (by decide : ¬ ((1 : Int32) = (0 : Int32)))).2) (by decide) (by decide) k_) ?_
 show Go_ T1 (mkF mm_ 28 #[vr t, vi 2] [])
 refine sp_ (fun t_ k_ => XS.iloadN X1.here hx rfl (B_ dk91) rfl  (XS.iconst X1.here hx rfl (B_ dk92) (XS.ishl X1.here hx rfl (B_ dk93) rfl (XS.istoreN X1.here hx rfl (B_ dk94) rfl (l' := #[vr t, vi 4]) rfl (XS.aloadN X1.here hx rfl (B_ dk95) rfl rfl (XS.iloadN X1.here hx rfl (B_ dk96) rfl  (XS.iinc X1.here hx rfl (B_ dk97) rfl (l' := #[vr t, vi 5]) rfl k_))))))) ?_
 obtain ⟨cl2, Ar2, q2, S2, M2, H2, G2⟩ := id pr0
 have hin2 : ¬ ((4 : Int32) < 0 ∨ cl2.slots.size ≤ ((4 : Int32)).toNatClampNeg) := inb_of S2 ⟨by decide, hz0⟩
 have hat2 : cl2.slots[((4 : Int32)).toNatClampNeg]? = some (lb c) := Has.at H2 hin2 hv0
 refine sp_ (fun t_ k_ => X1.baloadBytes hx (j := (4 : Int32)) (v := (lb c)) (by rw [e1]; exact Ar2.1) (State.isArrayOf_alike hZ.alike Ar2.2.1) Ar2.2.2 hin2 hat2 (g := (mkF mm_ 37 #[vr t, vi 5] [(.int 4), (.ref t)])) rfl rfl (B_ dk98) t_ k_) ?_
 show Go_ T1 (mkF mm_ 38 #[vr t, vi 5] [(lb c)])
 refine sp_ (fun t_ k_ => XS.sipush X1.here hx rfl (B_ dk99) (XS.iand X1.here hx rfl (B_ dk100) rfl k_)) ?_
 obtain ⟨T3, X3, e3, st3⟩ := getS2 X1 hx hZ hown (host := "") (Or.inl (w_ hw 98 rfl)) Via.refl e1 (G_hb.ext O0.2) (g := (mkF mm_ 42 #[vr t, vi 5] [(.int (((c >>> ((0 : Int32) &&& 31)).toInt8.toInt32) &&& (255 : Int32)))])) rfl (B_ dk101)
 refine sp_ st3 ?_
 show Go_ T3 (mkF mm_ 45 #[vr t, vi 5] [(.int 0), (.int (((c >>> ((0 : Int32) &&& 31)).toInt8.toInt32) &&& (255 : Int32)))])
 refine sp_ (fun t_ k_ => XS.ishl X3.here hx rfl (B_ dk102) rfl (XS.aloadN X3.here hx rfl (B_ dk103) rfl rfl (XS.iloadN X3.here hx rfl (B_ dk104) rfl  k_))) ?_
 obtain ⟨cl4, Ar4, q4, S4, M4, H4, G4⟩ := id pr0
 have hin4 : ¬ ((5 : Int32) < 0 ∨ cl4.slots.size ≤ ((5 : Int32)).toNatClampNeg) := inb_of S4 ⟨by decide, hz1⟩
 have hat4 : cl4.slots[((5 : Int32)).toNatClampNeg]? = some (hb_ c) := Has.at H4 hin4 hv1
 refine sp_ (fun t_ k_ => X3.baloadBytes hx (j := (5 : Int32)) (v := (hb_ c)) (by rw [e3]; exact Ar4.1) (State.isArrayOf_alike hZ.alike Ar4.2.1) Ar4.2.2 hin4 hat4 (g := (mkF mm_ 48 #[vr t, vi 5] [(.int 5), (.ref t), (.int ((((c >>> ((0 : Int32) &&& 31)).toInt8.toInt32) &&& (255 : Int32)) <<< ((0 : Int32) &&& 31)))])) rfl rfl (B_ dk105) t_ k_) ?_
 show Go_ T3 (mkF mm_ 49 #[vr t, vi 5] [(hb_ c), (.int ((((c >>> ((0 : Int32) &&& 31)).toInt8.toInt32) &&& (255 : Int32)) <<< ((0 : Int32) &&& 31)))])
 refine sp_ (fun t_ k_ => XS.sipush X3.here hx rfl (B_ dk106) (XS.iand X3.here hx rfl (B_ dk107) rfl k_)) ?_
 obtain ⟨T5, X5, e5, st5⟩ := getS2 X3 hx hZ hown (host := "") (Or.inl (w_ hw 99 rfl)) Via.refl e3 (G_lb.ext O0.2) (g := (mkF mm_ 53 #[vr t, vi 5] [(.int (((c >>> ((8 : Int32) &&& 31)).toInt8.toInt32) &&& (255 : Int32))), (.int ((((c >>> ((0 : Int32) &&& 31)).toInt8.toInt32) &&& (255 : Int32)) <<< ((0 : Int32) &&& 31)))])) rfl (B_ dk108)
 refine sp_ st5 ?_
 show Go_ T5 (mkF mm_ 56 #[vr t, vi 5] [(.int 8), (.int (((c >>> ((8 : Int32) &&& 31)).toInt8.toInt32) &&& (255 : Int32))), (.int ((((c >>> ((0 : Int32) &&& 31)).toInt8.toInt32) &&& (255 : Int32)) <<< ((0 : Int32) &&& 31)))])
 refine sp_ (fun t_ k_ => XS.ishl X5.here hx rfl (B_ dk109) rfl (XS.ior X5.here hx rfl (B_ dk110) rfl k_)) ?_
 show Go_ T5 (mkF mm_ 58 #[vr t, vi 5] [(.int (((((c >>> ((0 : Int32) &&& 31)).toInt8.toInt32) &&& (255 : Int32)) <<< ((0 : Int32) &&& 31)) ||| ((((c >>> ((8 : Int32) &&& 31)).toInt8.toInt32) &&& (255 : Int32)) <<< ((8 : Int32) &&& 31))))])
 refine sp_ (fun t_ k_ => XS.i2c X5.here hx rfl (B_ dk111) rfl (by rw [own_pair hc_c.1 hc_c.2]; exact k_)) ?_
 show Go_ T5 (mkF mm_ 59 #[vr t, vi 5] [(.int c)])
 obtain ⟨fs, hr, hrun, hended, hW, hsame⟩ := X5.leave (v := some (.int (nar .char c))) (rN Bd.returns)
 refine ⟨_, _, ?_, hrun, hended, _, _, rfl, ?_, ⟨_, rfl⟩, hW, hsame.mono (by decide) (by decide)⟩
 · exact retN X5 hx (t := .char) Bd.returns (by simp) (B_ dk112) hr
 · show QrmGt2 Z t k z vs c h0 n0 (some (.int (nar .char c))) T5.heap _
   rw [e5]
   exact ⟨(by rw [own_narLit _ hc_c.1 hc_c.2]), rfl, rfl⟩
theorem ef_rmGt3 (mm_ : MethodId) (t : Addr) : entryFrame mm_ #[(.ref t), (.int 3)] 2 = (mkF mm_ 0 #[vr t, vi 3] []) := by first | (simp [entryFrame, mkF, argsToLocals, Value.category]; done) | rfl
def QrmGt3 (Z : State) (t : Addr) (k : ClassId) (z : Int32) (vs : List Value) (c : Int32) (h0 : Heap) (n0 : Nat) (vv_ : Option Value) (hh_ : Heap) (LL_ : List Loc) : Prop := (vv_ = some (.int c)) ∧ (LL_ = []) ∧ (hh_ = h0)
theorem rmGt3 (l : Launch) (Z : State) (a0 : Array Value) (hw : own_Hw a0 Z) (ws : List Jvm.Cond) (t : Addr) (k : ClassId) (z : Int32) (vs : List Value) (c : Int32) {zc : Int32} {fm : Value} (h0 : Heap) (n0 : Nat) (O0 : Old Z n0 h0) (G_ : own_St Z zc fm) (pr0 : Arv Z h0 t k .byte z vs (.int 0)) (hz0 : (6 : Int32) < z) (hz1 : (7 : Int32) < z) (hv0 : vs.getD 6 (.int 0) = (lb c)) (hv1 : vs.getD 7 (.int 0) = (hb_ c)) (hc_c : ¬ c < (0 : Int32) ∧ ¬ (65535 : Int32) < c) :
 own_MF l Z ym7 J8 2 (some .char) ws (rm_ 0 0 0 0) #[(.ref t), (.int 3)] h0 (QrmGt3 Z t k z vs c h0 n0) := by
 refine own_met (plainFor_of_name pn_java_lang_StringUTF16) (fun m_ => ef_rmGt3 m_ t) fun pp_ ee_ ss_ mm_ bb_ me_ cc_ s₁ Bd hx hby hml hown hZ hh X0 e0 => ?_
 have B_ {q_ : Nat} {r_ : _} (h_ : decode _ q_ = r_) := hb hby h_
 have hown : ss_.vm.findClass sc1 = some mm_.cls := hown
 have N0 := Fr.nil n0
 have Z0 : n0 ≤ h0.size := by have q := O0.2.1; rw [O0.1] at q; exact q
 have K0 : Keep h0 h0 [] := Keep.refl _ _
 obtain ⟨G_cs, G_cs0, G_cw, G_h_java_lang_String_7, G_fm, G_fr, G_hb, G_lb, G_ad⟩ := id G_
 show Go_ s₁ (mkF mm_ 0 #[vr t, vi 3] [])
 obtain ⟨T1, X1, e1, st1⟩ := getS2 X0 hx hZ hown (host := "") (Or.inl (w_ hw 97 rfl)) Via.refl e0 (G_ad.ext O0.2) (g := (mkF mm_ 0 #[vr t, vi 3] [])) rfl (B_ dk89)
 refine sp_ st1 ?_
 show Go_ T1 (mkF mm_ 3 #[vr t, vi 3] [(.int 1)])
 refine sp_ (fun t_ k_ => XS.ifYes X1.here hx rfl (pc0 := 3) (pc' := 28) rfl (B_ dk90) rfl ((if0 _ _).trans (feq (by decide : ¬ ((1 : Int32) = (0 : Int32)))).2) (by decide) (by decide) k_) ?_
 show Go_ T1 (mkF mm_ 28 #[vr t, vi 3] [])
 refine sp_ (fun t_ k_ => XS.iloadN X1.here hx rfl (B_ dk91) rfl  (XS.iconst X1.here hx rfl (B_ dk92) (XS.ishl X1.here hx rfl (B_ dk93) rfl (XS.istoreN X1.here hx rfl (B_ dk94) rfl (l' := #[vr t, vi 6]) rfl (XS.aloadN X1.here hx rfl (B_ dk95) rfl rfl (XS.iloadN X1.here hx rfl (B_ dk96) rfl  (XS.iinc X1.here hx rfl (B_ dk97) rfl (l' := #[vr t, vi 7]) rfl k_))))))) ?_
 obtain ⟨cl2, Ar2, q2, S2, M2, H2, G2⟩ := id pr0
 have hin2 : ¬ ((6 : Int32) < 0 ∨ cl2.slots.size ≤ ((6 : Int32)).toNatClampNeg) := inb_of S2 ⟨by decide, hz0⟩
 have hat2 : cl2.slots[((6 : Int32)).toNatClampNeg]? = some (lb c) := Has.at H2 hin2 hv0
 refine sp_ (fun t_ k_ => X1.baloadBytes hx (j := (6 : Int32)) (v := (lb c)) (by rw [e1]; exact Ar2.1) (State.isArrayOf_alike hZ.alike Ar2.2.1) Ar2.2.2 hin2 hat2 (g := (mkF mm_ 37 #[vr t, vi 7] [(.int 6), (.ref t)])) rfl rfl (B_ dk98) t_ k_) ?_
 show Go_ T1 (mkF mm_ 38 #[vr t, vi 7] [(lb c)])
 refine sp_ (fun t_ k_ => XS.sipush X1.here hx rfl (B_ dk99) (XS.iand X1.here hx rfl (B_ dk100) rfl k_)) ?_
 obtain ⟨T3, X3, e3, st3⟩ := getS2 X1 hx hZ hown (host := "") (Or.inl (w_ hw 98 rfl)) Via.refl e1 (G_hb.ext O0.2) (g := (mkF mm_ 42 #[vr t, vi 7] [(.int (((c >>> ((0 : Int32) &&& 31)).toInt8.toInt32) &&& (255 : Int32)))])) rfl (B_ dk101)
 refine sp_ st3 ?_
 show Go_ T3 (mkF mm_ 45 #[vr t, vi 7] [(.int 0), (.int (((c >>> ((0 : Int32) &&& 31)).toInt8.toInt32) &&& (255 : Int32)))])
 refine sp_ (fun t_ k_ => XS.ishl X3.here hx rfl (B_ dk102) rfl (XS.aloadN X3.here hx rfl (B_ dk103) rfl rfl (XS.iloadN X3.here hx rfl (B_ dk104) rfl  k_))) ?_
 obtain ⟨cl4, Ar4, q4, S4, M4, H4, G4⟩ := id pr0
 have hin4 : ¬ ((7 : Int32) < 0 ∨ cl4.slots.size ≤ ((7 : Int32)).toNatClampNeg) := inb_of S4 ⟨by decide, hz1⟩
 have hat4 : cl4.slots[((7 : Int32)).toNatClampNeg]? = some (hb_ c) := Has.at H4 hin4 hv1
 refine sp_ (fun t_ k_ => X3.baloadBytes hx (j := (7 : Int32)) (v := (hb_ c)) (by rw [e3]; exact Ar4.1) (State.isArrayOf_alike hZ.alike Ar4.2.1) Ar4.2.2 hin4 hat4 (g := (mkF mm_ 48 #[vr t, vi 7] [(.int 7), (.ref t), (.int ((((c >>> ((0 : Int32) &&& 31)).toInt8.toInt32) &&& (255 : Int32)) <<< ((0 : Int32) &&& 31)))])) rfl rfl (B_ dk105) t_ k_) ?_
 show Go_ T3 (mkF mm_ 49 #[vr t, vi 7] [(hb_ c), (.int ((((c >>> ((0 : Int32) &&& 31)).toInt8.toInt32) &&& (255 : Int32)) <<< ((0 : Int32) &&& 31)))])
 refine sp_ (fun t_ k_ => XS.sipush X3.here hx rfl (B_ dk106) (XS.iand X3.here hx rfl (B_ dk107) rfl k_)) ?_
 obtain ⟨T5, X5, e5, st5⟩ := getS2 X3 hx hZ hown (host := "") (Or.inl (w_ hw 99 rfl)) Via.refl e3 (G_lb.ext O0.2) (g := (mkF mm_ 53 #[vr t, vi 7] [(.int (((c >>> ((8 : Int32) &&& 31)).toInt8.toInt32) &&& (255 : Int32))), (.int ((((c >>> ((0 : Int32) &&& 31)).toInt8.toInt32) &&& (255 : Int32)) <<< ((0 : Int32) &&& 31)))])) rfl (B_ dk108)
 refine sp_ st5 ?_
 show Go_ T5 (mkF mm_ 56 #[vr t, vi 7] [(.int 8), (.int (((c >>> ((8 : Int32) &&& 31)).toInt8.toInt32) &&& (255 : Int32))), (.int ((((c >>> ((0 : Int32) &&& 31)).toInt8.toInt32) &&& (255 : Int32)) <<< ((0 : Int32) &&& 31)))])
 refine sp_ (fun t_ k_ => XS.ishl X5.here hx rfl (B_ dk109) rfl (XS.ior X5.here hx rfl (B_ dk110) rfl k_)) ?_
 show Go_ T5 (mkF mm_ 58 #[vr t, vi 7] [(.int (((((c >>> ((0 : Int32) &&& 31)).toInt8.toInt32) &&& (255 : Int32)) <<< ((0 : Int32) &&& 31)) ||| ((((c >>> ((8 : Int32) &&& 31)).toInt8.toInt32) &&& (255 : Int32)) <<< ((8 : Int32) &&& 31))))])
 refine sp_ (fun t_ k_ => XS.i2c X5.here hx rfl (B_ dk111) rfl (by rw [own_pair hc_c.1 hc_c.2]; exact k_)) ?_
 show Go_ T5 (mkF mm_ 59 #[vr t, vi 7] [(.int c)])
 obtain ⟨fs, hr, hrun, hended, hW, hsame⟩ := X5.leave (v := some (.int (nar .char c))) (rN Bd.returns)
 refine ⟨_, _, ?_, hrun, hended, _, _, rfl, ?_, ⟨_, rfl⟩, hW, hsame.mono (by decide) (by decide)⟩
 · exact retN X5 hx (t := .char) Bd.returns (by simp) (B_ dk112) hr
 · show QrmGt3 Z t k z vs c h0 n0 (some (.int (nar .char c))) T5.heap _
   rw [e5]
   exact ⟨(by rw [own_narLit _ hc_c.1 hc_c.2]), rfl, rfl⟩
theorem dk113 : decode J9 0 = .ok (.iload_n 2, 1) := by decide +kernel
theorem dk114 : decode J9 1 = .ok (.invokestatic 107, 3) := by decide +kernel
theorem pd_2 : parseMethodDescriptor "(I)[B" = some ⟨[.int], some (.array .byte)⟩ := by decide +kernel
theorem dk115 : decode J9 4 = .ok (.astore_n 3, 1) := by decide +kernel
theorem dk116 : decode J9 5 = .ok (.iconst 0, 1) := by decide +kernel
theorem dk117 : decode J9 6 = .ok (.istore 4, 2) := by decide +kernel
theorem dk118 : decode J9 8 = .ok (.iload 4, 2) := by decide +kernel
theorem dk119 : decode J9 10 = .ok (.iload_n 2, 1) := by decide +kernel
theorem dk120 : decode J9 11 = .ok (.if_icmp .ge 21, 3) := by decide +kernel
theorem dk121 : decode J9 14 = .ok (.aload_n 3, 1) := by decide +kernel
theorem dk122 : decode J9 15 = .ok (.iload 4, 2) := by decide +kernel
theorem dk123 : decode J9 17 = .ok (.aload_n 0, 1) := by decide +kernel
theorem dk124 : decode J9 18 = .ok (.iload_n 1, 1) := by decide +kernel
theorem dk125 : decode J9 19 = .ok (.caload, 1) := by decide +kernel
theorem dk126 : decode J9 20 = .ok (.invokestatic 111, 3) := by decide +kernel
theorem pd_3 : parseMethodDescriptor "([BII)V" = some ⟨[(.array .byte), .int, .int], none⟩ := by decide +kernel
theorem dk127 : decode J9 23 = .ok (.iinc 1 1, 3) := by decide +kernel
theorem dk128 : decode J9 26 = .ok (.iinc 4 1, 3) := by decide +kernel
theorem dk129 : decode J9 29 = .ok (.goto (-21), 3) := by decide +kernel
theorem dk130 : decode J9 32 = .ok (.aload_n 3, 1) := by decide +kernel
theorem dk131 : decode J9 33 = .ok (.areturn, 1) := by decide +kernel
theorem ef_rmTb1 (mm_ : MethodId) (b : Addr) : entryFrame mm_ #[(.ref b), (.int 0), (.int 1)] 5 = (mkF mm_ 0 #[vr b, vi 0, vi 1, un, un] []) := by first | (simp [entryFrame, mkF, argsToLocals, Value.category]; done) | rfl
def QrmTb1 (Z : State) (b : Addr) (kb : ClassId) (c0 : Int32) (h0 : Heap) (n0 : Nat) (vv_ : Option Value) (hh_ : Heap) (LL_ : List Loc) : Prop := ∃ (r : Addr), ∃ (k : ClassId), (vv_ = some (.ref r)) ∧ (Fr n0 LL_) ∧ (Keep h0 hh_ []) ∧ (h0.size ≤ r) ∧ (Arv Z hh_ r k .byte (2 : Int32) [(lb c0), (hb_ c0)] (.int 0))
theorem rmTb1 (l : Launch) (Z : State) (a0 : Array Value) (hw : own_Hw a0 Z) (ws : List Jvm.Cond) (b : Addr) (kb : ClassId) (c0 : Int32) {zc : Int32} {fm : Value} (h0 : Heap) (n0 : Nat) (O0 : Old Z n0 h0) (G_ : own_St Z zc fm) (pr0 : Arv Z h0 b kb .char (1 : Int32) [(.int c0)] (.int 0)) :
 own_MF l Z ym8 J9 5 (some (.array .byte)) ws (rm_ 2 1 2 24) #[(.ref b), (.int 0), (.int 1)] h0 (QrmTb1 Z b kb c0 h0 n0) := by
 refine own_met (plainFor_of_name pn_java_lang_StringUTF16) (fun m_ => ef_rmTb1 m_ b) fun pp_ ee_ ss_ mm_ bb_ me_ cc_ s₁ Bd hx hby hml hown hZ hh X0 e0 => ?_
 have B_ {q_ : Nat} {r_ : _} (h_ : decode _ q_ = r_) := hb hby h_
 have hown : ss_.vm.findClass sc1 = some mm_.cls := hown
 have N0 := Fr.nil n0
 have Z0 : n0 ≤ h0.size := by have q := O0.2.1; rw [O0.1] at q; exact q
 have K0 : Keep h0 h0 [] := Keep.refl _ _
 obtain ⟨G_cs, G_cs0, G_cw, G_h_java_lang_String_7, G_fm, G_fr, G_hb, G_lb, G_ad⟩ := id G_
 show Go_ s₁ (mkF mm_ 0 #[vr b, vi 0, vi 1, un, un] [])
 refine sp_ (fun t_ k_ => XS.iloadN X0.here hx rfl (B_ dk113) rfl  k_) ?_
 obtain ⟨_, T1, Lc1, X1, hQ1, st1⟩ := own_cS X0 hx hZ hown (w_ hw 87 rfl) (w_ hw 88 rfl) (w_ hw 41 rfl) (w_ hw 89 rfl) (by decide) (backOf (W := 0) (rmNb1 l Z a0 hw []  h0 n0 O0 ) hZ (w_ hw 89 rfl) (w_ hw 41 rfl) (by decide) (by decide)) (g := (mkF mm_ 1 #[vr b, vi 0, vi 1, un, un] [(.int 1)])) rfl hml.symm (argsL := [(.int 1)]) (rest := []) (lenOf pd_2 rfl) rfl (Nat.le_of_eq rfl) (B_ dk114) rfl e0 (by decide) (by decide)
 obtain ⟨r_1, k_1, rfl, Nq1, Kc1, r1_0, r1_1⟩ := hQ1
 have N1 := Fr.app N0 Nq1
 have lo_r_1 : h0.size ≤ r_1 := Nat.le_trans K0.1 r1_0
 have g_r_1 : n0 ≤ r_1 := Nat.le_trans Z0 lo_r_1
 refine jp_ st1 ?_
 show Go_ T1 (mkF mm_ 4 #[vr b, vi 0, vi 1, un, un] [(.ref r_1)])
 refine sp_ (fun t_ k_ => XS.astoreN X1.here hx rfl (B_ dk115) rfl rfl (l' := #[vr b, vi 0, vi 1, vr r_1, un]) rfl (XS.iconst X1.here hx rfl (B_ dk116) (XS.istore X1.here hx rfl (B_ dk117) rfl (l' := #[vr b, vi 0, vi 1, vr r_1, vi 0]) rfl (XS.iload X1.here hx rfl (B_ dk118) rfl  (XS.iloadN X1.here hx rfl (B_ dk119) rfl  k_))))) ?_
 show Go_ T1 (mkF mm_ 11 #[vr b, vi 0, vi 1, vr r_1, vi 0] [(.int 1), (.int 0)])
 refine sp_ (fun t_ k_ => XS.icmpNo X1.here hx rfl (B_ dk120) rfl (tlt (by decide : (0 : Int32) < (1 : Int32))).2.1 k_) ?_
 show Go_ T1 (mkF mm_ 14 #[vr b, vi 0, vi 1, vr r_1, vi 0] [])
 refine sp_ (fun t_ k_ => XS.aloadN X1.here hx rfl (B_ dk121) rfl rfl (XS.iload X1.here hx rfl (B_ dk122) rfl  (XS.aloadN X1.here hx rfl (B_ dk123) rfl rfl (XS.iloadN X1.here hx rfl (B_ dk124) rfl  k_)))) ?_
 have f2 : Arv Z T1.heap b kb .char (1 : Int32) [(.int c0)] (.int 0) := (pr0.keep Kc1 nin0)
 obtain ⟨cl3, Ar3, q3, S3, M3, H3, G3⟩ := id f2
 have hin3 : ¬ ((0 : Int32) < 0 ∨ cl3.slots.size ≤ ((0 : Int32)).toNatClampNeg) := inb_of S3 ⟨by decide, by decide⟩
 have hat3 : cl3.slots[((0 : Int32)).toNatClampNeg]? = some (.int c0) := Has.at H3 hin3 rfl
 refine sp_ (fun t_ k_ => X1.caload hx (j := (0 : Int32)) (v := (.int c0)) Ar3.1 (State.isArrayOf_alike hZ.alike Ar3.2.1) Ar3.2.2 hin3 hat3 (g := (mkF mm_ 19 #[vr b, vi 0, vi 1, vr r_1, vi 0] [(.int 0), (.ref b), (.int 0), (.ref r_1)])) rfl rfl (B_ dk125) t_ k_) ?_
 have O5 : Old Z n0 T1.heap := (O0.keep Kc1 all0)
 obtain ⟨_, T4, Lc4, X4, hQ4, st4⟩ := own_cS X1 hx hZ hown (w_ hw 94 rfl) (w_ hw 95 rfl) (w_ hw 41 rfl) (w_ hw 96 rfl) (by decide) (backOf (W := 0) (rmPt1_0 l Z a0 hw [] r_1 c0 k_1 T1.heap n0 O5 G_ r1_1 g_r_1) hZ (w_ hw 96 rfl) (w_ hw 41 rfl) (by decide) (by decide)) (g := (mkF mm_ 20 #[vr b, vi 0, vi 1, vr r_1, vi 0] [(.int c0), (.int 0), (.ref r_1)])) rfl hml.symm (argsL := [(.ref r_1), (.int 0), (.int c0)]) (rest := []) (lenOf pd_3 rfl) rfl (Nat.le_of_eq rfl) (B_ dk126) rfl rfl (by decide) (by decide)
 obtain ⟨rfl, Nq4, Kc4, r4_0⟩ := hQ4
 have N4 := Fr.app N1 Nq4
 refine jp_ st4 ?_
 show Go_ T4 (mkF mm_ 23 #[vr b, vi 0, vi 1, vr r_1, vi 0] [])
 refine sp_ (fun t_ k_ => XS.iinc X4.here hx rfl (B_ dk127) rfl (l' := #[vr b, vi 1, vi 1, vr r_1, vi 0]) rfl (XS.iinc X4.here hx rfl (B_ dk128) rfl (l' := #[vr b, vi 1, vi 1, vr r_1, vi 1]) rfl (XS.goto X4.here hx rfl (pc0 := 29) (pc' := 8) rfl (B_ dk129) (by decide) (by decide) (XS.iload X4.here hx rfl (B_ dk118) rfl  (XS.iloadN X4.here hx rfl (B_ dk119) rfl  k_))))) ?_
 show Go_ T4 (mkF mm_ 11 #[vr b, vi 1, vi 1, vr r_1, vi 1] [(.int 1), (.int 1)])
 refine sp_ (fun t_ k_ => XS.icmpYes X4.here hx rfl (pc0 := 11) (pc' := 32) rfl (B_ dk120) rfl (flt (by decide : ¬ ((1 : Int32) < (1 : Int32)))).2.1 (by decide) (by decide) k_) ?_
 show Go_ T4 (mkF mm_ 32 #[vr b, vi 1, vi 1, vr r_1, vi 1] [])
 refine sp_ (fun t_ k_ => XS.aloadN X4.here hx rfl (B_ dk130) rfl rfl k_) ?_
 show Go_ T4 (mkF mm_ 33 #[vr b, vi 1, vi 1, vr r_1, vi 1] [(.ref r_1)])
 have K6 : Keep h0 T4.heap [] := ((K0.trans Kc1 all0).trans Kc4 (allS (Or.inr lo_r_1) all0))
 obtain ⟨fs, hr, hrun, hended, hW, hsame⟩ := X4.leave (v := some (.ref r_1)) (rN Bd.returns)
 refine ⟨_, _, ?_, hrun, hended, _, _, rfl, ?_, ⟨_, rfl⟩, hW, hsame.mono (by decide) (by decide)⟩
 · jvm_step X4.here [X4.here.top, hx, (B_ dk131), X4.method', Bd.returns, Value.isRef, FieldType.isReference]
   first | (intro acts; rw [hr _ acts rfl rfl rfl]) | rw [hr _ _ rfl rfl rfl]
   exact Steps.refl _
 · show QrmTb1 Z b kb c0 h0 n0 (some (.ref r_1)) T4.heap _
   exact ⟨r_1, k_1, rfl, N4, K6, lo_r_1, r4_0⟩
theorem dk132 : decode J10 0 = .ok (.iconst 0, 1) := by decide +kernel
theorem dk133 : decode J10 1 = .ok (.istore 5, 2) := by decide +kernel
theorem dk134 : decode J10 3 = .ok (.iload 5, 2) := by decide +kernel
theorem dk135 : decode J10 5 = .ok (.iload 4, 2) := by decide +kernel
theorem dk136 : decode J10 7 = .ok (.if_icmp .ge 37, 3) := by decide +kernel
theorem dk137 : decode J10 10 = .ok (.aload_n 0, 1) := by decide +kernel
theorem dk138 : decode J10 11 = .ok (.iload_n 1, 1) := by decide +kernel
theorem dk139 : decode J10 12 = .ok (.caload, 1) := by decide +kernel
theorem dk140 : decode J10 13 = .ok (.istore 6, 2) := by decide +kernel
theorem dk141 : decode J10 15 = .ok (.iload 6, 2) := by decide +kernel
theorem dk142 : decode J10 17 = .ok (.sipush 255, 3) := by decide +kernel
theorem dk143 : decode J10 20 = .ok (.if_icmp .le 6, 3) := by decide +kernel
theorem dk144 : decode J10 23 = .ok (.iload 5, 2) := by decide +kernel
theorem dk145 : decode J10 25 = .ok (.ireturn, 1) := by decide +kernel
theorem ef_rmC51_0 (mm_ : MethodId) (b : Addr) (t : Addr) : entryFrame mm_ #[(.ref b), (.int 0), (.ref t), (.int 0), (.int 1)] 7 = (mkF mm_ 0 #[vr b, vi 0, vr t, vi 0, vi 1, un, un] []) := by first | (simp [entryFrame, mkF, argsToLocals, Value.category]; done) | rfl
def QrmC51_0 (Z : State) (b : Addr) (t : Addr) (kb : ClassId) (k : ClassId) (c0 : Int32) (h0 : Heap) (n0 : Nat) (vv_ : Option Value) (hh_ : Heap) (LL_ : List Loc) : Prop := (vv_ = some (.int 0)) ∧ (Fr n0 LL_) ∧ (Keep h0 hh_ [t])
theorem rmC51_0 (l : Launch) (Z : State) (a0 : Array Value) (hw : own_Hw a0 Z) (ws : List Jvm.Cond) (b : Addr) (t : Addr) (kb : ClassId) (k : ClassId) (c0 : Int32) (h0 : Heap) (n0 : Nat) (O0 : Old Z n0 h0) (pr0 : Arv Z h0 b kb .char (1 : Int32) [(.int c0)] (.int 0)) (pr1 : Arv Z h0 t k .byte (1 : Int32) [(.int 0)] (.int 0)) (g_t : n0 ≤ t) (hbt : b ≠ t) (hb0 : (255 : Int32) < c0) :
 own_MF l Z ym1 J10 7 (some .int) ws (rm_ 0 0 0 0) #[(.ref b), (.int 0), (.ref t), (.int 0), (.int 1)] h0 (QrmC51_0 Z b t kb k c0 h0 n0) := by
 refine own_met (plainFor_of_name pn_java_lang_StringUTF16) (fun m_ => ef_rmC51_0 m_ b t) fun pp_ ee_ ss_ mm_ bb_ me_ cc_ s₁ Bd hx hby hml hown hZ hh X0 e0 => ?_
 have B_ {q_ : Nat} {r_ : _} (h_ : decode _ q_ = r_) := hb hby h_
 have hown : ss_.vm.findClass sc1 = some mm_.cls := hown
 have N0 := Fr.nil n0
 have Z0 : n0 ≤ h0.size := by have q := O0.2.1; rw [O0.1] at q; exact q
 have K0 : Keep h0 h0 [t] := Keep.refl _ _
 show Go_ s₁ (mkF mm_ 0 #[vr b, vi 0, vr t, vi 0, vi 1, un, un] [])
 refine sp_ (fun t_ k_ => XS.iconst X0.here hx rfl (B_ dk132) (XS.istore X0.here hx rfl (B_ dk133) rfl (l' := #[vr b, vi 0, vr t, vi 0, vi 1, vi 0, un]) rfl (XS.iload X0.here hx rfl (B_ dk134) rfl  (XS.iload X0.here hx rfl (B_ dk135) rfl  k_)))) ?_
 show Go_ s₁ (mkF mm_ 7 #[vr b, vi 0, vr t, vi 0, vi 1, vi 0, un] [(.int 1), (.int 0)])
 refine sp_ (fun t_ k_ => XS.icmpNo X0.here hx rfl (B_ dk136) rfl (tlt (by decide : (0 : Int32) < (1 : Int32))).2.1 k_) ?_
 show Go_ s₁ (mkF mm_ 10 #[vr b, vi 0, vr t, vi 0, vi 1, vi 0, un] [])
 refine sp_ (fun t_ k_ => XS.aloadN X0.here hx rfl (B_ dk137) rfl rfl (XS.iloadN X0.here hx rfl (B_ dk138) rfl  k_)) ?_
 obtain ⟨cl1, Ar1, q1, S1, M1, H1, G1⟩ := id pr0
 have hin1 : ¬ ((0 : Int32) < 0 ∨ cl1.slots.size ≤ ((0 : Int32)).toNatClampNeg) := inb_of S1 ⟨by decide, by decide⟩
 have hat1 : cl1.slots[((0 : Int32)).toNatClampNeg]? = some (.int c0) := Has.at H1 hin1 rfl
 refine sp_ (fun t_ k_ => X0.caload hx (j := (0 : Int32)) (v := (.int c0)) (by rw [e0]; exact Ar1.1) (State.isArrayOf_alike hZ.alike Ar1.2.1) Ar1.2.2 hin1 hat1 (g := (mkF mm_ 12 #[vr b, vi 0, vr t, vi 0, vi 1, vi 0, un] [(.int 0), (.ref b)])) rfl rfl (B_ dk139) t_ k_) ?_
 show Go_ s₁ (mkF mm_ 13 #[vr b, vi 0, vr t, vi 0, vi 1, vi 0, un] [(.int c0)])
 refine sp_ (fun t_ k_ => XS.istore X0.here hx rfl (B_ dk140) rfl (l' := #[vr b, vi 0, vr t, vi 0, vi 1, vi 0, vi c0]) rfl (XS.iload X0.here hx rfl (B_ dk141) rfl  (XS.sipush X0.here hx rfl (B_ dk142) k_))) ?_
 show Go_ s₁ (mkF mm_ 20 #[vr b, vi 0, vr t, vi 0, vi 1, vi 0, vi c0] [(.int 255), (.int c0)])
 refine sp_ (fun t_ k_ => XS.icmpNo X0.here hx rfl (B_ dk143) rfl (tlt hb0).2.2.2 k_) ?_
 show Go_ s₁ (mkF mm_ 23 #[vr b, vi 0, vr t, vi 0, vi 1, vi 0, vi c0] [])
 refine sp_ (fun t_ k_ => XS.iload X0.here hx rfl (B_ dk144) rfl  k_) ?_
 show Go_ s₁ (mkF mm_ 25 #[vr b, vi 0, vr t, vi 0, vi 1, vi 0, vi c0] [(.int 0)])
 obtain ⟨fs, hr, hrun, hended, hW, hsame⟩ := X0.leave (v := some (.int 0)) (rN Bd.returns)
 refine ⟨_, _, ?_, hrun, hended, _, _, rfl, ?_, ⟨_, rfl⟩, hW, hsame.mono (by decide) (by decide)⟩
 · exact retI X0 hx Bd.returns (B_ dk145) hr
 · show QrmC51_0 Z b t kb k c0 h0 n0 (some (.int 0)) s₁.heap _
   rw [e0]
   exact ⟨rfl, N0, K0⟩
theorem dk146 : decode J11 0 = .ok (.iload_n 2, 1) := by decide +kernel
theorem dk147 : decode J11 1 = .ok (.newarray .byte, 2) := by decide +kernel
theorem dk148 : decode J11 3 = .ok (.astore_n 3, 1) := by decide +kernel
theorem dk149 : decode J11 4 = .ok (.aload_n 0, 1) := by decide +kernel
theorem dk150 : decode J11 5 = .ok (.iload_n 1, 1) := by decide +kernel
theorem dk151 : decode J11 6 = .ok (.aload_n 3, 1) := by decide +kernel
theorem dk152 : decode J11 7 = .ok (.iconst 0, 1) := by decide +kernel
theorem dk153 : decode J11 8 = .ok (.iload_n 2, 1) := by decide +kernel
theorem dk154 : decode J11 9 = .ok (.invokestatic 115, 3) := by decide +kernel
theorem pd_4 : parseMethodDescriptor "([CI[BII)I" = some ⟨[(.array .char), .int, (.array .byte), .int, .int], some .int⟩ := by decide +kernel
theorem dk155 : decode J11 12 = .ok (.istore 4, 2) := by decide +kernel
theorem dk156 : decode J11 14 = .ok (.iload 4, 2) := by decide +kernel
theorem dk157 : decode J11 16 = .ok (.iload_n 2, 1) := by decide +kernel
theorem dk158 : decode J11 17 = .ok (.if_icmp .eq 40, 3) := by decide +kernel
theorem dk159 : decode J11 20 = .ok (.aload_n 0, 1) := by decide +kernel
theorem dk160 : decode J11 21 = .ok (.iload_n 1, 1) := by decide +kernel
theorem dk161 : decode J11 22 = .ok (.iload_n 2, 1) := by decide +kernel
theorem dk162 : decode J11 23 = .ok (.invokestatic 119, 3) := by decide +kernel
theorem pd_5 : parseMethodDescriptor "([CII)[B" = some ⟨[(.array .char), .int, .int], some (.array .byte)⟩ := by decide +kernel
theorem dk163 : decode J11 26 = .ok (.astore 5, 2) := by decide +kernel
theorem dk164 : decode J11 28 = .ok (.aload 5, 2) := by decide +kernel
theorem dk165 : decode J11 30 = .ok (.iload 4, 2) := by decide +kernel
theorem dk166 : decode J11 32 = .ok (.invokestatic 71, 3) := by decide +kernel
theorem pd_6 : parseMethodDescriptor "([BI)C" = some ⟨[(.array .byte), .int], some .char⟩ := by decide +kernel
theorem dk167 : decode J11 35 = .ok (.sipush 255, 3) := by decide +kernel
theorem dk168 : decode J11 38 = .ok (.if_icmp .gt 16, 3) := by decide +kernel
theorem dk169 : decode J11 54 = .ok (.aload 5, 2) := by decide +kernel
theorem dk170 : decode J11 56 = .ok (.areturn, 1) := by decide +kernel
theorem ef_rmC31 (mm_ : MethodId) (b : Addr) : entryFrame mm_ #[(.ref b), (.int 0), (.int 1)] 6 = (mkF mm_ 0 #[vr b, vi 0, vi 1, un, un, un] []) := by first | (simp [entryFrame, mkF, argsToLocals, Value.category]; done) | rfl
def QrmC31 (Z : State) (b : Addr) (kb : ClassId) (c0 : Int32) (h0 : Heap) (n0 : Nat) (vv_ : Option Value) (hh_ : Heap) (LL_ : List Loc) : Prop := ∃ (r : Addr), ∃ (k : ClassId), (vv_ = some (.ref r)) ∧ (Fr n0 LL_) ∧ (Keep h0 hh_ []) ∧ (h0.size ≤ r) ∧ (Arv Z hh_ r k .byte (2 : Int32) [(lb c0), (hb_ c0)] (.int 0))
theorem rmC31 (l : Launch) (Z : State) (a0 : Array Value) (hw : own_Hw a0 Z) (ws : List Jvm.Cond) (b : Addr) (kb : ClassId) (c0 : Int32) {zc : Int32} {fm : Value} (h0 : Heap) (n0 : Nat) (O0 : Old Z n0 h0) (G_ : own_St Z zc fm) (pr0 : Arv Z h0 b kb .char (1 : Int32) [(.int c0)] (.int 0)) (hc_c0 : ¬ c0 < (0 : Int32) ∧ ¬ (65535 : Int32) < c0) (hW : (255 : Int32) < c0) :
 own_MF l Z ym9 J11 6 (some (.array .byte)) ws (rm_ 3 2 3 40) #[(.ref b), (.int 0), (.int 1)] h0 (QrmC31 Z b kb c0 h0 n0) := by
 refine own_met (plainFor_of_name pn_java_lang_StringUTF16) (fun m_ => ef_rmC31 m_ b) fun pp_ ee_ ss_ mm_ bb_ me_ cc_ s₁ Bd hx hby hml hown hZ hh X0 e0 => ?_
 have B_ {q_ : Nat} {r_ : _} (h_ : decode _ q_ = r_) := hb hby h_
 have hown : ss_.vm.findClass sc1 = some mm_.cls := hown
 have N0 := Fr.nil n0
 have Z0 : n0 ≤ h0.size := by have q := O0.2.1; rw [O0.1] at q; exact q
 have K0 : Keep h0 h0 [] := Keep.refl _ _
 obtain ⟨G_cs, G_cs0, G_cw, G_h_java_lang_String_7, G_fm, G_fr, G_hb, G_lb, G_ad⟩ := id G_
 show Go_ s₁ (mkF mm_ 0 #[vr b, vi 0, vi 1, un, un, un] [])
 refine sp_ (fun t_ k_ => XS.iloadN X0.here hx rfl (B_ dk146) rfl  k_) ?_
 obtain ⟨T1, h1, k1, X1, e1, E1, A1, st1⟩ := newP X0 hx hZ (w_ hw 22 rfl) e0 (g := (mkF mm_ 1 #[vr b, vi 0, vi 1, un, un, un] [(.int 1)])) rfl (B_ dk147) rfl (by decide) (cap := 1) (by decide) (by decide) (by decide) (by decide)
 obtain ⟨b1, q1⟩ : ∃ z, z = h0.size := ⟨_, rfl⟩
 rw [← q1] at A1 st1
 have lo_b1 : h0.size ≤ b1 := Nat.le_trans K0.1 (Nat.le_of_eq q1.symm)
 have g_b1 : n0 ≤ b1 := Nat.le_trans Z0 lo_b1
 refine sp_ st1 ?_
 have V1 : Arv Z h1 b1 k1 .byte (1 : Int32) [(.int 0)] (.int 0) := (Arv.new A1 (by decide)).pad (pad_rep [] (.int 0) 1)
 show Go_ T1 (mkF mm_ 3 #[vr b, vi 0, vi 1, un, un, un] [(.ref b1)])
 refine sp_ (fun t_ k_ => XS.astoreN X1.here hx rfl (B_ dk148) rfl rfl (l' := #[vr b, vi 0, vi 1, vr b1, un, un]) rfl (XS.aloadN X1.here hx rfl (B_ dk149) rfl rfl (XS.iloadN X1.here hx rfl (B_ dk150) rfl  (XS.aloadN X1.here hx rfl (B_ dk151) rfl rfl (XS.iconst X1.here hx rfl (B_ dk152) (XS.iloadN X1.here hx rfl (B_ dk153) rfl  k_)))))) ?_
 have f3 : Arv Z h1 b kb .char (1 : Int32) [(.int c0)] (.int 0) := (pr0.ext E1)
 have O4 : Old Z n0 h1 := (O0.ext E1)
 obtain ⟨_, T2, Lc2, X2, hQ2, st2⟩ := own_cS X1 hx hZ hown (w_ hw 43 rfl) (w_ hw 44 rfl) (w_ hw 41 rfl) (w_ hw 45 rfl) (by decide) (backOf (W := 0) (rmC51_0 l Z a0 hw [] b b1 kb k1 c0 h1 n0 O4 f3 V1 g_b1 (Nat.ne_of_lt (Nat.lt_of_lt_of_le pr0.lt (Nat.le_of_eq q1.symm))) hW) hZ (w_ hw 45 rfl) (w_ hw 41 rfl) (by decide) (by decide)) (g := (mkF mm_ 9 #[vr b, vi 0, vi 1, vr b1, un, un] [(.int 1), (.int 0), (.ref b1), (.int 0), (.ref b)])) rfl hml.symm (argsL := [(.ref b), (.int 0), (.ref b1), (.int 0), (.int 1)]) (rest := []) (lenOf pd_4 rfl) rfl (Nat.le_of_eq rfl) (B_ dk154) rfl e1 (by decide) (by decide)
 obtain ⟨rfl, Nq2, Kc2⟩ := hQ2
 have N2 := Fr.app N0 Nq2
 refine jp_ st2 ?_
 show Go_ T2 (mkF mm_ 12 #[vr b, vi 0, vi 1, vr b1, un, un] [(.int 0)])
 refine sp_ (fun t_ k_ => XS.istore X2.here hx rfl (B_ dk155) rfl (l' := #[vr b, vi 0, vi 1, vr b1, vi 0, un]) rfl (XS.iload X2.here hx rfl (B_ dk156) rfl  (XS.iloadN X2.here hx rfl (B_ dk157) rfl  k_))) ?_
 show Go_ T2 (mkF mm_ 17 #[vr b, vi 0, vi 1, vr b1, vi 0, un] [(.int 1), (.int 0)])
 refine sp_ (fun t_ k_ => XS.icmpNo X2.here hx rfl (B_ dk158) rfl (feq (by decide : ¬ ((0 : Int32) = (1 : Int32)))).1 k_) ?_
 show Go_ T2 (mkF mm_ 20 #[vr b, vi 0, vi 1, vr b1, vi 0, un] [])
 refine sp_ (fun t_ k_ => XS.aloadN X2.here hx rfl (B_ dk159) rfl rfl (XS.iloadN X2.here hx rfl (B_ dk160) rfl  (XS.iloadN X2.here hx rfl (B_ dk161) rfl  k_))) ?_
 have f6 : Arv Z T2.heap b kb .char (1 : Int32) [(.int c0)] (.int 0) := (f3.keep Kc2 (ninS (Nat.ne_of_lt (Nat.lt_of_lt_of_le pr0.lt (Nat.le_of_eq q1.symm))) nin0))
 have O7 : Old Z n0 T2.heap := (O4.keep Kc2 (allS g_b1 all0))
 obtain ⟨_, T5, Lc5, X5, hQ5, st5⟩ := own_cS X2 hx hZ hown (w_ hw 84 rfl) (w_ hw 85 rfl) (w_ hw 41 rfl) (w_ hw 86 rfl) (by decide) (backOf (W := 0) (rmTb1 l Z a0 hw [] b kb c0 T2.heap n0 O7 G_ f6) hZ (w_ hw 86 rfl) (w_ hw 41 rfl) (by decide) (by decide)) (g := (mkF mm_ 23 #[vr b, vi 0, vi 1, vr b1, vi 0, un] [(.int 1), (.int 0), (.ref b)])) rfl hml.symm (argsL := [(.ref b), (.int 0), (.int 1)]) (rest := []) (lenOf pd_5 rfl) rfl (Nat.le_of_eq rfl) (B_ dk162) rfl rfl (by decide) (by decide)
 obtain ⟨r_5, k_5, rfl, Nq5, Kc5, r5_0, r5_1⟩ := hQ5
 have N5 := Fr.app N2 Nq5
 have K8 : Keep h0 T2.heap [] := ((K0.ext E1).trans Kc2 (allS (Or.inr lo_b1) all0))
 have lo_r_5 : h0.size ≤ r_5 := Nat.le_trans K8.1 r5_0
 have g_r_5 : n0 ≤ r_5 := Nat.le_trans Z0 lo_r_5
 refine jp_ st5 ?_
 show Go_ T5 (mkF mm_ 26 #[vr b, vi 0, vi 1, vr b1, vi 0, un] [(.ref r_5)])
 refine sp_ (fun t_ k_ => XS.astore X5.here hx rfl (B_ dk163) rfl rfl (l' := #[vr b, vi 0, vi 1, vr b1, vi 0, vr r_5]) rfl (XS.aload X5.here hx rfl (B_ dk164) rfl rfl (XS.iload X5.here hx rfl (B_ dk165) rfl  k_))) ?_
 have O10 : Old Z n0 T5.heap := (O7.keep Kc5 all0)
 obtain ⟨_, T9, Lc9, X9, hQ9, st9⟩ := own_cS X5 hx hZ hown (w_ hw 100 rfl) (w_ hw 101 rfl) (w_ hw 41 rfl) (w_ hw 102 rfl) (by decide) (backOf (W := 0) (rmGt0 l Z a0 hw [] r_5 k_5 (2 : Int32) [(lb c0), (hb_ c0)] c0 T5.heap n0 O10 G_ r5_1 (by first | assumption | rfl | decide | (simp; done)) (by first | assumption | rfl | decide | (simp; done)) (by first | assumption | rfl | decide | (simp; done)) (by first | assumption | rfl | decide | (simp; done)) hc_c0) hZ (w_ hw 102 rfl) (w_ hw 41 rfl) (by decide) (by decide)) (g := (mkF mm_ 32 #[vr b, vi 0, vi 1, vr b1, vi 0, vr r_5] [(.int 0), (.ref r_5)])) rfl hml.symm (argsL := [(.ref r_5), (.int 0)]) (rest := []) (lenOf pd_6 rfl) rfl (Nat.le_of_eq rfl) (B_ dk166) rfl rfl (by decide) (by decide)
 obtain ⟨rfl, rfl, Eh9⟩ := hQ9
 have N9 := Fr.app N5 (Fr.nil n0)
 refine jp_ st9 ?_
 show Go_ T9 (mkF mm_ 35 #[vr b, vi 0, vi 1, vr b1, vi 0, vr r_5] [(.int c0)])
 refine sp_ (fun t_ k_ => XS.sipush X9.here hx rfl (B_ dk167) k_) ?_
 show Go_ T9 (mkF mm_ 38 #[vr b, vi 0, vi 1, vr b1, vi 0, vr r_5] [(.int 255), (.int c0)])
 refine sp_ (fun t_ k_ => XS.icmpYes X9.here hx rfl (pc0 := 38) (pc' := 54) rfl (B_ dk168) rfl (tlt hW).2.2.1 (by decide) (by decide) k_) ?_
 show Go_ T9 (mkF mm_ 54 #[vr b, vi 0, vi 1, vr b1, vi 0, vr r_5] [])
 refine sp_ (fun t_ k_ => XS.aload X9.here hx rfl (B_ dk169) rfl rfl k_) ?_
 show Go_ T9 (mkF mm_ 56 #[vr b, vi 0, vi 1, vr b1, vi 0, vr r_5] [(.ref r_5)])
 have K11 : Keep h0 T5.heap [] := (K8.trans Kc5 all0)
 obtain ⟨fs, hr, hrun, hended, hW, hsame⟩ := X9.leave (v := some (.ref r_5)) (rN Bd.returns)
 refine ⟨_, _, ?_, hrun, hended, _, _, rfl, ?_, ⟨_, rfl⟩, hW, hsame.mono (by decide) (by decide)⟩
 · jvm_step X9.here [X9.here.top, hx, (B_ dk170), X9.method', Bd.returns, Value.isRef, FieldType.isReference]
   first | (intro acts; rw [hr _ acts rfl rfl rfl]) | rw [hr _ _ rfl rfl rfl]
   exact Steps.refl _
 · show QrmC31 Z b kb c0 h0 n0 (some (.ref r_5)) T9.heap _
   rw [Eh9]
   exact ⟨r_5, k_5, rfl, N9, K11, lo_r_5, r5_1⟩
theorem dk171 : decode J12 0 = .ok (.iload_n 1, 1) := by decide +kernel
theorem dk172 : decode J12 1 = .ok (.aload_n 0, 1) := by decide +kernel
theorem dk173 : decode J12 2 = .ok (.arraylength, 1) := by decide +kernel
theorem dk174 : decode J12 3 = .ok (.isub, 1) := by decide +kernel
theorem dk175 : decode J12 4 = .ok (.bipush 31, 2) := by decide +kernel
theorem dk176 : decode J12 6 = .ok (.iushr, 1) := by decide +kernel
theorem dk177 : decode J12 7 = .ok (.i2b, 1) := by decide +kernel
theorem dk178 : decode J12 8 = .ok (.ireturn, 1) := by decide +kernel
theorem ef_rmCd1 (mm_ : MethodId) (t : Addr) : entryFrame mm_ #[(.ref t), (.int 1)] 2 = (mkF mm_ 0 #[vr t, vi 1] []) := by first | (simp [entryFrame, mkF, argsToLocals, Value.category]; done) | rfl
def QrmCd1 (Z : State) (t : Addr) (k : ClassId) (vs : List Value) (h0 : Heap) (n0 : Nat) (vv_ : Option Value) (hh_ : Heap) (LL_ : List Loc) : Prop := (vv_ = some (.int 1)) ∧ (LL_ = []) ∧ (hh_ = h0)
theorem rmCd1 (l : Launch) (Z : State) (a0 : Array Value) (hw : own_Hw a0 Z) (ws : List Jvm.Cond) (t : Addr) (k : ClassId) (vs : List Value) (h0 : Heap) (n0 : Nat) (O0 : Old Z n0 h0) (pr0 : Arv Z h0 t k .byte (2 : Int32) vs (.int 0)) :
 own_MF l Z ym10 J12 2 (some .byte) ws (rm_ 0 0 0 0) #[(.ref t), (.int 1)] h0 (QrmCd1 Z t k vs h0 n0) := by
 refine own_met (plainFor_of_name pn_java_lang_StringUTF16) (fun m_ => ef_rmCd1 m_ t) fun pp_ ee_ ss_ mm_ bb_ me_ cc_ s₁ Bd hx hby hml hown hZ hh X0 e0 => ?_
 have B_ {q_ : Nat} {r_ : _} (h_ : decode _ q_ = r_) := hb hby h_
 have hown : ss_.vm.findClass sc1 = some mm_.cls := hown
 have N0 := Fr.nil n0
 have Z0 : n0 ≤ h0.size := by have q := O0.2.1; rw [O0.1] at q; exact q
 have K0 : Keep h0 h0 [] := Keep.refl _ _
 show Go_ s₁ (mkF mm_ 0 #[vr t, vi 1] [])
 refine sp_ (fun t_ k_ => XS.iloadN X0.here hx rfl (B_ dk171) rfl  (XS.aloadN X0.here hx rfl (B_ dk172) rfl rfl k_)) ?_
 obtain ⟨cl1, Ar1, -, S1, M1, -, -⟩ := id pr0
 refine sp_ (fun t_ k_ => X0.arraylength hx (by rw [e0]; exact Ar1.1) (State.isArrayOf_alike hZ.alike Ar1.2.1) (g := (mkF mm_ 2 #[vr t, vi 1] [(.ref t), (.int 1)])) rfl rfl (B_ dk173) t_ (by rw [len_of S1 M1]; exact k_)) ?_
 show Go_ s₁ (mkF mm_ 3 #[vr t, vi 1] [(.int 2), (.int 1)])
 refine sp_ (fun t_ k_ => XS.isub X0.here hx rfl (B_ dk174) rfl (XS.bipush X0.here hx rfl (B_ dk175) (XS.iushr X0.here hx rfl (B_ dk176) rfl (XS.i2b X0.here hx rfl (B_ dk177) rfl k_)))) ?_
 show Go_ s₁ (mkF mm_ 8 #[vr t, vi 1] [(.int ((1 : Int32).toInt8.toInt32))])
 obtain ⟨fs, hr, hrun, hended, hW, hsame⟩ := X0.leave (v := some (.int ((1 : Int32).toInt8.toInt32))) (rN Bd.returns)
 refine ⟨_, _, ?_, hrun, hended, _, _, rfl, ?_, ⟨_, rfl⟩, hW, hsame.mono (by decide) (by decide)⟩
 · exact retN X0 hx (t := .byte) Bd.returns (by simp) (B_ dk178) hr
 · show QrmCd1 Z t k vs h0 n0 (some (.int ((1 : Int32).toInt8.toInt32))) s₁.heap _
   rw [e0]
   exact ⟨rfl, rfl, rfl⟩
theorem dk179 : decode J0 27 = .ok (.getstatic 38, 3) := by decide +kernel
theorem dk180 : decode J0 30 = .ok (.ifCond .eq 28, 3) := by decide +kernel
theorem dk181 : decode J0 33 = .ok (.aload_n 1, 1) := by decide +kernel
theorem dk182 : decode J0 34 = .ok (.iload_n 2, 1) := by decide +kernel
theorem dk183 : decode J0 35 = .ok (.iload_n 3, 1) := by decide +kernel
theorem dk184 : decode J0 36 = .ok (.invokestatic 177, 3) := by decide +kernel
theorem dk185 : decode J0 39 = .ok (.astore 5, 2) := by decide +kernel
theorem dk186 : decode J0 41 = .ok (.aload_n 0, 1) := by decide +kernel
theorem dk187 : decode J0 42 = .ok (.aload 5, 2) := by decide +kernel
theorem dk188 : decode J0 44 = .ok (.iload_n 3, 1) := by decide +kernel
theorem dk189 : decode J0 45 = .ok (.invokestatic 47, 3) := by decide +kernel
theorem pd_7 : parseMethodDescriptor "([BI)B" = some ⟨[(.array .byte), .int], some .byte⟩ := by decide +kernel
theorem dk190 : decode J0 48 = .ok (.putfield 15, 3) := by decide +kernel
theorem dk191 : decode J0 51 = .ok (.aload_n 0, 1) := by decide +kernel
theorem dk192 : decode J0 52 = .ok (.aload 5, 2) := by decide +kernel
theorem dk193 : decode J0 54 = .ok (.putfield 9, 3) := by decide +kernel
theorem dk194 : decode J0 57 = .ok (.return_, 1) := by decide +kernel
theorem ef_rmI41 (mm_ : MethodId) (x : Addr) (b : Addr) : entryFrame mm_ #[(.ref x), (.ref b), (.int 0), (.int 1), .null] 6 = (mkF mm_ 0 #[vr x, vr b, vi 0, vi 1, .val .null, un] []) := by first | (simp [entryFrame, mkF, argsToLocals, Value.category]; done) | rfl
def QrmI41 (Z : State) (x : Addr) (b : Addr) (kb : ClassId) (c0 : Int32) (h0 : Heap) (n0 : Nat) (vv_ : Option Value) (hh_ : Heap) (LL_ : List Loc) : Prop := ∃ (r : Addr), ∃ (k : ClassId), (vv_ = none) ∧ (Fr n0 LL_) ∧ (Keep h0 hh_ [x]) ∧ (h0.size ≤ r) ∧ (Fld Z hh_ x sc0 "value" "[B" (.ref r)) ∧ (Fld Z hh_ x sc0 "coder" "B" (.int 1)) ∧ (Arv Z hh_ r k .byte (2 : Int32) [(lb c0), (hb_ c0)] (.int 0))
theorem rmI41 (l : Launch) (Z : State) (a0 : Array Value) (hw : own_Hw a0 Z) (ws : List Jvm.Cond) (x : Addr) (b : Addr) (kb : ClassId) (c0 : Int32) {zc : Int32} {fm : Value} (h0 : Heap) (n0 : Nat) (O0 : Old Z n0 h0) (G_ : own_St Z zc fm) (pr0 : Exa Z h0 x sc0) (pr1 : Fld Z h0 x sc0 "value" "[B" .null) (pr2 : Fld Z h0 x sc0 "coder" "B" (.int 0)) (g_x : n0 ≤ x) (pr4 : Arv Z h0 b kb .char (1 : Int32) [(.int c0)] (.int 0)) (hc_c0 : ¬ c0 < (0 : Int32) ∧ ¬ (65535 : Int32) < c0) (hW : (255 : Int32) < c0) :
 own_MF l Z ym3 J0 6 none ws (rm_ 4 2 3 57) #[(.ref x), (.ref b), (.int 0), (.int 1), .null] h0 (QrmI41 Z x b kb c0 h0 n0) := by
 refine own_met (plainFor_of_name pn_java_lang_String) (fun m_ => ef_rmI41 m_ x b) fun pp_ ee_ ss_ mm_ bb_ me_ cc_ s₁ Bd hx hby hml hown hZ hh X0 e0 => ?_
 have B_ {q_ : Nat} {r_ : _} (h_ : decode _ q_ = r_) := hb hby h_
 have hown : ss_.vm.findClass sc0 = some mm_.cls := hown
 have hnm := (name_of_methodNamed Bd.named Bd.method).1
 have N0 := Fr.nil n0
 have Z0 : n0 ≤ h0.size := by have q := O0.2.1; rw [O0.1] at q; exact q
 have K0 : Keep h0 h0 [x] := Keep.refl _ _
 obtain ⟨G_cs, G_cs0, G_cw, G_h_java_lang_String_7, G_fm, G_fr, G_hb, G_lb, G_ad⟩ := id G_
 show Go_ s₁ (mkF mm_ 0 #[vr x, vr b, vi 0, vi 1, .val .null, un] [])
 refine sp_ (fun t_ k_ => XS.aloadN X0.here hx rfl (B_ dk0) rfl rfl k_) ?_
 obtain ⟨T1, X1, e1, st1⟩ := initO X0 hx hZ hown (w_ hw 18 rfl) (w_ hw 19 rfl) (w_ hw 20 rfl) e0 (g := (mkF mm_ 1 #[vr x, vr b, vi 0, vi 1, .val .null, un] [(.ref x)])) rfl hml.symm rfl (B_ dk1) (by decide) (W := 0) (Nat.le_of_eq rfl) (by decide)
 refine sp_ st1 ?_
 show Go_ T1 (mkF mm_ 4 #[vr x, vr b, vi 0, vi 1, .val .null, un] [])
 refine sp_ (fun t_ k_ => XS.iloadN X1.here hx rfl (B_ dk2) rfl  k_) ?_
 show Go_ T1 (mkF mm_ 5 #[vr x, vr b, vi 0, vi 1, .val .null, un] [(.int 1)])
 refine sp_ (fun t_ k_ => XS.ifYes X1.here hx rfl (pc0 := 5) (pc' := 27) rfl (B_ dk3) rfl ((if0 _ _).trans (feq (by decide : ¬ ((1 : Int32) = (0 : Int32)))).2) (by decide) (by decide) k_) ?_
 obtain ⟨T2, X2, e2, st2⟩ := getS2 X1 hx hZ hown (host := "") (Or.inl (w_ hw 38 rfl)) Via.refl e1 (G_cs.ext O0.2) (g := (mkF mm_ 27 #[vr x, vr b, vi 0, vi 1, .val .null, un] [])) rfl (B_ dk179)
 refine sp_ st2 ?_
 show Go_ T2 (mkF mm_ 30 #[vr x, vr b, vi 0, vi 1, .val .null, un] [(.int zc)])
 refine sp_ (fun t_ k_ => XS.ifNo X2.here hx rfl (B_ dk180) rfl ((if0 _ _).trans (feq G_cs0).1) k_) ?_
 show Go_ T2 (mkF mm_ 33 #[vr x, vr b, vi 0, vi 1, .val .null, un] [])
 refine sp_ (fun t_ k_ => XS.aloadN X2.here hx rfl (B_ dk181) rfl rfl (XS.iloadN X2.here hx rfl (B_ dk182) rfl  (XS.iloadN X2.here hx rfl (B_ dk183) rfl  k_))) ?_
 obtain ⟨_, T3, Lc3, X3, hQ3, st3⟩ := own_cS X2 hx hZ hown (w_ hw 39 rfl) (w_ hw 40 rfl) (w_ hw 41 rfl) (w_ hw 42 rfl) (by decide) (backOf (W := 0) (rmC31 l Z a0 hw [] b kb c0 h0 n0 O0 G_ pr4 hc_c0 hW) hZ (w_ hw 42 rfl) (w_ hw 41 rfl) (by decide) (by decide)) (g := (mkF mm_ 36 #[vr x, vr b, vi 0, vi 1, .val .null, un] [(.int 1), (.int 0), (.ref b)])) rfl hml.symm (argsL := [(.ref b), (.int 0), (.int 1)]) (rest := []) (lenOf pd_5 rfl) rfl (Nat.le_of_eq rfl) (B_ dk184) rfl e2 (by decide) (by decide)
 obtain ⟨r_3, k_3, rfl, Nq3, Kc3, r3_0, r3_1⟩ := hQ3
 have N3 := Fr.app N0 Nq3
 have lo_r_3 : h0.size ≤ r_3 := Nat.le_trans K0.1 r3_0
 have g_r_3 : n0 ≤ r_3 := Nat.le_trans Z0 lo_r_3
 refine jp_ st3 ?_
 show Go_ T3 (mkF mm_ 39 #[vr x, vr b, vi 0, vi 1, .val .null, un] [(.ref r_3)])
 refine sp_ (fun t_ k_ => XS.astore X3.here hx rfl (B_ dk185) rfl rfl (l' := #[vr x, vr b, vi 0, vi 1, .val .null, vr r_3]) rfl (XS.aloadN X3.here hx rfl (B_ dk186) rfl rfl (XS.aload X3.here hx rfl (B_ dk187) rfl rfl (XS.iloadN X3.here hx rfl (B_ dk188) rfl  k_)))) ?_
 have O5 : Old Z n0 T3.heap := (O0.keep Kc3 all0)
 obtain ⟨_, T4, Lc4, X4, hQ4, st4⟩ := own_cS X3 hx hZ hown (w_ hw 46 rfl) (w_ hw 47 rfl) (w_ hw 41 rfl) (w_ hw 48 rfl) (by decide) (backOf (W := 1) (rmCd1 l Z a0 hw [] r_3 k_3 [(lb c0), (hb_ c0)] T3.heap n0 O5 r3_1) hZ (w_ hw 48 rfl) (w_ hw 41 rfl) (by decide) (by decide)) (g := (mkF mm_ 45 #[vr x, vr b, vi 0, vi 1, .val .null, vr r_3] [(.int 1), (.ref r_3), (.ref x)])) rfl hml.symm (argsL := [(.ref r_3), (.int 1)]) (rest := [(.ref x)]) (lenOf pd_7 rfl) rfl (Nat.le_of_eq rfl) (B_ dk189) rfl rfl (by decide) (by decide)
 obtain ⟨rfl, rfl, Eh4⟩ := hQ4
 have N4 := Fr.app N3 (Fr.nil n0)
 refine jp_ st4 ?_
 have f6 : Fld Z T3.heap x sc0 "coder" "B" (.int 0) := (pr2.keep Kc3 nin0)
 have f7 : Exa Z T3.heap x sc0 := (pr0.keep Kc3)
 obtain ⟨T8, h8, X8, e8, W8, st8⟩ := putFN X4 hx hZ hown (w_ hw 28 rfl) Via.refl Eh4 f6 f7 (Or.inr ⟨(w_ hw 24 rfl), rfl, hnm⟩) (w_ hw 8 rfl) (ty := .byte) (v' := (.int 1)) (by decide) rfl rfl (g := (mkF mm_ 48 #[vr x, vr b, vi 0, vi 1, .val .null, vr r_3] [(.int 1), (.ref x)])) rfl rfl (B_ dk190)
 have F8 := f6.same W8
 have N8 := Fr.snoc X8 N4 g_x
 refine sp_ st8 ?_
 show Go_ T8 (mkF mm_ 51 #[vr x, vr b, vi 0, vi 1, .val .null, vr r_3] [])
 refine sp_ (fun t_ k_ => XS.aloadN X8.here hx rfl (B_ dk191) rfl rfl (XS.aload X8.here hx rfl (B_ dk192) rfl rfl k_)) ?_
 have f9 : Fld Z h8 x sc0 "value" "[B" .null := ((pr1.keep Kc3 nin0).other W8 (Or.inr (slot_ne (Or.inr (w_ hw 23 rfl)) (Or.inr (w_ hw 24 rfl)) (by decide) (t := (.array .byte)) (t' := .byte) (by decide) (by decide))))
 have f10 : Exa Z h8 x sc0 := (f7.wr W8)
 obtain ⟨T11, h11, X11, e11, W11, st11⟩ := putF X8 hx hZ hown (host := "") (Or.inl (w_ hw 27 rfl)) Via.refl e8 f9 f10 (Or.inr ⟨(w_ hw 23 rfl), rfl, hnm⟩) (w_ hw 8 rfl) (ty := (.array .byte)) (by decide) rfl rfl (g := (mkF mm_ 54 #[vr x, vr b, vi 0, vi 1, .val .null, vr r_3] [(.ref r_3), (.ref x)])) rfl rfl (B_ dk193)
 have F11 := f9.same W11
 have N11 := Fr.snoc X11 N8 g_x
 refine sp_ st11 ?_
 show Go_ T11 (mkF mm_ 57 #[vr x, vr b, vi 0, vi 1, .val .null, vr r_3] [])
 have K12 : Keep h0 h11 [x] := (((K0.trans Kc3 all0).wr W8 (Or.inl (List.mem_of_getElem? (i := 0) rfl))).wr W11 (Or.inl (List.mem_of_getElem? (i := 0) rfl)))
 have f13 : Fld Z h11 x sc0 "coder" "B" (.int 1) := (F8.other W11 (Or.inr (slot_ne (Or.inr (w_ hw 24 rfl)) (Or.inr (w_ hw 23 rfl)) (by decide) (t := .byte) (t' := (.array .byte)) (by decide) (by decide))))
 have f14 : Arv Z h11 r_3 k_3 .byte (2 : Int32) [(lb c0), (hb_ c0)] (.int 0) := ((r3_1.other W8 (Ne.symm (Nat.ne_of_lt (Nat.lt_of_lt_of_le pr0.lt r3_0)))).other W11 (Ne.symm (Nat.ne_of_lt (Nat.lt_of_lt_of_le pr0.lt r3_0))))
 obtain ⟨fs, hr, hrun, hended, hW, hsame⟩ := X11.leave (v := none) (fun _ => rfl)
 refine ⟨_, _, ?_, hrun, hended, _, _, rfl, ?_, ⟨_, rfl⟩, hW, hsame.mono (by decide) (by decide)⟩
 · exact X11.returnOut hx Bd.returns (B_ dk194) hr
 · show QrmI41 Z x b kb c0 h0 n0 none T11.heap _
   rw [e11]
   exact ⟨r_3, k_3, rfl, N11, K12, lo_r_3, F11, f13, f14⟩
theorem ef_rmI11 (mm_ : MethodId) (x : Addr) (b : Addr) : entryFrame mm_ #[(.ref x), (.ref b)] 2 = (mkF mm_ 0 #[vr x, vr b] []) := by first | (simp [entryFrame, mkF, argsToLocals, Value.category]; done) | rfl
def QrmI11 (Z : State) (x : Addr) (b : Addr) (kb : ClassId) (c0 : Int32) (h0 : Heap) (n0 : Nat) (vv_ : Option Value) (hh_ : Heap) (LL_ : List Loc) : Prop := ∃ (r : Addr), ∃ (k : ClassId), (vv_ = none) ∧ (Fr n0 LL_) ∧ (Keep h0 hh_ [x]) ∧ (h0.size ≤ r) ∧ (Fld Z hh_ x sc0 "value" "[B" (.ref r)) ∧ (Fld Z hh_ x sc0 "coder" "B" (.int 1)) ∧ (Arv Z hh_ r k .byte (2 : Int32) [(lb c0), (hb_ c0)] (.int 0))
theorem rmI11 (l : Launch) (Z : State) (a0 : Array Value) (hw : own_Hw a0 Z) (ws : List Jvm.Cond) (x : Addr) (b : Addr) (kb : ClassId) (c0 : Int32) {zc : Int32} {fm : Value} (h0 : Heap) (n0 : Nat) (O0 : Old Z n0 h0) (G_ : own_St Z zc fm) (pr0 : Exa Z h0 x sc0) (pr1 : Fld Z h0 x sc0 "value" "[B" .null) (pr2 : Fld Z h0 x sc0 "coder" "B" (.int 0)) (g_x : n0 ≤ x) (pr4 : Arv Z h0 b kb .char (1 : Int32) [(.int c0)] (.int 0)) (hc_c0 : ¬ c0 < (0 : Int32) ∧ ¬ (65535 : Int32) < c0) (hW : (255 : Int32) < c0) :
 own_MF l Z ym4 J1 2 none ws (rm_ 5 2 3 74) #[(.ref x), (.ref b)] h0 (QrmI11 Z x b kb c0 h0 n0) := by
 refine own_met (plainFor_of_name pn_java_lang_String) (fun m_ => ef_rmI11 m_ x b) fun pp_ ee_ ss_ mm_ bb_ me_ cc_ s₁ Bd hx hby hml hown hZ hh X0 e0 => ?_
 have B_ {q_ : Nat} {r_ : _} (h_ : decode _ q_ = r_) := hb hby h_
 have hown : ss_.vm.findClass sc0 = some mm_.cls := hown
 have N0 := Fr.nil n0
 have Z0 : n0 ≤ h0.size := by have q := O0.2.1; rw [O0.1] at q; exact q
 have K0 : Keep h0 h0 [x] := Keep.refl _ _
 obtain ⟨G_cs, G_cs0, G_cw, G_h_java_lang_String_7, G_fm, G_fr, G_hb, G_lb, G_ad⟩ := id G_
 show Go_ s₁ (mkF mm_ 0 #[vr x, vr b] [])
 refine sp_ (fun t_ k_ => XS.aloadN X0.here hx rfl (B_ dk13) rfl rfl (XS.aloadN X0.here hx rfl (B_ dk14) rfl rfl (XS.iconst X0.here hx rfl (B_ dk15) (XS.aloadN X0.here hx rfl (B_ dk16) rfl rfl k_)))) ?_
 obtain ⟨cl1, Ar1, -, S1, M1, -, -⟩ := id pr4
 refine sp_ (fun t_ k_ => X0.arraylength hx (by rw [e0]; exact Ar1.1) (State.isArrayOf_alike hZ.alike Ar1.2.1) (g := (mkF mm_ 4 #[vr x, vr b] [(.ref b), (.int 0), (.ref b), (.ref x)])) rfl rfl (B_ dk17) t_ (by rw [len_of S1 M1]; exact k_)) ?_
 show Go_ s₁ (mkF mm_ 5 #[vr x, vr b] [(.int 1), (.int 0), (.ref b), (.ref x)])
 refine sp_ (fun t_ k_ => XS.aconstNull X0.here hx rfl (B_ dk18) k_) ?_
 obtain ⟨_, T2, Lc2, X2, hQ2, st2⟩ := own_cI X0 hx hZ rfl hown (w_ hw 14 rfl) (w_ hw 15 rfl) (w_ hw 17 rfl) (by decide) (backOf (W := 0) (rmI41 l Z a0 hw [] x b kb c0 h0 n0 O0 G_ pr0 pr1 pr2 g_x pr4 hc_c0 hW) hZ (w_ hw 17 rfl) (w_ hw 9 rfl) (by decide) (by decide)) (g := (mkF mm_ 6 #[vr x, vr b] [.null, (.int 1), (.int 0), (.ref b), (.ref x)])) rfl hml.symm (a := x) (argsL := [(.ref b), (.int 0), (.int 1), .null]) (rest := []) (lenOf pd_0 rfl) rfl (Nat.le_of_eq rfl) (B_ dk19) rfl e0 (by decide) (by decide)
 obtain ⟨r_2, k_2, rfl, Nq2, Kc2, r2_0, r2_1, r2_2, r2_3⟩ := hQ2
 have N2 := Fr.app N0 Nq2
 have lo_r_2 : h0.size ≤ r_2 := Nat.le_trans K0.1 r2_0
 have g_r_2 : n0 ≤ r_2 := Nat.le_trans Z0 lo_r_2
 refine jp_ st2 ?_
 show Go_ T2 (mkF mm_ 9 #[vr x, vr b] [])
 have K3 : Keep h0 T2.heap [x] := (K0.trans Kc2 (allS (Or.inl (List.mem_of_getElem? (i := 0) rfl)) all0))
 obtain ⟨fs, hr, hrun, hended, hW, hsame⟩ := X2.leave (v := none) (fun _ => rfl)
 refine ⟨_, _, ?_, hrun, hended, _, _, rfl, ?_, ⟨_, rfl⟩, hW, hsame.mono (by decide) (by decide)⟩
 · exact X2.returnOut hx Bd.returns (B_ dk20) hr
 · show QrmI11 Z x b kb c0 h0 n0 none T2.heap _
   exact ⟨r_2, k_2, rfl, N2, K3, lo_r_2, r2_1, r2_2, r2_3⟩
theorem ef_rmTb2 (mm_ : MethodId) (b : Addr) : entryFrame mm_ #[(.ref b), (.int 0), (.int 2)] 5 = (mkF mm_ 0 #[vr b, vi 0, vi 2, un, un] []) := by first | (simp [entryFrame, mkF, argsToLocals, Value.category]; done) | rfl
def QrmTb2 (Z : State) (b : Addr) (kb : ClassId) (c0 : Int32) (c1 : Int32) (h0 : Heap) (n0 : Nat) (vv_ : Option Value) (hh_ : Heap) (LL_ : List Loc) : Prop := ∃ (r : Addr), ∃ (k : ClassId), (vv_ = some (.ref r)) ∧ (Fr n0 LL_) ∧ (Keep h0 hh_ []) ∧ (h0.size ≤ r) ∧ (Arv Z hh_ r k .byte (4 : Int32) [(lb c0), (hb_ c0), (lb c1), (hb_ c1)] (.int 0))
theorem rmTb2 (l : Launch) (Z : State) (a0 : Array Value) (hw : own_Hw a0 Z) (ws : List Jvm.Cond) (b : Addr) (kb : ClassId) (c0 : Int32) (c1 : Int32) {zc : Int32} {fm : Value} (h0 : Heap) (n0 : Nat) (O0 : Old Z n0 h0) (G_ : own_St Z zc fm) (pr0 : Arv Z h0 b kb .char (2 : Int32) [(.int c0), (.int c1)] (.int 0)) :
 own_MF l Z ym8 J9 5 (some (.array .byte)) ws (rm_ 2 1 4 24) #[(.ref b), (.int 0), (.int 2)] h0 (QrmTb2 Z b kb c0 c1 h0 n0) := by
 refine own_met (plainFor_of_name pn_java_lang_StringUTF16) (fun m_ => ef_rmTb2 m_ b) fun pp_ ee_ ss_ mm_ bb_ me_ cc_ s₁ Bd hx hby hml hown hZ hh X0 e0 => ?_
 have B_ {q_ : Nat} {r_ : _} (h_ : decode _ q_ = r_) := hb hby h_
 have hown : ss_.vm.findClass sc1 = some mm_.cls := hown
 have N0 := Fr.nil n0
 have Z0 : n0 ≤ h0.size := by have q := O0.2.1; rw [O0.1] at q; exact q
 have K0 : Keep h0 h0 [] := Keep.refl _ _
 obtain ⟨G_cs, G_cs0, G_cw, G_h_java_lang_String_7, G_fm, G_fr, G_hb, G_lb, G_ad⟩ := id G_
 show Go_ s₁ (mkF mm_ 0 #[vr b, vi 0, vi 2, un, un] [])
 refine sp_ (fun t_ k_ => XS.iloadN X0.here hx rfl (B_ dk113) rfl  k_) ?_
 obtain ⟨_, T1, Lc1, X1, hQ1, st1⟩ := own_cS X0 hx hZ hown (w_ hw 87 rfl) (w_ hw 88 rfl) (w_ hw 41 rfl) (w_ hw 89 rfl) (by decide) (backOf (W := 0) (rmNb2 l Z a0 hw []  h0 n0 O0 ) hZ (w_ hw 89 rfl) (w_ hw 41 rfl) (by decide) (by decide)) (g := (mkF mm_ 1 #[vr b, vi 0, vi 2, un, un] [(.int 2)])) rfl hml.symm (argsL := [(.int 2)]) (rest := []) (lenOf pd_2 rfl) rfl (Nat.le_of_eq rfl) (B_ dk114) rfl e0 (by decide) (by decide)
 obtain ⟨r_1, k_1, rfl, Nq1, Kc1, r1_0, r1_1⟩ := hQ1
 have N1 := Fr.app N0 Nq1
 have lo_r_1 : h0.size ≤ r_1 := Nat.le_trans K0.1 r1_0
 have g_r_1 : n0 ≤ r_1 := Nat.le_trans Z0 lo_r_1
 refine jp_ st1 ?_
 show Go_ T1 (mkF mm_ 4 #[vr b, vi 0, vi 2, un, un] [(.ref r_1)])
 refine sp_ (fun t_ k_ => XS.astoreN X1.here hx rfl (B_ dk115) rfl rfl (l' := #[vr b, vi 0, vi 2, vr r_1, un]) rfl (XS.iconst X1.here hx rfl (B_ dk116) (XS.istore X1.here hx rfl (B_ dk117) rfl (l' := #[vr b, vi 0, vi 2, vr r_1, vi 0]) rfl (XS.iload X1.here hx rfl (B_ dk118) rfl  (XS.iloadN X1.here hx rfl (B_ dk119) rfl  k_))))) ?_
 show Go_ T1 (mkF mm_ 11 #[vr b, vi 0, vi 2, vr r_1, vi 0] [(.int 2), (.int 0)])
 refine sp_ (fun t_ k_ => XS.icmpNo X1.here hx rfl (B_ dk120) rfl (tlt (by decide : (0 : Int32) < (2 : Int32))).2.1 k_) ?_
 show Go_ T1 (mkF mm_ 14 #[vr b, vi 0, vi 2, vr r_1, vi 0] [])
 refine sp_ (fun t_ k_ => XS.aloadN X1.here hx rfl (B_ dk121) rfl rfl (XS.iload X1.here hx rfl (B_ dk122) rfl  (XS.aloadN X1.here hx rfl (B_ dk123) rfl rfl (XS.iloadN X1.here hx rfl (B_ dk124) rfl  k_)))) ?_
 have f2 : Arv Z T1.heap b kb .char (2 : Int32) [(.int c0), (.int c1)] (.int 0) := (pr0.keep Kc1 nin0)
 obtain ⟨cl3, Ar3, q3, S3, M3, H3, G3⟩ := id f2
 have hin3 : ¬ ((0 : Int32) < 0 ∨ cl3.slots.size ≤ ((0 : Int32)).toNatClampNeg) := inb_of S3 ⟨by decide, by decide⟩
 have hat3 : cl3.slots[((0 : Int32)).toNatClampNeg]? = some (.int c0) := Has.at H3 hin3 rfl
 refine sp_ (fun t_ k_ => X1.caload hx (j := (0 : Int32)) (v := (.int c0)) Ar3.1 (State.isArrayOf_alike hZ.alike Ar3.2.1) Ar3.2.2 hin3 hat3 (g := (mkF mm_ 19 #[vr b, vi 0, vi 2, vr r_1, vi 0] [(.int 0), (.ref b), (.int 0), (.ref r_1)])) rfl rfl (B_ dk125) t_ k_) ?_
 have O5 : Old Z n0 T1.heap := (O0.keep Kc1 all0)
 obtain ⟨_, T4, Lc4, X4, hQ4, st4⟩ := own_cS X1 hx hZ hown (w_ hw 94 rfl) (w_ hw 95 rfl) (w_ hw 41 rfl) (w_ hw 96 rfl) (by decide) (backOf (W := 0) (rmPt2_0 l Z a0 hw [] r_1 c0 k_1 T1.heap n0 O5 G_ r1_1 g_r_1) hZ (w_ hw 96 rfl) (w_ hw 41 rfl) (by decide) (by decide)) (g := (mkF mm_ 20 #[vr b, vi 0, vi 2, vr r_1, vi 0] [(.int c0), (.int 0), (.ref r_1)])) rfl hml.symm (argsL := [(.ref r_1), (.int 0), (.int c0)]) (rest := []) (lenOf pd_3 rfl) rfl (Nat.le_of_eq rfl) (B_ dk126) rfl rfl (by decide) (by decide)
 obtain ⟨rfl, Nq4, Kc4, r4_0⟩ := hQ4
 have N4 := Fr.app N1 Nq4
 refine jp_ st4 ?_
 show Go_ T4 (mkF mm_ 23 #[vr b, vi 0, vi 2, vr r_1, vi 0] [])
 refine sp_ (fun t_ k_ => XS.iinc X4.here hx rfl (B_ dk127) rfl (l' := #[vr b, vi 1, vi 2, vr r_1, vi 0]) rfl (XS.iinc X4.here hx rfl (B_ dk128) rfl (l' := #[vr b, vi 1, vi 2, vr r_1, vi 1]) rfl (XS.goto X4.here hx rfl (pc0 := 29) (pc' := 8) rfl (B_ dk129) (by decide) (by decide) (XS.iload X4.here hx rfl (B_ dk118) rfl  (XS.iloadN X4.here hx rfl (B_ dk119) rfl  k_))))) ?_
 show Go_ T4 (mkF mm_ 11 #[vr b, vi 1, vi 2, vr r_1, vi 1] [(.int 2), (.int 1)])
 refine sp_ (fun t_ k_ => XS.icmpNo X4.here hx rfl (B_ dk120) rfl (tlt (by decide : (1 : Int32) < (2 : Int32))).2.1 k_) ?_
 show Go_ T4 (mkF mm_ 14 #[vr b, vi 1, vi 2, vr r_1, vi 1] [])
 refine sp_ (fun t_ k_ => XS.aloadN X4.here hx rfl (B_ dk121) rfl rfl (XS.iload X4.here hx rfl (B_ dk122) rfl  (XS.aloadN X4.here hx rfl (B_ dk123) rfl rfl (XS.iloadN X4.here hx rfl (B_ dk124) rfl  k_)))) ?_
 have f6 : Arv Z T4.heap b kb .char (2 : Int32) [(.int c0), (.int c1)] (.int 0) := (f2.keep Kc4 (ninS (Nat.ne_of_lt (Nat.lt_of_lt_of_le pr0.lt r1_0)) nin0))
 obtain ⟨cl7, Ar7, q7, S7, M7, H7, G7⟩ := id f6
 have hin7 : ¬ ((1 : Int32) < 0 ∨ cl7.slots.size ≤ ((1 : Int32)).toNatClampNeg) := inb_of S7 ⟨by decide, by decide⟩
 have hat7 : cl7.slots[((1 : Int32)).toNatClampNeg]? = some (.int c1) := Has.at H7 hin7 rfl
 refine sp_ (fun t_ k_ => X4.caload hx (j := (1 : Int32)) (v := (.int c1)) Ar7.1 (State.isArrayOf_alike hZ.alike Ar7.2.1) Ar7.2.2 hin7 hat7 (g := (mkF mm_ 19 #[vr b, vi 1, vi 2, vr r_1, vi 1] [(.int 1), (.ref b), (.int 1), (.ref r_1)])) rfl rfl (B_ dk125) t_ k_) ?_
 have O9 : Old Z n0 T4.heap := (O5.keep Kc4 (allS g_r_1 all0))
 obtain ⟨_, T8, Lc8, X8, hQ8, st8⟩ := own_cS X4 hx hZ hown (w_ hw 94 rfl) (w_ hw 95 rfl) (w_ hw 41 rfl) (w_ hw 96 rfl) (by decide) (backOf (W := 0) (rmPt2_1 l Z a0 hw [] r_1 c1 k_1 c0 T4.heap n0 O9 G_ r4_0 g_r_1) hZ (w_ hw 96 rfl) (w_ hw 41 rfl) (by decide) (by decide)) (g := (mkF mm_ 20 #[vr b, vi 1, vi 2, vr r_1, vi 1] [(.int c1), (.int 1), (.ref r_1)])) rfl hml.symm (argsL := [(.ref r_1), (.int 1), (.int c1)]) (rest := []) (lenOf pd_3 rfl) rfl (Nat.le_of_eq rfl) (B_ dk126) rfl rfl (by decide) (by decide)
 obtain ⟨rfl, Nq8, Kc8, r8_0⟩ := hQ8
 have N8 := Fr.app N4 Nq8
 refine jp_ st8 ?_
 show Go_ T8 (mkF mm_ 23 #[vr b, vi 1, vi 2, vr r_1, vi 1] [])
 refine sp_ (fun t_ k_ => XS.iinc X8.here hx rfl (B_ dk127) rfl (l' := #[vr b, vi 2, vi 2, vr r_1, vi 1]) rfl (XS.iinc X8.here hx rfl (B_ dk128) rfl (l' := #[vr b, vi 2, vi 2, vr r_1, vi 2]) rfl (XS.goto X8.here hx rfl (pc0 := 29) (pc' := 8) rfl (B_ dk129) (by decide) (by decide) (XS.iload X8.here hx rfl (B_ dk118) rfl  (XS.iloadN X8.here hx rfl (B_ dk119) rfl  k_))))) ?_
 show Go_ T8 (mkF mm_ 11 #[vr b, vi 2, vi 2, vr r_1, vi 2] [(.int 2), (.int 2)])
 refine sp_ (fun t_ k_ => XS.icmpYes X8.here hx rfl (pc0 := 11) (pc' := 32) rfl (B_ dk120) rfl (flt (by decide : ¬ ((2 : Int32) < (2 : Int32)))).2.1 (by decide) (by decide) k_) ?_
 show Go_ T8 (mkF mm_ 32 #[vr b, vi 2, vi 2, vr r_1, vi 2] [])
 refine sp_ (fun t_ k_ => XS.aloadN X8.here hx rfl (B_ dk130) rfl rfl k_) ?_
 show Go_ T8 (mkF mm_ 33 #[vr b, vi 2, vi 2, vr r_1, vi 2] [(.ref r_1)])
 have K10 : Keep h0 T8.heap [] := (((K0.trans Kc1 all0).trans Kc4 (allS (Or.inr lo_r_1) all0)).trans Kc8 (allS (Or.inr lo_r_1) all0))
 obtain ⟨fs, hr, hrun, hended, hW, hsame⟩ := X8.leave (v := some (.ref r_1)) (rN Bd.returns)
 refine ⟨_, _, ?_, hrun, hended, _, _, rfl, ?_, ⟨_, rfl⟩, hW, hsame.mono (by decide) (by decide)⟩
 · jvm_step X8.here [X8.here.top, hx, (B_ dk131), X8.method', Bd.returns, Value.isRef, FieldType.isReference]
   first | (intro acts; rw [hr _ acts rfl rfl rfl]) | rw [hr _ _ rfl rfl rfl]
   exact Steps.refl _
 · show QrmTb2 Z b kb c0 c1 h0 n0 (some (.ref r_1)) T8.heap _
   exact ⟨r_1, k_1, rfl, N8, K10, lo_r_1, r8_0⟩
theorem ef_rmC52_0 (mm_ : MethodId) (b : Addr) (t : Addr) : entryFrame mm_ #[(.ref b), (.int 0), (.ref t), (.int 0), (.int 2)] 7 = (mkF mm_ 0 #[vr b, vi 0, vr t, vi 0, vi 2, un, un] []) := by first | (simp [entryFrame, mkF, argsToLocals, Value.category]; done) | rfl
def QrmC52_0 (Z : State) (b : Addr) (t : Addr) (kb : ClassId) (k : ClassId) (c0 : Int32) (c1 : Int32) (h0 : Heap) (n0 : Nat) (vv_ : Option Value) (hh_ : Heap) (LL_ : List Loc) : Prop := (vv_ = some (.int 0)) ∧ (Fr n0 LL_) ∧ (Keep h0 hh_ [t])
theorem rmC52_0 (l : Launch) (Z : State) (a0 : Array Value) (hw : own_Hw a0 Z) (ws : List Jvm.Cond) (b : Addr) (t : Addr) (kb : ClassId) (k : ClassId) (c0 : Int32) (c1 : Int32) (h0 : Heap) (n0 : Nat) (O0 : Old Z n0 h0) (pr0 : Arv Z h0 b kb .char (2 : Int32) [(.int c0), (.int c1)] (.int 0)) (pr1 : Arv Z h0 t k .byte (2 : Int32) [(.int 0), (.int 0)] (.int 0)) (g_t : n0 ≤ t) (hbt : b ≠ t) (hb0 : (255 : Int32) < c0) :
 own_MF l Z ym1 J10 7 (some .int) ws (rm_ 0 0 0 0) #[(.ref b), (.int 0), (.ref t), (.int 0), (.int 2)] h0 (QrmC52_0 Z b t kb k c0 c1 h0 n0) := by
 refine own_met (plainFor_of_name pn_java_lang_StringUTF16) (fun m_ => ef_rmC52_0 m_ b t) fun pp_ ee_ ss_ mm_ bb_ me_ cc_ s₁ Bd hx hby hml hown hZ hh X0 e0 => ?_
 have B_ {q_ : Nat} {r_ : _} (h_ : decode _ q_ = r_) := hb hby h_
 have hown : ss_.vm.findClass sc1 = some mm_.cls := hown
 have N0 := Fr.nil n0
 have Z0 : n0 ≤ h0.size := by have q := O0.2.1; rw [O0.1] at q; exact q
 have K0 : Keep h0 h0 [t] := Keep.refl _ _
 show Go_ s₁ (mkF mm_ 0 #[vr b, vi 0, vr t, vi 0, vi 2, un, un] [])
 refine sp_ (fun t_ k_ => XS.iconst X0.here hx rfl (B_ dk132) (XS.istore X0.here hx rfl (B_ dk133) rfl (l' := #[vr b, vi 0, vr t, vi 0, vi 2, vi 0, un]) rfl (XS.iload X0.here hx rfl (B_ dk134) rfl  (XS.iload X0.here hx rfl (B_ dk135) rfl  k_)))) ?_
 show Go_ s₁ (mkF mm_ 7 #[vr b, vi 0, vr t, vi 0, vi 2, vi 0, un] [(.int 2), (.int 0)])
 refine sp_ (fun t_ k_ => XS.icmpNo X0.here hx rfl (B_ dk136) rfl (tlt (by decide : (0 : Int32) < (2 : Int32))).2.1 k_) ?_
 show Go_ s₁ (mkF mm_ 10 #[vr b, vi 0, vr t, vi 0, vi 2, vi 0, un] [])
 refine sp_ (fun t_ k_ => XS.aloadN X0.here hx rfl (B_ dk137) rfl rfl (XS.iloadN X0.here hx rfl (B_ dk138) rfl  k_)) ?_
 obtain ⟨cl1, Ar1, q1, S1, M1, H1, G1⟩ := id pr0
 have hin1 : ¬ ((0 : Int32) < 0 ∨ cl1.slots.size ≤ ((0 : Int32)).toNatClampNeg) := inb_of S1 ⟨by decide, by decide⟩
 have hat1 : cl1.slots[((0 : Int32)).toNatClampNeg]? = some (.int c0) := Has.at H1 hin1 rfl
 refine sp_ (fun t_ k_ => X0.caload hx (j := (0 : Int32)) (v := (.int c0)) (by rw [e0]; exact Ar1.1) (State.isArrayOf_alike hZ.alike Ar1.2.1) Ar1.2.2 hin1 hat1 (g := (mkF mm_ 12 #[vr b, vi 0, vr t, vi 0, vi 2, vi 0, un] [(.int 0), (.ref b)])) rfl rfl (B_ dk139) t_ k_) ?_
 show Go_ s₁ (mkF mm_ 13 #[vr b, vi 0, vr t, vi 0, vi 2, vi 0, un] [(.int c0)])
 refine sp_ (fun t_ k_ => XS.istore X0.here hx rfl (B_ dk140) rfl (l' := #[vr b, vi 0, vr t, vi 0, vi 2, vi 0, vi c0]) rfl (XS.iload X0.here hx rfl (B_ dk141) rfl  (XS.sipush X0.here hx rfl (B_ dk142) k_))) ?_
 show Go_ s₁ (mkF mm_ 20 #[vr b, vi 0, vr t, vi 0, vi 2, vi 0, vi c0] [(.int 255), (.int c0)])
 refine sp_ (fun t_ k_ => XS.icmpNo X0.here hx rfl (B_ dk143) rfl (tlt hb0).2.2.2 k_) ?_
 show Go_ s₁ (mkF mm_ 23 #[vr b, vi 0, vr t, vi 0, vi 2, vi 0, vi c0] [])
 refine sp_ (fun t_ k_ => XS.iload X0.here hx rfl (B_ dk144) rfl  k_) ?_
 show Go_ s₁ (mkF mm_ 25 #[vr b, vi 0, vr t, vi 0, vi 2, vi 0, vi c0] [(.int 0)])
 obtain ⟨fs, hr, hrun, hended, hW, hsame⟩ := X0.leave (v := some (.int 0)) (rN Bd.returns)
 refine ⟨_, _, ?_, hrun, hended, _, _, rfl, ?_, ⟨_, rfl⟩, hW, hsame.mono (by decide) (by decide)⟩
 · exact retI X0 hx Bd.returns (B_ dk145) hr
 · show QrmC52_0 Z b t kb k c0 c1 h0 n0 (some (.int 0)) s₁.heap _
   rw [e0]
   exact ⟨rfl, N0, K0⟩
theorem dk195 : decode J10 26 = .ok (.aload_n 2, 1) := by decide +kernel
theorem dk196 : decode J10 27 = .ok (.iload_n 3, 1) := by decide +kernel
theorem dk197 : decode J10 28 = .ok (.iload 6, 2) := by decide +kernel
theorem dk198 : decode J10 30 = .ok (.i2b, 1) := by decide +kernel
theorem dk199 : decode J10 31 = .ok (.bastore, 1) := by decide +kernel
theorem dk200 : decode J10 32 = .ok (.iinc 1 1, 3) := by decide +kernel
theorem dk201 : decode J10 35 = .ok (.iinc 3 1, 3) := by decide +kernel
theorem dk202 : decode J10 38 = .ok (.iinc 5 1, 3) := by decide +kernel
theorem dk203 : decode J10 41 = .ok (.goto (-38), 3) := by decide +kernel
theorem ef_rmC52_1 (mm_ : MethodId) (b : Addr) (t : Addr) : entryFrame mm_ #[(.ref b), (.int 0), (.ref t), (.int 0), (.int 2)] 7 = (mkF mm_ 0 #[vr b, vi 0, vr t, vi 0, vi 2, un, un] []) := by first | (simp [entryFrame, mkF, argsToLocals, Value.category]; done) | rfl
def QrmC52_1 (Z : State) (b : Addr) (t : Addr) (kb : ClassId) (k : ClassId) (c0 : Int32) (c1 : Int32) (h0 : Heap) (n0 : Nat) (vv_ : Option Value) (hh_ : Heap) (LL_ : List Loc) : Prop := (vv_ = some (.int 1)) ∧ (Fr n0 LL_) ∧ (Keep h0 hh_ [t])
theorem rmC52_1 (l : Launch) (Z : State) (a0 : Array Value) (hw : own_Hw a0 Z) (ws : List Jvm.Cond) (b : Addr) (t : Addr) (kb : ClassId) (k : ClassId) (c0 : Int32) (c1 : Int32) (h0 : Heap) (n0 : Nat) (O0 : Old Z n0 h0) (pr0 : Arv Z h0 b kb .char (2 : Int32) [(.int c0), (.int c1)] (.int 0)) (pr1 : Arv Z h0 t k .byte (2 : Int32) [(.int 0), (.int 0)] (.int 0)) (g_t : n0 ≤ t) (hbt : b ≠ t) (hs0 : ¬ ((255 : Int32) < c0)) (hb1 : (255 : Int32) < c1) :
 own_MF l Z ym1 J10 7 (some .int) ws (rm_ 0 0 0 0) #[(.ref b), (.int 0), (.ref t), (.int 0), (.int 2)] h0 (QrmC52_1 Z b t kb k c0 c1 h0 n0) := by
 refine own_met (plainFor_of_name pn_java_lang_StringUTF16) (fun m_ => ef_rmC52_1 m_ b t) fun pp_ ee_ ss_ mm_ bb_ me_ cc_ s₁ Bd hx hby hml hown hZ hh X0 e0 => ?_
 have B_ {q_ : Nat} {r_ : _} (h_ : decode _ q_ = r_) := hb hby h_
 have hown : ss_.vm.findClass sc1 = some mm_.cls := hown
 have N0 := Fr.nil n0
 have Z0 : n0 ≤ h0.size := by have q := O0.2.1; rw [O0.1] at q; exact q
 have K0 : Keep h0 h0 [t] := Keep.refl _ _
 show Go_ s₁ (mkF mm_ 0 #[vr b, vi 0, vr t, vi 0, vi 2, un, un] [])
 refine sp_ (fun t_ k_ => XS.iconst X0.here hx rfl (B_ dk132) (XS.istore X0.here hx rfl (B_ dk133) rfl (l' := #[vr b, vi 0, vr t, vi 0, vi 2, vi 0, un]) rfl (XS.iload X0.here hx rfl (B_ dk134) rfl  (XS.iload X0.here hx rfl (B_ dk135) rfl  k_)))) ?_
 show Go_ s₁ (mkF mm_ 7 #[vr b, vi 0, vr t, vi 0, vi 2, vi 0, un] [(.int 2), (.int 0)])
 refine sp_ (fun t_ k_ => XS.icmpNo X0.here hx rfl (B_ dk136) rfl (tlt (by decide : (0 : Int32) < (2 : Int32))).2.1 k_) ?_
 show Go_ s₁ (mkF mm_ 10 #[vr b, vi 0, vr t, vi 0, vi 2, vi 0, un] [])
 refine sp_ (fun t_ k_ => XS.aloadN X0.here hx rfl (B_ dk137) rfl rfl (XS.iloadN X0.here hx rfl (B_ dk138) rfl  k_)) ?_
 obtain ⟨cl1, Ar1, q1, S1, M1, H1, G1⟩ := id pr0
 have hin1 : ¬ ((0 : Int32) < 0 ∨ cl1.slots.size ≤ ((0 : Int32)).toNatClampNeg) := inb_of S1 ⟨by decide, by decide⟩
 have hat1 : cl1.slots[((0 : Int32)).toNatClampNeg]? = some (.int c0) := Has.at H1 hin1 rfl
 refine sp_ (fun t_ k_ => X0.caload hx (j := (0 : Int32)) (v := (.int c0)) (by rw [e0]; exact Ar1.1) (State.isArrayOf_alike hZ.alike Ar1.2.1) Ar1.2.2 hin1 hat1 (g := (mkF mm_ 12 #[vr b, vi 0, vr t, vi 0, vi 2, vi 0, un] [(.int 0), (.ref b)])) rfl rfl (B_ dk139) t_ k_) ?_
 show Go_ s₁ (mkF mm_ 13 #[vr b, vi 0, vr t, vi 0, vi 2, vi 0, un] [(.int c0)])
 refine sp_ (fun t_ k_ => XS.istore X0.here hx rfl (B_ dk140) rfl (l' := #[vr b, vi 0, vr t, vi 0, vi 2, vi 0, vi c0]) rfl (XS.iload X0.here hx rfl (B_ dk141) rfl  (XS.sipush X0.here hx rfl (B_ dk142) k_))) ?_
 show Go_ s₁ (mkF mm_ 20 #[vr b, vi 0, vr t, vi 0, vi 2, vi 0, vi c0] [(.int 255), (.int c0)])
 refine sp_ (fun t_ k_ => XS.icmpYes X0.here hx rfl (pc0 := 20) (pc' := 26) rfl (B_ dk143) rfl (flt hs0).2.2.2 (by decide) (by decide) k_) ?_
 show Go_ s₁ (mkF mm_ 26 #[vr b, vi 0, vr t, vi 0, vi 2, vi 0, vi c0] [])
 refine sp_ (fun t_ k_ => XS.aloadN X0.here hx rfl (B_ dk195) rfl rfl (XS.iloadN X0.here hx rfl (B_ dk196) rfl  (XS.iload X0.here hx rfl (B_ dk197) rfl  (XS.i2b X0.here hx rfl (B_ dk198) rfl k_)))) ?_
 obtain ⟨cl2, Ar2, q2, S2, M2, H2, G2⟩ := id pr1
 have hin2 : ¬ ((0 : Int32) < 0 ∨ cl2.slots.size ≤ ((0 : Int32)).toNatClampNeg) := inb_of S2 ⟨by decide, by decide⟩
 obtain ⟨T2, h2, X2, e2, W2, st2⟩ := stB X0 hx hZ e0 Ar2 (j := (0 : Int32)) hin2 (g := (mkF mm_ 31 #[vr b, vi 0, vr t, vi 0, vi 2, vi 0, vi c0] [(.int (c0.toInt8.toInt32)), (.int 0), (.ref t)])) rfl rfl (B_ dk199)
 have V2 : Arv Z h2 t k .byte (2 : Int32) [(.int (c0.toInt8.toInt32)), (.int 0)] (.int 0) := by
  have q := Arv.set Ar2 q2 S2 M2 H2 G2 (fits_nar_byte _) W2 0 rfl (Nat.le_of_ble_eq_true rfl)
  rw [own_narB] at q
  exact q
 have N2 := Fr.snoc X2 N0 g_t
 refine sp_ st2 ?_
 show Go_ T2 (mkF mm_ 32 #[vr b, vi 0, vr t, vi 0, vi 2, vi 0, vi c0] [])
 refine sp_ (fun t_ k_ => XS.iinc X2.here hx rfl (B_ dk200) rfl (l' := #[vr b, vi 1, vr t, vi 0, vi 2, vi 0, vi c0]) rfl (XS.iinc X2.here hx rfl (B_ dk201) rfl (l' := #[vr b, vi 1, vr t, vi 1, vi 2, vi 0, vi c0]) rfl (XS.iinc X2.here hx rfl (B_ dk202) rfl (l' := #[vr b, vi 1, vr t, vi 1, vi 2, vi 1, vi c0]) rfl (XS.goto X2.here hx rfl (pc0 := 41) (pc' := 3) rfl (B_ dk203) (by decide) (by decide) (XS.iload X2.here hx rfl (B_ dk134) rfl  (XS.iload X2.here hx rfl (B_ dk135) rfl  k_)))))) ?_
 show Go_ T2 (mkF mm_ 7 #[vr b, vi 1, vr t, vi 1, vi 2, vi 1, vi c0] [(.int 2), (.int 1)])
 refine sp_ (fun t_ k_ => XS.icmpNo X2.here hx rfl (B_ dk136) rfl (tlt (by decide : (1 : Int32) < (2 : Int32))).2.1 k_) ?_
 show Go_ T2 (mkF mm_ 10 #[vr b, vi 1, vr t, vi 1, vi 2, vi 1, vi c0] [])
 refine sp_ (fun t_ k_ => XS.aloadN X2.here hx rfl (B_ dk137) rfl rfl (XS.iloadN X2.here hx rfl (B_ dk138) rfl  k_)) ?_
 have f3 : Arv Z h2 b kb .char (2 : Int32) [(.int c0), (.int c1)] (.int 0) := (pr0.other W2 hbt)
 obtain ⟨cl4, Ar4, q4, S4, M4, H4, G4⟩ := id f3
 have hin4 : ¬ ((1 : Int32) < 0 ∨ cl4.slots.size ≤ ((1 : Int32)).toNatClampNeg) := inb_of S4 ⟨by decide, by decide⟩
 have hat4 : cl4.slots[((1 : Int32)).toNatClampNeg]? = some (.int c1) := Has.at H4 hin4 rfl
 refine sp_ (fun t_ k_ => X2.caload hx (j := (1 : Int32)) (v := (.int c1)) (by rw [e2]; exact Ar4.1) (State.isArrayOf_alike hZ.alike Ar4.2.1) Ar4.2.2 hin4 hat4 (g := (mkF mm_ 12 #[vr b, vi 1, vr t, vi 1, vi 2, vi 1, vi c0] [(.int 1), (.ref b)])) rfl rfl (B_ dk139) t_ k_) ?_
 show Go_ T2 (mkF mm_ 13 #[vr b, vi 1, vr t, vi 1, vi 2, vi 1, vi c0] [(.int c1)])
 refine sp_ (fun t_ k_ => XS.istore X2.here hx rfl (B_ dk140) rfl (l' := #[vr b, vi 1, vr t, vi 1, vi 2, vi 1, vi c1]) rfl (XS.iload X2.here hx rfl (B_ dk141) rfl  (XS.sipush X2.here hx rfl (B_ dk142) k_))) ?_
 show Go_ T2 (mkF mm_ 20 #[vr b, vi 1, vr t, vi 1, vi 2, vi 1, vi c1] [(.int 255), (.int c1)])
 refine sp_ (fun t_ k_ => XS.icmpNo X2.here hx rfl (B_ dk143) rfl (tlt hb1).2.2.2 k_) ?_
 show Go_ T2 (mkF mm_ 23 #[vr b, vi 1, vr t, vi 1, vi 2, vi 1, vi c1] [])
 refine sp_ (fun t_ k_ => XS.iload X2.here hx rfl (B_ dk144) rfl  k_) ?_
 show Go_ T2 (mkF mm_ 25 #[vr b, vi 1, vr t, vi 1, vi 2, vi 1, vi c1] [(.int 1)])
 have K5 : Keep h0 h2 [t] := (K0.wr W2 (Or.inl (List.mem_of_getElem? (i := 0) rfl)))
 obtain ⟨fs, hr, hrun, hended, hW, hsame⟩ := X2.leave (v := some (.int 1)) (rN Bd.returns)
 refine ⟨_, _, ?_, hrun, hended, _, _, rfl, ?_, ⟨_, rfl⟩, hW, hsame.mono (by decide) (by decide)⟩
 · exact retI X2 hx Bd.returns (B_ dk145) hr
 · show QrmC52_1 Z b t kb k c0 c1 h0 n0 (some (.int 1)) T2.heap _
   rw [e2]
   exact ⟨rfl, N2, K5⟩
theorem ef_rmC32 (mm_ : MethodId) (b : Addr) : entryFrame mm_ #[(.ref b), (.int 0), (.int 2)] 6 = (mkF mm_ 0 #[vr b, vi 0, vi 2, un, un, un] []) := by first | (simp [entryFrame, mkF, argsToLocals, Value.category]; done) | rfl
def QrmC32 (Z : State) (b : Addr) (kb : ClassId) (c0 : Int32) (c1 : Int32) (h0 : Heap) (n0 : Nat) (vv_ : Option Value) (hh_ : Heap) (LL_ : List Loc) : Prop := ∃ (r : Addr), ∃ (k : ClassId), (vv_ = some (.ref r)) ∧ (Fr n0 LL_) ∧ (Keep h0 hh_ []) ∧ (h0.size ≤ r) ∧ (Arv Z hh_ r k .byte (4 : Int32) [(lb c0), (hb_ c0), (lb c1), (hb_ c1)] (.int 0))
theorem rmC32 (l : Launch) (Z : State) (a0 : Array Value) (hw : own_Hw a0 Z) (ws : List Jvm.Cond) (b : Addr) (kb : ClassId) (c0 : Int32) (c1 : Int32) {zc : Int32} {fm : Value} (h0 : Heap) (n0 : Nat) (O0 : Old Z n0 h0) (G_ : own_St Z zc fm) (pr0 : Arv Z h0 b kb .char (2 : Int32) [(.int c0), (.int c1)] (.int 0)) (hc_c0 : ¬ c0 < (0 : Int32) ∧ ¬ (65535 : Int32) < c0) (hc_c1 : ¬ c1 < (0 : Int32) ∧ ¬ (65535 : Int32) < c1) (hW : (255 : Int32) < c0 ∨ (255 : Int32) < c1) :
 own_MF l Z ym9 J11 6 (some (.array .byte)) ws (rm_ 3 2 6 40) #[(.ref b), (.int 0), (.int 2)] h0 (QrmC32 Z b kb c0 c1 h0 n0) := by
 refine own_met (plainFor_of_name pn_java_lang_StringUTF16) (fun m_ => ef_rmC32 m_ b) fun pp_ ee_ ss_ mm_ bb_ me_ cc_ s₁ Bd hx hby hml hown hZ hh X0 e0 => ?_
 have B_ {q_ : Nat} {r_ : _} (h_ : decode _ q_ = r_) := hb hby h_
 have hown : ss_.vm.findClass sc1 = some mm_.cls := hown
 have N0 := Fr.nil n0
 have Z0 : n0 ≤ h0.size := by have q := O0.2.1; rw [O0.1] at q; exact q
 have K0 : Keep h0 h0 [] := Keep.refl _ _
 obtain ⟨G_cs, G_cs0, G_cw, G_h_java_lang_String_7, G_fm, G_fr, G_hb, G_lb, G_ad⟩ := id G_
 show Go_ s₁ (mkF mm_ 0 #[vr b, vi 0, vi 2, un, un, un] [])
 by_cases hs0 : (255 : Int32) < c0
 · skip
   refine sp_ (fun t_ k_ => XS.iloadN X0.here hx rfl (B_ dk146) rfl  k_) ?_
   obtain ⟨T1, h1, k1, X1, e1, E1, A1, st1⟩ := newP X0 hx hZ (w_ hw 22 rfl) e0 (g := (mkF mm_ 1 #[vr b, vi 0, vi 2, un, un, un] [(.int 2)])) rfl (B_ dk147) rfl (by decide) (cap := 2) (by decide) (by decide) (by decide) (by decide)
   obtain ⟨b1, q1⟩ : ∃ z, z = h0.size := ⟨_, rfl⟩
   rw [← q1] at A1 st1
   have lo_b1 : h0.size ≤ b1 := Nat.le_trans K0.1 (Nat.le_of_eq q1.symm)
   have g_b1 : n0 ≤ b1 := Nat.le_trans Z0 lo_b1
   refine sp_ st1 ?_
   have V1 : Arv Z h1 b1 k1 .byte (2 : Int32) [(.int 0), (.int 0)] (.int 0) := (Arv.new A1 (by decide)).pad (pad_rep [] (.int 0) 2)
   show Go_ T1 (mkF mm_ 3 #[vr b, vi 0, vi 2, un, un, un] [(.ref b1)])
   refine sp_ (fun t_ k_ => XS.astoreN X1.here hx rfl (B_ dk148) rfl rfl (l' := #[vr b, vi 0, vi 2, vr b1, un, un]) rfl (XS.aloadN X1.here hx rfl (B_ dk149) rfl rfl (XS.iloadN X1.here hx rfl (B_ dk150) rfl  (XS.aloadN X1.here hx rfl (B_ dk151) rfl rfl (XS.iconst X1.here hx rfl (B_ dk152) (XS.iloadN X1.here hx rfl (B_ dk153) rfl  k_)))))) ?_
   have f3 : Arv Z h1 b kb .char (2 : Int32) [(.int c0), (.int c1)] (.int 0) := (pr0.ext E1)
   have O4 : Old Z n0 h1 := (O0.ext E1)
   obtain ⟨_, T2, Lc2, X2, hQ2, st2⟩ := own_cS X1 hx hZ hown (w_ hw 43 rfl) (w_ hw 44 rfl) (w_ hw 41 rfl) (w_ hw 45 rfl) (by decide) (backOf (W := 0) (rmC52_0 l Z a0 hw [] b b1 kb k1 c0 c1 h1 n0 O4 f3 V1 g_b1 (Nat.ne_of_lt (Nat.lt_of_lt_of_le pr0.lt (Nat.le_of_eq q1.symm))) hs0) hZ (w_ hw 45 rfl) (w_ hw 41 rfl) (by decide) (by decide)) (g := (mkF mm_ 9 #[vr b, vi 0, vi 2, vr b1, un, un] [(.int 2), (.int 0), (.ref b1), (.int 0), (.ref b)])) rfl hml.symm (argsL := [(.ref b), (.int 0), (.ref b1), (.int 0), (.int 2)]) (rest := []) (lenOf pd_4 rfl) rfl (Nat.le_of_eq rfl) (B_ dk154) rfl e1 (by decide) (by decide)
   obtain ⟨rfl, Nq2, Kc2⟩ := hQ2
   have N2 := Fr.app N0 Nq2
   refine jp_ st2 ?_
   show Go_ T2 (mkF mm_ 12 #[vr b, vi 0, vi 2, vr b1, un, un] [(.int 0)])
   refine sp_ (fun t_ k_ => XS.istore X2.here hx rfl (B_ dk155) rfl (l' := #[vr b, vi 0, vi 2, vr b1, vi 0, un]) rfl (XS.iload X2.here hx rfl (B_ dk156) rfl  (XS.iloadN X2.here hx rfl (B_ dk157) rfl  k_))) ?_
   show Go_ T2 (mkF mm_ 17 #[vr b, vi 0, vi 2, vr b1, vi 0, un] [(.int 2), (.int 0)])
   refine sp_ (fun t_ k_ => XS.icmpNo X2.here hx rfl (B_ dk158) rfl (feq (by decide : ¬ ((0 : Int32) = (2 : Int32)))).1 k_) ?_
   show Go_ T2 (mkF mm_ 20 #[vr b, vi 0, vi 2, vr b1, vi 0, un] [])
   refine sp_ (fun t_ k_ => XS.aloadN X2.here hx rfl (B_ dk159) rfl rfl (XS.iloadN X2.here hx rfl (B_ dk160) rfl  (XS.iloadN X2.here hx rfl (B_ dk161) rfl  k_))) ?_
   have f6 : Arv Z T2.heap b kb .char (2 : Int32) [(.int c0), (.int c1)] (.int 0) := (f3.keep Kc2 (ninS (Nat.ne_of_lt (Nat.lt_of_lt_of_le pr0.lt (Nat.le_of_eq q1.symm))) nin0))
   have O7 : Old Z n0 T2.heap := (O4.keep Kc2 (allS g_b1 all0))
   obtain ⟨_, T5, Lc5, X5, hQ5, st5⟩ := own_cS X2 hx hZ hown (w_ hw 84 rfl) (w_ hw 85 rfl) (w_ hw 41 rfl) (w_ hw 86 rfl) (by decide) (backOf (W := 0) (rmTb2 l Z a0 hw [] b kb c0 c1 T2.heap n0 O7 G_ f6) hZ (w_ hw 86 rfl) (w_ hw 41 rfl) (by decide) (by decide)) (g := (mkF mm_ 23 #[vr b, vi 0, vi 2, vr b1, vi 0, un] [(.int 2), (.int 0), (.ref b)])) rfl hml.symm (argsL := [(.ref b), (.int 0), (.int 2)]) (rest := []) (lenOf pd_5 rfl) rfl (Nat.le_of_eq rfl) (B_ dk162) rfl rfl (by decide) (by decide)
   obtain ⟨r_5, k_5, rfl, Nq5, Kc5, r5_0, r5_1⟩ := hQ5
   have N5 := Fr.app N2 Nq5
   have K8 : Keep h0 T2.heap [] := ((K0.ext E1).trans Kc2 (allS (Or.inr lo_b1) all0))
   have lo_r_5 : h0.size ≤ r_5 := Nat.le_trans K8.1 r5_0
   have g_r_5 : n0 ≤ r_5 := Nat.le_trans Z0 lo_r_5
   refine jp_ st5 ?_
   show Go_ T5 (mkF mm_ 26 #[vr b, vi 0, vi 2, vr b1, vi 0, un] [(.ref r_5)])
   refine sp_ (fun t_ k_ => XS.astore X5.here hx rfl (B_ dk163) rfl rfl (l' := #[vr b, vi 0, vi 2, vr b1, vi 0, vr r_5]) rfl (XS.aload X5.here hx rfl (B_ dk164) rfl rfl (XS.iload X5.here hx rfl (B_ dk165) rfl  k_))) ?_
   have O10 : Old Z n0 T5.heap := (O7.keep Kc5 all0)
   obtain ⟨_, T9, Lc9, X9, hQ9, st9⟩ := own_cS X5 hx hZ hown (w_ hw 100 rfl) (w_ hw 101 rfl) (w_ hw 41 rfl) (w_ hw 102 rfl) (by decide) (backOf (W := 0) (rmGt0 l Z a0 hw [] r_5 k_5 (4 : Int32) [(lb c0), (hb_ c0), (lb c1), (hb_ c1)] c0 T5.heap n0 O10 G_ r5_1 (by first | assumption | rfl | decide | (simp; done)) (by first | assumption | rfl | decide | (simp; done)) (by first | assumption | rfl | decide | (simp; done)) (by first | assumption | rfl | decide | (simp; done)) hc_c0) hZ (w_ hw 102 rfl) (w_ hw 41 rfl) (by decide) (by decide)) (g := (mkF mm_ 32 #[vr b, vi 0, vi 2, vr b1, vi 0, vr r_5] [(.int 0), (.ref r_5)])) rfl hml.symm (argsL := [(.ref r_5), (.int 0)]) (rest := []) (lenOf pd_6 rfl) rfl (Nat.le_of_eq rfl) (B_ dk166) rfl rfl (by decide) (by decide)
   obtain ⟨rfl, rfl, Eh9⟩ := hQ9
   have N9 := Fr.app N5 (Fr.nil n0)
   refine jp_ st9 ?_
   show Go_ T9 (mkF mm_ 35 #[vr b, vi 0, vi 2, vr b1, vi 0, vr r_5] [(.int c0)])
   refine sp_ (fun t_ k_ => XS.sipush X9.here hx rfl (B_ dk167) k_) ?_
   show Go_ T9 (mkF mm_ 38 #[vr b, vi 0, vi 2, vr b1, vi 0, vr r_5] [(.int 255), (.int c0)])
   refine sp_ (fun t_ k_ => XS.icmpYes X9.here hx rfl (pc0 := 38) (pc' := 54) rfl (B_ dk168) rfl (tlt hs0).2.2.1 (by decide) (by decide) k_) ?_
   show Go_ T9 (mkF mm_ 54 #[vr b, vi 0, vi 2, vr b1, vi 0, vr r_5] [])
   refine sp_ (fun t_ k_ => XS.aload X9.here hx rfl (B_ dk169) rfl rfl k_) ?_
   show Go_ T9 (mkF mm_ 56 #[vr b, vi 0, vi 2, vr b1, vi 0, vr r_5] [(.ref r_5)])
   have K11 : Keep h0 T5.heap [] := (K8.trans Kc5 all0)
   obtain ⟨fs, hr, hrun, hended, hW, hsame⟩ := X9.leave (v := some (.ref r_5)) (rN Bd.returns)
   refine ⟨_, _, ?_, hrun, hended, _, _, rfl, ?_, ⟨_, rfl⟩, hW, hsame.mono (by decide) (by decide)⟩
   · jvm_step X9.here [X9.here.top, hx, (B_ dk170), X9.method', Bd.returns, Value.isRef, FieldType.isReference]
     first | (intro acts; rw [hr _ acts rfl rfl rfl]) | rw [hr _ _ rfl rfl rfl]
     exact Steps.refl _
   · show QrmC32 Z b kb c0 c1 h0 n0 (some (.ref r_5)) T9.heap _
     rw [Eh9]
     exact ⟨r_5, k_5, rfl, N9, K11, lo_r_5, r5_1⟩
 · skip
   by_cases hs1 : (255 : Int32) < c1
   · skip
     refine sp_ (fun t_ k_ => XS.iloadN X0.here hx rfl (B_ dk146) rfl  k_) ?_
     obtain ⟨T12, h12, k12, X12, e12, E12, A12, st12⟩ := newP X0 hx hZ (w_ hw 22 rfl) e0 (g := (mkF mm_ 1 #[vr b, vi 0, vi 2, un, un, un] [(.int 2)])) rfl (B_ dk147) rfl (by decide) (cap := 2) (by decide) (by decide) (by decide) (by decide)
     obtain ⟨b12, q12⟩ : ∃ z, z = h0.size := ⟨_, rfl⟩
     rw [← q12] at A12 st12
     have lo_b12 : h0.size ≤ b12 := Nat.le_trans K0.1 (Nat.le_of_eq q12.symm)
     have g_b12 : n0 ≤ b12 := Nat.le_trans Z0 lo_b12
     refine sp_ st12 ?_
     have V12 : Arv Z h12 b12 k12 .byte (2 : Int32) [(.int 0), (.int 0)] (.int 0) := (Arv.new A12 (by decide)).pad (pad_rep [] (.int 0) 2)
     show Go_ T12 (mkF mm_ 3 #[vr b, vi 0, vi 2, un, un, un] [(.ref b12)])
     refine sp_ (fun t_ k_ => XS.astoreN X12.here hx rfl (B_ dk148) rfl rfl (l' := #[vr b, vi 0, vi 2, vr b12, un, un]) rfl (XS.aloadN X12.here hx rfl (B_ dk149) rfl rfl (XS.iloadN X12.here hx rfl (B_ dk150) rfl  (XS.aloadN X12.here hx rfl (B_ dk151) rfl rfl (XS.iconst X12.here hx rfl (B_ dk152) (XS.iloadN X12.here hx rfl (B_ dk153) rfl  k_)))))) ?_
     have f14 : Arv Z h12 b kb .char (2 : Int32) [(.int c0), (.int c1)] (.int 0) := (pr0.ext E12)
     have O15 : Old Z n0 h12 := (O0.ext E12)
     obtain ⟨_, T13, Lc13, X13, hQ13, st13⟩ := own_cS X12 hx hZ hown (w_ hw 43 rfl) (w_ hw 44 rfl) (w_ hw 41 rfl) (w_ hw 45 rfl) (by decide) (backOf (W := 0) (rmC52_1 l Z a0 hw [] b b12 kb k12 c0 c1 h12 n0 O15 f14 V12 g_b12 (Nat.ne_of_lt (Nat.lt_of_lt_of_le pr0.lt (Nat.le_of_eq q12.symm))) hs0 hs1) hZ (w_ hw 45 rfl) (w_ hw 41 rfl) (by decide) (by decide)) (g := (mkF mm_ 9 #[vr b, vi 0, vi 2, vr b12, un, un] [(.int 2), (.int 0), (.ref b12), (.int 0), (.ref b)])) rfl hml.symm (argsL := [(.ref b), (.int 0), (.ref b12), (.int 0), (.int 2)]) (rest := []) (lenOf pd_4 rfl) rfl (Nat.le_of_eq rfl) (B_ dk154) rfl e12 (by decide) (by decide)
     obtain ⟨rfl, Nq13, Kc13⟩ := hQ13
     have N13 := Fr.app N0 Nq13
     refine jp_ st13 ?_
     show Go_ T13 (mkF mm_ 12 #[vr b, vi 0, vi 2, vr b12, un, un] [(.int 1)])
     refine sp_ (fun t_ k_ => XS.istore X13.here hx rfl (B_ dk155) rfl (l' := #[vr b, vi 0, vi 2, vr b12, vi 1, un]) rfl (XS.iload X13.here hx rfl (B_ dk156) rfl  (XS.iloadN X13.here hx rfl (B_ dk157) rfl  k_))) ?_
     show Go_ T13 (mkF mm_ 17 #[vr b, vi 0, vi 2, vr b12, vi 1, un] [(.int 2), (.int 1)])
     refine sp_ (fun t_ k_ => XS.icmpNo X13.here hx rfl (B_ dk158) rfl (feq (by decide : ¬ ((1 : Int32) = (2 : Int32)))).1 k_) ?_
     show Go_ T13 (mkF mm_ 20 #[vr b, vi 0, vi 2, vr b12, vi 1, un] [])
     refine sp_ (fun t_ k_ => XS.aloadN X13.here hx rfl (B_ dk159) rfl rfl (XS.iloadN X13.here hx rfl (B_ dk160) rfl  (XS.iloadN X13.here hx rfl (B_ dk161) rfl  k_))) ?_
     have f17 : Arv Z T13.heap b kb .char (2 : Int32) [(.int c0), (.int c1)] (.int 0) := (f14.keep Kc13 (ninS (Nat.ne_of_lt (Nat.lt_of_lt_of_le pr0.lt (Nat.le_of_eq q12.symm))) nin0))
     have O18 : Old Z n0 T13.heap := (O15.keep Kc13 (allS g_b12 all0))
     obtain ⟨_, T16, Lc16, X16, hQ16, st16⟩ := own_cS X13 hx hZ hown (w_ hw 84 rfl) (w_ hw 85 rfl) (w_ hw 41 rfl) (w_ hw 86 rfl) (by decide) (backOf (W := 0) (rmTb2 l Z a0 hw [] b kb c0 c1 T13.heap n0 O18 G_ f17) hZ (w_ hw 86 rfl) (w_ hw 41 rfl) (by decide) (by decide)) (g := (mkF mm_ 23 #[vr b, vi 0, vi 2, vr b12, vi 1, un] [(.int 2), (.int 0), (.ref b)])) rfl hml.symm (argsL := [(.ref b), (.int 0), (.int 2)]) (rest := []) (lenOf pd_5 rfl) rfl (Nat.le_of_eq rfl) (B_ dk162) rfl rfl (by decide) (by decide)
     obtain ⟨r_16, k_16, rfl, Nq16, Kc16, r16_0, r16_1⟩ := hQ16
     have N16 := Fr.app N13 Nq16
     have K19 : Keep h0 T13.heap [] := ((K0.ext E12).trans Kc13 (allS (Or.inr lo_b12) all0))
     have lo_r_16 : h0.size ≤ r_16 := Nat.le_trans K19.1 r16_0
     have g_r_16 : n0 ≤ r_16 := Nat.le_trans Z0 lo_r_16
     refine jp_ st16 ?_
     show Go_ T16 (mkF mm_ 26 #[vr b, vi 0, vi 2, vr b12, vi 1, un] [(.ref r_16)])
     refine sp_ (fun t_ k_ => XS.astore X16.here hx rfl (B_ dk163) rfl rfl (l' := #[vr b, vi 0, vi 2, vr b12, vi 1, vr r_16]) rfl (XS.aload X16.here hx rfl (B_ dk164) rfl rfl (XS.iload X16.here hx rfl (B_ dk165) rfl  k_))) ?_
     have O21 : Old Z n0 T16.heap := (O18.keep Kc16 all0)
     obtain ⟨_, T20, Lc20, X20, hQ20, st20⟩ := own_cS X16 hx hZ hown (w_ hw 100 rfl) (w_ hw 101 rfl) (w_ hw 41 rfl) (w_ hw 102 rfl) (by decide) (backOf (W := 0) (rmGt1 l Z a0 hw [] r_16 k_16 (4 : Int32) [(lb c0), (hb_ c0), (lb c1), (hb_ c1)] c1 T16.heap n0 O21 G_ r16_1 (by first | assumption | rfl | decide | (simp; done)) (by first | assumption | rfl | decide | (simp; done)) (by first | assumption | rfl | decide | (simp; done)) (by first | assumption | rfl | decide | (simp; done)) hc_c1) hZ (w_ hw 102 rfl) (w_ hw 41 rfl) (by decide) (by decide)) (g := (mkF mm_ 32 #[vr b, vi 0, vi 2, vr b12, vi 1, vr r_16] [(.int 1), (.ref r_16)])) rfl hml.symm (argsL := [(.ref r_16), (.int 1)]) (rest := []) (lenOf pd_6 rfl) rfl (Nat.le_of_eq rfl) (B_ dk166) rfl rfl (by decide) (by decide)
     obtain ⟨rfl, rfl, Eh20⟩ := hQ20
     have N20 := Fr.app N16 (Fr.nil n0)
     refine jp_ st20 ?_
     show Go_ T20 (mkF mm_ 35 #[vr b, vi 0, vi 2, vr b12, vi 1, vr r_16] [(.int c1)])
     refine sp_ (fun t_ k_ => XS.sipush X20.here hx rfl (B_ dk167) k_) ?_
     show Go_ T20 (mkF mm_ 38 #[vr b, vi 0, vi 2, vr b12, vi 1, vr r_16] [(.int 255), (.int c1)])
     refine sp_ (fun t_ k_ => XS.icmpYes X20.here hx rfl (pc0 := 38) (pc' := 54) rfl (B_ dk168) rfl (tlt hs1).2.2.1 (by decide) (by decide) k_) ?_
     show Go_ T20 (mkF mm_ 54 #[vr b, vi 0, vi 2, vr b12, vi 1, vr r_16] [])
     refine sp_ (fun t_ k_ => XS.aload X20.here hx rfl (B_ dk169) rfl rfl k_) ?_
     show Go_ T20 (mkF mm_ 56 #[vr b, vi 0, vi 2, vr b12, vi 1, vr r_16] [(.ref r_16)])
     have K22 : Keep h0 T16.heap [] := (K19.trans Kc16 all0)
     obtain ⟨fs, hr, hrun, hended, hW, hsame⟩ := X20.leave (v := some (.ref r_16)) (rN Bd.returns)
     refine ⟨_, _, ?_, hrun, hended, _, _, rfl, ?_, ⟨_, rfl⟩, hW, hsame.mono (by decide) (by decide)⟩
     · jvm_step X20.here [X20.here.top, hx, (B_ dk170), X20.method', Bd.returns, Value.isRef, FieldType.isReference]
       first | (intro acts; rw [hr _ acts rfl rfl rfl]) | rw [hr _ _ rfl rfl rfl]
       exact Steps.refl _
     · show QrmC32 Z b kb c0 c1 h0 n0 (some (.ref r_16)) T20.heap _
       rw [Eh20]
       exact ⟨r_16, k_16, rfl, N20, K22, lo_r_16, r16_1⟩
   · skip
     exact ((hW.elim (fun q0_ => (hs0 q0_)) (fun r0_ => (hs1 r0_))) : False).elim
theorem ef_rmCd2 (mm_ : MethodId) (t : Addr) : entryFrame mm_ #[(.ref t), (.int 2)] 2 = (mkF mm_ 0 #[vr t, vi 2] []) := by first | (simp [entryFrame, mkF, argsToLocals, Value.category]; done) | rfl
def QrmCd2 (Z : State) (t : Addr) (k : ClassId) (vs : List Value) (h0 : Heap) (n0 : Nat) (vv_ : Option Value) (hh_ : Heap) (LL_ : List Loc) : Prop := (vv_ = some (.int 1)) ∧ (LL_ = []) ∧ (hh_ = h0)
theorem rmCd2 (l : Launch) (Z : State) (a0 : Array Value) (hw : own_Hw a0 Z) (ws : List Jvm.Cond) (t : Addr) (k : ClassId) (vs : List Value) (h0 : Heap) (n0 : Nat) (O0 : Old Z n0 h0) (pr0 : Arv Z h0 t k .byte (4 : Int32) vs (.int 0)) :
 own_MF l Z ym10 J12 2 (some .byte) ws (rm_ 0 0 0 0) #[(.ref t), (.int 2)] h0 (QrmCd2 Z t k vs h0 n0) := by
 refine own_met (plainFor_of_name pn_java_lang_StringUTF16) (fun m_ => ef_rmCd2 m_ t) fun pp_ ee_ ss_ mm_ bb_ me_ cc_ s₁ Bd hx hby hml hown hZ hh X0 e0 => ?_
 have B_ {q_ : Nat} {r_ : _} (h_ : decode _ q_ = r_) := hb hby h_
 have hown : ss_.vm.findClass sc1 = some mm_.cls := hown
 have N0 := Fr.nil n0
 have Z0 : n0 ≤ h0.size := by have q := O0.2.1; rw [O0.1] at q; exact q
 have K0 : Keep h0 h0 [] := Keep.refl _ _
 show Go_ s₁ (mkF mm_ 0 #[vr t, vi 2] [])
 refine sp_ (fun t_ k_ => XS.iloadN X0.here hx rfl (B_ dk171) rfl  (XS.aloadN X0.here hx rfl (B_ dk172) rfl rfl k_)) ?_
 obtain ⟨cl1, Ar1, -, S1, M1, -, -⟩ := id pr0
 refine sp_ (fun t_ k_ => X0.arraylength hx (by rw [e0]; exact Ar1.1) (State.isArrayOf_alike hZ.alike Ar1.2.1) (g := (mkF mm_ 2 #[vr t, vi 2] [(.ref t), (.int 2)])) rfl rfl (B_ dk173) t_ (by rw [len_of S1 M1]; exact k_)) ?_
 show Go_ s₁ (mkF mm_ 3 #[vr t, vi 2] [(.int 4), (.int 2)])
 refine sp_ (fun t_ k_ => XS.isub X0.here hx rfl (B_ dk174) rfl (XS.bipush X0.here hx rfl (B_ dk175) (XS.iushr X0.here hx rfl (B_ dk176) rfl (XS.i2b X0.here hx rfl (B_ dk177) rfl k_)))) ?_
 show Go_ s₁ (mkF mm_ 8 #[vr t, vi 2] [(.int ((1 : Int32).toInt8.toInt32))])
 obtain ⟨fs, hr, hrun, hended, hW, hsame⟩ := X0.leave (v := some (.int ((1 : Int32).toInt8.toInt32))) (rN Bd.returns)
 refine ⟨_, _, ?_, hrun, hended, _, _, rfl, ?_, ⟨_, rfl⟩, hW, hsame.mono (by decide) (by decide)⟩
 · exact retN X0 hx (t := .byte) Bd.returns (by simp) (B_ dk178) hr
 · show QrmCd2 Z t k vs h0 n0 (some (.int ((1 : Int32).toInt8.toInt32))) s₁.heap _
   rw [e0]
   exact ⟨rfl, rfl, rfl⟩
theorem ef_rmI42 (mm_ : MethodId) (x : Addr) (b : Addr) : entryFrame mm_ #[(.ref x), (.ref b), (.int 0), (.int 2), .null] 6 = (mkF mm_ 0 #[vr x, vr b, vi 0, vi 2, .val .null, un] []) := by first | (simp [entryFrame, mkF, argsToLocals, Value.category]; done) | rfl
def QrmI42 (Z : State) (x : Addr) (b : Addr) (kb : ClassId) (c0 : Int32) (c1 : Int32) (h0 : Heap) (n0 : Nat) (vv_ : Option Value) (hh_ : Heap) (LL_ : List Loc) : Prop := ∃ (r : Addr), ∃ (k : ClassId), (vv_ = none) ∧ (Fr n0 LL_) ∧ (Keep h0 hh_ [x]) ∧ (h0.size ≤ r) ∧ (Fld Z hh_ x sc0 "value" "[B" (.ref r)) ∧ (Fld Z hh_ x sc0 "coder" "B" (.int 1)) ∧ (Arv Z hh_ r k .byte (4 : Int32) [(lb c0), (hb_ c0), (lb c1), (hb_ c1)] (.int 0))
theorem rmI42 (l : Launch) (Z : State) (a0 : Array Value) (hw : own_Hw a0 Z) (ws : List Jvm.Cond) (x : Addr) (b : Addr) (kb : ClassId) (c0 : Int32) (c1 : Int32) {zc : Int32} {fm : Value} (h0 : Heap) (n0 : Nat) (O0 : Old Z n0 h0) (G_ : own_St Z zc fm) (pr0 : Exa Z h0 x sc0) (pr1 : Fld Z h0 x sc0 "value" "[B" .null) (pr2 : Fld Z h0 x sc0 "coder" "B" (.int 0)) (g_x : n0 ≤ x) (pr4 : Arv Z h0 b kb .char (2 : Int32) [(.int c0), (.int c1)] (.int 0)) (hc_c0 : ¬ c0 < (0 : Int32) ∧ ¬ (65535 : Int32) < c0) (hc_c1 : ¬ c1 < (0 : Int32) ∧ ¬ (65535 : Int32) < c1) (hW : (255 : Int32) < c0 ∨ (255 : Int32) < c1) :
 own_MF l Z ym3 J0 6 none ws (rm_ 4 2 6 57) #[(.ref x), (.ref b), (.int 0), (.int 2), .null] h0 (QrmI42 Z x b kb c0 c1 h0 n0) := by
 refine own_met (plainFor_of_name pn_java_lang_String) (fun m_ => ef_rmI42 m_ x b) fun pp_ ee_ ss_ mm_ bb_ me_ cc_ s₁ Bd hx hby hml hown hZ hh X0 e0 => ?_
 have B_ {q_ : Nat} {r_ : _} (h_ : decode _ q_ = r_) := hb hby h_
 have hown : ss_.vm.findClass sc0 = some mm_.cls := hown
 have hnm := (name_of_methodNamed Bd.named Bd.method).1
 have N0 := Fr.nil n0
 have Z0 : n0 ≤ h0.size := by have q := O0.2.1; rw [O0.1] at q; exact q
 have K0 : Keep h0 h0 [x] := Keep.refl _ _
 obtain ⟨G_cs, G_cs0, G_cw, G_h_java_lang_String_7, G_fm, G_fr, G_hb, G_lb, G_ad⟩ := id G_
 show Go_ s₁ (mkF mm_ 0 #[vr x, vr b, vi 0, vi 2, .val .null, un] [])
 refine sp_ (fun t_ k_ => XS.aloadN X0.here hx rfl (B_ dk0) rfl rfl k_) ?_
 obtain ⟨T1, X1, e1, st1⟩ := initO X0 hx hZ hown (w_ hw 18 rfl) (w_ hw 19 rfl) (w_ hw 20 rfl) e0 (g := (mkF mm_ 1 #[vr x, vr b, vi 0, vi 2, .val .null, un] [(.ref x)])) rfl hml.symm rfl (B_ dk1) (by decide) (W := 0) (Nat.le_of_eq rfl) (by decide)
 refine sp_ st1 ?_
 show Go_ T1 (mkF mm_ 4 #[vr x, vr b, vi 0, vi 2, .val .null, un] [])
 refine sp_ (fun t_ k_ => XS.iloadN X1.here hx rfl (B_ dk2) rfl  k_) ?_
 show Go_ T1 (mkF mm_ 5 #[vr x, vr b, vi 0, vi 2, .val .null, un] [(.int 2)])
 refine sp_ (fun t_ k_ => XS.ifYes X1.here hx rfl (pc0 := 5) (pc' := 27) rfl (B_ dk3) rfl ((if0 _ _).trans (feq (by decide : ¬ ((2 : Int32) = (0 : Int32)))).2) (by decide) (by decide) k_) ?_
 obtain ⟨T2, X2, e2, st2⟩ := getS2 X1 hx hZ hown (host := "") (Or.inl (w_ hw 38 rfl)) Via.refl e1 (G_cs.ext O0.2) (g := (mkF mm_ 27 #[vr x, vr b, vi 0, vi 2, .val .null, un] [])) rfl (B_ dk179)
 refine sp_ st2 ?_
 show Go_ T2 (mkF mm_ 30 #[vr x, vr b, vi 0, vi 2, .val .null, un] [(.int zc)])
 refine sp_ (fun t_ k_ => XS.ifNo X2.here hx rfl (B_ dk180) rfl ((if0 _ _).trans (feq G_cs0).1) k_) ?_
 show Go_ T2 (mkF mm_ 33 #[vr x, vr b, vi 0, vi 2, .val .null, un] [])
 refine sp_ (fun t_ k_ => XS.aloadN X2.here hx rfl (B_ dk181) rfl rfl (XS.iloadN X2.here hx rfl (B_ dk182) rfl  (XS.iloadN X2.here hx rfl (B_ dk183) rfl  k_))) ?_
 obtain ⟨_, T3, Lc3, X3, hQ3, st3⟩ := own_cS X2 hx hZ hown (w_ hw 39 rfl) (w_ hw 40 rfl) (w_ hw 41 rfl) (w_ hw 42 rfl) (by decide) (backOf (W := 0) (rmC32 l Z a0 hw [] b kb c0 c1 h0 n0 O0 G_ pr4 hc_c0 hc_c1 hW) hZ (w_ hw 42 rfl) (w_ hw 41 rfl) (by decide) (by decide)) (g := (mkF mm_ 36 #[vr x, vr b, vi 0, vi 2, .val .null, un] [(.int 2), (.int 0), (.ref b)])) rfl hml.symm (argsL := [(.ref b), (.int 0), (.int 2)]) (rest := []) (lenOf pd_5 rfl) rfl (Nat.le_of_eq rfl) (B_ dk184) rfl e2 (by decide) (by decide)
 obtain ⟨r_3, k_3, rfl, Nq3, Kc3, r3_0, r3_1⟩ := hQ3
 have N3 := Fr.app N0 Nq3
 have lo_r_3 : h0.size ≤ r_3 := Nat.le_trans K0.1 r3_0
 have g_r_3 : n0 ≤ r_3 := Nat.le_trans Z0 lo_r_3
 refine jp_ st3 ?_
 show Go_ T3 (mkF mm_ 39 #[vr x, vr b, vi 0, vi 2, .val .null, un] [(.ref r_3)])
 refine sp_ (fun t_ k_ => XS.astore X3.here hx rfl (B_ dk185) rfl rfl (l' := #[vr x, vr b, vi 0, vi 2, .val .null, vr r_3]) rfl (XS.aloadN X3.here hx rfl (B_ dk186) rfl rfl (XS.aload X3.here hx rfl (B_ dk187) rfl rfl (XS.iloadN X3.here hx rfl (B_ dk188) rfl  k_)))) ?_
 have O5 : Old Z n0 T3.heap := (O0.keep Kc3 all0)
 obtain ⟨_, T4, Lc4, X4, hQ4, st4⟩ := own_cS X3 hx hZ hown (w_ hw 46 rfl) (w_ hw 47 rfl) (w_ hw 41 rfl) (w_ hw 48 rfl) (by decide) (backOf (W := 1) (rmCd2 l Z a0 hw [] r_3 k_3 [(lb c0), (hb_ c0), (lb c1), (hb_ c1)] T3.heap n0 O5 r3_1) hZ (w_ hw 48 rfl) (w_ hw 41 rfl) (by decide) (by decide)) (g := (mkF mm_ 45 #[vr x, vr b, vi 0, vi 2, .val .null, vr r_3] [(.int 2), (.ref r_3), (.ref x)])) rfl hml.symm (argsL := [(.ref r_3), (.int 2)]) (rest := [(.ref x)]) (lenOf pd_7 rfl) rfl (Nat.le_of_eq rfl) (B_ dk189) rfl rfl (by decide) (by decide)
 obtain ⟨rfl, rfl, Eh4⟩ := hQ4
 have N4 := Fr.app N3 (Fr.nil n0)
 refine jp_ st4 ?_
 have f6 : Fld Z T3.heap x sc0 "coder" "B" (.int 0) := (pr2.keep Kc3 nin0)
 have f7 : Exa Z T3.heap x sc0 := (pr0.keep Kc3)
 obtain ⟨T8, h8, X8, e8, W8, st8⟩ := putFN X4 hx hZ hown (w_ hw 28 rfl) Via.refl Eh4 f6 f7 (Or.inr ⟨(w_ hw 24 rfl), rfl, hnm⟩) (w_ hw 8 rfl) (ty := .byte) (v' := (.int 1)) (by decide) rfl rfl (g := (mkF mm_ 48 #[vr x, vr b, vi 0, vi 2, .val .null, vr r_3] [(.int 1), (.ref x)])) rfl rfl (B_ dk190)
 have F8 := f6.same W8
 have N8 := Fr.snoc X8 N4 g_x
 refine sp_ st8 ?_
 show Go_ T8 (mkF mm_ 51 #[vr x, vr b, vi 0, vi 2, .val .null, vr r_3] [])
 refine sp_ (fun t_ k_ => XS.aloadN X8.here hx rfl (B_ dk191) rfl rfl (XS.aload X8.here hx rfl (B_ dk192) rfl rfl k_)) ?_
 have f9 : Fld Z h8 x sc0 "value" "[B" .null := ((pr1.keep Kc3 nin0).other W8 (Or.inr (slot_ne (Or.inr (w_ hw 23 rfl)) (Or.inr (w_ hw 24 rfl)) (by decide) (t := (.array .byte)) (t' := .byte) (by decide) (by decide))))
 have f10 : Exa Z h8 x sc0 := (f7.wr W8)
 obtain ⟨T11, h11, X11, e11, W11, st11⟩ := putF X8 hx hZ hown (host := "") (Or.inl (w_ hw 27 rfl)) Via.refl e8 f9 f10 (Or.inr ⟨(w_ hw 23 rfl), rfl, hnm⟩) (w_ hw 8 rfl) (ty := (.array .byte)) (by decide) rfl rfl (g := (mkF mm_ 54 #[vr x, vr b, vi 0, vi 2, .val .null, vr r_3] [(.ref r_3), (.ref x)])) rfl rfl (B_ dk193)
 have F11 := f9.same W11
 have N11 := Fr.snoc X11 N8 g_x
 refine sp_ st11 ?_
 show Go_ T11 (mkF mm_ 57 #[vr x, vr b, vi 0, vi 2, .val .null, vr r_3] [])
 have K12 : Keep h0 h11 [x] := (((K0.trans Kc3 all0).wr W8 (Or.inl (List.mem_of_getElem? (i := 0) rfl))).wr W11 (Or.inl (List.mem_of_getElem? (i := 0) rfl)))
 have f13 : Fld Z h11 x sc0 "coder" "B" (.int 1) := (F8.other W11 (Or.inr (slot_ne (Or.inr (w_ hw 24 rfl)) (Or.inr (w_ hw 23 rfl)) (by decide) (t := .byte) (t' := (.array .byte)) (by decide) (by decide))))
 have f14 : Arv Z h11 r_3 k_3 .byte (4 : Int32) [(lb c0), (hb_ c0), (lb c1), (hb_ c1)] (.int 0) := ((r3_1.other W8 (Ne.symm (Nat.ne_of_lt (Nat.lt_of_lt_of_le pr0.lt r3_0)))).other W11 (Ne.symm (Nat.ne_of_lt (Nat.lt_of_lt_of_le pr0.lt r3_0))))
 obtain ⟨fs, hr, hrun, hended, hW, hsame⟩ := X11.leave (v := none) (fun _ => rfl)
 refine ⟨_, _, ?_, hrun, hended, _, _, rfl, ?_, ⟨_, rfl⟩, hW, hsame.mono (by decide) (by decide)⟩
 · exact X11.returnOut hx Bd.returns (B_ dk194) hr
 · show QrmI42 Z x b kb c0 c1 h0 n0 none T11.heap _
   rw [e11]
   exact ⟨r_3, k_3, rfl, N11, K12, lo_r_3, F11, f13, f14⟩
theorem ef_rmI12 (mm_ : MethodId) (x : Addr) (b : Addr) : entryFrame mm_ #[(.ref x), (.ref b)] 2 = (mkF mm_ 0 #[vr x, vr b] []) := by first | (simp [entryFrame, mkF, argsToLocals, Value.category]; done) | rfl
def QrmI12 (Z : State) (x : Addr) (b : Addr) (kb : ClassId) (c0 : Int32) (c1 : Int32) (h0 : Heap) (n0 : Nat) (vv_ : Option Value) (hh_ : Heap) (LL_ : List Loc) : Prop := ∃ (r : Addr), ∃ (k : ClassId), (vv_ = none) ∧ (Fr n0 LL_) ∧ (Keep h0 hh_ [x]) ∧ (h0.size ≤ r) ∧ (Fld Z hh_ x sc0 "value" "[B" (.ref r)) ∧ (Fld Z hh_ x sc0 "coder" "B" (.int 1)) ∧ (Arv Z hh_ r k .byte (4 : Int32) [(lb c0), (hb_ c0), (lb c1), (hb_ c1)] (.int 0))
theorem rmI12 (l : Launch) (Z : State) (a0 : Array Value) (hw : own_Hw a0 Z) (ws : List Jvm.Cond) (x : Addr) (b : Addr) (kb : ClassId) (c0 : Int32) (c1 : Int32) {zc : Int32} {fm : Value} (h0 : Heap) (n0 : Nat) (O0 : Old Z n0 h0) (G_ : own_St Z zc fm) (pr0 : Exa Z h0 x sc0) (pr1 : Fld Z h0 x sc0 "value" "[B" .null) (pr2 : Fld Z h0 x sc0 "coder" "B" (.int 0)) (g_x : n0 ≤ x) (pr4 : Arv Z h0 b kb .char (2 : Int32) [(.int c0), (.int c1)] (.int 0)) (hc_c0 : ¬ c0 < (0 : Int32) ∧ ¬ (65535 : Int32) < c0) (hc_c1 : ¬ c1 < (0 : Int32) ∧ ¬ (65535 : Int32) < c1) (hW : (255 : Int32) < c0 ∨ (255 : Int32) < c1) :
 own_MF l Z ym4 J1 2 none ws (rm_ 5 2 6 74) #[(.ref x), (.ref b)] h0 (QrmI12 Z x b kb c0 c1 h0 n0) := by
 refine own_met (plainFor_of_name pn_java_lang_String) (fun m_ => ef_rmI12 m_ x b) fun pp_ ee_ ss_ mm_ bb_ me_ cc_ s₁ Bd hx hby hml hown hZ hh X0 e0 => ?_
 have B_ {q_ : Nat} {r_ : _} (h_ : decode _ q_ = r_) := hb hby h_
 have hown : ss_.vm.findClass sc0 = some mm_.cls := hown
 have N0 := Fr.nil n0
 have Z0 : n0 ≤ h0.size := by have q := O0.2.1; rw [O0.1] at q; exact q
 have K0 : Keep h0 h0 [x] := Keep.refl _ _
 obtain ⟨G_cs, G_cs0, G_cw, G_h_java_lang_String_7, G_fm, G_fr, G_hb, G_lb, G_ad⟩ := id G_
 show Go_ s₁ (mkF mm_ 0 #[vr x, vr b] [])
 refine sp_ (fun t_ k_ => XS.aloadN X0.here hx rfl (B_ dk13) rfl rfl (XS.aloadN X0.here hx rfl (B_ dk14) rfl rfl (XS.iconst X0.here hx rfl (B_ dk15) (XS.aloadN X0.here hx rfl (B_ dk16) rfl rfl k_)))) ?_
 obtain ⟨cl1, Ar1, -, S1, M1, -, -⟩ := id pr4
 refine sp_ (fun t_ k_ => X0.arraylength hx (by rw [e0]; exact Ar1.1) (State.isArrayOf_alike hZ.alike Ar1.2.1) (g := (mkF mm_ 4 #[vr x, vr b] [(.ref b), (.int 0), (.ref b), (.ref x)])) rfl rfl (B_ dk17) t_ (by rw [len_of S1 M1]; exact k_)) ?_
 show Go_ s₁ (mkF mm_ 5 #[vr x, vr b] [(.int 2), (.int 0), (.ref b), (.ref x)])
 refine sp_ (fun t_ k_ => XS.aconstNull X0.here hx rfl (B_ dk18) k_) ?_
 obtain ⟨_, T2, Lc2, X2, hQ2, st2⟩ := own_cI X0 hx hZ rfl hown (w_ hw 14 rfl) (w_ hw 15 rfl) (w_ hw 17 rfl) (by decide) (backOf (W := 0) (rmI42 l Z a0 hw [] x b kb c0 c1 h0 n0 O0 G_ pr0 pr1 pr2 g_x pr4 hc_c0 hc_c1 hW) hZ (w_ hw 17 rfl) (w_ hw 9 rfl) (by decide) (by decide)) (g := (mkF mm_ 6 #[vr x, vr b] [.null, (.int 2), (.int 0), (.ref b), (.ref x)])) rfl hml.symm (a := x) (argsL := [(.ref b), (.int 0), (.int 2), .null]) (rest := []) (lenOf pd_0 rfl) rfl (Nat.le_of_eq rfl) (B_ dk19) rfl e0 (by decide) (by decide)
 obtain ⟨r_2, k_2, rfl, Nq2, Kc2, r2_0, r2_1, r2_2, r2_3⟩ := hQ2
 have N2 := Fr.app N0 Nq2
 have lo_r_2 : h0.size ≤ r_2 := Nat.le_trans K0.1 r2_0
 have g_r_2 : n0 ≤ r_2 := Nat.le_trans Z0 lo_r_2
 refine jp_ st2 ?_
 show Go_ T2 (mkF mm_ 9 #[vr x, vr b] [])
 have K3 : Keep h0 T2.heap [x] := (K0.trans Kc2 (allS (Or.inl (List.mem_of_getElem? (i := 0) rfl)) all0))
 obtain ⟨fs, hr, hrun, hended, hW, hsame⟩ := X2.leave (v := none) (fun _ => rfl)
 refine ⟨_, _, ?_, hrun, hended, _, _, rfl, ?_, ⟨_, rfl⟩, hW, hsame.mono (by decide) (by decide)⟩
 · exact X2.returnOut hx Bd.returns (B_ dk20) hr
 · show QrmI12 Z x b kb c0 c1 h0 n0 none T2.heap _
   exact ⟨r_2, k_2, rfl, N2, K3, lo_r_2, r2_1, r2_2, r2_3⟩
theorem ef_rmTb3 (mm_ : MethodId) (b : Addr) : entryFrame mm_ #[(.ref b), (.int 0), (.int 3)] 5 = (mkF mm_ 0 #[vr b, vi 0, vi 3, un, un] []) := by first | (simp [entryFrame, mkF, argsToLocals, Value.category]; done) | rfl
def QrmTb3 (Z : State) (b : Addr) (kb : ClassId) (c0 : Int32) (c1 : Int32) (c2 : Int32) (h0 : Heap) (n0 : Nat) (vv_ : Option Value) (hh_ : Heap) (LL_ : List Loc) : Prop := ∃ (r : Addr), ∃ (k : ClassId), (vv_ = some (.ref r)) ∧ (Fr n0 LL_) ∧ (Keep h0 hh_ []) ∧ (h0.size ≤ r) ∧ (Arv Z hh_ r k .byte (6 : Int32) [(lb c0), (hb_ c0), (lb c1), (hb_ c1), (lb c2), (hb_ c2)] (.int 0))
theorem rmTb3 (l : Launch) (Z : State) (a0 : Array Value) (hw : own_Hw a0 Z) (ws : List Jvm.Cond) (b : Addr) (kb : ClassId) (c0 : Int32) (c1 : Int32) (c2 : Int32) {zc : Int32} {fm : Value} (h0 : Heap) (n0 : Nat) (O0 : Old Z n0 h0) (G_ : own_St Z zc fm) (pr0 : Arv Z h0 b kb .char (3 : Int32) [(.int c0), (.int c1), (.int c2)] (.int 0)) :
 own_MF l Z ym8 J9 5 (some (.array .byte)) ws (rm_ 2 1 6 24) #[(.ref b), (.int 0), (.int 3)] h0 (QrmTb3 Z b kb c0 c1 c2 h0 n0) := by
 refine own_met (plainFor_of_name pn_java_lang_StringUTF16) (fun m_ => ef_rmTb3 m_ b) fun pp_ ee_ ss_ mm_ bb_ me_ cc_ s₁ Bd hx hby hml hown hZ hh X0 e0 => ?_
 have B_ {q_ : Nat} {r_ : _} (h_ : decode _ q_ = r_) := hb hby h_
 have hown : ss_.vm.findClass sc1 = some mm_.cls := hown
 have N0 := Fr.nil n0
 have Z0 : n0 ≤ h0.size := by have q := O0.2.1; rw [O0.1] at q; exact q
 have K0 : Keep h0 h0 [] := Keep.refl _ _
 obtain ⟨G_cs, G_cs0, G_cw, G_h_java_lang_String_7, G_fm, G_fr, G_hb, G_lb, G_ad⟩ := id G_
 show Go_ s₁ (mkF mm_ 0 #[vr b, vi 0, vi 3, un, un] [])
 refine sp_ (fun t_ k_ => XS.iloadN X0.here hx rfl (B_ dk113) rfl  k_) ?_
 obtain ⟨_, T1, Lc1, X1, hQ1, st1⟩ := own_cS X0 hx hZ hown (w_ hw 87 rfl) (w_ hw 88 rfl) (w_ hw 41 rfl) (w_ hw 89 rfl) (by decide) (backOf (W := 0) (rmNb3 l Z a0 hw []  h0 n0 O0 ) hZ (w_ hw 89 rfl) (w_ hw 41 rfl) (by decide) (by decide)) (g := (mkF mm_ 1 #[vr b, vi 0, vi 3, un, un] [(.int 3)])) rfl hml.symm (argsL := [(.int 3)]) (rest := []) (lenOf pd_2 rfl) rfl (Nat.le_of_eq rfl) (B_ dk114) rfl e0 (by decide) (by decide)
 obtain ⟨r_1, k_1, rfl, Nq1, Kc1, r1_0, r1_1⟩ := hQ1
 have N1 := Fr.app N0 Nq1
 have lo_r_1 : h0.size ≤ r_1 := Nat.le_trans K0.1 r1_0
 have g_r_1 : n0 ≤ r_1 := Nat.le_trans Z0 lo_r_1
 refine jp_ st1 ?_
 show Go_ T1 (mkF mm_ 4 #[vr b, vi 0, vi 3, un, un] [(.ref r_1)])
 refine sp_ (fun t_ k_ => XS.astoreN X1.here hx rfl (B_ dk115) rfl rfl (l' := #[vr b, vi 0, vi 3, vr r_1, un]) rfl (XS.iconst X1.here hx rfl (B_ dk116) (XS.istore X1.here hx rfl (B_ dk117) rfl (l' := #[vr b, vi 0, vi 3, vr r_1, vi 0]) rfl (XS.iload X1.here hx rfl (B_ dk118) rfl  (XS.iloadN X1.here hx rfl (B_ dk119) rfl  k_))))) ?_
 show Go_ T1 (mkF mm_ 11 #[vr b, vi 0, vi 3, vr r_1, vi 0] [(.int 3), (.int 0)])
 refine sp_ (fun t_ k_ => XS.icmpNo X1.here hx rfl (B_ dk120) rfl (tlt (by decide : (0 : Int32) < (3 : Int32))).2.1 k_) ?_
 show Go_ T1 (mkF mm_ 14 #[vr b, vi 0, vi 3, vr r_1, vi 0] [])
 refine sp_ (fun t_ k_ => XS.aloadN X1.here hx rfl (B_ dk121) rfl rfl (XS.iload X1.here hx rfl (B_ dk122) rfl  (XS.aloadN X1.here hx rfl (B_ dk123) rfl rfl (XS.iloadN X1.here hx rfl (B_ dk124) rfl  k_)))) ?_
 have f2 : Arv Z T1.heap b kb .char (3 : Int32) [(.int c0), (.int c1), (.int c2)] (.int 0) := (pr0.keep Kc1 nin0)
 obtain ⟨cl3, Ar3, q3, S3, M3, H3, G3⟩ := id f2
 have hin3 : ¬ ((0 : Int32) < 0 ∨ cl3.slots.size ≤ ((0 : Int32)).toNatClampNeg) := inb_of S3 ⟨by decide, by decide⟩
 have hat3 : cl3.slots[((0 : Int32)).toNatClampNeg]? = some (.int c0) := Has.at H3 hin3 rfl
 refine sp_ (fun t_ k_ => X1.caload hx (j := (0 : Int32)) (v := (.int c0)) Ar3.1 (State.isArrayOf_alike hZ.alike Ar3.2.1) Ar3.2.2 hin3 hat3 (g := (mkF mm_ 19 #[vr b, vi 0, vi 3, vr r_1, vi 0] [(.int 0), (.ref b), (.int 0), (.ref r_1)])) rfl rfl (B_ dk125) t_ k_) ?_
 have O5 : Old Z n0 T1.heap := (O0.keep Kc1 all0)
 obtain ⟨_, T4, Lc4, X4, hQ4, st4⟩ := own_cS X1 hx hZ hown (w_ hw 94 rfl) (w_ hw 95 rfl) (w_ hw 41 rfl) (w_ hw 96 rfl) (by decide) (backOf (W := 0) (rmPt3_0 l Z a0 hw [] r_1 c0 k_1 T1.heap n0 O5 G_ r1_1 g_r_1) hZ (w_ hw 96 rfl) (w_ hw 41 rfl) (by decide) (by decide)) (g := (mkF mm_ 20 #[vr b, vi 0, vi 3, vr r_1, vi 0] [(.int c0), (.int 0), (.ref r_1)])) rfl hml.symm (argsL := [(.ref r_1), (.int 0), (.int c0)]) (rest := []) (lenOf pd_3 rfl) rfl (Nat.le_of_eq rfl) (B_ dk126) rfl rfl (by decide) (by decide)
 obtain ⟨rfl, Nq4, Kc4, r4_0⟩ := hQ4
 have N4 := Fr.app N1 Nq4
 refine jp_ st4 ?_
 show Go_ T4 (mkF mm_ 23 #[vr b, vi 0, vi 3, vr r_1, vi 0] [])
 refine sp_ (fun t_ k_ => XS.iinc X4.here hx rfl (B_ dk127) rfl (l' := #[vr b, vi 1, vi 3, vr r_1, vi 0]) rfl (XS.iinc X4.here hx rfl (B_ dk128) rfl (l' := #[vr b, vi 1, vi 3, vr r_1, vi 1]) rfl (XS.goto X4.here hx rfl (pc0 := 29) (pc' := 8) rfl (B_ dk129) (by decide) (by decide) (XS.iload X4.here hx rfl (B_ dk118) rfl  (XS.iloadN X4.here hx rfl (B_ dk119) rfl  k_))))) ?_
 show Go_ T4 (mkF mm_ 11 #[vr b, vi 1, vi 3, vr r_1, vi 1] [(.int 3), (.int 1)])
 refine sp_ (fun t_ k_ => XS.icmpNo X4.here hx rfl (B_ dk120) rfl (tlt (by decide : (1 : Int32) < (3 : Int32))).2.1 k_) ?_
 show Go_ T4 (mkF mm_ 14 #[vr b, vi 1, vi 3, vr r_1, vi 1] [])
 refine sp_ (fun t_ k_ => XS.aloadN X4.here hx rfl (B_ dk121) rfl rfl (XS.iload X4.here hx rfl (B_ dk122) rfl  (XS.aloadN X4.here hx rfl (B_ dk123) rfl rfl (XS.iloadN X4.here hx rfl (B_ dk124) rfl  k_)))) ?_
 have f6 : Arv Z T4.heap b kb .char (3 : Int32) [(.int c0), (.int c1), (.int c2)] (.int 0) := (f2.keep Kc4 (ninS (Nat.ne_of_lt (Nat.lt_of_lt_of_le pr0.lt r1_0)) nin0))
 obtain ⟨cl7, Ar7, q7, S7, M7, H7, G7⟩ := id f6
 have hin7 : ¬ ((1 : Int32) < 0 ∨ cl7.slots.size ≤ ((1 : Int32)).toNatClampNeg) := inb_of S7 ⟨by decide, by decide⟩
 have hat7 : cl7.slots[((1 : Int32)).toNatClampNeg]? = some (.int c1) := Has.at H7 hin7 rfl
 refine sp_ (fun t_ k_ => X4.caload hx (j := (1 : Int32)) (v := (.int c1)) Ar7.1 (State.isArrayOf_alike hZ.alike Ar7.2.1) Ar7.2.2 hin7 hat7 (g := (mkF mm_ 19 #[vr b, vi 1, vi 3, vr r_1, vi 1] [(.int 1), (.ref b), (.int 1), (.ref r_1)])) rfl rfl (B_ dk125) t_ k_) ?_
 have O9 : Old Z n0 T4.heap := (O5.keep Kc4 (allS g_r_1 all0))
 obtain ⟨_, T8, Lc8, X8, hQ8, st8⟩ := own_cS X4 hx hZ hown (w_ hw 94 rfl) (w_ hw 95 rfl) (w_ hw 41 rfl) (w_ hw 96 rfl) (by decide) (backOf (W := 0) (rmPt3_1 l Z a0 hw [] r_1 c1 k_1 c0 T4.heap n0 O9 G_ r4_0 g_r_1) hZ (w_ hw 96 rfl) (w_ hw 41 rfl) (by decide) (by decide)) (g := (mkF mm_ 20 #[vr b, vi 1, vi 3, vr r_1, vi 1] [(.int c1), (.int 1), (.ref r_1)])) rfl hml.symm (argsL := [(.ref r_1), (.int 1), (.int c1)]) (rest := []) (lenOf pd_3 rfl) rfl (Nat.le_of_eq rfl) (B_ dk126) rfl rfl (by decide) (by decide)
 obtain ⟨rfl, Nq8, Kc8, r8_0⟩ := hQ8
 have N8 := Fr.app N4 Nq8
 refine jp_ st8 ?_
 show Go_ T8 (mkF mm_ 23 #[vr b, vi 1, vi 3, vr r_1, vi 1] [])
 refine sp_ (fun t_ k_ => XS.iinc X8.here hx rfl (B_ dk127) rfl (l' := #[vr b, vi 2, vi 3, vr r_1, vi 1]) rfl (XS.iinc X8.here hx rfl (B_ dk128) rfl (l' := #[vr b, vi 2, vi 3, vr r_1, vi 2]) rfl (XS.goto X8.here hx rfl (pc0 := 29) (pc' := 8) rfl (B_ dk129) (by decide) (by decide) (XS.iload X8.here hx rfl (B_ dk118) rfl  (XS.iloadN X8.here hx rfl (B_ dk119) rfl  k_))))) ?_
 show Go_ T8 (mkF mm_ 11 #[vr b, vi 2, vi 3, vr r_1, vi 2] [(.int 3), (.int 2)])
 refine sp_ (fun t_ k_ => XS.icmpNo X8.here hx rfl (B_ dk120) rfl (tlt (by decide : (2 : Int32) < (3 : Int32))).2.1 k_) ?_
 show Go_ T8 (mkF mm_ 14 #[vr b, vi 2, vi 3, vr r_1, vi 2] [])
 refine sp_ (fun t_ k_ => XS.aloadN X8.here hx rfl (B_ dk121) rfl rfl (XS.iload X8.here hx rfl (B_ dk122) rfl  (XS.aloadN X8.here hx rfl (B_ dk123) rfl rfl (XS.iloadN X8.here hx rfl (B_ dk124) rfl  k_)))) ?_
 have f10 : Arv Z T8.heap b kb .char (3 : Int32) [(.int c0), (.int c1), (.int c2)] (.int 0) := (f6.keep Kc8 (ninS (Nat.ne_of_lt (Nat.lt_of_lt_of_le pr0.lt r1_0)) nin0))
 obtain ⟨cl11, Ar11, q11, S11, M11, H11, G11⟩ := id f10
 have hin11 : ¬ ((2 : Int32) < 0 ∨ cl11.slots.size ≤ ((2 : Int32)).toNatClampNeg) := inb_of S11 ⟨by decide, by decide⟩
 have hat11 : cl11.slots[((2 : Int32)).toNatClampNeg]? = some (.int c2) := Has.at H11 hin11 rfl
 refine sp_ (fun t_ k_ => X8.caload hx (j := (2 : Int32)) (v := (.int c2)) Ar11.1 (State.isArrayOf_alike hZ.alike Ar11.2.1) Ar11.2.2 hin11 hat11 (g := (mkF mm_ 19 #[vr b, vi 2, vi 3, vr r_1, vi 2] [(.int 2), (.ref b), (.int 2), (.ref r_1)])) rfl rfl (B_ dk125) t_ k_) ?_
 have O13 : Old Z n0 T8.heap := (O9.keep Kc8 (allS g_r_1 all0))
 obtain ⟨_, T12, Lc12, X12, hQ12, st12⟩ := own_cS X8 hx hZ hown (w_ hw 94 rfl) (w_ hw 95 rfl) (w_ hw 41 rfl) (w_ hw 96 rfl) (by decide) (backOf (W := 0) (rmPt3_2 l Z a0 hw [] r_1 c2 k_1 c0 c1 T8.heap n0 O13 G_ r8_0 g_r_1) hZ (w_ hw 96 rfl) (w_ hw 41 rfl) (by decide) (by decide)) (g := (mkF mm_ 20 #[vr b, vi 2, vi 3, vr r_1, vi 2] [(.int c2), (.int 2), (.ref r_1)])) rfl hml.symm (argsL := [(.ref r_1), (.int 2), (.int c2)]) (rest := []) (lenOf pd_3 rfl) rfl (Nat.le_of_eq rfl) (B_ dk126) rfl rfl (by decide) (by decide)
 obtain ⟨rfl, Nq12, Kc12, r12_0⟩ := hQ12
 have N12 := Fr.app N8 Nq12
 refine jp_ st12 ?_
 show Go_ T12 (mkF mm_ 23 #[vr b, vi 2, vi 3, vr r_1, vi 2] [])
 refine sp_ (fun t_ k_ => XS.iinc X12.here hx rfl (B_ dk127) rfl (l' := #[vr b, vi 3, vi 3, vr r_1, vi 2]) rfl (XS.iinc X12.here hx rfl (B_ dk128) rfl (l' := #[vr b, vi 3, vi 3, vr r_1, vi 3]) rfl (XS.goto X12.here hx rfl (pc0 := 29) (pc' := 8) rfl (B_ dk129) (by decide) (by decide) (XS.iload X12.here hx rfl (B_ dk118) rfl  (XS.iloadN X12.here hx rfl (B_ dk119) rfl  k_))))) ?_
 show Go_ T12 (mkF mm_ 11 #[vr b, vi 3, vi 3, vr r_1, vi 3] [(.int 3), (.int 3)])
 refine sp_ (fun t_ k_ => XS.icmpYes X12.here hx rfl (pc0 := 11) (pc' := 32) rfl (B_ dk120) rfl (flt (by decide : ¬ ((3 : Int32) < (3 : Int32)))).2.1 (by decide) (by decide) k_) ?_
 show Go_ T12 (mkF mm_ 32 #[vr b, vi 3, vi 3, vr r_1, vi 3] [])
 refine sp_ (fun t_ k_ => XS.aloadN X12.here hx rfl (B_ dk130) rfl rfl k_) ?_
 show Go_ T12 (mkF mm_ 33 #[vr b, vi 3, vi 3, vr r_1, vi 3] [(.ref r_1)])
 have K14 : Keep h0 T12.heap [] := ((((K0.trans Kc1 all0).trans Kc4 (allS (Or.inr lo_r_1) all0)).trans Kc8 (allS (Or.inr lo_r_1) all0)).trans Kc12 (allS (Or.inr lo_r_1) all0))
 obtain ⟨fs, hr, hrun, hended, hW, hsame⟩ := X12.leave (v := some (.ref r_1)) (rN Bd.returns)
 refine ⟨_, _, ?_, hrun, hended, _, _, rfl, ?_, ⟨_, rfl⟩, hW, hsame.mono (by decide) (by decide)⟩
 · jvm_step X12.here [X12.here.top, hx, (B_ dk131), X12.method', Bd.returns, Value.isRef, FieldType.isReference]
   first | (intro acts; rw [hr _ acts rfl rfl rfl]) | rw [hr _ _ rfl rfl rfl]
   exact Steps.refl _
 · show QrmTb3 Z b kb c0 c1 c2 h0 n0 (some (.ref r_1)) T12.heap _
   exact ⟨r_1, k_1, rfl, N12, K14, lo_r_1, r12_0⟩
theorem ef_rmC53_0 (mm_ : MethodId) (b : Addr) (t : Addr) : entryFrame mm_ #[(.ref b), (.int 0), (.ref t), (.int 0), (.int 3)] 7 = (mkF mm_ 0 #[vr b, vi 0, vr t, vi 0, vi 3, un, un] []) := by first | (simp [entryFrame, mkF, argsToLocals, Value.category]; done) | rfl
def QrmC53_0 (Z : State) (b : Addr) (t : Addr) (kb : ClassId) (k : ClassId) (c0 : Int32) (c1 : Int32) (c2 : Int32) (h0 : Heap) (n0 : Nat) (vv_ : Option Value) (hh_ : Heap) (LL_ : List Loc) : Prop := (vv_ = some (.int 0)) ∧ (Fr n0 LL_) ∧ (Keep h0 hh_ [t])
theorem rmC53_0 (l : Launch) (Z : State) (a0 : Array Value) (hw : own_Hw a0 Z) (ws : List Jvm.Cond) (b : Addr) (t : Addr) (kb : ClassId) (k : ClassId) (c0 : Int32) (c1 : Int32) (c2 : Int32) (h0 : Heap) (n0 : Nat) (O0 : Old Z n0 h0) (pr0 : Arv Z h0 b kb .char (3 : Int32) [(.int c0), (.int c1), (.int c2)] (.int 0)) (pr1 : Arv Z h0 t k .byte (3 : Int32) [(.int 0), (.int 0), (.int 0)] (.int 0)) (g_t : n0 ≤ t) (hbt : b ≠ t) (hb0 : (255 : Int32) < c0) :
 own_MF l Z ym1 J10 7 (some .int) ws (rm_ 0 0 0 0) #[(.ref b), (.int 0), (.ref t), (.int 0), (.int 3)] h0 (QrmC53_0 Z b t kb k c0 c1 c2 h0 n0) := by
 refine own_met (plainFor_of_name pn_java_lang_StringUTF16) (fun m_ => ef_rmC53_0 m_ b t) fun pp_ ee_ ss_ mm_ bb_ me_ cc_ s₁ Bd hx hby hml hown hZ hh X0 e0 => ?_
 have B_ {q_ : Nat} {r_ : _} (h_ : decode _ q_ = r_) := hb hby h_
 have hown : ss_.vm.findClass sc1 = some mm_.cls := hown
 have N0 := Fr.nil n0
 have Z0 : n0 ≤ h0.size := by have q := O0.2.1; rw [O0.1] at q; exact q
 have K0 : Keep h0 h0 [t] := Keep.refl _ _
 show Go_ s₁ (mkF mm_ 0 #[vr b, vi 0, vr t, vi 0, vi 3, un, un] [])
 refine sp_ (fun t_ k_ => XS.iconst X0.here hx rfl (B_ dk132) (XS.istore X0.here hx rfl (B_ dk133) rfl (l' := #[vr b, vi 0, vr t, vi 0, vi 3, vi 0, un]) rfl (XS.iload X0.here hx rfl (B_ dk134) rfl  (XS.iload X0.here hx rfl (B_ dk135) rfl  k_)))) ?_
 show Go_ s₁ (mkF mm_ 7 #[vr b, vi 0, vr t, vi 0, vi 3, vi 0, un] [(.int 3), (.int 0)])
 refine sp_ (fun t_ k_ => XS.icmpNo X0.here hx rfl (B_ dk136) rfl (tlt (by decide : (0 : Int32) < (3 : Int32))).2.1 k_) ?_
 show Go_ s₁ (mkF mm_ 10 #[vr b, vi 0, vr t, vi 0, vi 3, vi 0, un] [])
 refine sp_ (fun t_ k_ => XS.aloadN X0.here hx rfl (B_ dk137) rfl rfl (XS.iloadN X0.here hx rfl (B_ dk138) rfl  k_)) ?_
 obtain ⟨cl1, Ar1, q1, S1, M1, H1, G1⟩ := id pr0
 have hin1 : ¬ ((0 : Int32) < 0 ∨ cl1.slots.size ≤ ((0 : Int32)).toNatClampNeg) := inb_of S1 ⟨by decide, by decide⟩
 have hat1 : cl1.slots[((0 : Int32)).toNatClampNeg]? = some (.int c0) := Has.at H1 hin1 rfl
 refine sp_ (fun t_ k_ => X0.caload hx (j := (0 : Int32)) (v := (.int c0)) (by rw [e0]; exact Ar1.1) (State.isArrayOf_alike hZ.alike Ar1.2.1) Ar1.2.2 hin1 hat1 (g := (mkF mm_ 12 #[vr b, vi 0, vr t, vi 0, vi 3, vi 0, un] [(.int 0), (.ref b)])) rfl rfl (B_ dk139) t_ k_) ?_
 show Go_ s₁ (mkF mm_ 13 #[vr b, vi 0, vr t, vi 0, vi 3, vi 0, un] [(.int c0)])
 refine sp_ (fun t_ k_ => XS.istore X0.here hx rfl (B_ dk140) rfl (l' := #[vr b, vi 0, vr t, vi 0, vi 3, vi 0, vi c0]) rfl (XS.iload X0.here hx rfl (B_ dk141) rfl  (XS.sipush X0.here hx rfl (B_ dk142) k_))) ?_
 show Go_ s₁ (mkF mm_ 20 #[vr b, vi 0, vr t, vi 0, vi 3, vi 0, vi c0] [(.int 255), (.int c0)])
 refine sp_ (fun t_ k_ => XS.icmpNo X0.here hx rfl (B_ dk143) rfl (tlt hb0).2.2.2 k_) ?_
 show Go_ s₁ (mkF mm_ 23 #[vr b, vi 0, vr t, vi 0, vi 3, vi 0, vi c0] [])
 refine sp_ (fun t_ k_ => XS.iload X0.here hx rfl (B_ dk144) rfl  k_) ?_
 show Go_ s₁ (mkF mm_ 25 #[vr b, vi 0, vr t, vi 0, vi 3, vi 0, vi c0] [(.int 0)])
 obtain ⟨fs, hr, hrun, hended, hW, hsame⟩ := X0.leave (v := some (.int 0)) (rN Bd.returns)
 refine ⟨_, _, ?_, hrun, hended, _, _, rfl, ?_, ⟨_, rfl⟩, hW, hsame.mono (by decide) (by decide)⟩
 · exact retI X0 hx Bd.returns (B_ dk145) hr
 · show QrmC53_0 Z b t kb k c0 c1 c2 h0 n0 (some (.int 0)) s₁.heap _
   rw [e0]
   exact ⟨rfl, N0, K0⟩
theorem ef_rmC53_1 (mm_ : MethodId) (b : Addr) (t : Addr) : entryFrame mm_ #[(.ref b), (.int 0), (.ref t), (.int 0), (.int 3)] 7 = (mkF mm_ 0 #[vr b, vi 0, vr t, vi 0, vi 3, un, un] []) := by first | (simp [entryFrame, mkF, argsToLocals, Value.category]; done) | rfl
def QrmC53_1 (Z : State) (b : Addr) (t : Addr) (kb : ClassId) (k : ClassId) (c0 : Int32) (c1 : Int32) (c2 : Int32) (h0 : Heap) (n0 : Nat) (vv_ : Option Value) (hh_ : Heap) (LL_ : List Loc) : Prop := (vv_ = some (.int 1)) ∧ (Fr n0 LL_) ∧ (Keep h0 hh_ [t])
theorem rmC53_1 (l : Launch) (Z : State) (a0 : Array Value) (hw : own_Hw a0 Z) (ws : List Jvm.Cond) (b : Addr) (t : Addr) (kb : ClassId) (k : ClassId) (c0 : Int32) (c1 : Int32) (c2 : Int32) (h0 : Heap) (n0 : Nat) (O0 : Old Z n0 h0) (pr0 : Arv Z h0 b kb .char (3 : Int32) [(.int c0), (.int c1), (.int c2)] (.int 0)) (pr1 : Arv Z h0 t k .byte (3 : Int32) [(.int 0), (.int 0), (.int 0)] (.int 0)) (g_t : n0 ≤ t) (hbt : b ≠ t) (hs0 : ¬ ((255 : Int32) < c0)) (hb1 : (255 : Int32) < c1) :
 own_MF l Z ym1 J10 7 (some .int) ws (rm_ 0 0 0 0) #[(.ref b), (.int 0), (.ref t), (.int 0), (.int 3)] h0 (QrmC53_1 Z b t kb k c0 c1 c2 h0 n0) := by
 refine own_met (plainFor_of_name pn_java_lang_StringUTF16) (fun m_ => ef_rmC53_1 m_ b t) fun pp_ ee_ ss_ mm_ bb_ me_ cc_ s₁ Bd hx hby hml hown hZ hh X0 e0 => ?_
 have B_ {q_ : Nat} {r_ : _} (h_ : decode _ q_ = r_) := hb hby h_
 have hown : ss_.vm.findClass sc1 = some mm_.cls := hown
 have N0 := Fr.nil n0
 have Z0 : n0 ≤ h0.size := by have q := O0.2.1; rw [O0.1] at q; exact q
 have K0 : Keep h0 h0 [t] := Keep.refl _ _
 show Go_ s₁ (mkF mm_ 0 #[vr b, vi 0, vr t, vi 0, vi 3, un, un] [])
 refine sp_ (fun t_ k_ => XS.iconst X0.here hx rfl (B_ dk132) (XS.istore X0.here hx rfl (B_ dk133) rfl (l' := #[vr b, vi 0, vr t, vi 0, vi 3, vi 0, un]) rfl (XS.iload X0.here hx rfl (B_ dk134) rfl  (XS.iload X0.here hx rfl (B_ dk135) rfl  k_)))) ?_
 show Go_ s₁ (mkF mm_ 7 #[vr b, vi 0, vr t, vi 0, vi 3, vi 0, un] [(.int 3), (.int 0)])
 refine sp_ (fun t_ k_ => XS.icmpNo X0.here hx rfl (B_ dk136) rfl (tlt (by decide : (0 : Int32) < (3 : Int32))).2.1 k_) ?_
 show Go_ s₁ (mkF mm_ 10 #[vr b, vi 0, vr t, vi 0, vi 3, vi 0, un] [])
 refine sp_ (fun t_ k_ => XS.aloadN X0.here hx rfl (B_ dk137) rfl rfl (XS.iloadN X0.here hx rfl (B_ dk138) rfl  k_)) ?_
 obtain ⟨cl1, Ar1, q1, S1, M1, H1, G1⟩ := id pr0
 have hin1 : ¬ ((0 : Int32) < 0 ∨ cl1.slots.size ≤ ((0 : Int32)).toNatClampNeg) := inb_of S1 ⟨by decide, by decide⟩
 have hat1 : cl1.slots[((0 : Int32)).toNatClampNeg]? = some (.int c0) := Has.at H1 hin1 rfl
 refine sp_ (fun t_ k_ => X0.caload hx (j := (0 : Int32)) (v := (.int c0)) (by rw [e0]; exact Ar1.1) (State.isArrayOf_alike hZ.alike Ar1.2.1) Ar1.2.2 hin1 hat1 (g := (mkF mm_ 12 #[vr b, vi 0, vr t, vi 0, vi 3, vi 0, un] [(.int 0), (.ref b)])) rfl rfl (B_ dk139) t_ k_) ?_
 show Go_ s₁ (mkF mm_ 13 #[vr b, vi 0, vr t, vi 0, vi 3, vi 0, un] [(.int c0)])
 refine sp_ (fun t_ k_ => XS.istore X0.here hx rfl (B_ dk140) rfl (l' := #[vr b, vi 0, vr t, vi 0, vi 3, vi 0, vi c0]) rfl (XS.iload X0.here hx rfl (B_ dk141) rfl  (XS.sipush X0.here hx rfl (B_ dk142) k_))) ?_
 show Go_ s₁ (mkF mm_ 20 #[vr b, vi 0, vr t, vi 0, vi 3, vi 0, vi c0] [(.int 255), (.int c0)])
 refine sp_ (fun t_ k_ => XS.icmpYes X0.here hx rfl (pc0 := 20) (pc' := 26) rfl (B_ dk143) rfl (flt hs0).2.2.2 (by decide) (by decide) k_) ?_
 show Go_ s₁ (mkF mm_ 26 #[vr b, vi 0, vr t, vi 0, vi 3, vi 0, vi c0] [])
 refine sp_ (fun t_ k_ => XS.aloadN X0.here hx rfl (B_ dk195) rfl rfl (XS.iloadN X0.here hx rfl (B_ dk196) rfl  (XS.iload X0.here hx rfl (B_ dk197) rfl  (XS.i2b X0.here hx rfl (B_ dk198) rfl k_)))) ?_
 obtain ⟨cl2, Ar2, q2, S2, M2, H2, G2⟩ := id pr1
 have hin2 : ¬ ((0 : Int32) < 0 ∨ cl2.slots.size ≤ ((0 : Int32)).toNatClampNeg) := inb_of S2 ⟨by decide, by decide⟩
 obtain ⟨T2, h2, X2, e2, W2, st2⟩ := stB X0 hx hZ e0 Ar2 (j := (0 : Int32)) hin2 (g := (mkF mm_ 31 #[vr b, vi 0, vr t, vi 0, vi 3, vi 0, vi c0] [(.int (c0.toInt8.toInt32)), (.int 0), (.ref t)])) rfl rfl (B_ dk199)
 have V2 : Arv Z h2 t k .byte (3 : Int32) [(.int (c0.toInt8.toInt32)), (.int 0), (.int 0)] (.int 0) := by
  have q := Arv.set Ar2 q2 S2 M2 H2 G2 (fits_nar_byte _) W2 0 rfl (Nat.le_of_ble_eq_true rfl)
  rw [own_narB] at q
  exact q
 have N2 := Fr.snoc X2 N0 g_t
 refine sp_ st2 ?_
 show Go_ T2 (mkF mm_ 32 #[vr b, vi 0, vr t, vi 0, vi 3, vi 0, vi c0] [])
 refine sp_ (fun t_ k_ => XS.iinc X2.here hx rfl (B_ dk200) rfl (l' := #[vr b, vi 1, vr t, vi 0, vi 3, vi 0, vi c0]) rfl (XS.iinc X2.here hx rfl (B_ dk201) rfl (l' := #[vr b, vi 1, vr t, vi 1, vi 3, vi 0, vi c0]) rfl (XS.iinc X2.here hx rfl (B_ dk202) rfl (l' := #[vr b, vi 1, vr t, vi 1, vi 3, vi 1, vi c0]) rfl (XS.goto X2.here hx rfl (pc0 := 41) (pc' := 3) rfl (B_ dk203) (by decide) (by decide) (XS.iload X2.here hx rfl (B_ dk134) rfl  (XS.iload X2.here hx rfl (B_ dk135) rfl  k_)))))) ?_
 show Go_ T2 (mkF mm_ 7 #[vr b, vi 1, vr t, vi 1, vi 3, vi 1, vi c0] [(.int 3), (.int 1)])
 refine sp_ (fun t_ k_ => XS.icmpNo X2.here hx rfl (B_ dk136) rfl (tlt (by decide : (1 : Int32) < (3 : Int32))).2.1 k_) ?_
 show Go_ T2 (mkF mm_ 10 #[vr b, vi 1, vr t, vi 1, vi 3, vi 1, vi c0] [])
 refine sp_ (fun t_ k_ => XS.aloadN X2.here hx rfl (B_ dk137) rfl rfl (XS.iloadN X2.here hx rfl (B_ dk138) rfl  k_)) ?_
 have f3 : Arv Z h2 b kb .char (3 : Int32) [(.int c0), (.int c1), (.int c2)] (.int 0) := (pr0.other W2 hbt)
 obtain ⟨cl4, Ar4, q4, S4, M4, H4, G4⟩ := id f3
 have hin4 : ¬ ((1 : Int32) < 0 ∨ cl4.slots.size ≤ ((1 : Int32)).toNatClampNeg) := inb_of S4 ⟨by decide, by decide⟩
 have hat4 : cl4.slots[((1 : Int32)).toNatClampNeg]? = some (.int c1) := Has.at H4 hin4 rfl
 refine sp_ (fun t_ k_ => X2.caload hx (j := (1 : Int32)) (v := (.int c1)) (by rw [e2]; exact Ar4.1) (State.isArrayOf_alike hZ.alike Ar4.2.1) Ar4.2.2 hin4 hat4 (g := (mkF mm_ 12 #[vr b, vi 1, vr t, vi 1, vi 3, vi 1, vi c0] [(.int 1), (.ref b)])) rfl rfl (B_ dk139) t_ k_) ?_
 show Go_ T2 (mkF mm_ 13 #[vr b, vi 1, vr t, vi 1, vi 3, vi 1, vi c0] [(.int c1)])
 refine sp_ (fun t_ k_ => XS.istore X2.here hx rfl (B_ dk140) rfl (l' := #[vr b, vi 1, vr t, vi 1, vi 3, vi 1, vi c1]) rfl (XS.iload X2.here hx rfl (B_ dk141) rfl  (XS.sipush X2.here hx rfl (B_ dk142) k_))) ?_
 show Go_ T2 (mkF mm_ 20 #[vr b, vi 1, vr t, vi 1, vi 3, vi 1, vi c1] [(.int 255), (.int c1)])
 refine sp_ (fun t_ k_ => XS.icmpNo X2.here hx rfl (B_ dk143) rfl (tlt hb1).2.2.2 k_) ?_
 show Go_ T2 (mkF mm_ 23 #[vr b, vi 1, vr t, vi 1, vi 3, vi 1, vi c1] [])
 refine sp_ (fun t_ k_ => XS.iload X2.here hx rfl (B_ dk144) rfl  k_) ?_
 show Go_ T2 (mkF mm_ 25 #[vr b, vi 1, vr t, vi 1, vi 3, vi 1, vi c1] [(.int 1)])
 have K5 : Keep h0 h2 [t] := (K0.wr W2 (Or.inl (List.mem_of_getElem? (i := 0) rfl)))
 obtain ⟨fs, hr, hrun, hended, hW, hsame⟩ := X2.leave (v := some (.int 1)) (rN Bd.returns)
 refine ⟨_, _, ?_, hrun, hended, _, _, rfl, ?_, ⟨_, rfl⟩, hW, hsame.mono (by decide) (by decide)⟩
 · exact retI X2 hx Bd.returns (B_ dk145) hr
 · show QrmC53_1 Z b t kb k c0 c1 c2 h0 n0 (some (.int 1)) T2.heap _
   rw [e2]
   exact ⟨rfl, N2, K5⟩
theorem ef_rmC53_2 (mm_ : MethodId) (b : Addr) (t : Addr) : entryFrame mm_ #[(.ref b), (.int 0), (.ref t), (.int 0), (.int 3)] 7 = (mkF mm_ 0 #[vr b, vi 0, vr t, vi 0, vi 3, un, un] []) := by first | (simp [entryFrame, mkF, argsToLocals, Value.category]; done) | rfl
def QrmC53_2 (Z : State) (b : Addr) (t : Addr) (kb : ClassId) (k : ClassId) (c0 : Int32) (c1 : Int32) (c2 : Int32) (h0 : Heap) (n0 : Nat) (vv_ : Option Value) (hh_ : Heap) (LL_ : List Loc) : Prop := (vv_ = some (.int 2)) ∧ (Fr n0 LL_) ∧ (Keep h0 hh_ [t])
theorem rmC53_2 (l : Launch) (Z : State) (a0 : Array Value) (hw : own_Hw a0 Z) (ws : List Jvm.Cond) (b : Addr) (t : Addr) (kb : ClassId) (k : ClassId) (c0 : Int32) (c1 : Int32) (c2 : Int32) (h0 : Heap) (n0 : Nat) (O0 : Old Z n0 h0) (pr0 : Arv Z h0 b kb .char (3 : Int32) [(.int c0), (.int c1), (.int c2)] (.int 0)) (pr1 : Arv Z h0 t k .byte (3 : Int32) [(.int 0), (.int 0), (.int 0)] (.int 0)) (g_t : n0 ≤ t) (hbt : b ≠ t) (hs0 : ¬ ((255 : Int32) < c0)) (hs1 : ¬ ((255 : Int32) < c1)) (hb2 : (255 : Int32) < c2) :
 own_MF l Z ym1 J10 7 (some .int) ws (rm_ 0 0 0 0) #[(.ref b), (.int 0), (.ref t), (.int 0), (.int 3)] h0 (QrmC53_2 Z b t kb k c0 c1 c2 h0 n0) := by
 refine own_met (plainFor_of_name pn_java_lang_StringUTF16) (fun m_ => ef_rmC53_2 m_ b t) fun pp_ ee_ ss_ mm_ bb_ me_ cc_ s₁ Bd hx hby hml hown hZ hh X0 e0 => ?_
 have B_ {q_ : Nat} {r_ : _} (h_ : decode _ q_ = r_) := hb hby h_
 have hown : ss_.vm.findClass sc1 = some mm_.cls := hown
 have N0 := Fr.nil n0
 have Z0 : n0 ≤ h0.size := by have q := O0.2.1; rw [O0.1] at q; exact q
 have K0 : Keep h0 h0 [t] := Keep.refl _ _
 show Go_ s₁ (mkF mm_ 0 #[vr b, vi 0, vr t, vi 0, vi 3, un, un] [])
 refine sp_ (fun t_ k_ => XS.iconst X0.here hx rfl (B_ dk132) (XS.istore X0.here hx rfl (B_ dk133) rfl (l' := #[vr b, vi 0, vr t, vi 0, vi 3, vi 0, un]) rfl (XS.iload X0.here hx rfl (B_ dk134) rfl  (XS.iload X0.here hx rfl (B_ dk135) rfl  k_)))) ?_
 show Go_ s₁ (mkF mm_ 7 #[vr b, vi 0, vr t, vi 0, vi 3, vi 0, un] [(.int 3), (.int 0)])
 refine sp_ (fun t_ k_ => XS.icmpNo X0.here hx rfl (B_ dk136) rfl (tlt (by decide : (0 : Int32) < (3 : Int32))).2.1 k_) ?_
 show Go_ s₁ (mkF mm_ 10 #[vr b, vi 0, vr t, vi 0, vi 3, vi 0, un] [])
 refine sp_ (fun t_ k_ => XS.aloadN X0.here hx rfl (B_ dk137) rfl rfl (XS.iloadN X0.here hx rfl (B_ dk138) rfl  k_)) ?_
 obtain ⟨cl1, Ar1, q1, S1, M1, H1, G1⟩ := id pr0
 have hin1 : ¬ ((0 : Int32) < 0 ∨ cl1.slots.size ≤ ((0 : Int32)).toNatClampNeg) := inb_of S1 ⟨by decide, by decide⟩
 have hat1 : cl1.slots[((0 : Int32)).toNatClampNeg]? = some (.int c0) := Has.at H1 hin1 rfl
 refine sp_ (fun t_ k_ => X0.caload hx (j := (0 : Int32)) (v := (.int c0)) (by rw [e0]; exact Ar1.1) (State.isArrayOf_alike hZ.alike Ar1.2.1) Ar1.2.2 hin1 hat1 (g := (mkF mm_ 12 #[vr b, vi 0, vr t, vi 0, vi 3, vi 0, un] [(.int 0), (.ref b)])) rfl rfl (B_ dk139) t_ k_) ?_
 show Go_ s₁ (mkF mm_ 13 #[vr b, vi 0, vr t, vi 0, vi 3, vi 0, un] [(.int c0)])
 refine sp_ (fun t_ k_ => XS.istore X0.here hx rfl (B_ dk140) rfl (l' := #[vr b, vi 0, vr t, vi 0, vi 3, vi 0, vi c0]) rfl (XS.iload X0.here hx rfl (B_ dk141) rfl  (XS.sipush X0.here hx rfl (B_ dk142) k_))) ?_
 show Go_ s₁ (mkF mm_ 20 #[vr b, vi 0, vr t, vi 0, vi 3, vi 0, vi c0] [(.int 255), (.int c0)])
 refine sp_ (fun t_ k_ => XS.icmpYes X0.here hx rfl (pc0 := 20) (pc' := 26) rfl (B_ dk143) rfl (flt hs0).2.2.2 (by decide) (by decide) k_) ?_
 show Go_ s₁ (mkF mm_ 26 #[vr b, vi 0, vr t, vi 0, vi 3, vi 0, vi c0] [])
 refine sp_ (fun t_ k_ => XS.aloadN X0.here hx rfl (B_ dk195) rfl rfl (XS.iloadN X0.here hx rfl (B_ dk196) rfl  (XS.iload X0.here hx rfl (B_ dk197) rfl  (XS.i2b X0.here hx rfl (B_ dk198) rfl k_)))) ?_
 obtain ⟨cl2, Ar2, q2, S2, M2, H2, G2⟩ := id pr1
 have hin2 : ¬ ((0 : Int32) < 0 ∨ cl2.slots.size ≤ ((0 : Int32)).toNatClampNeg) := inb_of S2 ⟨by decide, by decide⟩
 obtain ⟨T2, h2, X2, e2, W2, st2⟩ := stB X0 hx hZ e0 Ar2 (j := (0 : Int32)) hin2 (g := (mkF mm_ 31 #[vr b, vi 0, vr t, vi 0, vi 3, vi 0, vi c0] [(.int (c0.toInt8.toInt32)), (.int 0), (.ref t)])) rfl rfl (B_ dk199)
 have V2 : Arv Z h2 t k .byte (3 : Int32) [(.int (c0.toInt8.toInt32)), (.int 0), (.int 0)] (.int 0) := by
  have q := Arv.set Ar2 q2 S2 M2 H2 G2 (fits_nar_byte _) W2 0 rfl (Nat.le_of_ble_eq_true rfl)
  rw [own_narB] at q
  exact q
 have N2 := Fr.snoc X2 N0 g_t
 refine sp_ st2 ?_
 show Go_ T2 (mkF mm_ 32 #[vr b, vi 0, vr t, vi 0, vi 3, vi 0, vi c0] [])
 refine sp_ (fun t_ k_ => XS.iinc X2.here hx rfl (B_ dk200) rfl (l' := #[vr b, vi 1, vr t, vi 0, vi 3, vi 0, vi c0]) rfl (XS.iinc X2.here hx rfl (B_ dk201) rfl (l' := #[vr b, vi 1, vr t, vi 1, vi 3, vi 0, vi c0]) rfl (XS.iinc X2.here hx rfl (B_ dk202) rfl (l' := #[vr b, vi 1, vr t, vi 1, vi 3, vi 1, vi c0]) rfl (XS.goto X2.here hx rfl (pc0 := 41) (pc' := 3) rfl (B_ dk203) (by decide) (by decide) (XS.iload X2.here hx rfl (B_ dk134) rfl  (XS.iload X2.here hx rfl (B_ dk135) rfl  k_)))))) ?_
 show Go_ T2 (mkF mm_ 7 #[vr b, vi 1, vr t, vi 1, vi 3, vi 1, vi c0] [(.int 3), (.int 1)])
 refine sp_ (fun t_ k_ => XS.icmpNo X2.here hx rfl (B_ dk136) rfl (tlt (by decide : (1 : Int32) < (3 : Int32))).2.1 k_) ?_
 show Go_ T2 (mkF mm_ 10 #[vr b, vi 1, vr t, vi 1, vi 3, vi 1, vi c0] [])
 refine sp_ (fun t_ k_ => XS.aloadN X2.here hx rfl (B_ dk137) rfl rfl (XS.iloadN X2.here hx rfl (B_ dk138) rfl  k_)) ?_
 have f3 : Arv Z h2 b kb .char (3 : Int32) [(.int c0), (.int c1), (.int c2)] (.int 0) := (pr0.other W2 hbt)
 obtain ⟨cl4, Ar4, q4, S4, M4, H4, G4⟩ := id f3
 have hin4 : ¬ ((1 : Int32) < 0 ∨ cl4.slots.size ≤ ((1 : Int32)).toNatClampNeg) := inb_of S4 ⟨by decide, by decide⟩
 have hat4 : cl4.slots[((1 : Int32)).toNatClampNeg]? = some (.int c1) := Has.at H4 hin4 rfl
 refine sp_ (fun t_ k_ => X2.caload hx (j := (1 : Int32)) (v := (.int c1)) (by rw [e2]; exact Ar4.1) (State.isArrayOf_alike hZ.alike Ar4.2.1) Ar4.2.2 hin4 hat4 (g := (mkF mm_ 12 #[vr b, vi 1, vr t, vi 1, vi 3, vi 1, vi c0] [(.int 1), (.ref b)])) rfl rfl (B_ dk139) t_ k_) ?_
 show Go_ T2 (mkF mm_ 13 #[vr b, vi 1, vr t, vi 1, vi 3, vi 1, vi c0] [(.int c1)])
 refine sp_ (fun t_ k_ => XS.istore X2.here hx rfl (B_ dk140) rfl (l' := #[vr b, vi 1, vr t, vi 1, vi 3, vi 1, vi c1]) rfl (XS.iload X2.here hx rfl (B_ dk141) rfl  (XS.sipush X2.here hx rfl (B_ dk142) k_))) ?_
 show Go_ T2 (mkF mm_ 20 #[vr b, vi 1, vr t, vi 1, vi 3, vi 1, vi c1] [(.int 255), (.int c1)])
 refine sp_ (fun t_ k_ => XS.icmpYes X2.here hx rfl (pc0 := 20) (pc' := 26) rfl (B_ dk143) rfl (flt hs1).2.2.2 (by decide) (by decide) k_) ?_
 show Go_ T2 (mkF mm_ 26 #[vr b, vi 1, vr t, vi 1, vi 3, vi 1, vi c1] [])
 refine sp_ (fun t_ k_ => XS.aloadN X2.here hx rfl (B_ dk195) rfl rfl (XS.iloadN X2.here hx rfl (B_ dk196) rfl  (XS.iload X2.here hx rfl (B_ dk197) rfl  (XS.i2b X2.here hx rfl (B_ dk198) rfl k_)))) ?_
 obtain ⟨cl5, Ar5, q5, S5, M5, H5, G5⟩ := id V2
 have hin5 : ¬ ((1 : Int32) < 0 ∨ cl5.slots.size ≤ ((1 : Int32)).toNatClampNeg) := inb_of S5 ⟨by decide, by decide⟩
 obtain ⟨T5, h5, X5, e5, W5, st5⟩ := stB X2 hx hZ e2 Ar5 (j := (1 : Int32)) hin5 (g := (mkF mm_ 31 #[vr b, vi 1, vr t, vi 1, vi 3, vi 1, vi c1] [(.int (c1.toInt8.toInt32)), (.int 1), (.ref t)])) rfl rfl (B_ dk199)
 have V5 : Arv Z h5 t k .byte (3 : Int32) [(.int (c0.toInt8.toInt32)), (.int (c1.toInt8.toInt32)), (.int 0)] (.int 0) := by
  have q := Arv.set Ar5 q5 S5 M5 H5 G5 (fits_nar_byte _) W5 1 rfl (Nat.le_of_ble_eq_true rfl)
  rw [own_narB] at q
  exact q
 have N5 := Fr.snoc X5 N2 g_t
 refine sp_ st5 ?_
 show Go_ T5 (mkF mm_ 32 #[vr b, vi 1, vr t, vi 1, vi 3, vi 1, vi c1] [])
 refine sp_ (fun t_ k_ => XS.iinc X5.here hx rfl (B_ dk200) rfl (l' := #[vr b, vi 2, vr t, vi 1, vi 3, vi 1, vi c1]) rfl (XS.iinc X5.here hx rfl (B_ dk201) rfl (l' := #[vr b, vi 2, vr t, vi 2, vi 3, vi 1, vi c1]) rfl (XS.iinc X5.here hx rfl (B_ dk202) rfl (l' := #[vr b, vi 2, vr t, vi 2, vi 3, vi 2, vi c1]) rfl (XS.goto X5.here hx rfl (pc0 := 41) (pc' := 3) rfl (B_ dk203) (by decide) (by decide) (XS.iload X5.here hx rfl (B_ dk134) rfl  (XS.iload X5.here hx rfl (B_ dk135) rfl  k_)))))) ?_
 show Go_ T5 (mkF mm_ 7 #[vr b, vi 2, vr t, vi 2, vi 3, vi 2, vi c1] [(.int 3), (.int 2)])
 refine sp_ (fun t_ k_ => XS.icmpNo X5.here hx rfl (B_ dk136) rfl (tlt (by decide : (2 : Int32) < (3 : Int32))).2.1 k_) ?_
 show Go_ T5 (mkF mm_ 10 #[vr b, vi 2, vr t, vi 2, vi 3, vi 2, vi c1] [])
 refine sp_ (fun t_ k_ => XS.aloadN X5.here hx rfl (B_ dk137) rfl rfl (XS.iloadN X5.here hx rfl (B_ dk138) rfl  k_)) ?_
 have f6 : Arv Z h5 b kb .char (3 : Int32) [(.int c0), (.int c1), (.int c2)] (.int 0) := (f3.other W5 hbt)
 obtain ⟨cl7, Ar7, q7, S7, M7, H7, G7⟩ := id f6
 have hin7 : ¬ ((2 : Int32) < 0 ∨ cl7.slots.size ≤ ((2 : Int32)).toNatClampNeg) := inb_of S7 ⟨by decide, by decide⟩
 have hat7 : cl7.slots[((2 : Int32)).toNatClampNeg]? = some (.int c2) := Has.at H7 hin7 rfl
 refine sp_ (fun t_ k_ => X5.caload hx (j := (2 : Int32)) (v := (.int c2)) (by rw [e5]; exact Ar7.1) (State.isArrayOf_alike hZ.alike Ar7.2.1) Ar7.2.2 hin7 hat7 (g := (mkF mm_ 12 #[vr b, vi 2, vr t, vi 2, vi 3, vi 2, vi c1] [(.int 2), (.ref b)])) rfl rfl (B_ dk139) t_ k_) ?_
 show Go_ T5 (mkF mm_ 13 #[vr b, vi 2, vr t, vi 2, vi 3, vi 2, vi c1] [(.int c2)])
 refine sp_ (fun t_ k_ => XS.istore X5.here hx rfl (B_ dk140) rfl (l' := #[vr b, vi 2, vr t, vi 2, vi 3, vi 2, vi c2]) rfl (XS.iload X5.here hx rfl (B_ dk141) rfl  (XS.sipush X5.here hx rfl (B_ dk142) k_))) ?_
 show Go_ T5 (mkF mm_ 20 #[vr b, vi 2, vr t, vi 2, vi 3, vi 2, vi c2] [(.int 255), (.int c2)])
 refine sp_ (fun t_ k_ => XS.icmpNo X5.here hx rfl (B_ dk143) rfl (tlt hb2).2.2.2 k_) ?_
 show Go_ T5 (mkF mm_ 23 #[vr b, vi 2, vr t, vi 2, vi 3, vi 2, vi c2] [])
 refine sp_ (fun t_ k_ => XS.iload X5.here hx rfl (B_ dk144) rfl  k_) ?_
 show Go_ T5 (mkF mm_ 25 #[vr b, vi 2, vr t, vi 2, vi 3, vi 2, vi c2] [(.int 2)])
 have K8 : Keep h0 h5 [t] := ((K0.wr W2 (Or.inl (List.mem_of_getElem? (i := 0) rfl))).wr W5 (Or.inl (List.mem_of_getElem? (i := 0) rfl)))
 obtain ⟨fs, hr, hrun, hended, hW, hsame⟩ := X5.leave (v := some (.int 2)) (rN Bd.returns)
 refine ⟨_, _, ?_, hrun, hended, _, _, rfl, ?_, ⟨_, rfl⟩, hW, hsame.mono (by decide) (by decide)⟩
 · exact retI X5 hx Bd.returns (B_ dk145) hr
 · show QrmC53_2 Z b t kb k c0 c1 c2 h0 n0 (some (.int 2)) T5.heap _
   rw [e5]
   exact ⟨rfl, N5, K8⟩
theorem ef_rmC33 (mm_ : MethodId) (b : Addr) : entryFrame mm_ #[(.ref b), (.int 0), (.int 3)] 6 = (mkF mm_ 0 #[vr b, vi 0, vi 3, un, un, un] []) := by first | (simp [entryFrame, mkF, argsToLocals, Value.category]; done) | rfl
def QrmC33 (Z : State) (b : Addr) (kb : ClassId) (c0 : Int32) (c1 : Int32) (c2 : Int32) (h0 : Heap) (n0 : Nat) (vv_ : Option Value) (hh_ : Heap) (LL_ : List Loc) : Prop := ∃ (r : Addr), ∃ (k : ClassId), (vv_ = some (.ref r)) ∧ (Fr n0 LL_) ∧ (Keep h0 hh_ []) ∧ (h0.size ≤ r) ∧ (Arv Z hh_ r k .byte (6 : Int32) [(lb c0), (hb_ c0), (lb c1), (hb_ c1), (lb c2), (hb_ c2)] (.int 0))
theorem rmC33 (l : Launch) (Z : State) (a0 : Array Value) (hw : own_Hw a0 Z) (ws : List Jvm.Cond) (b : Addr) (kb : ClassId) (c0 : Int32) (c1 : Int32) (c2 : Int32) {zc : Int32} {fm : Value} (h0 : Heap) (n0 : Nat) (O0 : Old Z n0 h0) (G_ : own_St Z zc fm) (pr0 : Arv Z h0 b kb .char (3 : Int32) [(.int c0), (.int c1), (.int c2)] (.int 0)) (hc_c0 : ¬ c0 < (0 : Int32) ∧ ¬ (65535 : Int32) < c0) (hc_c1 : ¬ c1 < (0 : Int32) ∧ ¬ (65535 : Int32) < c1) (hc_c2 : ¬ c2 < (0 : Int32) ∧ ¬ (65535 : Int32) < c2) (hW : (255 : Int32) < c0 ∨ (255 : Int32) < c1 ∨ (255 : Int32) < c2) :
 own_MF l Z ym9 J11 6 (some (.array .byte)) ws (rm_ 3 2 9 40) #[(.ref b), (.int 0), (.int 3)] h0 (QrmC33 Z b kb c0 c1 c2 h0 n0) := by
 refine own_met (plainFor_of_name pn_java_lang_StringUTF16) (fun m_ => ef_rmC33 m_ b) fun pp_ ee_ ss_ mm_ bb_ me_ cc_ s₁ Bd hx hby hml hown hZ hh X0 e0 => ?_
 have B_ {q_ : Nat} {r_ : _} (h_ : decode _ q_ = r_) := hb hby h_
 have hown : ss_.vm.findClass sc1 = some mm_.cls := hown
 have N0 := Fr.nil n0
 have Z0 : n0 ≤ h0.size := by have q := O0.2.1; rw [O0.1] at q; exact q
 have K0 : Keep h0 h0 [] := Keep.refl _ _
 obtain ⟨G_cs, G_cs0, G_cw, G_h_java_lang_String_7, G_fm, G_fr, G_hb, G_lb, G_ad⟩ := id G_
 show Go_ s₁ (mkF mm_ 0 #[vr b, vi 0, vi 3, un, un, un] [])
 by_cases hs0 : (255 : Int32) < c0
 · skip
   refine sp_ (fun t_ k_ => XS.iloadN X0.here hx rfl (B_ dk146) rfl  k_) ?_
   obtain ⟨T1, h1, k1, X1, e1, E1, A1, st1⟩ := newP X0 hx hZ (w_ hw 22 rfl) e0 (g := (mkF mm_ 1 #[vr b, vi 0, vi 3, un, un, un] [(.int 3)])) rfl (B_ dk147) rfl (by decide) (cap := 3) (by decide) (by decide) (by decide) (by decide)
   obtain ⟨b1, q1⟩ : ∃ z, z = h0.size := ⟨_, rfl⟩
   rw [← q1] at A1 st1
   have lo_b1 : h0.size ≤ b1 := Nat.le_trans K0.1 (Nat.le_of_eq q1.symm)
   have g_b1 : n0 ≤ b1 := Nat.le_trans Z0 lo_b1
   refine sp_ st1 ?_
   have V1 : Arv Z h1 b1 k1 .byte (3 : Int32) [(.int 0), (.int 0), (.int 0)] (.int 0) := (Arv.new A1 (by decide)).pad (pad_rep [] (.int 0) 3)
   show Go_ T1 (mkF mm_ 3 #[vr b, vi 0, vi 3, un, un, un] [(.ref b1)])
   refine sp_ (fun t_ k_ => XS.astoreN X1.here hx rfl (B_ dk148) rfl rfl (l' := #[vr b, vi 0, vi 3, vr b1, un, un]) rfl (XS.aloadN X1.here hx rfl (B_ dk149) rfl rfl (XS.iloadN X1.here hx rfl (B_ dk150) rfl  (XS.aloadN X1.here hx rfl (B_ dk151) rfl rfl (XS.iconst X1.here hx rfl (B_ dk152) (XS.iloadN X1.here hx rfl (B_ dk153) rfl  k_)))))) ?_
   have f3 : Arv Z h1 b kb .char (3 : Int32) [(.int c0), (.int c1), (.int c2)] (.int 0) := (pr0.ext E1)
   have O4 : Old Z n0 h1 := (O0.ext E1)
   obtain ⟨_, T2, Lc2, X2, hQ2, st2⟩ := own_cS X1 hx hZ hown (w_ hw 43 rfl) (w_ hw 44 rfl) (w_ hw 41 rfl) (w_ hw 45 rfl) (by decide) (backOf (W := 0) (rmC53_0 l Z a0 hw [] b b1 kb k1 c0 c1 c2 h1 n0 O4 f3 V1 g_b1 (Nat.ne_of_lt (Nat.lt_of_lt_of_le pr0.lt (Nat.le_of_eq q1.symm))) hs0) hZ (w_ hw 45 rfl) (w_ hw 41 rfl) (by decide) (by decide)) (g := (mkF mm_ 9 #[vr b, vi 0, vi 3, vr b1, un, un] [(.int 3), (.int 0), (.ref b1), (.int 0), (.ref b)])) rfl hml.symm (argsL := [(.ref b), (.int 0), (.ref b1), (.int 0), (.int 3)]) (rest := []) (lenOf pd_4 rfl) rfl (Nat.le_of_eq rfl) (B_ dk154) rfl e1 (by decide) (by decide)
   obtain ⟨rfl, Nq2, Kc2⟩ := hQ2
   have N2 := Fr.app N0 Nq2
   refine jp_ st2 ?_
   show Go_ T2 (mkF mm_ 12 #[vr b, vi 0, vi 3, vr b1, un, un] [(.int 0)])
   refine sp_ (fun t_ k_ => XS.istore X2.here hx rfl (B_ dk155) rfl (l' := #[vr b, vi 0, vi 3, vr b1, vi 0, un]) rfl (XS.iload X2.here hx rfl (B_ dk156) rfl  (XS.iloadN X2.here hx rfl (B_ dk157) rfl  k_))) ?_
   show Go_ T2 (mkF mm_ 17 #[vr b, vi 0, vi 3, vr b1, vi 0, un] [(.int 3), (.int 0)])
   refine sp_ (fun t_ k_ => XS.icmpNo X2.here hx rfl (B_ dk158) rfl (feq (by decide : ¬ ((0 : Int32) = (3 : Int32)))).1 k_) ?_
   show Go_ T2 (mkF mm_ 20 #[vr b, vi 0, vi 3, vr b1, vi 0, un] [])
   refine sp_ (fun t_ k_ => XS.aloadN X2.here hx rfl (B_ dk159) rfl rfl (XS.iloadN X2.here hx rfl (B_ dk160) rfl  (XS.iloadN X2.here hx rfl (B_ dk161) rfl  k_))) ?_
   have f6 : Arv Z T2.heap b kb .char (3 : Int32) [(.int c0), (.int c1), (.int c2)] (.int 0) := (f3.keep Kc2 (ninS (Nat.ne_of_lt (Nat.lt_of_lt_of_le pr0.lt (Nat.le_of_eq q1.symm))) nin0))
   have O7 : Old Z n0 T2.heap := (O4.keep Kc2 (allS g_b1 all0))
   obtain ⟨_, T5, Lc5, X5, hQ5, st5⟩ := own_cS X2 hx hZ hown (w_ hw 84 rfl) (w_ hw 85 rfl) (w_ hw 41 rfl) (w_ hw 86 rfl) (by decide) (backOf (W := 0) (rmTb3 l Z a0 hw [] b kb c0 c1 c2 T2.heap n0 O7 G_ f6) hZ (w_ hw 86 rfl) (w_ hw 41 rfl) (by decide) (by decide)) (g := (mkF mm_ 23 #[vr b, vi 0, vi 3, vr b1, vi 0, un] [(.int 3), (.int 0), (.ref b)])) rfl hml.symm (argsL := [(.ref b), (.int 0), (.int 3)]) (rest := []) (lenOf pd_5 rfl) rfl (Nat.le_of_eq rfl) (B_ dk162) rfl rfl (by decide) (by decide)
   obtain ⟨r_5, k_5, rfl, Nq5, Kc5, r5_0, r5_1⟩ := hQ5
   have N5 := Fr.app N2 Nq5
   have K8 : Keep h0 T2.heap [] := ((K0.ext E1).trans Kc2 (allS (Or.inr lo_b1) all0))
   have lo_r_5 : h0.size ≤ r_5 := Nat.le_trans K8.1 r5_0
   have g_r_5 : n0 ≤ r_5 := Nat.le_trans Z0 lo_r_5
   refine jp_ st5 ?_
   show Go_ T5 (mkF mm_ 26 #[vr b, vi 0, vi 3, vr b1, vi 0, un] [(.ref r_5)])
   refine sp_ (fun t_ k_ => XS.astore X5.here hx rfl (B_ dk163) rfl rfl (l' := #[vr b, vi 0, vi 3, vr b1, vi 0, vr r_5]) rfl (XS.aload X5.here hx rfl (B_ dk164) rfl rfl (XS.iload X5.here hx rfl (B_ dk165) rfl  k_))) ?_
   have O10 : Old Z n0 T5.heap := (O7.keep Kc5 all0)
   obtain ⟨_, T9, Lc9, X9, hQ9, st9⟩ := own_cS X5 hx hZ hown (w_ hw 100 rfl) (w_ hw 101 rfl) (w_ hw 41 rfl) (w_ hw 102 rfl) (by decide) (backOf (W := 0) (rmGt0 l Z a0 hw [] r_5 k_5 (6 : Int32) [(lb c0), (hb_ c0), (lb c1), (hb_ c1), (lb c2), (hb_ c2)] c0 T5.heap n0 O10 G_ r5_1 (by first | assumption | rfl | decide | (simp; done)) (by first | assumption | rfl | decide | (simp; done)) (by first | assumption | rfl | decide | (simp; done)) (by first | assumption | rfl | decide | (simp; done)) hc_c0) hZ (w_ hw 102 rfl) (w_ hw 41 rfl) (by decide) (by decide)) (g := (mkF mm_ 32 #[vr b, vi 0, vi 3, vr b1, vi 0, vr r_5] [(.int 0), (.ref r_5)])) rfl hml.symm (argsL := [(.ref r_5), (.int 0)]) (rest := []) (lenOf pd_6 rfl) rfl (Nat.le_of_eq rfl) (B_ dk166) rfl rfl (by decide) (by decide)
   obtain ⟨rfl, rfl, Eh9⟩ := hQ9
   have N9 := Fr.app N5 (Fr.nil n0)
   refine jp_ st9 ?_
   show Go_ T9 (mkF mm_ 35 #[vr b, vi 0, vi 3, vr b1, vi 0, vr r_5] [(.int c0)])
   refine sp_ (fun t_ k_ => XS.sipush X9.here hx rfl (B_ dk167) k_) ?_
   show Go_ T9 (mkF mm_ 38 #[vr b, vi 0, vi 3, vr b1, vi 0, vr r_5] [(.int 255), (.int c0)])
   refine sp_ (fun t_ k_ => XS.icmpYes X9.here hx rfl (pc0 := 38) (pc' := 54) rfl (B_ dk168) rfl (tlt hs0).2.2.1 (by decide) (by decide) k_) ?_
   show Go_ T9 (mkF mm_ 54 #[vr b, vi 0, vi 3, vr b1, vi 0, vr r_5] [])
   refine sp_ (fun t_ k_ => XS.aload X9.here hx rfl (B_ dk169) rfl rfl k_) ?_
   show Go_ T9 (mkF mm_ 56 #[vr b, vi 0, vi 3, vr b1, vi 0, vr r_5] [(.ref r_5)])
   have K11 : Keep h0 T5.heap [] := (K8.trans Kc5 all0)
   obtain ⟨fs, hr, hrun, hended, hW, hsame⟩ := X9.leave (v := some (.ref r_5)) (rN Bd.returns)
   refine ⟨_, _, ?_, hrun, hended, _, _, rfl, ?_, ⟨_, rfl⟩, hW, hsame.mono (by decide) (by decide)⟩
   · jvm_step X9.here [X9.here.top, hx, (B_ dk170), X9.method', Bd.returns, Value.isRef, FieldType.isReference]
     first | (intro acts; rw [hr _ acts rfl rfl rfl]) | rw [hr _ _ rfl rfl rfl]
     exact Steps.refl _
   · show QrmC33 Z b kb c0 c1 c2 h0 n0 (some (.ref r_5)) T9.heap _
     rw [Eh9]
     exact ⟨r_5, k_5, rfl, N9, K11, lo_r_5, r5_1⟩
 · skip
   by_cases hs1 : (255 : Int32) < c1
   · skip
     refine sp_ (fun t_ k_ => XS.iloadN X0.here hx rfl (B_ dk146) rfl  k_) ?_
     obtain ⟨T12, h12, k12, X12, e12, E12, A12, st12⟩ := newP X0 hx hZ (w_ hw 22 rfl) e0 (g := (mkF mm_ 1 #[vr b, vi 0, vi 3, un, un, un] [(.int 3)])) rfl (B_ dk147) rfl (by decide) (cap := 3) (by decide) (by decide) (by decide) (by decide)
     obtain ⟨b12, q12⟩ : ∃ z, z = h0.size := ⟨_, rfl⟩
     rw [← q12] at A12 st12
     have lo_b12 : h0.size ≤ b12 := Nat.le_trans K0.1 (Nat.le_of_eq q12.symm)
     have g_b12 : n0 ≤ b12 := Nat.le_trans Z0 lo_b12
     refine sp_ st12 ?_
     have V12 : Arv Z h12 b12 k12 .byte (3 : Int32) [(.int 0), (.int 0), (.int 0)] (.int 0) := (Arv.new A12 (by decide)).pad (pad_rep [] (.int 0) 3)
     show Go_ T12 (mkF mm_ 3 #[vr b, vi 0, vi 3, un, un, un] [(.ref b12)])
     refine sp_ (fun t_ k_ => XS.astoreN X12.here hx rfl (B_ dk148) rfl rfl (l' := #[vr b, vi 0, vi 3, vr b12, un, un]) rfl (XS.aloadN X12.here hx rfl (B_ dk149) rfl rfl (XS.iloadN X12.here hx rfl (B_ dk150) rfl  (XS.aloadN X12.here hx rfl (B_ dk151) rfl rfl (XS.iconst X12.here hx rfl (B_ dk152) (XS.iloadN X12.here hx rfl (B_ dk153) rfl  k_)))))) ?_
     have f14 : Arv Z h12 b kb .char (3 : Int32) [(.int c0), (.int c1), (.int c2)] (.int 0) := (pr0.ext E12)
     have O15 : Old Z n0 h12 := (O0.ext E12)
     obtain ⟨_, T13, Lc13, X13, hQ13, st13⟩ := own_cS X12 hx hZ hown (w_ hw 43 rfl) (w_ hw 44 rfl) (w_ hw 41 rfl) (w_ hw 45 rfl) (by decide) (backOf (W := 0) (rmC53_1 l Z a0 hw [] b b12 kb k12 c0 c1 c2 h12 n0 O15 f14 V12 g_b12 (Nat.ne_of_lt (Nat.lt_of_lt_of_le pr0.lt (Nat.le_of_eq q12.symm))) hs0 hs1) hZ (w_ hw 45 rfl) (w_ hw 41 rfl) (by decide) (by decide)) (g := (mkF mm_ 9 #[vr b, vi 0, vi 3, vr b12, un, un] [(.int 3), (.int 0), (.ref b12), (.int 0), (.ref b)])) rfl hml.symm (argsL := [(.ref b), (.int 0), (.ref b12), (.int 0), (.int 3)]) (rest := []) (lenOf pd_4 rfl) rfl (Nat.le_of_eq rfl) (B_ dk154) rfl e12 (by decide) (by decide)
     obtain ⟨rfl, Nq13, Kc13⟩ := hQ13
     have N13 := Fr.app N0 Nq13
     refine jp_ st13 ?_
     show Go_ T13 (mkF mm_ 12 #[vr b, vi 0, vi 3, vr b12, un, un] [(.int 1)])
     refine sp_ (fun t_ k_ => XS.istore X13.here hx rfl (B_ dk155) rfl (l' := #[vr b, vi 0, vi 3, vr b12, vi 1, un]) rfl (XS.iload X13.here hx rfl (B_ dk156) rfl  (XS.iloadN X13.here hx rfl (B_ dk157) rfl  k_))) ?_
     show Go_ T13 (mkF mm_ 17 #[vr b, vi 0, vi 3, vr b12, vi 1, un] [(.int 3), (.int 1)])
     refine sp_ (fun t_ k_ => XS.icmpNo X13.here hx rfl (B_ dk158) rfl (feq (by decide : ¬ ((1 : Int32) = (3 : Int32)))).1 k_) ?_
     show Go_ T13 (mkF mm_ 20 #[vr b, vi 0, vi 3, vr b12, vi 1, un] [])
     refine sp_ (fun t_ k_ => XS.aloadN X13.here hx rfl (B_ dk159) rfl rfl (XS.iloadN X13.here hx rfl (B_ dk160) rfl  (XS.iloadN X13.here hx rfl (B_ dk161) rfl  k_))) ?_
     have f17 : Arv Z T13.heap b kb .char (3 : Int32) [(.int c0), (.int c1), (.int c2)] (.int 0) := (f14.keep Kc13 (ninS (Nat.ne_of_lt (Nat.lt_of_lt_of_le pr0.lt (Nat.le_of_eq q12.symm))) nin0))
     have O18 : Old Z n0 T13.heap := (O15.keep Kc13 (allS g_b12 all0))
     obtain ⟨_, T16, Lc16, X16, hQ16, st16⟩ := own_cS X13 hx hZ hown (w_ hw 84 rfl) (w_ hw 85 rfl) (w_ hw 41 rfl) (w_ hw 86 rfl) (by decide) (backOf (W := 0) (rmTb3 l Z a0 hw [] b kb c0 c1 c2 T13.heap n0 O18 G_ f17) hZ (w_ hw 86 rfl) (w_ hw 41 rfl) (by decide) (by decide)) (g := (mkF mm_ 23 #[vr b, vi 0, vi 3, vr b12, vi 1, un] [(.int 3), (.int 0), (.ref b)])) rfl hml.symm (argsL := [(.ref b), (.int 0), (.int 3)]) (rest := []) (lenOf pd_5 rfl) rfl (Nat.le_of_eq rfl) (B_ dk162) rfl rfl (by decide) (by decide)
     obtain ⟨r_16, k_16, rfl, Nq16, Kc16, r16_0, r16_1⟩ := hQ16
     have N16 := Fr.app N13 Nq16
     have K19 : Keep h0 T13.heap [] := ((K0.ext E12).trans Kc13 (allS (Or.inr lo_b12) all0))
     have lo_r_16 : h0.size ≤ r_16 := Nat.le_trans K19.1 r16_0
     have g_r_16 : n0 ≤ r_16 := Nat.le_trans Z0 lo_r_16
     refine jp_ st16 ?_
     show Go_ T16 (mkF mm_ 26 #[vr b, vi 0, vi 3, vr b12, vi 1, un] [(.ref r_16)])
     refine sp_ (fun t_ k_ => XS.astore X16.here hx rfl (B_ dk163) rfl rfl (l' := #[vr b, vi 0, vi 3, vr b12, vi 1, vr r_16]) rfl (XS.aload X16.here hx rfl (B_ dk164) rfl rfl (XS.iload X16.here hx rfl (B_ dk165) rfl  k_))) ?_
     have O21 : Old Z n0 T16.heap := (O18.keep Kc16 all0)
     obtain ⟨_, T20, Lc20, X20, hQ20, st20⟩ := own_cS X16 hx hZ hown (w_ hw 100 rfl) (w_ hw 101 rfl) (w_ hw 41 rfl) (w_ hw 102 rfl) (by decide) (backOf (W := 0) (rmGt1 l Z a0 hw [] r_16 k_16 (6 : Int32) [(lb c0), (hb_ c0), (lb c1), (hb_ c1), (lb c2), (hb_ c2)] c1 T16.heap n0 O21 G_ r16_1 (by first | assumption | rfl | decide | (simp; done)) (by first | assumption | rfl | decide | (simp; done)) (by first | assumption | rfl | decide | (simp; done)) (by first | assumption | rfl | decide | (simp; done)) hc_c1) hZ (w_ hw 102 rfl) (w_ hw 41 rfl) (by decide) (by decide)) (g := (mkF mm_ 32 #[vr b, vi 0, vi 3, vr b12, vi 1, vr r_16] [(.int 1), (.ref r_16)])) rfl hml.symm (argsL := [(.ref r_16), (.int 1)]) (rest := []) (lenOf pd_6 rfl) rfl (Nat.le_of_eq rfl) (B_ dk166) rfl rfl (by decide) (by decide)
     obtain ⟨rfl, rfl, Eh20⟩ := hQ20
     have N20 := Fr.app N16 (Fr.nil n0)
     refine jp_ st20 ?_
     show Go_ T20 (mkF mm_ 35 #[vr b, vi 0, vi 3, vr b12, vi 1, vr r_16] [(.int c1)])
     refine sp_ (fun t_ k_ => XS.sipush X20.here hx rfl (B_ dk167) k_) ?_
     show Go_ T20 (mkF mm_ 38 #[vr b, vi 0, vi 3, vr b12, vi 1, vr r_16] [(.int 255), (.int c1)])
     refine sp_ (fun t_ k_ => XS.icmpYes X20.here hx rfl (pc0 := 38) (pc' := 54) rfl (B_ dk168) rfl (tlt hs1).2.2.1 (by decide) (by decide) k_) ?_
     show Go_ T20 (mkF mm_ 54 #[vr b, vi 0, vi 3, vr b12, vi 1, vr r_16] [])
     refine sp_ (fun t_ k_ => XS.aload X20.here hx rfl (B_ dk169) rfl rfl k_) ?_
     show Go_ T20 (mkF mm_ 56 #[vr b, vi 0, vi 3, vr b12, vi 1, vr r_16] [(.ref r_16)])
     have K22 : Keep h0 T16.heap [] := (K19.trans Kc16 all0)
     obtain ⟨fs, hr, hrun, hended, hW, hsame⟩ := X20.leave (v := some (.ref r_16)) (rN Bd.returns)
     refine ⟨_, _, ?_, hrun, hended, _, _, rfl, ?_, ⟨_, rfl⟩, hW, hsame.mono (by decide) (by decide)⟩
     · jvm_step X20.here [X20.here.top, hx, (B_ dk170), X20.method', Bd.returns, Value.isRef, FieldType.isReference]
       first | (intro acts; rw [hr _ acts rfl rfl rfl]) | rw [hr _ _ rfl rfl rfl]
       exact Steps.refl _
     · show QrmC33 Z b kb c0 c1 c2 h0 n0 (some (.ref r_16)) T20.heap _
       rw [Eh20]
       exact ⟨r_16, k_16, rfl, N20, K22, lo_r_16, r16_1⟩
   · skip
     by_cases hs2 : (255 : Int32) < c2
     · skip
       refine sp_ (fun t_ k_ => XS.iloadN X0.here hx rfl (B_ dk146) rfl  k_) ?_
       obtain ⟨T23, h23, k23, X23, e23, E23, A23, st23⟩ := newP X0 hx hZ (w_ hw 22 rfl) e0 (g := (mkF mm_ 1 #[vr b, vi 0, vi 3, un, un, un] [(.int 3)])) rfl (B_ dk147) rfl (by decide) (cap := 3) (by decide) (by decide) (by decide) (by decide)
       obtain ⟨b23, q23⟩ : ∃ z, z = h0.size := ⟨_, rfl⟩
       rw [← q23] at A23 st23
       have lo_b23 : h0.size ≤ b23 := Nat.le_trans K0.1 (Nat.le_of_eq q23.symm)
       have g_b23 : n0 ≤ b23 := Nat.le_trans Z0 lo_b23
       refine sp_ st23 ?_
       have V23 : Arv Z h23 b23 k23 .byte (3 : Int32) [(.int 0), (.int 0), (.int 0)] (.int 0) := (Arv.new A23 (by decide)).pad (pad_rep [] (.int 0) 3)
       show Go_ T23 (mkF mm_ 3 #[vr b, vi 0, vi 3, un, un, un] [(.ref b23)])
       refine sp_ (fun t_ k_ => XS.astoreN X23.here hx rfl (B_ dk148) rfl rfl (l' := #[vr b, vi 0, vi 3, vr b23, un, un]) rfl (XS.aloadN X23.here hx rfl (B_ dk149) rfl rfl (XS.iloadN X23.here hx rfl (B_ dk150) rfl  (XS.aloadN X23.here hx rfl (B_ dk151) rfl rfl (XS.iconst X23.here hx rfl (B_ dk152) (XS.iloadN X23.here hx rfl (B_ dk153) rfl  k_)))))) ?_
       have f25 : Arv Z h23 b kb .char (3 : Int32) [(.int c0), (.int c1), (.int c2)] (.int 0) := (pr0.ext E23)
       have O26 : Old Z n0 h23 := (O0.ext E23)
       obtain ⟨_, T24, Lc24, X24, hQ24, st24⟩ := own_cS X23 hx hZ hown (w_ hw 43 rfl) (w_ hw 44 rfl) (w_ hw 41 rfl) (w_ hw 45 rfl) (by decide) (backOf (W := 0) (rmC53_2 l Z a0 hw [] b b23 kb k23 c0 c1 c2 h23 n0 O26 f25 V23 g_b23 (Nat.ne_of_lt (Nat.lt_of_lt_of_le pr0.lt (Nat.le_of_eq q23.symm))) hs0 hs1 hs2) hZ (w_ hw 45 rfl) (w_ hw 41 rfl) (by decide) (by decide)) (g := (mkF mm_ 9 #[vr b, vi 0, vi 3, vr b23, un, un] [(.int 3), (.int 0), (.ref b23), (.int 0), (.ref b)])) rfl hml.symm (argsL := [(.ref b), (.int 0), (.ref b23), (.int 0), (.int 3)]) (rest := []) (lenOf pd_4 rfl) rfl (Nat.le_of_eq rfl) (B_ dk154) rfl e23 (by decide) (by decide)
       obtain ⟨rfl, Nq24, Kc24⟩ := hQ24
       have N24 := Fr.app N0 Nq24
       refine jp_ st24 ?_
       show Go_ T24 (mkF mm_ 12 #[vr b, vi 0, vi 3, vr b23, un, un] [(.int 2)])
       refine sp_ (fun t_ k_ => XS.istore X24.here hx rfl (B_ dk155) rfl (l' := #[vr b, vi 0, vi 3, vr b23, vi 2, un]) rfl (XS.iload X24.here hx rfl (B_ dk156) rfl  (XS.iloadN X24.here hx rfl (B_ dk157) rfl  k_))) ?_
       show Go_ T24 (mkF mm_ 17 #[vr b, vi 0, vi 3, vr b23, vi 2, un] [(.int 3), (.int 2)])
       refine sp_ (fun t_ k_ => XS.icmpNo X24.here hx rfl (B_ dk158) rfl (feq (by decide : ¬ ((2 : Int32) = (3 : Int32)))).1 k_) ?_
       show Go_ T24 (mkF mm_ 20 #[vr b, vi 0, vi 3, vr b23, vi 2, un] [])
       refine sp_ (fun t_ k_ => XS.aloadN X24.here hx rfl (B_ dk159) rfl rfl (XS.iloadN X24.here hx rfl (B_ dk160) rfl  (XS.iloadN X24.here hx rfl (B_ dk161) rfl  k_))) ?_
       have f28 : Arv Z T24.heap b kb .char (3 : Int32) [(.int c0), (.int c1), (.int c2)] (.int 0) := (f25.keep Kc24 (ninS (Nat.ne_of_lt (Nat.lt_of_lt_of_le pr0.lt (Nat.le_of_eq q23.symm))) nin0))
       have O29 : Old Z n0 T24.heap := (O26.keep Kc24 (allS g_b23 all0))
       obtain ⟨_, T27, Lc27, X27, hQ27, st27⟩ := own_cS X24 hx hZ hown (w_ hw 84 rfl) (w_ hw 85 rfl) (w_ hw 41 rfl) (w_ hw 86 rfl) (by decide) (backOf (W := 0) (rmTb3 l Z a0 hw [] b kb c0 c1 c2 T24.heap n0 O29 G_ f28) hZ (w_ hw 86 rfl) (w_ hw 41 rfl) (by decide) (by decide)) (g := (mkF mm_ 23 #[vr b, vi 0, vi 3, vr b23, vi 2, un] [(.int 3), (.int 0), (.ref b)])) rfl hml.symm (argsL := [(.ref b), (.int 0), (.int 3)]) (rest := []) (lenOf pd_5 rfl) rfl (Nat.le_of_eq rfl) (B_ dk162) rfl rfl (by decide) (by decide)
       obtain ⟨r_27, k_27, rfl, Nq27, Kc27, r27_0, r27_1⟩ := hQ27
       have N27 := Fr.app N24 Nq27
       have K30 : Keep h0 T24.heap [] := ((K0.ext E23).trans Kc24 (allS (Or.inr lo_b23) all0))
       have lo_r_27 : h0.size ≤ r_27 := Nat.le_trans K30.1 r27_0
       have g_r_27 : n0 ≤ r_27 := Nat.le_trans Z0 lo_r_27
       refine jp_ st27 ?_
       show Go_ T27 (mkF mm_ 26 #[vr b, vi 0, vi 3, vr b23, vi 2, un] [(.ref r_27)])
       refine sp_ (fun t_ k_ => XS.astore X27.here hx rfl (B_ dk163) rfl rfl (l' := #[vr b, vi 0, vi 3, vr b23, vi 2, vr r_27]) rfl (XS.aload X27.here hx rfl (B_ dk164) rfl rfl (XS.iload X27.here hx rfl (B_ dk165) rfl  k_))) ?_
       have O32 : Old Z n0 T27.heap := (O29.keep Kc27 all0)
       obtain ⟨_, T31, Lc31, X31, hQ31, st31⟩ := own_cS X27 hx hZ hown (w_ hw 100 rfl) (w_ hw 101 rfl) (w_ hw 41 rfl) (w_ hw 102 rfl) (by decide) (backOf (W := 0) (rmGt2 l Z a0 hw [] r_27 k_27 (6 : Int32) [(lb c0), (hb_ c0), (lb c1), (hb_ c1), (lb c2), (hb_ c2)] c2 T27.heap n0 O32 G_ r27_1 (by first | assumption | rfl | decide | (simp; done)) (by first | assumption | rfl | decide | (simp; done)) (by first | assumption | rfl | decide | (simp; done)) (by first | assumption | rfl | decide | (simp; done)) hc_c2) hZ (w_ hw 102 rfl) (w_ hw 41 rfl) (by decide) (by decide)) (g := (mkF mm_ 32 #[vr b, vi 0, vi 3, vr b23, vi 2, vr r_27] [(.int 2), (.ref r_27)])) rfl hml.symm (argsL := [(.ref r_27), (.int 2)]) (rest := []) (lenOf pd_6 rfl) rfl (Nat.le_of_eq rfl) (B_ dk166) rfl rfl (by decide) (by decide)
       obtain ⟨rfl, rfl, Eh31⟩ := hQ31
       have N31 := Fr.app N27 (Fr.nil n0)
       refine jp_ st31 ?_
       show Go_ T31 (mkF mm_ 35 #[vr b, vi 0, vi 3, vr b23, vi 2, vr r_27] [(.int c2)])
       refine sp_ (fun t_ k_ => XS.sipush X31.here hx rfl (B_ dk167) k_) ?_
       show Go_ T31 (mkF mm_ 38 #[vr b, vi 0, vi 3, vr b23, vi 2, vr r_27] [(.int 255), (.int c2)])
       refine sp_ (fun t_ k_ => XS.icmpYes X31.here hx rfl (pc0 := 38) (pc' := 54) rfl (B_ dk168) rfl (tlt hs2).2.2.1 (by decide) (by decide) k_) ?_
       show Go_ T31 (mkF mm_ 54 #[vr b, vi 0, vi 3, vr b23, vi 2, vr r_27] [])
       refine sp_ (fun t_ k_ => XS.aload X31.here hx rfl (B_ dk169) rfl rfl k_) ?_
       show Go_ T31 (mkF mm_ 56 #[vr b, vi 0, vi 3, vr b23, vi 2, vr r_27] [(.ref r_27)])
       have K33 : Keep h0 T27.heap [] := (K30.trans Kc27 all0)
       obtain ⟨fs, hr, hrun, hended, hW, hsame⟩ := X31.leave (v := some (.ref r_27)) (rN Bd.returns)
       refine ⟨_, _, ?_, hrun, hended, _, _, rfl, ?_, ⟨_, rfl⟩, hW, hsame.mono (by decide) (by decide)⟩
       · jvm_step X31.here [X31.here.top, hx, (B_ dk170), X31.method', Bd.returns, Value.isRef, FieldType.isReference]
         first | (intro acts; rw [hr _ acts rfl rfl rfl]) | rw [hr _ _ rfl rfl rfl]
         exact Steps.refl _
       · show QrmC33 Z b kb c0 c1 c2 h0 n0 (some (.ref r_27)) T31.heap _
         rw [Eh31]
         exact ⟨r_27, k_27, rfl, N31, K33, lo_r_27, r27_1⟩
     · skip
       exact ((hW.elim (fun q0_ => (hs0 q0_)) (fun r0_ => (r0_.elim (fun q1_ => (hs1 q1_)) (fun r1_ => (hs2 r1_))))) : False).elim
theorem ef_rmCd3 (mm_ : MethodId) (t : Addr) : entryFrame mm_ #[(.ref t), (.int 3)] 2 = (mkF mm_ 0 #[vr t, vi 3] []) := by first | (simp [entryFrame, mkF, argsToLocals, Value.category]; done) | rfl
def QrmCd3 (Z : State) (t : Addr) (k : ClassId) (vs : List Value) (h0 : Heap) (n0 : Nat) (vv_ : Option Value) (hh_ : Heap) (LL_ : List Loc) : Prop := (vv_ = some (.int 1)) ∧ (LL_ = []) ∧ (hh_ = h0)
theorem rmCd3 (l : Launch) (Z : State) (a0 : Array Value) (hw : own_Hw a0 Z) (ws : List Jvm.Cond) (t : Addr) (k : ClassId) (vs : List Value) (h0 : Heap) (n0 : Nat) (O0 : Old Z n0 h0) (pr0 : Arv Z h0 t k .byte (6 : Int32) vs (.int 0)) :
 own_MF l Z ym10 J12 2 (some .byte) ws (rm_ 0 0 0 0) #[(.ref t), (.int 3)] h0 (QrmCd3 Z t k vs h0 n0) := by
 refine own_met (plainFor_of_name pn_java_lang_StringUTF16) (fun m_ => ef_rmCd3 m_ t) fun pp_ ee_ ss_ mm_ bb_ me_ cc_ s₁ Bd hx hby hml hown hZ hh X0 e0 => ?_
 have B_ {q_ : Nat} {r_ : _} (h_ : decode _ q_ = r_) := hb hby h_
 have hown : ss_.vm.findClass sc1 = some mm_.cls := hown
 have N0 := Fr.nil n0
 have Z0 : n0 ≤ h0.size := by have q := O0.2.1; rw [O0.1] at q; exact q
 have K0 : Keep h0 h0 [] := Keep.refl _ _
 show Go_ s₁ (mkF mm_ 0 #[vr t, vi 3] [])
 refine sp_ (fun t_ k_ => XS.iloadN X0.here hx rfl (B_ dk171) rfl  (XS.aloadN X0.here hx rfl (B_ dk172) rfl rfl k_)) ?_
 obtain ⟨cl1, Ar1, -, S1, M1, -, -⟩ := id pr0
 refine sp_ (fun t_ k_ => X0.arraylength hx (by rw [e0]; exact Ar1.1) (State.isArrayOf_alike hZ.alike Ar1.2.1) (g := (mkF mm_ 2 #[vr t, vi 3] [(.ref t), (.int 3)])) rfl rfl (B_ dk173) t_ (by rw [len_of S1 M1]; exact k_)) ?_
 show Go_ s₁ (mkF mm_ 3 #[vr t, vi 3] [(.int 6), (.int 3)])
 refine sp_ (fun t_ k_ => XS.isub X0.here hx rfl (B_ dk174) rfl (XS.bipush X0.here hx rfl (B_ dk175) (XS.iushr X0.here hx rfl (B_ dk176) rfl (XS.i2b X0.here hx rfl (B_ dk177) rfl k_)))) ?_
 show Go_ s₁ (mkF mm_ 8 #[vr t, vi 3] [(.int ((1 : Int32).toInt8.toInt32))])
 obtain ⟨fs, hr, hrun, hended, hW, hsame⟩ := X0.leave (v := some (.int ((1 : Int32).toInt8.toInt32))) (rN Bd.returns)
 refine ⟨_, _, ?_, hrun, hended, _, _, rfl, ?_, ⟨_, rfl⟩, hW, hsame.mono (by decide) (by decide)⟩
 · exact retN X0 hx (t := .byte) Bd.returns (by simp) (B_ dk178) hr
 · show QrmCd3 Z t k vs h0 n0 (some (.int ((1 : Int32).toInt8.toInt32))) s₁.heap _
   rw [e0]
   exact ⟨rfl, rfl, rfl⟩
theorem ef_rmI43 (mm_ : MethodId) (x : Addr) (b : Addr) : entryFrame mm_ #[(.ref x), (.ref b), (.int 0), (.int 3), .null] 6 = (mkF mm_ 0 #[vr x, vr b, vi 0, vi 3, .val .null, un] []) := by first | (simp [entryFrame, mkF, argsToLocals, Value.category]; done) | rfl
def QrmI43 (Z : State) (x : Addr) (b : Addr) (kb : ClassId) (c0 : Int32) (c1 : Int32) (c2 : Int32) (h0 : Heap) (n0 : Nat) (vv_ : Option Value) (hh_ : Heap) (LL_ : List Loc) : Prop := ∃ (r : Addr), ∃ (k : ClassId), (vv_ = none) ∧ (Fr n0 LL_) ∧ (Keep h0 hh_ [x]) ∧ (h0.size ≤ r) ∧ (Fld Z hh_ x sc0 "value" "[B" (.ref r)) ∧ (Fld Z hh_ x sc0 "coder" "B" (.int 1)) ∧ (Arv Z hh_ r k .byte (6 : Int32) [(lb c0), (hb_ c0), (lb c1), (hb_ c1), (lb c2), (hb_ c2)] (.int 0))
theorem rmI43 (l : Launch) (Z : State) (a0 : Array Value) (hw : own_Hw a0 Z) (ws : List Jvm.Cond) (x : Addr) (b : Addr) (kb : ClassId) (c0 : Int32) (c1 : Int32) (c2 : Int32) {zc : Int32} {fm : Value} (h0 : Heap) (n0 : Nat) (O0 : Old Z n0 h0) (G_ : own_St Z zc fm) (pr0 : Exa Z h0 x sc0) (pr1 : Fld Z h0 x sc0 "value" "[B" .null) (pr2 : Fld Z h0 x sc0 "coder" "B" (.int 0)) (g_x : n0 ≤ x) (pr4 : Arv Z h0 b kb .char (3 : Int32) [(.int c0), (.int c1), (.int c2)] (.int 0)) (hc_c0 : ¬ c0 < (0 : Int32) ∧ ¬ (65535 : Int32) < c0) (hc_c1 : ¬ c1 < (0 : Int32) ∧ ¬ (65535 : Int32) < c1) (hc_c2 : ¬ c2 < (0 : Int32) ∧ ¬ (65535 : Int32) < c2) (hW : (255 : Int32) < c0 ∨ (255 : Int32) < c1 ∨ (255 : Int32) < c2) :
 own_MF l Z ym3 J0 6 none ws (rm_ 4 2 9 57) #[(.ref x), (.ref b), (.int 0), (.int 3), .null] h0 (QrmI43 Z x b kb c0 c1 c2 h0 n0) := by
 refine own_met (plainFor_of_name pn_java_lang_String) (fun m_ => ef_rmI43 m_ x b) fun pp_ ee_ ss_ mm_ bb_ me_ cc_ s₁ Bd hx hby hml hown hZ hh X0 e0 => ?_
 have B_ {q_ : Nat} {r_ : _} (h_ : decode _ q_ = r_) := hb hby h_
 have hown : ss_.vm.findClass sc0 = some mm_.cls := hown
 have hnm := (name_of_methodNamed Bd.named Bd.method).1
 have N0 := Fr.nil n0
 have Z0 : n0 ≤ h0.size := by have q := O0.2.1; rw [O0.1] at q; exact q
 have K0 : Keep h0 h0 [x] := Keep.refl _ _
 obtain ⟨G_cs, G_cs0, G_cw, G_h_java_lang_String_7, G_fm, G_fr, G_hb, G_lb, G_ad⟩ := id G_
 show Go_ s₁ (mkF mm_ 0 #[vr x, vr b, vi 0, vi 3, .val .null, un] [])
 refine sp_ (fun t_ k_ => XS.aloadN X0.here hx rfl (B_ dk0) rfl rfl k_) ?_
 obtain ⟨T1, X1, e1, st1⟩ := initO X0 hx hZ hown (w_ hw 18 rfl) (w_ hw 19 rfl) (w_ hw 20 rfl) e0 (g := (mkF mm_ 1 #[vr x, vr b, vi 0, vi 3, .val .null, un] [(.ref x)])) rfl hml.symm rfl (B_ dk1) (by decide) (W := 0) (Nat.le_of_eq rfl) (by decide)
 refine sp_ st1 ?_
 show Go_ T1 (mkF mm_ 4 #[vr x, vr b, vi 0, vi 3, .val .null, un] [])
 refine sp_ (fun t_ k_ => XS.iloadN X1.here hx rfl (B_ dk2) rfl  k_) ?_
 show Go_ T1 (mkF mm_ 5 #[vr x, vr b, vi 0, vi 3, .val .null, un] [(.int 3)])
 refine sp_ (fun t_ k_ => XS.ifYes X1.here hx rfl (pc0 := 5) (pc' := 27) rfl (B_ dk3) rfl ((if0 _ _).trans (feq (by decide : ¬ ((3 : Int32) = (0 : Int32)))).2) (by decide) (by decide) k_) ?_
 obtain ⟨T2, X2, e2, st2⟩ := getS2 X1 hx hZ hown (host := "") (Or.inl (w_ hw 38 rfl)) Via.refl e1 (G_cs.ext O0.2) (g := (mkF mm_ 27 #[vr x, vr b, vi 0, vi 3, .val .null, un] [])) rfl (B_ dk179)
 refine sp_ st2 ?_
 show Go_ T2 (mkF mm_ 30 #[vr x, vr b, vi 0, vi 3, .val .null, un] [(.int zc)])
 refine sp_ (fun t_ k_ => XS.ifNo X2.here hx rfl (B_ dk180) rfl ((if0 _ _).trans (feq G_cs0).1) k_) ?_
 show Go_ T2 (mkF mm_ 33 #[vr x, vr b, vi 0, vi 3, .val .null, un] [])
 refine sp_ (fun t_ k_ => XS.aloadN X2.here hx rfl (B_ dk181) rfl rfl (XS.iloadN X2.here hx rfl (B_ dk182) rfl  (XS.iloadN X2.here hx rfl (B_ dk183) rfl  k_))) ?_
 obtain ⟨_, T3, Lc3, X3, hQ3, st3⟩ := own_cS X2 hx hZ hown (w_ hw 39 rfl) (w_ hw 40 rfl) (w_ hw 41 rfl) (w_ hw 42 rfl) (by decide) (backOf (W := 0) (rmC33 l Z a0 hw [] b kb c0 c1 c2 h0 n0 O0 G_ pr4 hc_c0 hc_c1 hc_c2 hW) hZ (w_ hw 42 rfl) (w_ hw 41 rfl) (by decide) (by decide)) (g := (mkF mm_ 36 #[vr x, vr b, vi 0, vi 3, .val .null, un] [(.int 3), (.int 0), (.ref b)])) rfl hml.symm (argsL := [(.ref b), (.int 0), (.int 3)]) (rest := []) (lenOf pd_5 rfl) rfl (Nat.le_of_eq rfl) (B_ dk184) rfl e2 (by decide) (by decide)
 obtain ⟨r_3, k_3, rfl, Nq3, Kc3, r3_0, r3_1⟩ := hQ3
 have N3 := Fr.app N0 Nq3
 have lo_r_3 : h0.size ≤ r_3 := Nat.le_trans K0.1 r3_0
 have g_r_3 : n0 ≤ r_3 := Nat.le_trans Z0 lo_r_3
 refine jp_ st3 ?_
 show Go_ T3 (mkF mm_ 39 #[vr x, vr b, vi 0, vi 3, .val .null, un] [(.ref r_3)])
 refine sp_ (fun t_ k_ => XS.astore X3.here hx rfl (B_ dk185) rfl rfl (l' := #[vr x, vr b, vi 0, vi 3, .val .null, vr r_3]) rfl (XS.aloadN X3.here hx rfl (B_ dk186) rfl rfl (XS.aload X3.here hx rfl (B_ dk187) rfl rfl (XS.iloadN X3.here hx rfl (B_ dk188) rfl  k_)))) ?_
 have O5 : Old Z n0 T3.heap := (O0.keep Kc3 all0)
 obtain ⟨_, T4, Lc4, X4, hQ4, st4⟩ := own_cS X3 hx hZ hown (w_ hw 46 rfl) (w_ hw 47 rfl) (w_ hw 41 rfl) (w_ hw 48 rfl) (by decide) (backOf (W := 1) (rmCd3 l Z a0 hw [] r_3 k_3 [(lb c0), (hb_ c0), (lb c1), (hb_ c1), (lb c2), (hb_ c2)] T3.heap n0 O5 r3_1) hZ (w_ hw 48 rfl) (w_ hw 41 rfl) (by decide) (by decide)) (g := (mkF mm_ 45 #[vr x, vr b, vi 0, vi 3, .val .null, vr r_3] [(.int 3), (.ref r_3), (.ref x)])) rfl hml.symm (argsL := [(.ref r_3), (.int 3)]) (rest := [(.ref x)]) (lenOf pd_7 rfl) rfl (Nat.le_of_eq rfl) (B_ dk189) rfl rfl (by decide) (by decide)
 obtain ⟨rfl, rfl, Eh4⟩ := hQ4
 have N4 := Fr.app N3 (Fr.nil n0)
 refine jp_ st4 ?_
 have f6 : Fld Z T3.heap x sc0 "coder" "B" (.int 0) := (pr2.keep Kc3 nin0)
 have f7 : Exa Z T3.heap x sc0 := (pr0.keep Kc3)
 obtain ⟨T8, h8, X8, e8, W8, st8⟩ := putFN X4 hx hZ hown (w_ hw 28 rfl) Via.refl Eh4 f6 f7 (Or.inr ⟨(w_ hw 24 rfl), rfl, hnm⟩) (w_ hw 8 rfl) (ty := .byte) (v' := (.int 1)) (by decide) rfl rfl (g := (mkF mm_ 48 #[vr x, vr b, vi 0, vi 3, .val .null, vr r_3] [(.int 1), (.ref x)])) rfl rfl (B_ dk190)
 have F8 := f6.same W8
 have N8 := Fr.snoc X8 N4 g_x
 refine sp_ st8 ?_
 show Go_ T8 (mkF mm_ 51 #[vr x, vr b, vi 0, vi 3, .val .null, vr r_3] [])
 refine sp_ (fun t_ k_ => XS.aloadN X8.here hx rfl (B_ dk191) rfl rfl (XS.aload X8.here hx rfl (B_ dk192) rfl rfl k_)) ?_
 have f9 : Fld Z h8 x sc0 "value" "[B" .null := ((pr1.keep Kc3 nin0).other W8 (Or.inr (slot_ne (Or.inr (w_ hw 23 rfl)) (Or.inr (w_ hw 24 rfl)) (by decide) (t := (.array .byte)) (t' := .byte) (by decide) (by decide))))
 have f10 : Exa Z h8 x sc0 := (f7.wr W8)
 obtain ⟨T11, h11, X11, e11, W11, st11⟩ := putF X8 hx hZ hown (host := "") (Or.inl (w_ hw 27 rfl)) Via.refl e8 f9 f10 (Or.inr ⟨(w_ hw 23 rfl), rfl, hnm⟩) (w_ hw 8 rfl) (ty := (.array .byte)) (by decide) rfl rfl (g := (mkF mm_ 54 #[vr x, vr b, vi 0, vi 3, .val .null, vr r_3] [(.ref r_3), (.ref x)])) rfl rfl (B_ dk193)
 have F11 := f9.same W11
 have N11 := Fr.snoc X11 N8 g_x
 refine sp_ st11 ?_
 show Go_ T11 (mkF mm_ 57 #[vr x, vr b, vi 0, vi 3, .val .null, vr r_3] [])
 have K12 : Keep h0 h11 [x] := (((K0.trans Kc3 all0).wr W8 (Or.inl (List.mem_of_getElem? (i := 0) rfl))).wr W11 (Or.inl (List.mem_of_getElem? (i := 0) rfl)))
 have f13 : Fld Z h11 x sc0 "coder" "B" (.int 1) := (F8.other W11 (Or.inr (slot_ne (Or.inr (w_ hw 24 rfl)) (Or.inr (w_ hw 23 rfl)) (by decide) (t := .byte) (t' := (.array .byte)) (by decide) (by decide))))
 have f14 : Arv Z h11 r_3 k_3 .byte (6 : Int32) [(lb c0), (hb_ c0), (lb c1), (hb_ c1), (lb c2), (hb_ c2)] (.int 0) := ((r3_1.other W8 (Ne.symm (Nat.ne_of_lt (Nat.lt_of_lt_of_le pr0.lt r3_0)))).other W11 (Ne.symm (Nat.ne_of_lt (Nat.lt_of_lt_of_le pr0.lt r3_0))))
 obtain ⟨fs, hr, hrun, hended, hW, hsame⟩ := X11.leave (v := none) (fun _ => rfl)
 refine ⟨_, _, ?_, hrun, hended, _, _, rfl, ?_, ⟨_, rfl⟩, hW, hsame.mono (by decide) (by decide)⟩
 · exact X11.returnOut hx Bd.returns (B_ dk194) hr
 · show QrmI43 Z x b kb c0 c1 c2 h0 n0 none T11.heap _
   rw [e11]
   exact ⟨r_3, k_3, rfl, N11, K12, lo_r_3, F11, f13, f14⟩
theorem ef_rmI13 (mm_ : MethodId) (x : Addr) (b : Addr) : entryFrame mm_ #[(.ref x), (.ref b)] 2 = (mkF mm_ 0 #[vr x, vr b] []) := by first | (simp [entryFrame, mkF, argsToLocals, Value.category]; done) | rfl
def QrmI13 (Z : State) (x : Addr) (b : Addr) (kb : ClassId) (c0 : Int32) (c1 : Int32) (c2 : Int32) (h0 : Heap) (n0 : Nat) (vv_ : Option Value) (hh_ : Heap) (LL_ : List Loc) : Prop := ∃ (r : Addr), ∃ (k : ClassId), (vv_ = none) ∧ (Fr n0 LL_) ∧ (Keep h0 hh_ [x]) ∧ (h0.size ≤ r) ∧ (Fld Z hh_ x sc0 "value" "[B" (.ref r)) ∧ (Fld Z hh_ x sc0 "coder" "B" (.int 1)) ∧ (Arv Z hh_ r k .byte (6 : Int32) [(lb c0), (hb_ c0), (lb c1), (hb_ c1), (lb c2), (hb_ c2)] (.int 0))
theorem rmI13 (l : Launch) (Z : State) (a0 : Array Value) (hw : own_Hw a0 Z) (ws : List Jvm.Cond) (x : Addr) (b : Addr) (kb : ClassId) (c0 : Int32) (c1 : Int32) (c2 : Int32) {zc : Int32} {fm : Value} (h0 : Heap) (n0 : Nat) (O0 : Old Z n0 h0) (G_ : own_St Z zc fm) (pr0 : Exa Z h0 x sc0) (pr1 : Fld Z h0 x sc0 "value" "[B" .null) (pr2 : Fld Z h0 x sc0 "coder" "B" (.int 0)) (g_x : n0 ≤ x) (pr4 : Arv Z h0 b kb .char (3 : Int32) [(.int c0), (.int c1), (.int c2)] (.int 0)) (hc_c0 : ¬ c0 < (0 : Int32) ∧ ¬ (65535 : Int32) < c0) (hc_c1 : ¬ c1 < (0 : Int32) ∧ ¬ (65535 : Int32) < c1) (hc_c2 : ¬ c2 < (0 : Int32) ∧ ¬ (65535 : Int32) < c2) (hW : (255 : Int32) < c0 ∨ (255 : Int32) < c1 ∨ (255 : Int32) < c2) :
 own_MF l Z ym4 J1 2 none ws (rm_ 5 2 9 74) #[(.ref x), (.ref b)] h0 (QrmI13 Z x b kb c0 c1 c2 h0 n0) := by
 refine own_met (plainFor_of_name pn_java_lang_String) (fun m_ => ef_rmI13 m_ x b) fun pp_ ee_ ss_ mm_ bb_ me_ cc_ s₁ Bd hx hby hml hown hZ hh X0 e0 => ?_
 have B_ {q_ : Nat} {r_ : _} (h_ : decode _ q_ = r_) := hb hby h_
 have hown : ss_.vm.findClass sc0 = some mm_.cls := hown
 have N0 := Fr.nil n0
 have Z0 : n0 ≤ h0.size := by have q := O0.2.1; rw [O0.1] at q; exact q
 have K0 : Keep h0 h0 [x] := Keep.refl _ _
 obtain ⟨G_cs, G_cs0, G_cw, G_h_java_lang_String_7, G_fm, G_fr, G_hb, G_lb, G_ad⟩ := id G_
 show Go_ s₁ (mkF mm_ 0 #[vr x, vr b] [])
 refine sp_ (fun t_ k_ => XS.aloadN X0.here hx rfl (B_ dk13) rfl rfl (XS.aloadN X0.here hx rfl (B_ dk14) rfl rfl (XS.iconst X0.here hx rfl (B_ dk15) (XS.aloadN X0.here hx rfl (B_ dk16) rfl rfl k_)))) ?_
 obtain ⟨cl1, Ar1, -, S1, M1, -, -⟩ := id pr4
 refine sp_ (fun t_ k_ => X0.arraylength hx (by rw [e0]; exact Ar1.1) (State.isArrayOf_alike hZ.alike Ar1.2.1) (g := (mkF mm_ 4 #[vr x, vr b] [(.ref b), (.int 0), (.ref b), (.ref x)])) rfl rfl (B_ dk17) t_ (by rw [len_of S1 M1]; exact k_)) ?_
 show Go_ s₁ (mkF mm_ 5 #[vr x, vr b] [(.int 3), (.int 0), (.ref b), (.ref x)])
 refine sp_ (fun t_ k_ => XS.aconstNull X0.here hx rfl (B_ dk18) k_) ?_
 obtain ⟨_, T2, Lc2, X2, hQ2, st2⟩ := own_cI X0 hx hZ rfl hown (w_ hw 14 rfl) (w_ hw 15 rfl) (w_ hw 17 rfl) (by decide) (backOf (W := 0) (rmI43 l Z a0 hw [] x b kb c0 c1 c2 h0 n0 O0 G_ pr0 pr1 pr2 g_x pr4 hc_c0 hc_c1 hc_c2 hW) hZ (w_ hw 17 rfl) (w_ hw 9 rfl) (by decide) (by decide)) (g := (mkF mm_ 6 #[vr x, vr b] [.null, (.int 3), (.int 0), (.ref b), (.ref x)])) rfl hml.symm (a := x) (argsL := [(.ref b), (.int 0), (.int 3), .null]) (rest := []) (lenOf pd_0 rfl) rfl (Nat.le_of_eq rfl) (B_ dk19) rfl e0 (by decide) (by decide)
 obtain ⟨r_2, k_2, rfl, Nq2, Kc2, r2_0, r2_1, r2_2, r2_3⟩ := hQ2
 have N2 := Fr.app N0 Nq2
 have lo_r_2 : h0.size ≤ r_2 := Nat.le_trans K0.1 r2_0
 have g_r_2 : n0 ≤ r_2 := Nat.le_trans Z0 lo_r_2
 refine jp_ st2 ?_
 show Go_ T2 (mkF mm_ 9 #[vr x, vr b] [])
 have K3 : Keep h0 T2.heap [x] := (K0.trans Kc2 (allS (Or.inl (List.mem_of_getElem? (i := 0) rfl)) all0))
 obtain ⟨fs, hr, hrun, hended, hW, hsame⟩ := X2.leave (v := none) (fun _ => rfl)
 refine ⟨_, _, ?_, hrun, hended, _, _, rfl, ?_, ⟨_, rfl⟩, hW, hsame.mono (by decide) (by decide)⟩
 · exact X2.returnOut hx Bd.returns (B_ dk20) hr
 · show QrmI13 Z x b kb c0 c1 c2 h0 n0 none T2.heap _
   exact ⟨r_2, k_2, rfl, N2, K3, lo_r_2, r2_1, r2_2, r2_3⟩
theorem ef_rmTb4 (mm_ : MethodId) (b : Addr) : entryFrame mm_ #[(.ref b), (.int 0), (.int 4)] 5 = (mkF mm_ 0 #[vr b, vi 0, vi 4, un, un] []) := by first | (simp [entryFrame, mkF, argsToLocals, Value.category]; done) | rfl
def QrmTb4 (Z : State) (b : Addr) (kb : ClassId) (c0 : Int32) (c1 : Int32) (c2 : Int32) (c3 : Int32) (h0 : Heap) (n0 : Nat) (vv_ : Option Value) (hh_ : Heap) (LL_ : List Loc) : Prop := ∃ (r : Addr), ∃ (k : ClassId), (vv_ = some (.ref r)) ∧ (Fr n0 LL_) ∧ (Keep h0 hh_ []) ∧ (h0.size ≤ r) ∧ (Arv Z hh_ r k .byte (8 : Int32) [(lb c0), (hb_ c0), (lb c1), (hb_ c1), (lb c2), (hb_ c2), (lb c3), (hb_ c3)] (.int 0))
theorem rmTb4 (l : Launch) (Z : State) (a0 : Array Value) (hw : own_Hw a0 Z) (ws : List Jvm.Cond) (b : Addr) (kb : ClassId) (c0 : Int32) (c1 : Int32) (c2 : Int32) (c3 : Int32) {zc : Int32} {fm : Value} (h0 : Heap) (n0 : Nat) (O0 : Old Z n0 h0) (G_ : own_St Z zc fm) (pr0 : Arv Z h0 b kb .char (4 : Int32) [(.int c0), (.int c1), (.int c2), (.int c3)] (.int 0)) :
 own_MF l Z ym8 J9 5 (some (.array .byte)) ws (rm_ 2 1 8 24) #[(.ref b), (.int 0), (.int 4)] h0 (QrmTb4 Z b kb c0 c1 c2 c3 h0 n0) := by
 refine own_met (plainFor_of_name pn_java_lang_StringUTF16) (fun m_ => ef_rmTb4 m_ b) fun pp_ ee_ ss_ mm_ bb_ me_ cc_ s₁ Bd hx hby hml hown hZ hh X0 e0 => ?_
 have B_ {q_ : Nat} {r_ : _} (h_ : decode _ q_ = r_) := hb hby h_
 have hown : ss_.vm.findClass sc1 = some mm_.cls := hown
 have N0 := Fr.nil n0
 have Z0 : n0 ≤ h0.size := by have q := O0.2.1; rw [O0.1] at q; exact q
 have K0 : Keep h0 h0 [] := Keep.refl _ _
 obtain ⟨G_cs, G_cs0, G_cw, G_h_java_lang_String_7, G_fm, G_fr, G_hb, G_lb, G_ad⟩ := id G_
 show Go_ s₁ (mkF mm_ 0 #[vr b, vi 0, vi 4, un, un] [])
 refine sp_ (fun t_ k_ => XS.iloadN X0.here hx rfl (B_ dk113) rfl  k_) ?_
 obtain ⟨_, T1, Lc1, X1, hQ1, st1⟩ := own_cS X0 hx hZ hown (w_ hw 87 rfl) (w_ hw 88 rfl) (w_ hw 41 rfl) (w_ hw 89 rfl) (by decide) (backOf (W := 0) (rmNb4 l Z a0 hw []  h0 n0 O0 ) hZ (w_ hw 89 rfl) (w_ hw 41 rfl) (by decide) (by decide)) (g := (mkF mm_ 1 #[vr b, vi 0, vi 4, un, un] [(.int 4)])) rfl hml.symm (argsL := [(.int 4)]) (rest := []) (lenOf pd_2 rfl) rfl (Nat.le_of_eq rfl) (B_ dk114) rfl e0 (by decide) (by decide)
 obtain ⟨r_1, k_1, rfl, Nq1, Kc1, r1_0, r1_1⟩ := hQ1
 have N1 := Fr.app N0 Nq1
 have lo_r_1 : h0.size ≤ r_1 := Nat.le_trans K0.1 r1_0
 have g_r_1 : n0 ≤ r_1 := Nat.le_trans Z0 lo_r_1
 refine jp_ st1 ?_
 show Go_ T1 (mkF mm_ 4 #[vr b, vi 0, vi 4, un, un] [(.ref r_1)])
 refine sp_ (fun t_ k_ => XS.astoreN X1.here hx rfl (B_ dk115) rfl rfl (l' := #[vr b, vi 0, vi 4, vr r_1, un]) rfl (XS.iconst X1.here hx rfl (B_ dk116) (XS.istore X1.here hx rfl (B_ dk117) rfl (l' := #[vr b, vi 0, vi 4, vr r_1, vi 0]) rfl (XS.iload X1.here hx rfl (B_ dk118) rfl  (XS.iloadN X1.here hx rfl (B_ dk119) rfl  k_))))) ?_
 show Go_ T1 (mkF mm_ 11 #[vr b, vi 0, vi 4, vr r_1, vi 0] [(.int 4), (.int 0)])
 refine sp_ (fun t_ k_ => XS.icmpNo X1.here hx rfl (B_ dk120) rfl (tlt (by decide : (0 : Int32) < (4 : Int32))).2.1 k_) ?_
 show Go_ T1 (mkF mm_ 14 #[vr b, vi 0, vi 4, vr r_1, vi 0] [])
 refine sp_ (fun t_ k_ => XS.aloadN X1.here hx rfl (B_ dk121) rfl rfl (XS.iload X1.here hx rfl (B_ dk122) rfl  (XS.aloadN X1.here hx rfl (B_ dk123) rfl rfl (XS.iloadN X1.here hx rfl (B_ dk124) rfl  k_)))) ?_
 have f2 : Arv Z T1.heap b kb .char (4 : Int32) [(.int c0), (.int c1), (.int c2), (.int c3)] (.int 0) := (pr0.keep Kc1 nin0)
 obtain ⟨cl3, Ar3, q3, S3, M3, H3, G3⟩ := id f2
 have hin3 : ¬ ((0 : Int32) < 0 ∨ cl3.slots.size ≤ ((0 : Int32)).toNatClampNeg) := inb_of S3 ⟨by decide, by decide⟩
 have hat3 : cl3.slots[((0 : Int32)).toNatClampNeg]? = some (.int c0) := Has.at H3 hin3 rfl
 refine sp_ (fun t_ k_ => X1.caload hx (j := (0 : Int32)) (v := (.int c0)) Ar3.1 (State.isArrayOf_alike hZ.alike Ar3.2.1) Ar3.2.2 hin3 hat3 (g := (mkF mm_ 19 #[vr b, vi 0, vi 4, vr r_1, vi 0] [(.int 0), (.ref b), (.int 0), (.ref r_1)])) rfl rfl (B_ dk125) t_ k_) ?_
 have O5 : Old Z n0 T1.heap := (O0.keep Kc1 all0)
 obtain ⟨_, T4, Lc4, X4, hQ4, st4⟩ := own_cS X1 hx hZ hown (w_ hw 94 rfl) (w_ hw 95 rfl) (w_ hw 41 rfl) (w_ hw 96 rfl) (by decide) (backOf (W := 0) (rmPt4_0 l Z a0 hw [] r_1 c0 k_1 T1.heap n0 O5 G_ r1_1 g_r_1) hZ (w_ hw 96 rfl) (w_ hw 41 rfl) (by decide) (by decide)) (g := (mkF mm_ 20 #[vr b, vi 0, vi 4, vr r_1, vi 0] [(.int c0), (.int 0), (.ref r_1)])) rfl hml.symm (argsL := [(.ref r_1), (.int 0), (.int c0)]) (rest := []) (lenOf pd_3 rfl) rfl (Nat.le_of_eq rfl) (B_ dk126) rfl rfl (by decide) (by decide)
 obtain ⟨rfl, Nq4, Kc4, r4_0⟩ := hQ4
 have N4 := Fr.app N1 Nq4
 refine jp_ st4 ?_
 show Go_ T4 (mkF mm_ 23 #[vr b, vi 0, vi 4, vr r_1, vi 0] [])
 refine sp_ (fun t_ k_ => XS.iinc X4.here hx rfl (B_ dk127) rfl (l' := #[vr b, vi 1, vi 4, vr r_1, vi 0]) rfl (XS.iinc X4.here hx rfl (B_ dk128) rfl (l' := #[vr b, vi 1, vi 4, vr r_1, vi 1]) rfl (XS.goto X4.here hx rfl (pc0 := 29) (pc' := 8) rfl (B_ dk129) (by decide) (by decide) (XS.iload X4.here hx rfl (B_ dk118) rfl  (XS.iloadN X4.here hx rfl (B_ dk119) rfl  k_))))) ?_
 show Go_ T4 (mkF mm_ 11 #[vr b, vi 1, vi 4, vr r_1, vi 1] [(.int 4), (.int 1)])
 refine sp_ (fun t_ k_ => XS.icmpNo X4.here hx rfl (B_ dk120) rfl (tlt (by decide : (1 : Int32) < (4 : Int32))).2.1 k_) ?_
 show Go_ T4 (mkF mm_ 14 #[vr b, vi 1, vi 4, vr r_1, vi 1] [])
 refine sp_ (fun t_ k_ => XS.aloadN X4.here hx rfl (B_ dk121) rfl rfl (XS.iload X4.here hx rfl (B_ dk122) rfl  (XS.aloadN X4.here hx rfl (B_ dk123) rfl rfl (XS.iloadN X4.here hx rfl (B_ dk124) rfl  k_)))) ?_
 have f6 : Arv Z T4.heap b kb .char (4 : Int32) [(.int c0), (.int c1), (.int c2), (.int c3)] (.int 0) := (f2.keep Kc4 (ninS (Nat.ne_of_lt (Nat.lt_of_lt_of_le pr0.lt r1_0)) nin0))
 obtain ⟨cl7, Ar7, q7, S7, M7, H7, G7⟩ := id f6
 have hin7 : ¬ ((1 : Int32) < 0 ∨ cl7.slots.size ≤ ((1 : Int32)).toNatClampNeg) := inb_of S7 ⟨by decide, by decide⟩
 have hat7 : cl7.slots[((1 : Int32)).toNatClampNeg]? = some (.int c1) := Has.at H7 hin7 rfl
 refine sp_ (fun t_ k_ => X4.caload hx (j := (1 : Int32)) (v := (.int c1)) Ar7.1 (State.isArrayOf_alike hZ.alike Ar7.2.1) Ar7.2.2 hin7 hat7 (g := (mkF mm_ 19 #[vr b, vi 1, vi 4, vr r_1, vi 1] [(.int 1), (.ref b), (.int 1), (.ref r_1)])) rfl rfl (B_ dk125) t_ k_) ?_
 have O9 : Old Z n0 T4.heap := (O5.keep Kc4 (allS g_r_1 all0))
 obtain ⟨_, T8, Lc8, X8, hQ8, st8⟩ := own_cS X4 hx hZ hown (w_ hw 94 rfl) (w_ hw 95 rfl) (w_ hw 41 rfl) (w_ hw 96 rfl) (by decide) (backOf (W := 0) (rmPt4_1 l Z a0 hw [] r_1 c1 k_1 c0 T4.heap n0 O9 G_ r4_0 g_r_1) hZ (w_ hw 96 rfl) (w_ hw 41 rfl) (by decide) (by decide)) (g := (mkF mm_ 20 #[vr b, vi 1, vi 4, vr r_1, vi 1] [(.int c1), (.int 1), (.ref r_1)])) rfl hml.symm (argsL := [(.ref r_1), (.int 1), (.int c1)]) (rest := []) (lenOf pd_3 rfl) rfl (Nat.le_of_eq rfl) (B_ dk126) rfl rfl (by decide) (by decide)
 obtain ⟨rfl, Nq8, Kc8, r8_0⟩ := hQ8
 have N8 := Fr.app N4 Nq8
 refine jp_ st8 ?_
 show Go_ T8 (mkF mm_ 23 #[vr b, vi 1, vi 4, vr r_1, vi 1] [])
 refine sp_ (fun t_ k_ => XS.iinc X8.here hx rfl (B_ dk127) rfl (l' := #[vr b, vi 2, vi 4, vr r_1, vi 1]) rfl (XS.iinc X8.here hx rfl (B_ dk128) rfl (l' := #[vr b, vi 2, vi 4, vr r_1, vi 2]) rfl (XS.goto X8.here hx rfl (pc0 := 29) (pc' := 8) rfl (B_ dk129) (by decide) (by decide) (XS.iload X8.here hx rfl (B_ dk118) rfl  (XS.iloadN X8.here hx rfl (B_ dk119) rfl  k_))))) ?_
 show Go_ T8 (mkF mm_ 11 #[vr b, vi 2, vi 4, vr r_1, vi 2] [(.int 4), (.int 2)])
 refine sp_ (fun t_ k_ => XS.icmpNo X8.here hx rfl (B_ dk120) rfl (tlt (by decide : (2 : Int32) < (4 : Int32))).2.1 k_) ?_
 show Go_ T8 (mkF mm_ 14 #[vr b, vi 2, vi 4, vr r_1, vi 2] [])
 refine sp_ (fun t_ k_ => XS.aloadN X8.here hx rfl (B_ dk121) rfl rfl (XS.iload X8.here hx rfl (B_ dk122) rfl  (XS.aloadN X8.here hx rfl (B_ dk123) rfl rfl (XS.iloadN X8.here hx rfl (B_ dk124) rfl  k_)))) ?_
 have f10 : Arv Z T8.heap b kb .char (4 : Int32) [(.int c0), (.int c1), (.int c2), (.int c3)] (.int 0) := (f6.keep Kc8 (ninS (Nat.ne_of_lt (Nat.lt_of_lt_of_le pr0.lt r1_0)) nin0))
 obtain ⟨cl11, Ar11, q11, S11, M11, H11, G11⟩ := id f10
 have hin11 : ¬ ((2 : Int32) < 0 ∨ cl11.slots.size ≤ ((2 : Int32)).toNatClampNeg) := inb_of S11 ⟨by decide, by decide⟩
 have hat11 : cl11.slots[((2 : Int32)).toNatClampNeg]? = some (.int c2) := Has.at H11 hin11 rfl
 refine sp_ (fun t_ k_ => X8.caload hx (j := (2 : Int32)) (v := (.int c2)) Ar11.1 (State.isArrayOf_alike hZ.alike Ar11.2.1) Ar11.2.2 hin11 hat11 (g := (mkF mm_ 19 #[vr b, vi 2, vi 4, vr r_1, vi 2] [(.int 2), (.ref b), (.int 2), (.ref r_1)])) rfl rfl (B_ dk125) t_ k_) ?_
 have O13 : Old Z n0 T8.heap := (O9.keep Kc8 (allS g_r_1 all0))
 obtain ⟨_, T12, Lc12, X12, hQ12, st12⟩ := own_cS X8 hx hZ hown (w_ hw 94 rfl) (w_ hw 95 rfl) (w_ hw 41 rfl) (w_ hw 96 rfl) (by decide) (backOf (W := 0) (rmPt4_2 l Z a0 hw [] r_1 c2 k_1 c0 c1 T8.heap n0 O13 G_ r8_0 g_r_1) hZ (w_ hw 96 rfl) (w_ hw 41 rfl) (by decide) (by decide)) (g := (mkF mm_ 20 #[vr b, vi 2, vi 4, vr r_1, vi 2] [(.int c2), (.int 2), (.ref r_1)])) rfl hml.symm (argsL := [(.ref r_1), (.int 2), (.int c2)]) (rest := []) (lenOf pd_3 rfl) rfl (Nat.le_of_eq rfl) (B_ dk126) rfl rfl (by decide) (by decide)
 obtain ⟨rfl, Nq12, Kc12, r12_0⟩ := hQ12
 have N12 := Fr.app N8 Nq12
 refine jp_ st12 ?_
 show Go_ T12 (mkF mm_ 23 #[vr b, vi 2, vi 4, vr r_1, vi 2] [])
 refine sp_ (fun t_ k_ => XS.iinc X12.here hx rfl (B_ dk127) rfl (l' := #[vr b, vi 3, vi 4, vr r_1, vi 2]) rfl (XS.iinc X12.here hx rfl (B_ dk128) rfl (l' := #[vr b, vi 3, vi 4, vr r_1, vi 3]) rfl (XS.goto X12.here hx rfl (pc0 := 29) (pc' := 8) rfl (B_ dk129) (by decide) (by decide) (XS.iload X12.here hx rfl (B_ dk118) rfl  (XS.iloadN X12.here hx rfl (B_ dk119) rfl  k_))))) ?_
 show Go_ T12 (mkF mm_ 11 #[vr b, vi 3, vi 4, vr r_1, vi 3] [(.int 4), (.int 3)])
 refine sp_ (fun t_ k_ => XS.icmpNo X12.here hx rfl (B_ dk120) rfl (tlt (by decide : (3 : Int32) < (4 : Int32))).2.1 k_) ?_
 show Go_ T12 (mkF mm_ 14 #[vr b, vi 3, vi 4, vr r_1, vi 3] [])
 refine sp_ (fun t_ k_ => XS.aloadN X12.here hx rfl (B_ dk121) rfl rfl (XS.iload X12.here hx rfl (B_ dk122) rfl  (XS.aloadN X12.here hx rfl (B_ dk123) rfl rfl (XS.iloadN X12.here hx rfl (B_ dk124) rfl  k_)))) ?_
 have f14 : Arv Z T12.heap b kb .char (4 : Int32) [(.int c0), (.int c1), (.int c2), (.int c3)] (.int 0) := (f10.keep Kc12 (ninS (Nat.ne_of_lt (Nat.lt_of_lt_of_le pr0.lt r1_0)) nin0))
 obtain ⟨cl15, Ar15, q15, S15, M15, H15, G15⟩ := id f14
 have hin15 : ¬ ((3 : Int32) < 0 ∨ cl15.slots.size ≤ ((3 : Int32)).toNatClampNeg) := inb_of S15 ⟨by decide, by decide⟩
 have hat15 : cl15.slots[((3 : Int32)).toNatClampNeg]? = some (.int c3) := Has.at H15 hin15 rfl
 refine sp_ (fun t_ k_ => X12.caload hx (j := (3 : Int32)) (v := (.int c3)) Ar15.1 (State.isArrayOf_alike hZ.alike Ar15.2.1) Ar15.2.2 hin15 hat15 (g := (mkF mm_ 19 #[vr b, vi 3, vi 4, vr r_1, vi 3] [(.int 3), (.ref b), (.int 3), (.ref r_1)])) rfl rfl (B_ dk125) t_ k_) ?_
 have O17 : Old Z n0 T12.heap := (O13.keep Kc12 (allS g_r_1 all0))
 obtain ⟨_, T16, Lc16, X16, hQ16, st16⟩ := own_cS X12 hx hZ hown (w_ hw 94 rfl) (w_ hw 95 rfl) (w_ hw 41 rfl) (w_ hw 96 rfl) (by decide) (backOf (W := 0) (rmPt4_3 l Z a0 hw [] r_1 c3 k_1 c0 c1 c2 T12.heap n0 O17 G_ r12_0 g_r_1) hZ (w_ hw 96 rfl) (w_ hw 41 rfl) (by decide) (by decide)) (g := (mkF mm_ 20 #[vr b, vi 3, vi 4, vr r_1, vi 3] [(.int c3), (.int 3), (.ref r_1)])) rfl hml.symm (argsL := [(.ref r_1), (.int 3), (.int c3)]) (rest := []) (lenOf pd_3 rfl) rfl (Nat.le_of_eq rfl) (B_ dk126) rfl rfl (by decide) (by decide)
 obtain ⟨rfl, Nq16, Kc16, r16_0⟩ := hQ16
 have N16 := Fr.app N12 Nq16
 refine jp_ st16 ?_
 show Go_ T16 (mkF mm_ 23 #[vr b, vi 3, vi 4, vr r_1, vi 3] [])
 refine sp_ (fun t_ k_ => XS.iinc X16.here hx rfl (B_ dk127) rfl (l' := #[vr b, vi 4, vi 4, vr r_1, vi 3]) rfl (XS.iinc X16.here hx rfl (B_ dk128) rfl (l' := #[vr b, vi 4, vi 4, vr r_1, vi 4]) rfl (XS.goto X16.here hx rfl (pc0 := 29) (pc' := 8) rfl (B_ dk129) (by decide) (by decide) (XS.iload X16.here hx rfl (B_ dk118) rfl  (XS.iloadN X16.here hx rfl (B_ dk119) rfl  k_))))) ?_
 show Go_ T16 (mkF mm_ 11 #[vr b, vi 4, vi 4, vr r_1, vi 4] [(.int 4), (.int 4)])
 refine sp_ (fun t_ k_ => XS.icmpYes X16.here hx rfl (pc0 := 11) (pc' := 32) rfl (B_ dk120) rfl (flt (by decide : ¬ ((4 : Int32) < (4 : Int32)))).2.1 (by decide) (by decide) k_) ?_
 show Go_ T16 (mkF mm_ 32 #[vr b, vi 4, vi 4, vr r_1, vi 4] [])
 refine sp_ (fun t_ k_ => XS.aloadN X16.here hx rfl (B_ dk130) rfl rfl k_) ?_
 show Go_ T16 (mkF mm_ 33 #[vr b, vi 4, vi 4, vr r_1, vi 4] [(.ref r_1)])
 have K18 : Keep h0 T16.heap [] := (((((K0.trans Kc1 all0).trans Kc4 (allS (Or.inr lo_r_1) all0)).trans Kc8 (allS (Or.inr lo_r_1) all0)).trans Kc12 (allS (Or.inr lo_r_1) all0)).trans Kc16 (allS (Or.inr lo_r_1) all0))
 obtain ⟨fs, hr, hrun, hended, hW, hsame⟩ := X16.leave (v := some (.ref r_1)) (rN Bd.returns)
 refine ⟨_, _, ?_, hrun, hended, _, _, rfl, ?_, ⟨_, rfl⟩, hW, hsame.mono (by decide) (by decide)⟩
 · jvm_step X16.here [X16.here.top, hx, (B_ dk131), X16.method', Bd.returns, Value.isRef, FieldType.isReference]
   first | (intro acts; rw [hr _ acts rfl rfl rfl]) | rw [hr _ _ rfl rfl rfl]
   exact Steps.refl _
 · show QrmTb4 Z b kb c0 c1 c2 c3 h0 n0 (some (.ref r_1)) T16.heap _
   exact ⟨r_1, k_1, rfl, N16, K18, lo_r_1, r16_0⟩
theorem ef_rmC54_0 (mm_ : MethodId) (b : Addr) (t : Addr) : entryFrame mm_ #[(.ref b), (.int 0), (.ref t), (.int 0), (.int 4)] 7 = (mkF mm_ 0 #[vr b, vi 0, vr t, vi 0, vi 4, un, un] []) := by first | (simp [entryFrame, mkF, argsToLocals, Value.category]; done) | rfl
def QrmC54_0 (Z : State) (b : Addr) (t : Addr) (kb : ClassId) (k : ClassId) (c0 : Int32) (c1 : Int32) (c2 : Int32) (c3 : Int32) (h0 : Heap) (n0 : Nat) (vv_ : Option Value) (hh_ : Heap) (LL_ : List Loc) : Prop := (vv_ = some (.int 0)) ∧ (Fr n0 LL_) ∧ (Keep h0 hh_ [t])
theorem rmC54_0 (l : Launch) (Z : State) (a0 : Array Value) (hw : own_Hw a0 Z) (ws : List Jvm.Cond) (b : Addr) (t : Addr) (kb : ClassId) (k : ClassId) (c0 : Int32) (c1 : Int32) (c2 : Int32) (c3 : Int32) (h0 : Heap) (n0 : Nat) (O0 : Old Z n0 h0) (pr0 : Arv Z h0 b kb .char (4 : Int32) [(.int c0), (.int c1), (.int c2), (.int c3)] (.int 0)) (pr1 : Arv Z h0 t k .byte (4 : Int32) [(.int 0), (.int 0), (.int 0), (.int 0)] (.int 0)) (g_t : n0 ≤ t) (hbt : b ≠ t) (hb0 : (255 : Int32) < c0) :
 own_MF l Z ym1 J10 7 (some .int) ws (rm_ 0 0 0 0) #[(.ref b), (.int 0), (.ref t), (.int 0), (.int 4)] h0 (QrmC54_0 Z b t kb k c0 c1 c2 c3 h0 n0) := by
 refine own_met (plainFor_of_name pn_java_lang_StringUTF16) (fun m_ => ef_rmC54_0 m_ b t) fun pp_ ee_ ss_ mm_ bb_ me_ cc_ s₁ Bd hx hby hml hown hZ hh X0 e0 => ?_
 have B_ {q_ : Nat} {r_ : _} (h_ : decode _ q_ = r_) := hb hby h_
 have hown : ss_.vm.findClass sc1 = some mm_.cls := hown
 have N0 := Fr.nil n0
 have Z0 : n0 ≤ h0.size := by have q := O0.2.1; rw [O0.1] at q; exact q
 have K0 : Keep h0 h0 [t] := Keep.refl _ _
 show Go_ s₁ (mkF mm_ 0 #[vr b, vi 0, vr t, vi 0, vi 4, un, un] [])
 refine sp_ (fun t_ k_ => XS.iconst X0.here hx rfl (B_ dk132) (XS.istore X0.here hx rfl (B_ dk133) rfl (l' := #[vr b, vi 0, vr t, vi 0, vi 4, vi 0, un]) rfl (XS.iload X0.here hx rfl (B_ dk134) rfl  (XS.iload X0.here hx rfl (B_ dk135) rfl  k_)))) ?_
 show Go_ s₁ (mkF mm_ 7 #[vr b, vi 0, vr t, vi 0, vi 4, vi 0, un] [(.int 4), (.int 0)])
 refine sp_ (fun t_ k_ => XS.icmpNo X0.here hx rfl (B_ dk136) rfl (tlt (by decide : (0 : Int32) < (4 : Int32))).2.1 k_) ?_
 show Go_ s₁ (mkF mm_ 10 #[vr b, vi 0, vr t, vi 0, vi 4, vi 0, un] [])
 refine sp_ (fun t_ k_ => XS.aloadN X0.here hx rfl (B_ dk137) rfl rfl (XS.iloadN X0.here hx rfl (B_ dk138) rfl  k_)) ?_
 obtain ⟨cl1, Ar1, q1, S1, M1, H1, G1⟩ := id pr0
 have hin1 : ¬ ((0 : Int32) < 0 ∨ cl1.slots.size ≤ ((0 : Int32)).toNatClampNeg) := inb_of S1 ⟨by decide, by decide⟩
 have hat1 : cl1.slots[((0 : Int32)).toNatClampNeg]? = some (.int c0) := Has.at H1 hin1 rfl
 refine sp_ (fun t_ k_ => X0.caload hx (j := (0 : Int32)) (v := (.int c0)) (by rw [e0]; exact Ar1.1) (State.isArrayOf_alike hZ.alike Ar1.2.1) Ar1.2.2 hin1 hat1 (g := (mkF mm_ 12 #[vr b, vi 0, vr t, vi 0, vi 4, vi 0, un] [(.int 0), (.ref b)])) rfl rfl (B_ dk139) t_ k_) ?_
 show Go_ s₁ (mkF mm_ 13 #[vr b, vi 0, vr t, vi 0, vi 4, vi 0, un] [(.int c0)])
 refine sp_ (fun t_ k_ => XS.istore X0.here hx rfl (B_ dk140) rfl (l' := #[vr b, vi 0, vr t, vi 0, vi 4, vi 0, vi c0]) rfl (XS.iload X0.here hx rfl (B_ dk141) rfl  (XS.sipush X0.here hx rfl (B_ dk142) k_))) ?_
 show Go_ s₁ (mkF mm_ 20 #[vr b, vi 0, vr t, vi 0, vi 4, vi 0, vi c0] [(.int 255), (.int c0)])
 refine sp_ (fun t_ k_ => XS.icmpNo X0.here hx rfl (B_ dk143) rfl (tlt hb0).2.2.2 k_) ?_
 show Go_ s₁ (mkF mm_ 23 #[vr b, vi 0, vr t, vi 0, vi 4, vi 0, vi c0] [])
 refine sp_ (fun t_ k_ => XS.iload X0.here hx rfl (B_ dk144) rfl  k_) ?_
 show Go_ s₁ (mkF mm_ 25 #[vr b, vi 0, vr t, vi 0, vi 4, vi 0, vi c0] [(.int 0)])
 obtain ⟨fs, hr, hrun, hended, hW, hsame⟩ := X0.leave (v := some (.int 0)) (rN Bd.returns)
 refine ⟨_, _, ?_, hrun, hended, _, _, rfl, ?_, ⟨_, rfl⟩, hW, hsame.mono (by decide) (by decide)⟩
 · exact retI X0 hx Bd.returns (B_ dk145) hr
 · show QrmC54_0 Z b t kb k c0 c1 c2 c3 h0 n0 (some (.int 0)) s₁.heap _
   rw [e0]
   exact ⟨rfl, N0, K0⟩
theorem ef_rmC54_1 (mm_ : MethodId) (b : Addr) (t : Addr) : entryFrame mm_ #[(.ref b), (.int 0), (.ref t), (.int 0), (.int 4)] 7 = (mkF mm_ 0 #[vr b, vi 0, vr t, vi 0, vi 4, un, un] []) := by first | (simp [entryFrame, mkF, argsToLocals, Value.category]; done) | rfl
def QrmC54_1 (Z : State) (b : Addr) (t : Addr) (kb : ClassId) (k : ClassId) (c0 : Int32) (c1 : Int32) (c2 : Int32) (c3 : Int32) (h0 : Heap) (n0 : Nat) (vv_ : Option Value) (hh_ : Heap) (LL_ : List Loc) : Prop := (vv_ = some (.int 1)) ∧ (Fr n0 LL_) ∧ (Keep h0 hh_ [t])
theorem rmC54_1 (l : Launch) (Z : State) (a0 : Array Value) (hw : own_Hw a0 Z) (ws : List Jvm.Cond) (b : Addr) (t : Addr) (kb : ClassId) (k : ClassId) (c0 : Int32) (c1 : Int32) (c2 : Int32) (c3 : Int32) (h0 : Heap) (n0 : Nat) (O0 : Old Z n0 h0) (pr0 : Arv Z h0 b kb .char (4 : Int32) [(.int c0), (.int c1), (.int c2), (.int c3)] (.int 0)) (pr1 : Arv Z h0 t k .byte (4 : Int32) [(.int 0), (.int 0), (.int 0), (.int 0)] (.int 0)) (g_t : n0 ≤ t) (hbt : b ≠ t) (hs0 : ¬ ((255 : Int32) < c0)) (hb1 : (255 : Int32) < c1) :
 own_MF l Z ym1 J10 7 (some .int) ws (rm_ 0 0 0 0) #[(.ref b), (.int 0), (.ref t), (.int 0), (.int 4)] h0 (QrmC54_1 Z b t kb k c0 c1 c2 c3 h0 n0) := by
 refine own_met (plainFor_of_name pn_java_lang_StringUTF16) (fun m_ => ef_rmC54_1 m_ b t) fun pp_ ee_ ss_ mm_ bb_ me_ cc_ s₁ Bd hx hby hml hown hZ hh X0 e0 => ?_
 have B_ {q_ : Nat} {r_ : _} (h_ : decode _ q_ = r_) := hb hby h_
 have hown : ss_.vm.findClass sc1 = some mm_.cls := hown
 have N0 := Fr.nil n0
 have Z0 : n0 ≤ h0.size := by have q := O0.2.1; rw [O0.1] at q; exact q
 have K0 : Keep h0 h0 [t] := Keep.refl _ _
 show Go_ s₁ (mkF mm_ 0 #[vr b, vi 0, vr t, vi 0, vi 4, un, un] [])
 refine sp_ (fun t_ k_ => XS.iconst X0.here hx rfl (B_ dk132) (XS.istore X0.here hx rfl (B_ dk133) rfl (l' := #[vr b, vi 0, vr t, vi 0, vi 4, vi 0, un]) rfl (XS.iload X0.here hx rfl (B_ dk134) rfl  (XS.iload X0.here hx rfl (B_ dk135) rfl  k_)))) ?_
 show Go_ s₁ (mkF mm_ 7 #[vr b, vi 0, vr t, vi 0, vi 4, vi 0, un] [(.int 4), (.int 0)])
 refine sp_ (fun t_ k_ => XS.icmpNo X0.here hx rfl (B_ dk136) rfl (tlt (by decide : (0 : Int32) < (4 : Int32))).2.1 k_) ?_
 show Go_ s₁ (mkF mm_ 10 #[vr b, vi 0, vr t, vi 0, vi 4, vi 0, un] [])
 refine sp_ (fun t_ k_ => XS.aloadN X0.here hx rfl (B_ dk137) rfl rfl (XS.iloadN X0.here hx rfl (B_ dk138) rfl  k_)) ?_
 obtain ⟨cl1, Ar1, q1, S1, M1, H1, G1⟩ := id pr0
 have hin1 : ¬ ((0 : Int32) < 0 ∨ cl1.slots.size ≤ ((0 : Int32)).toNatClampNeg) := inb_of S1 ⟨by decide, by decide⟩
 have hat1 : cl1.slots[((0 : Int32)).toNatClampNeg]? = some (.int c0) := Has.at H1 hin1 rfl
 refine sp_ (fun t_ k_ => X0.caload hx (j := (0 : Int32)) (v := (.int c0)) (by rw [e0]; exact Ar1.1) (State.isArrayOf_alike hZ.alike Ar1.2.1) Ar1.2.2 hin1 hat1 (g := (mkF mm_ 12 #[vr b, vi 0, vr t, vi 0, vi 4, vi 0, un] [(.int 0), (.ref b)])) rfl rfl (B_ dk139) t_ k_) ?_
 show Go_ s₁ (mkF mm_ 13 #[vr b, vi 0, vr t, vi 0, vi 4, vi 0, un] [(.int c0)])
 refine sp_ (fun t_ k_ => XS.istore X0.here hx rfl (B_ dk140) rfl (l' := #[vr b, vi 0, vr t, vi 0, vi 4, vi 0, vi c0]) rfl (XS.iload X0.here hx rfl (B_ dk141) rfl  (XS.sipush X0.here hx rfl (B_ dk142) k_))) ?_
 show Go_ s₁ (mkF mm_ 20 #[vr b, vi 0, vr t, vi 0, vi 4, vi 0, vi c0] [(.int 255), (.int c0)])
 refine sp_ (fun t_ k_ => XS.icmpYes X0.here hx rfl (pc0 := 20) (pc' := 26) rfl (B_ dk143) rfl (flt hs0).2.2.2 (by decide) (by decide) k_) ?_
 show Go_ s₁ (mkF mm_ 26 #[vr b, vi 0, vr t, vi 0, vi 4, vi 0, vi c0] [])
 refine sp_ (fun t_ k_ => XS.aloadN X0.here hx rfl (B_ dk195) rfl rfl (XS.iloadN X0.here hx rfl (B_ dk196) rfl  (XS.iload X0.here hx rfl (B_ dk197) rfl  (XS.i2b X0.here hx rfl (B_ dk198) rfl k_)))) ?_
 obtain ⟨cl2, Ar2, q2, S2, M2, H2, G2⟩ := id pr1
 have hin2 : ¬ ((0 : Int32) < 0 ∨ cl2.slots.size ≤ ((0 : Int32)).toNatClampNeg) := inb_of S2 ⟨by decide, by decide⟩
 obtain ⟨T2, h2, X2, e2, W2, st2⟩ := stB X0 hx hZ e0 Ar2 (j := (0 : Int32)) hin2 (g := (mkF mm_ 31 #[vr b, vi 0, vr t, vi 0, vi 4, vi 0, vi c0] [(.int (c0.toInt8.toInt32)), (.int 0), (.ref t)])) rfl rfl (B_ dk199)
 have V2 : Arv Z h2 t k .byte (4 : Int32) [(.int (c0.toInt8.toInt32)), (.int 0), (.int 0), (.int 0)] (.int 0) := by
  have q := Arv.set Ar2 q2 S2 M2 H2 G2 (fits_nar_byte _) W2 0 rfl (Nat.le_of_ble_eq_true rfl)
  rw [own_narB] at q
  exact q
 have N2 := Fr.snoc X2 N0 g_t
 refine sp_ st2 ?_
 show Go_ T2 (mkF mm_ 32 #[vr b, vi 0, vr t, vi 0, vi 4, vi 0, vi c0] [])
 refine sp_ (fun t_ k_ => XS.iinc X2.here hx rfl (B_ dk200) rfl (l' := #[vr b, vi 1, vr t, vi 0, vi 4, vi 0, vi c0]) rfl (XS.iinc X2.here hx rfl (B_ dk201) rfl (l' := #[vr b, vi 1, vr t, vi 1, vi 4, vi 0, vi c0]) rfl (XS.iinc X2.here hx rfl (B_ dk202) rfl (l' := #[vr b, vi 1, vr t, vi 1, vi 4, vi 1, vi c0]) rfl (XS.goto X2.here hx rfl (pc0 := 41) (pc' := 3) rfl (B_ dk203) (by decide) (by decide) (XS.iload X2.here hx rfl (B_ dk134) rfl  (XS.iload X2.here hx rfl (B_ dk135) rfl  k_)))))) ?_
 show Go_ T2 (mkF mm_ 7 #[vr b, vi 1, vr t, vi 1, vi 4, vi 1, vi c0] [(.int 4), (.int 1)])
 refine sp_ (fun t_ k_ => XS.icmpNo X2.here hx rfl (B_ dk136) rfl (tlt (by decide : (1 : Int32) < (4 : Int32))).2.1 k_) ?_
 show Go_ T2 (mkF mm_ 10 #[vr b, vi 1, vr t, vi 1, vi 4, vi 1, vi c0] [])
 refine sp_ (fun t_ k_ => XS.aloadN X2.here hx rfl (B_ dk137) rfl rfl (XS.iloadN X2.here hx rfl (B_ dk138) rfl  k_)) ?_
 have f3 : Arv Z h2 b kb .char (4 : Int32) [(.int c0), (.int c1), (.int c2), (.int c3)] (.int 0) := (pr0.other W2 hbt)
 obtain ⟨cl4, Ar4, q4, S4, M4, H4, G4⟩ := id f3
 have hin4 : ¬ ((1 : Int32) < 0 ∨ cl4.slots.size ≤ ((1 : Int32)).toNatClampNeg) := inb_of S4 ⟨by decide, by decide⟩
 have hat4 : cl4.slots[((1 : Int32)).toNatClampNeg]? = some (.int c1) := Has.at H4 hin4 rfl
 refine sp_ (fun t_ k_ => X2.caload hx (j := (1 : Int32)) (v := (.int c1)) (by rw [e2]; exact Ar4.1) (State.isArrayOf_alike hZ.alike Ar4.2.1) Ar4.2.2 hin4 hat4 (g := (mkF mm_ 12 #[vr b, vi 1, vr t, vi 1, vi 4, vi 1, vi c0] [(.int 1), (.ref b)])) rfl rfl (B_ dk139) t_ k_) ?_
 show Go_ T2 (mkF mm_ 13 #[vr b, vi 1, vr t, vi 1, vi 4, vi 1, vi c0] [(.int c1)])
 refine sp_ (fun t_ k_ => XS.istore X2.here hx rfl (B_ dk140) rfl (l' := #[vr b, vi 1, vr t, vi 1, vi 4, vi 1, vi c1]) rfl (XS.iload X2.here hx rfl (B_ dk141) rfl  (XS.sipush X2.here hx rfl (B_ dk142) k_))) ?_
 show Go_ T2 (mkF mm_ 20 #[vr b, vi 1, vr t, vi 1, vi 4, vi 1, vi c1] [(.int 255), (.int c1)])
 refine sp_ (fun t_ k_ => XS.icmpNo X2.here hx rfl (B_ dk143) rfl (tlt hb1).2.2.2 k_) ?_
 show Go_ T2 (mkF mm_ 23 #[vr b, vi 1, vr t, vi 1, vi 4, vi 1, vi c1] [])
 refine sp_ (fun t_ k_ => XS.iload X2.here hx rfl (B_ dk144) rfl  k_) ?_
 show Go_ T2 (mkF mm_ 25 #[vr b, vi 1, vr t, vi 1, vi 4, vi 1, vi c1] [(.int 1)])
 have K5 : Keep h0 h2 [t] := (K0.wr W2 (Or.inl (List.mem_of_getElem? (i := 0) rfl)))
 obtain ⟨fs, hr, hrun, hended, hW, hsame⟩ := X2.leave (v := some (.int 1)) (rN Bd.returns)
 refine ⟨_, _, ?_, hrun, hended, _, _, rfl, ?_, ⟨_, rfl⟩, hW, hsame.mono (by decide) (by decide)⟩
 · exact retI X2 hx Bd.returns (B_ dk145) hr
 · show QrmC54_1 Z b t kb k c0 c1 c2 c3 h0 n0 (some (.int 1)) T2.heap _
   rw [e2]
   exact ⟨rfl, N2, K5⟩
theorem ef_rmC54_2 (mm_ : MethodId) (b : Addr) (t : Addr) : entryFrame mm_ #[(.ref b), (.int 0), (.ref t), (.int 0), (.int 4)] 7 = (mkF mm_ 0 #[vr b, vi 0, vr t, vi 0, vi 4, un, un] []) := by first | (simp [entryFrame, mkF, argsToLocals, Value.category]; done) | rfl
def QrmC54_2 (Z : State) (b : Addr) (t : Addr) (kb : ClassId) (k : ClassId) (c0 : Int32) (c1 : Int32) (c2 : Int32) (c3 : Int32) (h0 : Heap) (n0 : Nat) (vv_ : Option Value) (hh_ : Heap) (LL_ : List Loc) : Prop := (vv_ = some (.int 2)) ∧ (Fr n0 LL_) ∧ (Keep h0 hh_ [t])
theorem rmC54_2 (l : Launch) (Z : State) (a0 : Array Value) (hw : own_Hw a0 Z) (ws : List Jvm.Cond) (b : Addr) (t : Addr) (kb : ClassId) (k : ClassId) (c0 : Int32) (c1 : Int32) (c2 : Int32) (c3 : Int32) (h0 : Heap) (n0 : Nat) (O0 : Old Z n0 h0) (pr0 : Arv Z h0 b kb .char (4 : Int32) [(.int c0), (.int c1), (.int c2), (.int c3)] (.int 0)) (pr1 : Arv Z h0 t k .byte (4 : Int32) [(.int 0), (.int 0), (.int 0), (.int 0)] (.int 0)) (g_t : n0 ≤ t) (hbt : b ≠ t) (hs0 : ¬ ((255 : Int32) < c0)) (hs1 : ¬ ((255 : Int32) < c1)) (hb2 : (255 : Int32) < c2) :
 own_MF l Z ym1 J10 7 (some .int) ws (rm_ 0 0 0 0) #[(.ref b), (.int 0), (.ref t), (.int 0), (.int 4)] h0 (QrmC54_2 Z b t kb k c0 c1 c2 c3 h0 n0) := by
 refine own_met (plainFor_of_name pn_java_lang_StringUTF16) (fun m_ => ef_rmC54_2 m_ b t) fun pp_ ee_ ss_ mm_ bb_ me_ cc_ s₁ Bd hx hby hml hown hZ hh X0 e0 => ?_
 have B_ {q_ : Nat} {r_ : _} (h_ : decode _ q_ = r_) := hb hby h_
 have hown : ss_.vm.findClass sc1 = some mm_.cls := hown
 have N0 := Fr.nil n0
 have Z0 : n0 ≤ h0.size := by have q := O0.2.1; rw [O0.1] at q; exact q
 have K0 : Keep h0 h0 [t] := Keep.refl _ _
 show Go_ s₁ (mkF mm_ 0 #[vr b, vi 0, vr t, vi 0, vi 4, un, un] [])
 refine sp_ (fun t_ k_ => XS.iconst X0.here hx rfl (B_ dk132) (XS.istore X0.here hx rfl (B_ dk133) rfl (l' := #[vr b, vi 0, vr t, vi 0, vi 4, vi 0, un]) rfl (XS.iload X0.here hx rfl (B_ dk134) rfl  (XS.iload X0.here hx rfl (B_ dk135) rfl  k_)))) ?_
 show Go_ s₁ (mkF mm_ 7 #[vr b, vi 0, vr t, vi 0, vi 4, vi 0, un] [(.int 4), (.int 0)])
 refine sp_ (fun t_ k_ => XS.icmpNo X0.here hx rfl (B_ dk136) rfl (tlt (by decide : (0 : Int32) < (4 : Int32))).2.1 k_) ?_
 show Go_ s₁ (mkF mm_ 10 #[vr b, vi 0, vr t, vi 0, vi 4, vi 0, un] [])
 refine sp_ (fun t_ k_ => XS.aloadN X0.here hx rfl (B_ dk137) rfl rfl (XS.iloadN X0.here hx rfl (B_ dk138) rfl  k_)) ?_
 obtain ⟨cl1, Ar1, q1, S1, M1, H1, G1⟩ := id pr0
 have hin1 : ¬ ((0 : Int32) < 0 ∨ cl1.slots.size ≤ ((0 : Int32)).toNatClampNeg) := inb_of S1 ⟨by decide, by decide⟩
 have hat1 : cl1.slots[((0 : Int32)).toNatClampNeg]? = some (.int c0) := Has.at H1 hin1 rfl
 refine sp_ (fun t_ k_ => X0.caload hx (j := (0 : Int32)) (v := (.int c0)) (by rw [e0]; exact Ar1.1) (State.isArrayOf_alike hZ.alike Ar1.2.1) Ar1.2.2 hin1 hat1 (g := (mkF mm_ 12 #[vr b, vi 0, vr t, vi 0, vi 4, vi 0, un] [(.int 0), (.ref b)])) rfl rfl (B_ dk139) t_ k_) ?_
 show Go_ s₁ (mkF mm_ 13 #[vr b, vi 0, vr t, vi 0, vi 4, vi 0, un] [(.int c0)])
 refine sp_ (fun t_ k_ => XS.istore X0.here hx rfl (B_ dk140) rfl (l' := #[vr b, vi 0, vr t, vi 0, vi 4, vi 0, vi c0]) rfl (XS.iload X0.here hx rfl (B_ dk141) rfl  (XS.sipush X0.here hx rfl (B_ dk142) k_))) ?_
 show Go_ s₁ (mkF mm_ 20 #[vr b, vi 0, vr t, vi 0, vi 4, vi 0, vi c0] [(.int 255), (.int c0)])
 refine sp_ (fun t_ k_ => XS.icmpYes X0.here hx rfl (pc0 := 20) (pc' := 26) rfl (B_ dk143) rfl (flt hs0).2.2.2 (by decide) (by decide) k_) ?_
 show Go_ s₁ (mkF mm_ 26 #[vr b, vi 0, vr t, vi 0, vi 4, vi 0, vi c0] [])
 refine sp_ (fun t_ k_ => XS.aloadN X0.here hx rfl (B_ dk195) rfl rfl (XS.iloadN X0.here hx rfl (B_ dk196) rfl  (XS.iload X0.here hx rfl (B_ dk197) rfl  (XS.i2b X0.here hx rfl (B_ dk198) rfl k_)))) ?_
 obtain ⟨cl2, Ar2, q2, S2, M2, H2, G2⟩ := id pr1
 have hin2 : ¬ ((0 : Int32) < 0 ∨ cl2.slots.size ≤ ((0 : Int32)).toNatClampNeg) := inb_of S2 ⟨by decide, by decide⟩
 obtain ⟨T2, h2, X2, e2, W2, st2⟩ := stB X0 hx hZ e0 Ar2 (j := (0 : Int32)) hin2 (g := (mkF mm_ 31 #[vr b, vi 0, vr t, vi 0, vi 4, vi 0, vi c0] [(.int (c0.toInt8.toInt32)), (.int 0), (.ref t)])) rfl rfl (B_ dk199)
 have V2 : Arv Z h2 t k .byte (4 : Int32) [(.int (c0.toInt8.toInt32)), (.int 0), (.int 0), (.int 0)] (.int 0) := by
  have q := Arv.set Ar2 q2 S2 M2 H2 G2 (fits_nar_byte _) W2 0 rfl (Nat.le_of_ble_eq_true rfl)
  rw [own_narB] at q
  exact q
 have N2 := Fr.snoc X2 N0 g_t
 refine sp_ st2 ?_
 show Go_ T2 (mkF mm_ 32 #[vr b, vi 0, vr t, vi 0, vi 4, vi 0, vi c0] [])
 refine sp_ (fun t_ k_ => XS.iinc X2.here hx rfl (B_ dk200) rfl (l' := #[vr b, vi 1, vr t, vi 0, vi 4, vi 0, vi c0]) rfl (XS.iinc X2.here hx rfl (B_ dk201) rfl (l' := #[vr b, vi 1, vr t, vi 1, vi 4, vi 0, vi c0]) rfl (XS.iinc X2.here hx rfl (B_ dk202) rfl (l' := #[vr b, vi 1, vr t, vi 1, vi 4, vi 1, vi c0]) rfl (XS.goto X2.here hx rfl (pc0 := 41) (pc' := 3) rfl (B_ dk203) (by decide) (by decide) (XS.iload X2.here hx rfl (B_ dk134) rfl  (XS.iload X2.here hx rfl (B_ dk135) rfl  k_)))))) ?_
 show Go_ T2 (mkF mm_ 7 #[vr b, vi 1, vr t, vi 1, vi 4, vi 1, vi c0] [(.int 4), (.int 1)])
 refine sp_ (fun t_ k_ => XS.icmpNo X2.here hx rfl (B_ dk136) rfl (tlt (by decide : (1 : Int32) < (4 : Int32))).2.1 k_) ?_
 show Go_ T2 (mkF mm_ 10 #[vr b, vi 1, vr t, vi 1, vi 4, vi 1, vi c0] [])
 refine sp_ (fun t_ k_ => XS.aloadN X2.here hx rfl (B_ dk137) rfl rfl (XS.iloadN X2.here hx rfl (B_ dk138) rfl  k_)) ?_
 have f3 : Arv Z h2 b kb .char (4 : Int32) [(.int c0), (.int c1), (.int c2), (.int c3)] (.int 0) := (pr0.other W2 hbt)
 obtain ⟨cl4, Ar4, q4, S4, M4, H4, G4⟩ := id f3
 have hin4 : ¬ ((1 : Int32) < 0 ∨ cl4.slots.size ≤ ((1 : Int32)).toNatClampNeg) := inb_of S4 ⟨by decide, by decide⟩
 have hat4 : cl4.slots[((1 : Int32)).toNatClampNeg]? = some (.int c1) := Has.at H4 hin4 rfl
 refine sp_ (fun t_ k_ => X2.caload hx (j := (1 : Int32)) (v := (.int c1)) (by rw [e2]; exact Ar4.1) (State.isArrayOf_alike hZ.alike Ar4.2.1) Ar4.2.2 hin4 hat4 (g := (mkF mm_ 12 #[vr b, vi 1, vr t, vi 1, vi 4, vi 1, vi c0] [(.int 1), (.ref b)])) rfl rfl (B_ dk139) t_ k_) ?_
 show Go_ T2 (mkF mm_ 13 #[vr b, vi 1, vr t, vi 1, vi 4, vi 1, vi c0] [(.int c1)])
 refine sp_ (fun t_ k_ => XS.istore X2.here hx rfl (B_ dk140) rfl (l' := #[vr b, vi 1, vr t, vi 1, vi 4, vi 1, vi c1]) rfl (XS.iload X2.here hx rfl (B_ dk141) rfl  (XS.sipush X2.here hx rfl (B_ dk142) k_))) ?_
 show Go_ T2 (mkF mm_ 20 #[vr b, vi 1, vr t, vi 1, vi 4, vi 1, vi c1] [(.int 255), (.int c1)])
 refine sp_ (fun t_ k_ => XS.icmpYes X2.here hx rfl (pc0 := 20) (pc' := 26) rfl (B_ dk143) rfl (flt hs1).2.2.2 (by decide) (by decide) k_) ?_
 show Go_ T2 (mkF mm_ 26 #[vr b, vi 1, vr t, vi 1, vi 4, vi 1, vi c1] [])
 refine sp_ (fun t_ k_ => XS.aloadN X2.here hx rfl (B_ dk195) rfl rfl (XS.iloadN X2.here hx rfl (B_ dk196) rfl  (XS.iload X2.here hx rfl (B_ dk197) rfl  (XS.i2b X2.here hx rfl (B_ dk198) rfl k_)))) ?_
 obtain ⟨cl5, Ar5, q5, S5, M5, H5, G5⟩ := id V2
 have hin5 : ¬ ((1 : Int32) < 0 ∨ cl5.slots.size ≤ ((1 : Int32)).toNatClampNeg) := inb_of S5 ⟨by decide, by decide⟩
 obtain ⟨T5, h5, X5, e5, W5, st5⟩ := stB X2 hx hZ e2 Ar5 (j := (1 : Int32)) hin5 (g := (mkF mm_ 31 #[vr b, vi 1, vr t, vi 1, vi 4, vi 1, vi c1] [(.int (c1.toInt8.toInt32)), (.int 1), (.ref t)])) rfl rfl (B_ dk199)
 have V5 : Arv Z h5 t k .byte (4 : Int32) [(.int (c0.toInt8.toInt32)), (.int (c1.toInt8.toInt32)), (.int 0), (.int 0)] (.int 0) := by
  have q := Arv.set Ar5 q5 S5 M5 H5 G5 (fits_nar_byte _) W5 1 rfl (Nat.le_of_ble_eq_true rfl)
  rw [own_narB] at q
  exact q
 have N5 := Fr.snoc X5 N2 g_t
 refine sp_ st5 ?_
 show Go_ T5 (mkF mm_ 32 #[vr b, vi 1, vr t, vi 1, vi 4, vi 1, vi c1] [])
 refine sp_ (fun t_ k_ => XS.iinc X5.here hx rfl (B_ dk200) rfl (l' := #[vr b, vi 2, vr t, vi 1, vi 4, vi 1, vi c1]) rfl (XS.iinc X5.here hx rfl (B_ dk201) rfl (l' := #[vr b, vi 2, vr t, vi 2, vi 4, vi 1, vi c1]) rfl (XS.iinc X5.here hx rfl (B_ dk202) rfl (l' := #[vr b, vi 2, vr t, vi 2, vi 4, vi 2, vi c1]) rfl (XS.goto X5.here hx rfl (pc0 := 41) (pc' := 3) rfl (B_ dk203) (by decide) (by decide) (XS.iload X5.here hx rfl (B_ dk134) rfl  (XS.iload X5.here hx rfl (B_ dk135) rfl  k_)))))) ?_
 show Go_ T5 (mkF mm_ 7 #[vr b, vi 2, vr t, vi 2, vi 4, vi 2, vi c1] [(.int 4), (.int 2)])
 refine sp_ (fun t_ k_ => XS.icmpNo X5.here hx rfl (B_ dk136) rfl (tlt (by decide : (2 : Int32) < (4 : Int32))).2.1 k_) ?_
 show Go_ T5 (mkF mm_ 10 #[vr b, vi 2, vr t, vi 2, vi 4, vi 2, vi c1] [])
 refine sp_ (fun t_ k_ => XS.aloadN X5.here hx rfl (B_ dk137) rfl rfl (XS.iloadN X5.here hx rfl (B_ dk138) rfl  k_)) ?_
 have f6 : Arv Z h5 b kb .char (4 : Int32) [(.int c0), (.int c1), (.int c2), (.int c3)] (.int 0) := (f3.other W5 hbt)
 obtain ⟨cl7, Ar7, q7, S7, M7, H7, G7⟩ := id f6
 have hin7 : ¬ ((2 : Int32) < 0 ∨ cl7.slots.size ≤ ((2 : Int32)).toNatClampNeg) := inb_of S7 ⟨by decide, by decide⟩
 have hat7 : cl7.slots[((2 : Int32)).toNatClampNeg]? = some (.int c2) := Has.at H7 hin7 rfl
 refine sp_ (fun t_ k_ => X5.caload hx (j := (2 : Int32)) (v := (.int c2)) (by rw [e5]; exact Ar7.1) (State.isArrayOf_alike hZ.alike Ar7.2.1) Ar7.2.2 hin7 hat7 (g := (mkF mm_ 12 #[vr b, vi 2, vr t, vi 2, vi 4, vi 2, vi c1] [(.int 2), (.ref b)])) rfl rfl (B_ dk139) t_ k_) ?_
 show Go_ T5 (mkF mm_ 13 #[vr b, vi 2, vr t, vi 2, vi 4, vi 2, vi c1] [(.int c2)])
 refine sp_ (fun t_ k_ => XS.istore X5.here hx rfl (B_ dk140) rfl (l' := #[vr b, vi 2, vr t, vi 2, vi 4, vi 2, vi c2]) rfl (XS.iload X5.here hx rfl (B_ dk141) rfl  (XS.sipush X5.here hx rfl (B_ dk142) k_))) ?_
 show Go_ T5 (mkF mm_ 20 #[vr b, vi 2, vr t, vi 2, vi 4, vi 2, vi c2] [(.int 255), (.int c2)])
 refine sp_ (fun t_ k_ => XS.icmpNo X5.here hx rfl (B_ dk143) rfl (tlt hb2).2.2.2 k_) ?_
 show Go_ T5 (mkF mm_ 23 #[vr b, vi 2, vr t, vi 2, vi 4, vi 2, vi c2] [])
 refine sp_ (fun t_ k_ => XS.iload X5.here hx rfl (B_ dk144) rfl  k_) ?_
 show Go_ T5 (mkF mm_ 25 #[vr b, vi 2, vr t, vi 2, vi 4, vi 2, vi c2] [(.int 2)])
 have K8 : Keep h0 h5 [t] := ((K0.wr W2 (Or.inl (List.mem_of_getElem? (i := 0) rfl))).wr W5 (Or.inl (List.mem_of_getElem? (i := 0) rfl)))
 obtain ⟨fs, hr, hrun, hended, hW, hsame⟩ := X5.leave (v := some (.int 2)) (rN Bd.returns)
 refine ⟨_, _, ?_, hrun, hended, _, _, rfl, ?_, ⟨_, rfl⟩, hW, hsame.mono (by decide) (by decide)⟩
 · exact retI X5 hx Bd.returns (B_ dk145) hr
 · show QrmC54_2 Z b t kb k c0 c1 c2 c3 h0 n0 (some (.int 2)) T5.heap _
   rw [e5]
   exact ⟨rfl, N5, K8⟩
theorem ef_rmC54_3 (mm_ : MethodId) (b : Addr) (t : Addr) : entryFrame mm_ #[(.ref b), (.int 0), (.ref t), (.int 0), (.int 4)] 7 = (mkF mm_ 0 #[vr b, vi 0, vr t, vi 0, vi 4, un, un] []) := by first | (simp [entryFrame, mkF, argsToLocals, Value.category]; done) | rfl
def QrmC54_3 (Z : State) (b : Addr) (t : Addr) (kb : ClassId) (k : ClassId) (c0 : Int32) (c1 : Int32) (c2 : Int32) (c3 : Int32) (h0 : Heap) (n0 : Nat) (vv_ : Option Value) (hh_ : Heap) (LL_ : List Loc) : Prop := (vv_ = some (.int 3)) ∧ (Fr n0 LL_) ∧ (Keep h0 hh_ [t])
theorem rmC54_3 (l : Launch) (Z : State) (a0 : Array Value) (hw : own_Hw a0 Z) (ws : List Jvm.Cond) (b : Addr) (t : Addr) (kb : ClassId) (k : ClassId) (c0 : Int32) (c1 : Int32) (c2 : Int32) (c3 : Int32) (h0 : Heap) (n0 : Nat) (O0 : Old Z n0 h0) (pr0 : Arv Z h0 b kb .char (4 : Int32) [(.int c0), (.int c1), (.int c2), (.int c3)] (.int 0)) (pr1 : Arv Z h0 t k .byte (4 : Int32) [(.int 0), (.int 0), (.int 0), (.int 0)] (.int 0)) (g_t : n0 ≤ t) (hbt : b ≠ t) (hs0 : ¬ ((255 : Int32) < c0)) (hs1 : ¬ ((255 : Int32) < c1)) (hs2 : ¬ ((255 : Int32) < c2)) (hb3 : (255 : Int32) < c3) :
 own_MF l Z ym1 J10 7 (some .int) ws (rm_ 0 0 0 0) #[(.ref b), (.int 0), (.ref t), (.int 0), (.int 4)] h0 (QrmC54_3 Z b t kb k c0 c1 c2 c3 h0 n0) := by
 refine own_met (plainFor_of_name pn_java_lang_StringUTF16) (fun m_ => ef_rmC54_3 m_ b t) fun pp_ ee_ ss_ mm_ bb_ me_ cc_ s₁ Bd hx hby hml hown hZ hh X0 e0 => ?_
 have B_ {q_ : Nat} {r_ : _} (h_ : decode _ q_ = r_) := hb hby h_
 have hown : ss_.vm.findClass sc1 = some mm_.cls := hown
 have N0 := Fr.nil n0
 have Z0 : n0 ≤ h0.size := by have q := O0.2.1; rw [O0.1] at q; exact q
 have K0 : Keep h0 h0 [t] := Keep.refl _ _
 show Go_ s₁ (mkF mm_ 0 #[vr b, vi 0, vr t, vi 0, vi 4, un, un] [])
 refine sp_ (fun t_ k_ => XS.iconst X0.here hx rfl (B_ dk132) (XS.istore X0.here hx rfl (B_ dk133) rfl (l' := #[vr b, vi 0, vr t, vi 0, vi 4, vi 0, un]) rfl (XS.iload X0.here hx rfl (B_ dk134) rfl  (XS.iload X0.here hx rfl (B_ dk135) rfl  k_)))) ?_
 show Go_ s₁ (mkF mm_ 7 #[vr b, vi 0, vr t, vi 0, vi 4, vi 0, un] [(.int 4), (.int 0)])
 refine sp_ (fun t_ k_ => XS.icmpNo X0.here hx rfl (B_ dk136) rfl (tlt (by decide : (0 : Int32) < (4 : Int32))).2.1 k_) ?_
 show Go_ s₁ (mkF mm_ 10 #[vr b, vi 0, vr t, vi 0, vi 4, vi 0, un] [])
 refine sp_ (fun t_ k_ => XS.aloadN X0.here hx rfl (B_ dk137) rfl rfl (XS.iloadN X0.here hx rfl (B_ dk138) rfl  k_)) ?_
 obtain ⟨cl1, Ar1, q1, S1, M1, H1, G1⟩ := id pr0
 have hin1 : ¬ ((0 : Int32) < 0 ∨ cl1.slots.size ≤ ((0 : Int32)).toNatClampNeg) := inb_of S1 ⟨by decide, by decide⟩
 have hat1 : cl1.slots[((0 : Int32)).toNatClampNeg]? = some (.int c0) := Has.at H1 hin1 rfl
 refine sp_ (fun t_ k_ => X0.caload hx (j := (0 : Int32)) (v := (.int c0)) (by rw [e0]; exact Ar1.1) (State.isArrayOf_alike hZ.alike Ar1.2.1) Ar1.2.2 hin1 hat1 (g := (mkF mm_ 12 #[vr b, vi 0, vr t, vi 0, vi 4, vi 0, un] [(.int 0), (.ref b)])) rfl rfl (B_ dk139) t_ k_) ?_
 show Go_ s₁ (mkF mm_ 13 #[vr b, vi 0, vr t, vi 0, vi 4, vi 0, un] [(.int c0)])
 refine sp_ (fun t_ k_ => XS.istore X0.here hx rfl (B_ dk140) rfl (l' := #[vr b, vi 0, vr t, vi 0, vi 4, vi 0, vi c0]) rfl (XS.iload X0.here hx rfl (B_ dk141) rfl  (XS.sipush X0.here hx rfl (B_ dk142) k_))) ?_
 show Go_ s₁ (mkF mm_ 20 #[vr b, vi 0, vr t, vi 0, vi 4, vi 0, vi c0] [(.int 255), (.int c0)])
 refine sp_ (fun t_ k_ => XS.icmpYes X0.here hx rfl (pc0 := 20) (pc' := 26) rfl (B_ dk143) rfl (flt hs0).2.2.2 (by decide) (by decide) k_) ?_
 show Go_ s₁ (mkF mm_ 26 #[vr b, vi 0, vr t, vi 0, vi 4, vi 0, vi c0] [])
 refine sp_ (fun t_ k_ => XS.aloadN X0.here hx rfl (B_ dk195) rfl rfl (XS.iloadN X0.here hx rfl (B_ dk196) rfl  (XS.iload X0.here hx rfl (B_ dk197) rfl  (XS.i2b X0.here hx rfl (B_ dk198) rfl k_)))) ?_
 obtain ⟨cl2, Ar2, q2, S2, M2, H2, G2⟩ := id pr1
 have hin2 : ¬ ((0 : Int32) < 0 ∨ cl2.slots.size ≤ ((0 : Int32)).toNatClampNeg) := inb_of S2 ⟨by decide, by decide⟩
 obtain ⟨T2, h2, X2, e2, W2, st2⟩ := stB X0 hx hZ e0 Ar2 (j := (0 : Int32)) hin2 (g := (mkF mm_ 31 #[vr b, vi 0, vr t, vi 0, vi 4, vi 0, vi c0] [(.int (c0.toInt8.toInt32)), (.int 0), (.ref t)])) rfl rfl (B_ dk199)
 have V2 : Arv Z h2 t k .byte (4 : Int32) [(.int (c0.toInt8.toInt32)), (.int 0), (.int 0), (.int 0)] (.int 0) := by
  have q := Arv.set Ar2 q2 S2 M2 H2 G2 (fits_nar_byte _) W2 0 rfl (Nat.le_of_ble_eq_true rfl)
  rw [own_narB] at q
  exact q
 have N2 := Fr.snoc X2 N0 g_t
 refine sp_ st2 ?_
 show Go_ T2 (mkF mm_ 32 #[vr b, vi 0, vr t, vi 0, vi 4, vi 0, vi c0] [])
 refine sp_ (fun t_ k_ => XS.iinc X2.here hx rfl (B_ dk200) rfl (l' := #[vr b, vi 1, vr t, vi 0, vi 4, vi 0, vi c0]) rfl (XS.iinc X2.here hx rfl (B_ dk201) rfl (l' := #[vr b, vi 1, vr t, vi 1, vi 4, vi 0, vi c0]) rfl (XS.iinc X2.here hx rfl (B_ dk202) rfl (l' := #[vr b, vi 1, vr t, vi 1, vi 4, vi 1, vi c0]) rfl (XS.goto X2.here hx rfl (pc0 := 41) (pc' := 3) rfl (B_ dk203) (by decide) (by decide) (XS.iload X2.here hx rfl (B_ dk134) rfl  (XS.iload X2.here hx rfl (B_ dk135) rfl  k_)))))) ?_
 show Go_ T2 (mkF mm_ 7 #[vr b, vi 1, vr t, vi 1, vi 4, vi 1, vi c0] [(.int 4), (.int 1)])
 refine sp_ (fun t_ k_ => XS.icmpNo X2.here hx rfl (B_ dk136) rfl (tlt (by decide : (1 : Int32) < (4 : Int32))).2.1 k_) ?_
 show Go_ T2 (mkF mm_ 10 #[vr b, vi 1, vr t, vi 1, vi 4, vi 1, vi c0] [])
 refine sp_ (fun t_ k_ => XS.aloadN X2.here hx rfl (B_ dk137) rfl rfl (XS.iloadN X2.here hx rfl (B_ dk138) rfl  k_)) ?_
 have f3 : Arv Z h2 b kb .char (4 : Int32) [(.int c0), (.int c1), (.int c2), (.int c3)] (.int 0) := (pr0.other W2 hbt)
 obtain ⟨cl4, Ar4, q4, S4, M4, H4, G4⟩ := id f3
 have hin4 : ¬ ((1 : Int32) < 0 ∨ cl4.slots.size ≤ ((1 : Int32)).toNatClampNeg) := inb_of S4 ⟨by decide, by decide⟩
 have hat4 : cl4.slots[((1 : Int32)).toNatClampNeg]? = some (.int c1) := Has.at H4 hin4 rfl
 refine sp_ (fun t_ k_ => X2.caload hx (j := (1 : Int32)) (v := (.int c1)) (by rw [e2]; exact Ar4.1) (State.isArrayOf_alike hZ.alike Ar4.2.1) Ar4.2.2 hin4 hat4 (g := (mkF mm_ 12 #[vr b, vi 1, vr t, vi 1, vi 4, vi 1, vi c0] [(.int 1), (.ref b)])) rfl rfl (B_ dk139) t_ k_) ?_
 show Go_ T2 (mkF mm_ 13 #[vr b, vi 1, vr t, vi 1, vi 4, vi 1, vi c0] [(.int c1)])
 refine sp_ (fun t_ k_ => XS.istore X2.here hx rfl (B_ dk140) rfl (l' := #[vr b, vi 1, vr t, vi 1, vi 4, vi 1, vi c1]) rfl (XS.iload X2.here hx rfl (B_ dk141) rfl  (XS.sipush X2.here hx rfl (B_ dk142) k_))) ?_
 show Go_ T2 (mkF mm_ 20 #[vr b, vi 1, vr t, vi 1, vi 4, vi 1, vi c1] [(.int 255), (.int c1)])
 refine sp_ (fun t_ k_ => XS.icmpYes X2.here hx rfl (pc0 := 20) (pc' := 26) rfl (B_ dk143) rfl (flt hs1).2.2.2 (by decide) (by decide) k_) ?_
 show Go_ T2 (mkF mm_ 26 #[vr b, vi 1, vr t, vi 1, vi 4, vi 1, vi c1] [])
 refine sp_ (fun t_ k_ => XS.aloadN X2.here hx rfl (B_ dk195) rfl rfl (XS.iloadN X2.here hx rfl (B_ dk196) rfl  (XS.iload X2.here hx rfl (B_ dk197) rfl  (XS.i2b X2.here hx rfl (B_ dk198) rfl k_)))) ?_
 obtain ⟨cl5, Ar5, q5, S5, M5, H5, G5⟩ := id V2
 have hin5 : ¬ ((1 : Int32) < 0 ∨ cl5.slots.size ≤ ((1 : Int32)).toNatClampNeg) := inb_of S5 ⟨by decide, by decide⟩
 obtain ⟨T5, h5, X5, e5, W5, st5⟩ := stB X2 hx hZ e2 Ar5 (j := (1 : Int32)) hin5 (g := (mkF mm_ 31 #[vr b, vi 1, vr t, vi 1, vi 4, vi 1, vi c1] [(.int (c1.toInt8.toInt32)), (.int 1), (.ref t)])) rfl rfl (B_ dk199)
 have V5 : Arv Z h5 t k .byte (4 : Int32) [(.int (c0.toInt8.toInt32)), (.int (c1.toInt8.toInt32)), (.int 0), (.int 0)] (.int 0) := by
  have q := Arv.set Ar5 q5 S5 M5 H5 G5 (fits_nar_byte _) W5 1 rfl (Nat.le_of_ble_eq_true rfl)
  rw [own_narB] at q
  exact q
 have N5 := Fr.snoc X5 N2 g_t
 refine sp_ st5 ?_
 show Go_ T5 (mkF mm_ 32 #[vr b, vi 1, vr t, vi 1, vi 4, vi 1, vi c1] [])
 refine sp_ (fun t_ k_ => XS.iinc X5.here hx rfl (B_ dk200) rfl (l' := #[vr b, vi 2, vr t, vi 1, vi 4, vi 1, vi c1]) rfl (XS.iinc X5.here hx rfl (B_ dk201) rfl (l' := #[vr b, vi 2, vr t, vi 2, vi 4, vi 1, vi c1]) rfl (XS.iinc X5.here hx rfl (B_ dk202) rfl (l' := #[vr b, vi 2, vr t, vi 2, vi 4, vi 2, vi c1]) rfl (XS.goto X5.here hx rfl (pc0 := 41) (pc' := 3) rfl (B_ dk203) (by decide) (by decide) (XS.iload X5.here hx rfl (B_ dk134) rfl  (XS.iload X5.here hx rfl (B_ dk135) rfl  k_)))))) ?_
 show Go_ T5 (mkF mm_ 7 #[vr b, vi 2, vr t, vi 2, vi 4, vi 2, vi c1] [(.int 4), (.int 2)])
 refine sp_ (fun t_ k_ => XS.icmpNo X5.here hx rfl (B_ dk136) rfl (tlt (by decide : (2 : Int32) < (4 : Int32))).2.1 k_) ?_
 show Go_ T5 (mkF mm_ 10 #[vr b, vi 2, vr t, vi 2, vi 4, vi 2, vi c1] [])
 refine sp_ (fun t_ k_ => XS.aloadN X5.here hx rfl (B_ dk137) rfl rfl (XS.iloadN X5.here hx rfl (B_ dk138) rfl  k_)) ?_
 have f6 : Arv Z h5 b kb .char (4 : Int32) [(.int c0), (.int c1), (.int c2), (.int c3)] (.int 0) := (f3.other W5 hbt)
 obtain ⟨cl7, Ar7, q7, S7, M7, H7, G7⟩ := id f6
 have hin7 : ¬ ((2 : Int32) < 0 ∨ cl7.slots.size ≤ ((2 : Int32)).toNatClampNeg) := inb_of S7 ⟨by decide, by decide⟩
 have hat7 : cl7.slots[((2 : Int32)).toNatClampNeg]? = some (.int c2) := Has.at H7 hin7 rfl
 refine sp_ (fun t_ k_ => X5.caload hx (j := (2 : Int32)) (v := (.int c2)) (by rw [e5]; exact Ar7.1) (State.isArrayOf_alike hZ.alike Ar7.2.1) Ar7.2.2 hin7 hat7 (g := (mkF mm_ 12 #[vr b, vi 2, vr t, vi 2, vi 4, vi 2, vi c1] [(.int 2), (.ref b)])) rfl rfl (B_ dk139) t_ k_) ?_
 show Go_ T5 (mkF mm_ 13 #[vr b, vi 2, vr t, vi 2, vi 4, vi 2, vi c1] [(.int c2)])
 refine sp_ (fun t_ k_ => XS.istore X5.here hx rfl (B_ dk140) rfl (l' := #[vr b, vi 2, vr t, vi 2, vi 4, vi 2, vi c2]) rfl (XS.iload X5.here hx rfl (B_ dk141) rfl  (XS.sipush X5.here hx rfl (B_ dk142) k_))) ?_
 show Go_ T5 (mkF mm_ 20 #[vr b, vi 2, vr t, vi 2, vi 4, vi 2, vi c2] [(.int 255), (.int c2)])
 refine sp_ (fun t_ k_ => XS.icmpYes X5.here hx rfl (pc0 := 20) (pc' := 26) rfl (B_ dk143) rfl (flt hs2).2.2.2 (by decide) (by decide) k_) ?_
 show Go_ T5 (mkF mm_ 26 #[vr b, vi 2, vr t, vi 2, vi 4, vi 2, vi c2] [])
 refine sp_ (fun t_ k_ => XS.aloadN X5.here hx rfl (B_ dk195) rfl rfl (XS.iloadN X5.here hx rfl (B_ dk196) rfl  (XS.iload X5.here hx rfl (B_ dk197) rfl  (XS.i2b X5.here hx rfl (B_ dk198) rfl k_)))) ?_
 obtain ⟨cl8, Ar8, q8, S8, M8, H8, G8⟩ := id V5
 have hin8 : ¬ ((2 : Int32) < 0 ∨ cl8.slots.size ≤ ((2 : Int32)).toNatClampNeg) := inb_of S8 ⟨by decide, by decide⟩
 obtain ⟨T8, h8, X8, e8, W8, st8⟩ := stB X5 hx hZ e5 Ar8 (j := (2 : Int32)) hin8 (g := (mkF mm_ 31 #[vr b, vi 2, vr t, vi 2, vi 4, vi 2, vi c2] [(.int (c2.toInt8.toInt32)), (.int 2), (.ref t)])) rfl rfl (B_ dk199)
 have V8 : Arv Z h8 t k .byte (4 : Int32) [(.int (c0.toInt8.toInt32)), (.int (c1.toInt8.toInt32)), (.int (c2.toInt8.toInt32)), (.int 0)] (.int 0) := by
  have q := Arv.set Ar8 q8 S8 M8 H8 G8 (fits_nar_byte _) W8 2 rfl (Nat.le_of_ble_eq_true rfl)
  rw [own_narB] at q
  exact q
 have N8 := Fr.snoc X8 N5 g_t
 refine sp_ st8 ?_
 show Go_ T8 (mkF mm_ 32 #[vr b, vi 2, vr t, vi 2, vi 4, vi 2, vi c2] [])
 refine sp_ (fun t_ k_ => XS.iinc X8.here hx rfl (B_ dk200) rfl (l' := #[vr b, vi 3, vr t, vi 2, vi 4, vi 2, vi c2]) rfl (XS.iinc X8.here hx rfl (B_ dk201) rfl (l' := #[vr b, vi 3, vr t, vi 3, vi 4, vi 2, vi c2]) rfl (XS.iinc X8.here hx rfl (B_ dk202) rfl (l' := #[vr b, vi 3, vr t, vi 3, vi 4, vi 3, vi c2]) rfl (XS.goto X8.here hx rfl (pc0 := 41) (pc' := 3) rfl (B_ dk203) (by decide) (by decide) (XS.iload X8.here hx rfl (B_ dk134) rfl  (XS.iload X8.here hx rfl (B_ dk135) rfl  k_)))))) ?_
 show Go_ T8 (mkF mm_ 7 #[vr b, vi 3, vr t, vi 3, vi 4, vi 3, vi c2] [(.int 4), (.int 3)])
 refine sp_ (fun t_ k_ => XS.icmpNo X8.here hx rfl (B_ dk136) rfl (tlt (by decide : (3 : Int32) < (4 : Int32))).2.1 k_) ?_
 show Go_ T8 (mkF mm_ 10 #[vr b, vi 3, vr t, vi 3, vi 4, vi 3, vi c2] [])
 refine sp_ (fun t_ k_ => XS.aloadN X8.here hx rfl (B_ dk137) rfl rfl (XS.iloadN X8.here hx rfl (B_ dk138) rfl  k_)) ?_
 have f9 : Arv Z h8 b kb .char (4 : Int32) [(.int c0), (.int c1), (.int c2), (.int c3)] (.int 0) := (f6.other W8 hbt)
 obtain ⟨cl10, Ar10, q10, S10, M10, H10, G10⟩ := id f9
 have hin10 : ¬ ((3 : Int32) < 0 ∨ cl10.slots.size ≤ ((3 : Int32)).toNatClampNeg) := inb_of S10 ⟨by decide, by decide⟩
 have hat10 : cl10.slots[((3 : Int32)).toNatClampNeg]? = some (.int c3) := Has.at H10 hin10 rfl
 refine sp_ (fun t_ k_ => X8.caload hx (j := (3 : Int32)) (v := (.int c3)) (by rw [e8]; exact Ar10.1) (State.isArrayOf_alike hZ.alike Ar10.2.1) Ar10.2.2 hin10 hat10 (g := (mkF mm_ 12 #[vr b, vi 3, vr t, vi 3, vi 4, vi 3, vi c2] [(.int 3), (.ref b)])) rfl rfl (B_ dk139) t_ k_) ?_
 show Go_ T8 (mkF mm_ 13 #[vr b, vi 3, vr t, vi 3, vi 4, vi 3, vi c2] [(.int c3)])
 refine sp_ (fun t_ k_ => XS.istore X8.here hx rfl (B_ dk140) rfl (l' := #[vr b, vi 3, vr t, vi 3, vi 4, vi 3, vi c3]) rfl (XS.iload X8.here hx rfl (B_ dk141) rfl  (XS.sipush X8.here hx rfl (B_ dk142) k_))) ?_
 show Go_ T8 (mkF mm_ 20 #[vr b, vi 3, vr t, vi 3, vi 4, vi 3, vi c3] [(.int 255), (.int c3)])
 refine sp_ (fun t_ k_ => XS.icmpNo X8.here hx rfl (B_ dk143) rfl (tlt hb3).2.2.2 k_) ?_
 show Go_ T8 (mkF mm_ 23 #[vr b, vi 3, vr t, vi 3, vi 4, vi 3, vi c3] [])
 refine sp_ (fun t_ k_ => XS.iload X8.here hx rfl (B_ dk144) rfl  k_) ?_
 show Go_ T8 (mkF mm_ 25 #[vr b, vi 3, vr t, vi 3, vi 4, vi 3, vi c3] [(.int 3)])
 have K11 : Keep h0 h8 [t] := (((K0.wr W2 (Or.inl (List.mem_of_getElem? (i := 0) rfl))).wr W5 (Or.inl (List.mem_of_getElem? (i := 0) rfl))).wr W8 (Or.inl (List.mem_of_getElem? (i := 0) rfl)))
 obtain ⟨fs, hr, hrun, hended, hW, hsame⟩ := X8.leave (v := some (.int 3)) (rN Bd.returns)
 refine ⟨_, _, ?_, hrun, hended, _, _, rfl, ?_, ⟨_, rfl⟩, hW, hsame.mono (by decide) (by decide)⟩
 · exact retI X8 hx Bd.returns (B_ dk145) hr
 · show QrmC54_3 Z b t kb k c0 c1 c2 c3 h0 n0 (some (.int 3)) T8.heap _
   rw [e8]
   exact ⟨rfl, N8, K11⟩
theorem ef_rmC34 (mm_ : MethodId) (b : Addr) : entryFrame mm_ #[(.ref b), (.int 0), (.int 4)] 6 = (mkF mm_ 0 #[vr b, vi 0, vi 4, un, un, un] []) := by first | (simp [entryFrame, mkF, argsToLocals, Value.category]; done) | rfl
def QrmC34 (Z : State) (b : Addr) (kb : ClassId) (c0 : Int32) (c1 : Int32) (c2 : Int32) (c3 : Int32) (h0 : Heap) (n0 : Nat) (vv_ : Option Value) (hh_ : Heap) (LL_ : List Loc) : Prop := ∃ (r : Addr), ∃ (k : ClassId), (vv_ = some (.ref r)) ∧ (Fr n0 LL_) ∧ (Keep h0 hh_ []) ∧ (h0.size ≤ r) ∧ (Arv Z hh_ r k .byte (8 : Int32) [(lb c0), (hb_ c0), (lb c1), (hb_ c1), (lb c2), (hb_ c2), (lb c3), (hb_ c3)] (.int 0))
theorem rmC34 (l : Launch) (Z : State) (a0 : Array Value) (hw : own_Hw a0 Z) (ws : List Jvm.Cond) (b : Addr) (kb : ClassId) (c0 : Int32) (c1 : Int32) (c2 : Int32) (c3 : Int32) {zc : Int32} {fm : Value} (h0 : Heap) (n0 : Nat) (O0 : Old Z n0 h0) (G_ : own_St Z zc fm) (pr0 : Arv Z h0 b kb .char (4 : Int32) [(.int c0), (.int c1), (.int c2), (.int c3)] (.int 0)) (hc_c0 : ¬ c0 < (0 : Int32) ∧ ¬ (65535 : Int32) < c0) (hc_c1 : ¬ c1 < (0 : Int32) ∧ ¬ (65535 : Int32) < c1) (hc_c2 : ¬ c2 < (0 : Int32) ∧ ¬ (65535 : Int32) < c2) (hc_c3 : ¬ c3 < (0 : Int32) ∧ ¬ (65535 : Int32) < c3) (hW : (255 : Int32) < c0 ∨ (255 : Int32) < c1 ∨ (255 : Int32) < c2 ∨ (255 : Int32) < c3) :
 own_MF l Z ym9 J11 6 (some (.array .byte)) ws (rm_ 3 2 12 40) #[(.ref b), (.int 0), (.int 4)] h0 (QrmC34 Z b kb c0 c1 c2 c3 h0 n0) := by
 refine own_met (plainFor_of_name pn_java_lang_StringUTF16) (fun m_ => ef_rmC34 m_ b) fun pp_ ee_ ss_ mm_ bb_ me_ cc_ s₁ Bd hx hby hml hown hZ hh X0 e0 => ?_
 have B_ {q_ : Nat} {r_ : _} (h_ : decode _ q_ = r_) := hb hby h_
 have hown : ss_.vm.findClass sc1 = some mm_.cls := hown
 have N0 := Fr.nil n0
 have Z0 : n0 ≤ h0.size := by have q := O0.2.1; rw [O0.1] at q; exact q
 have K0 : Keep h0 h0 [] := Keep.refl _ _
 obtain ⟨G_cs, G_cs0, G_cw, G_h_java_lang_String_7, G_fm, G_fr, G_hb, G_lb, G_ad⟩ := id G_
 show Go_ s₁ (mkF mm_ 0 #[vr b, vi 0, vi 4, un, un, un] [])
 by_cases hs0 : (255 : Int32) < c0
 · skip
   refine sp_ (fun t_ k_ => XS.iloadN X0.here hx rfl (B_ dk146) rfl  k_) ?_
   obtain ⟨T1, h1, k1, X1, e1, E1, A1, st1⟩ := newP X0 hx hZ (w_ hw 22 rfl) e0 (g := (mkF mm_ 1 #[vr b, vi 0, vi 4, un, un, un] [(.int 4)])) rfl (B_ dk147) rfl (by decide) (cap := 4) (by decide) (by decide) (by decide) (by decide)
   obtain ⟨b1, q1⟩ : ∃ z, z = h0.size := ⟨_, rfl⟩
   rw [← q1] at A1 st1
   have lo_b1 : h0.size ≤ b1 := Nat.le_trans K0.1 (Nat.le_of_eq q1.symm)
   have g_b1 : n0 ≤ b1 := Nat.le_trans Z0 lo_b1
   refine sp_ st1 ?_
   have V1 : Arv Z h1 b1 k1 .byte (4 : Int32) [(.int 0), (.int 0), (.int 0), (.int 0)] (.int 0) := (Arv.new A1 (by decide)).pad (pad_rep [] (.int 0) 4)
   show Go_ T1 (mkF mm_ 3 #[vr b, vi 0, vi 4, un, un, un] [(.ref b1)])
   refine sp_ (fun t_ k_ => XS.astoreN X1.here hx rfl (B_ dk148) rfl rfl (l' := #[vr b, vi 0, vi 4, vr b1, un, un]) rfl (XS.aloadN X1.here hx rfl (B_ dk149) rfl rfl (XS.iloadN X1.here hx rfl (B_ dk150) rfl  (XS.aloadN X1.here hx rfl (B_ dk151) rfl rfl (XS.iconst X1.here hx rfl (B_ dk152) (XS.iloadN X1.here hx rfl (B_ dk153) rfl  k_)))))) ?_
   have f3 : Arv Z h1 b kb .char (4 : Int32) [(.int c0), (.int c1), (.int c2), (.int c3)] (.int 0) := (pr0.ext E1)
   have O4 : Old Z n0 h1 := (O0.ext E1)
   obtain ⟨_, T2, Lc2, X2, hQ2, st2⟩ := own_cS X1 hx hZ hown (w_ hw 43 rfl) (w_ hw 44 rfl) (w_ hw 41 rfl) (w_ hw 45 rfl) (by decide) (backOf (W := 0) (rmC54_0 l Z a0 hw [] b b1 kb k1 c0 c1 c2 c3 h1 n0 O4 f3 V1 g_b1 (Nat.ne_of_lt (Nat.lt_of_lt_of_le pr0.lt (Nat.le_of_eq q1.symm))) hs0) hZ (w_ hw 45 rfl) (w_ hw 41 rfl) (by decide) (by decide)) (g := (mkF mm_ 9 #[vr b, vi 0, vi 4, vr b1, un, un] [(.int 4), (.int 0), (.ref b1), (.int 0), (.ref b)])) rfl hml.symm (argsL := [(.ref b), (.int 0), (.ref b1), (.int 0), (.int 4)]) (rest := []) (lenOf pd_4 rfl) rfl (Nat.le_of_eq rfl) (B_ dk154) rfl e1 (by decide) (by decide)
   obtain ⟨rfl, Nq2, Kc2⟩ := hQ2
   have N2 := Fr.app N0 Nq2
   refine jp_ st2 ?_
   show Go_ T2 (mkF mm_ 12 #[vr b, vi 0, vi 4, vr b1, un, un] [(.int 0)])
   refine sp_ (fun t_ k_ => XS.istore X2.here hx rfl (B_ dk155) rfl (l' := #[vr b, vi 0, vi 4, vr b1, vi 0, un]) rfl (XS.iload X2.here hx rfl (B_ dk156) rfl  (XS.iloadN X2.here hx rfl (B_ dk157) rfl  k_))) ?_
   show Go_ T2 (mkF mm_ 17 #[vr b, vi 0, vi 4, vr b1, vi 0, un] [(.int 4), (.int 0)])
   refine sp_ (fun t_ k_ => XS.icmpNo X2.here hx rfl (B_ dk158) rfl (feq (by decide : ¬ ((0 : Int32) = (4 : Int32)))).1 k_) ?_
   show Go_ T2 (mkF mm_ 20 #[vr b, vi 0, vi 4, vr b1, vi 0, un] [])
   refine sp_ (fun t_ k_ => XS.aloadN X2.here hx rfl (B_ dk159) rfl rfl (XS.iloadN X2.here hx rfl (B_ dk160) rfl  (XS.iloadN X2.here hx rfl (B_ dk161) rfl  k_))) ?_
   have f6 : Arv Z T2.heap b kb .char (4 : Int32) [(.int c0), (.int c1), (.int c2), (.int c3)] (.int 0) := (f3.keep Kc2 (ninS (Nat.ne_of_lt (Nat.lt_of_lt_of_le pr0.lt (Nat.le_of_eq q1.symm))) nin0))
   have O7 : Old Z n0 T2.heap := (O4.keep Kc2 (allS g_b1 all0))
   obtain ⟨_, T5, Lc5, X5, hQ5, st5⟩ := own_cS X2 hx hZ hown (w_ hw 84 rfl) (w_ hw 85 rfl) (w_ hw 41 rfl) (w_ hw 86 rfl) (by decide) (backOf (W := 0) (rmTb4 l Z a0 hw [] b kb c0 c1 c2 c3 T2.heap n0 O7 G_ f6) hZ (w_ hw 86 rfl) (w_ hw 41 rfl) (by decide) (by decide)) (g := (mkF mm_ 23 #[vr b, vi 0, vi 4, vr b1, vi 0, un] [(.int 4), (.int 0), (.ref b)])) rfl hml.symm (argsL := [(.ref b), (.int 0), (.int 4)]) (rest := []) (lenOf pd_5 rfl) rfl (Nat.le_of_eq rfl) (B_ dk162) rfl rfl (by decide) (by decide)
   obtain ⟨r_5, k_5, rfl, Nq5, Kc5, r5_0, r5_1⟩ := hQ5
   have N5 := Fr.app N2 Nq5
   have K8 : Keep h0 T2.heap [] := ((K0.ext E1).trans Kc2 (allS (Or.inr lo_b1) all0))
   have lo_r_5 : h0.size ≤ r_5 := Nat.le_trans K8.1 r5_0
   have g_r_5 : n0 ≤ r_5 := Nat.le_trans Z0 lo_r_5
   refine jp_ st5 ?_
   show Go_ T5 (mkF mm_ 26 #[vr b, vi 0, vi 4, vr b1, vi 0, un] [(.ref r_5)])
   refine sp_ (fun t_ k_ => XS.astore X5.here hx rfl (B_ dk163) rfl rfl (l' := #[vr b, vi 0, vi 4, vr b1, vi 0, vr r_5]) rfl (XS.aload X5.here hx rfl (B_ dk164) rfl rfl (XS.iload X5.here hx rfl (B_ dk165) rfl  k_))) ?_
   have O10 : Old Z n0 T5.heap := (O7.keep Kc5 all0)
   obtain ⟨_, T9, Lc9, X9, hQ9, st9⟩ := own_cS X5 hx hZ hown (w_ hw 100 rfl) (w_ hw 101 rfl) (w_ hw 41 rfl) (w_ hw 102 rfl) (by decide) (backOf (W := 0) (rmGt0 l Z a0 hw [] r_5 k_5 (8 : Int32) [(lb c0), (hb_ c0), (lb c1), (hb_ c1), (lb c2), (hb_ c2), (lb c3), (hb_ c3)] c0 T5.heap n0 O10 G_ r5_1 (by first | assumption | rfl | decide | (simp; done)) (by first | assumption | rfl | decide | (simp; done)) (by first | assumption | rfl | decide | (simp; done)) (by first | assumption | rfl | decide | (simp; done)) hc_c0) hZ (w_ hw 102 rfl) (w_ hw 41 rfl) (by decide) (by decide)) (g := (mkF mm_ 32 #[vr b, vi 0, vi 4, vr b1, vi 0, vr r_5] [(.int 0), (.ref r_5)])) rfl hml.symm (argsL := [(.ref r_5), (.int 0)]) (rest := []) (lenOf pd_6 rfl) rfl (Nat.le_of_eq rfl) (B_ dk166) rfl rfl (by decide) (by decide)
   obtain ⟨rfl, rfl, Eh9⟩ := hQ9
   have N9 := Fr.app N5 (Fr.nil n0)
   refine jp_ st9 ?_
   show Go_ T9 (mkF mm_ 35 #[vr b, vi 0, vi 4, vr b1, vi 0, vr r_5] [(.int c0)])
   refine sp_ (fun t_ k_ => XS.sipush X9.here hx rfl (B_ dk167) k_) ?_
   show Go_ T9 (mkF mm_ 38 #[vr b, vi 0, vi 4, vr b1, vi 0, vr r_5] [(.int 255), (.int c0)])
   refine sp_ (fun t_ k_ => XS.icmpYes X9.here hx rfl (pc0 := 38) (pc' := 54) rfl (B_ dk168) rfl (tlt hs0).2.2.1 (by decide) (by decide) k_) ?_
   show Go_ T9 (mkF mm_ 54 #[vr b, vi 0, vi 4, vr b1, vi 0, vr r_5] [])
   refine sp_ (fun t_ k_ => XS.aload X9.here hx rfl (B_ dk169) rfl rfl k_) ?_
   show Go_ T9 (mkF mm_ 56 #[vr b, vi 0, vi 4, vr b1, vi 0, vr r_5] [(.ref r_5)])
   have K11 : Keep h0 T5.heap [] := (K8.trans Kc5 all0)
   obtain ⟨fs, hr, hrun, hended, hW, hsame⟩ := X9.leave (v := some (.ref r_5)) (rN Bd.returns)
   refine ⟨_, _, ?_, hrun, hended, _, _, rfl, ?_, ⟨_, rfl⟩, hW, hsame.mono (by decide) (by decide)⟩
   · jvm_step X9.here [X9.here.top, hx, (B_ dk170), X9.method', Bd.returns, Value.isRef, FieldType.isReference]
     first | (intro acts; rw [hr _ acts rfl rfl rfl]) | rw [hr _ _ rfl rfl rfl]
     exact Steps.refl _
   · show QrmC34 Z b kb c0 c1 c2 c3 h0 n0 (some (.ref r_5)) T9.heap _
     rw [Eh9]
     exact ⟨r_5, k_5, rfl, N9, K11, lo_r_5, r5_1⟩
 · skip
   by_cases hs1 : (255 : Int32) < c1
   · skip
     refine sp_ (fun t_ k_ => XS.iloadN X0.here hx rfl (B_ dk146) rfl  k_) ?_
     obtain ⟨T12, h12, k12, X12, e12, E12, A12, st12⟩ := newP X0 hx hZ (w_ hw 22 rfl) e0 (g := (mkF mm_ 1 #[vr b, vi 0, vi 4, un, un, un] [(.int 4)])) rfl (B_ dk147) rfl (by decide) (cap := 4) (by decide) (by decide) (by decide) (by decide)
     obtain ⟨b12, q12⟩ : ∃ z, z = h0.size := ⟨_, rfl⟩
     rw [← q12] at A12 st12
     have lo_b12 : h0.size ≤ b12 := Nat.le_trans K0.1 (Nat.le_of_eq q12.symm)
     have g_b12 : n0 ≤ b12 := Nat.le_trans Z0 lo_b12
     refine sp_ st12 ?_
     have V12 : Arv Z h12 b12 k12 .byte (4 : Int32) [(.int 0), (.int 0), (.int 0), (.int 0)] (.int 0) := (Arv.new A12 (by decide)).pad (pad_rep [] (.int 0) 4)
     show Go_ T12 (mkF mm_ 3 #[vr b, vi 0, vi 4, un, un, un] [(.ref b12)])
     refine sp_ (fun t_ k_ => XS.astoreN X12.here hx rfl (B_ dk148) rfl rfl (l' := #[vr b, vi 0, vi 4, vr b12, un, un]) rfl (XS.aloadN X12.here hx rfl (B_ dk149) rfl rfl (XS.iloadN X12.here hx rfl (B_ dk150) rfl  (XS.aloadN X12.here hx rfl (B_ dk151) rfl rfl (XS.iconst X12.here hx rfl (B_ dk152) (XS.iloadN X12.here hx rfl (B_ dk153) rfl  k_)))))) ?_
     have f14 : Arv Z h12 b kb .char (4 : Int32) [(.int c0), (.int c1), (.int c2), (.int c3)] (.int 0) := (pr0.ext E12)
     have O15 : Old Z n0 h12 := (O0.ext E12)
     obtain ⟨_, T13, Lc13, X13, hQ13, st13⟩ := own_cS X12 hx hZ hown (w_ hw 43 rfl) (w_ hw 44 rfl) (w_ hw 41 rfl) (w_ hw 45 rfl) (by decide) (backOf (W := 0) (rmC54_1 l Z a0 hw [] b b12 kb k12 c0 c1 c2 c3 h12 n0 O15 f14 V12 g_b12 (Nat.ne_of_lt (Nat.lt_of_lt_of_le pr0.lt (Nat.le_of_eq q12.symm))) hs0 hs1) hZ (w_ hw 45 rfl) (w_ hw 41 rfl) (by decide) (by decide)) (g := (mkF mm_ 9 #[vr b, vi 0, vi 4, vr b12, un, un] [(.int 4), (.int 0), (.ref b12), (.int 0), (.ref b)])) rfl hml.symm (argsL := [(.ref b), (.int 0), (.ref b12), (.int 0), (.int 4)]) (rest := []) (lenOf pd_4 rfl) rfl (Nat.le_of_eq rfl) (B_ dk154) rfl e12 (by decide) (by decide)
     obtain ⟨rfl, Nq13, Kc13⟩ := hQ13
     have N13 := Fr.app N0 Nq13
     refine jp_ st13 ?_
     show Go_ T13 (mkF mm_ 12 #[vr b, vi 0, vi 4, vr b12, un, un] [(.int 1)])
     refine sp_ (fun t_ k_ => XS.istore X13.here hx rfl (B_ dk155) rfl (l' := #[vr b, vi 0, vi 4, vr b12, vi 1, un]) rfl (XS.iload X13.here hx rfl (B_ dk156) rfl  (XS.iloadN X13.here hx rfl (B_ dk157) rfl  k_))) ?_
     show Go_ T13 (mkF mm_ 17 #[vr b, vi 0, vi 4, vr b12, vi 1, un] [(.int 4), (.int 1)])
     refine sp_ (fun t_ k_ => XS.icmpNo X13.here hx rfl (B_ dk158) rfl (feq (by decide : ¬ ((1 : Int32) = (4 : Int32)))).1 k_) ?_
     show Go_ T13 (mkF mm_ 20 #[vr b, vi 0, vi 4, vr b12, vi 1, un] [])
     refine sp_ (fun t_ k_ => XS.aloadN X13.here hx rfl (B_ dk159) rfl rfl (XS.iloadN X13.here hx rfl (B_ dk160) rfl  (XS.iloadN X13.here hx rfl (B_ dk161) rfl  k_))) ?_
     have f17 : Arv Z T13.heap b kb .char (4 : Int32) [(.int c0), (.int c1), (.int c2), (.int c3)] (.int 0) := (f14.keep Kc13 (ninS (Nat.ne_of_lt (Nat.lt_of_lt_of_le pr0.lt (Nat.le_of_eq q12.symm))) nin0))
     have O18 : Old Z n0 T13.heap := (O15.keep Kc13 (allS g_b12 all0))
     obtain ⟨_, T16, Lc16, X16, hQ16, st16⟩ := own_cS X13 hx hZ hown (w_ hw 84 rfl) (w_ hw 85 rfl) (w_ hw 41 rfl) (w_ hw 86 rfl) (by decide) (backOf (W := 0) (rmTb4 l Z a0 hw [] b kb c0 c1 c2 c3 T13.heap n0 O18 G_ f17) hZ (w_ hw 86 rfl) (w_ hw 41 rfl) (by decide) (by decide)) (g := (mkF mm_ 23 #[vr b, vi 0, vi 4, vr b12, vi 1, un] [(.int 4), (.int 0), (.ref b)])) rfl hml.symm (argsL := [(.ref b), (.int 0), (.int 4)]) (rest := []) (lenOf pd_5 rfl) rfl (Nat.le_of_eq rfl) (B_ dk162) rfl rfl (by decide) (by decide)
     obtain ⟨r_16, k_16, rfl, Nq16, Kc16, r16_0, r16_1⟩ := hQ16
     have N16 := Fr.app N13 Nq16
     have K19 : Keep h0 T13.heap [] := ((K0.ext E12).trans Kc13 (allS (Or.inr lo_b12) all0))
     have lo_r_16 : h0.size ≤ r_16 := Nat.le_trans K19.1 r16_0
     have g_r_16 : n0 ≤ r_16 := Nat.le_trans Z0 lo_r_16
     refine jp_ st16 ?_
     show Go_ T16 (mkF mm_ 26 #[vr b, vi 0, vi 4, vr b12, vi 1, un] [(.ref r_16)])
     refine sp_ (fun t_ k_ => XS.astore X16.here hx rfl (B_ dk163) rfl rfl (l' := #[vr b, vi 0, vi 4, vr b12, vi 1, vr r_16]) rfl (XS.aload X16.here hx rfl (B_ dk164) rfl rfl (XS.iload X16.here hx rfl (B_ dk165) rfl  k_))) ?_
     have O21 : Old Z n0 T16.heap := (O18.keep Kc16 all0)
     obtain ⟨_, T20, Lc20, X20, hQ20, st20⟩ := own_cS X16 hx hZ hown (w_ hw 100 rfl) (w_ hw 101 rfl) (w_ hw 41 rfl) (w_ hw 102 rfl) (by decide) (backOf (W := 0) (rmGt1 l Z a0 hw [] r_16 k_16 (8 : Int32) [(lb c0), (hb_ c0), (lb c1), (hb_ c1), (lb c2), (hb_ c2), (lb c3), (hb_ c3)] c1 T16.heap n0 O21 G_ r16_1 (by first | assumption | rfl | decide | (simp; done)) (by first | assumption | rfl | decide | (simp; done)) (by first | assumption | rfl | decide | (simp; done)) (by first | assumption | rfl | decide | (simp; done)) hc_c1) hZ (w_ hw 102 rfl) (w_ hw 41 rfl) (by decide) (by decide)) (g := (mkF mm_ 32 #[vr b, vi 0, vi 4, vr b12, vi 1, vr r_16] [(.int 1), (.ref r_16)])) rfl hml.symm (argsL := [(.ref r_16), (.int 1)]) (rest := []) (lenOf pd_6 rfl) rfl (Nat.le_of_eq rfl) (B_ dk166) rfl rfl (by decide) (by decide)
     obtain ⟨rfl, rfl, Eh20⟩ := hQ20
     have N20 := Fr.app N16 (Fr.nil n0)
     refine jp_ st20 ?_
     show Go_ T20 (mkF mm_ 35 #[vr b, vi 0, vi 4, vr b12, vi 1, vr r_16] [(.int c1)])
     refine sp_ (fun t_ k_ => XS.sipush X20.here hx rfl (B_ dk167) k_) ?_
     show Go_ T20 (mkF mm_ 38 #[vr b, vi 0, vi 4, vr b12, vi 1, vr r_16] [(.int 255), (.int c1)])
     refine sp_ (fun t_ k_ => XS.icmpYes X20.here hx rfl (pc0 := 38) (pc' := 54) rfl (B_ dk168) rfl (tlt hs1).2.2.1 (by decide) (by decide) k_) ?_
     show Go_ T20 (mkF mm_ 54 #[vr b, vi 0, vi 4, vr b12, vi 1, vr r_16] [])
     refine sp_ (fun t_ k_ => XS.aload X20.here hx rfl (B_ dk169) rfl rfl k_) ?_
     show Go_ T20 (mkF mm_ 56 #[vr b, vi 0, vi 4, vr b12, vi 1, vr r_16] [(.ref r_16)])
     have K22 : Keep h0 T16.heap [] := (K19.trans Kc16 all0)
     obtain ⟨fs, hr, hrun, hended, hW, hsame⟩ := X20.leave (v := some (.ref r_16)) (rN Bd.returns)
     refine ⟨_, _, ?_, hrun, hended, _, _, rfl, ?_, ⟨_, rfl⟩, hW, hsame.mono (by decide) (by decide)⟩
     · jvm_step X20.here [X20.here.top, hx, (B_ dk170), X20.method', Bd.returns, Value.isRef, FieldType.isReference]
       first | (intro acts; rw [hr _ acts rfl rfl rfl]) | rw [hr _ _ rfl rfl rfl]
       exact Steps.refl _
     · show QrmC34 Z b kb c0 c1 c2 c3 h0 n0 (some (.ref r_16)) T20.heap _
       rw [Eh20]
       exact ⟨r_16, k_16, rfl, N20, K22, lo_r_16, r16_1⟩
   · skip
     by_cases hs2 : (255 : Int32) < c2
     · skip
       refine sp_ (fun t_ k_ => XS.iloadN X0.here hx rfl (B_ dk146) rfl  k_) ?_
       obtain ⟨T23, h23, k23, X23, e23, E23, A23, st23⟩ := newP X0 hx hZ (w_ hw 22 rfl) e0 (g := (mkF mm_ 1 #[vr b, vi 0, vi 4, un, un, un] [(.int 4)])) rfl (B_ dk147) rfl (by decide) (cap := 4) (by decide) (by decide) (by decide) (by decide)
       obtain ⟨b23, q23⟩ : ∃ z, z = h0.size := ⟨_, rfl⟩
       rw [← q23] at A23 st23
       have lo_b23 : h0.size ≤ b23 := Nat.le_trans K0.1 (Nat.le_of_eq q23.symm)
       have g_b23 : n0 ≤ b23 := Nat.le_trans Z0 lo_b23
       refine sp_ st23 ?_
       have V23 : Arv Z h23 b23 k23 .byte (4 : Int32) [(.int 0), (.int 0), (.int 0), (.int 0)] (.int 0) := (Arv.new A23 (by decide)).pad (pad_rep [] (.int 0) 4)
       show Go_ T23 (mkF mm_ 3 #[vr b, vi 0, vi 4, un, un, un] [(.ref b23)])
       refine sp_ (fun t_ k_ => XS.astoreN X23.here hx rfl (B_ dk148) rfl rfl (l' := #[vr b, vi 0, vi 4, vr b23, un, un]) rfl (XS.aloadN X23.here hx rfl (B_ dk149) rfl rfl (XS.iloadN X23.here hx rfl (B_ dk150) rfl  (XS.aloadN X23.here hx rfl (B_ dk151) rfl rfl (XS.iconst X23.here hx rfl (B_ dk152) (XS.iloadN X23.here hx rfl (B_ dk153) rfl  k_)))))) ?_
       have f25 : Arv Z h23 b kb .char (4 : Int32) [(.int c0), (.int c1), (.int c2), (.int c3)] (.int 0) := (pr0.ext E23)
       have O26 : Old Z n0 h23 := (O0.ext E23)
       obtain ⟨_, T24, Lc24, X24, hQ24, st24⟩ := own_cS X23 hx hZ hown (w_ hw 43 rfl) (w_ hw 44 rfl) (w_ hw 41 rfl) (w_ hw 45 rfl) (by decide) (backOf (W := 0) (rmC54_2 l Z a0 hw [] b b23 kb k23 c0 c1 c2 c3 h23 n0 O26 f25 V23 g_b23 (Nat.ne_of_lt (Nat.lt_of_lt_of_le pr0.lt (Nat.le_of_eq q23.symm))) hs0 hs1 hs2) hZ (w_ hw 45 rfl) (w_ hw 41 rfl) (by decide) (by decide)) (g := (mkF mm_ 9 #[vr b, vi 0, vi 4, vr b23, un, un] [(.int 4), (.int 0), (.ref b23), (.int 0), (.ref b)])) rfl hml.symm (argsL := [(.ref b), (.int 0), (.ref b23), (.int 0), (.int 4)]) (rest := []) (lenOf pd_4 rfl) rfl (Nat.le_of_eq rfl) (B_ dk154) rfl e23 (by decide) (by decide)
       obtain ⟨rfl, Nq24, Kc24⟩ := hQ24
       have N24 := Fr.app N0 Nq24
       refine jp_ st24 ?_
       show Go_ T24 (mkF mm_ 12 #[vr b, vi 0, vi 4, vr b23, un, un] [(.int 2)])
       refine sp_ (fun t_ k_ => XS.istore X24.here hx rfl (B_ dk155) rfl (l' := #[vr b, vi 0, vi 4, vr b23, vi 2, un]) rfl (XS.iload X24.here hx rfl (B_ dk156) rfl  (XS.iloadN X24.here hx rfl (B_ dk157) rfl  k_))) ?_
       show Go_ T24 (mkF mm_ 17 #[vr b, vi 0, vi 4, vr b23, vi 2, un] [(.int 4), (.int 2)])
       refine sp_ (fun t_ k_ => XS.icmpNo X24.here hx rfl (B_ dk158) rfl (feq (by decide : ¬ ((2 : Int32) = (4 : Int32)))).1 k_) ?_
       show Go_ T24 (mkF mm_ 20 #[vr b, vi 0, vi 4, vr b23, vi 2, un] [])
       refine sp_ (fun t_ k_ => XS.aloadN X24.here hx rfl (B_ dk159) rfl rfl (XS.iloadN X24.here hx rfl (B_ dk160) rfl  (XS.iloadN X24.here hx rfl (B_ dk161) rfl  k_))) ?_
       have f28 : Arv Z T24.heap b kb .char (4 : Int32) [(.int c0), (.int c1), (.int c2), (.int c3)] (.int 0) := (f25.keep Kc24 (ninS (Nat.ne_of_lt (Nat.lt_of_lt_of_le pr0.lt (Nat.le_of_eq q23.symm))) nin0))
       have O29 : Old Z n0 T24.heap := (O26.keep Kc24 (allS g_b23 all0))
       obtain ⟨_, T27, Lc27, X27, hQ27, st27⟩ := own_cS X24 hx hZ hown (w_ hw 84 rfl) (w_ hw 85 rfl) (w_ hw 41 rfl) (w_ hw 86 rfl) (by decide) (backOf (W := 0) (rmTb4 l Z a0 hw [] b kb c0 c1 c2 c3 T24.heap n0 O29 G_ f28) hZ (w_ hw 86 rfl) (w_ hw 41 rfl) (by decide) (by decide)) (g := (mkF mm_ 23 #[vr b, vi 0, vi 4, vr b23, vi 2, un] [(.int 4), (.int 0), (.ref b)])) rfl hml.symm (argsL := [(.ref b), (.int 0), (.int 4)]) (rest := []) (lenOf pd_5 rfl) rfl (Nat.le_of_eq rfl) (B_ dk162) rfl rfl (by decide) (by decide)
       obtain ⟨r_27, k_27, rfl, Nq27, Kc27, r27_0, r27_1⟩ := hQ27
       have N27 := Fr.app N24 Nq27
       have K30 : Keep h0 T24.heap [] := ((K0.ext E23).trans Kc24 (allS (Or.inr lo_b23) all0))
       have lo_r_27 : h0.size ≤ r_27 := Nat.le_trans K30.1 r27_0
       have g_r_27 : n0 ≤ r_27 := Nat.le_trans Z0 lo_r_27
       refine jp_ st27 ?_
       show Go_ T27 (mkF mm_ 26 #[vr b, vi 0, vi 4, vr b23, vi 2, un] [(.ref r_27)])
       refine sp_ (fun t_ k_ => XS.astore X27.here hx rfl (B_ dk163) rfl rfl (l' := #[vr b, vi 0, vi 4, vr b23, vi 2, vr r_27]) rfl (XS.aload X27.here hx rfl (B_ dk164) rfl rfl (XS.iload X27.here hx rfl (B_ dk165) rfl  k_))) ?_
       have O32 : Old Z n0 T27.heap := (O29.keep Kc27 all0)
       obtain ⟨_, T31, Lc31, X31, hQ31, st31⟩ := own_cS X27 hx hZ hown (w_ hw 100 rfl) (w_ hw 101 rfl) (w_ hw 41 rfl) (w_ hw 102 rfl) (by decide) (backOf (W := 0) (rmGt2 l Z a0 hw [] r_27 k_27 (8 : Int32) [(lb c0), (hb_ c0), (lb c1), (hb_ c1), (lb c2), (hb_ c2), (lb c3), (hb_ c3)] c2 T27.heap n0 O32 G_ r27_1 (by first | assumption | rfl | decide | (simp; done)) (by first | assumption | rfl | decide | (simp; done)) (by first | assumption | rfl | decide | (simp; done)) (by first | assumption | rfl | decide | (simp; done)) hc_c2) hZ (w_ hw 102 rfl) (w_ hw 41 rfl) (by decide) (by decide)) (g := (mkF mm_ 32 #[vr b, vi 0, vi 4, vr b23, vi 2, vr r_27] [(.int 2), (.ref r_27)])) rfl hml.symm (argsL := [(.ref r_27), (.int 2)]) (rest := []) (lenOf pd_6 rfl) rfl (Nat.le_of_eq rfl) (B_ dk166) rfl rfl (by decide) (by decide)
       obtain ⟨rfl, rfl, Eh31⟩ := hQ31
       have N31 := Fr.app N27 (Fr.nil n0)
       refine jp_ st31 ?_
       show Go_ T31 (mkF mm_ 35 #[vr b, vi 0, vi 4, vr b23, vi 2, vr r_27] [(.int c2)])
       refine sp_ (fun t_ k_ => XS.sipush X31.here hx rfl (B_ dk167) k_) ?_
       show Go_ T31 (mkF mm_ 38 #[vr b, vi 0, vi 4, vr b23, vi 2, vr r_27] [(.int 255), (.int c2)])
       refine sp_ (fun t_ k_ => XS.icmpYes X31.here hx rfl (pc0 := 38) (pc' := 54) rfl (B_ dk168) rfl (tlt hs2).2.2.1 (by decide) (by decide) k_) ?_
       show Go_ T31 (mkF mm_ 54 #[vr b, vi 0, vi 4, vr b23, vi 2, vr r_27] [])
       refine sp_ (fun t_ k_ => XS.aload X31.here hx rfl (B_ dk169) rfl rfl k_) ?_
       show Go_ T31 (mkF mm_ 56 #[vr b, vi 0, vi 4, vr b23, vi 2, vr r_27] [(.ref r_27)])
       have K33 : Keep h0 T27.heap [] := (K30.trans Kc27 all0)
       obtain ⟨fs, hr, hrun, hended, hW, hsame⟩ := X31.leave (v := some (.ref r_27)) (rN Bd.returns)
       refine ⟨_, _, ?_, hrun, hended, _, _, rfl, ?_, ⟨_, rfl⟩, hW, hsame.mono (by decide) (by decide)⟩
       · jvm_step X31.here [X31.here.top, hx, (B_ dk170), X31.method', Bd.returns, Value.isRef, FieldType.isReference]
         first | (intro acts; rw [hr _ acts rfl rfl rfl]) | rw [hr _ _ rfl rfl rfl]
         exact Steps.refl _
       · show QrmC34 Z b kb c0 c1 c2 c3 h0 n0 (some (.ref r_27)) T31.heap _
         rw [Eh31]
         exact ⟨r_27, k_27, rfl, N31, K33, lo_r_27, r27_1⟩
     · skip
       by_cases hs3 : (255 : Int32) < c3
       · skip
         refine sp_ (fun t_ k_ => XS.iloadN X0.here hx rfl (B_ dk146) rfl  k_) ?_
         obtain ⟨T34, h34, k34, X34, e34, E34, A34, st34⟩ := newP X0 hx hZ (w_ hw 22 rfl) e0 (g := (mkF mm_ 1 #[vr b, vi 0, vi 4, un, un, un] [(.int 4)])) rfl (B_ dk147) rfl (by decide) (cap := 4) (by decide) (by decide) (by decide) (by decide)
         obtain ⟨b34, q34⟩ : ∃ z, z = h0.size := ⟨_, rfl⟩
         rw [← q34] at A34 st34
         have lo_b34 : h0.size ≤ b34 := Nat.le_trans K0.1 (Nat.le_of_eq q34.symm)
         have g_b34 : n0 ≤ b34 := Nat.le_trans Z0 lo_b34
         refine sp_ st34 ?_
         have V34 : Arv Z h34 b34 k34 .byte (4 : Int32) [(.int 0), (.int 0), (.int 0), (.int 0)] (.int 0) := (Arv.new A34 (by decide)).pad (pad_rep [] (.int 0) 4)
         show Go_ T34 (mkF mm_ 3 #[vr b, vi 0, vi 4, un, un, un] [(.ref b34)])
         refine sp_ (fun t_ k_ => XS.astoreN X34.here hx rfl (B_ dk148) rfl rfl (l' := #[vr b, vi 0, vi 4, vr b34, un, un]) rfl (XS.aloadN X34.here hx rfl (B_ dk149) rfl rfl (XS.iloadN X34.here hx rfl (B_ dk150) rfl  (XS.aloadN X34.here hx rfl (B_ dk151) rfl rfl (XS.iconst X34.here hx rfl (B_ dk152) (XS.iloadN X34.here hx rfl (B_ dk153) rfl  k_)))))) ?_
         have f36 : Arv Z h34 b kb .char (4 : Int32) [(.int c0), (.int c1), (.int c2), (.int c3)] (.int 0) := (pr0.ext E34)
         have O37 : Old Z n0 h34 := (O0.ext E34)
         obtain ⟨_, T35, Lc35, X35, hQ35, st35⟩ := own_cS X34 hx hZ hown (w_ hw 43 rfl) (w_ hw 44 rfl) (w_ hw 41 rfl) (w_ hw 45 rfl) (by decide) (backOf (W := 0) (rmC54_3 l Z a0 hw [] b b34 kb k34 c0 c1 c2 c3 h34 n0 O37 f36 V34 g_b34 (Nat.ne_of_lt (Nat.lt_of_lt_of_le pr0.lt (Nat.le_of_eq q34.symm))) hs0 hs1 hs2 hs3) hZ (w_ hw 45 rfl) (w_ hw 41 rfl) (by decide) (by decide)) (g := (mkF mm_ 9 #[vr b, vi 0, vi 4, vr b34, un, un] [(.int 4), (.int 0), (.ref b34), (.int 0), (.ref b)])) rfl hml.symm (argsL := [(.ref b), (.int 0), (.ref b34), (.int 0), (.int 4)]) (rest := []) (lenOf pd_4 rfl) rfl (Nat.le_of_eq rfl) (B_ dk154) rfl e34 (by decide) (by decide)
         obtain ⟨rfl, Nq35, Kc35⟩ := hQ35
         have N35 := Fr.app N0 Nq35
         refine jp_ st35 ?_
         show Go_ T35 (mkF mm_ 12 #[vr b, vi 0, vi 4, vr b34, un, un] [(.int 3)])
         refine sp_ (fun t_ k_ => XS.istore X35.here hx rfl (B_ dk155) rfl (l' := #[vr b, vi 0, vi 4, vr b34, vi 3, un]) rfl (XS.iload X35.here hx rfl (B_ dk156) rfl  (XS.iloadN X35.here hx rfl (B_ dk157) rfl  k_))) ?_
         show Go_ T35 (mkF mm_ 17 #[vr b, vi 0, vi 4, vr b34, vi 3, un] [(.int 4), (.int 3)])
         refine sp_ (fun t_ k_ => XS.icmpNo X35.here hx rfl (B_ dk158) rfl (feq (by decide : ¬ ((3 : Int32) = (4 : Int32)))).1 k_) ?_
         show Go_ T35 (mkF mm_ 20 #[vr b, vi 0, vi 4, vr b34, vi 3, un] [])
         refine sp_ (fun t_ k_ => XS.aloadN X35.here hx rfl (B_ dk159) rfl rfl (XS.iloadN X35.here hx rfl (B_ dk160) rfl  (XS.iloadN X35.here hx rfl (B_ dk161) rfl  k_))) ?_
         have f39 : Arv Z T35.heap b kb .char (4 : Int32) [(.int c0), (.int c1), (.int c2), (.int c3)] (.int 0) := (f36.keep Kc35 (ninS (Nat.ne_of_lt (Nat.lt_of_lt_of_le pr0.lt (Nat.le_of_eq q34.symm))) nin0))
         have O40 : Old Z n0 T35.heap := (O37.keep Kc35 (allS g_b34 all0))
         obtain ⟨_, T38, Lc38, X38, hQ38, st38⟩ := own_cS X35 hx hZ hown (w_ hw 84 rfl) (w_ hw 85 rfl) (w_ hw 41 rfl) (w_ hw 86 rfl) (by decide) (backOf (W := 0) (rmTb4 l Z a0 hw [] b kb c0 c1 c2 c3 T35.heap n0 O40 G_ f39) hZ (w_ hw 86 rfl) (w_ hw 41 rfl) (by decide) (by decide)) (g := (mkF mm_ 23 #[vr b, vi 0, vi 4, vr b34, vi 3, un] [(.int 4), (.int 0), (.ref b)])) rfl hml.symm (argsL := [(.ref b), (.int 0), (.int 4)]) (rest := []) (lenOf pd_5 rfl) rfl (Nat.le_of_eq rfl) (B_ dk162) rfl rfl (by decide) (by decide)
         obtain ⟨r_38, k_38, rfl, Nq38, Kc38, r38_0, r38_1⟩ := hQ38
         have N38 := Fr.app N35 Nq38
         have K41 : Keep h0 T35.heap [] := ((K0.ext E34).trans Kc35 (allS (Or.inr lo_b34) all0))
         have lo_r_38 : h0.size ≤ r_38 := Nat.le_trans K41.1 r38_0
         have g_r_38 : n0 ≤ r_38 := Nat.le_trans Z0 lo_r_38
         refine jp_ st38 ?_
         show Go_ T38 (mkF mm_ 26 #[vr b, vi 0, vi 4, vr b34, vi 3, un] [(.ref r_38)])
         refine sp_ (fun t_ k_ => XS.astore X38.here hx rfl (B_ dk163) rfl rfl (l' := #[vr b, vi 0, vi 4, vr b34, vi 3, vr r_38]) rfl (XS.aload X38.here hx rfl (B_ dk164) rfl rfl (XS.iload X38.here hx rfl (B_ dk165) rfl  k_))) ?_
         have O43 : Old Z n0 T38.heap := (O40.keep Kc38 all0)
         obtain ⟨_, T42, Lc42, X42, hQ42, st42⟩ := own_cS X38 hx hZ hown (w_ hw 100 rfl) (w_ hw 101 rfl) (w_ hw 41 rfl) (w_ hw 102 rfl) (by decide) (backOf (W := 0) (rmGt3 l Z a0 hw [] r_38 k_38 (8 : Int32) [(lb c0), (hb_ c0), (lb c1), (hb_ c1), (lb c2), (hb_ c2), (lb c3), (hb_ c3)] c3 T38.heap n0 O43 G_ r38_1 (by first | assumption | rfl | decide | (simp; done)) (by first | assumption | rfl | decide | (simp; done)) (by first | assumption | rfl | decide | (simp; done)) (by first | assumption | rfl | decide | (simp; done)) hc_c3) hZ (w_ hw 102 rfl) (w_ hw 41 rfl) (by decide) (by decide)) (g := (mkF mm_ 32 #[vr b, vi 0, vi 4, vr b34, vi 3, vr r_38] [(.int 3), (.ref r_38)])) rfl hml.symm (argsL := [(.ref r_38), (.int 3)]) (rest := []) (lenOf pd_6 rfl) rfl (Nat.le_of_eq rfl) (B_ dk166) rfl rfl (by decide) (by decide)
         obtain ⟨rfl, rfl, Eh42⟩ := hQ42
         have N42 := Fr.app N38 (Fr.nil n0)
         refine jp_ st42 ?_
         show Go_ T42 (mkF mm_ 35 #[vr b, vi 0, vi 4, vr b34, vi 3, vr r_38] [(.int c3)])
         refine sp_ (fun t_ k_ => XS.sipush X42.here hx rfl (B_ dk167) k_) ?_
         show Go_ T42 (mkF mm_ 38 #[vr b, vi 0, vi 4, vr b34, vi 3, vr r_38] [(.int 255), (.int c3)])
         refine sp_ (fun t_ k_ => XS.icmpYes X42.here hx rfl (pc0 := 38) (pc' := 54) rfl (B_ dk168) rfl (tlt hs3).2.2.1 (by decide) (by decide) k_) ?_
         show Go_ T42 (mkF mm_ 54 #[vr b, vi 0, vi 4, vr b34, vi 3, vr r_38] [])
         refine sp_ (fun t_ k_ => XS.aload X42.here hx rfl (B_ dk169) rfl rfl k_) ?_
         show Go_ T42 (mkF mm_ 56 #[vr b, vi 0, vi 4, vr b34, vi 3, vr r_38] [(.ref r_38)])
         have K44 : Keep h0 T38.heap [] := (K41.trans Kc38 all0)
         obtain ⟨fs, hr, hrun, hended, hW, hsame⟩ := X42.leave (v := some (.ref r_38)) (rN Bd.returns)
         refine ⟨_, _, ?_, hrun, hended, _, _, rfl, ?_, ⟨_, rfl⟩, hW, hsame.mono (by decide) (by decide)⟩
         · jvm_step X42.here [X42.here.top, hx, (B_ dk170), X42.method', Bd.returns, Value.isRef, FieldType.isReference]
           first | (intro acts; rw [hr _ acts rfl rfl rfl]) | rw [hr _ _ rfl rfl rfl]
           exact Steps.refl _
         · show QrmC34 Z b kb c0 c1 c2 c3 h0 n0 (some (.ref r_38)) T42.heap _
           rw [Eh42]
           exact ⟨r_38, k_38, rfl, N42, K44, lo_r_38, r38_1⟩
       · skip
         exact ((hW.elim (fun q0_ => (hs0 q0_)) (fun r0_ => (r0_.elim (fun q1_ => (hs1 q1_)) (fun r1_ => (r1_.elim (fun q2_ => (hs2 q2_)) (fun r2_ => (hs3 r2_))))))) : False).elim
theorem ef_rmCd4 (mm_ : MethodId) (t : Addr) : entryFrame mm_ #[(.ref t), (.int 4)] 2 = (mkF mm_ 0 #[vr t, vi 4] []) := by first | (simp [entryFrame, mkF, argsToLocals, Value.category]; done) | rfl
def QrmCd4 (Z : State) (t : Addr) (k : ClassId) (vs : List Value) (h0 : Heap) (n0 : Nat) (vv_ : Option Value) (hh_ : Heap) (LL_ : List Loc) : Prop := (vv_ = some (.int 1)) ∧ (LL_ = []) ∧ (hh_ = h0)
theorem rmCd4 (l : Launch) (Z : State) (a0 : Array Value) (hw : own_Hw a0 Z) (ws : List Jvm.Cond) (t : Addr) (k : ClassId) (vs : List Value) (h0 : Heap) (n0 : Nat) (O0 : Old Z n0 h0) (pr0 : Arv Z h0 t k .byte (8 : Int32) vs (.int 0)) :
 own_MF l Z ym10 J12 2 (some .byte) ws (rm_ 0 0 0 0) #[(.ref t), (.int 4)] h0 (QrmCd4 Z t k vs h0 n0) := by
 refine own_met (plainFor_of_name pn_java_lang_StringUTF16) (fun m_ => ef_rmCd4 m_ t) fun pp_ ee_ ss_ mm_ bb_ me_ cc_ s₁ Bd hx hby hml hown hZ hh X0 e0 => ?_
 have B_ {q_ : Nat} {r_ : _} (h_ : decode _ q_ = r_) := hb hby h_
 have hown : ss_.vm.findClass sc1 = some mm_.cls := hown
 have N0 := Fr.nil n0
 have Z0 : n0 ≤ h0.size := by have q := O0.2.1; rw [O0.1] at q; exact q
 have K0 : Keep h0 h0 [] := Keep.refl _ _
 show Go_ s₁ (mkF mm_ 0 #[vr t, vi 4] [])
 refine sp_ (fun t_ k_ => XS.iloadN X0.here hx rfl (B_ dk171) rfl  (XS.aloadN X0.here hx rfl (B_ dk172) rfl rfl k_)) ?_
 obtain ⟨cl1, Ar1, -, S1, M1, -, -⟩ := id pr0
 refine sp_ (fun t_ k_ => X0.arraylength hx (by rw [e0]; exact Ar1.1) (State.isArrayOf_alike hZ.alike Ar1.2.1) (g := (mkF mm_ 2 #[vr t, vi 4] [(.ref t), (.int 4)])) rfl rfl (B_ dk173) t_ (by rw [len_of S1 M1]; exact k_)) ?_
 show Go_ s₁ (mkF mm_ 3 #[vr t, vi 4] [(.int 8), (.int 4)])
 refine sp_ (fun t_ k_ => XS.isub X0.here hx rfl (B_ dk174) rfl (XS.bipush X0.here hx rfl (B_ dk175) (XS.iushr X0.here hx rfl (B_ dk176) rfl (XS.i2b X0.here hx rfl (B_ dk177) rfl k_)))) ?_
 show Go_ s₁ (mkF mm_ 8 #[vr t, vi 4] [(.int ((1 : Int32).toInt8.toInt32))])
 obtain ⟨fs, hr, hrun, hended, hW, hsame⟩ := X0.leave (v := some (.int ((1 : Int32).toInt8.toInt32))) (rN Bd.returns)
 refine ⟨_, _, ?_, hrun, hended, _, _, rfl, ?_, ⟨_, rfl⟩, hW, hsame.mono (by decide) (by decide)⟩
 · exact retN X0 hx (t := .byte) Bd.returns (by simp) (B_ dk178) hr
 · show QrmCd4 Z t k vs h0 n0 (some (.int ((1 : Int32).toInt8.toInt32))) s₁.heap _
   rw [e0]
   exact ⟨rfl, rfl, rfl⟩
theorem ef_rmI44 (mm_ : MethodId) (x : Addr) (b : Addr) : entryFrame mm_ #[(.ref x), (.ref b), (.int 0), (.int 4), .null] 6 = (mkF mm_ 0 #[vr x, vr b, vi 0, vi 4, .val .null, un] []) := by first | (simp [entryFrame, mkF, argsToLocals, Value.category]; done) | rfl
def QrmI44 (Z : State) (x : Addr) (b : Addr) (kb : ClassId) (c0 : Int32) (c1 : Int32) (c2 : Int32) (c3 : Int32) (h0 : Heap) (n0 : Nat) (vv_ : Option Value) (hh_ : Heap) (LL_ : List Loc) : Prop := ∃ (r : Addr), ∃ (k : ClassId), (vv_ = none) ∧ (Fr n0 LL_) ∧ (Keep h0 hh_ [x]) ∧ (h0.size ≤ r) ∧ (Fld Z hh_ x sc0 "value" "[B" (.ref r)) ∧ (Fld Z hh_ x sc0 "coder" "B" (.int 1)) ∧ (Arv Z hh_ r k .byte (8 : Int32) [(lb c0), (hb_ c0), (lb c1), (hb_ c1), (lb c2), (hb_ c2), (lb c3), (hb_ c3)] (.int 0))
theorem rmI44 (l : Launch) (Z : State) (a0 : Array Value) (hw : own_Hw a0 Z) (ws : List Jvm.Cond) (x : Addr) (b : Addr) (kb : ClassId) (c0 : Int32) (c1 : Int32) (c2 : Int32) (c3 : Int32) {zc : Int32} {fm : Value} (h0 : Heap) (n0 : Nat) (O0 : Old Z n0 h0) (G_ : own_St Z zc fm) (pr0 : Exa Z h0 x sc0) (pr1 : Fld Z h0 x sc0 "value" "[B" .null) (pr2 : Fld Z h0 x sc0 "coder" "B" (.int 0)) (g_x : n0 ≤ x) (pr4 : Arv Z h0 b kb .char (4 : Int32) [(.int c0), (.int c1), (.int c2), (.int c3)] (.int 0)) (hc_c0 : ¬ c0 < (0 : Int32) ∧ ¬ (65535 : Int32) < c0) (hc_c1 : ¬ c1 < (0 : Int32) ∧ ¬ (65535 : Int32) < c1) (hc_c2 : ¬ c2 < (0 : Int32) ∧ ¬ (65535 : Int32) < c2) (hc_c3 : ¬ c3 < (0 : Int32) ∧ ¬ (65535 : Int32) < c3) (hW : (255 : Int32) < c0 ∨ (255 : Int32) < c1 ∨ (255 : Int32) < c2 ∨ (255 : Int32) < c3) :
 own_MF l Z ym3 J0 6 none ws (rm_ 4 2 12 57) #[(.ref x), (.ref b), (.int 0), (.int 4), .null] h0 (QrmI44 Z x b kb c0 c1 c2 c3 h0 n0) := by
 refine own_met (plainFor_of_name pn_java_lang_String) (fun m_ => ef_rmI44 m_ x b) fun pp_ ee_ ss_ mm_ bb_ me_ cc_ s₁ Bd hx hby hml hown hZ hh X0 e0 => ?_
 have B_ {q_ : Nat} {r_ : _} (h_ : decode _ q_ = r_) := hb hby h_
 have hown : ss_.vm.findClass sc0 = some mm_.cls := hown
 have hnm := (name_of_methodNamed Bd.named Bd.method).1
 have N0 := Fr.nil n0
 have Z0 : n0 ≤ h0.size := by have q := O0.2.1; rw [O0.1] at q; exact q
 have K0 : Keep h0 h0 [x] := Keep.refl _ _
 obtain ⟨G_cs, G_cs0, G_cw, G_h_java_lang_String_7, G_fm, G_fr, G_hb, G_lb, G_ad⟩ := id G_
 show Go_ s₁ (mkF mm_ 0 #[vr x, vr b, vi 0, vi 4, .val .null, un] [])
 refine sp_ (fun t_ k_ => XS.aloadN X0.here hx rfl (B_ dk0) rfl rfl k_) ?_
 obtain ⟨T1, X1, e1, st1⟩ := initO X0 hx hZ hown (w_ hw 18 rfl) (w_ hw 19 rfl) (w_ hw 20 rfl) e0 (g := (mkF mm_ 1 #[vr x, vr b, vi 0, vi 4, .val .null, un] [(.ref x)])) rfl hml.symm rfl (B_ dk1) (by decide) (W := 0) (Nat.le_of_eq rfl) (by decide)
 refine sp_ st1 ?_
 show Go_ T1 (mkF mm_ 4 #[vr x, vr b, vi 0, vi 4, .val .null, un] [])
 refine sp_ (fun t_ k_ => XS.iloadN X1.here hx rfl (B_ dk2) rfl  k_) ?_
 show Go_ T1 (mkF mm_ 5 #[vr x, vr b, vi 0, vi 4, .val .null, un] [(.int 4)])
 refine sp_ (fun t_ k_ => XS.ifYes X1.here hx rfl (pc0 := 5) (pc' := 27) rfl (B_ dk3) rfl ((if0 _ _).trans (feq (by decide : ¬ ((4 : Int32) = (0 : Int32)))).2) (by decide) (by decide) k_) ?_
 obtain ⟨T2, X2, e2, st2⟩ := getS2 X1 hx hZ hown (host := "") (Or.inl (w_ hw 38 rfl)) Via.refl e1 (G_cs.ext O0.2) (g := (mkF mm_ 27 #[vr x, vr b, vi 0, vi 4, .val .null, un] [])) rfl (B_ dk179)
 refine sp_ st2 ?_
 show Go_ T2 (mkF mm_ 30 #[vr x, vr b, vi 0, vi 4, .val .null, un] [(.int zc)])
 refine sp_ (fun t_ k_ => XS.ifNo X2.here hx rfl (B_ dk180) rfl ((if0 _ _).trans (feq G_cs0).1) k_) ?_
 show Go_ T2 (mkF mm_ 33 #[vr x, vr b, vi 0, vi 4, .val .null, un] [])
 refine sp_ (fun t_ k_ => XS.aloadN X2.here hx rfl (B_ dk181) rfl rfl (XS.iloadN X2.here hx rfl (B_ dk182) rfl  (XS.iloadN X2.here hx rfl (B_ dk183) rfl  k_))) ?_
 obtain ⟨_, T3, Lc3, X3, hQ3, st3⟩ := own_cS X2 hx hZ hown (w_ hw 39 rfl) (w_ hw 40 rfl) (w_ hw 41 rfl) (w_ hw 42 rfl) (by decide) (backOf (W := 0) (rmC34 l Z a0 hw [] b kb c0 c1 c2 c3 h0 n0 O0 G_ pr4 hc_c0 hc_c1 hc_c2 hc_c3 hW) hZ (w_ hw 42 rfl) (w_ hw 41 rfl) (by decide) (by decide)) (g := (mkF mm_ 36 #[vr x, vr b, vi 0, vi 4, .val .null, un] [(.int 4), (.int 0), (.ref b)])) rfl hml.symm (argsL := [(.ref b), (.int 0), (.int 4)]) (rest := []) (lenOf pd_5 rfl) rfl (Nat.le_of_eq rfl) (B_ dk184) rfl e2 (by decide) (by decide)
 obtain ⟨r_3, k_3, rfl, Nq3, Kc3, r3_0, r3_1⟩ := hQ3
 have N3 := Fr.app N0 Nq3
 have lo_r_3 : h0.size ≤ r_3 := Nat.le_trans K0.1 r3_0
 have g_r_3 : n0 ≤ r_3 := Nat.le_trans Z0 lo_r_3
 refine jp_ st3 ?_
 show Go_ T3 (mkF mm_ 39 #[vr x, vr b, vi 0, vi 4, .val .null, un] [(.ref r_3)])
 refine sp_ (fun t_ k_ => XS.astore X3.here hx rfl (B_ dk185) rfl rfl (l' := #[vr x, vr b, vi 0, vi 4, .val .null, vr r_3]) rfl (XS.aloadN X3.here hx rfl (B_ dk186) rfl rfl (XS.aload X3.here hx rfl (B_ dk187) rfl rfl (XS.iloadN X3.here hx rfl (B_ dk188) rfl  k_)))) ?_
 have O5 : Old Z n0 T3.heap := (O0.keep Kc3 all0)
 obtain ⟨_, T4, Lc4, X4, hQ4, st4⟩ := own_cS X3 hx hZ hown (w_ hw 46 rfl) (w_ hw 47 rfl) (w_ hw 41 rfl) (w_ hw 48 rfl) (by decide) (backOf (W := 1) (rmCd4 l Z a0 hw [] r_3 k_3 [(lb c0), (hb_ c0), (lb c1), (hb_ c1), (lb c2), (hb_ c2), (lb c3), (hb_ c3)] T3.heap n0 O5 r3_1) hZ (w_ hw 48 rfl) (w_ hw 41 rfl) (by decide) (by decide)) (g := (mkF mm_ 45 #[vr x, vr b, vi 0, vi 4, .val .null, vr r_3] [(.int 4), (.ref r_3), (.ref x)])) rfl hml.symm (argsL := [(.ref r_3), (.int 4)]) (rest := [(.ref x)]) (lenOf pd_7 rfl) rfl (Nat.le_of_eq rfl) (B_ dk189) rfl rfl (by decide) (by decide)
 obtain ⟨rfl, rfl, Eh4⟩ := hQ4
 have N4 := Fr.app N3 (Fr.nil n0)
 refine jp_ st4 ?_
 have f6 : Fld Z T3.heap x sc0 "coder" "B" (.int 0) := (pr2.keep Kc3 nin0)
 have f7 : Exa Z T3.heap x sc0 := (pr0.keep Kc3)
 obtain ⟨T8, h8, X8, e8, W8, st8⟩ := putFN X4 hx hZ hown (w_ hw 28 rfl) Via.refl Eh4 f6 f7 (Or.inr ⟨(w_ hw 24 rfl), rfl, hnm⟩) (w_ hw 8 rfl) (ty := .byte) (v' := (.int 1)) (by decide) rfl rfl (g := (mkF mm_ 48 #[vr x, vr b, vi 0, vi 4, .val .null, vr r_3] [(.int 1), (.ref x)])) rfl rfl (B_ dk190)
 have F8 := f6.same W8
 have N8 := Fr.snoc X8 N4 g_x
 refine sp_ st8 ?_
 show Go_ T8 (mkF mm_ 51 #[vr x, vr b, vi 0, vi 4, .val .null, vr r_3] [])
 refine sp_ (fun t_ k_ => XS.aloadN X8.here hx rfl (B_ dk191) rfl rfl (XS.aload X8.here hx rfl (B_ dk192) rfl rfl k_)) ?_
 have f9 : Fld Z h8 x sc0 "value" "[B" .null := ((pr1.keep Kc3 nin0).other W8 (Or.inr (slot_ne (Or.inr (w_ hw 23 rfl)) (Or.inr (w_ hw 24 rfl)) (by decide) (t := (.array .byte)) (t' := .byte) (by decide) (by decide))))
 have f10 : Exa Z h8 x sc0 := (f7.wr W8)
 obtain ⟨T11, h11, X11, e11, W11, st11⟩ := putF X8 hx hZ hown (host := "") (Or.inl (w_ hw 27 rfl)) Via.refl e8 f9 f10 (Or.inr ⟨(w_ hw 23 rfl), rfl, hnm⟩) (w_ hw 8 rfl) (ty := (.array .byte)) (by decide) rfl rfl (g := (mkF mm_ 54 #[vr x, vr b, vi 0, vi 4, .val .null, vr r_3] [(.ref r_3), (.ref x)])) rfl rfl (B_ dk193)
 have F11 := f9.same W11
 have N11 := Fr.snoc X11 N8 g_x
 refine sp_ st11 ?_
 show Go_ T11 (mkF mm_ 57 #[vr x, vr b, vi 0, vi 4, .val .null, vr r_3] [])
 have K12 : Keep h0 h11 [x] := (((K0.trans Kc3 all0).wr W8 (Or.inl (List.mem_of_getElem? (i := 0) rfl))).wr W11 (Or.inl (List.mem_of_getElem? (i := 0) rfl)))
 have f13 : Fld Z h11 x sc0 "coder" "B" (.int 1) := (F8.other W11 (Or.inr (slot_ne (Or.inr (w_ hw 24 rfl)) (Or.inr (w_ hw 23 rfl)) (by decide) (t := .byte) (t' := (.array .byte)) (by decide) (by decide))))
 have f14 : Arv Z h11 r_3 k_3 .byte (8 : Int32) [(lb c0), (hb_ c0), (lb c1), (hb_ c1), (lb c2), (hb_ c2), (lb c3), (hb_ c3)] (.int 0) := ((r3_1.other W8 (Ne.symm (Nat.ne_of_lt (Nat.lt_of_lt_of_le pr0.lt r3_0)))).other W11 (Ne.symm (Nat.ne_of_lt (Nat.lt_of_lt_of_le pr0.lt r3_0))))
 obtain ⟨fs, hr, hrun, hended, hW, hsame⟩ := X11.leave (v := none) (fun _ => rfl)
 refine ⟨_, _, ?_, hrun, hended, _, _, rfl, ?_, ⟨_, rfl⟩, hW, hsame.mono (by decide) (by decide)⟩
 · exact X11.returnOut hx Bd.returns (B_ dk194) hr
 · show QrmI44 Z x b kb c0 c1 c2 c3 h0 n0 none T11.heap _
   rw [e11]
   exact ⟨r_3, k_3, rfl, N11, K12, lo_r_3, F11, f13, f14⟩
theorem ef_rmI14 (mm_ : MethodId) (x : Addr) (b : Addr) : entryFrame mm_ #[(.ref x), (.ref b)] 2 = (mkF mm_ 0 #[vr x, vr b] []) := by first | (simp [entryFrame, mkF, argsToLocals, Value.category]; done) | rfl
def QrmI14 (Z : State) (x : Addr) (b : Addr) (kb : ClassId) (c0 : Int32) (c1 : Int32) (c2 : Int32) (c3 : Int32) (h0 : Heap) (n0 : Nat) (vv_ : Option Value) (hh_ : Heap) (LL_ : List Loc) : Prop := ∃ (r : Addr), ∃ (k : ClassId), (vv_ = none) ∧ (Fr n0 LL_) ∧ (Keep h0 hh_ [x]) ∧ (h0.size ≤ r) ∧ (Fld Z hh_ x sc0 "value" "[B" (.ref r)) ∧ (Fld Z hh_ x sc0 "coder" "B" (.int 1)) ∧ (Arv Z hh_ r k .byte (8 : Int32) [(lb c0), (hb_ c0), (lb c1), (hb_ c1), (lb c2), (hb_ c2), (lb c3), (hb_ c3)] (.int 0))
theorem rmI14 (l : Launch) (Z : State) (a0 : Array Value) (hw : own_Hw a0 Z) (ws : List Jvm.Cond) (x : Addr) (b : Addr) (kb : ClassId) (c0 : Int32) (c1 : Int32) (c2 : Int32) (c3 : Int32) {zc : Int32} {fm : Value} (h0 : Heap) (n0 : Nat) (O0 : Old Z n0 h0) (G_ : own_St Z zc fm) (pr0 : Exa Z h0 x sc0) (pr1 : Fld Z h0 x sc0 "value" "[B" .null) (pr2 : Fld Z h0 x sc0 "coder" "B" (.int 0)) (g_x : n0 ≤ x) (pr4 : Arv Z h0 b kb .char (4 : Int32) [(.int c0), (.int c1), (.int c2), (.int c3)] (.int 0)) (hc_c0 : ¬ c0 < (0 : Int32) ∧ ¬ (65535 : Int32) < c0) (hc_c1 : ¬ c1 < (0 : Int32) ∧ ¬ (65535 : Int32) < c1) (hc_c2 : ¬ c2 < (0 : Int32) ∧ ¬ (65535 : Int32) < c2) (hc_c3 : ¬ c3 < (0 : Int32) ∧ ¬ (65535 : Int32) < c3) (hW : (255 : Int32) < c0 ∨ (255 : Int32) < c1 ∨ (255 : Int32) < c2 ∨ (255 : Int32) < c3) :
 own_MF l Z ym4 J1 2 none ws (rm_ 5 2 12 74) #[(.ref x), (.ref b)] h0 (QrmI14 Z x b kb c0 c1 c2 c3 h0 n0) := by
 refine own_met (plainFor_of_name pn_java_lang_String) (fun m_ => ef_rmI14 m_ x b) fun pp_ ee_ ss_ mm_ bb_ me_ cc_ s₁ Bd hx hby hml hown hZ hh X0 e0 => ?_
 have B_ {q_ : Nat} {r_ : _} (h_ : decode _ q_ = r_) := hb hby h_
 have hown : ss_.vm.findClass sc0 = some mm_.cls := hown
 have N0 := Fr.nil n0
 have Z0 : n0 ≤ h0.size := by have q := O0.2.1; rw [O0.1] at q; exact q
 have K0 : Keep h0 h0 [x] := Keep.refl _ _
 obtain ⟨G_cs, G_cs0, G_cw, G_h_java_lang_String_7, G_fm, G_fr, G_hb, G_lb, G_ad⟩ := id G_
 show Go_ s₁ (mkF mm_ 0 #[vr x, vr b] [])
 refine sp_ (fun t_ k_ => XS.aloadN X0.here hx rfl (B_ dk13) rfl rfl (XS.aloadN X0.here hx rfl (B_ dk14) rfl rfl (XS.iconst X0.here hx rfl (B_ dk15) (XS.aloadN X0.here hx rfl (B_ dk16) rfl rfl k_)))) ?_
 obtain ⟨cl1, Ar1, -, S1, M1, -, -⟩ := id pr4
 refine sp_ (fun t_ k_ => X0.arraylength hx (by rw [e0]; exact Ar1.1) (State.isArrayOf_alike hZ.alike Ar1.2.1) (g := (mkF mm_ 4 #[vr x, vr b] [(.ref b), (.int 0), (.ref b), (.ref x)])) rfl rfl (B_ dk17) t_ (by rw [len_of S1 M1]; exact k_)) ?_
 show Go_ s₁ (mkF mm_ 5 #[vr x, vr b] [(.int 4), (.int 0), (.ref b), (.ref x)])
 refine sp_ (fun t_ k_ => XS.aconstNull X0.here hx rfl (B_ dk18) k_) ?_
 obtain ⟨_, T2, Lc2, X2, hQ2, st2⟩ := own_cI X0 hx hZ rfl hown (w_ hw 14 rfl) (w_ hw 15 rfl) (w_ hw 17 rfl) (by decide) (backOf (W := 0) (rmI44 l Z a0 hw [] x b kb c0 c1 c2 c3 h0 n0 O0 G_ pr0 pr1 pr2 g_x pr4 hc_c0 hc_c1 hc_c2 hc_c3 hW) hZ (w_ hw 17 rfl) (w_ hw 9 rfl) (by decide) (by decide)) (g := (mkF mm_ 6 #[vr x, vr b] [.null, (.int 4), (.int 0), (.ref b), (.ref x)])) rfl hml.symm (a := x) (argsL := [(.ref b), (.int 0), (.int 4), .null]) (rest := []) (lenOf pd_0 rfl) rfl (Nat.le_of_eq rfl) (B_ dk19) rfl e0 (by decide) (by decide)
 obtain ⟨r_2, k_2, rfl, Nq2, Kc2, r2_0, r2_1, r2_2, r2_3⟩ := hQ2
 have N2 := Fr.app N0 Nq2
 have lo_r_2 : h0.size ≤ r_2 := Nat.le_trans K0.1 r2_0
 have g_r_2 : n0 ≤ r_2 := Nat.le_trans Z0 lo_r_2
 refine jp_ st2 ?_
 show Go_ T2 (mkF mm_ 9 #[vr x, vr b] [])
 have K3 : Keep h0 T2.heap [x] := (K0.trans Kc2 (allS (Or.inl (List.mem_of_getElem? (i := 0) rfl)) all0))
 obtain ⟨fs, hr, hrun, hended, hW, hsame⟩ := X2.leave (v := none) (fun _ => rfl)
 refine ⟨_, _, ?_, hrun, hended, _, _, rfl, ?_, ⟨_, rfl⟩, hW, hsame.mono (by decide) (by decide)⟩
 · exact X2.returnOut hx Bd.returns (B_ dk20) hr
 · show QrmI14 Z x b kb c0 c1 c2 c3 h0 n0 none T2.heap _
   exact ⟨r_2, k_2, rfl, N2, K3, lo_r_2, r2_1, r2_2, r2_3⟩
theorem dk204 : decode J13 0 = .ok (.getstatic 38, 3) := by decide +kernel
theorem dk205 : decode J13 3 = .ok (.ifCond .eq 10, 3) := by decide +kernel
theorem dk206 : decode J13 6 = .ok (.aload_n 0, 1) := by decide +kernel
theorem dk207 : decode J13 7 = .ok (.getfield 15, 3) := by decide +kernel
theorem dk208 : decode J13 10 = .ok (.goto 4, 3) := by decide +kernel
theorem dk209 : decode J13 14 = .ok (.ireturn, 1) := by decide +kernel
theorem ef_rmCo (mm_ : MethodId) (a : Addr) : entryFrame mm_ #[(.ref a)] 1 = (mkF mm_ 0 #[vr a] []) := by first | (simp [entryFrame, mkF, argsToLocals, Value.category]; done) | rfl
def QrmCo (Z : State) (a : Addr) (h0 : Heap) (n0 : Nat) (vv_ : Option Value) (hh_ : Heap) (LL_ : List Loc) : Prop := (vv_ = some (.int 1)) ∧ (LL_ = []) ∧ (hh_ = h0)
theorem rmCo (l : Launch) (Z : State) (a0 : Array Value) (hw : own_Hw a0 Z) (ws : List Jvm.Cond) (a : Addr) {zc : Int32} {fm : Value} (h0 : Heap) (n0 : Nat) (O0 : Old Z n0 h0) (G_ : own_St Z zc fm) (pr0 : Fld Z h0 a sc0 "coder" "B" (.int 1)) :
 own_MF l Z (⟨sc0, "coder", "()B"⟩ : MethodName) J13 1 (some .byte) ws (rm_ 0 0 0 0) #[(.ref a)] h0 (QrmCo Z a h0 n0) := by
 refine own_met (plainFor_of_name pn_java_lang_String) (fun m_ => ef_rmCo m_ a) fun pp_ ee_ ss_ mm_ bb_ me_ cc_ s₁ Bd hx hby hml hown hZ hh X0 e0 => ?_
 have B_ {q_ : Nat} {r_ : _} (h_ : decode _ q_ = r_) := hb hby h_
 have hown : ss_.vm.findClass sc0 = some mm_.cls := hown
 have N0 := Fr.nil n0
 have Z0 : n0 ≤ h0.size := by have q := O0.2.1; rw [O0.1] at q; exact q
 have K0 : Keep h0 h0 [] := Keep.refl _ _
 obtain ⟨G_cs, G_cs0, G_cw, G_h_java_lang_String_7, G_fm, G_fr, G_hb, G_lb, G_ad⟩ := id G_
 obtain ⟨T1, X1, e1, st1⟩ := getS2 X0 hx hZ hown (host := "") (Or.inl (w_ hw 38 rfl)) Via.refl e0 (G_cs.ext O0.2) (g := (mkF mm_ 0 #[vr a] [])) rfl (B_ dk204)
 refine sp_ st1 ?_
 show Go_ T1 (mkF mm_ 3 #[vr a] [(.int zc)])
 refine sp_ (fun t_ k_ => XS.ifNo X1.here hx rfl (B_ dk205) rfl ((if0 _ _).trans (feq G_cs0).1) k_) ?_
 show Go_ T1 (mkF mm_ 6 #[vr a] [])
 refine sp_ (fun t_ k_ => XS.aloadN X1.here hx rfl (B_ dk206) rfl rfl k_) ?_
 obtain ⟨T2, X2, e2, st2⟩ := getF X1 hx hZ hown (host := "") (Or.inl (w_ hw 28 rfl)) Via.refl e1 pr0 (g := (mkF mm_ 7 #[vr a] [(.ref a)])) rfl rfl (B_ dk207)
 refine sp_ st2 ?_
 show Go_ T2 (mkF mm_ 10 #[vr a] [(.int 1)])
 refine sp_ (fun t_ k_ => XS.goto X2.here hx rfl (pc0 := 10) (pc' := 14) rfl (B_ dk208) (by decide) (by decide) k_) ?_
 show Go_ T2 (mkF mm_ 14 #[vr a] [(.int 1)])
 obtain ⟨fs, hr, hrun, hended, hW, hsame⟩ := X2.leave (v := some (.int 1)) (rN Bd.returns)
 refine ⟨_, _, ?_, hrun, hended, _, _, rfl, ?_, ⟨_, rfl⟩, hW, hsame.mono (by decide) (by decide)⟩
 · exact retN X2 hx (t := .byte) Bd.returns (by simp) (B_ dk209) hr
 · show QrmCo Z a h0 n0 (some (.int 1)) T2.heap _
   rw [e2]
   exact ⟨rfl, rfl, rfl⟩
theorem dk210 : decode J14 0 = .ok (.getstatic 38, 3) := by decide +kernel
theorem dk211 : decode J14 3 = .ok (.ifCond .eq 14, 3) := by decide +kernel
theorem dk212 : decode J14 6 = .ok (.aload_n 0, 1) := by decide +kernel
theorem dk213 : decode J14 7 = .ok (.getfield 15, 3) := by decide +kernel
theorem dk214 : decode J14 10 = .ok (.ifCond .ne 7, 3) := by decide +kernel
theorem dk215 : decode J14 17 = .ok (.iconst 0, 1) := by decide +kernel
theorem dk216 : decode J14 18 = .ok (.ireturn, 1) := by decide +kernel
theorem ef_rmIl (mm_ : MethodId) (a : Addr) : entryFrame mm_ #[(.ref a)] 1 = (mkF mm_ 0 #[vr a] []) := by first | (simp [entryFrame, mkF, argsToLocals, Value.category]; done) | rfl
def QrmIl (Z : State) (a : Addr) (h0 : Heap) (n0 : Nat) (vv_ : Option Value) (hh_ : Heap) (LL_ : List Loc) : Prop := (vv_ = some (.int 0)) ∧ (LL_ = []) ∧ (hh_ = h0)
theorem rmIl (l : Launch) (Z : State) (a0 : Array Value) (hw : own_Hw a0 Z) (ws : List Jvm.Cond) (a : Addr) {zc : Int32} {fm : Value} (h0 : Heap) (n0 : Nat) (O0 : Old Z n0 h0) (G_ : own_St Z zc fm) (pr0 : Fld Z h0 a sc0 "coder" "B" (.int 1)) :
 own_MF l Z (⟨sc0, "isLatin1", "()Z"⟩ : MethodName) J14 1 (some .boolean) ws (rm_ 0 0 0 0) #[(.ref a)] h0 (QrmIl Z a h0 n0) := by
 refine own_met (plainFor_of_name pn_java_lang_String) (fun m_ => ef_rmIl m_ a) fun pp_ ee_ ss_ mm_ bb_ me_ cc_ s₁ Bd hx hby hml hown hZ hh X0 e0 => ?_
 have B_ {q_ : Nat} {r_ : _} (h_ : decode _ q_ = r_) := hb hby h_
 have hown : ss_.vm.findClass sc0 = some mm_.cls := hown
 have N0 := Fr.nil n0
 have Z0 : n0 ≤ h0.size := by have q := O0.2.1; rw [O0.1] at q; exact q
 have K0 : Keep h0 h0 [] := Keep.refl _ _
 obtain ⟨G_cs, G_cs0, G_cw, G_h_java_lang_String_7, G_fm, G_fr, G_hb, G_lb, G_ad⟩ := id G_
 obtain ⟨T1, X1, e1, st1⟩ := getS2 X0 hx hZ hown (host := "") (Or.inl (w_ hw 38 rfl)) Via.refl e0 (G_cs.ext O0.2) (g := (mkF mm_ 0 #[vr a] [])) rfl (B_ dk210)
 refine sp_ st1 ?_
 show Go_ T1 (mkF mm_ 3 #[vr a] [(.int zc)])
 refine sp_ (fun t_ k_ => XS.ifNo X1.here hx rfl (B_ dk211) rfl ((if0 _ _).trans (feq G_cs0).1) k_) ?_
 show Go_ T1 (mkF mm_ 6 #[vr a] [])
 refine sp_ (fun t_ k_ => XS.aloadN X1.here hx rfl (B_ dk212) rfl rfl k_) ?_
 obtain ⟨T2, X2, e2, st2⟩ := getF X1 hx hZ hown (host := "") (Or.inl (w_ hw 28 rfl)) Via.refl e1 pr0 (g := (mkF mm_ 7 #[vr a] [(.ref a)])) rfl rfl (B_ dk213)
 refine sp_ st2 ?_
 show Go_ T2 (mkF mm_ 10 #[vr a] [(.int 1)])
 refine sp_ (fun t_ k_ => XS.ifYes X2.here hx rfl (pc0 := 10) (pc' := 17) rfl (B_ dk214) rfl ((if0 _ _).trans (feq (by decide : ¬ ((1 : Int32) = (0 : Int32)))).2) (by decide) (by decide) k_) ?_
 show Go_ T2 (mkF mm_ 17 #[vr a] [])
 refine sp_ (fun t_ k_ => XS.iconst X2.here hx rfl (B_ dk215) k_) ?_
 show Go_ T2 (mkF mm_ 18 #[vr a] [(.int 0)])
 obtain ⟨fs, hr, hrun, hended, hW, hsame⟩ := X2.leave (v := some (.int 0)) (rN Bd.returns)
 refine ⟨_, _, ?_, hrun, hended, _, _, rfl, ?_, ⟨_, rfl⟩, hW, hsame.mono (by decide) (by decide)⟩
 · exact retN X2 hx (t := .boolean) Bd.returns (by simp) (B_ dk216) hr
 · show QrmIl Z a h0 n0 (some (.int 0)) T2.heap _
   rw [e2]
   exact ⟨rfl, rfl, rfl⟩
theorem dk217 : decode J15 0 = .ok (.aload_n 0, 1) := by decide +kernel
theorem dk218 : decode J15 1 = .ok (.getfield 9, 3) := by decide +kernel
theorem dk219 : decode J15 4 = .ok (.arraylength, 1) := by decide +kernel
theorem dk220 : decode J15 5 = .ok (.ifCond .ne 7, 3) := by decide +kernel
theorem dk221 : decode J15 12 = .ok (.iconst 0, 1) := by decide +kernel
theorem dk222 : decode J15 13 = .ok (.ireturn, 1) := by decide +kernel
theorem ef_rmEm (mm_ : MethodId) (a : Addr) : entryFrame mm_ #[(.ref a)] 1 = (mkF mm_ 0 #[vr a] []) := by first | (simp [entryFrame, mkF, argsToLocals, Value.category]; done) | rfl
def QrmEm (Z : State) (a : Addr) (t : Addr) (k : ClassId) (z : Int32) (vs : List Value) (h0 : Heap) (n0 : Nat) (vv_ : Option Value) (hh_ : Heap) (LL_ : List Loc) : Prop := (vv_ = some (.int 0)) ∧ (LL_ = []) ∧ (hh_ = h0)
theorem rmEm (l : Launch) (Z : State) (a0 : Array Value) (hw : own_Hw a0 Z) (ws : List Jvm.Cond) (a : Addr) (t : Addr) (k : ClassId) (z : Int32) (vs : List Value) (h0 : Heap) (n0 : Nat) (O0 : Old Z n0 h0) (pr0 : Fld Z h0 a sc0 "value" "[B" (.ref t)) (pr1 : Arv Z h0 t k .byte z vs (.int 0)) (hz0 : ¬ (z = (0 : Int32))) :
 own_MF l Z (⟨sc0, "isEmpty", "()Z"⟩ : MethodName) J15 1 (some .boolean) ws (rm_ 0 0 0 0) #[(.ref a)] h0 (QrmEm Z a t k z vs h0 n0) := by
 refine own_met (plainFor_of_name pn_java_lang_String) (fun m_ => ef_rmEm m_ a) fun pp_ ee_ ss_ mm_ bb_ me_ cc_ s₁ Bd hx hby hml hown hZ hh X0 e0 => ?_
 have B_ {q_ : Nat} {r_ : _} (h_ : decode _ q_ = r_) := hb hby h_
 have hown : ss_.vm.findClass sc0 = some mm_.cls := hown
 have N0 := Fr.nil n0
 have Z0 : n0 ≤ h0.size := by have q := O0.2.1; rw [O0.1] at q; exact q
 have K0 : Keep h0 h0 [] := Keep.refl _ _
 show Go_ s₁ (mkF mm_ 0 #[vr a] [])
 refine sp_ (fun t_ k_ => XS.aloadN X0.here hx rfl (B_ dk217) rfl rfl k_) ?_
 obtain ⟨T1, X1, e1, st1⟩ := getF X0 hx hZ hown (host := "") (Or.inl (w_ hw 27 rfl)) Via.refl e0 pr0 (g := (mkF mm_ 1 #[vr a] [(.ref a)])) rfl rfl (B_ dk218)
 refine sp_ st1 ?_
 obtain ⟨cl2, Ar2, -, S2, M2, -, -⟩ := id pr1
 refine sp_ (fun t_ k_ => X1.arraylength hx (by rw [e1]; exact Ar2.1) (State.isArrayOf_alike hZ.alike Ar2.2.1) (g := (mkF mm_ 4 #[vr a] [(.ref t)])) rfl rfl (B_ dk219) t_ (by rw [len_of S2 M2]; exact k_)) ?_
 show Go_ T1 (mkF mm_ 5 #[vr a] [(.int z)])
 refine sp_ (fun t_ k_ => XS.ifYes X1.here hx rfl (pc0 := 5) (pc' := 12) rfl (B_ dk220) rfl ((if0 _ _).trans (feq hz0).2) (by decide) (by decide) k_) ?_
 show Go_ T1 (mkF mm_ 12 #[vr a] [])
 refine sp_ (fun t_ k_ => XS.iconst X1.here hx rfl (B_ dk221) k_) ?_
 show Go_ T1 (mkF mm_ 13 #[vr a] [(.int 0)])
 obtain ⟨fs, hr, hrun, hended, hW, hsame⟩ := X1.leave (v := some (.int 0)) (rN Bd.returns)
 refine ⟨_, _, ?_, hrun, hended, _, _, rfl, ?_, ⟨_, rfl⟩, hW, hsame.mono (by decide) (by decide)⟩
 · exact retN X1 hx (t := .boolean) Bd.returns (by simp) (B_ dk222) hr
 · show QrmEm Z a t k z vs h0 n0 (some (.int 0)) T1.heap _
   rw [e1]
   exact ⟨rfl, rfl, rfl⟩
theorem dk223 : decode J15 8 = .ok (.iconst 1, 1) := by decide +kernel
theorem dk224 : decode J15 9 = .ok (.goto 4, 3) := by decide +kernel
theorem ef_rmEm0 (mm_ : MethodId) (a : Addr) : entryFrame mm_ #[(.ref a)] 1 = (mkF mm_ 0 #[vr a] []) := by first | (simp [entryFrame, mkF, argsToLocals, Value.category]; done) | rfl
def QrmEm0 (Z : State) (a : Addr) (t : Addr) (k : ClassId) (vs : List Value) (h0 : Heap) (n0 : Nat) (vv_ : Option Value) (hh_ : Heap) (LL_ : List Loc) : Prop := (vv_ = some (.int 1)) ∧ (LL_ = []) ∧ (hh_ = h0)
theorem rmEm0 (l : Launch) (Z : State) (a0 : Array Value) (hw : own_Hw a0 Z) (ws : List Jvm.Cond) (a : Addr) (t : Addr) (k : ClassId) (vs : List Value) (h0 : Heap) (n0 : Nat) (O0 : Old Z n0 h0) (pr0 : Fld Z h0 a sc0 "value" "[B" (.ref t)) (pr1 : Arv Z h0 t k .byte (0 : Int32) vs (.int 0)) :
 own_MF l Z (⟨sc0, "isEmpty", "()Z"⟩ : MethodName) J15 1 (some .boolean) ws (rm_ 0 0 0 0) #[(.ref a)] h0 (QrmEm0 Z a t k vs h0 n0) := by
 refine own_met (plainFor_of_name pn_java_lang_String) (fun m_ => ef_rmEm0 m_ a) fun pp_ ee_ ss_ mm_ bb_ me_ cc_ s₁ Bd hx hby hml hown hZ hh X0 e0 => ?_
 have B_ {q_ : Nat} {r_ : _} (h_ : decode _ q_ = r_) := hb hby h_
 have hown : ss_.vm.findClass sc0 = some mm_.cls := hown
 have N0 := Fr.nil n0
 have Z0 : n0 ≤ h0.size := by have q := O0.2.1; rw [O0.1] at q; exact q
 have K0 : Keep h0 h0 [] := Keep.refl _ _
 show Go_ s₁ (mkF mm_ 0 #[vr a] [])
 refine sp_ (fun t_ k_ => XS.aloadN X0.here hx rfl (B_ dk217) rfl rfl k_) ?_
 obtain ⟨T1, X1, e1, st1⟩ := getF X0 hx hZ hown (host := "") (Or.inl (w_ hw 27 rfl)) Via.refl e0 pr0 (g := (mkF mm_ 1 #[vr a] [(.ref a)])) rfl rfl (B_ dk218)
 refine sp_ st1 ?_
 obtain ⟨cl2, Ar2, -, S2, M2, -, -⟩ := id pr1
 refine sp_ (fun t_ k_ => X1.arraylength hx (by rw [e1]; exact Ar2.1) (State.isArrayOf_alike hZ.alike Ar2.2.1) (g := (mkF mm_ 4 #[vr a] [(.ref t)])) rfl rfl (B_ dk219) t_ (by rw [len_of S2 M2]; exact k_)) ?_
 show Go_ T1 (mkF mm_ 5 #[vr a] [(.int 0)])
 refine sp_ (fun t_ k_ => XS.ifNo X1.here hx rfl (B_ dk220) rfl ((if0 _ _).trans (teq (by decide : (0 : Int32) = (0 : Int32))).2) k_) ?_
 show Go_ T1 (mkF mm_ 8 #[vr a] [])
 refine sp_ (fun t_ k_ => XS.iconst X1.here hx rfl (B_ dk223) (XS.goto X1.here hx rfl (pc0 := 9) (pc' := 13) rfl (B_ dk224) (by decide) (by decide) k_)) ?_
 show Go_ T1 (mkF mm_ 13 #[vr a] [(.int 1)])
 obtain ⟨fs, hr, hrun, hended, hW, hsame⟩ := X1.leave (v := some (.int 1)) (rN Bd.returns)
 refine ⟨_, _, ?_, hrun, hended, _, _, rfl, ?_, ⟨_, rfl⟩, hW, hsame.mono (by decide) (by decide)⟩
 · exact retN X1 hx (t := .boolean) Bd.returns (by simp) (B_ dk222) hr
 · show QrmEm0 Z a t k vs h0 n0 (some (.int 1)) T1.heap _
   rw [e1]
   exact ⟨rfl, rfl, rfl⟩
theorem dk225 : decode J16 0 = .ok (.iload_n 0, 1) := by decide +kernel
theorem dk226 : decode J16 1 = .ok (.ifCond .lt 8, 3) := by decide +kernel
theorem dk227 : decode J16 4 = .ok (.iload_n 0, 1) := by decide +kernel
theorem dk228 : decode J16 5 = .ok (.iload_n 1, 1) := by decide +kernel
theorem dk229 : decode J16 6 = .ok (.if_icmp .lt 10, 3) := by decide +kernel
theorem dk230 : decode J16 16 = .ok (.iload_n 0, 1) := by decide +kernel
theorem dk231 : decode J16 17 = .ok (.ireturn, 1) := by decide +kernel
theorem pn_jdk_internal_util_Preconditions : plainName "jdk/internal/util/Preconditions" = true := by first | (simp [plainName, overriddenIn]; done) | decide +kernel
theorem ef_rmPCn (mm_ : MethodId) (i : Int32) (m : Int32) : entryFrame mm_ #[(.int i), (.int m), .null] 3 = (mkF mm_ 0 #[vi i, vi m, .val .null] []) := by first | (simp [entryFrame, mkF, argsToLocals, Value.category]; done) | rfl
def QrmPCn (Z : State) (i : Int32) (m : Int32) (h0 : Heap) (n0 : Nat) (vv_ : Option Value) (hh_ : Heap) (LL_ : List Loc) : Prop := (vv_ = some (.int i)) ∧ (LL_ = []) ∧ (hh_ = h0)
theorem rmPCn (l : Launch) (Z : State) (a0 : Array Value) (hw : own_Hw a0 Z) (ws : List Jvm.Cond) (i : Int32) (m : Int32) (h0 : Heap) (n0 : Nat) (O0 : Old Z n0 h0) (hi0 : ¬ (i < (0 : Int32))) (him : i < m) :
 own_MF l Z (⟨sc4, "checkIndex", "(IILjava/util/function/BiFunction;)I"⟩ : MethodName) J16 3 (some .int) ws (rm_ 0 0 0 0) #[(.int i), (.int m), .null] h0 (QrmPCn Z i m h0 n0) := by
 refine own_met (plainFor_of_name pn_jdk_internal_util_Preconditions) (fun m_ => ef_rmPCn m_ i m) fun pp_ ee_ ss_ mm_ bb_ me_ cc_ s₁ Bd hx hby hml hown hZ hh X0 e0 => ?_
 have B_ {q_ : Nat} {r_ : _} (h_ : decode _ q_ = r_) := hb hby h_
 have hown : ss_.vm.findClass sc4 = some mm_.cls := hown
 have N0 := Fr.nil n0
 have Z0 : n0 ≤ h0.size := by have q := O0.2.1; rw [O0.1] at q; exact q
 have K0 : Keep h0 h0 [] := Keep.refl _ _
 show Go_ s₁ (mkF mm_ 0 #[vi i, vi m, .val .null] [])
 refine sp_ (fun t_ k_ => XS.iloadN X0.here hx rfl (B_ dk225) rfl  k_) ?_
 show Go_ s₁ (mkF mm_ 1 #[vi i, vi m, .val .null] [(.int i)])
 refine sp_ (fun t_ k_ => XS.ifNo X0.here hx rfl (B_ dk226) rfl ((if0 _ _).trans (flt hi0).1) k_) ?_
 show Go_ s₁ (mkF mm_ 4 #[vi i, vi m, .val .null] [])
 refine sp_ (fun t_ k_ => XS.iloadN X0.here hx rfl (B_ dk227) rfl  (XS.iloadN X0.here hx rfl (B_ dk228) rfl  k_)) ?_
 show Go_ s₁ (mkF mm_ 6 #[vi i, vi m, .val .null] [(.int m), (.int i)])
 refine sp_ (fun t_ k_ => XS.icmpYes X0.here hx rfl (pc0 := 6) (pc' := 16) rfl (B_ dk229) rfl (tlt him).1 (by decide) (by decide) k_) ?_
 show Go_ s₁ (mkF mm_ 16 #[vi i, vi m, .val .null] [])
 refine sp_ (fun t_ k_ => XS.iloadN X0.here hx rfl (B_ dk230) rfl  k_) ?_
 show Go_ s₁ (mkF mm_ 17 #[vi i, vi m, .val .null] [(.int i)])
 obtain ⟨fs, hr, hrun, hended, hW, hsame⟩ := X0.leave (v := some (.int i)) (rN Bd.returns)
 refine ⟨_, _, ?_, hrun, hended, _, _, rfl, ?_, ⟨_, rfl⟩, hW, hsame.mono (by decide) (by decide)⟩
 · exact retI X0 hx Bd.returns (B_ dk231) hr
 · show QrmPCn Z i m h0 n0 (some (.int i)) s₁.heap _
   rw [e0]
   exact ⟨rfl, rfl, rfl⟩
theorem ef_rmPCr (mm_ : MethodId) (i : Int32) (m : Int32) (fa : Addr) : entryFrame mm_ #[(.int i), (.int m), (.ref fa)] 3 = (mkF mm_ 0 #[vi i, vi m, vr fa] []) := by first | (simp [entryFrame, mkF, argsToLocals, Value.category]; done) | rfl
def QrmPCr (Z : State) (i : Int32) (m : Int32) (fa : Addr) (h0 : Heap) (n0 : Nat) (vv_ : Option Value) (hh_ : Heap) (LL_ : List Loc) : Prop := (vv_ = some (.int i)) ∧ (LL_ = []) ∧ (hh_ = h0)
theorem rmPCr (l : Launch) (Z : State) (a0 : Array Value) (hw : own_Hw a0 Z) (ws : List Jvm.Cond) (i : Int32) (m : Int32) (fa : Addr) (h0 : Heap) (n0 : Nat) (O0 : Old Z n0 h0) (hi0 : ¬ (i < (0 : Int32))) (him : i < m) :
 own_MF l Z (⟨sc4, "checkIndex", "(IILjava/util/function/BiFunction;)I"⟩ : MethodName) J16 3 (some .int) ws (rm_ 0 0 0 0) #[(.int i), (.int m), (.ref fa)] h0 (QrmPCr Z i m fa h0 n0) := by
 refine own_met (plainFor_of_name pn_jdk_internal_util_Preconditions) (fun m_ => ef_rmPCr m_ i m fa) fun pp_ ee_ ss_ mm_ bb_ me_ cc_ s₁ Bd hx hby hml hown hZ hh X0 e0 => ?_
 have B_ {q_ : Nat} {r_ : _} (h_ : decode _ q_ = r_) := hb hby h_
 have hown : ss_.vm.findClass sc4 = some mm_.cls := hown
 have N0 := Fr.nil n0
 have Z0 : n0 ≤ h0.size := by have q := O0.2.1; rw [O0.1] at q; exact q
 have K0 : Keep h0 h0 [] := Keep.refl _ _
 show Go_ s₁ (mkF mm_ 0 #[vi i, vi m, vr fa] [])
 refine sp_ (fun t_ k_ => XS.iloadN X0.here hx rfl (B_ dk225) rfl  k_) ?_
 show Go_ s₁ (mkF mm_ 1 #[vi i, vi m, vr fa] [(.int i)])
 refine sp_ (fun t_ k_ => XS.ifNo X0.here hx rfl (B_ dk226) rfl ((if0 _ _).trans (flt hi0).1) k_) ?_
 show Go_ s₁ (mkF mm_ 4 #[vi i, vi m, vr fa] [])
 refine sp_ (fun t_ k_ => XS.iloadN X0.here hx rfl (B_ dk227) rfl  (XS.iloadN X0.here hx rfl (B_ dk228) rfl  k_)) ?_
 show Go_ s₁ (mkF mm_ 6 #[vi i, vi m, vr fa] [(.int m), (.int i)])
 refine sp_ (fun t_ k_ => XS.icmpYes X0.here hx rfl (pc0 := 6) (pc' := 16) rfl (B_ dk229) rfl (tlt him).1 (by decide) (by decide) k_) ?_
 show Go_ s₁ (mkF mm_ 16 #[vi i, vi m, vr fa] [])
 refine sp_ (fun t_ k_ => XS.iloadN X0.here hx rfl (B_ dk230) rfl  k_) ?_
 show Go_ s₁ (mkF mm_ 17 #[vi i, vi m, vr fa] [(.int i)])
 obtain ⟨fs, hr, hrun, hended, hW, hsame⟩ := X0.leave (v := some (.int i)) (rN Bd.returns)
 refine ⟨_, _, ?_, hrun, hended, _, _, rfl, ?_, ⟨_, rfl⟩, hW, hsame.mono (by decide) (by decide)⟩
 · exact retI X0 hx Bd.returns (B_ dk231) hr
 · show QrmPCr Z i m fa h0 n0 (some (.int i)) s₁.heap _
   rw [e0]
   exact ⟨rfl, rfl, rfl⟩
theorem dk232 : decode J17 0 = .ok (.iload_n 0, 1) := by decide +kernel
theorem dk233 : decode J17 1 = .ok (.iload_n 1, 1) := by decide +kernel
theorem dk234 : decode J17 2 = .ok (.getstatic 1053, 3) := by decide +kernel
theorem dk235 : decode J17 5 = .ok (.invokestatic 1059, 3) := by decide +kernel
theorem pd_8 : parseMethodDescriptor "(IILjava/util/function/BiFunction;)I" = some ⟨[.int, .int, (.object "java/util/function/BiFunction")], some .int⟩ := by decide +kernel
theorem dk236 : decode J17 8 = .ok (.pop, 1) := by decide +kernel
theorem dk237 : decode J17 9 = .ok (.return_, 1) := by decide +kernel
theorem ef_rmSC (mm_ : MethodId) (i : Int32) (m : Int32) : entryFrame mm_ #[(.int i), (.int m)] 2 = (mkF mm_ 0 #[vi i, vi m] []) := by first | (simp [entryFrame, mkF, argsToLocals, Value.category]; done) | rfl
def QrmSC (Z : State) (i : Int32) (m : Int32) (h0 : Heap) (n0 : Nat) (vv_ : Option Value) (hh_ : Heap) (LL_ : List Loc) : Prop := (vv_ = none) ∧ (LL_ = []) ∧ (hh_ = h0)
theorem rmSC (l : Launch) (Z : State) (a0 : Array Value) (hw : own_Hw a0 Z) (ws : List Jvm.Cond) (i : Int32) (m : Int32) {zc : Int32} {fm : Value} (h0 : Heap) (n0 : Nat) (O0 : Old Z n0 h0) (G_ : own_St Z zc fm) (hi0 : ¬ (i < (0 : Int32))) (him : i < m) :
 own_MF l Z (⟨sc0, "checkIndex", "(II)V"⟩ : MethodName) J17 2 none ws (rm_ 1 0 0 14) #[(.int i), (.int m)] h0 (QrmSC Z i m h0 n0) := by
 refine own_met (plainFor_of_name pn_java_lang_String) (fun m_ => ef_rmSC m_ i m) fun pp_ ee_ ss_ mm_ bb_ me_ cc_ s₁ Bd hx hby hml hown hZ hh X0 e0 => ?_
 have B_ {q_ : Nat} {r_ : _} (h_ : decode _ q_ = r_) := hb hby h_
 have hown : ss_.vm.findClass sc0 = some mm_.cls := hown
 have N0 := Fr.nil n0
 have Z0 : n0 ≤ h0.size := by have q := O0.2.1; rw [O0.1] at q; exact q
 have K0 : Keep h0 h0 [] := Keep.refl _ _
 obtain ⟨G_cs, G_cs0, G_cw, G_h_java_lang_String_7, G_fm, G_fr, G_hb, G_lb, G_ad⟩ := id G_
 show Go_ s₁ (mkF mm_ 0 #[vi i, vi m] [])
 refine sp_ (fun t_ k_ => XS.iloadN X0.here hx rfl (B_ dk232) rfl  (XS.iloadN X0.here hx rfl (B_ dk233) rfl  k_)) ?_
 obtain ⟨T1, X1, e1, st1⟩ := getS2 X0 hx hZ hown (host := "") (Or.inl (w_ hw 79 rfl)) Via.refl e0 (G_fm.ext O0.2) (g := (mkF mm_ 2 #[vi i, vi m] [(.int m), (.int i)])) rfl (B_ dk234)
 refine sp_ st1 ?_
 show Go_ T1 (mkF mm_ 5 #[vi i, vi m] [fm, (.int m), (.int i)])
 rcases own_refs G_fr with rfl | ⟨fa, rfl⟩
 · skip
   show Go_ T1 (mkF mm_ 5 #[vi i, vi m] [.null, (.int m), (.int i)])
   obtain ⟨_, T2, Lc2, X2, hQ2, st2⟩ := own_cS X1 hx hZ hown (w_ hw 81 rfl) (w_ hw 82 rfl) (w_ hw 80 rfl) (w_ hw 83 rfl) (by decide) (backOf (W := 0) (rmPCn l Z a0 hw [] i m h0 n0 O0 hi0 him) hZ (w_ hw 83 rfl) (w_ hw 80 rfl) (by decide) (by decide)) (g := (mkF mm_ 5 #[vi i, vi m] [.null, (.int m), (.int i)])) rfl hml.symm (argsL := [(.int i), (.int m), .null]) (rest := []) (lenOf pd_8 rfl) rfl (Nat.le_of_eq rfl) (B_ dk235) rfl e1 (by decide) (by decide)
   obtain ⟨rfl, rfl, Eh2⟩ := hQ2
   have N2 := Fr.app N0 (Fr.nil n0)
   refine jp_ st2 ?_
   show Go_ T2 (mkF mm_ 8 #[vi i, vi m] [(.int i)])
   refine sp_ (fun t_ k_ => XS.pop X2.here hx rfl (B_ dk236) rfl rfl k_) ?_
   show Go_ T2 (mkF mm_ 9 #[vi i, vi m] [])
   obtain ⟨fs, hr, hrun, hended, hW, hsame⟩ := X2.leave (v := none) (fun _ => rfl)
   refine ⟨_, _, ?_, hrun, hended, _, _, rfl, ?_, ⟨_, rfl⟩, hW, hsame.mono (by decide) (by decide)⟩
   · exact X2.returnOut hx Bd.returns (B_ dk237) hr
   · show QrmSC Z i m h0 n0 none T2.heap _
     rw [Eh2]
     exact ⟨rfl, rfl, rfl⟩
 · skip
   show Go_ T1 (mkF mm_ 5 #[vi i, vi m] [(.ref fa), (.int m), (.int i)])
   obtain ⟨_, T3, Lc3, X3, hQ3, st3⟩ := own_cS X1 hx hZ hown (w_ hw 81 rfl) (w_ hw 82 rfl) (w_ hw 80 rfl) (w_ hw 83 rfl) (by decide) (backOf (W := 0) (rmPCr l Z a0 hw [] i m fa h0 n0 O0 hi0 him) hZ (w_ hw 83 rfl) (w_ hw 80 rfl) (by decide) (by decide)) (g := (mkF mm_ 5 #[vi i, vi m] [(.ref fa), (.int m), (.int i)])) rfl hml.symm (argsL := [(.int i), (.int m), (.ref fa)]) (rest := []) (lenOf pd_8 rfl) rfl (Nat.le_of_eq rfl) (B_ dk235) rfl e1 (by decide) (by decide)
   obtain ⟨rfl, rfl, Eh3⟩ := hQ3
   have N3 := Fr.app N0 (Fr.nil n0)
   refine jp_ st3 ?_
   show Go_ T3 (mkF mm_ 8 #[vi i, vi m] [(.int i)])
   refine sp_ (fun t_ k_ => XS.pop X3.here hx rfl (B_ dk236) rfl rfl k_) ?_
   show Go_ T3 (mkF mm_ 9 #[vi i, vi m] [])
   obtain ⟨fs, hr, hrun, hended, hW, hsame⟩ := X3.leave (v := none) (fun _ => rfl)
   refine ⟨_, _, ?_, hrun, hended, _, _, rfl, ?_, ⟨_, rfl⟩, hW, hsame.mono (by decide) (by decide)⟩
   · exact X3.returnOut hx Bd.returns (B_ dk237) hr
   · show QrmSC Z i m h0 n0 none T3.heap _
     rw [Eh3]
     exact ⟨rfl, rfl, rfl⟩
theorem dk238 : decode J18 0 = .ok (.aload_n 0, 1) := by decide +kernel
theorem dk239 : decode J18 1 = .ok (.getfield 9, 3) := by decide +kernel
theorem dk240 : decode J18 4 = .ok (.arraylength, 1) := by decide +kernel
theorem dk241 : decode J18 5 = .ok (.aload_n 0, 1) := by decide +kernel
theorem dk242 : decode J18 6 = .ok (.invokevirtual 335, 3) := by decide +kernel
theorem pd_9 : parseMethodDescriptor "()B" = some ⟨[], some .byte⟩ := by decide +kernel
theorem dk243 : decode J18 9 = .ok (.ishr, 1) := by decide +kernel
theorem dk244 : decode J18 10 = .ok (.ireturn, 1) := by decide +kernel
theorem ef_rmLw1 (mm_ : MethodId) (a : Addr) : entryFrame mm_ #[(.ref a)] 1 = (mkF mm_ 0 #[vr a] []) := by first | (simp [entryFrame, mkF, argsToLocals, Value.category]; done) | rfl
def QrmLw1 (Z : State) (a : Addr) (t : Addr) (k : ClassId) (vs : List Value) (h0 : Heap) (n0 : Nat) (vv_ : Option Value) (hh_ : Heap) (LL_ : List Loc) : Prop := (vv_ = some (.int 1)) ∧ (LL_ = []) ∧ (hh_ = h0)
theorem rmLw1 (l : Launch) (Z : State) (a0 : Array Value) (hw : own_Hw a0 Z) (ws : List Jvm.Cond) (a : Addr) (t : Addr) (k : ClassId) (vs : List Value) {zc : Int32} {fm : Value} (h0 : Heap) (n0 : Nat) (O0 : Old Z n0 h0) (G_ : own_St Z zc fm) (pr0 : Exa Z h0 a sc0) (pr1 : Fld Z h0 a sc0 "coder" "B" (.int 1)) (pr2 : Fld Z h0 a sc0 "value" "[B" (.ref t)) (pr3 : Arv Z h0 t k .byte (2 : Int32) vs (.int 0)) :
 own_MF l Z ym11 J18 1 (some .int) ws (rm_ 1 0 0 13) #[(.ref a)] h0 (QrmLw1 Z a t k vs h0 n0) := by
 refine own_met (plainFor_of_name pn_java_lang_String) (fun m_ => ef_rmLw1 m_ a) fun pp_ ee_ ss_ mm_ bb_ me_ cc_ s₁ Bd hx hby hml hown hZ hh X0 e0 => ?_
 have B_ {q_ : Nat} {r_ : _} (h_ : decode _ q_ = r_) := hb hby h_
 have hown : ss_.vm.findClass sc0 = some mm_.cls := hown
 have N0 := Fr.nil n0
 have Z0 : n0 ≤ h0.size := by have q := O0.2.1; rw [O0.1] at q; exact q
 have K0 : Keep h0 h0 [] := Keep.refl _ _
 obtain ⟨G_cs, G_cs0, G_cw, G_h_java_lang_String_7, G_fm, G_fr, G_hb, G_lb, G_ad⟩ := id G_
 show Go_ s₁ (mkF mm_ 0 #[vr a] [])
 refine sp_ (fun t_ k_ => XS.aloadN X0.here hx rfl (B_ dk238) rfl rfl k_) ?_
 obtain ⟨T1, X1, e1, st1⟩ := getF X0 hx hZ hown (host := "") (Or.inl (w_ hw 27 rfl)) Via.refl e0 pr2 (g := (mkF mm_ 1 #[vr a] [(.ref a)])) rfl rfl (B_ dk239)
 refine sp_ st1 ?_
 obtain ⟨cl2, Ar2, -, S2, M2, -, -⟩ := id pr3
 refine sp_ (fun t_ k_ => X1.arraylength hx (by rw [e1]; exact Ar2.1) (State.isArrayOf_alike hZ.alike Ar2.2.1) (g := (mkF mm_ 4 #[vr a] [(.ref t)])) rfl rfl (B_ dk240) t_ (by rw [len_of S2 M2]; exact k_)) ?_
 show Go_ T1 (mkF mm_ 5 #[vr a] [(.int 2)])
 refine sp_ (fun t_ k_ => XS.aloadN X1.here hx rfl (B_ dk241) rfl rfl k_) ?_
 obtain ⟨_, T3, Lc3, X3, hQ3, st3⟩ := own_cV X1 hx hZ hown (w_ hw 57 rfl) (w_ hw 58 rfl) (notFace_of_selects (args := #[]) (mvT hZ (w_ hw 60 rfl))) (w_ hw 60 rfl) (w_ hw 59 rfl) (by decide) (backOf (W := 1) (rmCo l Z a0 hw [] a h0 n0 O0 G_ pr1) hZ (w_ hw 61 rfl) (w_ hw 9 rfl) (by decide) (by decide)) pr0 (g := (mkF mm_ 6 #[vr a] [(.ref a), (.int 2)])) rfl hml.symm (argsL := []) (rest := [(.int 2)]) (lenOf pd_9 rfl) rfl (Nat.le_of_eq rfl) (B_ dk242) rfl e1 (by decide) (by decide)
 obtain ⟨rfl, rfl, Eh3⟩ := hQ3
 have N3 := Fr.app N0 (Fr.nil n0)
 refine jp_ st3 ?_
 show Go_ T3 (mkF mm_ 9 #[vr a] [(.int 1), (.int 2)])
 refine sp_ (fun t_ k_ => XS.ishr X3.here hx rfl (B_ dk243) rfl k_) ?_
 show Go_ T3 (mkF mm_ 10 #[vr a] [(.int 1)])
 obtain ⟨fs, hr, hrun, hended, hW, hsame⟩ := X3.leave (v := some (.int 1)) (rN Bd.returns)
 refine ⟨_, _, ?_, hrun, hended, _, _, rfl, ?_, ⟨_, rfl⟩, hW, hsame.mono (by decide) (by decide)⟩
 · exact retI X3 hx Bd.returns (B_ dk244) hr
 · show QrmLw1 Z a t k vs h0 n0 (some (.int 1)) T3.heap _
   rw [Eh3]
   exact ⟨rfl, rfl, rfl⟩
theorem ef_rmLw2 (mm_ : MethodId) (a : Addr) : entryFrame mm_ #[(.ref a)] 1 = (mkF mm_ 0 #[vr a] []) := by first | (simp [entryFrame, mkF, argsToLocals, Value.category]; done) | rfl
def QrmLw2 (Z : State) (a : Addr) (t : Addr) (k : ClassId) (vs : List Value) (h0 : Heap) (n0 : Nat) (vv_ : Option Value) (hh_ : Heap) (LL_ : List Loc) : Prop := (vv_ = some (.int 2)) ∧ (LL_ = []) ∧ (hh_ = h0)
theorem rmLw2 (l : Launch) (Z : State) (a0 : Array Value) (hw : own_Hw a0 Z) (ws : List Jvm.Cond) (a : Addr) (t : Addr) (k : ClassId) (vs : List Value) {zc : Int32} {fm : Value} (h0 : Heap) (n0 : Nat) (O0 : Old Z n0 h0) (G_ : own_St Z zc fm) (pr0 : Exa Z h0 a sc0) (pr1 : Fld Z h0 a sc0 "coder" "B" (.int 1)) (pr2 : Fld Z h0 a sc0 "value" "[B" (.ref t)) (pr3 : Arv Z h0 t k .byte (4 : Int32) vs (.int 0)) :
 own_MF l Z ym11 J18 1 (some .int) ws (rm_ 1 0 0 13) #[(.ref a)] h0 (QrmLw2 Z a t k vs h0 n0) := by
 refine own_met (plainFor_of_name pn_java_lang_String) (fun m_ => ef_rmLw2 m_ a) fun pp_ ee_ ss_ mm_ bb_ me_ cc_ s₁ Bd hx hby hml hown hZ hh X0 e0 => ?_
 have B_ {q_ : Nat} {r_ : _} (h_ : decode _ q_ = r_) := hb hby h_
 have hown : ss_.vm.findClass sc0 = some mm_.cls := hown
 have N0 := Fr.nil n0
 have Z0 : n0 ≤ h0.size := by have q := O0.2.1; rw [O0.1] at q; exact q
 have K0 : Keep h0 h0 [] := Keep.refl _ _
 obtain ⟨G_cs, G_cs0, G_cw, G_h_java_lang_String_7, G_fm, G_fr, G_hb, G_lb, G_ad⟩ := id G_
 show Go_ s₁ (mkF mm_ 0 #[vr a] [])
 refine sp_ (fun t_ k_ => XS.aloadN X0.here hx rfl (B_ dk238) rfl rfl k_) ?_
 obtain ⟨T1, X1, e1, st1⟩ := getF X0 hx hZ hown (host := "") (Or.inl (w_ hw 27 rfl)) Via.refl e0 pr2 (g := (mkF mm_ 1 #[vr a] [(.ref a)])) rfl rfl (B_ dk239)
 refine sp_ st1 ?_
 obtain ⟨cl2, Ar2, -, S2, M2, -, -⟩ := id pr3
 refine sp_ (fun t_ k_ => X1.arraylength hx (by rw [e1]; exact Ar2.1) (State.isArrayOf_alike hZ.alike Ar2.2.1) (g := (mkF mm_ 4 #[vr a] [(.ref t)])) rfl rfl (B_ dk240) t_ (by rw [len_of S2 M2]; exact k_)) ?_
 show Go_ T1 (mkF mm_ 5 #[vr a] [(.int 4)])
 refine sp_ (fun t_ k_ => XS.aloadN X1.here hx rfl (B_ dk241) rfl rfl k_) ?_
 obtain ⟨_, T3, Lc3, X3, hQ3, st3⟩ := own_cV X1 hx hZ hown (w_ hw 57 rfl) (w_ hw 58 rfl) (notFace_of_selects (args := #[]) (mvT hZ (w_ hw 60 rfl))) (w_ hw 60 rfl) (w_ hw 59 rfl) (by decide) (backOf (W := 1) (rmCo l Z a0 hw [] a h0 n0 O0 G_ pr1) hZ (w_ hw 61 rfl) (w_ hw 9 rfl) (by decide) (by decide)) pr0 (g := (mkF mm_ 6 #[vr a] [(.ref a), (.int 4)])) rfl hml.symm (argsL := []) (rest := [(.int 4)]) (lenOf pd_9 rfl) rfl (Nat.le_of_eq rfl) (B_ dk242) rfl e1 (by decide) (by decide)
 obtain ⟨rfl, rfl, Eh3⟩ := hQ3
 have N3 := Fr.app N0 (Fr.nil n0)
 refine jp_ st3 ?_
 show Go_ T3 (mkF mm_ 9 #[vr a] [(.int 1), (.int 4)])
 refine sp_ (fun t_ k_ => XS.ishr X3.here hx rfl (B_ dk243) rfl k_) ?_
 show Go_ T3 (mkF mm_ 10 #[vr a] [(.int 2)])
 obtain ⟨fs, hr, hrun, hended, hW, hsame⟩ := X3.leave (v := some (.int 2)) (rN Bd.returns)
 refine ⟨_, _, ?_, hrun, hended, _, _, rfl, ?_, ⟨_, rfl⟩, hW, hsame.mono (by decide) (by decide)⟩
 · exact retI X3 hx Bd.returns (B_ dk244) hr
 · show QrmLw2 Z a t k vs h0 n0 (some (.int 2)) T3.heap _
   rw [Eh3]
   exact ⟨rfl, rfl, rfl⟩
theorem ef_rmLw3 (mm_ : MethodId) (a : Addr) : entryFrame mm_ #[(.ref a)] 1 = (mkF mm_ 0 #[vr a] []) := by first | (simp [entryFrame, mkF, argsToLocals, Value.category]; done) | rfl
def QrmLw3 (Z : State) (a : Addr) (t : Addr) (k : ClassId) (vs : List Value) (h0 : Heap) (n0 : Nat) (vv_ : Option Value) (hh_ : Heap) (LL_ : List Loc) : Prop := (vv_ = some (.int 3)) ∧ (LL_ = []) ∧ (hh_ = h0)
theorem rmLw3 (l : Launch) (Z : State) (a0 : Array Value) (hw : own_Hw a0 Z) (ws : List Jvm.Cond) (a : Addr) (t : Addr) (k : ClassId) (vs : List Value) {zc : Int32} {fm : Value} (h0 : Heap) (n0 : Nat) (O0 : Old Z n0 h0) (G_ : own_St Z zc fm) (pr0 : Exa Z h0 a sc0) (pr1 : Fld Z h0 a sc0 "coder" "B" (.int 1)) (pr2 : Fld Z h0 a sc0 "value" "[B" (.ref t)) (pr3 : Arv Z h0 t k .byte (6 : Int32) vs (.int 0)) :
 own_MF l Z ym11 J18 1 (some .int) ws (rm_ 1 0 0 13) #[(.ref a)] h0 (QrmLw3 Z a t k vs h0 n0) := by
 refine own_met (plainFor_of_name pn_java_lang_String) (fun m_ => ef_rmLw3 m_ a) fun pp_ ee_ ss_ mm_ bb_ me_ cc_ s₁ Bd hx hby hml hown hZ hh X0 e0 => ?_
 have B_ {q_ : Nat} {r_ : _} (h_ : decode _ q_ = r_) := hb hby h_
 have hown : ss_.vm.findClass sc0 = some mm_.cls := hown
 have N0 := Fr.nil n0
 have Z0 : n0 ≤ h0.size := by have q := O0.2.1; rw [O0.1] at q; exact q
 have K0 : Keep h0 h0 [] := Keep.refl _ _
 obtain ⟨G_cs, G_cs0, G_cw, G_h_java_lang_String_7, G_fm, G_fr, G_hb, G_lb, G_ad⟩ := id G_
 show Go_ s₁ (mkF mm_ 0 #[vr a] [])
 refine sp_ (fun t_ k_ => XS.aloadN X0.here hx rfl (B_ dk238) rfl rfl k_) ?_
 obtain ⟨T1, X1, e1, st1⟩ := getF X0 hx hZ hown (host := "") (Or.inl (w_ hw 27 rfl)) Via.refl e0 pr2 (g := (mkF mm_ 1 #[vr a] [(.ref a)])) rfl rfl (B_ dk239)
 refine sp_ st1 ?_
 obtain ⟨cl2, Ar2, -, S2, M2, -, -⟩ := id pr3
 refine sp_ (fun t_ k_ => X1.arraylength hx (by rw [e1]; exact Ar2.1) (State.isArrayOf_alike hZ.alike Ar2.2.1) (g := (mkF mm_ 4 #[vr a] [(.ref t)])) rfl rfl (B_ dk240) t_ (by rw [len_of S2 M2]; exact k_)) ?_
 show Go_ T1 (mkF mm_ 5 #[vr a] [(.int 6)])
 refine sp_ (fun t_ k_ => XS.aloadN X1.here hx rfl (B_ dk241) rfl rfl k_) ?_
 obtain ⟨_, T3, Lc3, X3, hQ3, st3⟩ := own_cV X1 hx hZ hown (w_ hw 57 rfl) (w_ hw 58 rfl) (notFace_of_selects (args := #[]) (mvT hZ (w_ hw 60 rfl))) (w_ hw 60 rfl) (w_ hw 59 rfl) (by decide) (backOf (W := 1) (rmCo l Z a0 hw [] a h0 n0 O0 G_ pr1) hZ (w_ hw 61 rfl) (w_ hw 9 rfl) (by decide) (by decide)) pr0 (g := (mkF mm_ 6 #[vr a] [(.ref a), (.int 6)])) rfl hml.symm (argsL := []) (rest := [(.int 6)]) (lenOf pd_9 rfl) rfl (Nat.le_of_eq rfl) (B_ dk242) rfl e1 (by decide) (by decide)
 obtain ⟨rfl, rfl, Eh3⟩ := hQ3
 have N3 := Fr.app N0 (Fr.nil n0)
 refine jp_ st3 ?_
 show Go_ T3 (mkF mm_ 9 #[vr a] [(.int 1), (.int 6)])
 refine sp_ (fun t_ k_ => XS.ishr X3.here hx rfl (B_ dk243) rfl k_) ?_
 show Go_ T3 (mkF mm_ 10 #[vr a] [(.int 3)])
 obtain ⟨fs, hr, hrun, hended, hW, hsame⟩ := X3.leave (v := some (.int 3)) (rN Bd.returns)
 refine ⟨_, _, ?_, hrun, hended, _, _, rfl, ?_, ⟨_, rfl⟩, hW, hsame.mono (by decide) (by decide)⟩
 · exact retI X3 hx Bd.returns (B_ dk244) hr
 · show QrmLw3 Z a t k vs h0 n0 (some (.int 3)) T3.heap _
   rw [Eh3]
   exact ⟨rfl, rfl, rfl⟩
theorem ef_rmLw4 (mm_ : MethodId) (a : Addr) : entryFrame mm_ #[(.ref a)] 1 = (mkF mm_ 0 #[vr a] []) := by first | (simp [entryFrame, mkF, argsToLocals, Value.category]; done) | rfl
def QrmLw4 (Z : State) (a : Addr) (t : Addr) (k : ClassId) (vs : List Value) (h0 : Heap) (n0 : Nat) (vv_ : Option Value) (hh_ : Heap) (LL_ : List Loc) : Prop := (vv_ = some (.int 4)) ∧ (LL_ = []) ∧ (hh_ = h0)
theorem rmLw4 (l : Launch) (Z : State) (a0 : Array Value) (hw : own_Hw a0 Z) (ws : List Jvm.Cond) (a : Addr) (t : Addr) (k : ClassId) (vs : List Value) {zc : Int32} {fm : Value} (h0 : Heap) (n0 : Nat) (O0 : Old Z n0 h0) (G_ : own_St Z zc fm) (pr0 : Exa Z h0 a sc0) (pr1 : Fld Z h0 a sc0 "coder" "B" (.int 1)) (pr2 : Fld Z h0 a sc0 "value" "[B" (.ref t)) (pr3 : Arv Z h0 t k .byte (8 : Int32) vs (.int 0)) :
 own_MF l Z ym11 J18 1 (some .int) ws (rm_ 1 0 0 13) #[(.ref a)] h0 (QrmLw4 Z a t k vs h0 n0) := by
 refine own_met (plainFor_of_name pn_java_lang_String) (fun m_ => ef_rmLw4 m_ a) fun pp_ ee_ ss_ mm_ bb_ me_ cc_ s₁ Bd hx hby hml hown hZ hh X0 e0 => ?_
 have B_ {q_ : Nat} {r_ : _} (h_ : decode _ q_ = r_) := hb hby h_
 have hown : ss_.vm.findClass sc0 = some mm_.cls := hown
 have N0 := Fr.nil n0
 have Z0 : n0 ≤ h0.size := by have q := O0.2.1; rw [O0.1] at q; exact q
 have K0 : Keep h0 h0 [] := Keep.refl _ _
 obtain ⟨G_cs, G_cs0, G_cw, G_h_java_lang_String_7, G_fm, G_fr, G_hb, G_lb, G_ad⟩ := id G_
 show Go_ s₁ (mkF mm_ 0 #[vr a] [])
 refine sp_ (fun t_ k_ => XS.aloadN X0.here hx rfl (B_ dk238) rfl rfl k_) ?_
 obtain ⟨T1, X1, e1, st1⟩ := getF X0 hx hZ hown (host := "") (Or.inl (w_ hw 27 rfl)) Via.refl e0 pr2 (g := (mkF mm_ 1 #[vr a] [(.ref a)])) rfl rfl (B_ dk239)
 refine sp_ st1 ?_
 obtain ⟨cl2, Ar2, -, S2, M2, -, -⟩ := id pr3
 refine sp_ (fun t_ k_ => X1.arraylength hx (by rw [e1]; exact Ar2.1) (State.isArrayOf_alike hZ.alike Ar2.2.1) (g := (mkF mm_ 4 #[vr a] [(.ref t)])) rfl rfl (B_ dk240) t_ (by rw [len_of S2 M2]; exact k_)) ?_
 show Go_ T1 (mkF mm_ 5 #[vr a] [(.int 8)])
 refine sp_ (fun t_ k_ => XS.aloadN X1.here hx rfl (B_ dk241) rfl rfl k_) ?_
 obtain ⟨_, T3, Lc3, X3, hQ3, st3⟩ := own_cV X1 hx hZ hown (w_ hw 57 rfl) (w_ hw 58 rfl) (notFace_of_selects (args := #[]) (mvT hZ (w_ hw 60 rfl))) (w_ hw 60 rfl) (w_ hw 59 rfl) (by decide) (backOf (W := 1) (rmCo l Z a0 hw [] a h0 n0 O0 G_ pr1) hZ (w_ hw 61 rfl) (w_ hw 9 rfl) (by decide) (by decide)) pr0 (g := (mkF mm_ 6 #[vr a] [(.ref a), (.int 8)])) rfl hml.symm (argsL := []) (rest := [(.int 8)]) (lenOf pd_9 rfl) rfl (Nat.le_of_eq rfl) (B_ dk242) rfl e1 (by decide) (by decide)
 obtain ⟨rfl, rfl, Eh3⟩ := hQ3
 have N3 := Fr.app N0 (Fr.nil n0)
 refine jp_ st3 ?_
 show Go_ T3 (mkF mm_ 9 #[vr a] [(.int 1), (.int 8)])
 refine sp_ (fun t_ k_ => XS.ishr X3.here hx rfl (B_ dk243) rfl k_) ?_
 show Go_ T3 (mkF mm_ 10 #[vr a] [(.int 4)])
 obtain ⟨fs, hr, hrun, hended, hW, hsame⟩ := X3.leave (v := some (.int 4)) (rN Bd.returns)
 refine ⟨_, _, ?_, hrun, hended, _, _, rfl, ?_, ⟨_, rfl⟩, hW, hsame.mono (by decide) (by decide)⟩
 · exact retI X3 hx Bd.returns (B_ dk244) hr
 · show QrmLw4 Z a t k vs h0 n0 (some (.int 4)) T3.heap _
   rw [Eh3]
   exact ⟨rfl, rfl, rfl⟩
theorem dk245 : decode J19 0 = .ok (.iload_n 0, 1) := by decide +kernel
theorem dk246 : decode J19 1 = .ok (.aload_n 1, 1) := by decide +kernel
theorem dk247 : decode J19 2 = .ok (.invokestatic 48, 3) := by decide +kernel
theorem pd_10 : parseMethodDescriptor "([B)I" = some ⟨[(.array .byte)], some .int⟩ := by decide +kernel
theorem dk248 : decode J19 5 = .ok (.invokestatic 414, 3) := by decide +kernel
theorem pd_11 : parseMethodDescriptor "(II)V" = some ⟨[.int, .int], none⟩ := by decide +kernel
theorem dk249 : decode J19 8 = .ok (.return_, 1) := by decide +kernel
theorem ef_rmUk (mm_ : MethodId) (i : Int32) (t : Addr) : entryFrame mm_ #[(.int i), (.ref t)] 2 = (mkF mm_ 0 #[vi i, vr t] []) := by first | (simp [entryFrame, mkF, argsToLocals, Value.category]; done) | rfl
def QrmUk (Z : State) (i : Int32) (t : Addr) (k : ClassId) (z : Int32) (vs : List Value) (h0 : Heap) (n0 : Nat) (vv_ : Option Value) (hh_ : Heap) (LL_ : List Loc) : Prop := (vv_ = none) ∧ (LL_ = []) ∧ (hh_ = h0)
theorem rmUk (l : Launch) (Z : State) (a0 : Array Value) (hw : own_Hw a0 Z) (ws : List Jvm.Cond) (i : Int32) (t : Addr) (k : ClassId) (z : Int32) (vs : List Value) {zc : Int32} {fm : Value} (h0 : Heap) (n0 : Nat) (O0 : Old Z n0 h0) (G_ : own_St Z zc fm) (pr0 : Arv Z h0 t k .byte z vs (.int 0)) (hi0 : ¬ (i < (0 : Int32))) (him : i < (z >>> ((1 : Int32) &&& 31))) :
 own_MF l Z (⟨sc1, "checkIndex", "(I[B)V"⟩ : MethodName) J19 2 none ws (rm_ 2 0 0 27) #[(.int i), (.ref t)] h0 (QrmUk Z i t k z vs h0 n0) := by
 refine own_met (plainFor_of_name pn_java_lang_StringUTF16) (fun m_ => ef_rmUk m_ i t) fun pp_ ee_ ss_ mm_ bb_ me_ cc_ s₁ Bd hx hby hml hown hZ hh X0 e0 => ?_
 have B_ {q_ : Nat} {r_ : _} (h_ : decode _ q_ = r_) := hb hby h_
 have hown : ss_.vm.findClass sc1 = some mm_.cls := hown
 have N0 := Fr.nil n0
 have Z0 : n0 ≤ h0.size := by have q := O0.2.1; rw [O0.1] at q; exact q
 have K0 : Keep h0 h0 [] := Keep.refl _ _
 obtain ⟨G_cs, G_cs0, G_cw, G_h_java_lang_String_7, G_fm, G_fr, G_hb, G_lb, G_ad⟩ := id G_
 show Go_ s₁ (mkF mm_ 0 #[vi i, vr t] [])
 refine sp_ (fun t_ k_ => XS.iloadN X0.here hx rfl (B_ dk245) rfl  (XS.aloadN X0.here hx rfl (B_ dk246) rfl rfl k_)) ?_
 obtain ⟨_, T1, Lc1, X1, hQ1, st1⟩ := own_cS X0 hx hZ hown (w_ hw 109 rfl) (w_ hw 110 rfl) (w_ hw 41 rfl) (w_ hw 111 rfl) (by decide) (backOf (W := 1) (rmUl l Z a0 hw [] t k z vs h0 n0 O0 pr0) hZ (w_ hw 111 rfl) (w_ hw 41 rfl) (by decide) (by decide)) (g := (mkF mm_ 2 #[vi i, vr t] [(.ref t), (.int i)])) rfl hml.symm (argsL := [(.ref t)]) (rest := [(.int i)]) (lenOf pd_10 rfl) rfl (Nat.le_of_eq rfl) (B_ dk247) rfl e0 (by decide) (by decide)
 obtain ⟨rfl, rfl, Eh1⟩ := hQ1
 have N1 := Fr.app N0 (Fr.nil n0)
 refine jp_ st1 ?_
 obtain ⟨_, T2, Lc2, X2, hQ2, st2⟩ := own_cS X1 hx hZ hown (w_ hw 112 rfl) (w_ hw 77 rfl) (w_ hw 9 rfl) (w_ hw 78 rfl) (by decide) (backOf (W := 0) (rmSC l Z a0 hw [] i (z >>> ((1 : Int32) &&& 31)) h0 n0 O0 G_ hi0 him) hZ (w_ hw 78 rfl) (w_ hw 9 rfl) (by decide) (by decide)) (g := (mkF mm_ 5 #[vi i, vr t] [(.int (z >>> ((1 : Int32) &&& 31))), (.int i)])) rfl hml.symm (argsL := [(.int i), (.int (z >>> ((1 : Int32) &&& 31)))]) (rest := []) (lenOf pd_11 rfl) rfl (Nat.le_of_eq rfl) (B_ dk248) rfl Eh1 (by decide) (by decide)
 obtain ⟨rfl, rfl, Eh2⟩ := hQ2
 have N2 := Fr.app N1 (Fr.nil n0)
 refine jp_ st2 ?_
 show Go_ T2 (mkF mm_ 8 #[vi i, vr t] [])
 obtain ⟨fs, hr, hrun, hended, hW, hsame⟩ := X2.leave (v := none) (fun _ => rfl)
 refine ⟨_, _, ?_, hrun, hended, _, _, rfl, ?_, ⟨_, rfl⟩, hW, hsame.mono (by decide) (by decide)⟩
 · exact X2.returnOut hx Bd.returns (B_ dk249) hr
 · show QrmUk Z i t k z vs h0 n0 none T2.heap _
   rw [Eh2]
   exact ⟨rfl, rfl, rfl⟩
theorem dk250 : decode J20 0 = .ok (.iload_n 1, 1) := by decide +kernel
theorem dk251 : decode J20 1 = .ok (.aload_n 0, 1) := by decide +kernel
theorem dk252 : decode J20 2 = .ok (.invokestatic 67, 3) := by decide +kernel
theorem pd_12 : parseMethodDescriptor "(I[B)V" = some ⟨[.int, (.array .byte)], none⟩ := by decide +kernel
theorem dk253 : decode J20 5 = .ok (.aload_n 0, 1) := by decide +kernel
theorem dk254 : decode J20 6 = .ok (.iload_n 1, 1) := by decide +kernel
theorem dk255 : decode J20 7 = .ok (.invokestatic 71, 3) := by decide +kernel
theorem dk256 : decode J20 10 = .ok (.ireturn, 1) := by decide +kernel
theorem ef_rmUc0 (mm_ : MethodId) (t : Addr) : entryFrame mm_ #[(.ref t), (.int 0)] 2 = (mkF mm_ 0 #[vr t, vi 0] []) := by first | (simp [entryFrame, mkF, argsToLocals, Value.category]; done) | rfl
def QrmUc0 (Z : State) (t : Addr) (k : ClassId) (z : Int32) (vs : List Value) (c : Int32) (h0 : Heap) (n0 : Nat) (vv_ : Option Value) (hh_ : Heap) (LL_ : List Loc) : Prop := (vv_ = some (.int c)) ∧ (LL_ = []) ∧ (hh_ = h0)
theorem rmUc0 (l : Launch) (Z : State) (a0 : Array Value) (hw : own_Hw a0 Z) (ws : List Jvm.Cond) (t : Addr) (k : ClassId) (z : Int32) (vs : List Value) (c : Int32) {zc : Int32} {fm : Value} (h0 : Heap) (n0 : Nat) (O0 : Old Z n0 h0) (G_ : own_St Z zc fm) (pr0 : Arv Z h0 t k .byte z vs (.int 0)) (hz0 : (0 : Int32) < z) (hz1 : (1 : Int32) < z) (hv0 : vs.getD 0 (.int 0) = (lb c)) (hv1 : vs.getD 1 (.int 0) = (hb_ c)) (hc_c : ¬ c < (0 : Int32) ∧ ¬ (65535 : Int32) < c) (hlj : (0 : Int32) < (z >>> ((1 : Int32) &&& 31))) :
 own_MF l Z ym12 J20 2 (some .char) ws (rm_ 3 0 0 40) #[(.ref t), (.int 0)] h0 (QrmUc0 Z t k z vs c h0 n0) := by
 refine own_met (plainFor_of_name pn_java_lang_StringUTF16) (fun m_ => ef_rmUc0 m_ t) fun pp_ ee_ ss_ mm_ bb_ me_ cc_ s₁ Bd hx hby hml hown hZ hh X0 e0 => ?_
 have B_ {q_ : Nat} {r_ : _} (h_ : decode _ q_ = r_) := hb hby h_
 have hown : ss_.vm.findClass sc1 = some mm_.cls := hown
 have N0 := Fr.nil n0
 have Z0 : n0 ≤ h0.size := by have q := O0.2.1; rw [O0.1] at q; exact q
 have K0 : Keep h0 h0 [] := Keep.refl _ _
 obtain ⟨G_cs, G_cs0, G_cw, G_h_java_lang_String_7, G_fm, G_fr, G_hb, G_lb, G_ad⟩ := id G_
 show Go_ s₁ (mkF mm_ 0 #[vr t, vi 0] [])
 refine sp_ (fun t_ k_ => XS.iloadN X0.here hx rfl (B_ dk250) rfl  (XS.aloadN X0.here hx rfl (B_ dk251) rfl rfl k_)) ?_
 obtain ⟨_, T1, Lc1, X1, hQ1, st1⟩ := own_cS X0 hx hZ hown (w_ hw 106 rfl) (w_ hw 107 rfl) (w_ hw 41 rfl) (w_ hw 108 rfl) (by decide) (backOf (W := 0) (rmUk l Z a0 hw [] (0 : Int32) t k z vs h0 n0 O0 G_ pr0 (by first | assumption | rfl | decide | (simp; done)) hlj) hZ (w_ hw 108 rfl) (w_ hw 41 rfl) (by decide) (by decide)) (g := (mkF mm_ 2 #[vr t, vi 0] [(.ref t), (.int 0)])) rfl hml.symm (argsL := [(.int 0), (.ref t)]) (rest := []) (lenOf pd_12 rfl) rfl (Nat.le_of_eq rfl) (B_ dk252) rfl e0 (by decide) (by decide)
 obtain ⟨rfl, rfl, Eh1⟩ := hQ1
 have N1 := Fr.app N0 (Fr.nil n0)
 refine jp_ st1 ?_
 show Go_ T1 (mkF mm_ 5 #[vr t, vi 0] [])
 refine sp_ (fun t_ k_ => XS.aloadN X1.here hx rfl (B_ dk253) rfl rfl (XS.iloadN X1.here hx rfl (B_ dk254) rfl  k_)) ?_
 obtain ⟨_, T2, Lc2, X2, hQ2, st2⟩ := own_cS X1 hx hZ hown (w_ hw 100 rfl) (w_ hw 101 rfl) (w_ hw 41 rfl) (w_ hw 102 rfl) (by decide) (backOf (W := 0) (rmGt0 l Z a0 hw [] t k z vs c h0 n0 O0 G_ pr0 hz0 hz1 hv0 hv1 hc_c) hZ (w_ hw 102 rfl) (w_ hw 41 rfl) (by decide) (by decide)) (g := (mkF mm_ 7 #[vr t, vi 0] [(.int 0), (.ref t)])) rfl hml.symm (argsL := [(.ref t), (.int 0)]) (rest := []) (lenOf pd_6 rfl) rfl (Nat.le_of_eq rfl) (B_ dk255) rfl Eh1 (by decide) (by decide)
 obtain ⟨rfl, rfl, Eh2⟩ := hQ2
 have N2 := Fr.app N1 (Fr.nil n0)
 refine jp_ st2 ?_
 show Go_ T2 (mkF mm_ 10 #[vr t, vi 0] [(.int c)])
 obtain ⟨fs, hr, hrun, hended, hW, hsame⟩ := X2.leave (v := some (.int (nar .char c))) (rN Bd.returns)
 refine ⟨_, _, ?_, hrun, hended, _, _, rfl, ?_, ⟨_, rfl⟩, hW, hsame.mono (by decide) (by decide)⟩
 · exact retN X2 hx (t := .char) Bd.returns (by simp) (B_ dk256) hr
 · show QrmUc0 Z t k z vs c h0 n0 (some (.int (nar .char c))) T2.heap _
   rw [Eh2]
   exact ⟨(by rw [own_narLit _ hc_c.1 hc_c.2]), rfl, rfl⟩
theorem dk257 : decode J21 0 = .ok (.aload_n 0, 1) := by decide +kernel
theorem dk258 : decode J21 1 = .ok (.invokevirtual 492, 3) := by decide +kernel
theorem pd_13 : parseMethodDescriptor "()Z" = some ⟨[], some .boolean⟩ := by decide +kernel
theorem dk259 : decode J21 4 = .ok (.ifCond .eq 12, 3) := by decide +kernel
theorem dk260 : decode J21 16 = .ok (.aload_n 0, 1) := by decide +kernel
theorem dk261 : decode J21 17 = .ok (.getfield 9, 3) := by decide +kernel
theorem dk262 : decode J21 20 = .ok (.iload_n 1, 1) := by decide +kernel
theorem dk263 : decode J21 21 = .ok (.invokestatic 498, 3) := by decide +kernel
theorem dk264 : decode J21 24 = .ok (.ireturn, 1) := by decide +kernel
theorem ef_rmCa0 (mm_ : MethodId) (a : Addr) : entryFrame mm_ #[(.ref a), (.int 0)] 2 = (mkF mm_ 0 #[vr a, vi 0] []) := by first | (simp [entryFrame, mkF, argsToLocals, Value.category]; done) | rfl
def QrmCa0 (Z : State) (a : Addr) (t : Addr) (k : ClassId) (z : Int32) (vs : List Value) (c : Int32) (h0 : Heap) (n0 : Nat) (vv_ : Option Value) (hh_ : Heap) (LL_ : List Loc) : Prop := (vv_ = some (.int c)) ∧ (LL_ = []) ∧ (hh_ = h0)
theorem rmCa0 (l : Launch) (Z : State) (a0 : Array Value) (hw : own_Hw a0 Z) (ws : List Jvm.Cond) (a : Addr) (t : Addr) (k : ClassId) (z : Int32) (vs : List Value) (c : Int32) {zc : Int32} {fm : Value} (h0 : Heap) (n0 : Nat) (O0 : Old Z n0 h0) (G_ : own_St Z zc fm) (pr0 : Exa Z h0 a sc0) (pr1 : Fld Z h0 a sc0 "coder" "B" (.int 1)) (pr2 : Fld Z h0 a sc0 "value" "[B" (.ref t)) (pr3 : Arv Z h0 t k .byte z vs (.int 0)) (hz0 : (0 : Int32) < z) (hz1 : (1 : Int32) < z) (hv0 : vs.getD 0 (.int 0) = (lb c)) (hv1 : vs.getD 1 (.int 0) = (hb_ c)) (hc_c : ¬ c < (0 : Int32) ∧ ¬ (65535 : Int32) < c) (hlj : (0 : Int32) < (z >>> ((1 : Int32) &&& 31))) :
 own_MF l Z ym13 J21 2 (some .char) ws (rm_ 4 0 0 53) #[(.ref a), (.int 0)] h0 (QrmCa0 Z a t k z vs c h0 n0) := by
 refine own_met (plainFor_of_name pn_java_lang_String) (fun m_ => ef_rmCa0 m_ a) fun pp_ ee_ ss_ mm_ bb_ me_ cc_ s₁ Bd hx hby hml hown hZ hh X0 e0 => ?_
 have B_ {q_ : Nat} {r_ : _} (h_ : decode _ q_ = r_) := hb hby h_
 have hown : ss_.vm.findClass sc0 = some mm_.cls := hown
 have N0 := Fr.nil n0
 have Z0 : n0 ≤ h0.size := by have q := O0.2.1; rw [O0.1] at q; exact q
 have K0 : Keep h0 h0 [] := Keep.refl _ _
 obtain ⟨G_cs, G_cs0, G_cw, G_h_java_lang_String_7, G_fm, G_fr, G_hb, G_lb, G_ad⟩ := id G_
 show Go_ s₁ (mkF mm_ 0 #[vr a, vi 0] [])
 refine sp_ (fun t_ k_ => XS.aloadN X0.here hx rfl (B_ dk257) rfl rfl k_) ?_
 obtain ⟨_, T1, Lc1, X1, hQ1, st1⟩ := own_cV X0 hx hZ hown (w_ hw 67 rfl) (w_ hw 68 rfl) (notFace_of_selects (args := #[]) (mvT hZ (w_ hw 70 rfl))) (w_ hw 70 rfl) (w_ hw 69 rfl) (by decide) (backOf (W := 0) (rmIl l Z a0 hw [] a h0 n0 O0 G_ pr1) hZ (w_ hw 71 rfl) (w_ hw 9 rfl) (by decide) (by decide)) pr0 (g := (mkF mm_ 1 #[vr a, vi 0] [(.ref a)])) rfl hml.symm (argsL := []) (rest := []) (lenOf pd_13 rfl) rfl (Nat.le_of_eq rfl) (B_ dk258) rfl e0 (by decide) (by decide)
 obtain ⟨rfl, rfl, Eh1⟩ := hQ1
 have N1 := Fr.app N0 (Fr.nil n0)
 refine jp_ st1 ?_
 show Go_ T1 (mkF mm_ 4 #[vr a, vi 0] [(.int 0)])
 refine sp_ (fun t_ k_ => XS.ifYes X1.here hx rfl (pc0 := 4) (pc' := 16) rfl (B_ dk259) rfl ((if0 _ _).trans (teq (by decide : (0 : Int32) = (0 : Int32))).1) (by decide) (by decide) k_) ?_
 show Go_ T1 (mkF mm_ 16 #[vr a, vi 0] [])
 refine sp_ (fun t_ k_ => XS.aloadN X1.here hx rfl (B_ dk260) rfl rfl k_) ?_
 obtain ⟨T2, X2, e2, st2⟩ := getF X1 hx hZ hown (host := "") (Or.inl (w_ hw 27 rfl)) Via.refl Eh1 pr2 (g := (mkF mm_ 17 #[vr a, vi 0] [(.ref a)])) rfl rfl (B_ dk261)
 refine sp_ st2 ?_
 show Go_ T2 (mkF mm_ 20 #[vr a, vi 0] [(.ref t)])
 refine sp_ (fun t_ k_ => XS.iloadN X2.here hx rfl (B_ dk262) rfl  k_) ?_
 obtain ⟨_, T3, Lc3, X3, hQ3, st3⟩ := own_cS X2 hx hZ hown (w_ hw 103 rfl) (w_ hw 104 rfl) (w_ hw 41 rfl) (w_ hw 105 rfl) (by decide) (backOf (W := 0) (rmUc0 l Z a0 hw [] t k z vs c h0 n0 O0 G_ pr3 hz0 hz1 hv0 hv1 hc_c hlj) hZ (w_ hw 105 rfl) (w_ hw 41 rfl) (by decide) (by decide)) (g := (mkF mm_ 21 #[vr a, vi 0] [(.int 0), (.ref t)])) rfl hml.symm (argsL := [(.ref t), (.int 0)]) (rest := []) (lenOf pd_6 rfl) rfl (Nat.le_of_eq rfl) (B_ dk263) rfl e2 (by decide) (by decide)
 obtain ⟨rfl, rfl, Eh3⟩ := hQ3
 have N3 := Fr.app N1 (Fr.nil n0)
 refine jp_ st3 ?_
 show Go_ T3 (mkF mm_ 24 #[vr a, vi 0] [(.int c)])
 obtain ⟨fs, hr, hrun, hended, hW, hsame⟩ := X3.leave (v := some (.int (nar .char c))) (rN Bd.returns)
 refine ⟨_, _, ?_, hrun, hended, _, _, rfl, ?_, ⟨_, rfl⟩, hW, hsame.mono (by decide) (by decide)⟩
 · exact retN X3 hx (t := .char) Bd.returns (by simp) (B_ dk264) hr
 · show QrmCa0 Z a t k z vs c h0 n0 (some (.int (nar .char c))) T3.heap _
   rw [Eh3]
   exact ⟨(by rw [own_narLit _ hc_c.1 hc_c.2]), rfl, rfl⟩
theorem ef_rmUc1 (mm_ : MethodId) (t : Addr) : entryFrame mm_ #[(.ref t), (.int 1)] 2 = (mkF mm_ 0 #[vr t, vi 1] []) := by first | (simp [entryFrame, mkF, argsToLocals, Value.category]; done) | rfl
def QrmUc1 (Z : State) (t : Addr) (k : ClassId) (z : Int32) (vs : List Value) (c : Int32) (h0 : Heap) (n0 : Nat) (vv_ : Option Value) (hh_ : Heap) (LL_ : List Loc) : Prop := (vv_ = some (.int c)) ∧ (LL_ = []) ∧ (hh_ = h0)
theorem rmUc1 (l : Launch) (Z : State) (a0 : Array Value) (hw : own_Hw a0 Z) (ws : List Jvm.Cond) (t : Addr) (k : ClassId) (z : Int32) (vs : List Value) (c : Int32) {zc : Int32} {fm : Value} (h0 : Heap) (n0 : Nat) (O0 : Old Z n0 h0) (G_ : own_St Z zc fm) (pr0 : Arv Z h0 t k .byte z vs (.int 0)) (hz0 : (2 : Int32) < z) (hz1 : (3 : Int32) < z) (hv0 : vs.getD 2 (.int 0) = (lb c)) (hv1 : vs.getD 3 (.int 0) = (hb_ c)) (hc_c : ¬ c < (0 : Int32) ∧ ¬ (65535 : Int32) < c) (hlj : (1 : Int32) < (z >>> ((1 : Int32) &&& 31))) :
 own_MF l Z ym12 J20 2 (some .char) ws (rm_ 3 0 0 40) #[(.ref t), (.int 1)] h0 (QrmUc1 Z t k z vs c h0 n0) := by
 refine own_met (plainFor_of_name pn_java_lang_StringUTF16) (fun m_ => ef_rmUc1 m_ t) fun pp_ ee_ ss_ mm_ bb_ me_ cc_ s₁ Bd hx hby hml hown hZ hh X0 e0 => ?_
 have B_ {q_ : Nat} {r_ : _} (h_ : decode _ q_ = r_) := hb hby h_
 have hown : ss_.vm.findClass sc1 = some mm_.cls := hown
 have N0 := Fr.nil n0
 have Z0 : n0 ≤ h0.size := by have q := O0.2.1; rw [O0.1] at q; exact q
 have K0 : Keep h0 h0 [] := Keep.refl _ _
 obtain ⟨G_cs, G_cs0, G_cw, G_h_java_lang_String_7, G_fm, G_fr, G_hb, G_lb, G_ad⟩ := id G_
 show Go_ s₁ (mkF mm_ 0 #[vr t, vi 1] [])
 refine sp_ (fun t_ k_ => XS.iloadN X0.here hx rfl (B_ dk250) rfl  (XS.aloadN X0.here hx rfl (B_ dk251) rfl rfl k_)) ?_
 obtain ⟨_, T1, Lc1, X1, hQ1, st1⟩ := own_cS X0 hx hZ hown (w_ hw 106 rfl) (w_ hw 107 rfl) (w_ hw 41 rfl) (w_ hw 108 rfl) (by decide) (backOf (W := 0) (rmUk l Z a0 hw [] (1 : Int32) t k z vs h0 n0 O0 G_ pr0 (by first | assumption | rfl | decide | (simp; done)) hlj) hZ (w_ hw 108 rfl) (w_ hw 41 rfl) (by decide) (by decide)) (g := (mkF mm_ 2 #[vr t, vi 1] [(.ref t), (.int 1)])) rfl hml.symm (argsL := [(.int 1), (.ref t)]) (rest := []) (lenOf pd_12 rfl) rfl (Nat.le_of_eq rfl) (B_ dk252) rfl e0 (by decide) (by decide)
 obtain ⟨rfl, rfl, Eh1⟩ := hQ1
 have N1 := Fr.app N0 (Fr.nil n0)
 refine jp_ st1 ?_
 show Go_ T1 (mkF mm_ 5 #[vr t, vi 1] [])
 refine sp_ (fun t_ k_ => XS.aloadN X1.here hx rfl (B_ dk253) rfl rfl (XS.iloadN X1.here hx rfl (B_ dk254) rfl  k_)) ?_
 obtain ⟨_, T2, Lc2, X2, hQ2, st2⟩ := own_cS X1 hx hZ hown (w_ hw 100 rfl) (w_ hw 101 rfl) (w_ hw 41 rfl) (w_ hw 102 rfl) (by decide) (backOf (W := 0) (rmGt1 l Z a0 hw [] t k z vs c h0 n0 O0 G_ pr0 hz0 hz1 hv0 hv1 hc_c) hZ (w_ hw 102 rfl) (w_ hw 41 rfl) (by decide) (by decide)) (g := (mkF mm_ 7 #[vr t, vi 1] [(.int 1), (.ref t)])) rfl hml.symm (argsL := [(.ref t), (.int 1)]) (rest := []) (lenOf pd_6 rfl) rfl (Nat.le_of_eq rfl) (B_ dk255) rfl Eh1 (by decide) (by decide)
 obtain ⟨rfl, rfl, Eh2⟩ := hQ2
 have N2 := Fr.app N1 (Fr.nil n0)
 refine jp_ st2 ?_
 show Go_ T2 (mkF mm_ 10 #[vr t, vi 1] [(.int c)])
 obtain ⟨fs, hr, hrun, hended, hW, hsame⟩ := X2.leave (v := some (.int (nar .char c))) (rN Bd.returns)
 refine ⟨_, _, ?_, hrun, hended, _, _, rfl, ?_, ⟨_, rfl⟩, hW, hsame.mono (by decide) (by decide)⟩
 · exact retN X2 hx (t := .char) Bd.returns (by simp) (B_ dk256) hr
 · show QrmUc1 Z t k z vs c h0 n0 (some (.int (nar .char c))) T2.heap _
   rw [Eh2]
   exact ⟨(by rw [own_narLit _ hc_c.1 hc_c.2]), rfl, rfl⟩
theorem ef_rmCa1 (mm_ : MethodId) (a : Addr) : entryFrame mm_ #[(.ref a), (.int 1)] 2 = (mkF mm_ 0 #[vr a, vi 1] []) := by first | (simp [entryFrame, mkF, argsToLocals, Value.category]; done) | rfl
def QrmCa1 (Z : State) (a : Addr) (t : Addr) (k : ClassId) (z : Int32) (vs : List Value) (c : Int32) (h0 : Heap) (n0 : Nat) (vv_ : Option Value) (hh_ : Heap) (LL_ : List Loc) : Prop := (vv_ = some (.int c)) ∧ (LL_ = []) ∧ (hh_ = h0)
theorem rmCa1 (l : Launch) (Z : State) (a0 : Array Value) (hw : own_Hw a0 Z) (ws : List Jvm.Cond) (a : Addr) (t : Addr) (k : ClassId) (z : Int32) (vs : List Value) (c : Int32) {zc : Int32} {fm : Value} (h0 : Heap) (n0 : Nat) (O0 : Old Z n0 h0) (G_ : own_St Z zc fm) (pr0 : Exa Z h0 a sc0) (pr1 : Fld Z h0 a sc0 "coder" "B" (.int 1)) (pr2 : Fld Z h0 a sc0 "value" "[B" (.ref t)) (pr3 : Arv Z h0 t k .byte z vs (.int 0)) (hz0 : (2 : Int32) < z) (hz1 : (3 : Int32) < z) (hv0 : vs.getD 2 (.int 0) = (lb c)) (hv1 : vs.getD 3 (.int 0) = (hb_ c)) (hc_c : ¬ c < (0 : Int32) ∧ ¬ (65535 : Int32) < c) (hlj : (1 : Int32) < (z >>> ((1 : Int32) &&& 31))) :
 own_MF l Z ym13 J21 2 (some .char) ws (rm_ 4 0 0 53) #[(.ref a), (.int 1)] h0 (QrmCa1 Z a t k z vs c h0 n0) := by
 refine own_met (plainFor_of_name pn_java_lang_String) (fun m_ => ef_rmCa1 m_ a) fun pp_ ee_ ss_ mm_ bb_ me_ cc_ s₁ Bd hx hby hml hown hZ hh X0 e0 => ?_
 have B_ {q_ : Nat} {r_ : _} (h_ : decode _ q_ = r_) := hb hby h_
 have hown : ss_.vm.findClass sc0 = some mm_.cls := hown
 have N0 := Fr.nil n0
 have Z0 : n0 ≤ h0.size := by have q := O0.2.1; rw [O0.1] at q; exact q
 have K0 : Keep h0 h0 [] := Keep.refl _ _
 obtain ⟨G_cs, G_cs0, G_cw, G_h_java_lang_String_7, G_fm, G_fr, G_hb, G_lb, G_ad⟩ := id G_
 show Go_ s₁ (mkF mm_ 0 #[vr a, vi 1] [])
 refine sp_ (fun t_ k_ => XS.aloadN X0.here hx rfl (B_ dk257) rfl rfl k_) ?_
 obtain ⟨_, T1, Lc1, X1, hQ1, st1⟩ := own_cV X0 hx hZ hown (w_ hw 67 rfl) (w_ hw 68 rfl) (notFace_of_selects (args := #[]) (mvT hZ (w_ hw 70 rfl))) (w_ hw 70 rfl) (w_ hw 69 rfl) (by decide) (backOf (W := 0) (rmIl l Z a0 hw [] a h0 n0 O0 G_ pr1) hZ (w_ hw 71 rfl) (w_ hw 9 rfl) (by decide) (by decide)) pr0 (g := (mkF mm_ 1 #[vr a, vi 1] [(.ref a)])) rfl hml.symm (argsL := []) (rest := []) (lenOf pd_13 rfl) rfl (Nat.le_of_eq rfl) (B_ dk258) rfl e0 (by decide) (by decide)
 obtain ⟨rfl, rfl, Eh1⟩ := hQ1
 have N1 := Fr.app N0 (Fr.nil n0)
 refine jp_ st1 ?_
 show Go_ T1 (mkF mm_ 4 #[vr a, vi 1] [(.int 0)])
 refine sp_ (fun t_ k_ => XS.ifYes X1.here hx rfl (pc0 := 4) (pc' := 16) rfl (B_ dk259) rfl ((if0 _ _).trans (teq (by decide : (0 : Int32) = (0 : Int32))).1) (by decide) (by decide) k_) ?_
 show Go_ T1 (mkF mm_ 16 #[vr a, vi 1] [])
 refine sp_ (fun t_ k_ => XS.aloadN X1.here hx rfl (B_ dk260) rfl rfl k_) ?_
 obtain ⟨T2, X2, e2, st2⟩ := getF X1 hx hZ hown (host := "") (Or.inl (w_ hw 27 rfl)) Via.refl Eh1 pr2 (g := (mkF mm_ 17 #[vr a, vi 1] [(.ref a)])) rfl rfl (B_ dk261)
 refine sp_ st2 ?_
 show Go_ T2 (mkF mm_ 20 #[vr a, vi 1] [(.ref t)])
 refine sp_ (fun t_ k_ => XS.iloadN X2.here hx rfl (B_ dk262) rfl  k_) ?_
 obtain ⟨_, T3, Lc3, X3, hQ3, st3⟩ := own_cS X2 hx hZ hown (w_ hw 103 rfl) (w_ hw 104 rfl) (w_ hw 41 rfl) (w_ hw 105 rfl) (by decide) (backOf (W := 0) (rmUc1 l Z a0 hw [] t k z vs c h0 n0 O0 G_ pr3 hz0 hz1 hv0 hv1 hc_c hlj) hZ (w_ hw 105 rfl) (w_ hw 41 rfl) (by decide) (by decide)) (g := (mkF mm_ 21 #[vr a, vi 1] [(.int 1), (.ref t)])) rfl hml.symm (argsL := [(.ref t), (.int 1)]) (rest := []) (lenOf pd_6 rfl) rfl (Nat.le_of_eq rfl) (B_ dk263) rfl e2 (by decide) (by decide)
 obtain ⟨rfl, rfl, Eh3⟩ := hQ3
 have N3 := Fr.app N1 (Fr.nil n0)
 refine jp_ st3 ?_
 show Go_ T3 (mkF mm_ 24 #[vr a, vi 1] [(.int c)])
 obtain ⟨fs, hr, hrun, hended, hW, hsame⟩ := X3.leave (v := some (.int (nar .char c))) (rN Bd.returns)
 refine ⟨_, _, ?_, hrun, hended, _, _, rfl, ?_, ⟨_, rfl⟩, hW, hsame.mono (by decide) (by decide)⟩
 · exact retN X3 hx (t := .char) Bd.returns (by simp) (B_ dk264) hr
 · show QrmCa1 Z a t k z vs c h0 n0 (some (.int (nar .char c))) T3.heap _
   rw [Eh3]
   exact ⟨(by rw [own_narLit _ hc_c.1 hc_c.2]), rfl, rfl⟩
theorem ef_rmUc2 (mm_ : MethodId) (t : Addr) : entryFrame mm_ #[(.ref t), (.int 2)] 2 = (mkF mm_ 0 #[vr t, vi 2] []) := by first | (simp [entryFrame, mkF, argsToLocals, Value.category]; done) | rfl
def QrmUc2 (Z : State) (t : Addr) (k : ClassId) (z : Int32) (vs : List Value) (c : Int32) (h0 : Heap) (n0 : Nat) (vv_ : Option Value) (hh_ : Heap) (LL_ : List Loc) : Prop := (vv_ = some (.int c)) ∧ (LL_ = []) ∧ (hh_ = h0)
theorem rmUc2 (l : Launch) (Z : State) (a0 : Array Value) (hw : own_Hw a0 Z) (ws : List Jvm.Cond) (t : Addr) (k : ClassId) (z : Int32) (vs : List Value) (c : Int32) {zc : Int32} {fm : Value} (h0 : Heap) (n0 : Nat) (O0 : Old Z n0 h0) (G_ : own_St Z zc fm) (pr0 : Arv Z h0 t k .byte z vs (.int 0)) (hz0 : (4 : Int32) < z) (hz1 : (5 : Int32) < z) (hv0 : vs.getD 4 (.int 0) = (lb c)) (hv1 : vs.getD 5 (.int 0) = (hb_ c)) (hc_c : ¬ c < (0 : Int32) ∧ ¬ (65535 : Int32) < c) (hlj : (2 : Int32) < (z >>> ((1 : Int32) &&& 31))) :
 own_MF l Z ym12 J20 2 (some .char) ws (rm_ 3 0 0 40) #[(.ref t), (.int 2)] h0 (QrmUc2 Z t k z vs c h0 n0) := by
 refine own_met (plainFor_of_name pn_java_lang_StringUTF16) (fun m_ => ef_rmUc2 m_ t) fun pp_ ee_ ss_ mm_ bb_ me_ cc_ s₁ Bd hx hby hml hown hZ hh X0 e0 => ?_
 have B_ {q_ : Nat} {r_ : _} (h_ : decode _ q_ = r_) := hb hby h_
 have hown : ss_.vm.findClass sc1 = some mm_.cls := hown
 have N0 := Fr.nil n0
 have Z0 : n0 ≤ h0.size := by have q := O0.2.1; rw [O0.1] at q; exact q
 have K0 : Keep h0 h0 [] := Keep.refl _ _
 obtain ⟨G_cs, G_cs0, G_cw, G_h_java_lang_String_7, G_fm, G_fr, G_hb, G_lb, G_ad⟩ := id G_
 show Go_ s₁ (mkF mm_ 0 #[vr t, vi 2] [])
 refine sp_ (fun t_ k_ => XS.iloadN X0.here hx rfl (B_ dk250) rfl  (XS.aloadN X0.here hx rfl (B_ dk251) rfl rfl k_)) ?_
 obtain ⟨_, T1, Lc1, X1, hQ1, st1⟩ := own_cS X0 hx hZ hown (w_ hw 106 rfl) (w_ hw 107 rfl) (w_ hw 41 rfl) (w_ hw 108 rfl) (by decide) (backOf (W := 0) (rmUk l Z a0 hw [] (2 : Int32) t k z vs h0 n0 O0 G_ pr0 (by first | assumption | rfl | decide | (simp; done)) hlj) hZ (w_ hw 108 rfl) (w_ hw 41 rfl) (by decide) (by decide)) (g := (mkF mm_ 2 #[vr t, vi 2] [(.ref t), (.int 2)])) rfl hml.symm (argsL := [(.int 2), (.ref t)]) (rest := []) (lenOf pd_12 rfl) rfl (Nat.le_of_eq rfl) (B_ dk252) rfl e0 (by decide) (by decide)
 obtain ⟨rfl, rfl, Eh1⟩ := hQ1
 have N1 := Fr.app N0 (Fr.nil n0)
 refine jp_ st1 ?_
 show Go_ T1 (mkF mm_ 5 #[vr t, vi 2] [])
 refine sp_ (fun t_ k_ => XS.aloadN X1.here hx rfl (B_ dk253) rfl rfl (XS.iloadN X1.here hx rfl (B_ dk254) rfl  k_)) ?_
 obtain ⟨_, T2, Lc2, X2, hQ2, st2⟩ := own_cS X1 hx hZ hown (w_ hw 100 rfl) (w_ hw 101 rfl) (w_ hw 41 rfl) (w_ hw 102 rfl) (by decide) (backOf (W := 0) (rmGt2 l Z a0 hw [] t k z vs c h0 n0 O0 G_ pr0 hz0 hz1 hv0 hv1 hc_c) hZ (w_ hw 102 rfl) (w_ hw 41 rfl) (by decide) (by decide)) (g := (mkF mm_ 7 #[vr t, vi 2] [(.int 2), (.ref t)])) rfl hml.symm (argsL := [(.ref t), (.int 2)]) (rest := []) (lenOf pd_6 rfl) rfl (Nat.le_of_eq rfl) (B_ dk255) rfl Eh1 (by decide) (by decide)
 obtain ⟨rfl, rfl, Eh2⟩ := hQ2
 have N2 := Fr.app N1 (Fr.nil n0)
 refine jp_ st2 ?_
 show Go_ T2 (mkF mm_ 10 #[vr t, vi 2] [(.int c)])
 obtain ⟨fs, hr, hrun, hended, hW, hsame⟩ := X2.leave (v := some (.int (nar .char c))) (rN Bd.returns)
 refine ⟨_, _, ?_, hrun, hended, _, _, rfl, ?_, ⟨_, rfl⟩, hW, hsame.mono (by decide) (by decide)⟩
 · exact retN X2 hx (t := .char) Bd.returns (by simp) (B_ dk256) hr
 · show QrmUc2 Z t k z vs c h0 n0 (some (.int (nar .char c))) T2.heap _
   rw [Eh2]
   exact ⟨(by rw [own_narLit _ hc_c.1 hc_c.2]), rfl, rfl⟩
theorem ef_rmCa2 (mm_ : MethodId) (a : Addr) : entryFrame mm_ #[(.ref a), (.int 2)] 2 = (mkF mm_ 0 #[vr a, vi 2] []) := by first | (simp [entryFrame, mkF, argsToLocals, Value.category]; done) | rfl
def QrmCa2 (Z : State) (a : Addr) (t : Addr) (k : ClassId) (z : Int32) (vs : List Value) (c : Int32) (h0 : Heap) (n0 : Nat) (vv_ : Option Value) (hh_ : Heap) (LL_ : List Loc) : Prop := (vv_ = some (.int c)) ∧ (LL_ = []) ∧ (hh_ = h0)
theorem rmCa2 (l : Launch) (Z : State) (a0 : Array Value) (hw : own_Hw a0 Z) (ws : List Jvm.Cond) (a : Addr) (t : Addr) (k : ClassId) (z : Int32) (vs : List Value) (c : Int32) {zc : Int32} {fm : Value} (h0 : Heap) (n0 : Nat) (O0 : Old Z n0 h0) (G_ : own_St Z zc fm) (pr0 : Exa Z h0 a sc0) (pr1 : Fld Z h0 a sc0 "coder" "B" (.int 1)) (pr2 : Fld Z h0 a sc0 "value" "[B" (.ref t)) (pr3 : Arv Z h0 t k .byte z vs (.int 0)) (hz0 : (4 : Int32) < z) (hz1 : (5 : Int32) < z) (hv0 : vs.getD 4 (.int 0) = (lb c)) (hv1 : vs.getD 5 (.int 0) = (hb_ c)) (hc_c : ¬ c < (0 : Int32) ∧ ¬ (65535 : Int32) < c) (hlj : (2 : Int32) < (z >>> ((1 : Int32) &&& 31))) :
 own_MF l Z ym13 J21 2 (some .char) ws (rm_ 4 0 0 53) #[(.ref a), (.int 2)] h0 (QrmCa2 Z a t k z vs c h0 n0) := by
 refine own_met (plainFor_of_name pn_java_lang_String) (fun m_ => ef_rmCa2 m_ a) fun pp_ ee_ ss_ mm_ bb_ me_ cc_ s₁ Bd hx hby hml hown hZ hh X0 e0 => ?_
 have B_ {q_ : Nat} {r_ : _} (h_ : decode _ q_ = r_) := hb hby h_
 have hown : ss_.vm.findClass sc0 = some mm_.cls := hown
 have N0 := Fr.nil n0
 have Z0 : n0 ≤ h0.size := by have q := O0.2.1; rw [O0.1] at q; exact q
 have K0 : Keep h0 h0 [] := Keep.refl _ _
 obtain ⟨G_cs, G_cs0, G_cw, G_h_java_lang_String_7, G_fm, G_fr, G_hb, G_lb, G_ad⟩ := id G_
 show Go_ s₁ (mkF mm_ 0 #[vr a, vi 2] [])
 refine sp_ (fun t_ k_ => XS.aloadN X0.here hx rfl (B_ dk257) rfl rfl k_) ?_
 obtain ⟨_, T1, Lc1, X1, hQ1, st1⟩ := own_cV X0 hx hZ hown (w_ hw 67 rfl) (w_ hw 68 rfl) (notFace_of_selects (args := #[]) (mvT hZ (w_ hw 70 rfl))) (w_ hw 70 rfl) (w_ hw 69 rfl) (by decide) (backOf (W := 0) (rmIl l Z a0 hw [] a h0 n0 O0 G_ pr1) hZ (w_ hw 71 rfl) (w_ hw 9 rfl) (by decide) (by decide)) pr0 (g := (mkF mm_ 1 #[vr a, vi 2] [(.ref a)])) rfl hml.symm (argsL := []) (rest := []) (lenOf pd_13 rfl) rfl (Nat.le_of_eq rfl) (B_ dk258) rfl e0 (by decide) (by decide)
 obtain ⟨rfl, rfl, Eh1⟩ := hQ1
 have N1 := Fr.app N0 (Fr.nil n0)
 refine jp_ st1 ?_
 show Go_ T1 (mkF mm_ 4 #[vr a, vi 2] [(.int 0)])
 refine sp_ (fun t_ k_ => XS.ifYes X1.here hx rfl (pc0 := 4) (pc' := 16) rfl (B_ dk259) rfl ((if0 _ _).trans (teq (by decide : (0 : Int32) = (0 : Int32))).1) (by decide) (by decide) k_) ?_
 show Go_ T1 (mkF mm_ 16 #[vr a, vi 2] [])
 refine sp_ (fun t_ k_ => XS.aloadN X1.here hx rfl (B_ dk260) rfl rfl k_) ?_
 obtain ⟨T2, X2, e2, st2⟩ := getF X1 hx hZ hown (host := "") (Or.inl (w_ hw 27 rfl)) Via.refl Eh1 pr2 (g := (mkF mm_ 17 #[vr a, vi 2] [(.ref a)])) rfl rfl (B_ dk261)
 refine sp_ st2 ?_
 show Go_ T2 (mkF mm_ 20 #[vr a, vi 2] [(.ref t)])
 refine sp_ (fun t_ k_ => XS.iloadN X2.here hx rfl (B_ dk262) rfl  k_) ?_
 obtain ⟨_, T3, Lc3, X3, hQ3, st3⟩ := own_cS X2 hx hZ hown (w_ hw 103 rfl) (w_ hw 104 rfl) (w_ hw 41 rfl) (w_ hw 105 rfl) (by decide) (backOf (W := 0) (rmUc2 l Z a0 hw [] t k z vs c h0 n0 O0 G_ pr3 hz0 hz1 hv0 hv1 hc_c hlj) hZ (w_ hw 105 rfl) (w_ hw 41 rfl) (by decide) (by decide)) (g := (mkF mm_ 21 #[vr a, vi 2] [(.int 2), (.ref t)])) rfl hml.symm (argsL := [(.ref t), (.int 2)]) (rest := []) (lenOf pd_6 rfl) rfl (Nat.le_of_eq rfl) (B_ dk263) rfl e2 (by decide) (by decide)
 obtain ⟨rfl, rfl, Eh3⟩ := hQ3
 have N3 := Fr.app N1 (Fr.nil n0)
 refine jp_ st3 ?_
 show Go_ T3 (mkF mm_ 24 #[vr a, vi 2] [(.int c)])
 obtain ⟨fs, hr, hrun, hended, hW, hsame⟩ := X3.leave (v := some (.int (nar .char c))) (rN Bd.returns)
 refine ⟨_, _, ?_, hrun, hended, _, _, rfl, ?_, ⟨_, rfl⟩, hW, hsame.mono (by decide) (by decide)⟩
 · exact retN X3 hx (t := .char) Bd.returns (by simp) (B_ dk264) hr
 · show QrmCa2 Z a t k z vs c h0 n0 (some (.int (nar .char c))) T3.heap _
   rw [Eh3]
   exact ⟨(by rw [own_narLit _ hc_c.1 hc_c.2]), rfl, rfl⟩
theorem ef_rmUc3 (mm_ : MethodId) (t : Addr) : entryFrame mm_ #[(.ref t), (.int 3)] 2 = (mkF mm_ 0 #[vr t, vi 3] []) := by first | (simp [entryFrame, mkF, argsToLocals, Value.category]; done) | rfl
def QrmUc3 (Z : State) (t : Addr) (k : ClassId) (z : Int32) (vs : List Value) (c : Int32) (h0 : Heap) (n0 : Nat) (vv_ : Option Value) (hh_ : Heap) (LL_ : List Loc) : Prop := (vv_ = some (.int c)) ∧ (LL_ = []) ∧ (hh_ = h0)
theorem rmUc3 (l : Launch) (Z : State) (a0 : Array Value) (hw : own_Hw a0 Z) (ws : List Jvm.Cond) (t : Addr) (k : ClassId) (z : Int32) (vs : List Value) (c : Int32) {zc : Int32} {fm : Value} (h0 : Heap) (n0 : Nat) (O0 : Old Z n0 h0) (G_ : own_St Z zc fm) (pr0 : Arv Z h0 t k .byte z vs (.int 0)) (hz0 : (6 : Int32) < z) (hz1 : (7 : Int32) < z) (hv0 : vs.getD 6 (.int 0) = (lb c)) (hv1 : vs.getD 7 (.int 0) = (hb_ c)) (hc_c : ¬ c < (0 : Int32) ∧ ¬ (65535 : Int32) < c) (hlj : (3 : Int32) < (z >>> ((1 : Int32) &&& 31))) :
 own_MF l Z ym12 J20 2 (some .char) ws (rm_ 3 0 0 40) #[(.ref t), (.int 3)] h0 (QrmUc3 Z t k z vs c h0 n0) := by
 refine own_met (plainFor_of_name pn_java_lang_StringUTF16) (fun m_ => ef_rmUc3 m_ t) fun pp_ ee_ ss_ mm_ bb_ me_ cc_ s₁ Bd hx hby hml hown hZ hh X0 e0 => ?_
 have B_ {q_ : Nat} {r_ : _} (h_ : decode _ q_ = r_) := hb hby h_
 have hown : ss_.vm.findClass sc1 = some mm_.cls := hown
 have N0 := Fr.nil n0
 have Z0 : n0 ≤ h0.size := by have q := O0.2.1; rw [O0.1] at q; exact q
 have K0 : Keep h0 h0 [] := Keep.refl _ _
 obtain ⟨G_cs, G_cs0, G_cw, G_h_java_lang_String_7, G_fm, G_fr, G_hb, G_lb, G_ad⟩ := id G_
 show Go_ s₁ (mkF mm_ 0 #[vr t, vi 3] [])
 refine sp_ (fun t_ k_ => XS.iloadN X0.here hx rfl (B_ dk250) rfl  (XS.aloadN X0.here hx rfl (B_ dk251) rfl rfl k_)) ?_
 obtain ⟨_, T1, Lc1, X1, hQ1, st1⟩ := own_cS X0 hx hZ hown (w_ hw 106 rfl) (w_ hw 107 rfl) (w_ hw 41 rfl) (w_ hw 108 rfl) (by decide) (backOf (W := 0) (rmUk l Z a0 hw [] (3 : Int32) t k z vs h0 n0 O0 G_ pr0 (by first | assumption | rfl | decide | (simp; done)) hlj) hZ (w_ hw 108 rfl) (w_ hw 41 rfl) (by decide) (by decide)) (g := (mkF mm_ 2 #[vr t, vi 3] [(.ref t), (.int 3)])) rfl hml.symm (argsL := [(.int 3), (.ref t)]) (rest := []) (lenOf pd_12 rfl) rfl (Nat.le_of_eq rfl) (B_ dk252) rfl e0 (by decide) (by decide)
 obtain ⟨rfl, rfl, Eh1⟩ := hQ1
 have N1 := Fr.app N0 (Fr.nil n0)
 refine jp_ st1 ?_
 show Go_ T1 (mkF mm_ 5 #[vr t, vi 3] [])
 refine sp_ (fun t_ k_ => XS.aloadN X1.here hx rfl (B_ dk253) rfl rfl (XS.iloadN X1.here hx rfl (B_ dk254) rfl  k_)) ?_
 obtain ⟨_, T2, Lc2, X2, hQ2, st2⟩ := own_cS X1 hx hZ hown (w_ hw 100 rfl) (w_ hw 101 rfl) (w_ hw 41 rfl) (w_ hw 102 rfl) (by decide) (backOf (W := 0) (rmGt3 l Z a0 hw [] t k z vs c h0 n0 O0 G_ pr0 hz0 hz1 hv0 hv1 hc_c) hZ (w_ hw 102 rfl) (w_ hw 41 rfl) (by decide) (by decide)) (g := (mkF mm_ 7 #[vr t, vi 3] [(.int 3), (.ref t)])) rfl hml.symm (argsL := [(.ref t), (.int 3)]) (rest := []) (lenOf pd_6 rfl) rfl (Nat.le_of_eq rfl) (B_ dk255) rfl Eh1 (by decide) (by decide)
 obtain ⟨rfl, rfl, Eh2⟩ := hQ2
 have N2 := Fr.app N1 (Fr.nil n0)
 refine jp_ st2 ?_
 show Go_ T2 (mkF mm_ 10 #[vr t, vi 3] [(.int c)])
 obtain ⟨fs, hr, hrun, hended, hW, hsame⟩ := X2.leave (v := some (.int (nar .char c))) (rN Bd.returns)
 refine ⟨_, _, ?_, hrun, hended, _, _, rfl, ?_, ⟨_, rfl⟩, hW, hsame.mono (by decide) (by decide)⟩
 · exact retN X2 hx (t := .char) Bd.returns (by simp) (B_ dk256) hr
 · show QrmUc3 Z t k z vs c h0 n0 (some (.int (nar .char c))) T2.heap _
   rw [Eh2]
   exact ⟨(by rw [own_narLit _ hc_c.1 hc_c.2]), rfl, rfl⟩
theorem ef_rmCa3 (mm_ : MethodId) (a : Addr) : entryFrame mm_ #[(.ref a), (.int 3)] 2 = (mkF mm_ 0 #[vr a, vi 3] []) := by first | (simp [entryFrame, mkF, argsToLocals, Value.category]; done) | rfl
def QrmCa3 (Z : State) (a : Addr) (t : Addr) (k : ClassId) (z : Int32) (vs : List Value) (c : Int32) (h0 : Heap) (n0 : Nat) (vv_ : Option Value) (hh_ : Heap) (LL_ : List Loc) : Prop := (vv_ = some (.int c)) ∧ (LL_ = []) ∧ (hh_ = h0)
theorem rmCa3 (l : Launch) (Z : State) (a0 : Array Value) (hw : own_Hw a0 Z) (ws : List Jvm.Cond) (a : Addr) (t : Addr) (k : ClassId) (z : Int32) (vs : List Value) (c : Int32) {zc : Int32} {fm : Value} (h0 : Heap) (n0 : Nat) (O0 : Old Z n0 h0) (G_ : own_St Z zc fm) (pr0 : Exa Z h0 a sc0) (pr1 : Fld Z h0 a sc0 "coder" "B" (.int 1)) (pr2 : Fld Z h0 a sc0 "value" "[B" (.ref t)) (pr3 : Arv Z h0 t k .byte z vs (.int 0)) (hz0 : (6 : Int32) < z) (hz1 : (7 : Int32) < z) (hv0 : vs.getD 6 (.int 0) = (lb c)) (hv1 : vs.getD 7 (.int 0) = (hb_ c)) (hc_c : ¬ c < (0 : Int32) ∧ ¬ (65535 : Int32) < c) (hlj : (3 : Int32) < (z >>> ((1 : Int32) &&& 31))) :
 own_MF l Z ym13 J21 2 (some .char) ws (rm_ 4 0 0 53) #[(.ref a), (.int 3)] h0 (QrmCa3 Z a t k z vs c h0 n0) := by
 refine own_met (plainFor_of_name pn_java_lang_String) (fun m_ => ef_rmCa3 m_ a) fun pp_ ee_ ss_ mm_ bb_ me_ cc_ s₁ Bd hx hby hml hown hZ hh X0 e0 => ?_
 have B_ {q_ : Nat} {r_ : _} (h_ : decode _ q_ = r_) := hb hby h_
 have hown : ss_.vm.findClass sc0 = some mm_.cls := hown
 have N0 := Fr.nil n0
 have Z0 : n0 ≤ h0.size := by have q := O0.2.1; rw [O0.1] at q; exact q
 have K0 : Keep h0 h0 [] := Keep.refl _ _
 obtain ⟨G_cs, G_cs0, G_cw, G_h_java_lang_String_7, G_fm, G_fr, G_hb, G_lb, G_ad⟩ := id G_
 show Go_ s₁ (mkF mm_ 0 #[vr a, vi 3] [])
 refine sp_ (fun t_ k_ => XS.aloadN X0.here hx rfl (B_ dk257) rfl rfl k_) ?_
 obtain ⟨_, T1, Lc1, X1, hQ1, st1⟩ := own_cV X0 hx hZ hown (w_ hw 67 rfl) (w_ hw 68 rfl) (notFace_of_selects (args := #[]) (mvT hZ (w_ hw 70 rfl))) (w_ hw 70 rfl) (w_ hw 69 rfl) (by decide) (backOf (W := 0) (rmIl l Z a0 hw [] a h0 n0 O0 G_ pr1) hZ (w_ hw 71 rfl) (w_ hw 9 rfl) (by decide) (by decide)) pr0 (g := (mkF mm_ 1 #[vr a, vi 3] [(.ref a)])) rfl hml.symm (argsL := []) (rest := []) (lenOf pd_13 rfl) rfl (Nat.le_of_eq rfl) (B_ dk258) rfl e0 (by decide) (by decide)
 obtain ⟨rfl, rfl, Eh1⟩ := hQ1
 have N1 := Fr.app N0 (Fr.nil n0)
 refine jp_ st1 ?_
 show Go_ T1 (mkF mm_ 4 #[vr a, vi 3] [(.int 0)])
 refine sp_ (fun t_ k_ => XS.ifYes X1.here hx rfl (pc0 := 4) (pc' := 16) rfl (B_ dk259) rfl ((if0 _ _).trans (teq (by decide : (0 : Int32) = (0 : Int32))).1) (by decide) (by decide) k_) ?_
 show Go_ T1 (mkF mm_ 16 #[vr a, vi 3] [])
 refine sp_ (fun t_ k_ => XS.aloadN X1.here hx rfl (B_ dk260) rfl rfl k_) ?_
 obtain ⟨T2, X2, e2, st2⟩ := getF X1 hx hZ hown (host := "") (Or.inl (w_ hw 27 rfl)) Via.refl Eh1 pr2 (g := (mkF mm_ 17 #[vr a, vi 3] [(.ref a)])) rfl rfl (B_ dk261)
 refine sp_ st2 ?_
 show Go_ T2 (mkF mm_ 20 #[vr a, vi 3] [(.ref t)])
 refine sp_ (fun t_ k_ => XS.iloadN X2.here hx rfl (B_ dk262) rfl  k_) ?_
 obtain ⟨_, T3, Lc3, X3, hQ3, st3⟩ := own_cS X2 hx hZ hown (w_ hw 103 rfl) (w_ hw 104 rfl) (w_ hw 41 rfl) (w_ hw 105 rfl) (by decide) (backOf (W := 0) (rmUc3 l Z a0 hw [] t k z vs c h0 n0 O0 G_ pr3 hz0 hz1 hv0 hv1 hc_c hlj) hZ (w_ hw 105 rfl) (w_ hw 41 rfl) (by decide) (by decide)) (g := (mkF mm_ 21 #[vr a, vi 3] [(.int 3), (.ref t)])) rfl hml.symm (argsL := [(.ref t), (.int 3)]) (rest := []) (lenOf pd_6 rfl) rfl (Nat.le_of_eq rfl) (B_ dk263) rfl e2 (by decide) (by decide)
 obtain ⟨rfl, rfl, Eh3⟩ := hQ3
 have N3 := Fr.app N1 (Fr.nil n0)
 refine jp_ st3 ?_
 show Go_ T3 (mkF mm_ 24 #[vr a, vi 3] [(.int c)])
 obtain ⟨fs, hr, hrun, hended, hW, hsame⟩ := X3.leave (v := some (.int (nar .char c))) (rN Bd.returns)
 refine ⟨_, _, ?_, hrun, hended, _, _, rfl, ?_, ⟨_, rfl⟩, hW, hsame.mono (by decide) (by decide)⟩
 · exact retN X3 hx (t := .char) Bd.returns (by simp) (B_ dk264) hr
 · show QrmCa3 Z a t k z vs c h0 n0 (some (.int (nar .char c))) T3.heap _
   rw [Eh3]
   exact ⟨(by rw [own_narLit _ hc_c.1 hc_c.2]), rfl, rfl⟩
theorem dk265 : decode J22 0 = .ok (.aload_n 0, 1) := by decide +kernel
theorem dk266 : decode J22 1 = .ok (.invokevirtual 7, 3) := by decide +kernel
theorem dk267 : decode J22 4 = .ok (.ifCond .eq 5, 3) := by decide +kernel
theorem dk268 : decode J22 9 = .ok (.iconst 0, 1) := by decide +kernel
theorem dk269 : decode J22 10 = .ok (.istore_n 1, 1) := by decide +kernel
theorem dk270 : decode J22 11 = .ok (.iload_n 1, 1) := by decide +kernel
theorem dk271 : decode J22 12 = .ok (.aload_n 0, 1) := by decide +kernel
theorem dk272 : decode J22 13 = .ok (.invokevirtual 13, 3) := by decide +kernel
theorem pd_14 : parseMethodDescriptor "()I" = some ⟨[], some .int⟩ := by decide +kernel
theorem dk273 : decode J22 16 = .ok (.if_icmp .ge 29, 3) := by decide +kernel
theorem dk274 : decode J22 19 = .ok (.aload_n 0, 1) := by decide +kernel
theorem dk275 : decode J22 20 = .ok (.iload_n 1, 1) := by decide +kernel
theorem dk276 : decode J22 21 = .ok (.invokevirtual 17, 3) := by decide +kernel
theorem pd_15 : parseMethodDescriptor "(I)C" = some ⟨[.int], some .char⟩ := by decide +kernel
theorem dk277 : decode J22 24 = .ok (.istore_n 2, 1) := by decide +kernel
theorem dk278 : decode J22 25 = .ok (.iload_n 2, 1) := by decide +kernel
theorem dk279 : decode J22 26 = .ok (.bipush 48, 2) := by decide +kernel
theorem dk280 : decode J22 28 = .ok (.if_icmp .lt 9, 3) := by decide +kernel
theorem dk281 : decode J22 37 = .ok (.iconst 0, 1) := by decide +kernel
theorem dk282 : decode J22 38 = .ok (.ireturn, 1) := by decide +kernel
theorem dk283 : decode J22 31 = .ok (.iload_n 2, 1) := by decide +kernel
theorem dk284 : decode J22 32 = .ok (.bipush 57, 2) := by decide +kernel
theorem dk285 : decode J22 34 = .ok (.if_icmp .le 5, 3) := by decide +kernel
theorem dk286 : decode J22 39 = .ok (.iinc 1 1, 3) := by decide +kernel
theorem dk287 : decode J22 42 = .ok (.goto (-31), 3) := by decide +kernel
theorem pn_com_example_malipo_malipo_core_intake_DecimalText : plainName "com/example/malipo/malipo/core/intake/DecimalText" = true := by first | (simp [plainName, overriddenIn]; done) | decide +kernel
theorem ef_rmDw1 (mm_ : MethodId) (a : Addr) : entryFrame mm_ #[(.ref a)] 3 = (mkF mm_ 0 #[vr a, un, un] []) := by first | (simp [entryFrame, mkF, argsToLocals, Value.category]; done) | rfl
def QrmDw1 (Z : State) (a : Addr) (t : Addr) (k : ClassId) (c0 : Int32) (h0 : Heap) (n0 : Nat) (vv_ : Option Value) (hh_ : Heap) (LL_ : List Loc) : Prop := (vv_ = some (.int 0)) ∧ (LL_ = []) ∧ (hh_ = h0)
theorem rmDw1 (l : Launch) (Z : State) (a0 : Array Value) (hw : own_Hw a0 Z) (ws : List Jvm.Cond) (a : Addr) (t : Addr) (k : ClassId) (c0 : Int32) {zc : Int32} {fm : Value} (h0 : Heap) (n0 : Nat) (O0 : Old Z n0 h0) (G_ : own_St Z zc fm) (pr0 : Exa Z h0 a sc0) (pr1 : Fld Z h0 a sc0 "coder" "B" (.int 1)) (pr2 : Fld Z h0 a sc0 "value" "[B" (.ref t)) (pr3 : Arv Z h0 t k .byte (2 : Int32) [(lb c0), (hb_ c0)] (.int 0)) (hc_c0 : ¬ c0 < (0 : Int32) ∧ ¬ (65535 : Int32) < c0) (hW : (255 : Int32) < c0) :
 own_MF l Z ym2 J22 3 (some .boolean) ws (rm_ 5 0 0 66) #[(.ref a)] h0 (QrmDw1 Z a t k c0 h0 n0) := by
 refine own_met (plainFor_of_name pn_com_example_malipo_malipo_core_intake_DecimalText) (fun m_ => ef_rmDw1 m_ a) fun pp_ ee_ ss_ mm_ bb_ me_ cc_ s₁ Bd hx hby hml hown hZ hh X0 e0 => ?_
 have B_ {q_ : Nat} {r_ : _} (h_ : decode _ q_ = r_) := hb hby h_
 have hown : ss_.vm.findClass sc3 = some mm_.cls := hown
 have N0 := Fr.nil n0
 have Z0 : n0 ≤ h0.size := by have q := O0.2.1; rw [O0.1] at q; exact q
 have K0 : Keep h0 h0 [] := Keep.refl _ _
 obtain ⟨G_cs, G_cs0, G_cw, G_h_java_lang_String_7, G_fm, G_fr, G_hb, G_lb, G_ad⟩ := id G_
 show Go_ s₁ (mkF mm_ 0 #[vr a, un, un] [])
 refine sp_ (fun t_ k_ => XS.aloadN X0.here hx rfl (B_ dk265) rfl rfl k_) ?_
 obtain ⟨_, T1, Lc1, X1, hQ1, st1⟩ := own_cV X0 hx hZ hown (w_ hw 33 rfl) (w_ hw 34 rfl) (notFace_of_selects (args := #[]) (mvT hZ (w_ hw 36 rfl))) (w_ hw 36 rfl) (w_ hw 35 rfl) (by decide) (backOf (W := 0) (rmEm l Z a0 hw [] a t k (2 : Int32) [(lb c0), (hb_ c0)] h0 n0 O0 pr2 pr3 (by first | assumption | rfl | decide | (simp; done))) hZ (w_ hw 37 rfl) (w_ hw 9 rfl) (by decide) (by decide)) pr0 (g := (mkF mm_ 1 #[vr a, un, un] [(.ref a)])) rfl hml.symm (argsL := []) (rest := []) (lenOf pd_13 rfl) rfl (Nat.le_of_eq rfl) (B_ dk266) rfl e0 (by decide) (by decide)
 obtain ⟨rfl, rfl, Eh1⟩ := hQ1
 have N1 := Fr.app N0 (Fr.nil n0)
 refine jp_ st1 ?_
 show Go_ T1 (mkF mm_ 4 #[vr a, un, un] [(.int 0)])
 refine sp_ (fun t_ k_ => XS.ifYes X1.here hx rfl (pc0 := 4) (pc' := 9) rfl (B_ dk267) rfl ((if0 _ _).trans (teq (by decide : (0 : Int32) = (0 : Int32))).1) (by decide) (by decide) k_) ?_
 show Go_ T1 (mkF mm_ 9 #[vr a, un, un] [])
 refine sp_ (fun t_ k_ => XS.iconst X1.here hx rfl (B_ dk268) (XS.istoreN X1.here hx rfl (B_ dk269) rfl (l' := #[vr a, vi 0, un]) rfl (XS.iloadN X1.here hx rfl (B_ dk270) rfl  (XS.aloadN X1.here hx rfl (B_ dk271) rfl rfl k_)))) ?_
 obtain ⟨_, T2, Lc2, X2, hQ2, st2⟩ := own_cV X1 hx hZ hown (w_ hw 52 rfl) (w_ hw 53 rfl) (notFace_of_selects (args := #[]) (mvT hZ (w_ hw 55 rfl))) (w_ hw 55 rfl) (w_ hw 54 rfl) (by decide) (backOf (W := 1) (rmLw1 l Z a0 hw [] a t k [(lb c0), (hb_ c0)] h0 n0 O0 G_ pr0 pr1 pr2 pr3) hZ (w_ hw 56 rfl) (w_ hw 9 rfl) (by decide) (by decide)) pr0 (g := (mkF mm_ 13 #[vr a, vi 0, un] [(.ref a), (.int 0)])) rfl hml.symm (argsL := []) (rest := [(.int 0)]) (lenOf pd_14 rfl) rfl (Nat.le_of_eq rfl) (B_ dk272) rfl Eh1 (by decide) (by decide)
 obtain ⟨rfl, rfl, Eh2⟩ := hQ2
 have N2 := Fr.app N1 (Fr.nil n0)
 refine jp_ st2 ?_
 show Go_ T2 (mkF mm_ 16 #[vr a, vi 0, un] [(.int 1), (.int 0)])
 refine sp_ (fun t_ k_ => XS.icmpNo X2.here hx rfl (B_ dk273) rfl (tlt (by decide : (0 : Int32) < (1 : Int32))).2.1 k_) ?_
 show Go_ T2 (mkF mm_ 19 #[vr a, vi 0, un] [])
 refine sp_ (fun t_ k_ => XS.aloadN X2.here hx rfl (B_ dk274) rfl rfl (XS.iloadN X2.here hx rfl (B_ dk275) rfl  k_)) ?_
 obtain ⟨_, T3, Lc3, X3, hQ3, st3⟩ := own_cV X2 hx hZ hown (w_ hw 62 rfl) (w_ hw 63 rfl) (notFace_of_selects (args := #[]) (mvT hZ (w_ hw 65 rfl))) (w_ hw 65 rfl) (w_ hw 64 rfl) (by decide) (backOf (W := 0) (rmCa0 l Z a0 hw [] a t k (2 : Int32) [(lb c0), (hb_ c0)] c0 h0 n0 O0 G_ pr0 pr1 pr2 pr3 (by first | assumption | rfl | decide | (simp; done)) (by first | assumption | rfl | decide | (simp; done)) (by first | assumption | rfl | decide | (simp; done)) (by first | assumption | rfl | decide | (simp; done)) hc_c0 (by first | assumption | rfl | decide | (simp; done))) hZ (w_ hw 66 rfl) (w_ hw 9 rfl) (by decide) (by decide)) pr0 (g := (mkF mm_ 21 #[vr a, vi 0, un] [(.int 0), (.ref a)])) rfl hml.symm (argsL := [(.int 0)]) (rest := []) (lenOf pd_15 rfl) rfl (Nat.le_of_eq rfl) (B_ dk276) rfl Eh2 (by decide) (by decide)
 obtain ⟨rfl, rfl, Eh3⟩ := hQ3
 have N3 := Fr.app N2 (Fr.nil n0)
 refine jp_ st3 ?_
 show Go_ T3 (mkF mm_ 24 #[vr a, vi 0, un] [(.int c0)])
 refine sp_ (fun t_ k_ => XS.istoreN X3.here hx rfl (B_ dk277) rfl (l' := #[vr a, vi 0, vi c0]) rfl (XS.iloadN X3.here hx rfl (B_ dk278) rfl  (XS.bipush X3.here hx rfl (B_ dk279) k_))) ?_
 show Go_ T3 (mkF mm_ 28 #[vr a, vi 0, vi c0] [(.int 48), (.int c0)])
 by_cases hc28_4 : c0 < (48 : Int32)
 · skip
   refine sp_ (fun t_ k_ => XS.icmpYes X3.here hx rfl (pc0 := 28) (pc' := 37) rfl (B_ dk280) rfl (tlt hc28_4).1 (by decide) (by decide) k_) ?_
   show Go_ T3 (mkF mm_ 37 #[vr a, vi 0, vi c0] [])
   refine sp_ (fun t_ k_ => XS.iconst X3.here hx rfl (B_ dk281) k_) ?_
   show Go_ T3 (mkF mm_ 38 #[vr a, vi 0, vi c0] [(.int 0)])
   obtain ⟨fs, hr, hrun, hended, hW, hsame⟩ := X3.leave (v := some (.int 0)) (rN Bd.returns)
   refine ⟨_, _, ?_, hrun, hended, _, _, rfl, ?_, ⟨_, rfl⟩, hW, hsame.mono (by decide) (by decide)⟩
   · exact retN X3 hx (t := .boolean) Bd.returns (by simp) (B_ dk282) hr
   · show QrmDw1 Z a t k c0 h0 n0 (some (.int 0)) T3.heap _
     rw [Eh3]
     exact ⟨rfl, rfl, rfl⟩
 · skip
   refine sp_ (fun t_ k_ => XS.icmpNo X3.here hx rfl (B_ dk280) rfl (flt hc28_4).1 k_) ?_
   show Go_ T3 (mkF mm_ 31 #[vr a, vi 0, vi c0] [])
   refine sp_ (fun t_ k_ => XS.iloadN X3.here hx rfl (B_ dk283) rfl  (XS.bipush X3.here hx rfl (B_ dk284) k_)) ?_
   show Go_ T3 (mkF mm_ 34 #[vr a, vi 0, vi c0] [(.int 57), (.int c0)])
   by_cases hc34_5 : (57 : Int32) < c0
   · skip
     refine sp_ (fun t_ k_ => XS.icmpNo X3.here hx rfl (B_ dk285) rfl (tlt hc34_5).2.2.2 k_) ?_
     show Go_ T3 (mkF mm_ 37 #[vr a, vi 0, vi c0] [])
     refine sp_ (fun t_ k_ => XS.iconst X3.here hx rfl (B_ dk281) k_) ?_
     show Go_ T3 (mkF mm_ 38 #[vr a, vi 0, vi c0] [(.int 0)])
     obtain ⟨fs, hr, hrun, hended, hW, hsame⟩ := X3.leave (v := some (.int 0)) (rN Bd.returns)
     refine ⟨_, _, ?_, hrun, hended, _, _, rfl, ?_, ⟨_, rfl⟩, hW, hsame.mono (by decide) (by decide)⟩
     · exact retN X3 hx (t := .boolean) Bd.returns (by simp) (B_ dk282) hr
     · show QrmDw1 Z a t k c0 h0 n0 (some (.int 0)) T3.heap _
       rw [Eh3]
       exact ⟨rfl, rfl, rfl⟩
   · skip
     refine sp_ (fun t_ k_ => XS.icmpYes X3.here hx rfl (pc0 := 34) (pc' := 39) rfl (B_ dk285) rfl (flt hc34_5).2.2.2 (by decide) (by decide) k_) ?_
     show Go_ T3 (mkF mm_ 39 #[vr a, vi 0, vi c0] [])
     refine sp_ (fun t_ k_ => XS.iinc X3.here hx rfl (B_ dk286) rfl (l' := #[vr a, vi 1, vi c0]) rfl (XS.goto X3.here hx rfl (pc0 := 42) (pc' := 11) rfl (B_ dk287) (by decide) (by decide) (XS.iloadN X3.here hx rfl (B_ dk270) rfl  (XS.aloadN X3.here hx rfl (B_ dk271) rfl rfl k_)))) ?_
     obtain ⟨_, T6, Lc6, X6, hQ6, st6⟩ := own_cV X3 hx hZ hown (w_ hw 52 rfl) (w_ hw 53 rfl) (notFace_of_selects (args := #[]) (mvT hZ (w_ hw 55 rfl))) (w_ hw 55 rfl) (w_ hw 54 rfl) (by decide) (backOf (W := 1) (rmLw1 l Z a0 hw [] a t k [(lb c0), (hb_ c0)] h0 n0 O0 G_ pr0 pr1 pr2 pr3) hZ (w_ hw 56 rfl) (w_ hw 9 rfl) (by decide) (by decide)) pr0 (g := (mkF mm_ 13 #[vr a, vi 1, vi c0] [(.ref a), (.int 1)])) rfl hml.symm (argsL := []) (rest := [(.int 1)]) (lenOf pd_14 rfl) rfl (Nat.le_of_eq rfl) (B_ dk272) rfl Eh3 (by decide) (by decide)
     obtain ⟨rfl, rfl, Eh6⟩ := hQ6
     have N6 := Fr.app N3 (Fr.nil n0)
     refine jp_ st6 ?_
     show Go_ T6 (mkF mm_ 16 #[vr a, vi 1, vi c0] [(.int 1), (.int 1)])
     refine sp_ (fun t_ k_ => XS.icmpYes X6.here hx rfl (pc0 := 16) (pc' := 45) rfl (B_ dk273) rfl (flt (by decide : ¬ ((1 : Int32) < (1 : Int32)))).2.1 (by decide) (by decide) k_) ?_
     show Go_ T6 (mkF mm_ 45 #[vr a, vi 1, vi c0] [])
     exact ((hc34_5 (own_big hW).2) : False).elim
theorem ef_rmDw2 (mm_ : MethodId) (a : Addr) : entryFrame mm_ #[(.ref a)] 3 = (mkF mm_ 0 #[vr a, un, un] []) := by first | (simp [entryFrame, mkF, argsToLocals, Value.category]; done) | rfl
def QrmDw2 (Z : State) (a : Addr) (t : Addr) (k : ClassId) (c0 : Int32) (c1 : Int32) (h0 : Heap) (n0 : Nat) (vv_ : Option Value) (hh_ : Heap) (LL_ : List Loc) : Prop := (vv_ = some (.int 0)) ∧ (LL_ = []) ∧ (hh_ = h0)
theorem rmDw2 (l : Launch) (Z : State) (a0 : Array Value) (hw : own_Hw a0 Z) (ws : List Jvm.Cond) (a : Addr) (t : Addr) (k : ClassId) (c0 : Int32) (c1 : Int32) {zc : Int32} {fm : Value} (h0 : Heap) (n0 : Nat) (O0 : Old Z n0 h0) (G_ : own_St Z zc fm) (pr0 : Exa Z h0 a sc0) (pr1 : Fld Z h0 a sc0 "coder" "B" (.int 1)) (pr2 : Fld Z h0 a sc0 "value" "[B" (.ref t)) (pr3 : Arv Z h0 t k .byte (4 : Int32) [(lb c0), (hb_ c0), (lb c1), (hb_ c1)] (.int 0)) (hc_c0 : ¬ c0 < (0 : Int32) ∧ ¬ (65535 : Int32) < c0) (hc_c1 : ¬ c1 < (0 : Int32) ∧ ¬ (65535 : Int32) < c1) (hW : (255 : Int32) < c0 ∨ (255 : Int32) < c1) :
 own_MF l Z ym2 J22 3 (some .boolean) ws (rm_ 5 0 0 66) #[(.ref a)] h0 (QrmDw2 Z a t k c0 c1 h0 n0) := by
 refine own_met (plainFor_of_name pn_com_example_malipo_malipo_core_intake_DecimalText) (fun m_ => ef_rmDw2 m_ a) fun pp_ ee_ ss_ mm_ bb_ me_ cc_ s₁ Bd hx hby hml hown hZ hh X0 e0 => ?_
 have B_ {q_ : Nat} {r_ : _} (h_ : decode _ q_ = r_) := hb hby h_
 have hown : ss_.vm.findClass sc3 = some mm_.cls := hown
 have N0 := Fr.nil n0
 have Z0 : n0 ≤ h0.size := by have q := O0.2.1; rw [O0.1] at q; exact q
 have K0 : Keep h0 h0 [] := Keep.refl _ _
 obtain ⟨G_cs, G_cs0, G_cw, G_h_java_lang_String_7, G_fm, G_fr, G_hb, G_lb, G_ad⟩ := id G_
 show Go_ s₁ (mkF mm_ 0 #[vr a, un, un] [])
 refine sp_ (fun t_ k_ => XS.aloadN X0.here hx rfl (B_ dk265) rfl rfl k_) ?_
 obtain ⟨_, T1, Lc1, X1, hQ1, st1⟩ := own_cV X0 hx hZ hown (w_ hw 33 rfl) (w_ hw 34 rfl) (notFace_of_selects (args := #[]) (mvT hZ (w_ hw 36 rfl))) (w_ hw 36 rfl) (w_ hw 35 rfl) (by decide) (backOf (W := 0) (rmEm l Z a0 hw [] a t k (4 : Int32) [(lb c0), (hb_ c0), (lb c1), (hb_ c1)] h0 n0 O0 pr2 pr3 (by first | assumption | rfl | decide | (simp; done))) hZ (w_ hw 37 rfl) (w_ hw 9 rfl) (by decide) (by decide)) pr0 (g := (mkF mm_ 1 #[vr a, un, un] [(.ref a)])) rfl hml.symm (argsL := []) (rest := []) (lenOf pd_13 rfl) rfl (Nat.le_of_eq rfl) (B_ dk266) rfl e0 (by decide) (by decide)
 obtain ⟨rfl, rfl, Eh1⟩ := hQ1
 have N1 := Fr.app N0 (Fr.nil n0)
 refine jp_ st1 ?_
 show Go_ T1 (mkF mm_ 4 #[vr a, un, un] [(.int 0)])
 refine sp_ (fun t_ k_ => XS.ifYes X1.here hx rfl (pc0 := 4) (pc' := 9) rfl (B_ dk267) rfl ((if0 _ _).trans (teq (by decide : (0 : Int32) = (0 : Int32))).1) (by decide) (by decide) k_) ?_
 show Go_ T1 (mkF mm_ 9 #[vr a, un, un] [])
 refine sp_ (fun t_ k_ => XS.iconst X1.here hx rfl (B_ dk268) (XS.istoreN X1.here hx rfl (B_ dk269) rfl (l' := #[vr a, vi 0, un]) rfl (XS.iloadN X1.here hx rfl (B_ dk270) rfl  (XS.aloadN X1.here hx rfl (B_ dk271) rfl rfl k_)))) ?_
 obtain ⟨_, T2, Lc2, X2, hQ2, st2⟩ := own_cV X1 hx hZ hown (w_ hw 52 rfl) (w_ hw 53 rfl) (notFace_of_selects (args := #[]) (mvT hZ (w_ hw 55 rfl))) (w_ hw 55 rfl) (w_ hw 54 rfl) (by decide) (backOf (W := 1) (rmLw2 l Z a0 hw [] a t k [(lb c0), (hb_ c0), (lb c1), (hb_ c1)] h0 n0 O0 G_ pr0 pr1 pr2 pr3) hZ (w_ hw 56 rfl) (w_ hw 9 rfl) (by decide) (by decide)) pr0 (g := (mkF mm_ 13 #[vr a, vi 0, un] [(.ref a), (.int 0)])) rfl hml.symm (argsL := []) (rest := [(.int 0)]) (lenOf pd_14 rfl) rfl (Nat.le_of_eq rfl) (B_ dk272) rfl Eh1 (by decide) (by decide)
 obtain ⟨rfl, rfl, Eh2⟩ := hQ2
 have N2 := Fr.app N1 (Fr.nil n0)
 refine jp_ st2 ?_
 show Go_ T2 (mkF mm_ 16 #[vr a, vi 0, un] [(.int 2), (.int 0)])
 refine sp_ (fun t_ k_ => XS.icmpNo X2.here hx rfl (B_ dk273) rfl (tlt (by decide : (0 : Int32) < (2 : Int32))).2.1 k_) ?_
 show Go_ T2 (mkF mm_ 19 #[vr a, vi 0, un] [])
 refine sp_ (fun t_ k_ => XS.aloadN X2.here hx rfl (B_ dk274) rfl rfl (XS.iloadN X2.here hx rfl (B_ dk275) rfl  k_)) ?_
 obtain ⟨_, T3, Lc3, X3, hQ3, st3⟩ := own_cV X2 hx hZ hown (w_ hw 62 rfl) (w_ hw 63 rfl) (notFace_of_selects (args := #[]) (mvT hZ (w_ hw 65 rfl))) (w_ hw 65 rfl) (w_ hw 64 rfl) (by decide) (backOf (W := 0) (rmCa0 l Z a0 hw [] a t k (4 : Int32) [(lb c0), (hb_ c0), (lb c1), (hb_ c1)] c0 h0 n0 O0 G_ pr0 pr1 pr2 pr3 (by first | assumption | rfl | decide | (simp; done)) (by first | assumption | rfl | decide | (simp; done)) (by first | assumption | rfl | decide | (simp; done)) (by first | assumption | rfl | decide | (simp; done)) hc_c0 (by first | assumption | rfl | decide | (simp; done))) hZ (w_ hw 66 rfl) (w_ hw 9 rfl) (by decide) (by decide)) pr0 (g := (mkF mm_ 21 #[vr a, vi 0, un] [(.int 0), (.ref a)])) rfl hml.symm (argsL := [(.int 0)]) (rest := []) (lenOf pd_15 rfl) rfl (Nat.le_of_eq rfl) (B_ dk276) rfl Eh2 (by decide) (by decide)
 obtain ⟨rfl, rfl, Eh3⟩ := hQ3
 have N3 := Fr.app N2 (Fr.nil n0)
 refine jp_ st3 ?_
 show Go_ T3 (mkF mm_ 24 #[vr a, vi 0, un] [(.int c0)])
 refine sp_ (fun t_ k_ => XS.istoreN X3.here hx rfl (B_ dk277) rfl (l' := #[vr a, vi 0, vi c0]) rfl (XS.iloadN X3.here hx rfl (B_ dk278) rfl  (XS.bipush X3.here hx rfl (B_ dk279) k_))) ?_
 show Go_ T3 (mkF mm_ 28 #[vr a, vi 0, vi c0] [(.int 48), (.int c0)])
 by_cases hc28_4 : c0 < (48 : Int32)
 · skip
   refine sp_ (fun t_ k_ => XS.icmpYes X3.here hx rfl (pc0 := 28) (pc' := 37) rfl (B_ dk280) rfl (tlt hc28_4).1 (by decide) (by decide) k_) ?_
   show Go_ T3 (mkF mm_ 37 #[vr a, vi 0, vi c0] [])
   refine sp_ (fun t_ k_ => XS.iconst X3.here hx rfl (B_ dk281) k_) ?_
   show Go_ T3 (mkF mm_ 38 #[vr a, vi 0, vi c0] [(.int 0)])
   obtain ⟨fs, hr, hrun, hended, hW, hsame⟩ := X3.leave (v := some (.int 0)) (rN Bd.returns)
   refine ⟨_, _, ?_, hrun, hended, _, _, rfl, ?_, ⟨_, rfl⟩, hW, hsame.mono (by decide) (by decide)⟩
   · exact retN X3 hx (t := .boolean) Bd.returns (by simp) (B_ dk282) hr
   · show QrmDw2 Z a t k c0 c1 h0 n0 (some (.int 0)) T3.heap _
     rw [Eh3]
     exact ⟨rfl, rfl, rfl⟩
 · skip
   refine sp_ (fun t_ k_ => XS.icmpNo X3.here hx rfl (B_ dk280) rfl (flt hc28_4).1 k_) ?_
   show Go_ T3 (mkF mm_ 31 #[vr a, vi 0, vi c0] [])
   refine sp_ (fun t_ k_ => XS.iloadN X3.here hx rfl (B_ dk283) rfl  (XS.bipush X3.here hx rfl (B_ dk284) k_)) ?_
   show Go_ T3 (mkF mm_ 34 #[vr a, vi 0, vi c0] [(.int 57), (.int c0)])
   by_cases hc34_5 : (57 : Int32) < c0
   · skip
     refine sp_ (fun t_ k_ => XS.icmpNo X3.here hx rfl (B_ dk285) rfl (tlt hc34_5).2.2.2 k_) ?_
     show Go_ T3 (mkF mm_ 37 #[vr a, vi 0, vi c0] [])
     refine sp_ (fun t_ k_ => XS.iconst X3.here hx rfl (B_ dk281) k_) ?_
     show Go_ T3 (mkF mm_ 38 #[vr a, vi 0, vi c0] [(.int 0)])
     obtain ⟨fs, hr, hrun, hended, hW, hsame⟩ := X3.leave (v := some (.int 0)) (rN Bd.returns)
     refine ⟨_, _, ?_, hrun, hended, _, _, rfl, ?_, ⟨_, rfl⟩, hW, hsame.mono (by decide) (by decide)⟩
     · exact retN X3 hx (t := .boolean) Bd.returns (by simp) (B_ dk282) hr
     · show QrmDw2 Z a t k c0 c1 h0 n0 (some (.int 0)) T3.heap _
       rw [Eh3]
       exact ⟨rfl, rfl, rfl⟩
   · skip
     refine sp_ (fun t_ k_ => XS.icmpYes X3.here hx rfl (pc0 := 34) (pc' := 39) rfl (B_ dk285) rfl (flt hc34_5).2.2.2 (by decide) (by decide) k_) ?_
     show Go_ T3 (mkF mm_ 39 #[vr a, vi 0, vi c0] [])
     refine sp_ (fun t_ k_ => XS.iinc X3.here hx rfl (B_ dk286) rfl (l' := #[vr a, vi 1, vi c0]) rfl (XS.goto X3.here hx rfl (pc0 := 42) (pc' := 11) rfl (B_ dk287) (by decide) (by decide) (XS.iloadN X3.here hx rfl (B_ dk270) rfl  (XS.aloadN X3.here hx rfl (B_ dk271) rfl rfl k_)))) ?_
     obtain ⟨_, T6, Lc6, X6, hQ6, st6⟩ := own_cV X3 hx hZ hown (w_ hw 52 rfl) (w_ hw 53 rfl) (notFace_of_selects (args := #[]) (mvT hZ (w_ hw 55 rfl))) (w_ hw 55 rfl) (w_ hw 54 rfl) (by decide) (backOf (W := 1) (rmLw2 l Z a0 hw [] a t k [(lb c0), (hb_ c0), (lb c1), (hb_ c1)] h0 n0 O0 G_ pr0 pr1 pr2 pr3) hZ (w_ hw 56 rfl) (w_ hw 9 rfl) (by decide) (by decide)) pr0 (g := (mkF mm_ 13 #[vr a, vi 1, vi c0] [(.ref a), (.int 1)])) rfl hml.symm (argsL := []) (rest := [(.int 1)]) (lenOf pd_14 rfl) rfl (Nat.le_of_eq rfl) (B_ dk272) rfl Eh3 (by decide) (by decide)
     obtain ⟨rfl, rfl, Eh6⟩ := hQ6
     have N6 := Fr.app N3 (Fr.nil n0)
     refine jp_ st6 ?_
     show Go_ T6 (mkF mm_ 16 #[vr a, vi 1, vi c0] [(.int 2), (.int 1)])
     refine sp_ (fun t_ k_ => XS.icmpNo X6.here hx rfl (B_ dk273) rfl (tlt (by decide : (1 : Int32) < (2 : Int32))).2.1 k_) ?_
     show Go_ T6 (mkF mm_ 19 #[vr a, vi 1, vi c0] [])
     refine sp_ (fun t_ k_ => XS.aloadN X6.here hx rfl (B_ dk274) rfl rfl (XS.iloadN X6.here hx rfl (B_ dk275) rfl  k_)) ?_
     obtain ⟨_, T7, Lc7, X7, hQ7, st7⟩ := own_cV X6 hx hZ hown (w_ hw 62 rfl) (w_ hw 63 rfl) (notFace_of_selects (args := #[]) (mvT hZ (w_ hw 65 rfl))) (w_ hw 65 rfl) (w_ hw 64 rfl) (by decide) (backOf (W := 0) (rmCa1 l Z a0 hw [] a t k (4 : Int32) [(lb c0), (hb_ c0), (lb c1), (hb_ c1)] c1 h0 n0 O0 G_ pr0 pr1 pr2 pr3 (by first | assumption | rfl | decide | (simp; done)) (by first | assumption | rfl | decide | (simp; done)) (by first | assumption | rfl | decide | (simp; done)) (by first | assumption | rfl | decide | (simp; done)) hc_c1 (by first | assumption | rfl | decide | (simp; done))) hZ (w_ hw 66 rfl) (w_ hw 9 rfl) (by decide) (by decide)) pr0 (g := (mkF mm_ 21 #[vr a, vi 1, vi c0] [(.int 1), (.ref a)])) rfl hml.symm (argsL := [(.int 1)]) (rest := []) (lenOf pd_15 rfl) rfl (Nat.le_of_eq rfl) (B_ dk276) rfl Eh6 (by decide) (by decide)
     obtain ⟨rfl, rfl, Eh7⟩ := hQ7
     have N7 := Fr.app N6 (Fr.nil n0)
     refine jp_ st7 ?_
     show Go_ T7 (mkF mm_ 24 #[vr a, vi 1, vi c0] [(.int c1)])
     refine sp_ (fun t_ k_ => XS.istoreN X7.here hx rfl (B_ dk277) rfl (l' := #[vr a, vi 1, vi c1]) rfl (XS.iloadN X7.here hx rfl (B_ dk278) rfl  (XS.bipush X7.here hx rfl (B_ dk279) k_))) ?_
     show Go_ T7 (mkF mm_ 28 #[vr a, vi 1, vi c1] [(.int 48), (.int c1)])
     by_cases hc28_8 : c1 < (48 : Int32)
     · skip
       refine sp_ (fun t_ k_ => XS.icmpYes X7.here hx rfl (pc0 := 28) (pc' := 37) rfl (B_ dk280) rfl (tlt hc28_8).1 (by decide) (by decide) k_) ?_
       show Go_ T7 (mkF mm_ 37 #[vr a, vi 1, vi c1] [])
       refine sp_ (fun t_ k_ => XS.iconst X7.here hx rfl (B_ dk281) k_) ?_
       show Go_ T7 (mkF mm_ 38 #[vr a, vi 1, vi c1] [(.int 0)])
       obtain ⟨fs, hr, hrun, hended, hW, hsame⟩ := X7.leave (v := some (.int 0)) (rN Bd.returns)
       refine ⟨_, _, ?_, hrun, hended, _, _, rfl, ?_, ⟨_, rfl⟩, hW, hsame.mono (by decide) (by decide)⟩
       · exact retN X7 hx (t := .boolean) Bd.returns (by simp) (B_ dk282) hr
       · show QrmDw2 Z a t k c0 c1 h0 n0 (some (.int 0)) T7.heap _
         rw [Eh7]
         exact ⟨rfl, rfl, rfl⟩
     · skip
       refine sp_ (fun t_ k_ => XS.icmpNo X7.here hx rfl (B_ dk280) rfl (flt hc28_8).1 k_) ?_
       show Go_ T7 (mkF mm_ 31 #[vr a, vi 1, vi c1] [])
       refine sp_ (fun t_ k_ => XS.iloadN X7.here hx rfl (B_ dk283) rfl  (XS.bipush X7.here hx rfl (B_ dk284) k_)) ?_
       show Go_ T7 (mkF mm_ 34 #[vr a, vi 1, vi c1] [(.int 57), (.int c1)])
       by_cases hc34_9 : (57 : Int32) < c1
       · skip
         refine sp_ (fun t_ k_ => XS.icmpNo X7.here hx rfl (B_ dk285) rfl (tlt hc34_9).2.2.2 k_) ?_
         show Go_ T7 (mkF mm_ 37 #[vr a, vi 1, vi c1] [])
         refine sp_ (fun t_ k_ => XS.iconst X7.here hx rfl (B_ dk281) k_) ?_
         show Go_ T7 (mkF mm_ 38 #[vr a, vi 1, vi c1] [(.int 0)])
         obtain ⟨fs, hr, hrun, hended, hW, hsame⟩ := X7.leave (v := some (.int 0)) (rN Bd.returns)
         refine ⟨_, _, ?_, hrun, hended, _, _, rfl, ?_, ⟨_, rfl⟩, hW, hsame.mono (by decide) (by decide)⟩
         · exact retN X7 hx (t := .boolean) Bd.returns (by simp) (B_ dk282) hr
         · show QrmDw2 Z a t k c0 c1 h0 n0 (some (.int 0)) T7.heap _
           rw [Eh7]
           exact ⟨rfl, rfl, rfl⟩
       · skip
         refine sp_ (fun t_ k_ => XS.icmpYes X7.here hx rfl (pc0 := 34) (pc' := 39) rfl (B_ dk285) rfl (flt hc34_9).2.2.2 (by decide) (by decide) k_) ?_
         show Go_ T7 (mkF mm_ 39 #[vr a, vi 1, vi c1] [])
         refine sp_ (fun t_ k_ => XS.iinc X7.here hx rfl (B_ dk286) rfl (l' := #[vr a, vi 2, vi c1]) rfl (XS.goto X7.here hx rfl (pc0 := 42) (pc' := 11) rfl (B_ dk287) (by decide) (by decide) (XS.iloadN X7.here hx rfl (B_ dk270) rfl  (XS.aloadN X7.here hx rfl (B_ dk271) rfl rfl k_)))) ?_
         obtain ⟨_, T10, Lc10, X10, hQ10, st10⟩ := own_cV X7 hx hZ hown (w_ hw 52 rfl) (w_ hw 53 rfl) (notFace_of_selects (args := #[]) (mvT hZ (w_ hw 55 rfl))) (w_ hw 55 rfl) (w_ hw 54 rfl) (by decide) (backOf (W := 1) (rmLw2 l Z a0 hw [] a t k [(lb c0), (hb_ c0), (lb c1), (hb_ c1)] h0 n0 O0 G_ pr0 pr1 pr2 pr3) hZ (w_ hw 56 rfl) (w_ hw 9 rfl) (by decide) (by decide)) pr0 (g := (mkF mm_ 13 #[vr a, vi 2, vi c1] [(.ref a), (.int 2)])) rfl hml.symm (argsL := []) (rest := [(.int 2)]) (lenOf pd_14 rfl) rfl (Nat.le_of_eq rfl) (B_ dk272) rfl Eh7 (by decide) (by decide)
         obtain ⟨rfl, rfl, Eh10⟩ := hQ10
         have N10 := Fr.app N7 (Fr.nil n0)
         refine jp_ st10 ?_
         show Go_ T10 (mkF mm_ 16 #[vr a, vi 2, vi c1] [(.int 2), (.int 2)])
         refine sp_ (fun t_ k_ => XS.icmpYes X10.here hx rfl (pc0 := 16) (pc' := 45) rfl (B_ dk273) rfl (flt (by decide : ¬ ((2 : Int32) < (2 : Int32)))).2.1 (by decide) (by decide) k_) ?_
         show Go_ T10 (mkF mm_ 45 #[vr a, vi 2, vi c1] [])
         exact ((hW.elim (fun q0_ => (hc34_5 (own_big q0_).2)) (fun r0_ => (hc34_9 (own_big r0_).2))) : False).elim
theorem ef_rmDw3 (mm_ : MethodId) (a : Addr) : entryFrame mm_ #[(.ref a)] 3 = (mkF mm_ 0 #[vr a, un, un] []) := by first | (simp [entryFrame, mkF, argsToLocals, Value.category]; done) | rfl
def QrmDw3 (Z : State) (a : Addr) (t : Addr) (k : ClassId) (c0 : Int32) (c1 : Int32) (c2 : Int32) (h0 : Heap) (n0 : Nat) (vv_ : Option Value) (hh_ : Heap) (LL_ : List Loc) : Prop := (vv_ = some (.int 0)) ∧ (LL_ = []) ∧ (hh_ = h0)
theorem rmDw3 (l : Launch) (Z : State) (a0 : Array Value) (hw : own_Hw a0 Z) (ws : List Jvm.Cond) (a : Addr) (t : Addr) (k : ClassId) (c0 : Int32) (c1 : Int32) (c2 : Int32) {zc : Int32} {fm : Value} (h0 : Heap) (n0 : Nat) (O0 : Old Z n0 h0) (G_ : own_St Z zc fm) (pr0 : Exa Z h0 a sc0) (pr1 : Fld Z h0 a sc0 "coder" "B" (.int 1)) (pr2 : Fld Z h0 a sc0 "value" "[B" (.ref t)) (pr3 : Arv Z h0 t k .byte (6 : Int32) [(lb c0), (hb_ c0), (lb c1), (hb_ c1), (lb c2), (hb_ c2)] (.int 0)) (hc_c0 : ¬ c0 < (0 : Int32) ∧ ¬ (65535 : Int32) < c0) (hc_c1 : ¬ c1 < (0 : Int32) ∧ ¬ (65535 : Int32) < c1) (hc_c2 : ¬ c2 < (0 : Int32) ∧ ¬ (65535 : Int32) < c2) (hW : (255 : Int32) < c0 ∨ (255 : Int32) < c1 ∨ (255 : Int32) < c2) :
 own_MF l Z ym2 J22 3 (some .boolean) ws (rm_ 5 0 0 66) #[(.ref a)] h0 (QrmDw3 Z a t k c0 c1 c2 h0 n0) := by
 refine own_met (plainFor_of_name pn_com_example_malipo_malipo_core_intake_DecimalText) (fun m_ => ef_rmDw3 m_ a) fun pp_ ee_ ss_ mm_ bb_ me_ cc_ s₁ Bd hx hby hml hown hZ hh X0 e0 => ?_
 have B_ {q_ : Nat} {r_ : _} (h_ : decode _ q_ = r_) := hb hby h_
 have hown : ss_.vm.findClass sc3 = some mm_.cls := hown
 have N0 := Fr.nil n0
 have Z0 : n0 ≤ h0.size := by have q := O0.2.1; rw [O0.1] at q; exact q
 have K0 : Keep h0 h0 [] := Keep.refl _ _
 obtain ⟨G_cs, G_cs0, G_cw, G_h_java_lang_String_7, G_fm, G_fr, G_hb, G_lb, G_ad⟩ := id G_
 show Go_ s₁ (mkF mm_ 0 #[vr a, un, un] [])
 refine sp_ (fun t_ k_ => XS.aloadN X0.here hx rfl (B_ dk265) rfl rfl k_) ?_
 obtain ⟨_, T1, Lc1, X1, hQ1, st1⟩ := own_cV X0 hx hZ hown (w_ hw 33 rfl) (w_ hw 34 rfl) (notFace_of_selects (args := #[]) (mvT hZ (w_ hw 36 rfl))) (w_ hw 36 rfl) (w_ hw 35 rfl) (by decide) (backOf (W := 0) (rmEm l Z a0 hw [] a t k (6 : Int32) [(lb c0), (hb_ c0), (lb c1), (hb_ c1), (lb c2), (hb_ c2)] h0 n0 O0 pr2 pr3 (by first | assumption | rfl | decide | (simp; done))) hZ (w_ hw 37 rfl) (w_ hw 9 rfl) (by decide) (by decide)) pr0 (g := (mkF mm_ 1 #[vr a, un, un] [(.ref a)])) rfl hml.symm (argsL := []) (rest := []) (lenOf pd_13 rfl) rfl (Nat.le_of_eq rfl) (B_ dk266) rfl e0 (by decide) (by decide)
 obtain ⟨rfl, rfl, Eh1⟩ := hQ1
 have N1 := Fr.app N0 (Fr.nil n0)
 refine jp_ st1 ?_
 show Go_ T1 (mkF mm_ 4 #[vr a, un, un] [(.int 0)])
 refine sp_ (fun t_ k_ => XS.ifYes X1.here hx rfl (pc0 := 4) (pc' := 9) rfl (B_ dk267) rfl ((if0 _ _).trans (teq (by decide : (0 : Int32) = (0 : Int32))).1) (by decide) (by decide) k_) ?_
 show Go_ T1 (mkF mm_ 9 #[vr a, un, un] [])
 refine sp_ (fun t_ k_ => XS.iconst X1.here hx rfl (B_ dk268) (XS.istoreN X1.here hx rfl (B_ dk269) rfl (l' := #[vr a, vi 0, un]) rfl (XS.iloadN X1.here hx rfl (B_ dk270) rfl  (XS.aloadN X1.here hx rfl (B_ dk271) rfl rfl k_)))) ?_
 obtain ⟨_, T2, Lc2, X2, hQ2, st2⟩ := own_cV X1 hx hZ hown (w_ hw 52 rfl) (w_ hw 53 rfl) (notFace_of_selects (args := #[]) (mvT hZ (w_ hw 55 rfl))) (w_ hw 55 rfl) (w_ hw 54 rfl) (by decide) (backOf (W := 1) (rmLw3 l Z a0 hw [] a t k [(lb c0), (hb_ c0), (lb c1), (hb_ c1), (lb c2), (hb_ c2)] h0 n0 O0 G_ pr0 pr1 pr2 pr3) hZ (w_ hw 56 rfl) (w_ hw 9 rfl) (by decide) (by decide)) pr0 (g := (mkF mm_ 13 #[vr a, vi 0, un] [(.ref a), (.int 0)])) rfl hml.symm (argsL := []) (rest := [(.int 0)]) (lenOf pd_14 rfl) rfl (Nat.le_of_eq rfl) (B_ dk272) rfl Eh1 (by decide) (by decide)
 obtain ⟨rfl, rfl, Eh2⟩ := hQ2
 have N2 := Fr.app N1 (Fr.nil n0)
 refine jp_ st2 ?_
 show Go_ T2 (mkF mm_ 16 #[vr a, vi 0, un] [(.int 3), (.int 0)])
 refine sp_ (fun t_ k_ => XS.icmpNo X2.here hx rfl (B_ dk273) rfl (tlt (by decide : (0 : Int32) < (3 : Int32))).2.1 k_) ?_
 show Go_ T2 (mkF mm_ 19 #[vr a, vi 0, un] [])
 refine sp_ (fun t_ k_ => XS.aloadN X2.here hx rfl (B_ dk274) rfl rfl (XS.iloadN X2.here hx rfl (B_ dk275) rfl  k_)) ?_
 obtain ⟨_, T3, Lc3, X3, hQ3, st3⟩ := own_cV X2 hx hZ hown (w_ hw 62 rfl) (w_ hw 63 rfl) (notFace_of_selects (args := #[]) (mvT hZ (w_ hw 65 rfl))) (w_ hw 65 rfl) (w_ hw 64 rfl) (by decide) (backOf (W := 0) (rmCa0 l Z a0 hw [] a t k (6 : Int32) [(lb c0), (hb_ c0), (lb c1), (hb_ c1), (lb c2), (hb_ c2)] c0 h0 n0 O0 G_ pr0 pr1 pr2 pr3 (by first | assumption | rfl | decide | (simp; done)) (by first | assumption | rfl | decide | (simp; done)) (by first | assumption | rfl | decide | (simp; done)) (by first | assumption | rfl | decide | (simp; done)) hc_c0 (by first | assumption | rfl | decide | (simp; done))) hZ (w_ hw 66 rfl) (w_ hw 9 rfl) (by decide) (by decide)) pr0 (g := (mkF mm_ 21 #[vr a, vi 0, un] [(.int 0), (.ref a)])) rfl hml.symm (argsL := [(.int 0)]) (rest := []) (lenOf pd_15 rfl) rfl (Nat.le_of_eq rfl) (B_ dk276) rfl Eh2 (by decide) (by decide)
 obtain ⟨rfl, rfl, Eh3⟩ := hQ3
 have N3 := Fr.app N2 (Fr.nil n0)
 refine jp_ st3 ?_
 show Go_ T3 (mkF mm_ 24 #[vr a, vi 0, un] [(.int c0)])
 refine sp_ (fun t_ k_ => XS.istoreN X3.here hx rfl (B_ dk277) rfl (l' := #[vr a, vi 0, vi c0]) rfl (XS.iloadN X3.here hx rfl (B_ dk278) rfl  (XS.bipush X3.here hx rfl (B_ dk279) k_))) ?_
 show Go_ T3 (mkF mm_ 28 #[vr a, vi 0, vi c0] [(.int 48), (.int c0)])
 by_cases hc28_4 : c0 < (48 : Int32)
 · skip
   refine sp_ (fun t_ k_ => XS.icmpYes X3.here hx rfl (pc0 := 28) (pc' := 37) rfl (B_ dk280) rfl (tlt hc28_4).1 (by decide) (by decide) k_) ?_
   show Go_ T3 (mkF mm_ 37 #[vr a, vi 0, vi c0] [])
   refine sp_ (fun t_ k_ => XS.iconst X3.here hx rfl (B_ dk281) k_) ?_
   show Go_ T3 (mkF mm_ 38 #[vr a, vi 0, vi c0] [(.int 0)])
   obtain ⟨fs, hr, hrun, hended, hW, hsame⟩ := X3.leave (v := some (.int 0)) (rN Bd.returns)
   refine ⟨_, _, ?_, hrun, hended, _, _, rfl, ?_, ⟨_, rfl⟩, hW, hsame.mono (by decide) (by decide)⟩
   · exact retN X3 hx (t := .boolean) Bd.returns (by simp) (B_ dk282) hr
   · show QrmDw3 Z a t k c0 c1 c2 h0 n0 (some (.int 0)) T3.heap _
     rw [Eh3]
     exact ⟨rfl, rfl, rfl⟩
 · skip
   refine sp_ (fun t_ k_ => XS.icmpNo X3.here hx rfl (B_ dk280) rfl (flt hc28_4).1 k_) ?_
   show Go_ T3 (mkF mm_ 31 #[vr a, vi 0, vi c0] [])
   refine sp_ (fun t_ k_ => XS.iloadN X3.here hx rfl (B_ dk283) rfl  (XS.bipush X3.here hx rfl (B_ dk284) k_)) ?_
   show Go_ T3 (mkF mm_ 34 #[vr a, vi 0, vi c0] [(.int 57), (.int c0)])
   by_cases hc34_5 : (57 : Int32) < c0
   · skip
     refine sp_ (fun t_ k_ => XS.icmpNo X3.here hx rfl (B_ dk285) rfl (tlt hc34_5).2.2.2 k_) ?_
     show Go_ T3 (mkF mm_ 37 #[vr a, vi 0, vi c0] [])
     refine sp_ (fun t_ k_ => XS.iconst X3.here hx rfl (B_ dk281) k_) ?_
     show Go_ T3 (mkF mm_ 38 #[vr a, vi 0, vi c0] [(.int 0)])
     obtain ⟨fs, hr, hrun, hended, hW, hsame⟩ := X3.leave (v := some (.int 0)) (rN Bd.returns)
     refine ⟨_, _, ?_, hrun, hended, _, _, rfl, ?_, ⟨_, rfl⟩, hW, hsame.mono (by decide) (by decide)⟩
     · exact retN X3 hx (t := .boolean) Bd.returns (by simp) (B_ dk282) hr
     · show QrmDw3 Z a t k c0 c1 c2 h0 n0 (some (.int 0)) T3.heap _
       rw [Eh3]
       exact ⟨rfl, rfl, rfl⟩
   · skip
     refine sp_ (fun t_ k_ => XS.icmpYes X3.here hx rfl (pc0 := 34) (pc' := 39) rfl (B_ dk285) rfl (flt hc34_5).2.2.2 (by decide) (by decide) k_) ?_
     show Go_ T3 (mkF mm_ 39 #[vr a, vi 0, vi c0] [])
     refine sp_ (fun t_ k_ => XS.iinc X3.here hx rfl (B_ dk286) rfl (l' := #[vr a, vi 1, vi c0]) rfl (XS.goto X3.here hx rfl (pc0 := 42) (pc' := 11) rfl (B_ dk287) (by decide) (by decide) (XS.iloadN X3.here hx rfl (B_ dk270) rfl  (XS.aloadN X3.here hx rfl (B_ dk271) rfl rfl k_)))) ?_
     obtain ⟨_, T6, Lc6, X6, hQ6, st6⟩ := own_cV X3 hx hZ hown (w_ hw 52 rfl) (w_ hw 53 rfl) (notFace_of_selects (args := #[]) (mvT hZ (w_ hw 55 rfl))) (w_ hw 55 rfl) (w_ hw 54 rfl) (by decide) (backOf (W := 1) (rmLw3 l Z a0 hw [] a t k [(lb c0), (hb_ c0), (lb c1), (hb_ c1), (lb c2), (hb_ c2)] h0 n0 O0 G_ pr0 pr1 pr2 pr3) hZ (w_ hw 56 rfl) (w_ hw 9 rfl) (by decide) (by decide)) pr0 (g := (mkF mm_ 13 #[vr a, vi 1, vi c0] [(.ref a), (.int 1)])) rfl hml.symm (argsL := []) (rest := [(.int 1)]) (lenOf pd_14 rfl) rfl (Nat.le_of_eq rfl) (B_ dk272) rfl Eh3 (by decide) (by decide)
     obtain ⟨rfl, rfl, Eh6⟩ := hQ6
     have N6 := Fr.app N3 (Fr.nil n0)
     refine jp_ st6 ?_
     show Go_ T6 (mkF mm_ 16 #[vr a, vi 1, vi c0] [(.int 3), (.int 1)])
     refine sp_ (fun t_ k_ => XS.icmpNo X6.here hx rfl (B_ dk273) rfl (tlt (by decide : (1 : Int32) < (3 : Int32))).2.1 k_) ?_
     show Go_ T6 (mkF mm_ 19 #[vr a, vi 1, vi c0] [])
     refine sp_ (fun t_ k_ => XS.aloadN X6.here hx rfl (B_ dk274) rfl rfl (XS.iloadN X6.here hx rfl (B_ dk275) rfl  k_)) ?_
     obtain ⟨_, T7, Lc7, X7, hQ7, st7⟩ := own_cV X6 hx hZ hown (w_ hw 62 rfl) (w_ hw 63 rfl) (notFace_of_selects (args := #[]) (mvT hZ (w_ hw 65 rfl))) (w_ hw 65 rfl) (w_ hw 64 rfl) (by decide) (backOf (W := 0) (rmCa1 l Z a0 hw [] a t k (6 : Int32) [(lb c0), (hb_ c0), (lb c1), (hb_ c1), (lb c2), (hb_ c2)] c1 h0 n0 O0 G_ pr0 pr1 pr2 pr3 (by first | assumption | rfl | decide | (simp; done)) (by first | assumption | rfl | decide | (simp; done)) (by first | assumption | rfl | decide | (simp; done)) (by first | assumption | rfl | decide | (simp; done)) hc_c1 (by first | assumption | rfl | decide | (simp; done))) hZ (w_ hw 66 rfl) (w_ hw 9 rfl) (by decide) (by decide)) pr0 (g := (mkF mm_ 21 #[vr a, vi 1, vi c0] [(.int 1), (.ref a)])) rfl hml.symm (argsL := [(.int 1)]) (rest := []) (lenOf pd_15 rfl) rfl (Nat.le_of_eq rfl) (B_ dk276) rfl Eh6 (by decide) (by decide)
     obtain ⟨rfl, rfl, Eh7⟩ := hQ7
     have N7 := Fr.app N6 (Fr.nil n0)
     refine jp_ st7 ?_
     show Go_ T7 (mkF mm_ 24 #[vr a, vi 1, vi c0] [(.int c1)])
     refine sp_ (fun t_ k_ => XS.istoreN X7.here hx rfl (B_ dk277) rfl (l' := #[vr a, vi 1, vi c1]) rfl (XS.iloadN X7.here hx rfl (B_ dk278) rfl  (XS.bipush X7.here hx rfl (B_ dk279) k_))) ?_
     show Go_ T7 (mkF mm_ 28 #[vr a, vi 1, vi c1] [(.int 48), (.int c1)])
     by_cases hc28_8 : c1 < (48 : Int32)
     · skip
       refine sp_ (fun t_ k_ => XS.icmpYes X7.here hx rfl (pc0 := 28) (pc' := 37) rfl (B_ dk280) rfl (tlt hc28_8).1 (by decide) (by decide) k_) ?_
       show Go_ T7 (mkF mm_ 37 #[vr a, vi 1, vi c1] [])
       refine sp_ (fun t_ k_ => XS.iconst X7.here hx rfl (B_ dk281) k_) ?_
       show Go_ T7 (mkF mm_ 38 #[vr a, vi 1, vi c1] [(.int 0)])
       obtain ⟨fs, hr, hrun, hended, hW, hsame⟩ := X7.leave (v := some (.int 0)) (rN Bd.returns)
       refine ⟨_, _, ?_, hrun, hended, _, _, rfl, ?_, ⟨_, rfl⟩, hW, hsame.mono (by decide) (by decide)⟩
       · exact retN X7 hx (t := .boolean) Bd.returns (by simp) (B_ dk282) hr
       · show QrmDw3 Z a t k c0 c1 c2 h0 n0 (some (.int 0)) T7.heap _
         rw [Eh7]
         exact ⟨rfl, rfl, rfl⟩
     · skip
       refine sp_ (fun t_ k_ => XS.icmpNo X7.here hx rfl (B_ dk280) rfl (flt hc28_8).1 k_) ?_
       show Go_ T7 (mkF mm_ 31 #[vr a, vi 1, vi c1] [])
       refine sp_ (fun t_ k_ => XS.iloadN X7.here hx rfl (B_ dk283) rfl  (XS.bipush X7.here hx rfl (B_ dk284) k_)) ?_
       show Go_ T7 (mkF mm_ 34 #[vr a, vi 1, vi c1] [(.int 57), (.int c1)])
       by_cases hc34_9 : (57 : Int32) < c1
       · skip
         refine sp_ (fun t_ k_ => XS.icmpNo X7.here hx rfl (B_ dk285) rfl (tlt hc34_9).2.2.2 k_) ?_
         show Go_ T7 (mkF mm_ 37 #[vr a, vi 1, vi c1] [])
         refine sp_ (fun t_ k_ => XS.iconst X7.here hx rfl (B_ dk281) k_) ?_
         show Go_ T7 (mkF mm_ 38 #[vr a, vi 1, vi c1] [(.int 0)])
         obtain ⟨fs, hr, hrun, hended, hW, hsame⟩ := X7.leave (v := some (.int 0)) (rN Bd.returns)
         refine ⟨_, _, ?_, hrun, hended, _, _, rfl, ?_, ⟨_, rfl⟩, hW, hsame.mono (by decide) (by decide)⟩
         · exact retN X7 hx (t := .boolean) Bd.returns (by simp) (B_ dk282) hr
         · show QrmDw3 Z a t k c0 c1 c2 h0 n0 (some (.int 0)) T7.heap _
           rw [Eh7]
           exact ⟨rfl, rfl, rfl⟩
       · skip
         refine sp_ (fun t_ k_ => XS.icmpYes X7.here hx rfl (pc0 := 34) (pc' := 39) rfl (B_ dk285) rfl (flt hc34_9).2.2.2 (by decide) (by decide) k_) ?_
         show Go_ T7 (mkF mm_ 39 #[vr a, vi 1, vi c1] [])
         refine sp_ (fun t_ k_ => XS.iinc X7.here hx rfl (B_ dk286) rfl (l' := #[vr a, vi 2, vi c1]) rfl (XS.goto X7.here hx rfl (pc0 := 42) (pc' := 11) rfl (B_ dk287) (by decide) (by decide) (XS.iloadN X7.here hx rfl (B_ dk270) rfl  (XS.aloadN X7.here hx rfl (B_ dk271) rfl rfl k_)))) ?_
         obtain ⟨_, T10, Lc10, X10, hQ10, st10⟩ := own_cV X7 hx hZ hown (w_ hw 52 rfl) (w_ hw 53 rfl) (notFace_of_selects (args := #[]) (mvT hZ (w_ hw 55 rfl))) (w_ hw 55 rfl) (w_ hw 54 rfl) (by decide) (backOf (W := 1) (rmLw3 l Z a0 hw [] a t k [(lb c0), (hb_ c0), (lb c1), (hb_ c1), (lb c2), (hb_ c2)] h0 n0 O0 G_ pr0 pr1 pr2 pr3) hZ (w_ hw 56 rfl) (w_ hw 9 rfl) (by decide) (by decide)) pr0 (g := (mkF mm_ 13 #[vr a, vi 2, vi c1] [(.ref a), (.int 2)])) rfl hml.symm (argsL := []) (rest := [(.int 2)]) (lenOf pd_14 rfl) rfl (Nat.le_of_eq rfl) (B_ dk272) rfl Eh7 (by decide) (by decide)
         obtain ⟨rfl, rfl, Eh10⟩ := hQ10
         have N10 := Fr.app N7 (Fr.nil n0)
         refine jp_ st10 ?_
         show Go_ T10 (mkF mm_ 16 #[vr a, vi 2, vi c1] [(.int 3), (.int 2)])
         refine sp_ (fun t_ k_ => XS.icmpNo X10.here hx rfl (B_ dk273) rfl (tlt (by decide : (2 : Int32) < (3 : Int32))).2.1 k_) ?_
         show Go_ T10 (mkF mm_ 19 #[vr a, vi 2, vi c1] [])
         refine sp_ (fun t_ k_ => XS.aloadN X10.here hx rfl (B_ dk274) rfl rfl (XS.iloadN X10.here hx rfl (B_ dk275) rfl  k_)) ?_
         obtain ⟨_, T11, Lc11, X11, hQ11, st11⟩ := own_cV X10 hx hZ hown (w_ hw 62 rfl) (w_ hw 63 rfl) (notFace_of_selects (args := #[]) (mvT hZ (w_ hw 65 rfl))) (w_ hw 65 rfl) (w_ hw 64 rfl) (by decide) (backOf (W := 0) (rmCa2 l Z a0 hw [] a t k (6 : Int32) [(lb c0), (hb_ c0), (lb c1), (hb_ c1), (lb c2), (hb_ c2)] c2 h0 n0 O0 G_ pr0 pr1 pr2 pr3 (by first | assumption | rfl | decide | (simp; done)) (by first | assumption | rfl | decide | (simp; done)) (by first | assumption | rfl | decide | (simp; done)) (by first | assumption | rfl | decide | (simp; done)) hc_c2 (by first | assumption | rfl | decide | (simp; done))) hZ (w_ hw 66 rfl) (w_ hw 9 rfl) (by decide) (by decide)) pr0 (g := (mkF mm_ 21 #[vr a, vi 2, vi c1] [(.int 2), (.ref a)])) rfl hml.symm (argsL := [(.int 2)]) (rest := []) (lenOf pd_15 rfl) rfl (Nat.le_of_eq rfl) (B_ dk276) rfl Eh10 (by decide) (by decide)
         obtain ⟨rfl, rfl, Eh11⟩ := hQ11
         have N11 := Fr.app N10 (Fr.nil n0)
         refine jp_ st11 ?_
         show Go_ T11 (mkF mm_ 24 #[vr a, vi 2, vi c1] [(.int c2)])
         refine sp_ (fun t_ k_ => XS.istoreN X11.here hx rfl (B_ dk277) rfl (l' := #[vr a, vi 2, vi c2]) rfl (XS.iloadN X11.here hx rfl (B_ dk278) rfl  (XS.bipush X11.here hx rfl (B_ dk279) k_))) ?_
         show Go_ T11 (mkF mm_ 28 #[vr a, vi 2, vi c2] [(.int 48), (.int c2)])
         by_cases hc28_12 : c2 < (48 : Int32)
         · skip
           refine sp_ (fun t_ k_ => XS.icmpYes X11.here hx rfl (pc0 := 28) (pc' := 37) rfl (B_ dk280) rfl (tlt hc28_12).1 (by decide) (by decide) k_) ?_
           show Go_ T11 (mkF mm_ 37 #[vr a, vi 2, vi c2] [])
           refine sp_ (fun t_ k_ => XS.iconst X11.here hx rfl (B_ dk281) k_) ?_
           show Go_ T11 (mkF mm_ 38 #[vr a, vi 2, vi c2] [(.int 0)])
           obtain ⟨fs, hr, hrun, hended, hW, hsame⟩ := X11.leave (v := some (.int 0)) (rN Bd.returns)
           refine ⟨_, _, ?_, hrun, hended, _, _, rfl, ?_, ⟨_, rfl⟩, hW, hsame.mono (by decide) (by decide)⟩
           · exact retN X11 hx (t := .boolean) Bd.returns (by simp) (B_ dk282) hr
           · show QrmDw3 Z a t k c0 c1 c2 h0 n0 (some (.int 0)) T11.heap _
             rw [Eh11]
             exact ⟨rfl, rfl, rfl⟩
         · skip
           refine sp_ (fun t_ k_ => XS.icmpNo X11.here hx rfl (B_ dk280) rfl (flt hc28_12).1 k_) ?_
           show Go_ T11 (mkF mm_ 31 #[vr a, vi 2, vi c2] [])
           refine sp_ (fun t_ k_ => XS.iloadN X11.here hx rfl (B_ dk283) rfl  (XS.bipush X11.here hx rfl (B_ dk284) k_)) ?_
           show Go_ T11 (mkF mm_ 34 #[vr a, vi 2, vi c2] [(.int 57), (.int c2)])
           by_cases hc34_13 : (57 : Int32) < c2
           · skip
             refine sp_ (fun t_ k_ => XS.icmpNo X11.here hx rfl (B_ dk285) rfl (tlt hc34_13).2.2.2 k_) ?_
             show Go_ T11 (mkF mm_ 37 #[vr a, vi 2, vi c2] [])
             refine sp_ (fun t_ k_ => XS.iconst X11.here hx rfl (B_ dk281) k_) ?_
             show Go_ T11 (mkF mm_ 38 #[vr a, vi 2, vi c2] [(.int 0)])
             obtain ⟨fs, hr, hrun, hended, hW, hsame⟩ := X11.leave (v := some (.int 0)) (rN Bd.returns)
             refine ⟨_, _, ?_, hrun, hended, _, _, rfl, ?_, ⟨_, rfl⟩, hW, hsame.mono (by decide) (by decide)⟩
             · exact retN X11 hx (t := .boolean) Bd.returns (by simp) (B_ dk282) hr
             · show QrmDw3 Z a t k c0 c1 c2 h0 n0 (some (.int 0)) T11.heap _
               rw [Eh11]
               exact ⟨rfl, rfl, rfl⟩
           · skip
             refine sp_ (fun t_ k_ => XS.icmpYes X11.here hx rfl (pc0 := 34) (pc' := 39) rfl (B_ dk285) rfl (flt hc34_13).2.2.2 (by decide) (by decide) k_) ?_
             show Go_ T11 (mkF mm_ 39 #[vr a, vi 2, vi c2] [])
             refine sp_ (fun t_ k_ => XS.iinc X11.here hx rfl (B_ dk286) rfl (l' := #[vr a, vi 3, vi c2]) rfl (XS.goto X11.here hx rfl (pc0 := 42) (pc' := 11) rfl (B_ dk287) (by decide) (by decide) (XS.iloadN X11.here hx rfl (B_ dk270) rfl  (XS.aloadN X11.here hx rfl (B_ dk271) rfl rfl k_)))) ?_
             obtain ⟨_, T14, Lc14, X14, hQ14, st14⟩ := own_cV X11 hx hZ hown (w_ hw 52 rfl) (w_ hw 53 rfl) (notFace_of_selects (args := #[]) (mvT hZ (w_ hw 55 rfl))) (w_ hw 55 rfl) (w_ hw 54 rfl) (by decide) (backOf (W := 1) (rmLw3 l Z a0 hw [] a t k [(lb c0), (hb_ c0), (lb c1), (hb_ c1), (lb c2), (hb_ c2)] h0 n0 O0 G_ pr0 pr1 pr2 pr3) hZ (w_ hw 56 rfl) (w_ hw 9 rfl) (by decide) (by decide)) pr0 (g := (mkF mm_ 13 #[vr a, vi 3, vi c2] [(.ref a), (.int 3)])) rfl hml.symm (argsL := []) (rest := [(.int 3)]) (lenOf pd_14 rfl) rfl (Nat.le_of_eq rfl) (B_ dk272) rfl Eh11 (by decide) (by decide)
             obtain ⟨rfl, rfl, Eh14⟩ := hQ14
             have N14 := Fr.app N11 (Fr.nil n0)
             refine jp_ st14 ?_
             show Go_ T14 (mkF mm_ 16 #[vr a, vi 3, vi c2] [(.int 3), (.int 3)])
             refine sp_ (fun t_ k_ => XS.icmpYes X14.here hx rfl (pc0 := 16) (pc' := 45) rfl (B_ dk273) rfl (flt (by decide : ¬ ((3 : Int32) < (3 : Int32)))).2.1 (by decide) (by decide) k_) ?_
             show Go_ T14 (mkF mm_ 45 #[vr a, vi 3, vi c2] [])
             exact ((hW.elim (fun q0_ => (hc34_5 (own_big q0_).2)) (fun r0_ => (r0_.elim (fun q1_ => (hc34_9 (own_big q1_).2)) (fun r1_ => (hc34_13 (own_big r1_).2))))) : False).elim
theorem ef_rmDw4 (mm_ : MethodId) (a : Addr) : entryFrame mm_ #[(.ref a)] 3 = (mkF mm_ 0 #[vr a, un, un] []) := by first | (simp [entryFrame, mkF, argsToLocals, Value.category]; done) | rfl
def QrmDw4 (Z : State) (a : Addr) (t : Addr) (k : ClassId) (c0 : Int32) (c1 : Int32) (c2 : Int32) (c3 : Int32) (h0 : Heap) (n0 : Nat) (vv_ : Option Value) (hh_ : Heap) (LL_ : List Loc) : Prop := (vv_ = some (.int 0)) ∧ (LL_ = []) ∧ (hh_ = h0)
theorem rmDw4 (l : Launch) (Z : State) (a0 : Array Value) (hw : own_Hw a0 Z) (ws : List Jvm.Cond) (a : Addr) (t : Addr) (k : ClassId) (c0 : Int32) (c1 : Int32) (c2 : Int32) (c3 : Int32) {zc : Int32} {fm : Value} (h0 : Heap) (n0 : Nat) (O0 : Old Z n0 h0) (G_ : own_St Z zc fm) (pr0 : Exa Z h0 a sc0) (pr1 : Fld Z h0 a sc0 "coder" "B" (.int 1)) (pr2 : Fld Z h0 a sc0 "value" "[B" (.ref t)) (pr3 : Arv Z h0 t k .byte (8 : Int32) [(lb c0), (hb_ c0), (lb c1), (hb_ c1), (lb c2), (hb_ c2), (lb c3), (hb_ c3)] (.int 0)) (hc_c0 : ¬ c0 < (0 : Int32) ∧ ¬ (65535 : Int32) < c0) (hc_c1 : ¬ c1 < (0 : Int32) ∧ ¬ (65535 : Int32) < c1) (hc_c2 : ¬ c2 < (0 : Int32) ∧ ¬ (65535 : Int32) < c2) (hc_c3 : ¬ c3 < (0 : Int32) ∧ ¬ (65535 : Int32) < c3) (hW : (255 : Int32) < c0 ∨ (255 : Int32) < c1 ∨ (255 : Int32) < c2 ∨ (255 : Int32) < c3) :
 own_MF l Z ym2 J22 3 (some .boolean) ws (rm_ 5 0 0 66) #[(.ref a)] h0 (QrmDw4 Z a t k c0 c1 c2 c3 h0 n0) := by
 refine own_met (plainFor_of_name pn_com_example_malipo_malipo_core_intake_DecimalText) (fun m_ => ef_rmDw4 m_ a) fun pp_ ee_ ss_ mm_ bb_ me_ cc_ s₁ Bd hx hby hml hown hZ hh X0 e0 => ?_
 have B_ {q_ : Nat} {r_ : _} (h_ : decode _ q_ = r_) := hb hby h_
 have hown : ss_.vm.findClass sc3 = some mm_.cls := hown
 have N0 := Fr.nil n0
 have Z0 : n0 ≤ h0.size := by have q := O0.2.1; rw [O0.1] at q; exact q
 have K0 : Keep h0 h0 [] := Keep.refl _ _
 obtain ⟨G_cs, G_cs0, G_cw, G_h_java_lang_String_7, G_fm, G_fr, G_hb, G_lb, G_ad⟩ := id G_
 show Go_ s₁ (mkF mm_ 0 #[vr a, un, un] [])
 refine sp_ (fun t_ k_ => XS.aloadN X0.here hx rfl (B_ dk265) rfl rfl k_) ?_
 obtain ⟨_, T1, Lc1, X1, hQ1, st1⟩ := own_cV X0 hx hZ hown (w_ hw 33 rfl) (w_ hw 34 rfl) (notFace_of_selects (args := #[]) (mvT hZ (w_ hw 36 rfl))) (w_ hw 36 rfl) (w_ hw 35 rfl) (by decide) (backOf (W := 0) (rmEm l Z a0 hw [] a t k (8 : Int32) [(lb c0), (hb_ c0), (lb c1), (hb_ c1), (lb c2), (hb_ c2), (lb c3), (hb_ c3)] h0 n0 O0 pr2 pr3 (by first | assumption | rfl | decide | (simp; done))) hZ (w_ hw 37 rfl) (w_ hw 9 rfl) (by decide) (by decide)) pr0 (g := (mkF mm_ 1 #[vr a, un, un] [(.ref a)])) rfl hml.symm (argsL := []) (rest := []) (lenOf pd_13 rfl) rfl (Nat.le_of_eq rfl) (B_ dk266) rfl e0 (by decide) (by decide)
 obtain ⟨rfl, rfl, Eh1⟩ := hQ1
 have N1 := Fr.app N0 (Fr.nil n0)
 refine jp_ st1 ?_
 show Go_ T1 (mkF mm_ 4 #[vr a, un, un] [(.int 0)])
 refine sp_ (fun t_ k_ => XS.ifYes X1.here hx rfl (pc0 := 4) (pc' := 9) rfl (B_ dk267) rfl ((if0 _ _).trans (teq (by decide : (0 : Int32) = (0 : Int32))).1) (by decide) (by decide) k_) ?_
 show Go_ T1 (mkF mm_ 9 #[vr a, un, un] [])
 refine sp_ (fun t_ k_ => XS.iconst X1.here hx rfl (B_ dk268) (XS.istoreN X1.here hx rfl (B_ dk269) rfl (l' := #[vr a, vi 0, un]) rfl (XS.iloadN X1.here hx rfl (B_ dk270) rfl  (XS.aloadN X1.here hx rfl (B_ dk271) rfl rfl k_)))) ?_
 obtain ⟨_, T2, Lc2, X2, hQ2, st2⟩ := own_cV X1 hx hZ hown (w_ hw 52 rfl) (w_ hw 53 rfl) (notFace_of_selects (args := #[]) (mvT hZ (w_ hw 55 rfl))) (w_ hw 55 rfl) (w_ hw 54 rfl) (by decide) (backOf (W := 1) (rmLw4 l Z a0 hw [] a t k [(lb c0), (hb_ c0), (lb c1), (hb_ c1), (lb c2), (hb_ c2), (lb c3), (hb_ c3)] h0 n0 O0 G_ pr0 pr1 pr2 pr3) hZ (w_ hw 56 rfl) (w_ hw 9 rfl) (by decide) (by decide)) pr0 (g := (mkF mm_ 13 #[vr a, vi 0, un] [(.ref a), (.int 0)])) rfl hml.symm (argsL := []) (rest := [(.int 0)]) (lenOf pd_14 rfl) rfl (Nat.le_of_eq rfl) (B_ dk272) rfl Eh1 (by decide) (by decide)
 obtain ⟨rfl, rfl, Eh2⟩ := hQ2
 have N2 := Fr.app N1 (Fr.nil n0)
 refine jp_ st2 ?_
 show Go_ T2 (mkF mm_ 16 #[vr a, vi 0, un] [(.int 4), (.int 0)])
 refine sp_ (fun t_ k_ => XS.icmpNo X2.here hx rfl (B_ dk273) rfl (tlt (by decide : (0 : Int32) < (4 : Int32))).2.1 k_) ?_
 show Go_ T2 (mkF mm_ 19 #[vr a, vi 0, un] [])
 refine sp_ (fun t_ k_ => XS.aloadN X2.here hx rfl (B_ dk274) rfl rfl (XS.iloadN X2.here hx rfl (B_ dk275) rfl  k_)) ?_
 obtain ⟨_, T3, Lc3, X3, hQ3, st3⟩ := own_cV X2 hx hZ hown (w_ hw 62 rfl) (w_ hw 63 rfl) (notFace_of_selects (args := #[]) (mvT hZ (w_ hw 65 rfl))) (w_ hw 65 rfl) (w_ hw 64 rfl) (by decide) (backOf (W := 0) (rmCa0 l Z a0 hw [] a t k (8 : Int32) [(lb c0), (hb_ c0), (lb c1), (hb_ c1), (lb c2), (hb_ c2), (lb c3), (hb_ c3)] c0 h0 n0 O0 G_ pr0 pr1 pr2 pr3 (by first | assumption | rfl | decide | (simp; done)) (by first | assumption | rfl | decide | (simp; done)) (by first | assumption | rfl | decide | (simp; done)) (by first | assumption | rfl | decide | (simp; done)) hc_c0 (by first | assumption | rfl | decide | (simp; done))) hZ (w_ hw 66 rfl) (w_ hw 9 rfl) (by decide) (by decide)) pr0 (g := (mkF mm_ 21 #[vr a, vi 0, un] [(.int 0), (.ref a)])) rfl hml.symm (argsL := [(.int 0)]) (rest := []) (lenOf pd_15 rfl) rfl (Nat.le_of_eq rfl) (B_ dk276) rfl Eh2 (by decide) (by decide)
 obtain ⟨rfl, rfl, Eh3⟩ := hQ3
 have N3 := Fr.app N2 (Fr.nil n0)
 refine jp_ st3 ?_
 show Go_ T3 (mkF mm_ 24 #[vr a, vi 0, un] [(.int c0)])
 refine sp_ (fun t_ k_ => XS.istoreN X3.here hx rfl (B_ dk277) rfl (l' := #[vr a, vi 0, vi c0]) rfl (XS.iloadN X3.here hx rfl (B_ dk278) rfl  (XS.bipush X3.here hx rfl (B_ dk279) k_))) ?_
 show Go_ T3 (mkF mm_ 28 #[vr a, vi 0, vi c0] [(.int 48), (.int c0)])
 by_cases hc28_4 : c0 < (48 : Int32)
 · skip
   refine sp_ (fun t_ k_ => XS.icmpYes X3.here hx rfl (pc0 := 28) (pc' := 37) rfl (B_ dk280) rfl (tlt hc28_4).1 (by decide) (by decide) k_) ?_
   show Go_ T3 (mkF mm_ 37 #[vr a, vi 0, vi c0] [])
   refine sp_ (fun t_ k_ => XS.iconst X3.here hx rfl (B_ dk281) k_) ?_
   show Go_ T3 (mkF mm_ 38 #[vr a, vi 0, vi c0] [(.int 0)])
   obtain ⟨fs, hr, hrun, hended, hW, hsame⟩ := X3.leave (v := some (.int 0)) (rN Bd.returns)
   refine ⟨_, _, ?_, hrun, hended, _, _, rfl, ?_, ⟨_, rfl⟩, hW, hsame.mono (by decide) (by decide)⟩
   · exact retN X3 hx (t := .boolean) Bd.returns (by simp) (B_ dk282) hr
   · show QrmDw4 Z a t k c0 c1 c2 c3 h0 n0 (some (.int 0)) T3.heap _
     rw [Eh3]
     exact ⟨rfl, rfl, rfl⟩
 · skip
   refine sp_ (fun t_ k_ => XS.icmpNo X3.here hx rfl (B_ dk280) rfl (flt hc28_4).1 k_) ?_
   show Go_ T3 (mkF mm_ 31 #[vr a, vi 0, vi c0] [])
   refine sp_ (fun t_ k_ => XS.iloadN X3.here hx rfl (B_ dk283) rfl  (XS.bipush X3.here hx rfl (B_ dk284) k_)) ?_
   show Go_ T3 (mkF mm_ 34 #[vr a, vi 0, vi c0] [(.int 57), (.int c0)])
   by_cases hc34_5 : (57 : Int32) < c0
   · skip
     refine sp_ (fun t_ k_ => XS.icmpNo X3.here hx rfl (B_ dk285) rfl (tlt hc34_5).2.2.2 k_) ?_
     show Go_ T3 (mkF mm_ 37 #[vr a, vi 0, vi c0] [])
     refine sp_ (fun t_ k_ => XS.iconst X3.here hx rfl (B_ dk281) k_) ?_
     show Go_ T3 (mkF mm_ 38 #[vr a, vi 0, vi c0] [(.int 0)])
     obtain ⟨fs, hr, hrun, hended, hW, hsame⟩ := X3.leave (v := some (.int 0)) (rN Bd.returns)
     refine ⟨_, _, ?_, hrun, hended, _, _, rfl, ?_, ⟨_, rfl⟩, hW, hsame.mono (by decide) (by decide)⟩
     · exact retN X3 hx (t := .boolean) Bd.returns (by simp) (B_ dk282) hr
     · show QrmDw4 Z a t k c0 c1 c2 c3 h0 n0 (some (.int 0)) T3.heap _
       rw [Eh3]
       exact ⟨rfl, rfl, rfl⟩
   · skip
     refine sp_ (fun t_ k_ => XS.icmpYes X3.here hx rfl (pc0 := 34) (pc' := 39) rfl (B_ dk285) rfl (flt hc34_5).2.2.2 (by decide) (by decide) k_) ?_
     show Go_ T3 (mkF mm_ 39 #[vr a, vi 0, vi c0] [])
     refine sp_ (fun t_ k_ => XS.iinc X3.here hx rfl (B_ dk286) rfl (l' := #[vr a, vi 1, vi c0]) rfl (XS.goto X3.here hx rfl (pc0 := 42) (pc' := 11) rfl (B_ dk287) (by decide) (by decide) (XS.iloadN X3.here hx rfl (B_ dk270) rfl  (XS.aloadN X3.here hx rfl (B_ dk271) rfl rfl k_)))) ?_
     obtain ⟨_, T6, Lc6, X6, hQ6, st6⟩ := own_cV X3 hx hZ hown (w_ hw 52 rfl) (w_ hw 53 rfl) (notFace_of_selects (args := #[]) (mvT hZ (w_ hw 55 rfl))) (w_ hw 55 rfl) (w_ hw 54 rfl) (by decide) (backOf (W := 1) (rmLw4 l Z a0 hw [] a t k [(lb c0), (hb_ c0), (lb c1), (hb_ c1), (lb c2), (hb_ c2), (lb c3), (hb_ c3)] h0 n0 O0 G_ pr0 pr1 pr2 pr3) hZ (w_ hw 56 rfl) (w_ hw 9 rfl) (by decide) (by decide)) pr0 (g := (mkF mm_ 13 #[vr a, vi 1, vi c0] [(.ref a), (.int 1)])) rfl hml.symm (argsL := []) (rest := [(.int 1)]) (lenOf pd_14 rfl) rfl (Nat.le_of_eq rfl) (B_ dk272) rfl Eh3 (by decide) (by decide)
     obtain ⟨rfl, rfl, Eh6⟩ := hQ6
     have N6 := Fr.app N3 (Fr.nil n0)
     refine jp_ st6 ?_
     show Go_ T6 (mkF mm_ 16 #[vr a, vi 1, vi c0] [(.int 4), (.int 1)])
     refine sp_ (fun t_ k_ => XS.icmpNo X6.here hx rfl (B_ dk273) rfl (tlt (by decide : (1 : Int32) < (4 : Int32))).2.1 k_) ?_
     show Go_ T6 (mkF mm_ 19 #[vr a, vi 1, vi c0] [])
     refine sp_ (fun t_ k_ => XS.aloadN X6.here hx rfl (B_ dk274) rfl rfl (XS.iloadN X6.here hx rfl (B_ dk275) rfl  k_)) ?_
     obtain ⟨_, T7, Lc7, X7, hQ7, st7⟩ := own_cV X6 hx hZ hown (w_ hw 62 rfl) (w_ hw 63 rfl) (notFace_of_selects (args := #[]) (mvT hZ (w_ hw 65 rfl))) (w_ hw 65 rfl) (w_ hw 64 rfl) (by decide) (backOf (W := 0) (rmCa1 l Z a0 hw [] a t k (8 : Int32) [(lb c0), (hb_ c0), (lb c1), (hb_ c1), (lb c2), (hb_ c2), (lb c3), (hb_ c3)] c1 h0 n0 O0 G_ pr0 pr1 pr2 pr3 (by first | assumption | rfl | decide | (simp; done)) (by first | assumption | rfl | decide | (simp; done)) (by first | assumption | rfl | decide | (simp; done)) (by first | assumption | rfl | decide | (simp; done)) hc_c1 (by first | assumption | rfl | decide | (simp; done))) hZ (w_ hw 66 rfl) (w_ hw 9 rfl) (by decide) (by decide)) pr0 (g := (mkF mm_ 21 #[vr a, vi 1, vi c0] [(.int 1), (.ref a)])) rfl hml.symm (argsL := [(.int 1)]) (rest := []) (lenOf pd_15 rfl) rfl (Nat.le_of_eq rfl) (B_ dk276) rfl Eh6 (by decide) (by decide)
     obtain ⟨rfl, rfl, Eh7⟩ := hQ7
     have N7 := Fr.app N6 (Fr.nil n0)
     refine jp_ st7 ?_
     show Go_ T7 (mkF mm_ 24 #[vr a, vi 1, vi c0] [(.int c1)])
     refine sp_ (fun t_ k_ => XS.istoreN X7.here hx rfl (B_ dk277) rfl (l' := #[vr a, vi 1, vi c1]) rfl (XS.iloadN X7.here hx rfl (B_ dk278) rfl  (XS.bipush X7.here hx rfl (B_ dk279) k_))) ?_
     show Go_ T7 (mkF mm_ 28 #[vr a, vi 1, vi c1] [(.int 48), (.int c1)])
     by_cases hc28_8 : c1 < (48 : Int32)
     · skip
       refine sp_ (fun t_ k_ => XS.icmpYes X7.here hx rfl (pc0 := 28) (pc' := 37) rfl (B_ dk280) rfl (tlt hc28_8).1 (by decide) (by decide) k_) ?_
       show Go_ T7 (mkF mm_ 37 #[vr a, vi 1, vi c1] [])
       refine sp_ (fun t_ k_ => XS.iconst X7.here hx rfl (B_ dk281) k_) ?_
       show Go_ T7 (mkF mm_ 38 #[vr a, vi 1, vi c1] [(.int 0)])
       obtain ⟨fs, hr, hrun, hended, hW, hsame⟩ := X7.leave (v := some (.int 0)) (rN Bd.returns)
       refine ⟨_, _, ?_, hrun, hended, _, _, rfl, ?_, ⟨_, rfl⟩, hW, hsame.mono (by decide) (by decide)⟩
       · exact retN X7 hx (t := .boolean) Bd.returns (by simp) (B_ dk282) hr
       · show QrmDw4 Z a t k c0 c1 c2 c3 h0 n0 (some (.int 0)) T7.heap _
         rw [Eh7]
         exact ⟨rfl, rfl, rfl⟩
     · skip
       refine sp_ (fun t_ k_ => XS.icmpNo X7.here hx rfl (B_ dk280) rfl (flt hc28_8).1 k_) ?_
       show Go_ T7 (mkF mm_ 31 #[vr a, vi 1, vi c1] [])
       refine sp_ (fun t_ k_ => XS.iloadN X7.here hx rfl (B_ dk283) rfl  (XS.bipush X7.here hx rfl (B_ dk284) k_)) ?_
       show Go_ T7 (mkF mm_ 34 #[vr a, vi 1, vi c1] [(.int 57), (.int c1)])
       by_cases hc34_9 : (57 : Int32) < c1
       · skip
         refine sp_ (fun t_ k_ => XS.icmpNo X7.here hx rfl (B_ dk285) rfl (tlt hc34_9).2.2.2 k_) ?_
         show Go_ T7 (mkF mm_ 37 #[vr a, vi 1, vi c1] [])
         refine sp_ (fun t_ k_ => XS.iconst X7.here hx rfl (B_ dk281) k_) ?_
         show Go_ T7 (mkF mm_ 38 #[vr a, vi 1, vi c1] [(.int 0)])
         obtain ⟨fs, hr, hrun, hended, hW, hsame⟩ := X7.leave (v := some (.int 0)) (rN Bd.returns)
         refine ⟨_, _, ?_, hrun, hended, _, _, rfl, ?_, ⟨_, rfl⟩, hW, hsame.mono (by decide) (by decide)⟩
         · exact retN X7 hx (t := .boolean) Bd.returns (by simp) (B_ dk282) hr
         · show QrmDw4 Z a t k c0 c1 c2 c3 h0 n0 (some (.int 0)) T7.heap _
           rw [Eh7]
           exact ⟨rfl, rfl, rfl⟩
       · skip
         refine sp_ (fun t_ k_ => XS.icmpYes X7.here hx rfl (pc0 := 34) (pc' := 39) rfl (B_ dk285) rfl (flt hc34_9).2.2.2 (by decide) (by decide) k_) ?_
         show Go_ T7 (mkF mm_ 39 #[vr a, vi 1, vi c1] [])
         refine sp_ (fun t_ k_ => XS.iinc X7.here hx rfl (B_ dk286) rfl (l' := #[vr a, vi 2, vi c1]) rfl (XS.goto X7.here hx rfl (pc0 := 42) (pc' := 11) rfl (B_ dk287) (by decide) (by decide) (XS.iloadN X7.here hx rfl (B_ dk270) rfl  (XS.aloadN X7.here hx rfl (B_ dk271) rfl rfl k_)))) ?_
         obtain ⟨_, T10, Lc10, X10, hQ10, st10⟩ := own_cV X7 hx hZ hown (w_ hw 52 rfl) (w_ hw 53 rfl) (notFace_of_selects (args := #[]) (mvT hZ (w_ hw 55 rfl))) (w_ hw 55 rfl) (w_ hw 54 rfl) (by decide) (backOf (W := 1) (rmLw4 l Z a0 hw [] a t k [(lb c0), (hb_ c0), (lb c1), (hb_ c1), (lb c2), (hb_ c2), (lb c3), (hb_ c3)] h0 n0 O0 G_ pr0 pr1 pr2 pr3) hZ (w_ hw 56 rfl) (w_ hw 9 rfl) (by decide) (by decide)) pr0 (g := (mkF mm_ 13 #[vr a, vi 2, vi c1] [(.ref a), (.int 2)])) rfl hml.symm (argsL := []) (rest := [(.int 2)]) (lenOf pd_14 rfl) rfl (Nat.le_of_eq rfl) (B_ dk272) rfl Eh7 (by decide) (by decide)
         obtain ⟨rfl, rfl, Eh10⟩ := hQ10
         have N10 := Fr.app N7 (Fr.nil n0)
         refine jp_ st10 ?_
         show Go_ T10 (mkF mm_ 16 #[vr a, vi 2, vi c1] [(.int 4), (.int 2)])
         refine sp_ (fun t_ k_ => XS.icmpNo X10.here hx rfl (B_ dk273) rfl (tlt (by decide : (2 : Int32) < (4 : Int32))).2.1 k_) ?_
         show Go_ T10 (mkF mm_ 19 #[vr a, vi 2, vi c1] [])
         refine sp_ (fun t_ k_ => XS.aloadN X10.here hx rfl (B_ dk274) rfl rfl (XS.iloadN X10.here hx rfl (B_ dk275) rfl  k_)) ?_
         obtain ⟨_, T11, Lc11, X11, hQ11, st11⟩ := own_cV X10 hx hZ hown (w_ hw 62 rfl) (w_ hw 63 rfl) (notFace_of_selects (args := #[]) (mvT hZ (w_ hw 65 rfl))) (w_ hw 65 rfl) (w_ hw 64 rfl) (by decide) (backOf (W := 0) (rmCa2 l Z a0 hw [] a t k (8 : Int32) [(lb c0), (hb_ c0), (lb c1), (hb_ c1), (lb c2), (hb_ c2), (lb c3), (hb_ c3)] c2 h0 n0 O0 G_ pr0 pr1 pr2 pr3 (by first | assumption | rfl | decide | (simp; done)) (by first | assumption | rfl | decide | (simp; done)) (by first | assumption | rfl | decide | (simp; done)) (by first | assumption | rfl | decide | (simp; done)) hc_c2 (by first | assumption | rfl | decide | (simp; done))) hZ (w_ hw 66 rfl) (w_ hw 9 rfl) (by decide) (by decide)) pr0 (g := (mkF mm_ 21 #[vr a, vi 2, vi c1] [(.int 2), (.ref a)])) rfl hml.symm (argsL := [(.int 2)]) (rest := []) (lenOf pd_15 rfl) rfl (Nat.le_of_eq rfl) (B_ dk276) rfl Eh10 (by decide) (by decide)
         obtain ⟨rfl, rfl, Eh11⟩ := hQ11
         have N11 := Fr.app N10 (Fr.nil n0)
         refine jp_ st11 ?_
         show Go_ T11 (mkF mm_ 24 #[vr a, vi 2, vi c1] [(.int c2)])
         refine sp_ (fun t_ k_ => XS.istoreN X11.here hx rfl (B_ dk277) rfl (l' := #[vr a, vi 2, vi c2]) rfl (XS.iloadN X11.here hx rfl (B_ dk278) rfl  (XS.bipush X11.here hx rfl (B_ dk279) k_))) ?_
         show Go_ T11 (mkF mm_ 28 #[vr a, vi 2, vi c2] [(.int 48), (.int c2)])
         by_cases hc28_12 : c2 < (48 : Int32)
         · skip
           refine sp_ (fun t_ k_ => XS.icmpYes X11.here hx rfl (pc0 := 28) (pc' := 37) rfl (B_ dk280) rfl (tlt hc28_12).1 (by decide) (by decide) k_) ?_
           show Go_ T11 (mkF mm_ 37 #[vr a, vi 2, vi c2] [])
           refine sp_ (fun t_ k_ => XS.iconst X11.here hx rfl (B_ dk281) k_) ?_
           show Go_ T11 (mkF mm_ 38 #[vr a, vi 2, vi c2] [(.int 0)])
           obtain ⟨fs, hr, hrun, hended, hW, hsame⟩ := X11.leave (v := some (.int 0)) (rN Bd.returns)
           refine ⟨_, _, ?_, hrun, hended, _, _, rfl, ?_, ⟨_, rfl⟩, hW, hsame.mono (by decide) (by decide)⟩
           · exact retN X11 hx (t := .boolean) Bd.returns (by simp) (B_ dk282) hr
           · show QrmDw4 Z a t k c0 c1 c2 c3 h0 n0 (some (.int 0)) T11.heap _
             rw [Eh11]
             exact ⟨rfl, rfl, rfl⟩
         · skip
           refine sp_ (fun t_ k_ => XS.icmpNo X11.here hx rfl (B_ dk280) rfl (flt hc28_12).1 k_) ?_
           show Go_ T11 (mkF mm_ 31 #[vr a, vi 2, vi c2] [])
           refine sp_ (fun t_ k_ => XS.iloadN X11.here hx rfl (B_ dk283) rfl  (XS.bipush X11.here hx rfl (B_ dk284) k_)) ?_
           show Go_ T11 (mkF mm_ 34 #[vr a, vi 2, vi c2] [(.int 57), (.int c2)])
           by_cases hc34_13 : (57 : Int32) < c2
           · skip
             refine sp_ (fun t_ k_ => XS.icmpNo X11.here hx rfl (B_ dk285) rfl (tlt hc34_13).2.2.2 k_) ?_
             show Go_ T11 (mkF mm_ 37 #[vr a, vi 2, vi c2] [])
             refine sp_ (fun t_ k_ => XS.iconst X11.here hx rfl (B_ dk281) k_) ?_
             show Go_ T11 (mkF mm_ 38 #[vr a, vi 2, vi c2] [(.int 0)])
             obtain ⟨fs, hr, hrun, hended, hW, hsame⟩ := X11.leave (v := some (.int 0)) (rN Bd.returns)
             refine ⟨_, _, ?_, hrun, hended, _, _, rfl, ?_, ⟨_, rfl⟩, hW, hsame.mono (by decide) (by decide)⟩
             · exact retN X11 hx (t := .boolean) Bd.returns (by simp) (B_ dk282) hr
             · show QrmDw4 Z a t k c0 c1 c2 c3 h0 n0 (some (.int 0)) T11.heap _
               rw [Eh11]
               exact ⟨rfl, rfl, rfl⟩
           · skip
             refine sp_ (fun t_ k_ => XS.icmpYes X11.here hx rfl (pc0 := 34) (pc' := 39) rfl (B_ dk285) rfl (flt hc34_13).2.2.2 (by decide) (by decide) k_) ?_
             show Go_ T11 (mkF mm_ 39 #[vr a, vi 2, vi c2] [])
             refine sp_ (fun t_ k_ => XS.iinc X11.here hx rfl (B_ dk286) rfl (l' := #[vr a, vi 3, vi c2]) rfl (XS.goto X11.here hx rfl (pc0 := 42) (pc' := 11) rfl (B_ dk287) (by decide) (by decide) (XS.iloadN X11.here hx rfl (B_ dk270) rfl  (XS.aloadN X11.here hx rfl (B_ dk271) rfl rfl k_)))) ?_
             obtain ⟨_, T14, Lc14, X14, hQ14, st14⟩ := own_cV X11 hx hZ hown (w_ hw 52 rfl) (w_ hw 53 rfl) (notFace_of_selects (args := #[]) (mvT hZ (w_ hw 55 rfl))) (w_ hw 55 rfl) (w_ hw 54 rfl) (by decide) (backOf (W := 1) (rmLw4 l Z a0 hw [] a t k [(lb c0), (hb_ c0), (lb c1), (hb_ c1), (lb c2), (hb_ c2), (lb c3), (hb_ c3)] h0 n0 O0 G_ pr0 pr1 pr2 pr3) hZ (w_ hw 56 rfl) (w_ hw 9 rfl) (by decide) (by decide)) pr0 (g := (mkF mm_ 13 #[vr a, vi 3, vi c2] [(.ref a), (.int 3)])) rfl hml.symm (argsL := []) (rest := [(.int 3)]) (lenOf pd_14 rfl) rfl (Nat.le_of_eq rfl) (B_ dk272) rfl Eh11 (by decide) (by decide)
             obtain ⟨rfl, rfl, Eh14⟩ := hQ14
             have N14 := Fr.app N11 (Fr.nil n0)
             refine jp_ st14 ?_
             show Go_ T14 (mkF mm_ 16 #[vr a, vi 3, vi c2] [(.int 4), (.int 3)])
             refine sp_ (fun t_ k_ => XS.icmpNo X14.here hx rfl (B_ dk273) rfl (tlt (by decide : (3 : Int32) < (4 : Int32))).2.1 k_) ?_
             show Go_ T14 (mkF mm_ 19 #[vr a, vi 3, vi c2] [])
             refine sp_ (fun t_ k_ => XS.aloadN X14.here hx rfl (B_ dk274) rfl rfl (XS.iloadN X14.here hx rfl (B_ dk275) rfl  k_)) ?_
             obtain ⟨_, T15, Lc15, X15, hQ15, st15⟩ := own_cV X14 hx hZ hown (w_ hw 62 rfl) (w_ hw 63 rfl) (notFace_of_selects (args := #[]) (mvT hZ (w_ hw 65 rfl))) (w_ hw 65 rfl) (w_ hw 64 rfl) (by decide) (backOf (W := 0) (rmCa3 l Z a0 hw [] a t k (8 : Int32) [(lb c0), (hb_ c0), (lb c1), (hb_ c1), (lb c2), (hb_ c2), (lb c3), (hb_ c3)] c3 h0 n0 O0 G_ pr0 pr1 pr2 pr3 (by first | assumption | rfl | decide | (simp; done)) (by first | assumption | rfl | decide | (simp; done)) (by first | assumption | rfl | decide | (simp; done)) (by first | assumption | rfl | decide | (simp; done)) hc_c3 (by first | assumption | rfl | decide | (simp; done))) hZ (w_ hw 66 rfl) (w_ hw 9 rfl) (by decide) (by decide)) pr0 (g := (mkF mm_ 21 #[vr a, vi 3, vi c2] [(.int 3), (.ref a)])) rfl hml.symm (argsL := [(.int 3)]) (rest := []) (lenOf pd_15 rfl) rfl (Nat.le_of_eq rfl) (B_ dk276) rfl Eh14 (by decide) (by decide)
             obtain ⟨rfl, rfl, Eh15⟩ := hQ15
             have N15 := Fr.app N14 (Fr.nil n0)
             refine jp_ st15 ?_
             show Go_ T15 (mkF mm_ 24 #[vr a, vi 3, vi c2] [(.int c3)])
             refine sp_ (fun t_ k_ => XS.istoreN X15.here hx rfl (B_ dk277) rfl (l' := #[vr a, vi 3, vi c3]) rfl (XS.iloadN X15.here hx rfl (B_ dk278) rfl  (XS.bipush X15.here hx rfl (B_ dk279) k_))) ?_
             show Go_ T15 (mkF mm_ 28 #[vr a, vi 3, vi c3] [(.int 48), (.int c3)])
             by_cases hc28_16 : c3 < (48 : Int32)
             · skip
               refine sp_ (fun t_ k_ => XS.icmpYes X15.here hx rfl (pc0 := 28) (pc' := 37) rfl (B_ dk280) rfl (tlt hc28_16).1 (by decide) (by decide) k_) ?_
               show Go_ T15 (mkF mm_ 37 #[vr a, vi 3, vi c3] [])
               refine sp_ (fun t_ k_ => XS.iconst X15.here hx rfl (B_ dk281) k_) ?_
               show Go_ T15 (mkF mm_ 38 #[vr a, vi 3, vi c3] [(.int 0)])
               obtain ⟨fs, hr, hrun, hended, hW, hsame⟩ := X15.leave (v := some (.int 0)) (rN Bd.returns)
               refine ⟨_, _, ?_, hrun, hended, _, _, rfl, ?_, ⟨_, rfl⟩, hW, hsame.mono (by decide) (by decide)⟩
               · exact retN X15 hx (t := .boolean) Bd.returns (by simp) (B_ dk282) hr
               · show QrmDw4 Z a t k c0 c1 c2 c3 h0 n0 (some (.int 0)) T15.heap _
                 rw [Eh15]
                 exact ⟨rfl, rfl, rfl⟩
             · skip
               refine sp_ (fun t_ k_ => XS.icmpNo X15.here hx rfl (B_ dk280) rfl (flt hc28_16).1 k_) ?_
               show Go_ T15 (mkF mm_ 31 #[vr a, vi 3, vi c3] [])
               refine sp_ (fun t_ k_ => XS.iloadN X15.here hx rfl (B_ dk283) rfl  (XS.bipush X15.here hx rfl (B_ dk284) k_)) ?_
               show Go_ T15 (mkF mm_ 34 #[vr a, vi 3, vi c3] [(.int 57), (.int c3)])
               by_cases hc34_17 : (57 : Int32) < c3
               · skip
                 refine sp_ (fun t_ k_ => XS.icmpNo X15.here hx rfl (B_ dk285) rfl (tlt hc34_17).2.2.2 k_) ?_
                 show Go_ T15 (mkF mm_ 37 #[vr a, vi 3, vi c3] [])
                 refine sp_ (fun t_ k_ => XS.iconst X15.here hx rfl (B_ dk281) k_) ?_
                 show Go_ T15 (mkF mm_ 38 #[vr a, vi 3, vi c3] [(.int 0)])
                 obtain ⟨fs, hr, hrun, hended, hW, hsame⟩ := X15.leave (v := some (.int 0)) (rN Bd.returns)
                 refine ⟨_, _, ?_, hrun, hended, _, _, rfl, ?_, ⟨_, rfl⟩, hW, hsame.mono (by decide) (by decide)⟩
                 · exact retN X15 hx (t := .boolean) Bd.returns (by simp) (B_ dk282) hr
                 · show QrmDw4 Z a t k c0 c1 c2 c3 h0 n0 (some (.int 0)) T15.heap _
                   rw [Eh15]
                   exact ⟨rfl, rfl, rfl⟩
               · skip
                 refine sp_ (fun t_ k_ => XS.icmpYes X15.here hx rfl (pc0 := 34) (pc' := 39) rfl (B_ dk285) rfl (flt hc34_17).2.2.2 (by decide) (by decide) k_) ?_
                 show Go_ T15 (mkF mm_ 39 #[vr a, vi 3, vi c3] [])
                 refine sp_ (fun t_ k_ => XS.iinc X15.here hx rfl (B_ dk286) rfl (l' := #[vr a, vi 4, vi c3]) rfl (XS.goto X15.here hx rfl (pc0 := 42) (pc' := 11) rfl (B_ dk287) (by decide) (by decide) (XS.iloadN X15.here hx rfl (B_ dk270) rfl  (XS.aloadN X15.here hx rfl (B_ dk271) rfl rfl k_)))) ?_
                 obtain ⟨_, T18, Lc18, X18, hQ18, st18⟩ := own_cV X15 hx hZ hown (w_ hw 52 rfl) (w_ hw 53 rfl) (notFace_of_selects (args := #[]) (mvT hZ (w_ hw 55 rfl))) (w_ hw 55 rfl) (w_ hw 54 rfl) (by decide) (backOf (W := 1) (rmLw4 l Z a0 hw [] a t k [(lb c0), (hb_ c0), (lb c1), (hb_ c1), (lb c2), (hb_ c2), (lb c3), (hb_ c3)] h0 n0 O0 G_ pr0 pr1 pr2 pr3) hZ (w_ hw 56 rfl) (w_ hw 9 rfl) (by decide) (by decide)) pr0 (g := (mkF mm_ 13 #[vr a, vi 4, vi c3] [(.ref a), (.int 4)])) rfl hml.symm (argsL := []) (rest := [(.int 4)]) (lenOf pd_14 rfl) rfl (Nat.le_of_eq rfl) (B_ dk272) rfl Eh15 (by decide) (by decide)
                 obtain ⟨rfl, rfl, Eh18⟩ := hQ18
                 have N18 := Fr.app N15 (Fr.nil n0)
                 refine jp_ st18 ?_
                 show Go_ T18 (mkF mm_ 16 #[vr a, vi 4, vi c3] [(.int 4), (.int 4)])
                 refine sp_ (fun t_ k_ => XS.icmpYes X18.here hx rfl (pc0 := 16) (pc' := 45) rfl (B_ dk273) rfl (flt (by decide : ¬ ((4 : Int32) < (4 : Int32)))).2.1 (by decide) (by decide) k_) ?_
                 show Go_ T18 (mkF mm_ 45 #[vr a, vi 4, vi c3] [])
                 exact ((hW.elim (fun q0_ => (hc34_5 (own_big q0_).2)) (fun r0_ => (r0_.elim (fun q1_ => (hc34_9 (own_big q1_).2)) (fun r1_ => (r1_.elim (fun q2_ => (hc34_13 (own_big q2_).2)) (fun r2_ => (hc34_17 (own_big r2_).2))))))) : False).elim
theorem dk288 : decode J22 7 = .ok (.iconst 0, 1) := by decide +kernel
theorem dk289 : decode J22 8 = .ok (.ireturn, 1) := by decide +kernel
theorem ef_rmDl0 (mm_ : MethodId) (a : Addr) : entryFrame mm_ #[(.ref a)] 3 = (mkF mm_ 0 #[vr a, un, un] []) := by first | (simp [entryFrame, mkF, argsToLocals, Value.category]; done) | rfl
def QrmDl0 (Z : State) (a : Addr) (t : Addr) (h0 : Heap) (n0 : Nat) (vv_ : Option Value) (hh_ : Heap) (LL_ : List Loc) : Prop := ∃ (r : Int32), (vv_ = some (.int r)) ∧ (LL_ = []) ∧ (hh_ = h0) ∧ ((r = (0 : Int32)))
theorem rmDl0 (l : Launch) (Z : State) (a0 : Array Value) (hw : own_Hw a0 Z) (ws : List Jvm.Cond) (a : Addr) (t : Addr) {zc : Int32} {fm : Value} (h0 : Heap) (n0 : Nat) (O0 : Old Z n0 h0) (G_ : own_St Z zc fm) (pr0 : own_Str Z h0 a t []) :
 own_MF l Z ym2 J22 3 (some .boolean) ws (rm_ 1 0 0 12) #[(.ref a)] h0 (QrmDl0 Z a t h0 n0) := by
 refine own_met (plainFor_of_name pn_com_example_malipo_malipo_core_intake_DecimalText) (fun m_ => ef_rmDl0 m_ a) fun pp_ ee_ ss_ mm_ bb_ me_ cc_ s₁ Bd hx hby hml hown hZ hh X0 e0 => ?_
 have B_ {q_ : Nat} {r_ : _} (h_ : decode _ q_ = r_) := hb hby h_
 have hown : ss_.vm.findClass sc3 = some mm_.cls := hown
 have N0 := Fr.nil n0
 have Z0 : n0 ≤ h0.size := by have q := O0.2.1; rw [O0.1] at q; exact q
 have K0 : Keep h0 h0 [] := Keep.refl _ _
 obtain ⟨G_cs, G_cs0, G_cw, G_h_java_lang_String_7, G_fm, G_fr, G_hb, G_lb, G_ad⟩ := id G_
 show Go_ s₁ (mkF mm_ 0 #[vr a, un, un] [])
 obtain ⟨Tp1, Tp2, Tp3, ⟨kp_, Tp4⟩, -, -⟩ := id pr0
 have Tp4 : Arv Z h0 t kp_ .byte (0 : Int32) (List.map Value.int (List.map StrChars.lo8 [])) (.int 0) := Tp4
 refine sp_ (fun t_ k_ => XS.aloadN X0.here hx rfl (B_ dk265) rfl rfl k_) ?_
 obtain ⟨_, T1, Lc1, X1, hQ1, st1⟩ := own_cV X0 hx hZ hown (w_ hw 33 rfl) (w_ hw 34 rfl) (notFace_of_selects (args := #[]) (mvT hZ (w_ hw 36 rfl))) (w_ hw 36 rfl) (w_ hw 35 rfl) (by decide) (backOf (W := 0) (rmEm0 l Z a0 hw [] a t kp_ (List.map Value.int (List.map StrChars.lo8 [])) h0 n0 O0 Tp3 Tp4) hZ (w_ hw 37 rfl) (w_ hw 9 rfl) (by decide) (by decide)) pr0.1 (g := (mkF mm_ 1 #[vr a, un, un] [(.ref a)])) rfl hml.symm (argsL := []) (rest := []) (lenOf pd_13 rfl) rfl (Nat.le_of_eq rfl) (B_ dk266) rfl e0 (by decide) (by decide)
 obtain ⟨rfl, rfl, Eh1⟩ := hQ1
 have N1 := Fr.app N0 (Fr.nil n0)
 refine jp_ st1 ?_
 show Go_ T1 (mkF mm_ 4 #[vr a, un, un] [(.int 1)])
 refine sp_ (fun t_ k_ => XS.ifNo X1.here hx rfl (B_ dk267) rfl ((if0 _ _).trans (feq (by decide : ¬ ((1 : Int32) = (0 : Int32)))).1) k_) ?_
 show Go_ T1 (mkF mm_ 7 #[vr a, un, un] [])
 refine sp_ (fun t_ k_ => XS.iconst X1.here hx rfl (B_ dk288) k_) ?_
 show Go_ T1 (mkF mm_ 8 #[vr a, un, un] [(.int 0)])
 obtain ⟨fs, hr, hrun, hended, hW, hsame⟩ := X1.leave (v := some (.int 0)) (rN Bd.returns)
 refine ⟨_, _, ?_, hrun, hended, _, _, rfl, ?_, ⟨_, rfl⟩, hW, hsame.mono (by decide) (by decide)⟩
 · exact retN X1 hx (t := .boolean) Bd.returns (by simp) (B_ dk289) hr
 · show QrmDl0 Z a t h0 n0 (some (.int 0)) T1.heap _
   rw [Eh1]
   exact ⟨(0 : Int32), rfl, rfl, rfl, rfl⟩
theorem dk290 : decode J22 45 = .ok (.iconst 1, 1) := by decide +kernel
theorem dk291 : decode J22 46 = .ok (.ireturn, 1) := by decide +kernel
theorem ef_rmDl1 (mm_ : MethodId) (a : Addr) : entryFrame mm_ #[(.ref a)] 3 = (mkF mm_ 0 #[vr a, un, un] []) := by first | (simp [entryFrame, mkF, argsToLocals, Value.category]; done) | rfl
def QrmDl1 (Z : State) (a : Addr) (t : Addr) (c0 : Int32) (h0 : Heap) (n0 : Nat) (vv_ : Option Value) (hh_ : Heap) (LL_ : List Loc) : Prop := ∃ (r : Int32), (vv_ = some (.int r)) ∧ (LL_ = []) ∧ (hh_ = h0) ∧ ((¬ (own_D c0) → r = (0 : Int32)) ∧ (own_D c0 → r = (1 : Int32)))
theorem rmDl1 (l : Launch) (Z : State) (a0 : Array Value) (hw : own_Hw a0 Z) (ws : List Jvm.Cond) (a : Addr) (t : Addr) (c0 : Int32) {zc : Int32} {fm : Value} (h0 : Heap) (n0 : Nat) (O0 : Old Z n0 h0) (G_ : own_St Z zc fm) (pr0 : own_Str Z h0 a t [c0]) :
 own_MF l Z ym2 J22 3 (some .boolean) ws (rm_ 4 0 0 53) #[(.ref a)] h0 (QrmDl1 Z a t c0 h0 n0) := by
 refine own_met (plainFor_of_name pn_com_example_malipo_malipo_core_intake_DecimalText) (fun m_ => ef_rmDl1 m_ a) fun pp_ ee_ ss_ mm_ bb_ me_ cc_ s₁ Bd hx hby hml hown hZ hh X0 e0 => ?_
 have B_ {q_ : Nat} {r_ : _} (h_ : decode _ q_ = r_) := hb hby h_
 have hown : ss_.vm.findClass sc3 = some mm_.cls := hown
 have N0 := Fr.nil n0
 have Z0 : n0 ≤ h0.size := by have q := O0.2.1; rw [O0.1] at q; exact q
 have K0 : Keep h0 h0 [] := Keep.refl _ _
 obtain ⟨G_cs, G_cs0, G_cw, G_h_java_lang_String_7, G_fm, G_fr, G_hb, G_lb, G_ad⟩ := id G_
 show Go_ s₁ (mkF mm_ 0 #[vr a, un, un] [])
 obtain ⟨Tp1, Tp2, Tp3, ⟨kp_, Tp4⟩, -, -⟩ := id pr0
 have Tp4 : Arv Z h0 t kp_ .byte (1 : Int32) (List.map Value.int (List.map StrChars.lo8 [c0])) (.int 0) := Tp4
 refine sp_ (fun t_ k_ => XS.aloadN X0.here hx rfl (B_ dk265) rfl rfl k_) ?_
 obtain ⟨_, T1, Lc1, X1, hQ1, st1⟩ := own_cV X0 hx hZ hown (w_ hw 33 rfl) (w_ hw 34 rfl) (notFace_of_selects (args := #[]) (mvT hZ (w_ hw 36 rfl))) (w_ hw 36 rfl) (w_ hw 35 rfl) (by decide) (backOf (W := 0) (rmEm l Z a0 hw [] a t kp_ (1 : Int32) (List.map Value.int (List.map StrChars.lo8 [c0])) h0 n0 O0 Tp3 Tp4 (by first | assumption | rfl | decide | (simp; done))) hZ (w_ hw 37 rfl) (w_ hw 9 rfl) (by decide) (by decide)) pr0.1 (g := (mkF mm_ 1 #[vr a, un, un] [(.ref a)])) rfl hml.symm (argsL := []) (rest := []) (lenOf pd_13 rfl) rfl (Nat.le_of_eq rfl) (B_ dk266) rfl e0 (by decide) (by decide)
 obtain ⟨rfl, rfl, Eh1⟩ := hQ1
 have N1 := Fr.app N0 (Fr.nil n0)
 refine jp_ st1 ?_
 show Go_ T1 (mkF mm_ 4 #[vr a, un, un] [(.int 0)])
 refine sp_ (fun t_ k_ => XS.ifYes X1.here hx rfl (pc0 := 4) (pc' := 9) rfl (B_ dk267) rfl ((if0 _ _).trans (teq (by decide : (0 : Int32) = (0 : Int32))).1) (by decide) (by decide) k_) ?_
 show Go_ T1 (mkF mm_ 9 #[vr a, un, un] [])
 refine sp_ (fun t_ k_ => XS.iconst X1.here hx rfl (B_ dk268) (XS.istoreN X1.here hx rfl (B_ dk269) rfl (l' := #[vr a, vi 0, un]) rfl (XS.iloadN X1.here hx rfl (B_ dk270) rfl  (XS.aloadN X1.here hx rfl (B_ dk271) rfl rfl k_)))) ?_
 obtain ⟨_, T2, Lc2, X2, hQ2, st2⟩ := own_cV X1 hx hZ hown (w_ hw 52 rfl) (w_ hw 53 rfl) (notFace_of_selects (args := #[]) (mvT hZ (w_ hw 55 rfl))) (w_ hw 55 rfl) (w_ hw 54 rfl) (by decide) (own_lenS (W := 1) hZ hw pr0 (G_cs.ext O0.2) G_cs0 (by decide) (by decide)) pr0.1 (g := (mkF mm_ 13 #[vr a, vi 0, un] [(.ref a), (.int 0)])) rfl hml.symm (argsL := []) (rest := [(.int 0)]) (lenOf pd_14 rfl) rfl (Nat.le_of_eq rfl) (B_ dk272) rfl Eh1 (by decide) (by decide)
 obtain ⟨rfl, rfl, Eh2⟩ := hQ2
 have N2 := Fr.app N1 (Fr.nil n0)
 refine jp_ st2 ?_
 show Go_ T2 (mkF mm_ 16 #[vr a, vi 0, un] [(.int 1), (.int 0)])
 refine sp_ (fun t_ k_ => XS.icmpNo X2.here hx rfl (B_ dk273) rfl (tlt (by decide : (0 : Int32) < (1 : Int32))).2.1 k_) ?_
 show Go_ T2 (mkF mm_ 19 #[vr a, vi 0, un] [])
 refine sp_ (fun t_ k_ => XS.aloadN X2.here hx rfl (B_ dk274) rfl rfl (XS.iloadN X2.here hx rfl (B_ dk275) rfl  k_)) ?_
 obtain ⟨_, T3, Lc3, X3, hQ3, st3⟩ := own_cV X2 hx hZ hown (w_ hw 62 rfl) (w_ hw 63 rfl) (notFace_of_selects (args := #[]) (mvT hZ (w_ hw 65 rfl))) (w_ hw 65 rfl) (w_ hw 64 rfl) (by decide) (own_chS (W := 0) hZ hw pr0 (G_cs.ext O0.2) G_cs0 (G_fm.ext O0.2) G_fr (i := 0) (Nat.le_of_ble_eq_true rfl) (j := (0 : Int32)) rfl (by decide) (by decide)) pr0.1 (g := (mkF mm_ 21 #[vr a, vi 0, un] [(.int 0), (.ref a)])) rfl hml.symm (argsL := [(.int 0)]) (rest := []) (lenOf pd_15 rfl) rfl (Nat.le_of_eq rfl) (B_ dk276) rfl Eh2 (by decide) (by decide)
 obtain ⟨rfl, rfl, Eh3⟩ := hQ3
 have N3 := Fr.app N2 (Fr.nil n0)
 refine jp_ st3 ?_
 show Go_ T3 (mkF mm_ 24 #[vr a, vi 0, un] [(.int c0)])
 refine sp_ (fun t_ k_ => XS.istoreN X3.here hx rfl (B_ dk277) rfl (l' := #[vr a, vi 0, vi c0]) rfl (XS.iloadN X3.here hx rfl (B_ dk278) rfl  (XS.bipush X3.here hx rfl (B_ dk279) k_))) ?_
 show Go_ T3 (mkF mm_ 28 #[vr a, vi 0, vi c0] [(.int 48), (.int c0)])
 by_cases hc28_4 : c0 < (48 : Int32)
 · skip
   refine sp_ (fun t_ k_ => XS.icmpYes X3.here hx rfl (pc0 := 28) (pc' := 37) rfl (B_ dk280) rfl (tlt hc28_4).1 (by decide) (by decide) k_) ?_
   show Go_ T3 (mkF mm_ 37 #[vr a, vi 0, vi c0] [])
   refine sp_ (fun t_ k_ => XS.iconst X3.here hx rfl (B_ dk281) k_) ?_
   show Go_ T3 (mkF mm_ 38 #[vr a, vi 0, vi c0] [(.int 0)])
   obtain ⟨fs, hr, hrun, hended, hW, hsame⟩ := X3.leave (v := some (.int 0)) (rN Bd.returns)
   refine ⟨_, _, ?_, hrun, hended, _, _, rfl, ?_, ⟨_, rfl⟩, hW, hsame.mono (by decide) (by decide)⟩
   · exact retN X3 hx (t := .boolean) Bd.returns (by simp) (B_ dk282) hr
   · show QrmDl1 Z a t c0 h0 n0 (some (.int 0)) T3.heap _
     rw [Eh3]
     exact ⟨(0 : Int32), rfl, rfl, rfl, ⟨fun _ => rfl, fun a0_ => absurd a0_ (fun q_ => q_.1 hc28_4)⟩⟩
 · skip
   refine sp_ (fun t_ k_ => XS.icmpNo X3.here hx rfl (B_ dk280) rfl (flt hc28_4).1 k_) ?_
   show Go_ T3 (mkF mm_ 31 #[vr a, vi 0, vi c0] [])
   refine sp_ (fun t_ k_ => XS.iloadN X3.here hx rfl (B_ dk283) rfl  (XS.bipush X3.here hx rfl (B_ dk284) k_)) ?_
   show Go_ T3 (mkF mm_ 34 #[vr a, vi 0, vi c0] [(.int 57), (.int c0)])
   by_cases hc34_5 : (57 : Int32) < c0
   · skip
     refine sp_ (fun t_ k_ => XS.icmpNo X3.here hx rfl (B_ dk285) rfl (tlt hc34_5).2.2.2 k_) ?_
     show Go_ T3 (mkF mm_ 37 #[vr a, vi 0, vi c0] [])
     refine sp_ (fun t_ k_ => XS.iconst X3.here hx rfl (B_ dk281) k_) ?_
     show Go_ T3 (mkF mm_ 38 #[vr a, vi 0, vi c0] [(.int 0)])
     obtain ⟨fs, hr, hrun, hended, hW, hsame⟩ := X3.leave (v := some (.int 0)) (rN Bd.returns)
     refine ⟨_, _, ?_, hrun, hended, _, _, rfl, ?_, ⟨_, rfl⟩, hW, hsame.mono (by decide) (by decide)⟩
     · exact retN X3 hx (t := .boolean) Bd.returns (by simp) (B_ dk282) hr
     · show QrmDl1 Z a t c0 h0 n0 (some (.int 0)) T3.heap _
       rw [Eh3]
       exact ⟨(0 : Int32), rfl, rfl, rfl, ⟨fun _ => rfl, fun a0_ => absurd a0_ (fun q_ => q_.2 hc34_5)⟩⟩
   · skip
     refine sp_ (fun t_ k_ => XS.icmpYes X3.here hx rfl (pc0 := 34) (pc' := 39) rfl (B_ dk285) rfl (flt hc34_5).2.2.2 (by decide) (by decide) k_) ?_
     show Go_ T3 (mkF mm_ 39 #[vr a, vi 0, vi c0] [])
     refine sp_ (fun t_ k_ => XS.iinc X3.here hx rfl (B_ dk286) rfl (l' := #[vr a, vi 1, vi c0]) rfl (XS.goto X3.here hx rfl (pc0 := 42) (pc' := 11) rfl (B_ dk287) (by decide) (by decide) (XS.iloadN X3.here hx rfl (B_ dk270) rfl  (XS.aloadN X3.here hx rfl (B_ dk271) rfl rfl k_)))) ?_
     obtain ⟨_, T6, Lc6, X6, hQ6, st6⟩ := own_cV X3 hx hZ hown (w_ hw 52 rfl) (w_ hw 53 rfl) (notFace_of_selects (args := #[]) (mvT hZ (w_ hw 55 rfl))) (w_ hw 55 rfl) (w_ hw 54 rfl) (by decide) (own_lenS (W := 1) hZ hw pr0 (G_cs.ext O0.2) G_cs0 (by decide) (by decide)) pr0.1 (g := (mkF mm_ 13 #[vr a, vi 1, vi c0] [(.ref a), (.int 1)])) rfl hml.symm (argsL := []) (rest := [(.int 1)]) (lenOf pd_14 rfl) rfl (Nat.le_of_eq rfl) (B_ dk272) rfl Eh3 (by decide) (by decide)
     obtain ⟨rfl, rfl, Eh6⟩ := hQ6
     have N6 := Fr.app N3 (Fr.nil n0)
     refine jp_ st6 ?_
     show Go_ T6 (mkF mm_ 16 #[vr a, vi 1, vi c0] [(.int 1), (.int 1)])
     refine sp_ (fun t_ k_ => XS.icmpYes X6.here hx rfl (pc0 := 16) (pc' := 45) rfl (B_ dk273) rfl (flt (by decide : ¬ ((1 : Int32) < (1 : Int32)))).2.1 (by decide) (by decide) k_) ?_
     show Go_ T6 (mkF mm_ 45 #[vr a, vi 1, vi c0] [])
     refine sp_ (fun t_ k_ => XS.iconst X6.here hx rfl (B_ dk290) k_) ?_
     show Go_ T6 (mkF mm_ 46 #[vr a, vi 1, vi c0] [(.int 1)])
     obtain ⟨fs, hr, hrun, hended, hW, hsame⟩ := X6.leave (v := some (.int 1)) (rN Bd.returns)
     refine ⟨_, _, ?_, hrun, hended, _, _, rfl, ?_, ⟨_, rfl⟩, hW, hsame.mono (by decide) (by decide)⟩
     · exact retN X6 hx (t := .boolean) Bd.returns (by simp) (B_ dk291) hr
     · show QrmDl1 Z a t c0 h0 n0 (some (.int 1)) T6.heap _
       rw [Eh6]
       exact ⟨(1 : Int32), rfl, rfl, rfl, ⟨fun a0_ => absurd ⟨hc28_4, hc34_5⟩ a0_, fun _ => rfl⟩⟩
theorem ef_rmDl2 (mm_ : MethodId) (a : Addr) : entryFrame mm_ #[(.ref a)] 3 = (mkF mm_ 0 #[vr a, un, un] []) := by first | (simp [entryFrame, mkF, argsToLocals, Value.category]; done) | rfl
def QrmDl2 (Z : State) (a : Addr) (t : Addr) (c0 : Int32) (c1 : Int32) (h0 : Heap) (n0 : Nat) (vv_ : Option Value) (hh_ : Heap) (LL_ : List Loc) : Prop := ∃ (r : Int32), (vv_ = some (.int r)) ∧ (LL_ = []) ∧ (hh_ = h0) ∧ ((¬ (own_D c0) → r = (0 : Int32)) ∧ (own_D c0 → ¬ (own_D c1) → r = (0 : Int32)) ∧ (own_D c0 → own_D c1 → r = (1 : Int32)))
theorem rmDl2 (l : Launch) (Z : State) (a0 : Array Value) (hw : own_Hw a0 Z) (ws : List Jvm.Cond) (a : Addr) (t : Addr) (c0 : Int32) (c1 : Int32) {zc : Int32} {fm : Value} (h0 : Heap) (n0 : Nat) (O0 : Old Z n0 h0) (G_ : own_St Z zc fm) (pr0 : own_Str Z h0 a t [c0, c1]) :
 own_MF l Z ym2 J22 3 (some .boolean) ws (rm_ 4 0 0 53) #[(.ref a)] h0 (QrmDl2 Z a t c0 c1 h0 n0) := by
 refine own_met (plainFor_of_name pn_com_example_malipo_malipo_core_intake_DecimalText) (fun m_ => ef_rmDl2 m_ a) fun pp_ ee_ ss_ mm_ bb_ me_ cc_ s₁ Bd hx hby hml hown hZ hh X0 e0 => ?_
 have B_ {q_ : Nat} {r_ : _} (h_ : decode _ q_ = r_) := hb hby h_
 have hown : ss_.vm.findClass sc3 = some mm_.cls := hown
 have N0 := Fr.nil n0
 have Z0 : n0 ≤ h0.size := by have q := O0.2.1; rw [O0.1] at q; exact q
 have K0 : Keep h0 h0 [] := Keep.refl _ _
 obtain ⟨G_cs, G_cs0, G_cw, G_h_java_lang_String_7, G_fm, G_fr, G_hb, G_lb, G_ad⟩ := id G_
 show Go_ s₁ (mkF mm_ 0 #[vr a, un, un] [])
 obtain ⟨Tp1, Tp2, Tp3, ⟨kp_, Tp4⟩, -, -⟩ := id pr0
 have Tp4 : Arv Z h0 t kp_ .byte (2 : Int32) (List.map Value.int (List.map StrChars.lo8 [c0, c1])) (.int 0) := Tp4
 refine sp_ (fun t_ k_ => XS.aloadN X0.here hx rfl (B_ dk265) rfl rfl k_) ?_
 obtain ⟨_, T1, Lc1, X1, hQ1, st1⟩ := own_cV X0 hx hZ hown (w_ hw 33 rfl) (w_ hw 34 rfl) (notFace_of_selects (args := #[]) (mvT hZ (w_ hw 36 rfl))) (w_ hw 36 rfl) (w_ hw 35 rfl) (by decide) (backOf (W := 0) (rmEm l Z a0 hw [] a t kp_ (2 : Int32) (List.map Value.int (List.map StrChars.lo8 [c0, c1])) h0 n0 O0 Tp3 Tp4 (by first | assumption | rfl | decide | (simp; done))) hZ (w_ hw 37 rfl) (w_ hw 9 rfl) (by decide) (by decide)) pr0.1 (g := (mkF mm_ 1 #[vr a, un, un] [(.ref a)])) rfl hml.symm (argsL := []) (rest := []) (lenOf pd_13 rfl) rfl (Nat.le_of_eq rfl) (B_ dk266) rfl e0 (by decide) (by decide)
 obtain ⟨rfl, rfl, Eh1⟩ := hQ1
 have N1 := Fr.app N0 (Fr.nil n0)
 refine jp_ st1 ?_
 show Go_ T1 (mkF mm_ 4 #[vr a, un, un] [(.int 0)])
 refine sp_ (fun t_ k_ => XS.ifYes X1.here hx rfl (pc0 := 4) (pc' := 9) rfl (B_ dk267) rfl ((if0 _ _).trans (teq (by decide : (0 : Int32) = (0 : Int32))).1) (by decide) (by decide) k_) ?_
 show Go_ T1 (mkF mm_ 9 #[vr a, un, un] [])
 refine sp_ (fun t_ k_ => XS.iconst X1.here hx rfl (B_ dk268) (XS.istoreN X1.here hx rfl (B_ dk269) rfl (l' := #[vr a, vi 0, un]) rfl (XS.iloadN X1.here hx rfl (B_ dk270) rfl  (XS.aloadN X1.here hx rfl (B_ dk271) rfl rfl k_)))) ?_
 obtain ⟨_, T2, Lc2, X2, hQ2, st2⟩ := own_cV X1 hx hZ hown (w_ hw 52 rfl) (w_ hw 53 rfl) (notFace_of_selects (args := #[]) (mvT hZ (w_ hw 55 rfl))) (w_ hw 55 rfl) (w_ hw 54 rfl) (by decide) (own_lenS (W := 1) hZ hw pr0 (G_cs.ext O0.2) G_cs0 (by decide) (by decide)) pr0.1 (g := (mkF mm_ 13 #[vr a, vi 0, un] [(.ref a), (.int 0)])) rfl hml.symm (argsL := []) (rest := [(.int 0)]) (lenOf pd_14 rfl) rfl (Nat.le_of_eq rfl) (B_ dk272) rfl Eh1 (by decide) (by decide)
 obtain ⟨rfl, rfl, Eh2⟩ := hQ2
 have N2 := Fr.app N1 (Fr.nil n0)
 refine jp_ st2 ?_
 show Go_ T2 (mkF mm_ 16 #[vr a, vi 0, un] [(.int 2), (.int 0)])
 refine sp_ (fun t_ k_ => XS.icmpNo X2.here hx rfl (B_ dk273) rfl (tlt (by decide : (0 : Int32) < (2 : Int32))).2.1 k_) ?_
 show Go_ T2 (mkF mm_ 19 #[vr a, vi 0, un] [])
 refine sp_ (fun t_ k_ => XS.aloadN X2.here hx rfl (B_ dk274) rfl rfl (XS.iloadN X2.here hx rfl (B_ dk275) rfl  k_)) ?_
 obtain ⟨_, T3, Lc3, X3, hQ3, st3⟩ := own_cV X2 hx hZ hown (w_ hw 62 rfl) (w_ hw 63 rfl) (notFace_of_selects (args := #[]) (mvT hZ (w_ hw 65 rfl))) (w_ hw 65 rfl) (w_ hw 64 rfl) (by decide) (own_chS (W := 0) hZ hw pr0 (G_cs.ext O0.2) G_cs0 (G_fm.ext O0.2) G_fr (i := 0) (Nat.le_of_ble_eq_true rfl) (j := (0 : Int32)) rfl (by decide) (by decide)) pr0.1 (g := (mkF mm_ 21 #[vr a, vi 0, un] [(.int 0), (.ref a)])) rfl hml.symm (argsL := [(.int 0)]) (rest := []) (lenOf pd_15 rfl) rfl (Nat.le_of_eq rfl) (B_ dk276) rfl Eh2 (by decide) (by decide)
 obtain ⟨rfl, rfl, Eh3⟩ := hQ3
 have N3 := Fr.app N2 (Fr.nil n0)
 refine jp_ st3 ?_
 show Go_ T3 (mkF mm_ 24 #[vr a, vi 0, un] [(.int c0)])
 refine sp_ (fun t_ k_ => XS.istoreN X3.here hx rfl (B_ dk277) rfl (l' := #[vr a, vi 0, vi c0]) rfl (XS.iloadN X3.here hx rfl (B_ dk278) rfl  (XS.bipush X3.here hx rfl (B_ dk279) k_))) ?_
 show Go_ T3 (mkF mm_ 28 #[vr a, vi 0, vi c0] [(.int 48), (.int c0)])
 by_cases hc28_4 : c0 < (48 : Int32)
 · skip
   refine sp_ (fun t_ k_ => XS.icmpYes X3.here hx rfl (pc0 := 28) (pc' := 37) rfl (B_ dk280) rfl (tlt hc28_4).1 (by decide) (by decide) k_) ?_
   show Go_ T3 (mkF mm_ 37 #[vr a, vi 0, vi c0] [])
   refine sp_ (fun t_ k_ => XS.iconst X3.here hx rfl (B_ dk281) k_) ?_
   show Go_ T3 (mkF mm_ 38 #[vr a, vi 0, vi c0] [(.int 0)])
   obtain ⟨fs, hr, hrun, hended, hW, hsame⟩ := X3.leave (v := some (.int 0)) (rN Bd.returns)
   refine ⟨_, _, ?_, hrun, hended, _, _, rfl, ?_, ⟨_, rfl⟩, hW, hsame.mono (by decide) (by decide)⟩
   · exact retN X3 hx (t := .boolean) Bd.returns (by simp) (B_ dk282) hr
   · show QrmDl2 Z a t c0 c1 h0 n0 (some (.int 0)) T3.heap _
     rw [Eh3]
     exact ⟨(0 : Int32), rfl, rfl, rfl, ⟨fun _ => rfl, fun a0_ a1_ => absurd a0_ (fun q_ => q_.1 hc28_4), fun a0_ a1_ => absurd a0_ (fun q_ => q_.1 hc28_4)⟩⟩
 · skip
   refine sp_ (fun t_ k_ => XS.icmpNo X3.here hx rfl (B_ dk280) rfl (flt hc28_4).1 k_) ?_
   show Go_ T3 (mkF mm_ 31 #[vr a, vi 0, vi c0] [])
   refine sp_ (fun t_ k_ => XS.iloadN X3.here hx rfl (B_ dk283) rfl  (XS.bipush X3.here hx rfl (B_ dk284) k_)) ?_
   show Go_ T3 (mkF mm_ 34 #[vr a, vi 0, vi c0] [(.int 57), (.int c0)])
   by_cases hc34_5 : (57 : Int32) < c0
   · skip
     refine sp_ (fun t_ k_ => XS.icmpNo X3.here hx rfl (B_ dk285) rfl (tlt hc34_5).2.2.2 k_) ?_
     show Go_ T3 (mkF mm_ 37 #[vr a, vi 0, vi c0] [])
     refine sp_ (fun t_ k_ => XS.iconst X3.here hx rfl (B_ dk281) k_) ?_
     show Go_ T3 (mkF mm_ 38 #[vr a, vi 0, vi c0] [(.int 0)])
     obtain ⟨fs, hr, hrun, hended, hW, hsame⟩ := X3.leave (v := some (.int 0)) (rN Bd.returns)
     refine ⟨_, _, ?_, hrun, hended, _, _, rfl, ?_, ⟨_, rfl⟩, hW, hsame.mono (by decide) (by decide)⟩
     · exact retN X3 hx (t := .boolean) Bd.returns (by simp) (B_ dk282) hr
     · show QrmDl2 Z a t c0 c1 h0 n0 (some (.int 0)) T3.heap _
       rw [Eh3]
       exact ⟨(0 : Int32), rfl, rfl, rfl, ⟨fun _ => rfl, fun a0_ a1_ => absurd a0_ (fun q_ => q_.2 hc34_5), fun a0_ a1_ => absurd a0_ (fun q_ => q_.2 hc34_5)⟩⟩
   · skip
     refine sp_ (fun t_ k_ => XS.icmpYes X3.here hx rfl (pc0 := 34) (pc' := 39) rfl (B_ dk285) rfl (flt hc34_5).2.2.2 (by decide) (by decide) k_) ?_
     show Go_ T3 (mkF mm_ 39 #[vr a, vi 0, vi c0] [])
     refine sp_ (fun t_ k_ => XS.iinc X3.here hx rfl (B_ dk286) rfl (l' := #[vr a, vi 1, vi c0]) rfl (XS.goto X3.here hx rfl (pc0 := 42) (pc' := 11) rfl (B_ dk287) (by decide) (by decide) (XS.iloadN X3.here hx rfl (B_ dk270) rfl  (XS.aloadN X3.here hx rfl (B_ dk271) rfl rfl k_)))) ?_
     obtain ⟨_, T6, Lc6, X6, hQ6, st6⟩ := own_cV X3 hx hZ hown (w_ hw 52 rfl) (w_ hw 53 rfl) (notFace_of_selects (args := #[]) (mvT hZ (w_ hw 55 rfl))) (w_ hw 55 rfl) (w_ hw 54 rfl) (by decide) (own_lenS (W := 1) hZ hw pr0 (G_cs.ext O0.2) G_cs0 (by decide) (by decide)) pr0.1 (g := (mkF mm_ 13 #[vr a, vi 1, vi c0] [(.ref a), (.int 1)])) rfl hml.symm (argsL := []) (rest := [(.int 1)]) (lenOf pd_14 rfl) rfl (Nat.le_of_eq rfl) (B_ dk272) rfl Eh3 (by decide) (by decide)
     obtain ⟨rfl, rfl, Eh6⟩ := hQ6
     have N6 := Fr.app N3 (Fr.nil n0)
     refine jp_ st6 ?_
     show Go_ T6 (mkF mm_ 16 #[vr a, vi 1, vi c0] [(.int 2), (.int 1)])
     refine sp_ (fun t_ k_ => XS.icmpNo X6.here hx rfl (B_ dk273) rfl (tlt (by decide : (1 : Int32) < (2 : Int32))).2.1 k_) ?_
     show Go_ T6 (mkF mm_ 19 #[vr a, vi 1, vi c0] [])
     refine sp_ (fun t_ k_ => XS.aloadN X6.here hx rfl (B_ dk274) rfl rfl (XS.iloadN X6.here hx rfl (B_ dk275) rfl  k_)) ?_
     obtain ⟨_, T7, Lc7, X7, hQ7, st7⟩ := own_cV X6 hx hZ hown (w_ hw 62 rfl) (w_ hw 63 rfl) (notFace_of_selects (args := #[]) (mvT hZ (w_ hw 65 rfl))) (w_ hw 65 rfl) (w_ hw 64 rfl) (by decide) (own_chS (W := 0) hZ hw pr0 (G_cs.ext O0.2) G_cs0 (G_fm.ext O0.2) G_fr (i := 1) (Nat.le_of_ble_eq_true rfl) (j := (1 : Int32)) rfl (by decide) (by decide)) pr0.1 (g := (mkF mm_ 21 #[vr a, vi 1, vi c0] [(.int 1), (.ref a)])) rfl hml.symm (argsL := [(.int 1)]) (rest := []) (lenOf pd_15 rfl) rfl (Nat.le_of_eq rfl) (B_ dk276) rfl Eh6 (by decide) (by decide)
     obtain ⟨rfl, rfl, Eh7⟩ := hQ7
     have N7 := Fr.app N6 (Fr.nil n0)
     refine jp_ st7 ?_
     show Go_ T7 (mkF mm_ 24 #[vr a, vi 1, vi c0] [(.int c1)])
     refine sp_ (fun t_ k_ => XS.istoreN X7.here hx rfl (B_ dk277) rfl (l' := #[vr a, vi 1, vi c1]) rfl (XS.iloadN X7.here hx rfl (B_ dk278) rfl  (XS.bipush X7.here hx rfl (B_ dk279) k_))) ?_
     show Go_ T7 (mkF mm_ 28 #[vr a, vi 1, vi c1] [(.int 48), (.int c1)])
     by_cases hc28_8 : c1 < (48 : Int32)
     · skip
       refine sp_ (fun t_ k_ => XS.icmpYes X7.here hx rfl (pc0 := 28) (pc' := 37) rfl (B_ dk280) rfl (tlt hc28_8).1 (by decide) (by decide) k_) ?_
       show Go_ T7 (mkF mm_ 37 #[vr a, vi 1, vi c1] [])
       refine sp_ (fun t_ k_ => XS.iconst X7.here hx rfl (B_ dk281) k_) ?_
       show Go_ T7 (mkF mm_ 38 #[vr a, vi 1, vi c1] [(.int 0)])
       obtain ⟨fs, hr, hrun, hended, hW, hsame⟩ := X7.leave (v := some (.int 0)) (rN Bd.returns)
       refine ⟨_, _, ?_, hrun, hended, _, _, rfl, ?_, ⟨_, rfl⟩, hW, hsame.mono (by decide) (by decide)⟩
       · exact retN X7 hx (t := .boolean) Bd.returns (by simp) (B_ dk282) hr
       · show QrmDl2 Z a t c0 c1 h0 n0 (some (.int 0)) T7.heap _
         rw [Eh7]
         exact ⟨(0 : Int32), rfl, rfl, rfl, ⟨fun a0_ => absurd ⟨hc28_4, hc34_5⟩ a0_, fun _ _ => rfl, fun a0_ a1_ => absurd a1_ (fun q_ => q_.1 hc28_8)⟩⟩
     · skip
       refine sp_ (fun t_ k_ => XS.icmpNo X7.here hx rfl (B_ dk280) rfl (flt hc28_8).1 k_) ?_
       show Go_ T7 (mkF mm_ 31 #[vr a, vi 1, vi c1] [])
       refine sp_ (fun t_ k_ => XS.iloadN X7.here hx rfl (B_ dk283) rfl  (XS.bipush X7.here hx rfl (B_ dk284) k_)) ?_
       show Go_ T7 (mkF mm_ 34 #[vr a, vi 1, vi c1] [(.int 57), (.int c1)])
       by_cases hc34_9 : (57 : Int32) < c1
       · skip
         refine sp_ (fun t_ k_ => XS.icmpNo X7.here hx rfl (B_ dk285) rfl (tlt hc34_9).2.2.2 k_) ?_
         show Go_ T7 (mkF mm_ 37 #[vr a, vi 1, vi c1] [])
         refine sp_ (fun t_ k_ => XS.iconst X7.here hx rfl (B_ dk281) k_) ?_
         show Go_ T7 (mkF mm_ 38 #[vr a, vi 1, vi c1] [(.int 0)])
         obtain ⟨fs, hr, hrun, hended, hW, hsame⟩ := X7.leave (v := some (.int 0)) (rN Bd.returns)
         refine ⟨_, _, ?_, hrun, hended, _, _, rfl, ?_, ⟨_, rfl⟩, hW, hsame.mono (by decide) (by decide)⟩
         · exact retN X7 hx (t := .boolean) Bd.returns (by simp) (B_ dk282) hr
         · show QrmDl2 Z a t c0 c1 h0 n0 (some (.int 0)) T7.heap _
           rw [Eh7]
           exact ⟨(0 : Int32), rfl, rfl, rfl, ⟨fun a0_ => absurd ⟨hc28_4, hc34_5⟩ a0_, fun _ _ => rfl, fun a0_ a1_ => absurd a1_ (fun q_ => q_.2 hc34_9)⟩⟩
       · skip
         refine sp_ (fun t_ k_ => XS.icmpYes X7.here hx rfl (pc0 := 34) (pc' := 39) rfl (B_ dk285) rfl (flt hc34_9).2.2.2 (by decide) (by decide) k_) ?_
         show Go_ T7 (mkF mm_ 39 #[vr a, vi 1, vi c1] [])
         refine sp_ (fun t_ k_ => XS.iinc X7.here hx rfl (B_ dk286) rfl (l' := #[vr a, vi 2, vi c1]) rfl (XS.goto X7.here hx rfl (pc0 := 42) (pc' := 11) rfl (B_ dk287) (by decide) (by decide) (XS.iloadN X7.here hx rfl (B_ dk270) rfl  (XS.aloadN X7.here hx rfl (B_ dk271) rfl rfl k_)))) ?_
         obtain ⟨_, T10, Lc10, X10, hQ10, st10⟩ := own_cV X7 hx hZ hown (w_ hw 52 rfl) (w_ hw 53 rfl) (notFace_of_selects (args := #[]) (mvT hZ (w_ hw 55 rfl))) (w_ hw 55 rfl) (w_ hw 54 rfl) (by decide) (own_lenS (W := 1) hZ hw pr0 (G_cs.ext O0.2) G_cs0 (by decide) (by decide)) pr0.1 (g := (mkF mm_ 13 #[vr a, vi 2, vi c1] [(.ref a), (.int 2)])) rfl hml.symm (argsL := []) (rest := [(.int 2)]) (lenOf pd_14 rfl) rfl (Nat.le_of_eq rfl) (B_ dk272) rfl Eh7 (by decide) (by decide)
         obtain ⟨rfl, rfl, Eh10⟩ := hQ10
         have N10 := Fr.app N7 (Fr.nil n0)
         refine jp_ st10 ?_
         show Go_ T10 (mkF mm_ 16 #[vr a, vi 2, vi c1] [(.int 2), (.int 2)])
         refine sp_ (fun t_ k_ => XS.icmpYes X10.here hx rfl (pc0 := 16) (pc' := 45) rfl (B_ dk273) rfl (flt (by decide : ¬ ((2 : Int32) < (2 : Int32)))).2.1 (by decide) (by decide) k_) ?_
         show Go_ T10 (mkF mm_ 45 #[vr a, vi 2, vi c1] [])
         refine sp_ (fun t_ k_ => XS.iconst X10.here hx rfl (B_ dk290) k_) ?_
         show Go_ T10 (mkF mm_ 46 #[vr a, vi 2, vi c1] [(.int 1)])
         obtain ⟨fs, hr, hrun, hended, hW, hsame⟩ := X10.leave (v := some (.int 1)) (rN Bd.returns)
         refine ⟨_, _, ?_, hrun, hended, _, _, rfl, ?_, ⟨_, rfl⟩, hW, hsame.mono (by decide) (by decide)⟩
         · exact retN X10 hx (t := .boolean) Bd.returns (by simp) (B_ dk291) hr
         · show QrmDl2 Z a t c0 c1 h0 n0 (some (.int 1)) T10.heap _
           rw [Eh10]
           exact ⟨(1 : Int32), rfl, rfl, rfl, ⟨fun a0_ => absurd ⟨hc28_4, hc34_5⟩ a0_, fun a0_ a1_ => absurd ⟨hc28_8, hc34_9⟩ a1_, fun _ _ => rfl⟩⟩
theorem ef_rmDl3 (mm_ : MethodId) (a : Addr) : entryFrame mm_ #[(.ref a)] 3 = (mkF mm_ 0 #[vr a, un, un] []) := by first | (simp [entryFrame, mkF, argsToLocals, Value.category]; done) | rfl
def QrmDl3 (Z : State) (a : Addr) (t : Addr) (c0 : Int32) (c1 : Int32) (c2 : Int32) (h0 : Heap) (n0 : Nat) (vv_ : Option Value) (hh_ : Heap) (LL_ : List Loc) : Prop := ∃ (r : Int32), (vv_ = some (.int r)) ∧ (LL_ = []) ∧ (hh_ = h0) ∧ ((¬ (own_D c0) → r = (0 : Int32)) ∧ (own_D c0 → ¬ (own_D c1) → r = (0 : Int32)) ∧ (own_D c0 → own_D c1 → ¬ (own_D c2) → r = (0 : Int32)) ∧ (own_D c0 → own_D c1 → own_D c2 → r = (1 : Int32)))
theorem rmDl3 (l : Launch) (Z : State) (a0 : Array Value) (hw : own_Hw a0 Z) (ws : List Jvm.Cond) (a : Addr) (t : Addr) (c0 : Int32) (c1 : Int32) (c2 : Int32) {zc : Int32} {fm : Value} (h0 : Heap) (n0 : Nat) (O0 : Old Z n0 h0) (G_ : own_St Z zc fm) (pr0 : own_Str Z h0 a t [c0, c1, c2]) :
 own_MF l Z ym2 J22 3 (some .boolean) ws (rm_ 4 0 0 53) #[(.ref a)] h0 (QrmDl3 Z a t c0 c1 c2 h0 n0) := by
 refine own_met (plainFor_of_name pn_com_example_malipo_malipo_core_intake_DecimalText) (fun m_ => ef_rmDl3 m_ a) fun pp_ ee_ ss_ mm_ bb_ me_ cc_ s₁ Bd hx hby hml hown hZ hh X0 e0 => ?_
 have B_ {q_ : Nat} {r_ : _} (h_ : decode _ q_ = r_) := hb hby h_
 have hown : ss_.vm.findClass sc3 = some mm_.cls := hown
 have N0 := Fr.nil n0
 have Z0 : n0 ≤ h0.size := by have q := O0.2.1; rw [O0.1] at q; exact q
 have K0 : Keep h0 h0 [] := Keep.refl _ _
 obtain ⟨G_cs, G_cs0, G_cw, G_h_java_lang_String_7, G_fm, G_fr, G_hb, G_lb, G_ad⟩ := id G_
 show Go_ s₁ (mkF mm_ 0 #[vr a, un, un] [])
 obtain ⟨Tp1, Tp2, Tp3, ⟨kp_, Tp4⟩, -, -⟩ := id pr0
 have Tp4 : Arv Z h0 t kp_ .byte (3 : Int32) (List.map Value.int (List.map StrChars.lo8 [c0, c1, c2])) (.int 0) := Tp4
 refine sp_ (fun t_ k_ => XS.aloadN X0.here hx rfl (B_ dk265) rfl rfl k_) ?_
 obtain ⟨_, T1, Lc1, X1, hQ1, st1⟩ := own_cV X0 hx hZ hown (w_ hw 33 rfl) (w_ hw 34 rfl) (notFace_of_selects (args := #[]) (mvT hZ (w_ hw 36 rfl))) (w_ hw 36 rfl) (w_ hw 35 rfl) (by decide) (backOf (W := 0) (rmEm l Z a0 hw [] a t kp_ (3 : Int32) (List.map Value.int (List.map StrChars.lo8 [c0, c1, c2])) h0 n0 O0 Tp3 Tp4 (by first | assumption | rfl | decide | (simp; done))) hZ (w_ hw 37 rfl) (w_ hw 9 rfl) (by decide) (by decide)) pr0.1 (g := (mkF mm_ 1 #[vr a, un, un] [(.ref a)])) rfl hml.symm (argsL := []) (rest := []) (lenOf pd_13 rfl) rfl (Nat.le_of_eq rfl) (B_ dk266) rfl e0 (by decide) (by decide)
 obtain ⟨rfl, rfl, Eh1⟩ := hQ1
 have N1 := Fr.app N0 (Fr.nil n0)
 refine jp_ st1 ?_
 show Go_ T1 (mkF mm_ 4 #[vr a, un, un] [(.int 0)])
 refine sp_ (fun t_ k_ => XS.ifYes X1.here hx rfl (pc0 := 4) (pc' := 9) rfl (B_ dk267) rfl ((if0 _ _).trans (teq (by decide : (0 : Int32) = (0 : Int32))).1) (by decide) (by decide) k_) ?_
 show Go_ T1 (mkF mm_ 9 #[vr a, un, un] [])
 refine sp_ (fun t_ k_ => XS.iconst X1.here hx rfl (B_ dk268) (XS.istoreN X1.here hx rfl (B_ dk269) rfl (l' := #[vr a, vi 0, un]) rfl (XS.iloadN X1.here hx rfl (B_ dk270) rfl  (XS.aloadN X1.here hx rfl (B_ dk271) rfl rfl k_)))) ?_
 obtain ⟨_, T2, Lc2, X2, hQ2, st2⟩ := own_cV X1 hx hZ hown (w_ hw 52 rfl) (w_ hw 53 rfl) (notFace_of_selects (args := #[]) (mvT hZ (w_ hw 55 rfl))) (w_ hw 55 rfl) (w_ hw 54 rfl) (by decide) (own_lenS (W := 1) hZ hw pr0 (G_cs.ext O0.2) G_cs0 (by decide) (by decide)) pr0.1 (g := (mkF mm_ 13 #[vr a, vi 0, un] [(.ref a), (.int 0)])) rfl hml.symm (argsL := []) (rest := [(.int 0)]) (lenOf pd_14 rfl) rfl (Nat.le_of_eq rfl) (B_ dk272) rfl Eh1 (by decide) (by decide)
 obtain ⟨rfl, rfl, Eh2⟩ := hQ2
 have N2 := Fr.app N1 (Fr.nil n0)
 refine jp_ st2 ?_
 show Go_ T2 (mkF mm_ 16 #[vr a, vi 0, un] [(.int 3), (.int 0)])
 refine sp_ (fun t_ k_ => XS.icmpNo X2.here hx rfl (B_ dk273) rfl (tlt (by decide : (0 : Int32) < (3 : Int32))).2.1 k_) ?_
 show Go_ T2 (mkF mm_ 19 #[vr a, vi 0, un] [])
 refine sp_ (fun t_ k_ => XS.aloadN X2.here hx rfl (B_ dk274) rfl rfl (XS.iloadN X2.here hx rfl (B_ dk275) rfl  k_)) ?_
 obtain ⟨_, T3, Lc3, X3, hQ3, st3⟩ := own_cV X2 hx hZ hown (w_ hw 62 rfl) (w_ hw 63 rfl) (notFace_of_selects (args := #[]) (mvT hZ (w_ hw 65 rfl))) (w_ hw 65 rfl) (w_ hw 64 rfl) (by decide) (own_chS (W := 0) hZ hw pr0 (G_cs.ext O0.2) G_cs0 (G_fm.ext O0.2) G_fr (i := 0) (Nat.le_of_ble_eq_true rfl) (j := (0 : Int32)) rfl (by decide) (by decide)) pr0.1 (g := (mkF mm_ 21 #[vr a, vi 0, un] [(.int 0), (.ref a)])) rfl hml.symm (argsL := [(.int 0)]) (rest := []) (lenOf pd_15 rfl) rfl (Nat.le_of_eq rfl) (B_ dk276) rfl Eh2 (by decide) (by decide)
 obtain ⟨rfl, rfl, Eh3⟩ := hQ3
 have N3 := Fr.app N2 (Fr.nil n0)
 refine jp_ st3 ?_
 show Go_ T3 (mkF mm_ 24 #[vr a, vi 0, un] [(.int c0)])
 refine sp_ (fun t_ k_ => XS.istoreN X3.here hx rfl (B_ dk277) rfl (l' := #[vr a, vi 0, vi c0]) rfl (XS.iloadN X3.here hx rfl (B_ dk278) rfl  (XS.bipush X3.here hx rfl (B_ dk279) k_))) ?_
 show Go_ T3 (mkF mm_ 28 #[vr a, vi 0, vi c0] [(.int 48), (.int c0)])
 by_cases hc28_4 : c0 < (48 : Int32)
 · skip
   refine sp_ (fun t_ k_ => XS.icmpYes X3.here hx rfl (pc0 := 28) (pc' := 37) rfl (B_ dk280) rfl (tlt hc28_4).1 (by decide) (by decide) k_) ?_
   show Go_ T3 (mkF mm_ 37 #[vr a, vi 0, vi c0] [])
   refine sp_ (fun t_ k_ => XS.iconst X3.here hx rfl (B_ dk281) k_) ?_
   show Go_ T3 (mkF mm_ 38 #[vr a, vi 0, vi c0] [(.int 0)])
   obtain ⟨fs, hr, hrun, hended, hW, hsame⟩ := X3.leave (v := some (.int 0)) (rN Bd.returns)
   refine ⟨_, _, ?_, hrun, hended, _, _, rfl, ?_, ⟨_, rfl⟩, hW, hsame.mono (by decide) (by decide)⟩
   · exact retN X3 hx (t := .boolean) Bd.returns (by simp) (B_ dk282) hr
   · show QrmDl3 Z a t c0 c1 c2 h0 n0 (some (.int 0)) T3.heap _
     rw [Eh3]
     exact ⟨(0 : Int32), rfl, rfl, rfl, ⟨fun _ => rfl, fun a0_ a1_ => absurd a0_ (fun q_ => q_.1 hc28_4), fun a0_ a1_ a2_ => absurd a0_ (fun q_ => q_.1 hc28_4), fun a0_ a1_ a2_ => absurd a0_ (fun q_ => q_.1 hc28_4)⟩⟩
 · skip
   refine sp_ (fun t_ k_ => XS.icmpNo X3.here hx rfl (B_ dk280) rfl (flt hc28_4).1 k_) ?_
   show Go_ T3 (mkF mm_ 31 #[vr a, vi 0, vi c0] [])
   refine sp_ (fun t_ k_ => XS.iloadN X3.here hx rfl (B_ dk283) rfl  (XS.bipush X3.here hx rfl (B_ dk284) k_)) ?_
   show Go_ T3 (mkF mm_ 34 #[vr a, vi 0, vi c0] [(.int 57), (.int c0)])
   by_cases hc34_5 : (57 : Int32) < c0
   · skip
     refine sp_ (fun t_ k_ => XS.icmpNo X3.here hx rfl (B_ dk285) rfl (tlt hc34_5).2.2.2 k_) ?_
     show Go_ T3 (mkF mm_ 37 #[vr a, vi 0, vi c0] [])
     refine sp_ (fun t_ k_ => XS.iconst X3.here hx rfl (B_ dk281) k_) ?_
     show Go_ T3 (mkF mm_ 38 #[vr a, vi 0, vi c0] [(.int 0)])
     obtain ⟨fs, hr, hrun, hended, hW, hsame⟩ := X3.leave (v := some (.int 0)) (rN Bd.returns)
     refine ⟨_, _, ?_, hrun, hended, _, _, rfl, ?_, ⟨_, rfl⟩, hW, hsame.mono (by decide) (by decide)⟩
     · exact retN X3 hx (t := .boolean) Bd.returns (by simp) (B_ dk282) hr
     · show QrmDl3 Z a t c0 c1 c2 h0 n0 (some (.int 0)) T3.heap _
       rw [Eh3]
       exact ⟨(0 : Int32), rfl, rfl, rfl, ⟨fun _ => rfl, fun a0_ a1_ => absurd a0_ (fun q_ => q_.2 hc34_5), fun a0_ a1_ a2_ => absurd a0_ (fun q_ => q_.2 hc34_5), fun a0_ a1_ a2_ => absurd a0_ (fun q_ => q_.2 hc34_5)⟩⟩
   · skip
     refine sp_ (fun t_ k_ => XS.icmpYes X3.here hx rfl (pc0 := 34) (pc' := 39) rfl (B_ dk285) rfl (flt hc34_5).2.2.2 (by decide) (by decide) k_) ?_
     show Go_ T3 (mkF mm_ 39 #[vr a, vi 0, vi c0] [])
     refine sp_ (fun t_ k_ => XS.iinc X3.here hx rfl (B_ dk286) rfl (l' := #[vr a, vi 1, vi c0]) rfl (XS.goto X3.here hx rfl (pc0 := 42) (pc' := 11) rfl (B_ dk287) (by decide) (by decide) (XS.iloadN X3.here hx rfl (B_ dk270) rfl  (XS.aloadN X3.here hx rfl (B_ dk271) rfl rfl k_)))) ?_
     obtain ⟨_, T6, Lc6, X6, hQ6, st6⟩ := own_cV X3 hx hZ hown (w_ hw 52 rfl) (w_ hw 53 rfl) (notFace_of_selects (args := #[]) (mvT hZ (w_ hw 55 rfl))) (w_ hw 55 rfl) (w_ hw 54 rfl) (by decide) (own_lenS (W := 1) hZ hw pr0 (G_cs.ext O0.2) G_cs0 (by decide) (by decide)) pr0.1 (g := (mkF mm_ 13 #[vr a, vi 1, vi c0] [(.ref a), (.int 1)])) rfl hml.symm (argsL := []) (rest := [(.int 1)]) (lenOf pd_14 rfl) rfl (Nat.le_of_eq rfl) (B_ dk272) rfl Eh3 (by decide) (by decide)
     obtain ⟨rfl, rfl, Eh6⟩ := hQ6
     have N6 := Fr.app N3 (Fr.nil n0)
     refine jp_ st6 ?_
     show Go_ T6 (mkF mm_ 16 #[vr a, vi 1, vi c0] [(.int 3), (.int 1)])
     refine sp_ (fun t_ k_ => XS.icmpNo X6.here hx rfl (B_ dk273) rfl (tlt (by decide : (1 : Int32) < (3 : Int32))).2.1 k_) ?_
     show Go_ T6 (mkF mm_ 19 #[vr a, vi 1, vi c0] [])
     refine sp_ (fun t_ k_ => XS.aloadN X6.here hx rfl (B_ dk274) rfl rfl (XS.iloadN X6.here hx rfl (B_ dk275) rfl  k_)) ?_
     obtain ⟨_, T7, Lc7, X7, hQ7, st7⟩ := own_cV X6 hx hZ hown (w_ hw 62 rfl) (w_ hw 63 rfl) (notFace_of_selects (args := #[]) (mvT hZ (w_ hw 65 rfl))) (w_ hw 65 rfl) (w_ hw 64 rfl) (by decide) (own_chS (W := 0) hZ hw pr0 (G_cs.ext O0.2) G_cs0 (G_fm.ext O0.2) G_fr (i := 1) (Nat.le_of_ble_eq_true rfl) (j := (1 : Int32)) rfl (by decide) (by decide)) pr0.1 (g := (mkF mm_ 21 #[vr a, vi 1, vi c0] [(.int 1), (.ref a)])) rfl hml.symm (argsL := [(.int 1)]) (rest := []) (lenOf pd_15 rfl) rfl (Nat.le_of_eq rfl) (B_ dk276) rfl Eh6 (by decide) (by decide)
     obtain ⟨rfl, rfl, Eh7⟩ := hQ7
     have N7 := Fr.app N6 (Fr.nil n0)
     refine jp_ st7 ?_
     show Go_ T7 (mkF mm_ 24 #[vr a, vi 1, vi c0] [(.int c1)])
     refine sp_ (fun t_ k_ => XS.istoreN X7.here hx rfl (B_ dk277) rfl (l' := #[vr a, vi 1, vi c1]) rfl (XS.iloadN X7.here hx rfl (B_ dk278) rfl  (XS.bipush X7.here hx rfl (B_ dk279) k_))) ?_
     show Go_ T7 (mkF mm_ 28 #[vr a, vi 1, vi c1] [(.int 48), (.int c1)])
     by_cases hc28_8 : c1 < (48 : Int32)
     · skip
       refine sp_ (fun t_ k_ => XS.icmpYes X7.here hx rfl (pc0 := 28) (pc' := 37) rfl (B_ dk280) rfl (tlt hc28_8).1 (by decide) (by decide) k_) ?_
       show Go_ T7 (mkF mm_ 37 #[vr a, vi 1, vi c1] [])
       refine sp_ (fun t_ k_ => XS.iconst X7.here hx rfl (B_ dk281) k_) ?_
       show Go_ T7 (mkF mm_ 38 #[vr a, vi 1, vi c1] [(.int 0)])
       obtain ⟨fs, hr, hrun, hended, hW, hsame⟩ := X7.leave (v := some (.int 0)) (rN Bd.returns)
       refine ⟨_, _, ?_, hrun, hended, _, _, rfl, ?_, ⟨_, rfl⟩, hW, hsame.mono (by decide) (by decide)⟩
       · exact retN X7 hx (t := .boolean) Bd.returns (by simp) (B_ dk282) hr
       · show QrmDl3 Z a t c0 c1 c2 h0 n0 (some (.int 0)) T7.heap _
         rw [Eh7]
         exact ⟨(0 : Int32), rfl, rfl, rfl, ⟨fun a0_ => absurd ⟨hc28_4, hc34_5⟩ a0_, fun _ _ => rfl, fun a0_ a1_ a2_ => absurd a1_ (fun q_ => q_.1 hc28_8), fun a0_ a1_ a2_ => absurd a1_ (fun q_ => q_.1 hc28_8)⟩⟩
     · skip
       refine sp_ (fun t_ k_ => XS.icmpNo X7.here hx rfl (B_ dk280) rfl (flt hc28_8).1 k_) ?_
       show Go_ T7 (mkF mm_ 31 #[vr a, vi 1, vi c1] [])
       refine sp_ (fun t_ k_ => XS.iloadN X7.here hx rfl (B_ dk283) rfl  (XS.bipush X7.here hx rfl (B_ dk284) k_)) ?_
       show Go_ T7 (mkF mm_ 34 #[vr a, vi 1, vi c1] [(.int 57), (.int c1)])
       by_cases hc34_9 : (57 : Int32) < c1
       · skip
         refine sp_ (fun t_ k_ => XS.icmpNo X7.here hx rfl (B_ dk285) rfl (tlt hc34_9).2.2.2 k_) ?_
         show Go_ T7 (mkF mm_ 37 #[vr a, vi 1, vi c1] [])
         refine sp_ (fun t_ k_ => XS.iconst X7.here hx rfl (B_ dk281) k_) ?_
         show Go_ T7 (mkF mm_ 38 #[vr a, vi 1, vi c1] [(.int 0)])
         obtain ⟨fs, hr, hrun, hended, hW, hsame⟩ := X7.leave (v := some (.int 0)) (rN Bd.returns)
         refine ⟨_, _, ?_, hrun, hended, _, _, rfl, ?_, ⟨_, rfl⟩, hW, hsame.mono (by decide) (by decide)⟩
         · exact retN X7 hx (t := .boolean) Bd.returns (by simp) (B_ dk282) hr
         · show QrmDl3 Z a t c0 c1 c2 h0 n0 (some (.int 0)) T7.heap _
           rw [Eh7]
           exact ⟨(0 : Int32), rfl, rfl, rfl, ⟨fun a0_ => absurd ⟨hc28_4, hc34_5⟩ a0_, fun _ _ => rfl, fun a0_ a1_ a2_ => absurd a1_ (fun q_ => q_.2 hc34_9), fun a0_ a1_ a2_ => absurd a1_ (fun q_ => q_.2 hc34_9)⟩⟩
       · skip
         refine sp_ (fun t_ k_ => XS.icmpYes X7.here hx rfl (pc0 := 34) (pc' := 39) rfl (B_ dk285) rfl (flt hc34_9).2.2.2 (by decide) (by decide) k_) ?_
         show Go_ T7 (mkF mm_ 39 #[vr a, vi 1, vi c1] [])
         refine sp_ (fun t_ k_ => XS.iinc X7.here hx rfl (B_ dk286) rfl (l' := #[vr a, vi 2, vi c1]) rfl (XS.goto X7.here hx rfl (pc0 := 42) (pc' := 11) rfl (B_ dk287) (by decide) (by decide) (XS.iloadN X7.here hx rfl (B_ dk270) rfl  (XS.aloadN X7.here hx rfl (B_ dk271) rfl rfl k_)))) ?_
         obtain ⟨_, T10, Lc10, X10, hQ10, st10⟩ := own_cV X7 hx hZ hown (w_ hw 52 rfl) (w_ hw 53 rfl) (notFace_of_selects (args := #[]) (mvT hZ (w_ hw 55 rfl))) (w_ hw 55 rfl) (w_ hw 54 rfl) (by decide) (own_lenS (W := 1) hZ hw pr0 (G_cs.ext O0.2) G_cs0 (by decide) (by decide)) pr0.1 (g := (mkF mm_ 13 #[vr a, vi 2, vi c1] [(.ref a), (.int 2)])) rfl hml.symm (argsL := []) (rest := [(.int 2)]) (lenOf pd_14 rfl) rfl (Nat.le_of_eq rfl) (B_ dk272) rfl Eh7 (by decide) (by decide)
         obtain ⟨rfl, rfl, Eh10⟩ := hQ10
         have N10 := Fr.app N7 (Fr.nil n0)
         refine jp_ st10 ?_
         show Go_ T10 (mkF mm_ 16 #[vr a, vi 2, vi c1] [(.int 3), (.int 2)])
         refine sp_ (fun t_ k_ => XS.icmpNo X10.here hx rfl (B_ dk273) rfl (tlt (by decide : (2 : Int32) < (3 : Int32))).2.1 k_) ?_
         show Go_ T10 (mkF mm_ 19 #[vr a, vi 2, vi c1] [])
         refine sp_ (fun t_ k_ => XS.aloadN X10.here hx rfl (B_ dk274) rfl rfl (XS.iloadN X10.here hx rfl (B_ dk275) rfl  k_)) ?_
         obtain ⟨_, T11, Lc11, X11, hQ11, st11⟩ := own_cV X10 hx hZ hown (w_ hw 62 rfl) (w_ hw 63 rfl) (notFace_of_selects (args := #[]) (mvT hZ (w_ hw 65 rfl))) (w_ hw 65 rfl) (w_ hw 64 rfl) (by decide) (own_chS (W := 0) hZ hw pr0 (G_cs.ext O0.2) G_cs0 (G_fm.ext O0.2) G_fr (i := 2) (Nat.le_of_ble_eq_true rfl) (j := (2 : Int32)) rfl (by decide) (by decide)) pr0.1 (g := (mkF mm_ 21 #[vr a, vi 2, vi c1] [(.int 2), (.ref a)])) rfl hml.symm (argsL := [(.int 2)]) (rest := []) (lenOf pd_15 rfl) rfl (Nat.le_of_eq rfl) (B_ dk276) rfl Eh10 (by decide) (by decide)
         obtain ⟨rfl, rfl, Eh11⟩ := hQ11
         have N11 := Fr.app N10 (Fr.nil n0)
         refine jp_ st11 ?_
         show Go_ T11 (mkF mm_ 24 #[vr a, vi 2, vi c1] [(.int c2)])
         refine sp_ (fun t_ k_ => XS.istoreN X11.here hx rfl (B_ dk277) rfl (l' := #[vr a, vi 2, vi c2]) rfl (XS.iloadN X11.here hx rfl (B_ dk278) rfl  (XS.bipush X11.here hx rfl (B_ dk279) k_))) ?_
         show Go_ T11 (mkF mm_ 28 #[vr a, vi 2, vi c2] [(.int 48), (.int c2)])
         by_cases hc28_12 : c2 < (48 : Int32)
         · skip
           refine sp_ (fun t_ k_ => XS.icmpYes X11.here hx rfl (pc0 := 28) (pc' := 37) rfl (B_ dk280) rfl (tlt hc28_12).1 (by decide) (by decide) k_) ?_
           show Go_ T11 (mkF mm_ 37 #[vr a, vi 2, vi c2] [])
           refine sp_ (fun t_ k_ => XS.iconst X11.here hx rfl (B_ dk281) k_) ?_
           show Go_ T11 (mkF mm_ 38 #[vr a, vi 2, vi c2] [(.int 0)])
           obtain ⟨fs, hr, hrun, hended, hW, hsame⟩ := X11.leave (v := some (.int 0)) (rN Bd.returns)
           refine ⟨_, _, ?_, hrun, hended, _, _, rfl, ?_, ⟨_, rfl⟩, hW, hsame.mono (by decide) (by decide)⟩
           · exact retN X11 hx (t := .boolean) Bd.returns (by simp) (B_ dk282) hr
           · show QrmDl3 Z a t c0 c1 c2 h0 n0 (some (.int 0)) T11.heap _
             rw [Eh11]
             exact ⟨(0 : Int32), rfl, rfl, rfl, ⟨fun a0_ => absurd ⟨hc28_4, hc34_5⟩ a0_, fun a0_ a1_ => absurd ⟨hc28_8, hc34_9⟩ a1_, fun _ _ _ => rfl, fun a0_ a1_ a2_ => absurd a2_ (fun q_ => q_.1 hc28_12)⟩⟩
         · skip
           refine sp_ (fun t_ k_ => XS.icmpNo X11.here hx rfl (B_ dk280) rfl (flt hc28_12).1 k_) ?_
           show Go_ T11 (mkF mm_ 31 #[vr a, vi 2, vi c2] [])
           refine sp_ (fun t_ k_ => XS.iloadN X11.here hx rfl (B_ dk283) rfl  (XS.bipush X11.here hx rfl (B_ dk284) k_)) ?_
           show Go_ T11 (mkF mm_ 34 #[vr a, vi 2, vi c2] [(.int 57), (.int c2)])
           by_cases hc34_13 : (57 : Int32) < c2
           · skip
             refine sp_ (fun t_ k_ => XS.icmpNo X11.here hx rfl (B_ dk285) rfl (tlt hc34_13).2.2.2 k_) ?_
             show Go_ T11 (mkF mm_ 37 #[vr a, vi 2, vi c2] [])
             refine sp_ (fun t_ k_ => XS.iconst X11.here hx rfl (B_ dk281) k_) ?_
             show Go_ T11 (mkF mm_ 38 #[vr a, vi 2, vi c2] [(.int 0)])
             obtain ⟨fs, hr, hrun, hended, hW, hsame⟩ := X11.leave (v := some (.int 0)) (rN Bd.returns)
             refine ⟨_, _, ?_, hrun, hended, _, _, rfl, ?_, ⟨_, rfl⟩, hW, hsame.mono (by decide) (by decide)⟩
             · exact retN X11 hx (t := .boolean) Bd.returns (by simp) (B_ dk282) hr
             · show QrmDl3 Z a t c0 c1 c2 h0 n0 (some (.int 0)) T11.heap _
               rw [Eh11]
               exact ⟨(0 : Int32), rfl, rfl, rfl, ⟨fun a0_ => absurd ⟨hc28_4, hc34_5⟩ a0_, fun a0_ a1_ => absurd ⟨hc28_8, hc34_9⟩ a1_, fun _ _ _ => rfl, fun a0_ a1_ a2_ => absurd a2_ (fun q_ => q_.2 hc34_13)⟩⟩
           · skip
             refine sp_ (fun t_ k_ => XS.icmpYes X11.here hx rfl (pc0 := 34) (pc' := 39) rfl (B_ dk285) rfl (flt hc34_13).2.2.2 (by decide) (by decide) k_) ?_
             show Go_ T11 (mkF mm_ 39 #[vr a, vi 2, vi c2] [])
             refine sp_ (fun t_ k_ => XS.iinc X11.here hx rfl (B_ dk286) rfl (l' := #[vr a, vi 3, vi c2]) rfl (XS.goto X11.here hx rfl (pc0 := 42) (pc' := 11) rfl (B_ dk287) (by decide) (by decide) (XS.iloadN X11.here hx rfl (B_ dk270) rfl  (XS.aloadN X11.here hx rfl (B_ dk271) rfl rfl k_)))) ?_
             obtain ⟨_, T14, Lc14, X14, hQ14, st14⟩ := own_cV X11 hx hZ hown (w_ hw 52 rfl) (w_ hw 53 rfl) (notFace_of_selects (args := #[]) (mvT hZ (w_ hw 55 rfl))) (w_ hw 55 rfl) (w_ hw 54 rfl) (by decide) (own_lenS (W := 1) hZ hw pr0 (G_cs.ext O0.2) G_cs0 (by decide) (by decide)) pr0.1 (g := (mkF mm_ 13 #[vr a, vi 3, vi c2] [(.ref a), (.int 3)])) rfl hml.symm (argsL := []) (rest := [(.int 3)]) (lenOf pd_14 rfl) rfl (Nat.le_of_eq rfl) (B_ dk272) rfl Eh11 (by decide) (by decide)
             obtain ⟨rfl, rfl, Eh14⟩ := hQ14
             have N14 := Fr.app N11 (Fr.nil n0)
             refine jp_ st14 ?_
             show Go_ T14 (mkF mm_ 16 #[vr a, vi 3, vi c2] [(.int 3), (.int 3)])
             refine sp_ (fun t_ k_ => XS.icmpYes X14.here hx rfl (pc0 := 16) (pc' := 45) rfl (B_ dk273) rfl (flt (by decide : ¬ ((3 : Int32) < (3 : Int32)))).2.1 (by decide) (by decide) k_) ?_
             show Go_ T14 (mkF mm_ 45 #[vr a, vi 3, vi c2] [])
             refine sp_ (fun t_ k_ => XS.iconst X14.here hx rfl (B_ dk290) k_) ?_
             show Go_ T14 (mkF mm_ 46 #[vr a, vi 3, vi c2] [(.int 1)])
             obtain ⟨fs, hr, hrun, hended, hW, hsame⟩ := X14.leave (v := some (.int 1)) (rN Bd.returns)
             refine ⟨_, _, ?_, hrun, hended, _, _, rfl, ?_, ⟨_, rfl⟩, hW, hsame.mono (by decide) (by decide)⟩
             · exact retN X14 hx (t := .boolean) Bd.returns (by simp) (B_ dk291) hr
             · show QrmDl3 Z a t c0 c1 c2 h0 n0 (some (.int 1)) T14.heap _
               rw [Eh14]
               exact ⟨(1 : Int32), rfl, rfl, rfl, ⟨fun a0_ => absurd ⟨hc28_4, hc34_5⟩ a0_, fun a0_ a1_ => absurd ⟨hc28_8, hc34_9⟩ a1_, fun a0_ a1_ a2_ => absurd ⟨hc28_12, hc34_13⟩ a2_, fun _ _ _ => rfl⟩⟩
theorem ef_rmDl4 (mm_ : MethodId) (a : Addr) : entryFrame mm_ #[(.ref a)] 3 = (mkF mm_ 0 #[vr a, un, un] []) := by first | (simp [entryFrame, mkF, argsToLocals, Value.category]; done) | rfl
def QrmDl4 (Z : State) (a : Addr) (t : Addr) (c0 : Int32) (c1 : Int32) (c2 : Int32) (c3 : Int32) (h0 : Heap) (n0 : Nat) (vv_ : Option Value) (hh_ : Heap) (LL_ : List Loc) : Prop := ∃ (r : Int32), (vv_ = some (.int r)) ∧ (LL_ = []) ∧ (hh_ = h0) ∧ ((¬ (own_D c0) → r = (0 : Int32)) ∧ (own_D c0 → ¬ (own_D c1) → r = (0 : Int32)) ∧ (own_D c0 → own_D c1 → ¬ (own_D c2) → r = (0 : Int32)) ∧ (own_D c0 → own_D c1 → own_D c2 → ¬ (own_D c3) → r = (0 : Int32)) ∧ (own_D c0 → own_D c1 → own_D c2 → own_D c3 → r = (1 : Int32)))
theorem rmDl4 (l : Launch) (Z : State) (a0 : Array Value) (hw : own_Hw a0 Z) (ws : List Jvm.Cond) (a : Addr) (t : Addr) (c0 : Int32) (c1 : Int32) (c2 : Int32) (c3 : Int32) {zc : Int32} {fm : Value} (h0 : Heap) (n0 : Nat) (O0 : Old Z n0 h0) (G_ : own_St Z zc fm) (pr0 : own_Str Z h0 a t [c0, c1, c2, c3]) :
 own_MF l Z ym2 J22 3 (some .boolean) ws (rm_ 4 0 0 53) #[(.ref a)] h0 (QrmDl4 Z a t c0 c1 c2 c3 h0 n0) := by
 refine own_met (plainFor_of_name pn_com_example_malipo_malipo_core_intake_DecimalText) (fun m_ => ef_rmDl4 m_ a) fun pp_ ee_ ss_ mm_ bb_ me_ cc_ s₁ Bd hx hby hml hown hZ hh X0 e0 => ?_
 have B_ {q_ : Nat} {r_ : _} (h_ : decode _ q_ = r_) := hb hby h_
 have hown : ss_.vm.findClass sc3 = some mm_.cls := hown
 have N0 := Fr.nil n0
 have Z0 : n0 ≤ h0.size := by have q := O0.2.1; rw [O0.1] at q; exact q
 have K0 : Keep h0 h0 [] := Keep.refl _ _
 obtain ⟨G_cs, G_cs0, G_cw, G_h_java_lang_String_7, G_fm, G_fr, G_hb, G_lb, G_ad⟩ := id G_
 show Go_ s₁ (mkF mm_ 0 #[vr a, un, un] [])
 obtain ⟨Tp1, Tp2, Tp3, ⟨kp_, Tp4⟩, -, -⟩ := id pr0
 have Tp4 : Arv Z h0 t kp_ .byte (4 : Int32) (List.map Value.int (List.map StrChars.lo8 [c0, c1, c2, c3])) (.int 0) := Tp4
 refine sp_ (fun t_ k_ => XS.aloadN X0.here hx rfl (B_ dk265) rfl rfl k_) ?_
 obtain ⟨_, T1, Lc1, X1, hQ1, st1⟩ := own_cV X0 hx hZ hown (w_ hw 33 rfl) (w_ hw 34 rfl) (notFace_of_selects (args := #[]) (mvT hZ (w_ hw 36 rfl))) (w_ hw 36 rfl) (w_ hw 35 rfl) (by decide) (backOf (W := 0) (rmEm l Z a0 hw [] a t kp_ (4 : Int32) (List.map Value.int (List.map StrChars.lo8 [c0, c1, c2, c3])) h0 n0 O0 Tp3 Tp4 (by first | assumption | rfl | decide | (simp; done))) hZ (w_ hw 37 rfl) (w_ hw 9 rfl) (by decide) (by decide)) pr0.1 (g := (mkF mm_ 1 #[vr a, un, un] [(.ref a)])) rfl hml.symm (argsL := []) (rest := []) (lenOf pd_13 rfl) rfl (Nat.le_of_eq rfl) (B_ dk266) rfl e0 (by decide) (by decide)
 obtain ⟨rfl, rfl, Eh1⟩ := hQ1
 have N1 := Fr.app N0 (Fr.nil n0)
 refine jp_ st1 ?_
 show Go_ T1 (mkF mm_ 4 #[vr a, un, un] [(.int 0)])
 refine sp_ (fun t_ k_ => XS.ifYes X1.here hx rfl (pc0 := 4) (pc' := 9) rfl (B_ dk267) rfl ((if0 _ _).trans (teq (by decide : (0 : Int32) = (0 : Int32))).1) (by decide) (by decide) k_) ?_
 show Go_ T1 (mkF mm_ 9 #[vr a, un, un] [])
 refine sp_ (fun t_ k_ => XS.iconst X1.here hx rfl (B_ dk268) (XS.istoreN X1.here hx rfl (B_ dk269) rfl (l' := #[vr a, vi 0, un]) rfl (XS.iloadN X1.here hx rfl (B_ dk270) rfl  (XS.aloadN X1.here hx rfl (B_ dk271) rfl rfl k_)))) ?_
 obtain ⟨_, T2, Lc2, X2, hQ2, st2⟩ := own_cV X1 hx hZ hown (w_ hw 52 rfl) (w_ hw 53 rfl) (notFace_of_selects (args := #[]) (mvT hZ (w_ hw 55 rfl))) (w_ hw 55 rfl) (w_ hw 54 rfl) (by decide) (own_lenS (W := 1) hZ hw pr0 (G_cs.ext O0.2) G_cs0 (by decide) (by decide)) pr0.1 (g := (mkF mm_ 13 #[vr a, vi 0, un] [(.ref a), (.int 0)])) rfl hml.symm (argsL := []) (rest := [(.int 0)]) (lenOf pd_14 rfl) rfl (Nat.le_of_eq rfl) (B_ dk272) rfl Eh1 (by decide) (by decide)
 obtain ⟨rfl, rfl, Eh2⟩ := hQ2
 have N2 := Fr.app N1 (Fr.nil n0)
 refine jp_ st2 ?_
 show Go_ T2 (mkF mm_ 16 #[vr a, vi 0, un] [(.int 4), (.int 0)])
 refine sp_ (fun t_ k_ => XS.icmpNo X2.here hx rfl (B_ dk273) rfl (tlt (by decide : (0 : Int32) < (4 : Int32))).2.1 k_) ?_
 show Go_ T2 (mkF mm_ 19 #[vr a, vi 0, un] [])
 refine sp_ (fun t_ k_ => XS.aloadN X2.here hx rfl (B_ dk274) rfl rfl (XS.iloadN X2.here hx rfl (B_ dk275) rfl  k_)) ?_
 obtain ⟨_, T3, Lc3, X3, hQ3, st3⟩ := own_cV X2 hx hZ hown (w_ hw 62 rfl) (w_ hw 63 rfl) (notFace_of_selects (args := #[]) (mvT hZ (w_ hw 65 rfl))) (w_ hw 65 rfl) (w_ hw 64 rfl) (by decide) (own_chS (W := 0) hZ hw pr0 (G_cs.ext O0.2) G_cs0 (G_fm.ext O0.2) G_fr (i := 0) (Nat.le_of_ble_eq_true rfl) (j := (0 : Int32)) rfl (by decide) (by decide)) pr0.1 (g := (mkF mm_ 21 #[vr a, vi 0, un] [(.int 0), (.ref a)])) rfl hml.symm (argsL := [(.int 0)]) (rest := []) (lenOf pd_15 rfl) rfl (Nat.le_of_eq rfl) (B_ dk276) rfl Eh2 (by decide) (by decide)
 obtain ⟨rfl, rfl, Eh3⟩ := hQ3
 have N3 := Fr.app N2 (Fr.nil n0)
 refine jp_ st3 ?_
 show Go_ T3 (mkF mm_ 24 #[vr a, vi 0, un] [(.int c0)])
 refine sp_ (fun t_ k_ => XS.istoreN X3.here hx rfl (B_ dk277) rfl (l' := #[vr a, vi 0, vi c0]) rfl (XS.iloadN X3.here hx rfl (B_ dk278) rfl  (XS.bipush X3.here hx rfl (B_ dk279) k_))) ?_
 show Go_ T3 (mkF mm_ 28 #[vr a, vi 0, vi c0] [(.int 48), (.int c0)])
 by_cases hc28_4 : c0 < (48 : Int32)
 · skip
   refine sp_ (fun t_ k_ => XS.icmpYes X3.here hx rfl (pc0 := 28) (pc' := 37) rfl (B_ dk280) rfl (tlt hc28_4).1 (by decide) (by decide) k_) ?_
   show Go_ T3 (mkF mm_ 37 #[vr a, vi 0, vi c0] [])
   refine sp_ (fun t_ k_ => XS.iconst X3.here hx rfl (B_ dk281) k_) ?_
   show Go_ T3 (mkF mm_ 38 #[vr a, vi 0, vi c0] [(.int 0)])
   obtain ⟨fs, hr, hrun, hended, hW, hsame⟩ := X3.leave (v := some (.int 0)) (rN Bd.returns)
   refine ⟨_, _, ?_, hrun, hended, _, _, rfl, ?_, ⟨_, rfl⟩, hW, hsame.mono (by decide) (by decide)⟩
   · exact retN X3 hx (t := .boolean) Bd.returns (by simp) (B_ dk282) hr
   · show QrmDl4 Z a t c0 c1 c2 c3 h0 n0 (some (.int 0)) T3.heap _
     rw [Eh3]
     exact ⟨(0 : Int32), rfl, rfl, rfl, ⟨fun _ => rfl, fun a0_ a1_ => absurd a0_ (fun q_ => q_.1 hc28_4), fun a0_ a1_ a2_ => absurd a0_ (fun q_ => q_.1 hc28_4), fun a0_ a1_ a2_ a3_ => absurd a0_ (fun q_ => q_.1 hc28_4), fun a0_ a1_ a2_ a3_ => absurd a0_ (fun q_ => q_.1 hc28_4)⟩⟩
 · skip
   refine sp_ (fun t_ k_ => XS.icmpNo X3.here hx rfl (B_ dk280) rfl (flt hc28_4).1 k_) ?_
   show Go_ T3 (mkF mm_ 31 #[vr a, vi 0, vi c0] [])
   refine sp_ (fun t_ k_ => XS.iloadN X3.here hx rfl (B_ dk283) rfl  (XS.bipush X3.here hx rfl (B_ dk284) k_)) ?_
   show Go_ T3 (mkF mm_ 34 #[vr a, vi 0, vi c0] [(.int 57), (.int c0)])
   by_cases hc34_5 : (57 : Int32) < c0
   · skip
     refine sp_ (fun t_ k_ => XS.icmpNo X3.here hx rfl (B_ dk285) rfl (tlt hc34_5).2.2.2 k_) ?_
     show Go_ T3 (mkF mm_ 37 #[vr a, vi 0, vi c0] [])
     refine sp_ (fun t_ k_ => XS.iconst X3.here hx rfl (B_ dk281) k_) ?_
     show Go_ T3 (mkF mm_ 38 #[vr a, vi 0, vi c0] [(.int 0)])
     obtain ⟨fs, hr, hrun, hended, hW, hsame⟩ := X3.leave (v := some (.int 0)) (rN Bd.returns)
     refine ⟨_, _, ?_, hrun, hended, _, _, rfl, ?_, ⟨_, rfl⟩, hW, hsame.mono (by decide) (by decide)⟩
     · exact retN X3 hx (t := .boolean) Bd.returns (by simp) (B_ dk282) hr
     · show QrmDl4 Z a t c0 c1 c2 c3 h0 n0 (some (.int 0)) T3.heap _
       rw [Eh3]
       exact ⟨(0 : Int32), rfl, rfl, rfl, ⟨fun _ => rfl, fun a0_ a1_ => absurd a0_ (fun q_ => q_.2 hc34_5), fun a0_ a1_ a2_ => absurd a0_ (fun q_ => q_.2 hc34_5), fun a0_ a1_ a2_ a3_ => absurd a0_ (fun q_ => q_.2 hc34_5), fun a0_ a1_ a2_ a3_ => absurd a0_ (fun q_ => q_.2 hc34_5)⟩⟩
   · skip
     refine sp_ (fun t_ k_ => XS.icmpYes X3.here hx rfl (pc0 := 34) (pc' := 39) rfl (B_ dk285) rfl (flt hc34_5).2.2.2 (by decide) (by decide) k_) ?_
     show Go_ T3 (mkF mm_ 39 #[vr a, vi 0, vi c0] [])
     refine sp_ (fun t_ k_ => XS.iinc X3.here hx rfl (B_ dk286) rfl (l' := #[vr a, vi 1, vi c0]) rfl (XS.goto X3.here hx rfl (pc0 := 42) (pc' := 11) rfl (B_ dk287) (by decide) (by decide) (XS.iloadN X3.here hx rfl (B_ dk270) rfl  (XS.aloadN X3.here hx rfl (B_ dk271) rfl rfl k_)))) ?_
     obtain ⟨_, T6, Lc6, X6, hQ6, st6⟩ := own_cV X3 hx hZ hown (w_ hw 52 rfl) (w_ hw 53 rfl) (notFace_of_selects (args := #[]) (mvT hZ (w_ hw 55 rfl))) (w_ hw 55 rfl) (w_ hw 54 rfl) (by decide) (own_lenS (W := 1) hZ hw pr0 (G_cs.ext O0.2) G_cs0 (by decide) (by decide)) pr0.1 (g := (mkF mm_ 13 #[vr a, vi 1, vi c0] [(.ref a), (.int 1)])) rfl hml.symm (argsL := []) (rest := [(.int 1)]) (lenOf pd_14 rfl) rfl (Nat.le_of_eq rfl) (B_ dk272) rfl Eh3 (by decide) (by decide)
     obtain ⟨rfl, rfl, Eh6⟩ := hQ6
     have N6 := Fr.app N3 (Fr.nil n0)
     refine jp_ st6 ?_
     show Go_ T6 (mkF mm_ 16 #[vr a, vi 1, vi c0] [(.int 4), (.int 1)])
     refine sp_ (fun t_ k_ => XS.icmpNo X6.here hx rfl (B_ dk273) rfl (tlt (by decide : (1 : Int32) < (4 : Int32))).2.1 k_) ?_
     show Go_ T6 (mkF mm_ 19 #[vr a, vi 1, vi c0] [])
     refine sp_ (fun t_ k_ => XS.aloadN X6.here hx rfl (B_ dk274) rfl rfl (XS.iloadN X6.here hx rfl (B_ dk275) rfl  k_)) ?_
     obtain ⟨_, T7, Lc7, X7, hQ7, st7⟩ := own_cV X6 hx hZ hown (w_ hw 62 rfl) (w_ hw 63 rfl) (notFace_of_selects (args := #[]) (mvT hZ (w_ hw 65 rfl))) (w_ hw 65 rfl) (w_ hw 64 rfl) (by decide) (own_chS (W := 0) hZ hw pr0 (G_cs.ext O0.2) G_cs0 (G_fm.ext O0.2) G_fr (i := 1) (Nat.le_of_ble_eq_true rfl) (j := (1 : Int32)) rfl (by decide) (by decide)) pr0.1 (g := (mkF mm_ 21 #[vr a, vi 1, vi c0] [(.int 1), (.ref a)])) rfl hml.symm (argsL := [(.int 1)]) (rest := []) (lenOf pd_15 rfl) rfl (Nat.le_of_eq rfl) (B_ dk276) rfl Eh6 (by decide) (by decide)
     obtain ⟨rfl, rfl, Eh7⟩ := hQ7
     have N7 := Fr.app N6 (Fr.nil n0)
     refine jp_ st7 ?_
     show Go_ T7 (mkF mm_ 24 #[vr a, vi 1, vi c0] [(.int c1)])
     refine sp_ (fun t_ k_ => XS.istoreN X7.here hx rfl (B_ dk277) rfl (l' := #[vr a, vi 1, vi c1]) rfl (XS.iloadN X7.here hx rfl (B_ dk278) rfl  (XS.bipush X7.here hx rfl (B_ dk279) k_))) ?_
     show Go_ T7 (mkF mm_ 28 #[vr a, vi 1, vi c1] [(.int 48), (.int c1)])
     by_cases hc28_8 : c1 < (48 : Int32)
     · skip
       refine sp_ (fun t_ k_ => XS.icmpYes X7.here hx rfl (pc0 := 28) (pc' := 37) rfl (B_ dk280) rfl (tlt hc28_8).1 (by decide) (by decide) k_) ?_
       show Go_ T7 (mkF mm_ 37 #[vr a, vi 1, vi c1] [])
       refine sp_ (fun t_ k_ => XS.iconst X7.here hx rfl (B_ dk281) k_) ?_
       show Go_ T7 (mkF mm_ 38 #[vr a, vi 1, vi c1] [(.int 0)])
       obtain ⟨fs, hr, hrun, hended, hW, hsame⟩ := X7.leave (v := some (.int 0)) (rN Bd.returns)
       refine ⟨_, _, ?_, hrun, hended, _, _, rfl, ?_, ⟨_, rfl⟩, hW, hsame.mono (by decide) (by decide)⟩
       · exact retN X7 hx (t := .boolean) Bd.returns (by simp) (B_ dk282) hr
       · show QrmDl4 Z a t c0 c1 c2 c3 h0 n0 (some (.int 0)) T7.heap _
         rw [Eh7]
         exact ⟨(0 : Int32), rfl, rfl, rfl, ⟨fun a0_ => absurd ⟨hc28_4, hc34_5⟩ a0_, fun _ _ => rfl, fun a0_ a1_ a2_ => absurd a1_ (fun q_ => q_.1 hc28_8), fun a0_ a1_ a2_ a3_ => absurd a1_ (fun q_ => q_.1 hc28_8), fun a0_ a1_ a2_ a3_ => absurd a1_ (fun q_ => q_.1 hc28_8)⟩⟩
     · skip
       refine sp_ (fun t_ k_ => XS.icmpNo X7.here hx rfl (B_ dk280) rfl (flt hc28_8).1 k_) ?_
       show Go_ T7 (mkF mm_ 31 #[vr a, vi 1, vi c1] [])
       refine sp_ (fun t_ k_ => XS.iloadN X7.here hx rfl (B_ dk283) rfl  (XS.bipush X7.here hx rfl (B_ dk284) k_)) ?_
       show Go_ T7 (mkF mm_ 34 #[vr a, vi 1, vi c1] [(.int 57), (.int c1)])
       by_cases hc34_9 : (57 : Int32) < c1
       · skip
         refine sp_ (fun t_ k_ => XS.icmpNo X7.here hx rfl (B_ dk285) rfl (tlt hc34_9).2.2.2 k_) ?_
         show Go_ T7 (mkF mm_ 37 #[vr a, vi 1, vi c1] [])
         refine sp_ (fun t_ k_ => XS.iconst X7.here hx rfl (B_ dk281) k_) ?_
         show Go_ T7 (mkF mm_ 38 #[vr a, vi 1, vi c1] [(.int 0)])
         obtain ⟨fs, hr, hrun, hended, hW, hsame⟩ := X7.leave (v := some (.int 0)) (rN Bd.returns)
         refine ⟨_, _, ?_, hrun, hended, _, _, rfl, ?_, ⟨_, rfl⟩, hW, hsame.mono (by decide) (by decide)⟩
         · exact retN X7 hx (t := .boolean) Bd.returns (by simp) (B_ dk282) hr
         · show QrmDl4 Z a t c0 c1 c2 c3 h0 n0 (some (.int 0)) T7.heap _
           rw [Eh7]
           exact ⟨(0 : Int32), rfl, rfl, rfl, ⟨fun a0_ => absurd ⟨hc28_4, hc34_5⟩ a0_, fun _ _ => rfl, fun a0_ a1_ a2_ => absurd a1_ (fun q_ => q_.2 hc34_9), fun a0_ a1_ a2_ a3_ => absurd a1_ (fun q_ => q_.2 hc34_9), fun a0_ a1_ a2_ a3_ => absurd a1_ (fun q_ => q_.2 hc34_9)⟩⟩
       · skip
         refine sp_ (fun t_ k_ => XS.icmpYes X7.here hx rfl (pc0 := 34) (pc' := 39) rfl (B_ dk285) rfl (flt hc34_9).2.2.2 (by decide) (by decide) k_) ?_
         show Go_ T7 (mkF mm_ 39 #[vr a, vi 1, vi c1] [])
         refine sp_ (fun t_ k_ => XS.iinc X7.here hx rfl (B_ dk286) rfl (l' := #[vr a, vi 2, vi c1]) rfl (XS.goto X7.here hx rfl (pc0 := 42) (pc' := 11) rfl (B_ dk287) (by decide) (by decide) (XS.iloadN X7.here hx rfl (B_ dk270) rfl  (XS.aloadN X7.here hx rfl (B_ dk271) rfl rfl k_)))) ?_
         obtain ⟨_, T10, Lc10, X10, hQ10, st10⟩ := own_cV X7 hx hZ hown (w_ hw 52 rfl) (w_ hw 53 rfl) (notFace_of_selects (args := #[]) (mvT hZ (w_ hw 55 rfl))) (w_ hw 55 rfl) (w_ hw 54 rfl) (by decide) (own_lenS (W := 1) hZ hw pr0 (G_cs.ext O0.2) G_cs0 (by decide) (by decide)) pr0.1 (g := (mkF mm_ 13 #[vr a, vi 2, vi c1] [(.ref a), (.int 2)])) rfl hml.symm (argsL := []) (rest := [(.int 2)]) (lenOf pd_14 rfl) rfl (Nat.le_of_eq rfl) (B_ dk272) rfl Eh7 (by decide) (by decide)
         obtain ⟨rfl, rfl, Eh10⟩ := hQ10
         have N10 := Fr.app N7 (Fr.nil n0)
         refine jp_ st10 ?_
         show Go_ T10 (mkF mm_ 16 #[vr a, vi 2, vi c1] [(.int 4), (.int 2)])
         refine sp_ (fun t_ k_ => XS.icmpNo X10.here hx rfl (B_ dk273) rfl (tlt (by decide : (2 : Int32) < (4 : Int32))).2.1 k_) ?_
         show Go_ T10 (mkF mm_ 19 #[vr a, vi 2, vi c1] [])
         refine sp_ (fun t_ k_ => XS.aloadN X10.here hx rfl (B_ dk274) rfl rfl (XS.iloadN X10.here hx rfl (B_ dk275) rfl  k_)) ?_
         obtain ⟨_, T11, Lc11, X11, hQ11, st11⟩ := own_cV X10 hx hZ hown (w_ hw 62 rfl) (w_ hw 63 rfl) (notFace_of_selects (args := #[]) (mvT hZ (w_ hw 65 rfl))) (w_ hw 65 rfl) (w_ hw 64 rfl) (by decide) (own_chS (W := 0) hZ hw pr0 (G_cs.ext O0.2) G_cs0 (G_fm.ext O0.2) G_fr (i := 2) (Nat.le_of_ble_eq_true rfl) (j := (2 : Int32)) rfl (by decide) (by decide)) pr0.1 (g := (mkF mm_ 21 #[vr a, vi 2, vi c1] [(.int 2), (.ref a)])) rfl hml.symm (argsL := [(.int 2)]) (rest := []) (lenOf pd_15 rfl) rfl (Nat.le_of_eq rfl) (B_ dk276) rfl Eh10 (by decide) (by decide)
         obtain ⟨rfl, rfl, Eh11⟩ := hQ11
         have N11 := Fr.app N10 (Fr.nil n0)
         refine jp_ st11 ?_
         show Go_ T11 (mkF mm_ 24 #[vr a, vi 2, vi c1] [(.int c2)])
         refine sp_ (fun t_ k_ => XS.istoreN X11.here hx rfl (B_ dk277) rfl (l' := #[vr a, vi 2, vi c2]) rfl (XS.iloadN X11.here hx rfl (B_ dk278) rfl  (XS.bipush X11.here hx rfl (B_ dk279) k_))) ?_
         show Go_ T11 (mkF mm_ 28 #[vr a, vi 2, vi c2] [(.int 48), (.int c2)])
         by_cases hc28_12 : c2 < (48 : Int32)
         · skip
           refine sp_ (fun t_ k_ => XS.icmpYes X11.here hx rfl (pc0 := 28) (pc' := 37) rfl (B_ dk280) rfl (tlt hc28_12).1 (by decide) (by decide) k_) ?_
           show Go_ T11 (mkF mm_ 37 #[vr a, vi 2, vi c2] [])
           refine sp_ (fun t_ k_ => XS.iconst X11.here hx rfl (B_ dk281) k_) ?_
           show Go_ T11 (mkF mm_ 38 #[vr a, vi 2, vi c2] [(.int 0)])
           obtain ⟨fs, hr, hrun, hended, hW, hsame⟩ := X11.leave (v := some (.int 0)) (rN Bd.returns)
           refine ⟨_, _, ?_, hrun, hended, _, _, rfl, ?_, ⟨_, rfl⟩, hW, hsame.mono (by decide) (by decide)⟩
           · exact retN X11 hx (t := .boolean) Bd.returns (by simp) (B_ dk282) hr
           · show QrmDl4 Z a t c0 c1 c2 c3 h0 n0 (some (.int 0)) T11.heap _
             rw [Eh11]
             exact ⟨(0 : Int32), rfl, rfl, rfl, ⟨fun a0_ => absurd ⟨hc28_4, hc34_5⟩ a0_, fun a0_ a1_ => absurd ⟨hc28_8, hc34_9⟩ a1_, fun _ _ _ => rfl, fun a0_ a1_ a2_ a3_ => absurd a2_ (fun q_ => q_.1 hc28_12), fun a0_ a1_ a2_ a3_ => absurd a2_ (fun q_ => q_.1 hc28_12)⟩⟩
         · skip
           refine sp_ (fun t_ k_ => XS.icmpNo X11.here hx rfl (B_ dk280) rfl (flt hc28_12).1 k_) ?_
           show Go_ T11 (mkF mm_ 31 #[vr a, vi 2, vi c2] [])
           refine sp_ (fun t_ k_ => XS.iloadN X11.here hx rfl (B_ dk283) rfl  (XS.bipush X11.here hx rfl (B_ dk284) k_)) ?_
           show Go_ T11 (mkF mm_ 34 #[vr a, vi 2, vi c2] [(.int 57), (.int c2)])
           by_cases hc34_13 : (57 : Int32) < c2
           · skip
             refine sp_ (fun t_ k_ => XS.icmpNo X11.here hx rfl (B_ dk285) rfl (tlt hc34_13).2.2.2 k_) ?_
             show Go_ T11 (mkF mm_ 37 #[vr a, vi 2, vi c2] [])
             refine sp_ (fun t_ k_ => XS.iconst X11.here hx rfl (B_ dk281) k_) ?_
             show Go_ T11 (mkF mm_ 38 #[vr a, vi 2, vi c2] [(.int 0)])
             obtain ⟨fs, hr, hrun, hended, hW, hsame⟩ := X11.leave (v := some (.int 0)) (rN Bd.returns)
             refine ⟨_, _, ?_, hrun, hended, _, _, rfl, ?_, ⟨_, rfl⟩, hW, hsame.mono (by decide) (by decide)⟩
             · exact retN X11 hx (t := .boolean) Bd.returns (by simp) (B_ dk282) hr
             · show QrmDl4 Z a t c0 c1 c2 c3 h0 n0 (some (.int 0)) T11.heap _
               rw [Eh11]
               exact ⟨(0 : Int32), rfl, rfl, rfl, ⟨fun a0_ => absurd ⟨hc28_4, hc34_5⟩ a0_, fun a0_ a1_ => absurd ⟨hc28_8, hc34_9⟩ a1_, fun _ _ _ => rfl, fun a0_ a1_ a2_ a3_ => absurd a2_ (fun q_ => q_.2 hc34_13), fun a0_ a1_ a2_ a3_ => absurd a2_ (fun q_ => q_.2 hc34_13)⟩⟩
           · skip
             refine sp_ (fun t_ k_ => XS.icmpYes X11.here hx rfl (pc0 := 34) (pc' := 39) rfl (B_ dk285) rfl (flt hc34_13).2.2.2 (by decide) (by decide) k_) ?_
             show Go_ T11 (mkF mm_ 39 #[vr a, vi 2, vi c2] [])
             refine sp_ (fun t_ k_ => XS.iinc X11.here hx rfl (B_ dk286) rfl (l' := #[vr a, vi 3, vi c2]) rfl (XS.goto X11.here hx rfl (pc0 := 42) (pc' := 11) rfl (B_ dk287) (by decide) (by decide) (XS.iloadN X11.here hx rfl (B_ dk270) rfl  (XS.aloadN X11.here hx rfl (B_ dk271) rfl rfl k_)))) ?_
             obtain ⟨_, T14, Lc14, X14, hQ14, st14⟩ := own_cV X11 hx hZ hown (w_ hw 52 rfl) (w_ hw 53 rfl) (notFace_of_selects (args := #[]) (mvT hZ (w_ hw 55 rfl))) (w_ hw 55 rfl) (w_ hw 54 rfl) (by decide) (own_lenS (W := 1) hZ hw pr0 (G_cs.ext O0.2) G_cs0 (by decide) (by decide)) pr0.1 (g := (mkF mm_ 13 #[vr a, vi 3, vi c2] [(.ref a), (.int 3)])) rfl hml.symm (argsL := []) (rest := [(.int 3)]) (lenOf pd_14 rfl) rfl (Nat.le_of_eq rfl) (B_ dk272) rfl Eh11 (by decide) (by decide)
             obtain ⟨rfl, rfl, Eh14⟩ := hQ14
             have N14 := Fr.app N11 (Fr.nil n0)
             refine jp_ st14 ?_
             show Go_ T14 (mkF mm_ 16 #[vr a, vi 3, vi c2] [(.int 4), (.int 3)])
             refine sp_ (fun t_ k_ => XS.icmpNo X14.here hx rfl (B_ dk273) rfl (tlt (by decide : (3 : Int32) < (4 : Int32))).2.1 k_) ?_
             show Go_ T14 (mkF mm_ 19 #[vr a, vi 3, vi c2] [])
             refine sp_ (fun t_ k_ => XS.aloadN X14.here hx rfl (B_ dk274) rfl rfl (XS.iloadN X14.here hx rfl (B_ dk275) rfl  k_)) ?_
             obtain ⟨_, T15, Lc15, X15, hQ15, st15⟩ := own_cV X14 hx hZ hown (w_ hw 62 rfl) (w_ hw 63 rfl) (notFace_of_selects (args := #[]) (mvT hZ (w_ hw 65 rfl))) (w_ hw 65 rfl) (w_ hw 64 rfl) (by decide) (own_chS (W := 0) hZ hw pr0 (G_cs.ext O0.2) G_cs0 (G_fm.ext O0.2) G_fr (i := 3) (Nat.le_of_ble_eq_true rfl) (j := (3 : Int32)) rfl (by decide) (by decide)) pr0.1 (g := (mkF mm_ 21 #[vr a, vi 3, vi c2] [(.int 3), (.ref a)])) rfl hml.symm (argsL := [(.int 3)]) (rest := []) (lenOf pd_15 rfl) rfl (Nat.le_of_eq rfl) (B_ dk276) rfl Eh14 (by decide) (by decide)
             obtain ⟨rfl, rfl, Eh15⟩ := hQ15
             have N15 := Fr.app N14 (Fr.nil n0)
             refine jp_ st15 ?_
             show Go_ T15 (mkF mm_ 24 #[vr a, vi 3, vi c2] [(.int c3)])
             refine sp_ (fun t_ k_ => XS.istoreN X15.here hx rfl (B_ dk277) rfl (l' := #[vr a, vi 3, vi c3]) rfl (XS.iloadN X15.here hx rfl (B_ dk278) rfl  (XS.bipush X15.here hx rfl (B_ dk279) k_))) ?_
             show Go_ T15 (mkF mm_ 28 #[vr a, vi 3, vi c3] [(.int 48), (.int c3)])
             by_cases hc28_16 : c3 < (48 : Int32)
             · skip
               refine sp_ (fun t_ k_ => XS.icmpYes X15.here hx rfl (pc0 := 28) (pc' := 37) rfl (B_ dk280) rfl (tlt hc28_16).1 (by decide) (by decide) k_) ?_
               show Go_ T15 (mkF mm_ 37 #[vr a, vi 3, vi c3] [])
               refine sp_ (fun t_ k_ => XS.iconst X15.here hx rfl (B_ dk281) k_) ?_
               show Go_ T15 (mkF mm_ 38 #[vr a, vi 3, vi c3] [(.int 0)])
               obtain ⟨fs, hr, hrun, hended, hW, hsame⟩ := X15.leave (v := some (.int 0)) (rN Bd.returns)
               refine ⟨_, _, ?_, hrun, hended, _, _, rfl, ?_, ⟨_, rfl⟩, hW, hsame.mono (by decide) (by decide)⟩
               · exact retN X15 hx (t := .boolean) Bd.returns (by simp) (B_ dk282) hr
               · show QrmDl4 Z a t c0 c1 c2 c3 h0 n0 (some (.int 0)) T15.heap _
                 rw [Eh15]
                 exact ⟨(0 : Int32), rfl, rfl, rfl, ⟨fun a0_ => absurd ⟨hc28_4, hc34_5⟩ a0_, fun a0_ a1_ => absurd ⟨hc28_8, hc34_9⟩ a1_, fun a0_ a1_ a2_ => absurd ⟨hc28_12, hc34_13⟩ a2_, fun _ _ _ _ => rfl, fun a0_ a1_ a2_ a3_ => absurd a3_ (fun q_ => q_.1 hc28_16)⟩⟩
             · skip
               refine sp_ (fun t_ k_ => XS.icmpNo X15.here hx rfl (B_ dk280) rfl (flt hc28_16).1 k_) ?_
               show Go_ T15 (mkF mm_ 31 #[vr a, vi 3, vi c3] [])
               refine sp_ (fun t_ k_ => XS.iloadN X15.here hx rfl (B_ dk283) rfl  (XS.bipush X15.here hx rfl (B_ dk284) k_)) ?_
               show Go_ T15 (mkF mm_ 34 #[vr a, vi 3, vi c3] [(.int 57), (.int c3)])
               by_cases hc34_17 : (57 : Int32) < c3
               · skip
                 refine sp_ (fun t_ k_ => XS.icmpNo X15.here hx rfl (B_ dk285) rfl (tlt hc34_17).2.2.2 k_) ?_
                 show Go_ T15 (mkF mm_ 37 #[vr a, vi 3, vi c3] [])
                 refine sp_ (fun t_ k_ => XS.iconst X15.here hx rfl (B_ dk281) k_) ?_
                 show Go_ T15 (mkF mm_ 38 #[vr a, vi 3, vi c3] [(.int 0)])
                 obtain ⟨fs, hr, hrun, hended, hW, hsame⟩ := X15.leave (v := some (.int 0)) (rN Bd.returns)
                 refine ⟨_, _, ?_, hrun, hended, _, _, rfl, ?_, ⟨_, rfl⟩, hW, hsame.mono (by decide) (by decide)⟩
                 · exact retN X15 hx (t := .boolean) Bd.returns (by simp) (B_ dk282) hr
                 · show QrmDl4 Z a t c0 c1 c2 c3 h0 n0 (some (.int 0)) T15.heap _
                   rw [Eh15]
                   exact ⟨(0 : Int32), rfl, rfl, rfl, ⟨fun a0_ => absurd ⟨hc28_4, hc34_5⟩ a0_, fun a0_ a1_ => absurd ⟨hc28_8, hc34_9⟩ a1_, fun a0_ a1_ a2_ => absurd ⟨hc28_12, hc34_13⟩ a2_, fun _ _ _ _ => rfl, fun a0_ a1_ a2_ a3_ => absurd a3_ (fun q_ => q_.2 hc34_17)⟩⟩
               · skip
                 refine sp_ (fun t_ k_ => XS.icmpYes X15.here hx rfl (pc0 := 34) (pc' := 39) rfl (B_ dk285) rfl (flt hc34_17).2.2.2 (by decide) (by decide) k_) ?_
                 show Go_ T15 (mkF mm_ 39 #[vr a, vi 3, vi c3] [])
                 refine sp_ (fun t_ k_ => XS.iinc X15.here hx rfl (B_ dk286) rfl (l' := #[vr a, vi 4, vi c3]) rfl (XS.goto X15.here hx rfl (pc0 := 42) (pc' := 11) rfl (B_ dk287) (by decide) (by decide) (XS.iloadN X15.here hx rfl (B_ dk270) rfl  (XS.aloadN X15.here hx rfl (B_ dk271) rfl rfl k_)))) ?_
                 obtain ⟨_, T18, Lc18, X18, hQ18, st18⟩ := own_cV X15 hx hZ hown (w_ hw 52 rfl) (w_ hw 53 rfl) (notFace_of_selects (args := #[]) (mvT hZ (w_ hw 55 rfl))) (w_ hw 55 rfl) (w_ hw 54 rfl) (by decide) (own_lenS (W := 1) hZ hw pr0 (G_cs.ext O0.2) G_cs0 (by decide) (by decide)) pr0.1 (g := (mkF mm_ 13 #[vr a, vi 4, vi c3] [(.ref a), (.int 4)])) rfl hml.symm (argsL := []) (rest := [(.int 4)]) (lenOf pd_14 rfl) rfl (Nat.le_of_eq rfl) (B_ dk272) rfl Eh15 (by decide) (by decide)
                 obtain ⟨rfl, rfl, Eh18⟩ := hQ18
                 have N18 := Fr.app N15 (Fr.nil n0)
                 refine jp_ st18 ?_
                 show Go_ T18 (mkF mm_ 16 #[vr a, vi 4, vi c3] [(.int 4), (.int 4)])
                 refine sp_ (fun t_ k_ => XS.icmpYes X18.here hx rfl (pc0 := 16) (pc' := 45) rfl (B_ dk273) rfl (flt (by decide : ¬ ((4 : Int32) < (4 : Int32)))).2.1 (by decide) (by decide) k_) ?_
                 show Go_ T18 (mkF mm_ 45 #[vr a, vi 4, vi c3] [])
                 refine sp_ (fun t_ k_ => XS.iconst X18.here hx rfl (B_ dk290) k_) ?_
                 show Go_ T18 (mkF mm_ 46 #[vr a, vi 4, vi c3] [(.int 1)])
                 obtain ⟨fs, hr, hrun, hended, hW, hsame⟩ := X18.leave (v := some (.int 1)) (rN Bd.returns)
                 refine ⟨_, _, ?_, hrun, hended, _, _, rfl, ?_, ⟨_, rfl⟩, hW, hsame.mono (by decide) (by decide)⟩
                 · exact retN X18 hx (t := .boolean) Bd.returns (by simp) (B_ dk291) hr
                 · show QrmDl4 Z a t c0 c1 c2 c3 h0 n0 (some (.int 1)) T18.heap _
                   rw [Eh18]
                   exact ⟨(1 : Int32), rfl, rfl, rfl, ⟨fun a0_ => absurd ⟨hc28_4, hc34_5⟩ a0_, fun a0_ a1_ => absurd ⟨hc28_8, hc34_9⟩ a1_, fun a0_ a1_ a2_ => absurd ⟨hc28_12, hc34_13⟩ a2_, fun a0_ a1_ a2_ a3_ => absurd ⟨hc28_16, hc34_17⟩ a3_, fun _ _ _ _ => rfl⟩⟩
theorem pd_16 : parseMethodDescriptor "(Ljava/lang/String;)Z" = some ⟨[(.object "java/lang/String")], some .boolean⟩ := by decide +kernel
theorem pd_17 : parseMethodDescriptor "([C)V" = some ⟨[(.array .char)], none⟩ := by decide +kernel
theorem pd_18 : parseMethodDescriptor "(C)Z" = some ⟨[.char], some .boolean⟩ := by decide +kernel
theorem ef_rm0 (mm_ : MethodId) (p1 : Int32) (p2 : Int32) (p3 : Int32) (p4 : Int32) (p5 : Int32) : entryFrame mm_ #[(.int p1), (.int p2), (.int p3), (.int p4), (.int p5)] maxLocals = (mkF mm_ 0 #[vi p1, vi p2, vi p3, vi p4, vi p5, un, un, un, un, un, un, un] []) := by first | (simp [entryFrame, mkF, argsToLocals, Value.category, maxLocals]; done) | rfl
def Qrm0 (Z : State) (p1 : Int32) (p2 : Int32) (p3 : Int32) (p4 : Int32) (p5 : Int32) (h0 : Heap) (n0 : Nat) (vv_ : Option Value) (hh_ : Heap) (LL_ : List Loc) : Prop := (vv_ = some (.int 1)) ∧ (Fr n0 LL_) ∧ (Keep h0 hh_ [])
theorem rm0 (l : Launch) (Z : State) (a0 : Array Value) (hw : own_Hw a0 Z) (ws : List Jvm.Cond) (p1 : Int32) (p2 : Int32) (p3 : Int32) (p4 : Int32) (p5 : Int32) {zc : Int32} {fm : Value} (h0 : Heap) (n0 : Nat) (O0 : Old Z n0 h0) (G_ : own_St Z zc fm) (hn0 : h0.size = n0) :
 MetFree l x (head1 (Jvm.Cond.code x code maxLocals ret :: ws) room_1) (fun aa_ UU_ => aa_ = #[(.int p1), (.int p2), (.int p3), (.int p4), (.int p5)] ∧ Z.Warmed39 UU_.vm ∧ UU_.heap = h0 ∧ (IB Z UU_.vm [])) (fun _ _ _ _ _ => True) (fun _ UU_ oo_ UV_ => ∃ vv_ LL_, oo_ = .returned vv_ ∧ Qrm0 Z p1 p2 p3 p4 p5 h0 n0 vv_ UV_.heap LL_ ∧ IB Z UV_.vm [""] ∧ ReturnedEndW UU_ oo_ UV_ LL_ room_1.cells room_1.slots) := by
 refine MetFree.of_bodySF (plainFor_of_name pn_com_example_malipo_malipo_core_intake_DecimalTextIsDigitsPinLaw) hisR ?_
 intro pp_ ee_ ss_ mm_ args_ bb_ me_ cc_ s₁ Bd hml0 hP hK
 obtain ⟨rfl, hZ, hh, hI⟩ := hP
 have hx := Bd.exec
 have hby := Bd.bytes; have B_ {q_ : Nat} {r_ : _} (h_ : decode _ q_ = r_) := hb hby h_
 have hml : cc_.maxLocals = 12 := hml0
 have hown : ss_.vm.findClass sc2 = some mm_.cls := findClass_of_methodNamed Bd.named
 have hnm := (name_of_methodNamed Bd.named Bd.method).1
 have X0 : Stand pp_ l ee_ room_1 ss_ mm_ #[(.int p1), (.int p2), (.int p3), (.int p4), (.int p5)] bb_ me_ cc_ s₁ [] 0 0 := Stand.of_body Bd
 have e0 : s₁.heap = h0 := by rw [← hh, Bd.state]; rfl
 have N0 := Fr.nil n0
 have X0 : Stand pp_ l ee_ _ (ss_.setVm ss_.vm) mm_ _ bb_ me_ cc_ s₁ [] 0 0 := X0
 have hZ : Z.Warmed39 (ss_.setVm ss_.vm).vm := hZ
 have hown : (ss_.setVm ss_.vm).vm.findClass sc2 = some mm_.cls := hown
 have hS0 : ss_.Since ss_.vm 0 := (State.WarmedH.refl ss_).since 0
 have hkeep_ : ∀ (b : Addr) (cl : Cell), Z.heap[b]? = some cl → ss_.heap[b]? = some cl := by rw [hh]; exact O0.2.2
 have own_atoms_ : ∀ a ∈ Bundle.stringAtoms, a.before a0 Z = true := fun d hd => hw d ((by decide +kernel : ∀ d ∈ Bundle.stringAtoms, d ∈ tables_1) d hd)
 show own_Go pp_ ee_ bb_ _ s₁ (entryFrame mm_ #[(.int p1), (.int p2), (.int p3), (.int p4), (.int p5)] maxLocals)
 refine own_cast (ef_rm0 mm_ p1 p2 p3 p4 p5) ?_
 have Z0 : n0 ≤ h0.size := by have q := O0.2.1; rw [O0.1] at q; exact q
 have K0 : Keep h0 h0 [] := Keep.refl _ _
 obtain ⟨G_cs, G_cs0, G_cw, G_h_java_lang_String_7, G_fm, G_fr, G_hb, G_lb, G_ad⟩ := id G_
 have own_cw_ : Jvm.Lit.compactW.before a0 Z = true := G_cw
 have seg_w1 : ∀ (Ts_ : State) (locs_ : List Loc) (hs_ : Heap) (nn : Int32) (c0 : Int32) (c1 : Int32) (c2 : Int32) (c3 : Int32) (a : Addr) (t : Addr) (k : ClassId) (vms_ : Vm) (ks_ : Nat) (Xs_ : Stand pp_ l ee_ room_1 (ss_.setVm vms_) mm_ #[(.int p1), (.int p2), (.int p3), (.int p4), (.int p5)] bb_ me_ cc_ Ts_ locs_ 20 1100) (es_ : Ts_.heap = hs_) (Ns_ : Fr n0 locs_) (Ks_ : Keep h0 hs_ []) (Os_ : Old Z n0 hs_) (hSs_ : ss_.Since vms_ ks_) (hks_ : ks_ ≤ hs_.size) (hZs_ : Z.Warmed39 (ss_.setVm vms_).vm) (howns_ : (ss_.setVm vms_).vm.findClass sc2 = some mm_.cls) (Is_ : IB Z vms_ []) (sp0_ : Exa Z hs_ a sc0) (sp1_ : Fld Z hs_ a sc0 "coder" "B" (.int 1)) (sp2_ : Fld Z hs_ a sc0 "value" "[B" (.ref t)) (sp3_ : Arv Z hs_ t k .byte (2 : Int32) [(lb c0), (hb_ c0)] (.int 0)) (hc_c0 : ¬ c0 < (0 : Int32) ∧ ¬ (65535 : Int32) < c0) (hW : (255 : Int32) < c0), own_Go pp_ ee_ bb_ (fun s₂ oo_ => s₂.status = .running ∧ Ended s₂ bb_ oo_ ∧ (∃ vv_ LL_, oo_ = .returned vv_ ∧ Qrm0 Z p1 p2 p3 p4 p5 h0 n0 vv_ s₂.heap LL_ ∧ IB Z s₂.vm [""] ∧ ReturnedEndW ss_ oo_ s₂ LL_ room_1.cells room_1.slots)) Ts_ (mkF mm_ 281 #[vi p1, vi p2, vi p3, vi p4, vi p5, vi nn, vi c0, vi c1, vi c2, vi c3, vr a, vi 0] []) := by
  intro Ts_ locs_ hs_ nn c0 c1 c2 c3 a t k vms_ ks_ Xs_ es_ Ns_ Ks_ Os_ hSs_ hks_ hZs_ howns_ Is_ sp0_ sp1_ sp2_ sp3_ hc_c0 hW
  show Go_ Ts_ (mkF mm_ 281 #[vi p1, vi p2, vi p3, vi p4, vi p5, vi nn, vi c0, vi c1, vi c2, vi c3, vr a, vi 0] [])
  refine sp_ (fun t_ k_ => XS.aload Xs_.here hx rfl (B_ at_281) rfl rfl k_) ?_
  obtain ⟨_, T1, Lc1, X1, hQ1, st1⟩ := own_cS Xs_ hx hZs_ howns_ (w_ hw 29 rfl) (w_ hw 30 rfl) (w_ hw 31 rfl) (w_ hw 32 rfl) (by decide) (backOf (W := 0) (rmDw1 l Z a0 hw [] a t k c0 hs_ n0 Os_ G_ sp0_ sp1_ sp2_ sp3_ hc_c0 hW) hZs_ (w_ hw 32 rfl) (w_ hw 31 rfl) (by decide) (by decide)) (g := (mkF mm_ 283 #[vi p1, vi p2, vi p3, vi p4, vi p5, vi nn, vi c0, vi c1, vi c2, vi c3, vr a, vi 0] [(.ref a)])) rfl hml.symm (argsL := [(.ref a)]) (rest := []) (lenOf pd_16 rfl) rfl (Nat.le_of_eq rfl) (B_ at_283) rfl es_ (by decide) (by decide)
  obtain ⟨rfl, rfl, Eh1⟩ := hQ1
  have N1 := Fr.app Ns_ (Fr.nil n0)
  refine jp_ st1 ?_
  show Go_ T1 (mkF mm_ 286 #[vi p1, vi p2, vi p3, vi p4, vi p5, vi nn, vi c0, vi c1, vi c2, vi c3, vr a, vi 0] [(.int 0)])
  refine sp_ (fun t_ k_ => XS.iload X1.here hx rfl (B_ at_286) rfl  k_) ?_
  show Go_ T1 (mkF mm_ 288 #[vi p1, vi p2, vi p3, vi p4, vi p5, vi nn, vi c0, vi c1, vi c2, vi c3, vr a, vi 0] [(.int 0), (.int 0)])
  refine sp_ (fun t_ k_ => XS.icmpNo X1.here hx rfl (B_ at_288) rfl (teq (by decide : (0 : Int32) = (0 : Int32))).2 k_) ?_
  show Go_ T1 (mkF mm_ 291 #[vi p1, vi p2, vi p3, vi p4, vi p5, vi nn, vi c0, vi c1, vi c2, vi c3, vr a, vi 0] [])
  refine sp_ (fun t_ k_ => XS.iconst X1.here hx rfl (B_ at_291) (XS.goto X1.here hx rfl (pc0 := 292) (pc' := 296) rfl (B_ at_292) (by decide) (by decide) k_)) ?_
  show Go_ T1 (mkF mm_ 296 #[vi p1, vi p2, vi p3, vi p4, vi p5, vi nn, vi c0, vi c1, vi c2, vi c3, vr a, vi 0] [(.int 1)])
  obtain ⟨fs, hr, hrun, hended, hEnd⟩ := X1.leaveW hSs_ (by rw [Eh1]; exact hks_) (v := some (.int 1)) (rN Bd.returns)
  refine ⟨_, _, ?_, hrun, hended, _, _, rfl, ?_, own_IB_mono (own_IB_warm Is_ X1.warmed) (by intro t_ h_; first | exact h_ | exact List.mem_cons_of_mem _ h_ | (revert t_ h_; decide)), own_endMono hEnd (by decide) (by decide)⟩
  · exact retN X1 hx (t := .boolean) Bd.returns (by simp) (B_ at_296) hr
  · show Qrm0 Z p1 p2 p3 p4 p5 h0 n0 (some (.int 1)) T1.heap _
    rw [Eh1]
    exact ⟨rfl, N1, Ks_⟩
 have seg_w2 : ∀ (Ts_ : State) (locs_ : List Loc) (hs_ : Heap) (nn : Int32) (c0 : Int32) (c1 : Int32) (c2 : Int32) (c3 : Int32) (a : Addr) (t : Addr) (k : ClassId) (vms_ : Vm) (ks_ : Nat) (Xs_ : Stand pp_ l ee_ room_1 (ss_.setVm vms_) mm_ #[(.int p1), (.int p2), (.int p3), (.int p4), (.int p5)] bb_ me_ cc_ Ts_ locs_ 20 1100) (es_ : Ts_.heap = hs_) (Ns_ : Fr n0 locs_) (Ks_ : Keep h0 hs_ []) (Os_ : Old Z n0 hs_) (hSs_ : ss_.Since vms_ ks_) (hks_ : ks_ ≤ hs_.size) (hZs_ : Z.Warmed39 (ss_.setVm vms_).vm) (howns_ : (ss_.setVm vms_).vm.findClass sc2 = some mm_.cls) (Is_ : IB Z vms_ []) (sp0_ : Exa Z hs_ a sc0) (sp1_ : Fld Z hs_ a sc0 "coder" "B" (.int 1)) (sp2_ : Fld Z hs_ a sc0 "value" "[B" (.ref t)) (sp3_ : Arv Z hs_ t k .byte (4 : Int32) [(lb c0), (hb_ c0), (lb c1), (hb_ c1)] (.int 0)) (hc_c0 : ¬ c0 < (0 : Int32) ∧ ¬ (65535 : Int32) < c0) (hc_c1 : ¬ c1 < (0 : Int32) ∧ ¬ (65535 : Int32) < c1) (hW : (255 : Int32) < c0 ∨ (255 : Int32) < c1), own_Go pp_ ee_ bb_ (fun s₂ oo_ => s₂.status = .running ∧ Ended s₂ bb_ oo_ ∧ (∃ vv_ LL_, oo_ = .returned vv_ ∧ Qrm0 Z p1 p2 p3 p4 p5 h0 n0 vv_ s₂.heap LL_ ∧ IB Z s₂.vm [""] ∧ ReturnedEndW ss_ oo_ s₂ LL_ room_1.cells room_1.slots)) Ts_ (mkF mm_ 281 #[vi p1, vi p2, vi p3, vi p4, vi p5, vi nn, vi c0, vi c1, vi c2, vi c3, vr a, vi 0] []) := by
  intro Ts_ locs_ hs_ nn c0 c1 c2 c3 a t k vms_ ks_ Xs_ es_ Ns_ Ks_ Os_ hSs_ hks_ hZs_ howns_ Is_ sp0_ sp1_ sp2_ sp3_ hc_c0 hc_c1 hW
  show Go_ Ts_ (mkF mm_ 281 #[vi p1, vi p2, vi p3, vi p4, vi p5, vi nn, vi c0, vi c1, vi c2, vi c3, vr a, vi 0] [])
  refine sp_ (fun t_ k_ => XS.aload Xs_.here hx rfl (B_ at_281) rfl rfl k_) ?_
  obtain ⟨_, T2, Lc2, X2, hQ2, st2⟩ := own_cS Xs_ hx hZs_ howns_ (w_ hw 29 rfl) (w_ hw 30 rfl) (w_ hw 31 rfl) (w_ hw 32 rfl) (by decide) (backOf (W := 0) (rmDw2 l Z a0 hw [] a t k c0 c1 hs_ n0 Os_ G_ sp0_ sp1_ sp2_ sp3_ hc_c0 hc_c1 hW) hZs_ (w_ hw 32 rfl) (w_ hw 31 rfl) (by decide) (by decide)) (g := (mkF mm_ 283 #[vi p1, vi p2, vi p3, vi p4, vi p5, vi nn, vi c0, vi c1, vi c2, vi c3, vr a, vi 0] [(.ref a)])) rfl hml.symm (argsL := [(.ref a)]) (rest := []) (lenOf pd_16 rfl) rfl (Nat.le_of_eq rfl) (B_ at_283) rfl es_ (by decide) (by decide)
  obtain ⟨rfl, rfl, Eh2⟩ := hQ2
  have N2 := Fr.app Ns_ (Fr.nil n0)
  refine jp_ st2 ?_
  show Go_ T2 (mkF mm_ 286 #[vi p1, vi p2, vi p3, vi p4, vi p5, vi nn, vi c0, vi c1, vi c2, vi c3, vr a, vi 0] [(.int 0)])
  refine sp_ (fun t_ k_ => XS.iload X2.here hx rfl (B_ at_286) rfl  k_) ?_
  show Go_ T2 (mkF mm_ 288 #[vi p1, vi p2, vi p3, vi p4, vi p5, vi nn, vi c0, vi c1, vi c2, vi c3, vr a, vi 0] [(.int 0), (.int 0)])
  refine sp_ (fun t_ k_ => XS.icmpNo X2.here hx rfl (B_ at_288) rfl (teq (by decide : (0 : Int32) = (0 : Int32))).2 k_) ?_
  show Go_ T2 (mkF mm_ 291 #[vi p1, vi p2, vi p3, vi p4, vi p5, vi nn, vi c0, vi c1, vi c2, vi c3, vr a, vi 0] [])
  refine sp_ (fun t_ k_ => XS.iconst X2.here hx rfl (B_ at_291) (XS.goto X2.here hx rfl (pc0 := 292) (pc' := 296) rfl (B_ at_292) (by decide) (by decide) k_)) ?_
  show Go_ T2 (mkF mm_ 296 #[vi p1, vi p2, vi p3, vi p4, vi p5, vi nn, vi c0, vi c1, vi c2, vi c3, vr a, vi 0] [(.int 1)])
  obtain ⟨fs, hr, hrun, hended, hEnd⟩ := X2.leaveW hSs_ (by rw [Eh2]; exact hks_) (v := some (.int 1)) (rN Bd.returns)
  refine ⟨_, _, ?_, hrun, hended, _, _, rfl, ?_, own_IB_mono (own_IB_warm Is_ X2.warmed) (by intro t_ h_; first | exact h_ | exact List.mem_cons_of_mem _ h_ | (revert t_ h_; decide)), own_endMono hEnd (by decide) (by decide)⟩
  · exact retN X2 hx (t := .boolean) Bd.returns (by simp) (B_ at_296) hr
  · show Qrm0 Z p1 p2 p3 p4 p5 h0 n0 (some (.int 1)) T2.heap _
    rw [Eh2]
    exact ⟨rfl, N2, Ks_⟩
 have seg_w3 : ∀ (Ts_ : State) (locs_ : List Loc) (hs_ : Heap) (nn : Int32) (c0 : Int32) (c1 : Int32) (c2 : Int32) (c3 : Int32) (a : Addr) (t : Addr) (k : ClassId) (vms_ : Vm) (ks_ : Nat) (Xs_ : Stand pp_ l ee_ room_1 (ss_.setVm vms_) mm_ #[(.int p1), (.int p2), (.int p3), (.int p4), (.int p5)] bb_ me_ cc_ Ts_ locs_ 20 1100) (es_ : Ts_.heap = hs_) (Ns_ : Fr n0 locs_) (Ks_ : Keep h0 hs_ []) (Os_ : Old Z n0 hs_) (hSs_ : ss_.Since vms_ ks_) (hks_ : ks_ ≤ hs_.size) (hZs_ : Z.Warmed39 (ss_.setVm vms_).vm) (howns_ : (ss_.setVm vms_).vm.findClass sc2 = some mm_.cls) (Is_ : IB Z vms_ []) (sp0_ : Exa Z hs_ a sc0) (sp1_ : Fld Z hs_ a sc0 "coder" "B" (.int 1)) (sp2_ : Fld Z hs_ a sc0 "value" "[B" (.ref t)) (sp3_ : Arv Z hs_ t k .byte (6 : Int32) [(lb c0), (hb_ c0), (lb c1), (hb_ c1), (lb c2), (hb_ c2)] (.int 0)) (hc_c0 : ¬ c0 < (0 : Int32) ∧ ¬ (65535 : Int32) < c0) (hc_c1 : ¬ c1 < (0 : Int32) ∧ ¬ (65535 : Int32) < c1) (hc_c2 : ¬ c2 < (0 : Int32) ∧ ¬ (65535 : Int32) < c2) (hW : (255 : Int32) < c0 ∨ (255 : Int32) < c1 ∨ (255 : Int32) < c2), own_Go pp_ ee_ bb_ (fun s₂ oo_ => s₂.status = .running ∧ Ended s₂ bb_ oo_ ∧ (∃ vv_ LL_, oo_ = .returned vv_ ∧ Qrm0 Z p1 p2 p3 p4 p5 h0 n0 vv_ s₂.heap LL_ ∧ IB Z s₂.vm [""] ∧ ReturnedEndW ss_ oo_ s₂ LL_ room_1.cells room_1.slots)) Ts_ (mkF mm_ 281 #[vi p1, vi p2, vi p3, vi p4, vi p5, vi nn, vi c0, vi c1, vi c2, vi c3, vr a, vi 0] []) := by
  intro Ts_ locs_ hs_ nn c0 c1 c2 c3 a t k vms_ ks_ Xs_ es_ Ns_ Ks_ Os_ hSs_ hks_ hZs_ howns_ Is_ sp0_ sp1_ sp2_ sp3_ hc_c0 hc_c1 hc_c2 hW
  show Go_ Ts_ (mkF mm_ 281 #[vi p1, vi p2, vi p3, vi p4, vi p5, vi nn, vi c0, vi c1, vi c2, vi c3, vr a, vi 0] [])
  refine sp_ (fun t_ k_ => XS.aload Xs_.here hx rfl (B_ at_281) rfl rfl k_) ?_
  obtain ⟨_, T3, Lc3, X3, hQ3, st3⟩ := own_cS Xs_ hx hZs_ howns_ (w_ hw 29 rfl) (w_ hw 30 rfl) (w_ hw 31 rfl) (w_ hw 32 rfl) (by decide) (backOf (W := 0) (rmDw3 l Z a0 hw [] a t k c0 c1 c2 hs_ n0 Os_ G_ sp0_ sp1_ sp2_ sp3_ hc_c0 hc_c1 hc_c2 hW) hZs_ (w_ hw 32 rfl) (w_ hw 31 rfl) (by decide) (by decide)) (g := (mkF mm_ 283 #[vi p1, vi p2, vi p3, vi p4, vi p5, vi nn, vi c0, vi c1, vi c2, vi c3, vr a, vi 0] [(.ref a)])) rfl hml.symm (argsL := [(.ref a)]) (rest := []) (lenOf pd_16 rfl) rfl (Nat.le_of_eq rfl) (B_ at_283) rfl es_ (by decide) (by decide)
  obtain ⟨rfl, rfl, Eh3⟩ := hQ3
  have N3 := Fr.app Ns_ (Fr.nil n0)
  refine jp_ st3 ?_
  show Go_ T3 (mkF mm_ 286 #[vi p1, vi p2, vi p3, vi p4, vi p5, vi nn, vi c0, vi c1, vi c2, vi c3, vr a, vi 0] [(.int 0)])
  refine sp_ (fun t_ k_ => XS.iload X3.here hx rfl (B_ at_286) rfl  k_) ?_
  show Go_ T3 (mkF mm_ 288 #[vi p1, vi p2, vi p3, vi p4, vi p5, vi nn, vi c0, vi c1, vi c2, vi c3, vr a, vi 0] [(.int 0), (.int 0)])
  refine sp_ (fun t_ k_ => XS.icmpNo X3.here hx rfl (B_ at_288) rfl (teq (by decide : (0 : Int32) = (0 : Int32))).2 k_) ?_
  show Go_ T3 (mkF mm_ 291 #[vi p1, vi p2, vi p3, vi p4, vi p5, vi nn, vi c0, vi c1, vi c2, vi c3, vr a, vi 0] [])
  refine sp_ (fun t_ k_ => XS.iconst X3.here hx rfl (B_ at_291) (XS.goto X3.here hx rfl (pc0 := 292) (pc' := 296) rfl (B_ at_292) (by decide) (by decide) k_)) ?_
  show Go_ T3 (mkF mm_ 296 #[vi p1, vi p2, vi p3, vi p4, vi p5, vi nn, vi c0, vi c1, vi c2, vi c3, vr a, vi 0] [(.int 1)])
  obtain ⟨fs, hr, hrun, hended, hEnd⟩ := X3.leaveW hSs_ (by rw [Eh3]; exact hks_) (v := some (.int 1)) (rN Bd.returns)
  refine ⟨_, _, ?_, hrun, hended, _, _, rfl, ?_, own_IB_mono (own_IB_warm Is_ X3.warmed) (by intro t_ h_; first | exact h_ | exact List.mem_cons_of_mem _ h_ | (revert t_ h_; decide)), own_endMono hEnd (by decide) (by decide)⟩
  · exact retN X3 hx (t := .boolean) Bd.returns (by simp) (B_ at_296) hr
  · show Qrm0 Z p1 p2 p3 p4 p5 h0 n0 (some (.int 1)) T3.heap _
    rw [Eh3]
    exact ⟨rfl, N3, Ks_⟩
 have seg_w4 : ∀ (Ts_ : State) (locs_ : List Loc) (hs_ : Heap) (nn : Int32) (c0 : Int32) (c1 : Int32) (c2 : Int32) (c3 : Int32) (a : Addr) (t : Addr) (k : ClassId) (vms_ : Vm) (ks_ : Nat) (Xs_ : Stand pp_ l ee_ room_1 (ss_.setVm vms_) mm_ #[(.int p1), (.int p2), (.int p3), (.int p4), (.int p5)] bb_ me_ cc_ Ts_ locs_ 20 1100) (es_ : Ts_.heap = hs_) (Ns_ : Fr n0 locs_) (Ks_ : Keep h0 hs_ []) (Os_ : Old Z n0 hs_) (hSs_ : ss_.Since vms_ ks_) (hks_ : ks_ ≤ hs_.size) (hZs_ : Z.Warmed39 (ss_.setVm vms_).vm) (howns_ : (ss_.setVm vms_).vm.findClass sc2 = some mm_.cls) (Is_ : IB Z vms_ []) (sp0_ : Exa Z hs_ a sc0) (sp1_ : Fld Z hs_ a sc0 "coder" "B" (.int 1)) (sp2_ : Fld Z hs_ a sc0 "value" "[B" (.ref t)) (sp3_ : Arv Z hs_ t k .byte (8 : Int32) [(lb c0), (hb_ c0), (lb c1), (hb_ c1), (lb c2), (hb_ c2), (lb c3), (hb_ c3)] (.int 0)) (hc_c0 : ¬ c0 < (0 : Int32) ∧ ¬ (65535 : Int32) < c0) (hc_c1 : ¬ c1 < (0 : Int32) ∧ ¬ (65535 : Int32) < c1) (hc_c2 : ¬ c2 < (0 : Int32) ∧ ¬ (65535 : Int32) < c2) (hc_c3 : ¬ c3 < (0 : Int32) ∧ ¬ (65535 : Int32) < c3) (hW : (255 : Int32) < c0 ∨ (255 : Int32) < c1 ∨ (255 : Int32) < c2 ∨ (255 : Int32) < c3), own_Go pp_ ee_ bb_ (fun s₂ oo_ => s₂.status = .running ∧ Ended s₂ bb_ oo_ ∧ (∃ vv_ LL_, oo_ = .returned vv_ ∧ Qrm0 Z p1 p2 p3 p4 p5 h0 n0 vv_ s₂.heap LL_ ∧ IB Z s₂.vm [""] ∧ ReturnedEndW ss_ oo_ s₂ LL_ room_1.cells room_1.slots)) Ts_ (mkF mm_ 281 #[vi p1, vi p2, vi p3, vi p4, vi p5, vi nn, vi c0, vi c1, vi c2, vi c3, vr a, vi 0] []) := by
  intro Ts_ locs_ hs_ nn c0 c1 c2 c3 a t k vms_ ks_ Xs_ es_ Ns_ Ks_ Os_ hSs_ hks_ hZs_ howns_ Is_ sp0_ sp1_ sp2_ sp3_ hc_c0 hc_c1 hc_c2 hc_c3 hW
  show Go_ Ts_ (mkF mm_ 281 #[vi p1, vi p2, vi p3, vi p4, vi p5, vi nn, vi c0, vi c1, vi c2, vi c3, vr a, vi 0] [])
  refine sp_ (fun t_ k_ => XS.aload Xs_.here hx rfl (B_ at_281) rfl rfl k_) ?_
  obtain ⟨_, T4, Lc4, X4, hQ4, st4⟩ := own_cS Xs_ hx hZs_ howns_ (w_ hw 29 rfl) (w_ hw 30 rfl) (w_ hw 31 rfl) (w_ hw 32 rfl) (by decide) (backOf (W := 0) (rmDw4 l Z a0 hw [] a t k c0 c1 c2 c3 hs_ n0 Os_ G_ sp0_ sp1_ sp2_ sp3_ hc_c0 hc_c1 hc_c2 hc_c3 hW) hZs_ (w_ hw 32 rfl) (w_ hw 31 rfl) (by decide) (by decide)) (g := (mkF mm_ 283 #[vi p1, vi p2, vi p3, vi p4, vi p5, vi nn, vi c0, vi c1, vi c2, vi c3, vr a, vi 0] [(.ref a)])) rfl hml.symm (argsL := [(.ref a)]) (rest := []) (lenOf pd_16 rfl) rfl (Nat.le_of_eq rfl) (B_ at_283) rfl es_ (by decide) (by decide)
  obtain ⟨rfl, rfl, Eh4⟩ := hQ4
  have N4 := Fr.app Ns_ (Fr.nil n0)
  refine jp_ st4 ?_
  show Go_ T4 (mkF mm_ 286 #[vi p1, vi p2, vi p3, vi p4, vi p5, vi nn, vi c0, vi c1, vi c2, vi c3, vr a, vi 0] [(.int 0)])
  refine sp_ (fun t_ k_ => XS.iload X4.here hx rfl (B_ at_286) rfl  k_) ?_
  show Go_ T4 (mkF mm_ 288 #[vi p1, vi p2, vi p3, vi p4, vi p5, vi nn, vi c0, vi c1, vi c2, vi c3, vr a, vi 0] [(.int 0), (.int 0)])
  refine sp_ (fun t_ k_ => XS.icmpNo X4.here hx rfl (B_ at_288) rfl (teq (by decide : (0 : Int32) = (0 : Int32))).2 k_) ?_
  show Go_ T4 (mkF mm_ 291 #[vi p1, vi p2, vi p3, vi p4, vi p5, vi nn, vi c0, vi c1, vi c2, vi c3, vr a, vi 0] [])
  refine sp_ (fun t_ k_ => XS.iconst X4.here hx rfl (B_ at_291) (XS.goto X4.here hx rfl (pc0 := 292) (pc' := 296) rfl (B_ at_292) (by decide) (by decide) k_)) ?_
  show Go_ T4 (mkF mm_ 296 #[vi p1, vi p2, vi p3, vi p4, vi p5, vi nn, vi c0, vi c1, vi c2, vi c3, vr a, vi 0] [(.int 1)])
  obtain ⟨fs, hr, hrun, hended, hEnd⟩ := X4.leaveW hSs_ (by rw [Eh4]; exact hks_) (v := some (.int 1)) (rN Bd.returns)
  refine ⟨_, _, ?_, hrun, hended, _, _, rfl, ?_, own_IB_mono (own_IB_warm Is_ X4.warmed) (by intro t_ h_; first | exact h_ | exact List.mem_cons_of_mem _ h_ | (revert t_ h_; decide)), own_endMono hEnd (by decide) (by decide)⟩
  · exact retN X4 hx (t := .boolean) Bd.returns (by simp) (B_ at_296) hr
  · show Qrm0 Z p1 p2 p3 p4 p5 h0 n0 (some (.int 1)) T4.heap _
    rw [Eh4]
    exact ⟨rfl, N4, Ks_⟩
 have seg_l0_0 : ∀ (Ts_ : State) (locs_ : List Loc) (hs_ : Heap) (nn : Int32) (c0 : Int32) (c1 : Int32) (c2 : Int32) (c3 : Int32) (a : Addr) (t : Addr) (vms_ : Vm) (ks_ : Nat) (Xs_ : Stand pp_ l ee_ room_1 (ss_.setVm vms_) mm_ #[(.int p1), (.int p2), (.int p3), (.int p4), (.int p5)] bb_ me_ cc_ Ts_ locs_ 20 1100) (es_ : Ts_.heap = hs_) (Ns_ : Fr n0 locs_) (Ks_ : Keep h0 hs_ []) (Os_ : Old Z n0 hs_) (hSs_ : ss_.Since vms_ ks_) (hks_ : ks_ ≤ hs_.size) (hZs_ : Z.Warmed39 (ss_.setVm vms_).vm) (howns_ : (ss_.setVm vms_).vm.findClass sc2 = some mm_.cls) (Is_ : IB Z vms_ [""]) (sp0_ : own_Str Z hs_ a t []) (hD : ∀ r : Int32, ((r = (0 : Int32))) → r = (0 : Int32)), own_Go pp_ ee_ bb_ (fun s₂ oo_ => s₂.status = .running ∧ Ended s₂ bb_ oo_ ∧ (∃ vv_ LL_, oo_ = .returned vv_ ∧ Qrm0 Z p1 p2 p3 p4 p5 h0 n0 vv_ s₂.heap LL_ ∧ IB Z s₂.vm [""] ∧ ReturnedEndW ss_ oo_ s₂ LL_ room_1.cells room_1.slots)) Ts_ (mkF mm_ 281 #[vi p1, vi p2, vi p3, vi p4, vi p5, vi nn, vi c0, vi c1, vi c2, vi c3, vr a, vi 0] []) := by
  intro Ts_ locs_ hs_ nn c0 c1 c2 c3 a t vms_ ks_ Xs_ es_ Ns_ Ks_ Os_ hSs_ hks_ hZs_ howns_ Is_ sp0_ hD
  show Go_ Ts_ (mkF mm_ 281 #[vi p1, vi p2, vi p3, vi p4, vi p5, vi nn, vi c0, vi c1, vi c2, vi c3, vr a, vi 0] [])
  refine sp_ (fun t_ k_ => XS.aload Xs_.here hx rfl (B_ at_281) rfl rfl k_) ?_
  obtain ⟨_, T5, Lc5, X5, hQ5, st5⟩ := own_cS Xs_ hx hZs_ howns_ (w_ hw 29 rfl) (w_ hw 30 rfl) (w_ hw 31 rfl) (w_ hw 32 rfl) (by decide) (backOf (W := 0) (rmDl0 l Z a0 hw [] a t hs_ n0 Os_ G_ sp0_) hZs_ (w_ hw 32 rfl) (w_ hw 31 rfl) (by decide) (by decide)) (g := (mkF mm_ 283 #[vi p1, vi p2, vi p3, vi p4, vi p5, vi nn, vi c0, vi c1, vi c2, vi c3, vr a, vi 0] [(.ref a)])) rfl hml.symm (argsL := [(.ref a)]) (rest := []) (lenOf pd_16 rfl) rfl (Nat.le_of_eq rfl) (B_ at_283) rfl es_ (by decide) (by decide)
  obtain ⟨r_5, rfl, rfl, Eh5, r5_0⟩ := hQ5
  have N5 := Fr.app Ns_ (Fr.nil n0)
  refine jp_ st5 ?_
  obtain rfl : r_5 = (0 : Int32) := hD _ r5_0
  show Go_ T5 (mkF mm_ 286 #[vi p1, vi p2, vi p3, vi p4, vi p5, vi nn, vi c0, vi c1, vi c2, vi c3, vr a, vi 0] [(.int 0)])
  refine sp_ (fun t_ k_ => XS.iload X5.here hx rfl (B_ at_286) rfl  k_) ?_
  show Go_ T5 (mkF mm_ 288 #[vi p1, vi p2, vi p3, vi p4, vi p5, vi nn, vi c0, vi c1, vi c2, vi c3, vr a, vi 0] [(.int 0), (.int 0)])
  refine sp_ (fun t_ k_ => XS.icmpNo X5.here hx rfl (B_ at_288) rfl (teq (by decide : (0 : Int32) = (0 : Int32))).2 k_) ?_
  show Go_ T5 (mkF mm_ 291 #[vi p1, vi p2, vi p3, vi p4, vi p5, vi nn, vi c0, vi c1, vi c2, vi c3, vr a, vi 0] [])
  refine sp_ (fun t_ k_ => XS.iconst X5.here hx rfl (B_ at_291) (XS.goto X5.here hx rfl (pc0 := 292) (pc' := 296) rfl (B_ at_292) (by decide) (by decide) k_)) ?_
  show Go_ T5 (mkF mm_ 296 #[vi p1, vi p2, vi p3, vi p4, vi p5, vi nn, vi c0, vi c1, vi c2, vi c3, vr a, vi 0] [(.int 1)])
  obtain ⟨fs, hr, hrun, hended, hEnd⟩ := X5.leaveW hSs_ (by rw [Eh5]; exact hks_) (v := some (.int 1)) (rN Bd.returns)
  refine ⟨_, _, ?_, hrun, hended, _, _, rfl, ?_, own_IB_mono (own_IB_warm Is_ X5.warmed) (by intro t_ h_; first | exact h_ | exact List.mem_cons_of_mem _ h_ | (revert t_ h_; decide)), own_endMono hEnd (by decide) (by decide)⟩
  · exact retN X5 hx (t := .boolean) Bd.returns (by simp) (B_ at_296) hr
  · show Qrm0 Z p1 p2 p3 p4 p5 h0 n0 (some (.int 1)) T5.heap _
    rw [Eh5]
    exact ⟨rfl, N5, Ks_⟩
 have seg_l1_0 : ∀ (Ts_ : State) (locs_ : List Loc) (hs_ : Heap) (nn : Int32) (c0 : Int32) (c1 : Int32) (c2 : Int32) (c3 : Int32) (a : Addr) (t : Addr) (vms_ : Vm) (ks_ : Nat) (Xs_ : Stand pp_ l ee_ room_1 (ss_.setVm vms_) mm_ #[(.int p1), (.int p2), (.int p3), (.int p4), (.int p5)] bb_ me_ cc_ Ts_ locs_ 20 1100) (es_ : Ts_.heap = hs_) (Ns_ : Fr n0 locs_) (Ks_ : Keep h0 hs_ []) (Os_ : Old Z n0 hs_) (hSs_ : ss_.Since vms_ ks_) (hks_ : ks_ ≤ hs_.size) (hZs_ : Z.Warmed39 (ss_.setVm vms_).vm) (howns_ : (ss_.setVm vms_).vm.findClass sc2 = some mm_.cls) (Is_ : IB Z vms_ []) (sp0_ : own_Str Z hs_ a t [c0]) (hD : ∀ r : Int32, ((¬ (own_D c0) → r = (0 : Int32)) ∧ (own_D c0 → r = (1 : Int32))) → r = (0 : Int32)), own_Go pp_ ee_ bb_ (fun s₂ oo_ => s₂.status = .running ∧ Ended s₂ bb_ oo_ ∧ (∃ vv_ LL_, oo_ = .returned vv_ ∧ Qrm0 Z p1 p2 p3 p4 p5 h0 n0 vv_ s₂.heap LL_ ∧ IB Z s₂.vm [""] ∧ ReturnedEndW ss_ oo_ s₂ LL_ room_1.cells room_1.slots)) Ts_ (mkF mm_ 281 #[vi p1, vi p2, vi p3, vi p4, vi p5, vi nn, vi c0, vi c1, vi c2, vi c3, vr a, vi 0] []) := by
  intro Ts_ locs_ hs_ nn c0 c1 c2 c3 a t vms_ ks_ Xs_ es_ Ns_ Ks_ Os_ hSs_ hks_ hZs_ howns_ Is_ sp0_ hD
  show Go_ Ts_ (mkF mm_ 281 #[vi p1, vi p2, vi p3, vi p4, vi p5, vi nn, vi c0, vi c1, vi c2, vi c3, vr a, vi 0] [])
  refine sp_ (fun t_ k_ => XS.aload Xs_.here hx rfl (B_ at_281) rfl rfl k_) ?_
  obtain ⟨_, T6, Lc6, X6, hQ6, st6⟩ := own_cS Xs_ hx hZs_ howns_ (w_ hw 29 rfl) (w_ hw 30 rfl) (w_ hw 31 rfl) (w_ hw 32 rfl) (by decide) (backOf (W := 0) (rmDl1 l Z a0 hw [] a t c0 hs_ n0 Os_ G_ sp0_) hZs_ (w_ hw 32 rfl) (w_ hw 31 rfl) (by decide) (by decide)) (g := (mkF mm_ 283 #[vi p1, vi p2, vi p3, vi p4, vi p5, vi nn, vi c0, vi c1, vi c2, vi c3, vr a, vi 0] [(.ref a)])) rfl hml.symm (argsL := [(.ref a)]) (rest := []) (lenOf pd_16 rfl) rfl (Nat.le_of_eq rfl) (B_ at_283) rfl es_ (by decide) (by decide)
  obtain ⟨r_6, rfl, rfl, Eh6, r6_0⟩ := hQ6
  have N6 := Fr.app Ns_ (Fr.nil n0)
  refine jp_ st6 ?_
  obtain rfl : r_6 = (0 : Int32) := hD _ r6_0
  show Go_ T6 (mkF mm_ 286 #[vi p1, vi p2, vi p3, vi p4, vi p5, vi nn, vi c0, vi c1, vi c2, vi c3, vr a, vi 0] [(.int 0)])
  refine sp_ (fun t_ k_ => XS.iload X6.here hx rfl (B_ at_286) rfl  k_) ?_
  show Go_ T6 (mkF mm_ 288 #[vi p1, vi p2, vi p3, vi p4, vi p5, vi nn, vi c0, vi c1, vi c2, vi c3, vr a, vi 0] [(.int 0), (.int 0)])
  refine sp_ (fun t_ k_ => XS.icmpNo X6.here hx rfl (B_ at_288) rfl (teq (by decide : (0 : Int32) = (0 : Int32))).2 k_) ?_
  show Go_ T6 (mkF mm_ 291 #[vi p1, vi p2, vi p3, vi p4, vi p5, vi nn, vi c0, vi c1, vi c2, vi c3, vr a, vi 0] [])
  refine sp_ (fun t_ k_ => XS.iconst X6.here hx rfl (B_ at_291) (XS.goto X6.here hx rfl (pc0 := 292) (pc' := 296) rfl (B_ at_292) (by decide) (by decide) k_)) ?_
  show Go_ T6 (mkF mm_ 296 #[vi p1, vi p2, vi p3, vi p4, vi p5, vi nn, vi c0, vi c1, vi c2, vi c3, vr a, vi 0] [(.int 1)])
  obtain ⟨fs, hr, hrun, hended, hEnd⟩ := X6.leaveW hSs_ (by rw [Eh6]; exact hks_) (v := some (.int 1)) (rN Bd.returns)
  refine ⟨_, _, ?_, hrun, hended, _, _, rfl, ?_, own_IB_mono (own_IB_warm Is_ X6.warmed) (by intro t_ h_; first | exact h_ | exact List.mem_cons_of_mem _ h_ | (revert t_ h_; decide)), own_endMono hEnd (by decide) (by decide)⟩
  · exact retN X6 hx (t := .boolean) Bd.returns (by simp) (B_ at_296) hr
  · show Qrm0 Z p1 p2 p3 p4 p5 h0 n0 (some (.int 1)) T6.heap _
    rw [Eh6]
    exact ⟨rfl, N6, Ks_⟩
 have seg_l1_1 : ∀ (Ts_ : State) (locs_ : List Loc) (hs_ : Heap) (nn : Int32) (c0 : Int32) (c1 : Int32) (c2 : Int32) (c3 : Int32) (a : Addr) (t : Addr) (vms_ : Vm) (ks_ : Nat) (Xs_ : Stand pp_ l ee_ room_1 (ss_.setVm vms_) mm_ #[(.int p1), (.int p2), (.int p3), (.int p4), (.int p5)] bb_ me_ cc_ Ts_ locs_ 20 1100) (es_ : Ts_.heap = hs_) (Ns_ : Fr n0 locs_) (Ks_ : Keep h0 hs_ []) (Os_ : Old Z n0 hs_) (hSs_ : ss_.Since vms_ ks_) (hks_ : ks_ ≤ hs_.size) (hZs_ : Z.Warmed39 (ss_.setVm vms_).vm) (howns_ : (ss_.setVm vms_).vm.findClass sc2 = some mm_.cls) (Is_ : IB Z vms_ []) (sp0_ : own_Str Z hs_ a t [c0]) (hD : ∀ r : Int32, ((¬ (own_D c0) → r = (0 : Int32)) ∧ (own_D c0 → r = (1 : Int32))) → r = (1 : Int32)), own_Go pp_ ee_ bb_ (fun s₂ oo_ => s₂.status = .running ∧ Ended s₂ bb_ oo_ ∧ (∃ vv_ LL_, oo_ = .returned vv_ ∧ Qrm0 Z p1 p2 p3 p4 p5 h0 n0 vv_ s₂.heap LL_ ∧ IB Z s₂.vm [""] ∧ ReturnedEndW ss_ oo_ s₂ LL_ room_1.cells room_1.slots)) Ts_ (mkF mm_ 281 #[vi p1, vi p2, vi p3, vi p4, vi p5, vi nn, vi c0, vi c1, vi c2, vi c3, vr a, vi 1] []) := by
  intro Ts_ locs_ hs_ nn c0 c1 c2 c3 a t vms_ ks_ Xs_ es_ Ns_ Ks_ Os_ hSs_ hks_ hZs_ howns_ Is_ sp0_ hD
  show Go_ Ts_ (mkF mm_ 281 #[vi p1, vi p2, vi p3, vi p4, vi p5, vi nn, vi c0, vi c1, vi c2, vi c3, vr a, vi 1] [])
  refine sp_ (fun t_ k_ => XS.aload Xs_.here hx rfl (B_ at_281) rfl rfl k_) ?_
  obtain ⟨_, T7, Lc7, X7, hQ7, st7⟩ := own_cS Xs_ hx hZs_ howns_ (w_ hw 29 rfl) (w_ hw 30 rfl) (w_ hw 31 rfl) (w_ hw 32 rfl) (by decide) (backOf (W := 0) (rmDl1 l Z a0 hw [] a t c0 hs_ n0 Os_ G_ sp0_) hZs_ (w_ hw 32 rfl) (w_ hw 31 rfl) (by decide) (by decide)) (g := (mkF mm_ 283 #[vi p1, vi p2, vi p3, vi p4, vi p5, vi nn, vi c0, vi c1, vi c2, vi c3, vr a, vi 1] [(.ref a)])) rfl hml.symm (argsL := [(.ref a)]) (rest := []) (lenOf pd_16 rfl) rfl (Nat.le_of_eq rfl) (B_ at_283) rfl es_ (by decide) (by decide)
  obtain ⟨r_7, rfl, rfl, Eh7, r7_0⟩ := hQ7
  have N7 := Fr.app Ns_ (Fr.nil n0)
  refine jp_ st7 ?_
  obtain rfl : r_7 = (1 : Int32) := hD _ r7_0
  show Go_ T7 (mkF mm_ 286 #[vi p1, vi p2, vi p3, vi p4, vi p5, vi nn, vi c0, vi c1, vi c2, vi c3, vr a, vi 1] [(.int 1)])
  refine sp_ (fun t_ k_ => XS.iload X7.here hx rfl (B_ at_286) rfl  k_) ?_
  show Go_ T7 (mkF mm_ 288 #[vi p1, vi p2, vi p3, vi p4, vi p5, vi nn, vi c0, vi c1, vi c2, vi c3, vr a, vi 1] [(.int 1), (.int 1)])
  refine sp_ (fun t_ k_ => XS.icmpNo X7.here hx rfl (B_ at_288) rfl (teq (by decide : (1 : Int32) = (1 : Int32))).2 k_) ?_
  show Go_ T7 (mkF mm_ 291 #[vi p1, vi p2, vi p3, vi p4, vi p5, vi nn, vi c0, vi c1, vi c2, vi c3, vr a, vi 1] [])
  refine sp_ (fun t_ k_ => XS.iconst X7.here hx rfl (B_ at_291) (XS.goto X7.here hx rfl (pc0 := 292) (pc' := 296) rfl (B_ at_292) (by decide) (by decide) k_)) ?_
  show Go_ T7 (mkF mm_ 296 #[vi p1, vi p2, vi p3, vi p4, vi p5, vi nn, vi c0, vi c1, vi c2, vi c3, vr a, vi 1] [(.int 1)])
  obtain ⟨fs, hr, hrun, hended, hEnd⟩ := X7.leaveW hSs_ (by rw [Eh7]; exact hks_) (v := some (.int 1)) (rN Bd.returns)
  refine ⟨_, _, ?_, hrun, hended, _, _, rfl, ?_, own_IB_mono (own_IB_warm Is_ X7.warmed) (by intro t_ h_; first | exact h_ | exact List.mem_cons_of_mem _ h_ | (revert t_ h_; decide)), own_endMono hEnd (by decide) (by decide)⟩
  · exact retN X7 hx (t := .boolean) Bd.returns (by simp) (B_ at_296) hr
  · show Qrm0 Z p1 p2 p3 p4 p5 h0 n0 (some (.int 1)) T7.heap _
    rw [Eh7]
    exact ⟨rfl, N7, Ks_⟩
 have seg_l2_0 : ∀ (Ts_ : State) (locs_ : List Loc) (hs_ : Heap) (nn : Int32) (c0 : Int32) (c1 : Int32) (c2 : Int32) (c3 : Int32) (a : Addr) (t : Addr) (vms_ : Vm) (ks_ : Nat) (Xs_ : Stand pp_ l ee_ room_1 (ss_.setVm vms_) mm_ #[(.int p1), (.int p2), (.int p3), (.int p4), (.int p5)] bb_ me_ cc_ Ts_ locs_ 20 1100) (es_ : Ts_.heap = hs_) (Ns_ : Fr n0 locs_) (Ks_ : Keep h0 hs_ []) (Os_ : Old Z n0 hs_) (hSs_ : ss_.Since vms_ ks_) (hks_ : ks_ ≤ hs_.size) (hZs_ : Z.Warmed39 (ss_.setVm vms_).vm) (howns_ : (ss_.setVm vms_).vm.findClass sc2 = some mm_.cls) (Is_ : IB Z vms_ []) (sp0_ : own_Str Z hs_ a t [c0, c1]) (hD : ∀ r : Int32, ((¬ (own_D c0) → r = (0 : Int32)) ∧ (own_D c0 → ¬ (own_D c1) → r = (0 : Int32)) ∧ (own_D c0 → own_D c1 → r = (1 : Int32))) → r = (0 : Int32)), own_Go pp_ ee_ bb_ (fun s₂ oo_ => s₂.status = .running ∧ Ended s₂ bb_ oo_ ∧ (∃ vv_ LL_, oo_ = .returned vv_ ∧ Qrm0 Z p1 p2 p3 p4 p5 h0 n0 vv_ s₂.heap LL_ ∧ IB Z s₂.vm [""] ∧ ReturnedEndW ss_ oo_ s₂ LL_ room_1.cells room_1.slots)) Ts_ (mkF mm_ 281 #[vi p1, vi p2, vi p3, vi p4, vi p5, vi nn, vi c0, vi c1, vi c2, vi c3, vr a, vi 0] []) := by
  intro Ts_ locs_ hs_ nn c0 c1 c2 c3 a t vms_ ks_ Xs_ es_ Ns_ Ks_ Os_ hSs_ hks_ hZs_ howns_ Is_ sp0_ hD
  show Go_ Ts_ (mkF mm_ 281 #[vi p1, vi p2, vi p3, vi p4, vi p5, vi nn, vi c0, vi c1, vi c2, vi c3, vr a, vi 0] [])
  refine sp_ (fun t_ k_ => XS.aload Xs_.here hx rfl (B_ at_281) rfl rfl k_) ?_
  obtain ⟨_, T8, Lc8, X8, hQ8, st8⟩ := own_cS Xs_ hx hZs_ howns_ (w_ hw 29 rfl) (w_ hw 30 rfl) (w_ hw 31 rfl) (w_ hw 32 rfl) (by decide) (backOf (W := 0) (rmDl2 l Z a0 hw [] a t c0 c1 hs_ n0 Os_ G_ sp0_) hZs_ (w_ hw 32 rfl) (w_ hw 31 rfl) (by decide) (by decide)) (g := (mkF mm_ 283 #[vi p1, vi p2, vi p3, vi p4, vi p5, vi nn, vi c0, vi c1, vi c2, vi c3, vr a, vi 0] [(.ref a)])) rfl hml.symm (argsL := [(.ref a)]) (rest := []) (lenOf pd_16 rfl) rfl (Nat.le_of_eq rfl) (B_ at_283) rfl es_ (by decide) (by decide)
  obtain ⟨r_8, rfl, rfl, Eh8, r8_0⟩ := hQ8
  have N8 := Fr.app Ns_ (Fr.nil n0)
  refine jp_ st8 ?_
  obtain rfl : r_8 = (0 : Int32) := hD _ r8_0
  show Go_ T8 (mkF mm_ 286 #[vi p1, vi p2, vi p3, vi p4, vi p5, vi nn, vi c0, vi c1, vi c2, vi c3, vr a, vi 0] [(.int 0)])
  refine sp_ (fun t_ k_ => XS.iload X8.here hx rfl (B_ at_286) rfl  k_) ?_
  show Go_ T8 (mkF mm_ 288 #[vi p1, vi p2, vi p3, vi p4, vi p5, vi nn, vi c0, vi c1, vi c2, vi c3, vr a, vi 0] [(.int 0), (.int 0)])
  refine sp_ (fun t_ k_ => XS.icmpNo X8.here hx rfl (B_ at_288) rfl (teq (by decide : (0 : Int32) = (0 : Int32))).2 k_) ?_
  show Go_ T8 (mkF mm_ 291 #[vi p1, vi p2, vi p3, vi p4, vi p5, vi nn, vi c0, vi c1, vi c2, vi c3, vr a, vi 0] [])
  refine sp_ (fun t_ k_ => XS.iconst X8.here hx rfl (B_ at_291) (XS.goto X8.here hx rfl (pc0 := 292) (pc' := 296) rfl (B_ at_292) (by decide) (by decide) k_)) ?_
  show Go_ T8 (mkF mm_ 296 #[vi p1, vi p2, vi p3, vi p4, vi p5, vi nn, vi c0, vi c1, vi c2, vi c3, vr a, vi 0] [(.int 1)])
  obtain ⟨fs, hr, hrun, hended, hEnd⟩ := X8.leaveW hSs_ (by rw [Eh8]; exact hks_) (v := some (.int 1)) (rN Bd.returns)
  refine ⟨_, _, ?_, hrun, hended, _, _, rfl, ?_, own_IB_mono (own_IB_warm Is_ X8.warmed) (by intro t_ h_; first | exact h_ | exact List.mem_cons_of_mem _ h_ | (revert t_ h_; decide)), own_endMono hEnd (by decide) (by decide)⟩
  · exact retN X8 hx (t := .boolean) Bd.returns (by simp) (B_ at_296) hr
  · show Qrm0 Z p1 p2 p3 p4 p5 h0 n0 (some (.int 1)) T8.heap _
    rw [Eh8]
    exact ⟨rfl, N8, Ks_⟩
 have seg_l2_1 : ∀ (Ts_ : State) (locs_ : List Loc) (hs_ : Heap) (nn : Int32) (c0 : Int32) (c1 : Int32) (c2 : Int32) (c3 : Int32) (a : Addr) (t : Addr) (vms_ : Vm) (ks_ : Nat) (Xs_ : Stand pp_ l ee_ room_1 (ss_.setVm vms_) mm_ #[(.int p1), (.int p2), (.int p3), (.int p4), (.int p5)] bb_ me_ cc_ Ts_ locs_ 20 1100) (es_ : Ts_.heap = hs_) (Ns_ : Fr n0 locs_) (Ks_ : Keep h0 hs_ []) (Os_ : Old Z n0 hs_) (hSs_ : ss_.Since vms_ ks_) (hks_ : ks_ ≤ hs_.size) (hZs_ : Z.Warmed39 (ss_.setVm vms_).vm) (howns_ : (ss_.setVm vms_).vm.findClass sc2 = some mm_.cls) (Is_ : IB Z vms_ []) (sp0_ : own_Str Z hs_ a t [c0, c1]) (hD : ∀ r : Int32, ((¬ (own_D c0) → r = (0 : Int32)) ∧ (own_D c0 → ¬ (own_D c1) → r = (0 : Int32)) ∧ (own_D c0 → own_D c1 → r = (1 : Int32))) → r = (1 : Int32)), own_Go pp_ ee_ bb_ (fun s₂ oo_ => s₂.status = .running ∧ Ended s₂ bb_ oo_ ∧ (∃ vv_ LL_, oo_ = .returned vv_ ∧ Qrm0 Z p1 p2 p3 p4 p5 h0 n0 vv_ s₂.heap LL_ ∧ IB Z s₂.vm [""] ∧ ReturnedEndW ss_ oo_ s₂ LL_ room_1.cells room_1.slots)) Ts_ (mkF mm_ 281 #[vi p1, vi p2, vi p3, vi p4, vi p5, vi nn, vi c0, vi c1, vi c2, vi c3, vr a, vi 1] []) := by
  intro Ts_ locs_ hs_ nn c0 c1 c2 c3 a t vms_ ks_ Xs_ es_ Ns_ Ks_ Os_ hSs_ hks_ hZs_ howns_ Is_ sp0_ hD
  show Go_ Ts_ (mkF mm_ 281 #[vi p1, vi p2, vi p3, vi p4, vi p5, vi nn, vi c0, vi c1, vi c2, vi c3, vr a, vi 1] [])
  refine sp_ (fun t_ k_ => XS.aload Xs_.here hx rfl (B_ at_281) rfl rfl k_) ?_
  obtain ⟨_, T9, Lc9, X9, hQ9, st9⟩ := own_cS Xs_ hx hZs_ howns_ (w_ hw 29 rfl) (w_ hw 30 rfl) (w_ hw 31 rfl) (w_ hw 32 rfl) (by decide) (backOf (W := 0) (rmDl2 l Z a0 hw [] a t c0 c1 hs_ n0 Os_ G_ sp0_) hZs_ (w_ hw 32 rfl) (w_ hw 31 rfl) (by decide) (by decide)) (g := (mkF mm_ 283 #[vi p1, vi p2, vi p3, vi p4, vi p5, vi nn, vi c0, vi c1, vi c2, vi c3, vr a, vi 1] [(.ref a)])) rfl hml.symm (argsL := [(.ref a)]) (rest := []) (lenOf pd_16 rfl) rfl (Nat.le_of_eq rfl) (B_ at_283) rfl es_ (by decide) (by decide)
  obtain ⟨r_9, rfl, rfl, Eh9, r9_0⟩ := hQ9
  have N9 := Fr.app Ns_ (Fr.nil n0)
  refine jp_ st9 ?_
  obtain rfl : r_9 = (1 : Int32) := hD _ r9_0
  show Go_ T9 (mkF mm_ 286 #[vi p1, vi p2, vi p3, vi p4, vi p5, vi nn, vi c0, vi c1, vi c2, vi c3, vr a, vi 1] [(.int 1)])
  refine sp_ (fun t_ k_ => XS.iload X9.here hx rfl (B_ at_286) rfl  k_) ?_
  show Go_ T9 (mkF mm_ 288 #[vi p1, vi p2, vi p3, vi p4, vi p5, vi nn, vi c0, vi c1, vi c2, vi c3, vr a, vi 1] [(.int 1), (.int 1)])
  refine sp_ (fun t_ k_ => XS.icmpNo X9.here hx rfl (B_ at_288) rfl (teq (by decide : (1 : Int32) = (1 : Int32))).2 k_) ?_
  show Go_ T9 (mkF mm_ 291 #[vi p1, vi p2, vi p3, vi p4, vi p5, vi nn, vi c0, vi c1, vi c2, vi c3, vr a, vi 1] [])
  refine sp_ (fun t_ k_ => XS.iconst X9.here hx rfl (B_ at_291) (XS.goto X9.here hx rfl (pc0 := 292) (pc' := 296) rfl (B_ at_292) (by decide) (by decide) k_)) ?_
  show Go_ T9 (mkF mm_ 296 #[vi p1, vi p2, vi p3, vi p4, vi p5, vi nn, vi c0, vi c1, vi c2, vi c3, vr a, vi 1] [(.int 1)])
  obtain ⟨fs, hr, hrun, hended, hEnd⟩ := X9.leaveW hSs_ (by rw [Eh9]; exact hks_) (v := some (.int 1)) (rN Bd.returns)
  refine ⟨_, _, ?_, hrun, hended, _, _, rfl, ?_, own_IB_mono (own_IB_warm Is_ X9.warmed) (by intro t_ h_; first | exact h_ | exact List.mem_cons_of_mem _ h_ | (revert t_ h_; decide)), own_endMono hEnd (by decide) (by decide)⟩
  · exact retN X9 hx (t := .boolean) Bd.returns (by simp) (B_ at_296) hr
  · show Qrm0 Z p1 p2 p3 p4 p5 h0 n0 (some (.int 1)) T9.heap _
    rw [Eh9]
    exact ⟨rfl, N9, Ks_⟩
 have seg_l3_0 : ∀ (Ts_ : State) (locs_ : List Loc) (hs_ : Heap) (nn : Int32) (c0 : Int32) (c1 : Int32) (c2 : Int32) (c3 : Int32) (a : Addr) (t : Addr) (vms_ : Vm) (ks_ : Nat) (Xs_ : Stand pp_ l ee_ room_1 (ss_.setVm vms_) mm_ #[(.int p1), (.int p2), (.int p3), (.int p4), (.int p5)] bb_ me_ cc_ Ts_ locs_ 20 1100) (es_ : Ts_.heap = hs_) (Ns_ : Fr n0 locs_) (Ks_ : Keep h0 hs_ []) (Os_ : Old Z n0 hs_) (hSs_ : ss_.Since vms_ ks_) (hks_ : ks_ ≤ hs_.size) (hZs_ : Z.Warmed39 (ss_.setVm vms_).vm) (howns_ : (ss_.setVm vms_).vm.findClass sc2 = some mm_.cls) (Is_ : IB Z vms_ []) (sp0_ : own_Str Z hs_ a t [c0, c1, c2]) (hD : ∀ r : Int32, ((¬ (own_D c0) → r = (0 : Int32)) ∧ (own_D c0 → ¬ (own_D c1) → r = (0 : Int32)) ∧ (own_D c0 → own_D c1 → ¬ (own_D c2) → r = (0 : Int32)) ∧ (own_D c0 → own_D c1 → own_D c2 → r = (1 : Int32))) → r = (0 : Int32)), own_Go pp_ ee_ bb_ (fun s₂ oo_ => s₂.status = .running ∧ Ended s₂ bb_ oo_ ∧ (∃ vv_ LL_, oo_ = .returned vv_ ∧ Qrm0 Z p1 p2 p3 p4 p5 h0 n0 vv_ s₂.heap LL_ ∧ IB Z s₂.vm [""] ∧ ReturnedEndW ss_ oo_ s₂ LL_ room_1.cells room_1.slots)) Ts_ (mkF mm_ 281 #[vi p1, vi p2, vi p3, vi p4, vi p5, vi nn, vi c0, vi c1, vi c2, vi c3, vr a, vi 0] []) := by
  intro Ts_ locs_ hs_ nn c0 c1 c2 c3 a t vms_ ks_ Xs_ es_ Ns_ Ks_ Os_ hSs_ hks_ hZs_ howns_ Is_ sp0_ hD
  show Go_ Ts_ (mkF mm_ 281 #[vi p1, vi p2, vi p3, vi p4, vi p5, vi nn, vi c0, vi c1, vi c2, vi c3, vr a, vi 0] [])
  refine sp_ (fun t_ k_ => XS.aload Xs_.here hx rfl (B_ at_281) rfl rfl k_) ?_
  obtain ⟨_, T10, Lc10, X10, hQ10, st10⟩ := own_cS Xs_ hx hZs_ howns_ (w_ hw 29 rfl) (w_ hw 30 rfl) (w_ hw 31 rfl) (w_ hw 32 rfl) (by decide) (backOf (W := 0) (rmDl3 l Z a0 hw [] a t c0 c1 c2 hs_ n0 Os_ G_ sp0_) hZs_ (w_ hw 32 rfl) (w_ hw 31 rfl) (by decide) (by decide)) (g := (mkF mm_ 283 #[vi p1, vi p2, vi p3, vi p4, vi p5, vi nn, vi c0, vi c1, vi c2, vi c3, vr a, vi 0] [(.ref a)])) rfl hml.symm (argsL := [(.ref a)]) (rest := []) (lenOf pd_16 rfl) rfl (Nat.le_of_eq rfl) (B_ at_283) rfl es_ (by decide) (by decide)
  obtain ⟨r_10, rfl, rfl, Eh10, r10_0⟩ := hQ10
  have N10 := Fr.app Ns_ (Fr.nil n0)
  refine jp_ st10 ?_
  obtain rfl : r_10 = (0 : Int32) := hD _ r10_0
  show Go_ T10 (mkF mm_ 286 #[vi p1, vi p2, vi p3, vi p4, vi p5, vi nn, vi c0, vi c1, vi c2, vi c3, vr a, vi 0] [(.int 0)])
  refine sp_ (fun t_ k_ => XS.iload X10.here hx rfl (B_ at_286) rfl  k_) ?_
  show Go_ T10 (mkF mm_ 288 #[vi p1, vi p2, vi p3, vi p4, vi p5, vi nn, vi c0, vi c1, vi c2, vi c3, vr a, vi 0] [(.int 0), (.int 0)])
  refine sp_ (fun t_ k_ => XS.icmpNo X10.here hx rfl (B_ at_288) rfl (teq (by decide : (0 : Int32) = (0 : Int32))).2 k_) ?_
  show Go_ T10 (mkF mm_ 291 #[vi p1, vi p2, vi p3, vi p4, vi p5, vi nn, vi c0, vi c1, vi c2, vi c3, vr a, vi 0] [])
  refine sp_ (fun t_ k_ => XS.iconst X10.here hx rfl (B_ at_291) (XS.goto X10.here hx rfl (pc0 := 292) (pc' := 296) rfl (B_ at_292) (by decide) (by decide) k_)) ?_
  show Go_ T10 (mkF mm_ 296 #[vi p1, vi p2, vi p3, vi p4, vi p5, vi nn, vi c0, vi c1, vi c2, vi c3, vr a, vi 0] [(.int 1)])
  obtain ⟨fs, hr, hrun, hended, hEnd⟩ := X10.leaveW hSs_ (by rw [Eh10]; exact hks_) (v := some (.int 1)) (rN Bd.returns)
  refine ⟨_, _, ?_, hrun, hended, _, _, rfl, ?_, own_IB_mono (own_IB_warm Is_ X10.warmed) (by intro t_ h_; first | exact h_ | exact List.mem_cons_of_mem _ h_ | (revert t_ h_; decide)), own_endMono hEnd (by decide) (by decide)⟩
  · exact retN X10 hx (t := .boolean) Bd.returns (by simp) (B_ at_296) hr
  · show Qrm0 Z p1 p2 p3 p4 p5 h0 n0 (some (.int 1)) T10.heap _
    rw [Eh10]
    exact ⟨rfl, N10, Ks_⟩
 have seg_l3_1 : ∀ (Ts_ : State) (locs_ : List Loc) (hs_ : Heap) (nn : Int32) (c0 : Int32) (c1 : Int32) (c2 : Int32) (c3 : Int32) (a : Addr) (t : Addr) (vms_ : Vm) (ks_ : Nat) (Xs_ : Stand pp_ l ee_ room_1 (ss_.setVm vms_) mm_ #[(.int p1), (.int p2), (.int p3), (.int p4), (.int p5)] bb_ me_ cc_ Ts_ locs_ 20 1100) (es_ : Ts_.heap = hs_) (Ns_ : Fr n0 locs_) (Ks_ : Keep h0 hs_ []) (Os_ : Old Z n0 hs_) (hSs_ : ss_.Since vms_ ks_) (hks_ : ks_ ≤ hs_.size) (hZs_ : Z.Warmed39 (ss_.setVm vms_).vm) (howns_ : (ss_.setVm vms_).vm.findClass sc2 = some mm_.cls) (Is_ : IB Z vms_ []) (sp0_ : own_Str Z hs_ a t [c0, c1, c2]) (hD : ∀ r : Int32, ((¬ (own_D c0) → r = (0 : Int32)) ∧ (own_D c0 → ¬ (own_D c1) → r = (0 : Int32)) ∧ (own_D c0 → own_D c1 → ¬ (own_D c2) → r = (0 : Int32)) ∧ (own_D c0 → own_D c1 → own_D c2 → r = (1 : Int32))) → r = (1 : Int32)), own_Go pp_ ee_ bb_ (fun s₂ oo_ => s₂.status = .running ∧ Ended s₂ bb_ oo_ ∧ (∃ vv_ LL_, oo_ = .returned vv_ ∧ Qrm0 Z p1 p2 p3 p4 p5 h0 n0 vv_ s₂.heap LL_ ∧ IB Z s₂.vm [""] ∧ ReturnedEndW ss_ oo_ s₂ LL_ room_1.cells room_1.slots)) Ts_ (mkF mm_ 281 #[vi p1, vi p2, vi p3, vi p4, vi p5, vi nn, vi c0, vi c1, vi c2, vi c3, vr a, vi 1] []) := by
  intro Ts_ locs_ hs_ nn c0 c1 c2 c3 a t vms_ ks_ Xs_ es_ Ns_ Ks_ Os_ hSs_ hks_ hZs_ howns_ Is_ sp0_ hD
  show Go_ Ts_ (mkF mm_ 281 #[vi p1, vi p2, vi p3, vi p4, vi p5, vi nn, vi c0, vi c1, vi c2, vi c3, vr a, vi 1] [])
  refine sp_ (fun t_ k_ => XS.aload Xs_.here hx rfl (B_ at_281) rfl rfl k_) ?_
  obtain ⟨_, T11, Lc11, X11, hQ11, st11⟩ := own_cS Xs_ hx hZs_ howns_ (w_ hw 29 rfl) (w_ hw 30 rfl) (w_ hw 31 rfl) (w_ hw 32 rfl) (by decide) (backOf (W := 0) (rmDl3 l Z a0 hw [] a t c0 c1 c2 hs_ n0 Os_ G_ sp0_) hZs_ (w_ hw 32 rfl) (w_ hw 31 rfl) (by decide) (by decide)) (g := (mkF mm_ 283 #[vi p1, vi p2, vi p3, vi p4, vi p5, vi nn, vi c0, vi c1, vi c2, vi c3, vr a, vi 1] [(.ref a)])) rfl hml.symm (argsL := [(.ref a)]) (rest := []) (lenOf pd_16 rfl) rfl (Nat.le_of_eq rfl) (B_ at_283) rfl es_ (by decide) (by decide)
  obtain ⟨r_11, rfl, rfl, Eh11, r11_0⟩ := hQ11
  have N11 := Fr.app Ns_ (Fr.nil n0)
  refine jp_ st11 ?_
  obtain rfl : r_11 = (1 : Int32) := hD _ r11_0
  show Go_ T11 (mkF mm_ 286 #[vi p1, vi p2, vi p3, vi p4, vi p5, vi nn, vi c0, vi c1, vi c2, vi c3, vr a, vi 1] [(.int 1)])
  refine sp_ (fun t_ k_ => XS.iload X11.here hx rfl (B_ at_286) rfl  k_) ?_
  show Go_ T11 (mkF mm_ 288 #[vi p1, vi p2, vi p3, vi p4, vi p5, vi nn, vi c0, vi c1, vi c2, vi c3, vr a, vi 1] [(.int 1), (.int 1)])
  refine sp_ (fun t_ k_ => XS.icmpNo X11.here hx rfl (B_ at_288) rfl (teq (by decide : (1 : Int32) = (1 : Int32))).2 k_) ?_
  show Go_ T11 (mkF mm_ 291 #[vi p1, vi p2, vi p3, vi p4, vi p5, vi nn, vi c0, vi c1, vi c2, vi c3, vr a, vi 1] [])
  refine sp_ (fun t_ k_ => XS.iconst X11.here hx rfl (B_ at_291) (XS.goto X11.here hx rfl (pc0 := 292) (pc' := 296) rfl (B_ at_292) (by decide) (by decide) k_)) ?_
  show Go_ T11 (mkF mm_ 296 #[vi p1, vi p2, vi p3, vi p4, vi p5, vi nn, vi c0, vi c1, vi c2, vi c3, vr a, vi 1] [(.int 1)])
  obtain ⟨fs, hr, hrun, hended, hEnd⟩ := X11.leaveW hSs_ (by rw [Eh11]; exact hks_) (v := some (.int 1)) (rN Bd.returns)
  refine ⟨_, _, ?_, hrun, hended, _, _, rfl, ?_, own_IB_mono (own_IB_warm Is_ X11.warmed) (by intro t_ h_; first | exact h_ | exact List.mem_cons_of_mem _ h_ | (revert t_ h_; decide)), own_endMono hEnd (by decide) (by decide)⟩
  · exact retN X11 hx (t := .boolean) Bd.returns (by simp) (B_ at_296) hr
  · show Qrm0 Z p1 p2 p3 p4 p5 h0 n0 (some (.int 1)) T11.heap _
    rw [Eh11]
    exact ⟨rfl, N11, Ks_⟩
 have seg_l4_0 : ∀ (Ts_ : State) (locs_ : List Loc) (hs_ : Heap) (nn : Int32) (c0 : Int32) (c1 : Int32) (c2 : Int32) (c3 : Int32) (a : Addr) (t : Addr) (vms_ : Vm) (ks_ : Nat) (Xs_ : Stand pp_ l ee_ room_1 (ss_.setVm vms_) mm_ #[(.int p1), (.int p2), (.int p3), (.int p4), (.int p5)] bb_ me_ cc_ Ts_ locs_ 20 1100) (es_ : Ts_.heap = hs_) (Ns_ : Fr n0 locs_) (Ks_ : Keep h0 hs_ []) (Os_ : Old Z n0 hs_) (hSs_ : ss_.Since vms_ ks_) (hks_ : ks_ ≤ hs_.size) (hZs_ : Z.Warmed39 (ss_.setVm vms_).vm) (howns_ : (ss_.setVm vms_).vm.findClass sc2 = some mm_.cls) (Is_ : IB Z vms_ []) (sp0_ : own_Str Z hs_ a t [c0, c1, c2, c3]) (hD : ∀ r : Int32, ((¬ (own_D c0) → r = (0 : Int32)) ∧ (own_D c0 → ¬ (own_D c1) → r = (0 : Int32)) ∧ (own_D c0 → own_D c1 → ¬ (own_D c2) → r = (0 : Int32)) ∧ (own_D c0 → own_D c1 → own_D c2 → ¬ (own_D c3) → r = (0 : Int32)) ∧ (own_D c0 → own_D c1 → own_D c2 → own_D c3 → r = (1 : Int32))) → r = (0 : Int32)), own_Go pp_ ee_ bb_ (fun s₂ oo_ => s₂.status = .running ∧ Ended s₂ bb_ oo_ ∧ (∃ vv_ LL_, oo_ = .returned vv_ ∧ Qrm0 Z p1 p2 p3 p4 p5 h0 n0 vv_ s₂.heap LL_ ∧ IB Z s₂.vm [""] ∧ ReturnedEndW ss_ oo_ s₂ LL_ room_1.cells room_1.slots)) Ts_ (mkF mm_ 281 #[vi p1, vi p2, vi p3, vi p4, vi p5, vi nn, vi c0, vi c1, vi c2, vi c3, vr a, vi 0] []) := by
  intro Ts_ locs_ hs_ nn c0 c1 c2 c3 a t vms_ ks_ Xs_ es_ Ns_ Ks_ Os_ hSs_ hks_ hZs_ howns_ Is_ sp0_ hD
  show Go_ Ts_ (mkF mm_ 281 #[vi p1, vi p2, vi p3, vi p4, vi p5, vi nn, vi c0, vi c1, vi c2, vi c3, vr a, vi 0] [])
  refine sp_ (fun t_ k_ => XS.aload Xs_.here hx rfl (B_ at_281) rfl rfl k_) ?_
  obtain ⟨_, T12, Lc12, X12, hQ12, st12⟩ := own_cS Xs_ hx hZs_ howns_ (w_ hw 29 rfl) (w_ hw 30 rfl) (w_ hw 31 rfl) (w_ hw 32 rfl) (by decide) (backOf (W := 0) (rmDl4 l Z a0 hw [] a t c0 c1 c2 c3 hs_ n0 Os_ G_ sp0_) hZs_ (w_ hw 32 rfl) (w_ hw 31 rfl) (by decide) (by decide)) (g := (mkF mm_ 283 #[vi p1, vi p2, vi p3, vi p4, vi p5, vi nn, vi c0, vi c1, vi c2, vi c3, vr a, vi 0] [(.ref a)])) rfl hml.symm (argsL := [(.ref a)]) (rest := []) (lenOf pd_16 rfl) rfl (Nat.le_of_eq rfl) (B_ at_283) rfl es_ (by decide) (by decide)
  obtain ⟨r_12, rfl, rfl, Eh12, r12_0⟩ := hQ12
  have N12 := Fr.app Ns_ (Fr.nil n0)
  refine jp_ st12 ?_
  obtain rfl : r_12 = (0 : Int32) := hD _ r12_0
  show Go_ T12 (mkF mm_ 286 #[vi p1, vi p2, vi p3, vi p4, vi p5, vi nn, vi c0, vi c1, vi c2, vi c3, vr a, vi 0] [(.int 0)])
  refine sp_ (fun t_ k_ => XS.iload X12.here hx rfl (B_ at_286) rfl  k_) ?_
  show Go_ T12 (mkF mm_ 288 #[vi p1, vi p2, vi p3, vi p4, vi p5, vi nn, vi c0, vi c1, vi c2, vi c3, vr a, vi 0] [(.int 0), (.int 0)])
  refine sp_ (fun t_ k_ => XS.icmpNo X12.here hx rfl (B_ at_288) rfl (teq (by decide : (0 : Int32) = (0 : Int32))).2 k_) ?_
  show Go_ T12 (mkF mm_ 291 #[vi p1, vi p2, vi p3, vi p4, vi p5, vi nn, vi c0, vi c1, vi c2, vi c3, vr a, vi 0] [])
  refine sp_ (fun t_ k_ => XS.iconst X12.here hx rfl (B_ at_291) (XS.goto X12.here hx rfl (pc0 := 292) (pc' := 296) rfl (B_ at_292) (by decide) (by decide) k_)) ?_
  show Go_ T12 (mkF mm_ 296 #[vi p1, vi p2, vi p3, vi p4, vi p5, vi nn, vi c0, vi c1, vi c2, vi c3, vr a, vi 0] [(.int 1)])
  obtain ⟨fs, hr, hrun, hended, hEnd⟩ := X12.leaveW hSs_ (by rw [Eh12]; exact hks_) (v := some (.int 1)) (rN Bd.returns)
  refine ⟨_, _, ?_, hrun, hended, _, _, rfl, ?_, own_IB_mono (own_IB_warm Is_ X12.warmed) (by intro t_ h_; first | exact h_ | exact List.mem_cons_of_mem _ h_ | (revert t_ h_; decide)), own_endMono hEnd (by decide) (by decide)⟩
  · exact retN X12 hx (t := .boolean) Bd.returns (by simp) (B_ at_296) hr
  · show Qrm0 Z p1 p2 p3 p4 p5 h0 n0 (some (.int 1)) T12.heap _
    rw [Eh12]
    exact ⟨rfl, N12, Ks_⟩
 have seg_l4_1 : ∀ (Ts_ : State) (locs_ : List Loc) (hs_ : Heap) (nn : Int32) (c0 : Int32) (c1 : Int32) (c2 : Int32) (c3 : Int32) (a : Addr) (t : Addr) (vms_ : Vm) (ks_ : Nat) (Xs_ : Stand pp_ l ee_ room_1 (ss_.setVm vms_) mm_ #[(.int p1), (.int p2), (.int p3), (.int p4), (.int p5)] bb_ me_ cc_ Ts_ locs_ 20 1100) (es_ : Ts_.heap = hs_) (Ns_ : Fr n0 locs_) (Ks_ : Keep h0 hs_ []) (Os_ : Old Z n0 hs_) (hSs_ : ss_.Since vms_ ks_) (hks_ : ks_ ≤ hs_.size) (hZs_ : Z.Warmed39 (ss_.setVm vms_).vm) (howns_ : (ss_.setVm vms_).vm.findClass sc2 = some mm_.cls) (Is_ : IB Z vms_ []) (sp0_ : own_Str Z hs_ a t [c0, c1, c2, c3]) (hD : ∀ r : Int32, ((¬ (own_D c0) → r = (0 : Int32)) ∧ (own_D c0 → ¬ (own_D c1) → r = (0 : Int32)) ∧ (own_D c0 → own_D c1 → ¬ (own_D c2) → r = (0 : Int32)) ∧ (own_D c0 → own_D c1 → own_D c2 → ¬ (own_D c3) → r = (0 : Int32)) ∧ (own_D c0 → own_D c1 → own_D c2 → own_D c3 → r = (1 : Int32))) → r = (1 : Int32)), own_Go pp_ ee_ bb_ (fun s₂ oo_ => s₂.status = .running ∧ Ended s₂ bb_ oo_ ∧ (∃ vv_ LL_, oo_ = .returned vv_ ∧ Qrm0 Z p1 p2 p3 p4 p5 h0 n0 vv_ s₂.heap LL_ ∧ IB Z s₂.vm [""] ∧ ReturnedEndW ss_ oo_ s₂ LL_ room_1.cells room_1.slots)) Ts_ (mkF mm_ 281 #[vi p1, vi p2, vi p3, vi p4, vi p5, vi nn, vi c0, vi c1, vi c2, vi c3, vr a, vi 1] []) := by
  intro Ts_ locs_ hs_ nn c0 c1 c2 c3 a t vms_ ks_ Xs_ es_ Ns_ Ks_ Os_ hSs_ hks_ hZs_ howns_ Is_ sp0_ hD
  show Go_ Ts_ (mkF mm_ 281 #[vi p1, vi p2, vi p3, vi p4, vi p5, vi nn, vi c0, vi c1, vi c2, vi c3, vr a, vi 1] [])
  refine sp_ (fun t_ k_ => XS.aload Xs_.here hx rfl (B_ at_281) rfl rfl k_) ?_
  obtain ⟨_, T13, Lc13, X13, hQ13, st13⟩ := own_cS Xs_ hx hZs_ howns_ (w_ hw 29 rfl) (w_ hw 30 rfl) (w_ hw 31 rfl) (w_ hw 32 rfl) (by decide) (backOf (W := 0) (rmDl4 l Z a0 hw [] a t c0 c1 c2 c3 hs_ n0 Os_ G_ sp0_) hZs_ (w_ hw 32 rfl) (w_ hw 31 rfl) (by decide) (by decide)) (g := (mkF mm_ 283 #[vi p1, vi p2, vi p3, vi p4, vi p5, vi nn, vi c0, vi c1, vi c2, vi c3, vr a, vi 1] [(.ref a)])) rfl hml.symm (argsL := [(.ref a)]) (rest := []) (lenOf pd_16 rfl) rfl (Nat.le_of_eq rfl) (B_ at_283) rfl es_ (by decide) (by decide)
  obtain ⟨r_13, rfl, rfl, Eh13, r13_0⟩ := hQ13
  have N13 := Fr.app Ns_ (Fr.nil n0)
  refine jp_ st13 ?_
  obtain rfl : r_13 = (1 : Int32) := hD _ r13_0
  show Go_ T13 (mkF mm_ 286 #[vi p1, vi p2, vi p3, vi p4, vi p5, vi nn, vi c0, vi c1, vi c2, vi c3, vr a, vi 1] [(.int 1)])
  refine sp_ (fun t_ k_ => XS.iload X13.here hx rfl (B_ at_286) rfl  k_) ?_
  show Go_ T13 (mkF mm_ 288 #[vi p1, vi p2, vi p3, vi p4, vi p5, vi nn, vi c0, vi c1, vi c2, vi c3, vr a, vi 1] [(.int 1), (.int 1)])
  refine sp_ (fun t_ k_ => XS.icmpNo X13.here hx rfl (B_ at_288) rfl (teq (by decide : (1 : Int32) = (1 : Int32))).2 k_) ?_
  show Go_ T13 (mkF mm_ 291 #[vi p1, vi p2, vi p3, vi p4, vi p5, vi nn, vi c0, vi c1, vi c2, vi c3, vr a, vi 1] [])
  refine sp_ (fun t_ k_ => XS.iconst X13.here hx rfl (B_ at_291) (XS.goto X13.here hx rfl (pc0 := 292) (pc' := 296) rfl (B_ at_292) (by decide) (by decide) k_)) ?_
  show Go_ T13 (mkF mm_ 296 #[vi p1, vi p2, vi p3, vi p4, vi p5, vi nn, vi c0, vi c1, vi c2, vi c3, vr a, vi 1] [(.int 1)])
  obtain ⟨fs, hr, hrun, hended, hEnd⟩ := X13.leaveW hSs_ (by rw [Eh13]; exact hks_) (v := some (.int 1)) (rN Bd.returns)
  refine ⟨_, _, ?_, hrun, hended, _, _, rfl, ?_, own_IB_mono (own_IB_warm Is_ X13.warmed) (by intro t_ h_; first | exact h_ | exact List.mem_cons_of_mem _ h_ | (revert t_ h_; decide)), own_endMono hEnd (by decide) (by decide)⟩
  · exact retN X13 hx (t := .boolean) Bd.returns (by simp) (B_ at_296) hr
  · show Qrm0 Z p1 p2 p3 p4 p5 h0 n0 (some (.int 1)) T13.heap _
    rw [Eh13]
    exact ⟨rfl, N13, Ks_⟩
 show Go_ s₁ (mkF mm_ 0 #[vi p1, vi p2, vi p3, vi p4, vi p5, un, un, un, un, un, un, un] [])
 refine sp_ (fun t_ k_ => XS.iloadN X0.here hx rfl (B_ at_0) rfl  k_) ?_
 show Go_ s₁ (mkF mm_ 1 #[vi p1, vi p2, vi p3, vi p4, vi p5, un, un, un, un, un, un, un] [(.int p1)])
 refine sp_ (fun t_ k_ => X0.ldcInt hx hown (mvT hZ (w_ hw 0 rfl)) (g := (mkF mm_ 1 #[vi p1, vi p2, vi p3, vi p4, vi p5, un, un, un, un, un, un, un] [(.int p1)])) rfl (B_ at_1) t_ k_) ?_
 show Go_ s₁ (mkF mm_ 3 #[vi p1, vi p2, vi p3, vi p4, vi p5, un, un, un, un, un, un, un] [(.int 2147483647), (.int p1)])
 refine sp_ (fun t_ k_ => XS.iand X0.here hx rfl (B_ at_3) rfl (XS.iconst X0.here hx rfl (B_ at_4) k_)) ?_
 show Go_ s₁ (mkF mm_ 5 #[vi p1, vi p2, vi p3, vi p4, vi p5, un, un, un, un, un, un, un] [(.int 5), (.int (p1 &&& (2147483647 : Int32)))])
 refine sp_ (fun t_ k_ => iremM (g := (mkF mm_ 5 #[vi p1, vi p2, vi p3, vi p4, vi p5, un, un, un, un, un, un, un] [(.int 5), (.int (p1 &&& (2147483647 : Int32)))])) X0 hx rfl (B_ at_5) rfl (by decide) (XS.istore X0.here hx rfl (B_ at_6) rfl (l' := #[vi p1, vi p2, vi p3, vi p4, vi p5, vi ((p1 &&& (2147483647 : Int32)) % (5 : Int32)), un, un, un, un, un, un]) rfl (XS.iloadN X0.here hx rfl (B_ at_8) rfl  k_))) ?_
 obtain ⟨_, T14, Lc14, X14, hQ14, st14⟩ := own_cS X0 hx hZ hown (w_ hw 1 rfl) (w_ hw 2 rfl) (w_ hw 3 rfl) (w_ hw 4 rfl) (by decide) (backOf (W := 0) (rmPk l Z a0 hw [] p2 h0 n0 O0 ) hZ (w_ hw 4 rfl) (w_ hw 3 rfl) (by decide) (by decide)) (g := (mkF mm_ 9 #[vi p1, vi p2, vi p3, vi p4, vi p5, vi ((p1 &&& (2147483647 : Int32)) % (5 : Int32)), un, un, un, un, un, un] [(.int p2)])) rfl hml.symm (argsL := [(.int p2)]) (rest := []) (lenOf pd_15 rfl) rfl (Nat.le_of_eq rfl) (B_ at_9) rfl e0 (by decide) (by decide)
 obtain ⟨v_14, rfl, rfl, Eh14, r14_0⟩ := hQ14
 have N14 := Fr.app N0 (Fr.nil n0)
 refine jp_ st14 ?_
 show Go_ T14 (mkF mm_ 12 #[vi p1, vi p2, vi p3, vi p4, vi p5, vi ((p1 &&& (2147483647 : Int32)) % (5 : Int32)), un, un, un, un, un, un] [(.int v_14)])
 refine sp_ (fun t_ k_ => XS.istore X14.here hx rfl (B_ at_12) rfl (l' := #[vi p1, vi p2, vi p3, vi p4, vi p5, vi ((p1 &&& (2147483647 : Int32)) % (5 : Int32)), vi v_14, un, un, un, un, un]) rfl (XS.iloadN X14.here hx rfl (B_ at_14) rfl  k_)) ?_
 obtain ⟨_, T15, Lc15, X15, hQ15, st15⟩ := own_cS X14 hx hZ hown (w_ hw 1 rfl) (w_ hw 2 rfl) (w_ hw 3 rfl) (w_ hw 4 rfl) (by decide) (backOf (W := 0) (rmPk l Z a0 hw [] p3 h0 n0 O0 ) hZ (w_ hw 4 rfl) (w_ hw 3 rfl) (by decide) (by decide)) (g := (mkF mm_ 15 #[vi p1, vi p2, vi p3, vi p4, vi p5, vi ((p1 &&& (2147483647 : Int32)) % (5 : Int32)), vi v_14, un, un, un, un, un] [(.int p3)])) rfl hml.symm (argsL := [(.int p3)]) (rest := []) (lenOf pd_15 rfl) rfl (Nat.le_of_eq rfl) (B_ at_15) rfl Eh14 (by decide) (by decide)
 obtain ⟨v_15, rfl, rfl, Eh15, r15_0⟩ := hQ15
 have N15 := Fr.app N14 (Fr.nil n0)
 refine jp_ st15 ?_
 show Go_ T15 (mkF mm_ 18 #[vi p1, vi p2, vi p3, vi p4, vi p5, vi ((p1 &&& (2147483647 : Int32)) % (5 : Int32)), vi v_14, un, un, un, un, un] [(.int v_15)])
 refine sp_ (fun t_ k_ => XS.istore X15.here hx rfl (B_ at_18) rfl (l' := #[vi p1, vi p2, vi p3, vi p4, vi p5, vi ((p1 &&& (2147483647 : Int32)) % (5 : Int32)), vi v_14, vi v_15, un, un, un, un]) rfl (XS.iloadN X15.here hx rfl (B_ at_20) rfl  k_)) ?_
 obtain ⟨_, T16, Lc16, X16, hQ16, st16⟩ := own_cS X15 hx hZ hown (w_ hw 1 rfl) (w_ hw 2 rfl) (w_ hw 3 rfl) (w_ hw 4 rfl) (by decide) (backOf (W := 0) (rmPk l Z a0 hw [] p4 h0 n0 O0 ) hZ (w_ hw 4 rfl) (w_ hw 3 rfl) (by decide) (by decide)) (g := (mkF mm_ 21 #[vi p1, vi p2, vi p3, vi p4, vi p5, vi ((p1 &&& (2147483647 : Int32)) % (5 : Int32)), vi v_14, vi v_15, un, un, un, un] [(.int p4)])) rfl hml.symm (argsL := [(.int p4)]) (rest := []) (lenOf pd_15 rfl) rfl (Nat.le_of_eq rfl) (B_ at_21) rfl Eh15 (by decide) (by decide)
 obtain ⟨v_16, rfl, rfl, Eh16, r16_0⟩ := hQ16
 have N16 := Fr.app N15 (Fr.nil n0)
 refine jp_ st16 ?_
 show Go_ T16 (mkF mm_ 24 #[vi p1, vi p2, vi p3, vi p4, vi p5, vi ((p1 &&& (2147483647 : Int32)) % (5 : Int32)), vi v_14, vi v_15, un, un, un, un] [(.int v_16)])
 refine sp_ (fun t_ k_ => XS.istore X16.here hx rfl (B_ at_24) rfl (l' := #[vi p1, vi p2, vi p3, vi p4, vi p5, vi ((p1 &&& (2147483647 : Int32)) % (5 : Int32)), vi v_14, vi v_15, vi v_16, un, un, un]) rfl (XS.iload X16.here hx rfl (B_ at_26) rfl  k_)) ?_
 obtain ⟨_, T17, Lc17, X17, hQ17, st17⟩ := own_cS X16 hx hZ hown (w_ hw 1 rfl) (w_ hw 2 rfl) (w_ hw 3 rfl) (w_ hw 4 rfl) (by decide) (backOf (W := 0) (rmPk l Z a0 hw [] p5 h0 n0 O0 ) hZ (w_ hw 4 rfl) (w_ hw 3 rfl) (by decide) (by decide)) (g := (mkF mm_ 28 #[vi p1, vi p2, vi p3, vi p4, vi p5, vi ((p1 &&& (2147483647 : Int32)) % (5 : Int32)), vi v_14, vi v_15, vi v_16, un, un, un] [(.int p5)])) rfl hml.symm (argsL := [(.int p5)]) (rest := []) (lenOf pd_15 rfl) rfl (Nat.le_of_eq rfl) (B_ at_28) rfl Eh16 (by decide) (by decide)
 obtain ⟨v_17, rfl, rfl, Eh17, r17_0⟩ := hQ17
 have N17 := Fr.app N16 (Fr.nil n0)
 refine jp_ st17 ?_
 show Go_ T17 (mkF mm_ 31 #[vi p1, vi p2, vi p3, vi p4, vi p5, vi ((p1 &&& (2147483647 : Int32)) % (5 : Int32)), vi v_14, vi v_15, vi v_16, un, un, un] [(.int v_17)])
 refine sp_ (fun t_ k_ => XS.istore X17.here hx rfl (B_ at_31) rfl (l' := #[vi p1, vi p2, vi p3, vi p4, vi p5, vi ((p1 &&& (2147483647 : Int32)) % (5 : Int32)), vi v_14, vi v_15, vi v_16, vi v_17, un, un]) rfl (XS.iload X17.here hx rfl (B_ at_33) rfl  k_)) ?_
 show Go_ T17 (mkF mm_ 35 #[vi p1, vi p2, vi p3, vi p4, vi p5, vi ((p1 &&& (2147483647 : Int32)) % (5 : Int32)), vi v_14, vi v_15, vi v_16, vi v_17, un, un] [(.int ((p1 &&& (2147483647 : Int32)) % (5 : Int32)))])
 by_cases hc35_18 : ((p1 &&& (2147483647 : Int32)) % (5 : Int32)) = (0 : Int32)
 · skip
   refine sp_ (fun t_ k_ => XS.ifNo X17.here hx rfl (B_ at_35) rfl ((if0 _ _).trans (teq hc35_18).2) k_) ?_
   obtain ⟨T19, h19, X19, e19, E19, A19, D19, -, st19⟩ := newO X17 hx hZ hown (w_ hw 7 rfl) (w_ hw 8 rfl) (w_ hw 9 rfl) Eh17 (g := (mkF mm_ 38 #[vi p1, vi p2, vi p3, vi p4, vi p5, vi ((p1 &&& (2147483647 : Int32)) % (5 : Int32)), vi v_14, vi v_15, vi v_16, vi v_17, un, un] [])) rfl (B_ at_38) (by decide) (by decide)
   obtain ⟨b19, q19⟩ : ∃ z, z = h0.size := ⟨_, rfl⟩
   rw [← q19] at A19 D19 st19
   have lo_b19 : h0.size ≤ b19 := Nat.le_trans K0.1 (Nat.le_of_eq q19.symm)
   have g_b19 : n0 ≤ b19 := Nat.le_trans Z0 lo_b19
   refine sp_ st19 ?_
   have F19_value : Fld Z h19 b19 sc0 "value" "[B" .null := D19 (Or.inr (w_ hw 23 rfl)) (ty := (.array .byte)) (by decide)
   have F19_coder : Fld Z h19 b19 sc0 "coder" "B" (.int 0) := D19 (Or.inr (w_ hw 24 rfl)) (ty := .byte) (by decide)
   show Go_ T19 (mkF mm_ 41 #[vi p1, vi p2, vi p3, vi p4, vi p5, vi ((p1 &&& (2147483647 : Int32)) % (5 : Int32)), vi v_14, vi v_15, vi v_16, vi v_17, un, un] [(.ref b19)])
   refine sp_ (fun t_ k_ => XS.dup X19.here hx rfl (B_ at_41) rfl rfl (XS.iconst X19.here hx rfl (B_ at_42) k_)) ?_
   obtain ⟨T20, h20, k20, X20, e20, E20, A20, st20⟩ := newP X19 hx hZ (w_ hw 10 rfl) e19 (g := (mkF mm_ 43 #[vi p1, vi p2, vi p3, vi p4, vi p5, vi ((p1 &&& (2147483647 : Int32)) % (5 : Int32)), vi v_14, vi v_15, vi v_16, vi v_17, un, un] [(.int 0), (.ref b19), (.ref b19)])) rfl (B_ at_43) rfl (by decide) (cap := 0) (by decide) (by decide) (by decide) (by decide)
   obtain ⟨b20, q20⟩ : ∃ z, z = h19.size := ⟨_, rfl⟩
   rw [← q20] at A20 st20
   have K21 : Keep h0 h19 [] := (K0.ext E19)
   have lo_b20 : h0.size ≤ b20 := Nat.le_trans K21.1 (Nat.le_of_eq q20.symm)
   have g_b20 : n0 ≤ b20 := Nat.le_trans Z0 lo_b20
   refine sp_ st20 ?_
   have V20 : Arv Z h20 b20 k20 .char (0 : Int32) [] (.int 0) := (Arv.new A20 (by decide)).pad (pad_rep [] (.int 0) 0)
   have f23 : Exa Z h20 b19 sc0 := (A19.ext E20)
   have f24 : Fld Z h20 b19 sc0 "value" "[B" .null := (F19_value.ext E20)
   have f25 : Fld Z h20 b19 sc0 "coder" "B" (.int 0) := (F19_coder.ext E20)
   have O26 : Old Z n0 h20 := ((O0.ext E19).ext E20)
   obtain ⟨_, _, ⟨T22, Lx22, kx22, nx22⟩, -, X22, hS22, hG22, ⟨Lc22, hQ22, l22, y22, z22⟩, st22⟩ := X20.specialBackS hx (y := ym4) rfl hown (mvT hZ (w_ hw 11 rfl)) (mvT hZ (w_ hw 12 rfl)) (mvT hZ (w_ hw 13 rfl)) (by decide) (own_backI (J := fun q_ => IB Z q_ []) (J' := fun q_ => IB Z q_ ("" :: [])) (W := 1) (rmI1 l Z a0 hw [] b19 b20 k20 (.int 0) [] h20 n0 O26 G_ f23 f24 f25 g_b19 (by first | assumption | decide | (simp; done)) V20) hZ (w_ hw 13 rfl) (w_ hw 9 rfl) (by decide) (by decide)) (g := (mkF mm_ 45 #[vi p1, vi p2, vi p3, vi p4, vi p5, vi ((p1 &&& (2147483647 : Int32)) % (5 : Int32)), vi v_14, vi v_15, vi v_16, vi v_17, un, un] [(.ref b20), (.ref b19), (.ref b19)])) rfl hml.symm (Steps.refl _) (a := b19) (argsL := [(.ref b20)]) (rest := [(.ref b19)]) (lenOf pd_17 rfl) rfl (Nat.le_of_eq rfl) (B_ at_45) (fun vm_ hvm_ => ⟨rfl, e20, (by decide : 2 + 2 ≤ _), (by decide : 4 + 4 ≤ _), own_IB_mono (own_IB_warm hI hvm_) (by intro t_ h_; first | exact h_ | exact List.mem_cons_of_mem _ h_ | (revert t_ h_; decide))⟩)
   dsimp only [Pt.U, Pt.locs, Pt.cells, Pt.slots] at X22 l22 y22 z22 st22 hQ22 hS22 hG22
   subst l22 y22 z22
   obtain ⟨X22, hS22, hZ22, hown22⟩ := rebS (n1 := h20.size) hS0 (Nat.le_trans (Nat.le_trans (Nat.zero_le _) E19.1) E20.1) X22 hS22 (by rw [← e20]; exact hG22) hZ hown
   obtain ⟨hQ22, hIq22⟩ := hQ22
   obtain ⟨t_22, rfl, Nq22, Kc22, r22_0⟩ := hQ22
   have N22 := Fr.app N17 Nq22
   refine jp_ st22 ?_
   show Go_ T22 (mkF mm_ 48 #[vi p1, vi p2, vi p3, vi p4, vi p5, vi ((p1 &&& (2147483647 : Int32)) % (5 : Int32)), vi v_14, vi v_15, vi v_16, vi v_17, un, un] [(.ref b19)])
   refine sp_ (fun t_ k_ => XS.astore X22.here hx rfl (B_ at_48) rfl rfl (l' := #[vi p1, vi p2, vi p3, vi p4, vi p5, vi ((p1 &&& (2147483647 : Int32)) % (5 : Int32)), vi v_14, vi v_15, vi v_16, vi v_17, vr b19, un]) rfl (XS.iconst X22.here hx rfl (B_ at_50) (XS.istore X22.here hx rfl (B_ at_51) rfl (l' := #[vi p1, vi p2, vi p3, vi p4, vi p5, vi ((p1 &&& (2147483647 : Int32)) % (5 : Int32)), vi v_14, vi v_15, vi v_16, vi v_17, vr b19, vi 0]) rfl (XS.goto X22.here hx rfl (pc0 := 53) (pc' := 281) rfl (B_ at_53) (by decide) (by decide) k_)))) ?_
   have K27 : Keep h0 T22.heap [] := ((K21.ext E20).trans Kc22 (allS (Or.inr lo_b19) all0))
   have O28 : Old Z n0 T22.heap := (O26.keep Kc22 (allS g_b19 all0))
   exact seg_l0_0 _ _ _ ((p1 &&& (2147483647 : Int32)) % (5 : Int32)) v_14 v_15 v_16 v_17 b19 t_22 _ _ (X22.more (by decide) (by decide)) rfl N22 K27 O28 hS22 (Nat.le_refl _) hZ22 hown22 (own_IB_mono hIq22 (by intro t_ h_; first | exact h_ | exact List.mem_cons_of_mem _ h_ | (revert t_ h_; decide))) r22_0 (fun r h_ => h_ )
 · skip
   refine sp_ (fun t_ k_ => XS.ifYes X17.here hx rfl (pc0 := 35) (pc' := 56) rfl (B_ at_35) rfl ((if0 _ _).trans (feq hc35_18).2) (by decide) (by decide) k_) ?_
   show Go_ T17 (mkF mm_ 56 #[vi p1, vi p2, vi p3, vi p4, vi p5, vi ((p1 &&& (2147483647 : Int32)) % (5 : Int32)), vi v_14, vi v_15, vi v_16, vi v_17, un, un] [])
   refine sp_ (fun t_ k_ => XS.iload X17.here hx rfl (B_ at_56) rfl  (XS.iconst X17.here hx rfl (B_ at_58) k_)) ?_
   show Go_ T17 (mkF mm_ 59 #[vi p1, vi p2, vi p3, vi p4, vi p5, vi ((p1 &&& (2147483647 : Int32)) % (5 : Int32)), vi v_14, vi v_15, vi v_16, vi v_17, un, un] [(.int 1), (.int ((p1 &&& (2147483647 : Int32)) % (5 : Int32)))])
   by_cases hc59_29 : ((p1 &&& (2147483647 : Int32)) % (5 : Int32)) = (1 : Int32)
   · skip
     refine sp_ (fun t_ k_ => XS.icmpNo X17.here hx rfl (B_ at_59) rfl (teq hc59_29).2 k_) ?_
     obtain ⟨T30, h30, X30, e30, E30, A30, D30, -, st30⟩ := newO X17 hx hZ hown (w_ hw 7 rfl) (w_ hw 8 rfl) (w_ hw 9 rfl) Eh17 (g := (mkF mm_ 62 #[vi p1, vi p2, vi p3, vi p4, vi p5, vi ((p1 &&& (2147483647 : Int32)) % (5 : Int32)), vi v_14, vi v_15, vi v_16, vi v_17, un, un] [])) rfl (B_ at_62) (by decide) (by decide)
     obtain ⟨b30, q30⟩ : ∃ z, z = h0.size := ⟨_, rfl⟩
     rw [← q30] at A30 D30 st30
     have lo_b30 : h0.size ≤ b30 := Nat.le_trans K0.1 (Nat.le_of_eq q30.symm)
     have g_b30 : n0 ≤ b30 := Nat.le_trans Z0 lo_b30
     refine sp_ st30 ?_
     have F30_value : Fld Z h30 b30 sc0 "value" "[B" .null := D30 (Or.inr (w_ hw 23 rfl)) (ty := (.array .byte)) (by decide)
     have F30_coder : Fld Z h30 b30 sc0 "coder" "B" (.int 0) := D30 (Or.inr (w_ hw 24 rfl)) (ty := .byte) (by decide)
     show Go_ T30 (mkF mm_ 65 #[vi p1, vi p2, vi p3, vi p4, vi p5, vi ((p1 &&& (2147483647 : Int32)) % (5 : Int32)), vi v_14, vi v_15, vi v_16, vi v_17, un, un] [(.ref b30)])
     refine sp_ (fun t_ k_ => XS.dup X30.here hx rfl (B_ at_65) rfl rfl (XS.iconst X30.here hx rfl (B_ at_66) k_)) ?_
     obtain ⟨T31, h31, k31, X31, e31, E31, A31, st31⟩ := newP X30 hx hZ (w_ hw 10 rfl) e30 (g := (mkF mm_ 67 #[vi p1, vi p2, vi p3, vi p4, vi p5, vi ((p1 &&& (2147483647 : Int32)) % (5 : Int32)), vi v_14, vi v_15, vi v_16, vi v_17, un, un] [(.int 1), (.ref b30), (.ref b30)])) rfl (B_ at_67) rfl (by decide) (cap := 1) (by decide) (by decide) (by decide) (by decide)
     obtain ⟨b31, q31⟩ : ∃ z, z = h30.size := ⟨_, rfl⟩
     rw [← q31] at A31 st31
     have K32 : Keep h0 h30 [] := (K0.ext E30)
     have lo_b31 : h0.size ≤ b31 := Nat.le_trans K32.1 (Nat.le_of_eq q31.symm)
     have g_b31 : n0 ≤ b31 := Nat.le_trans Z0 lo_b31
     refine sp_ st31 ?_
     have V31 : Arv Z h31 b31 k31 .char (1 : Int32) [(.int 0)] (.int 0) := (Arv.new A31 (by decide)).pad (pad_rep [] (.int 0) 1)
     show Go_ T31 (mkF mm_ 69 #[vi p1, vi p2, vi p3, vi p4, vi p5, vi ((p1 &&& (2147483647 : Int32)) % (5 : Int32)), vi v_14, vi v_15, vi v_16, vi v_17, un, un] [(.ref b31), (.ref b30), (.ref b30)])
     refine sp_ (fun t_ k_ => XS.dup X31.here hx rfl (B_ at_69) rfl rfl (XS.iconst X31.here hx rfl (B_ at_70) (XS.iload X31.here hx rfl (B_ at_71) rfl  k_))) ?_
     obtain ⟨cl33, Ar33, q33, S33, M33, H33, G33⟩ := id V31
     have hin33 : ¬ ((0 : Int32) < 0 ∨ cl33.slots.size ≤ ((0 : Int32)).toNatClampNeg) := inb_of S33 ⟨by decide, by decide⟩
     obtain ⟨T33, h33, X33, e33, W33, st33⟩ := stC X31 hx hZ e31 Ar33 (j := (0 : Int32)) hin33 (g := (mkF mm_ 73 #[vi p1, vi p2, vi p3, vi p4, vi p5, vi ((p1 &&& (2147483647 : Int32)) % (5 : Int32)), vi v_14, vi v_15, vi v_16, vi v_17, un, un] [(.int v_14), (.int 0), (.ref b31), (.ref b31), (.ref b30), (.ref b30)])) rfl rfl (B_ at_73)
     have V33 : Arv Z h33 b31 k31 .char (1 : Int32) [(.int v_14)] (.int 0) := by
      have q := Arv.set Ar33 q33 S33 M33 H33 G33 (fits_nar_char _) W33 0 rfl (Nat.le_of_ble_eq_true rfl)
      rw [own_narLit _ r14_0.1 r14_0.2] at q
      exact q
     have N33 := Fr.snoc X33 N17 g_b31
     refine sp_ st33 ?_
     show Go_ T33 (mkF mm_ 74 #[vi p1, vi p2, vi p3, vi p4, vi p5, vi ((p1 &&& (2147483647 : Int32)) % (5 : Int32)), vi v_14, vi v_15, vi v_16, vi v_17, un, un] [(.ref b31), (.ref b30), (.ref b30)])
     by_cases hv34 : (255 : Int32) < v_14
     · skip
       have f36 : Exa Z h33 b30 sc0 := ((A30.ext E31).wr W33)
       have f37 : Fld Z h33 b30 sc0 "value" "[B" .null := ((F30_value.ext E31).other W33 (Or.inl (Nat.ne_of_lt (Nat.lt_of_lt_of_le A30.lt (Nat.le_of_eq q31.symm)))))
       have f38 : Fld Z h33 b30 sc0 "coder" "B" (.int 0) := ((F30_coder.ext E31).other W33 (Or.inl (Nat.ne_of_lt (Nat.lt_of_lt_of_le A30.lt (Nat.le_of_eq q31.symm)))))
       have O39 : Old Z n0 h33 := (((O0.ext E30).ext E31).wr W33 g_b31)
       obtain ⟨_, T35, Lc35, X35, hQ35, st35⟩ := own_cI X33 hx hZ rfl hown (w_ hw 11 rfl) (w_ hw 12 rfl) (w_ hw 13 rfl) (by decide) (backOf (W := 1) (rmI11 l Z a0 hw [] b30 b31 k31 v_14 h33 n0 O39 G_ f36 f37 f38 g_b30 V33 r14_0 hv34) hZ (w_ hw 13 rfl) (w_ hw 9 rfl) (by decide) (by decide)) (g := (mkF mm_ 74 #[vi p1, vi p2, vi p3, vi p4, vi p5, vi ((p1 &&& (2147483647 : Int32)) % (5 : Int32)), vi v_14, vi v_15, vi v_16, vi v_17, un, un] [(.ref b31), (.ref b30), (.ref b30)])) rfl hml.symm (a := b30) (argsL := [(.ref b31)]) (rest := [(.ref b30)]) (lenOf pd_17 rfl) rfl (Nat.le_of_eq rfl) (B_ at_74) rfl e33 (by decide) (by decide)
       obtain ⟨r_35, k_35, rfl, Nq35, Kc35, r35_0, r35_1, r35_2, r35_3⟩ := hQ35
       have N35 := Fr.app N33 Nq35
       have K40 : Keep h0 h33 [] := ((K32.ext E31).wr W33 (Or.inr lo_b31))
       have lo_r_35 : h0.size ≤ r_35 := Nat.le_trans K40.1 r35_0
       have g_r_35 : n0 ≤ r_35 := Nat.le_trans Z0 lo_r_35
       refine jp_ st35 ?_
       show Go_ T35 (mkF mm_ 77 #[vi p1, vi p2, vi p3, vi p4, vi p5, vi ((p1 &&& (2147483647 : Int32)) % (5 : Int32)), vi v_14, vi v_15, vi v_16, vi v_17, un, un] [(.ref b30)])
       refine sp_ (fun t_ k_ => XS.astore X35.here hx rfl (B_ at_77) rfl rfl (l' := #[vi p1, vi p2, vi p3, vi p4, vi p5, vi ((p1 &&& (2147483647 : Int32)) % (5 : Int32)), vi v_14, vi v_15, vi v_16, vi v_17, vr b30, un]) rfl (XS.iload X35.here hx rfl (B_ at_79) rfl  k_)) ?_
       have O42 : Old Z n0 T35.heap := (O39.keep Kc35 (allS g_b30 all0))
       obtain ⟨_, T41, Lc41, X41, hQ41, st41⟩ := own_cS X35 hx hZ hown (w_ hw 49 rfl) (w_ hw 50 rfl) (w_ hw 3 rfl) (w_ hw 51 rfl) (by decide) (backOf (W := 0) (rmDg l Z a0 hw [] v_14 T35.heap n0 O42 ) hZ (w_ hw 51 rfl) (w_ hw 3 rfl) (by decide) (by decide)) (g := (mkF mm_ 81 #[vi p1, vi p2, vi p3, vi p4, vi p5, vi ((p1 &&& (2147483647 : Int32)) % (5 : Int32)), vi v_14, vi v_15, vi v_16, vi v_17, vr b30, un] [(.int v_14)])) rfl hml.symm (argsL := [(.int v_14)]) (rest := []) (lenOf pd_18 rfl) rfl (Nat.le_of_eq rfl) (B_ at_81) rfl rfl (by decide) (by decide)
       obtain ⟨r_41, rfl, rfl, Eh41, r41_0⟩ := hQ41
       have N41 := Fr.app N35 (Fr.nil n0)
       refine jp_ st41 ?_
       rcases r41_0 with ⟨rfl, hd41⟩ | ⟨rfl, hd41⟩
       · exact absurd hd41 (fun q_ => q_.2 (own_big hv34).2)
       · skip
         show Go_ T41 (mkF mm_ 84 #[vi p1, vi p2, vi p3, vi p4, vi p5, vi ((p1 &&& (2147483647 : Int32)) % (5 : Int32)), vi v_14, vi v_15, vi v_16, vi v_17, vr b30, un] [(.int 0)])
         refine sp_ (fun t_ k_ => XS.istore X41.here hx rfl (B_ at_84) rfl (l' := #[vi p1, vi p2, vi p3, vi p4, vi p5, vi ((p1 &&& (2147483647 : Int32)) % (5 : Int32)), vi v_14, vi v_15, vi v_16, vi v_17, vr b30, vi 0]) rfl (XS.goto X41.here hx rfl (pc0 := 86) (pc' := 281) rfl (B_ at_86) (by decide) (by decide) k_)) ?_
         have f43 : Exa Z T35.heap b30 sc0 := (f36.keep Kc35)
         have K44 : Keep h0 T35.heap [] := (K40.trans Kc35 (allS (Or.inr lo_b30) all0))
         exact seg_w1 _ _ _ ((p1 &&& (2147483647 : Int32)) % (5 : Int32)) v_14 v_15 v_16 v_17 b30 r_35 k_35 _ _ (X41.more (by decide) (by decide)) Eh41 N41 K44 O42 hS0 (Nat.le_trans (Nat.le_trans (Nat.le_trans (Nat.le_trans (Nat.zero_le _) E30.1) E31.1) (Keep.of_wr W33).1) Kc35.1) hZ hown (own_IB_mono hI (by intro t_ h_; first | exact h_ | exact List.mem_cons_of_mem _ h_ | (revert t_ h_; decide))) f43 r35_2 r35_1 r35_3 r14_0 hv34
     · skip
       have hp46 : ∀ ch_ ∈ ([v_14] : List Int32), ¬ ch_ < 0 ∧ ¬ (255 : Int32) < ch_ := by
        intro ch_ hc
        simp only [List.mem_cons, List.not_mem_nil, or_false] at hc
        subst hc
        exact ⟨r14_0.1, hv34⟩
       have f47 : Exa Z h33 b30 sc0 := ((A30.ext E31).wr W33)
       have f48 : Fld Z h33 b30 sc0 "value" "[B" .null := ((F30_value.ext E31).other W33 (Or.inl (Nat.ne_of_lt (Nat.lt_of_lt_of_le A30.lt (Nat.le_of_eq q31.symm)))))
       have f49 : Fld Z h33 b30 sc0 "coder" "B" (.int 0) := ((F30_coder.ext E31).other W33 (Or.inl (Nat.ne_of_lt (Nat.lt_of_lt_of_le A30.lt (Nat.le_of_eq q31.symm)))))
       have O50 : Old Z n0 h33 := (((O0.ext E30).ext E31).wr W33 g_b31)
       have K51 : Keep h0 h33 [] := ((K32.ext E31).wr W33 (Or.inr lo_b31))
       obtain ⟨_, T45, Lc45, X45, hQ45, st45⟩ := own_cI X33 hx hZ rfl hown (w_ hw 11 rfl) (w_ hw 12 rfl) (w_ hw 13 rfl) (by decide) (own_newS (W := 1) hZ hw (cs := [v_14]) (n := 1) g_b30 (Nat.le_trans Z0 K51.1) f47 f48 f49 V33 (G_cs.ext O50.2) G_cs0 rfl rfl rfl (by decide) (by decide) hp46 (by decide) (by decide)) (g := (mkF mm_ 74 #[vi p1, vi p2, vi p3, vi p4, vi p5, vi ((p1 &&& (2147483647 : Int32)) % (5 : Int32)), vi v_14, vi v_15, vi v_16, vi v_17, un, un] [(.ref b31), (.ref b30), (.ref b30)])) rfl hml.symm (a := b30) (argsL := [(.ref b31)]) (rest := [(.ref b30)]) (lenOf pd_17 rfl) rfl (Nat.le_of_eq rfl) (B_ at_74) rfl e33 (by decide) (by decide)
       obtain ⟨t45, rfl, Nq45, Kc45, lo45, Fs45⟩ := hQ45
       have N45 := Fr.app N33 Nq45
       have lo_t45 : h0.size ≤ t45 := Nat.le_trans K51.1 lo45
       have g_t45 : n0 ≤ t45 := Nat.le_trans Z0 lo_t45
       refine jp_ st45 ?_
       show Go_ T45 (mkF mm_ 77 #[vi p1, vi p2, vi p3, vi p4, vi p5, vi ((p1 &&& (2147483647 : Int32)) % (5 : Int32)), vi v_14, vi v_15, vi v_16, vi v_17, un, un] [(.ref b30)])
       refine sp_ (fun t_ k_ => XS.astore X45.here hx rfl (B_ at_77) rfl rfl (l' := #[vi p1, vi p2, vi p3, vi p4, vi p5, vi ((p1 &&& (2147483647 : Int32)) % (5 : Int32)), vi v_14, vi v_15, vi v_16, vi v_17, vr b30, un]) rfl (XS.iload X45.here hx rfl (B_ at_79) rfl  k_)) ?_
       have O53 : Old Z n0 T45.heap := (O50.keep Kc45 (allS g_b30 all0))
       obtain ⟨_, T52, Lc52, X52, hQ52, st52⟩ := own_cS X45 hx hZ hown (w_ hw 49 rfl) (w_ hw 50 rfl) (w_ hw 3 rfl) (w_ hw 51 rfl) (by decide) (backOf (W := 0) (rmDg l Z a0 hw [] v_14 T45.heap n0 O53 ) hZ (w_ hw 51 rfl) (w_ hw 3 rfl) (by decide) (by decide)) (g := (mkF mm_ 81 #[vi p1, vi p2, vi p3, vi p4, vi p5, vi ((p1 &&& (2147483647 : Int32)) % (5 : Int32)), vi v_14, vi v_15, vi v_16, vi v_17, vr b30, un] [(.int v_14)])) rfl hml.symm (argsL := [(.int v_14)]) (rest := []) (lenOf pd_18 rfl) rfl (Nat.le_of_eq rfl) (B_ at_81) rfl rfl (by decide) (by decide)
       obtain ⟨r_52, rfl, rfl, Eh52, r52_0⟩ := hQ52
       have N52 := Fr.app N45 (Fr.nil n0)
       refine jp_ st52 ?_
       rcases r52_0 with ⟨rfl, hd52⟩ | ⟨rfl, hd52⟩
       · skip
         show Go_ T52 (mkF mm_ 84 #[vi p1, vi p2, vi p3, vi p4, vi p5, vi ((p1 &&& (2147483647 : Int32)) % (5 : Int32)), vi v_14, vi v_15, vi v_16, vi v_17, vr b30, un] [(.int 1)])
         refine sp_ (fun t_ k_ => XS.istore X52.here hx rfl (B_ at_84) rfl (l' := #[vi p1, vi p2, vi p3, vi p4, vi p5, vi ((p1 &&& (2147483647 : Int32)) % (5 : Int32)), vi v_14, vi v_15, vi v_16, vi v_17, vr b30, vi 1]) rfl (XS.goto X52.here hx rfl (pc0 := 86) (pc' := 281) rfl (B_ at_86) (by decide) (by decide) k_)) ?_
         have K54 : Keep h0 T45.heap [] := (K51.trans Kc45 (allS (Or.inr lo_b30) all0))
         exact seg_l1_1 _ _ _ ((p1 &&& (2147483647 : Int32)) % (5 : Int32)) v_14 v_15 v_16 v_17 b30 t45 _ _ (X52.more (by decide) (by decide)) Eh52 N52 K54 O53 hS0 (Nat.le_trans (Nat.le_trans (Nat.le_trans (Nat.le_trans (Nat.zero_le _) E30.1) E31.1) (Keep.of_wr W33).1) Kc45.1) hZ hown (own_IB_mono hI (by intro t_ h_; first | exact h_ | exact List.mem_cons_of_mem _ h_ | (revert t_ h_; decide))) Fs45 (fun r h_ => h_.2 hd52)
       · skip
         show Go_ T52 (mkF mm_ 84 #[vi p1, vi p2, vi p3, vi p4, vi p5, vi ((p1 &&& (2147483647 : Int32)) % (5 : Int32)), vi v_14, vi v_15, vi v_16, vi v_17, vr b30, un] [(.int 0)])
         refine sp_ (fun t_ k_ => XS.istore X52.here hx rfl (B_ at_84) rfl (l' := #[vi p1, vi p2, vi p3, vi p4, vi p5, vi ((p1 &&& (2147483647 : Int32)) % (5 : Int32)), vi v_14, vi v_15, vi v_16, vi v_17, vr b30, vi 0]) rfl (XS.goto X52.here hx rfl (pc0 := 86) (pc' := 281) rfl (B_ at_86) (by decide) (by decide) k_)) ?_
         have K55 : Keep h0 T45.heap [] := (K51.trans Kc45 (allS (Or.inr lo_b30) all0))
         exact seg_l1_0 _ _ _ ((p1 &&& (2147483647 : Int32)) % (5 : Int32)) v_14 v_15 v_16 v_17 b30 t45 _ _ (X52.more (by decide) (by decide)) Eh52 N52 K55 O53 hS0 (Nat.le_trans (Nat.le_trans (Nat.le_trans (Nat.le_trans (Nat.zero_le _) E30.1) E31.1) (Keep.of_wr W33).1) Kc45.1) hZ hown (own_IB_mono hI (by intro t_ h_; first | exact h_ | exact List.mem_cons_of_mem _ h_ | (revert t_ h_; decide))) Fs45 (fun r h_ => h_.1 hd52)
   · skip
     refine sp_ (fun t_ k_ => XS.icmpYes X17.here hx rfl (pc0 := 59) (pc' := 89) rfl (B_ at_59) rfl (feq hc59_29).2 (by decide) (by decide) k_) ?_
     show Go_ T17 (mkF mm_ 89 #[vi p1, vi p2, vi p3, vi p4, vi p5, vi ((p1 &&& (2147483647 : Int32)) % (5 : Int32)), vi v_14, vi v_15, vi v_16, vi v_17, un, un] [])
     refine sp_ (fun t_ k_ => XS.iload X17.here hx rfl (B_ at_89) rfl  (XS.iconst X17.here hx rfl (B_ at_91) k_)) ?_
     show Go_ T17 (mkF mm_ 92 #[vi p1, vi p2, vi p3, vi p4, vi p5, vi ((p1 &&& (2147483647 : Int32)) % (5 : Int32)), vi v_14, vi v_15, vi v_16, vi v_17, un, un] [(.int 2), (.int ((p1 &&& (2147483647 : Int32)) % (5 : Int32)))])
     by_cases hc92_56 : ((p1 &&& (2147483647 : Int32)) % (5 : Int32)) = (2 : Int32)
     · skip
       refine sp_ (fun t_ k_ => XS.icmpNo X17.here hx rfl (B_ at_92) rfl (teq hc92_56).2 k_) ?_
       obtain ⟨T57, h57, X57, e57, E57, A57, D57, -, st57⟩ := newO X17 hx hZ hown (w_ hw 7 rfl) (w_ hw 8 rfl) (w_ hw 9 rfl) Eh17 (g := (mkF mm_ 95 #[vi p1, vi p2, vi p3, vi p4, vi p5, vi ((p1 &&& (2147483647 : Int32)) % (5 : Int32)), vi v_14, vi v_15, vi v_16, vi v_17, un, un] [])) rfl (B_ at_95) (by decide) (by decide)
       obtain ⟨b57, q57⟩ : ∃ z, z = h0.size := ⟨_, rfl⟩
       rw [← q57] at A57 D57 st57
       have lo_b57 : h0.size ≤ b57 := Nat.le_trans K0.1 (Nat.le_of_eq q57.symm)
       have g_b57 : n0 ≤ b57 := Nat.le_trans Z0 lo_b57
       refine sp_ st57 ?_
       have F57_value : Fld Z h57 b57 sc0 "value" "[B" .null := D57 (Or.inr (w_ hw 23 rfl)) (ty := (.array .byte)) (by decide)
       have F57_coder : Fld Z h57 b57 sc0 "coder" "B" (.int 0) := D57 (Or.inr (w_ hw 24 rfl)) (ty := .byte) (by decide)
       show Go_ T57 (mkF mm_ 98 #[vi p1, vi p2, vi p3, vi p4, vi p5, vi ((p1 &&& (2147483647 : Int32)) % (5 : Int32)), vi v_14, vi v_15, vi v_16, vi v_17, un, un] [(.ref b57)])
       refine sp_ (fun t_ k_ => XS.dup X57.here hx rfl (B_ at_98) rfl rfl (XS.iconst X57.here hx rfl (B_ at_99) k_)) ?_
       obtain ⟨T58, h58, k58, X58, e58, E58, A58, st58⟩ := newP X57 hx hZ (w_ hw 10 rfl) e57 (g := (mkF mm_ 100 #[vi p1, vi p2, vi p3, vi p4, vi p5, vi ((p1 &&& (2147483647 : Int32)) % (5 : Int32)), vi v_14, vi v_15, vi v_16, vi v_17, un, un] [(.int 2), (.ref b57), (.ref b57)])) rfl (B_ at_100) rfl (by decide) (cap := 2) (by decide) (by decide) (by decide) (by decide)
       obtain ⟨b58, q58⟩ : ∃ z, z = h57.size := ⟨_, rfl⟩
       rw [← q58] at A58 st58
       have K59 : Keep h0 h57 [] := (K0.ext E57)
       have lo_b58 : h0.size ≤ b58 := Nat.le_trans K59.1 (Nat.le_of_eq q58.symm)
       have g_b58 : n0 ≤ b58 := Nat.le_trans Z0 lo_b58
       refine sp_ st58 ?_
       have V58 : Arv Z h58 b58 k58 .char (2 : Int32) [(.int 0), (.int 0)] (.int 0) := (Arv.new A58 (by decide)).pad (pad_rep [] (.int 0) 2)
       show Go_ T58 (mkF mm_ 102 #[vi p1, vi p2, vi p3, vi p4, vi p5, vi ((p1 &&& (2147483647 : Int32)) % (5 : Int32)), vi v_14, vi v_15, vi v_16, vi v_17, un, un] [(.ref b58), (.ref b57), (.ref b57)])
       refine sp_ (fun t_ k_ => XS.dup X58.here hx rfl (B_ at_102) rfl rfl (XS.iconst X58.here hx rfl (B_ at_103) (XS.iload X58.here hx rfl (B_ at_104) rfl  k_))) ?_
       obtain ⟨cl60, Ar60, q60, S60, M60, H60, G60⟩ := id V58
       have hin60 : ¬ ((0 : Int32) < 0 ∨ cl60.slots.size ≤ ((0 : Int32)).toNatClampNeg) := inb_of S60 ⟨by decide, by decide⟩
       obtain ⟨T60, h60, X60, e60, W60, st60⟩ := stC X58 hx hZ e58 Ar60 (j := (0 : Int32)) hin60 (g := (mkF mm_ 106 #[vi p1, vi p2, vi p3, vi p4, vi p5, vi ((p1 &&& (2147483647 : Int32)) % (5 : Int32)), vi v_14, vi v_15, vi v_16, vi v_17, un, un] [(.int v_14), (.int 0), (.ref b58), (.ref b58), (.ref b57), (.ref b57)])) rfl rfl (B_ at_106)
       have V60 : Arv Z h60 b58 k58 .char (2 : Int32) [(.int v_14), (.int 0)] (.int 0) := by
        have q := Arv.set Ar60 q60 S60 M60 H60 G60 (fits_nar_char _) W60 0 rfl (Nat.le_of_ble_eq_true rfl)
        rw [own_narLit _ r14_0.1 r14_0.2] at q
        exact q
       have N60 := Fr.snoc X60 N17 g_b58
       refine sp_ st60 ?_
       show Go_ T60 (mkF mm_ 107 #[vi p1, vi p2, vi p3, vi p4, vi p5, vi ((p1 &&& (2147483647 : Int32)) % (5 : Int32)), vi v_14, vi v_15, vi v_16, vi v_17, un, un] [(.ref b58), (.ref b57), (.ref b57)])
       refine sp_ (fun t_ k_ => XS.dup X60.here hx rfl (B_ at_107) rfl rfl (XS.iconst X60.here hx rfl (B_ at_108) (XS.iload X60.here hx rfl (B_ at_109) rfl  k_))) ?_
       obtain ⟨cl61, Ar61, q61, S61, M61, H61, G61⟩ := id V60
       have hin61 : ¬ ((1 : Int32) < 0 ∨ cl61.slots.size ≤ ((1 : Int32)).toNatClampNeg) := inb_of S61 ⟨by decide, by decide⟩
       obtain ⟨T61, h61, X61, e61, W61, st61⟩ := stC X60 hx hZ e60 Ar61 (j := (1 : Int32)) hin61 (g := (mkF mm_ 111 #[vi p1, vi p2, vi p3, vi p4, vi p5, vi ((p1 &&& (2147483647 : Int32)) % (5 : Int32)), vi v_14, vi v_15, vi v_16, vi v_17, un, un] [(.int v_15), (.int 1), (.ref b58), (.ref b58), (.ref b57), (.ref b57)])) rfl rfl (B_ at_111)
       have V61 : Arv Z h61 b58 k58 .char (2 : Int32) [(.int v_14), (.int v_15)] (.int 0) := by
        have q := Arv.set Ar61 q61 S61 M61 H61 G61 (fits_nar_char _) W61 1 rfl (Nat.le_of_ble_eq_true rfl)
        rw [own_narLit _ r15_0.1 r15_0.2] at q
        exact q
       have N61 := Fr.snoc X61 N60 g_b58
       refine sp_ st61 ?_
       show Go_ T61 (mkF mm_ 112 #[vi p1, vi p2, vi p3, vi p4, vi p5, vi ((p1 &&& (2147483647 : Int32)) % (5 : Int32)), vi v_14, vi v_15, vi v_16, vi v_17, un, un] [(.ref b58), (.ref b57), (.ref b57)])
       by_cases hv62 : (255 : Int32) < v_14
       · skip
         have f64 : Exa Z h61 b57 sc0 := (((A57.ext E58).wr W60).wr W61)
         have f65 : Fld Z h61 b57 sc0 "value" "[B" .null := (((F57_value.ext E58).other W60 (Or.inl (Nat.ne_of_lt (Nat.lt_of_lt_of_le A57.lt (Nat.le_of_eq q58.symm))))).other W61 (Or.inl (Nat.ne_of_lt (Nat.lt_of_lt_of_le A57.lt (Nat.le_of_eq q58.symm)))))
         have f66 : Fld Z h61 b57 sc0 "coder" "B" (.int 0) := (((F57_coder.ext E58).other W60 (Or.inl (Nat.ne_of_lt (Nat.lt_of_lt_of_le A57.lt (Nat.le_of_eq q58.symm))))).other W61 (Or.inl (Nat.ne_of_lt (Nat.lt_of_lt_of_le A57.lt (Nat.le_of_eq q58.symm)))))
         have O67 : Old Z n0 h61 := ((((O0.ext E57).ext E58).wr W60 g_b58).wr W61 g_b58)
         obtain ⟨_, T63, Lc63, X63, hQ63, st63⟩ := own_cI X61 hx hZ rfl hown (w_ hw 11 rfl) (w_ hw 12 rfl) (w_ hw 13 rfl) (by decide) (backOf (W := 1) (rmI12 l Z a0 hw [] b57 b58 k58 v_14 v_15 h61 n0 O67 G_ f64 f65 f66 g_b57 V61 r14_0 r15_0 (Or.inl hv62)) hZ (w_ hw 13 rfl) (w_ hw 9 rfl) (by decide) (by decide)) (g := (mkF mm_ 112 #[vi p1, vi p2, vi p3, vi p4, vi p5, vi ((p1 &&& (2147483647 : Int32)) % (5 : Int32)), vi v_14, vi v_15, vi v_16, vi v_17, un, un] [(.ref b58), (.ref b57), (.ref b57)])) rfl hml.symm (a := b57) (argsL := [(.ref b58)]) (rest := [(.ref b57)]) (lenOf pd_17 rfl) rfl (Nat.le_of_eq rfl) (B_ at_112) rfl e61 (by decide) (by decide)
         obtain ⟨r_63, k_63, rfl, Nq63, Kc63, r63_0, r63_1, r63_2, r63_3⟩ := hQ63
         have N63 := Fr.app N61 Nq63
         have K68 : Keep h0 h61 [] := (((K59.ext E58).wr W60 (Or.inr lo_b58)).wr W61 (Or.inr lo_b58))
         have lo_r_63 : h0.size ≤ r_63 := Nat.le_trans K68.1 r63_0
         have g_r_63 : n0 ≤ r_63 := Nat.le_trans Z0 lo_r_63
         refine jp_ st63 ?_
         show Go_ T63 (mkF mm_ 115 #[vi p1, vi p2, vi p3, vi p4, vi p5, vi ((p1 &&& (2147483647 : Int32)) % (5 : Int32)), vi v_14, vi v_15, vi v_16, vi v_17, un, un] [(.ref b57)])
         refine sp_ (fun t_ k_ => XS.astore X63.here hx rfl (B_ at_115) rfl rfl (l' := #[vi p1, vi p2, vi p3, vi p4, vi p5, vi ((p1 &&& (2147483647 : Int32)) % (5 : Int32)), vi v_14, vi v_15, vi v_16, vi v_17, vr b57, un]) rfl (XS.iload X63.here hx rfl (B_ at_117) rfl  k_)) ?_
         have O70 : Old Z n0 T63.heap := (O67.keep Kc63 (allS g_b57 all0))
         obtain ⟨_, T69, Lc69, X69, hQ69, st69⟩ := own_cS X63 hx hZ hown (w_ hw 49 rfl) (w_ hw 50 rfl) (w_ hw 3 rfl) (w_ hw 51 rfl) (by decide) (backOf (W := 0) (rmDg l Z a0 hw [] v_14 T63.heap n0 O70 ) hZ (w_ hw 51 rfl) (w_ hw 3 rfl) (by decide) (by decide)) (g := (mkF mm_ 119 #[vi p1, vi p2, vi p3, vi p4, vi p5, vi ((p1 &&& (2147483647 : Int32)) % (5 : Int32)), vi v_14, vi v_15, vi v_16, vi v_17, vr b57, un] [(.int v_14)])) rfl hml.symm (argsL := [(.int v_14)]) (rest := []) (lenOf pd_18 rfl) rfl (Nat.le_of_eq rfl) (B_ at_119) rfl rfl (by decide) (by decide)
         obtain ⟨r_69, rfl, rfl, Eh69, r69_0⟩ := hQ69
         have N69 := Fr.app N63 (Fr.nil n0)
         refine jp_ st69 ?_
         rcases r69_0 with ⟨rfl, hd69⟩ | ⟨rfl, hd69⟩
         · exact absurd hd69 (fun q_ => q_.2 (own_big hv62).2)
         · skip
           show Go_ T69 (mkF mm_ 122 #[vi p1, vi p2, vi p3, vi p4, vi p5, vi ((p1 &&& (2147483647 : Int32)) % (5 : Int32)), vi v_14, vi v_15, vi v_16, vi v_17, vr b57, un] [(.int 0)])
           refine sp_ (fun t_ k_ => XS.ifYes X69.here hx rfl (pc0 := 122) (pc' := 137) rfl (B_ at_122) rfl ((if0 _ _).trans (teq (by decide : (0 : Int32) = (0 : Int32))).1) (by decide) (by decide) k_) ?_
           show Go_ T69 (mkF mm_ 137 #[vi p1, vi p2, vi p3, vi p4, vi p5, vi ((p1 &&& (2147483647 : Int32)) % (5 : Int32)), vi v_14, vi v_15, vi v_16, vi v_17, vr b57, un] [])
           refine sp_ (fun t_ k_ => XS.iconst X69.here hx rfl (B_ at_137) (XS.istore X69.here hx rfl (B_ at_138) rfl (l' := #[vi p1, vi p2, vi p3, vi p4, vi p5, vi ((p1 &&& (2147483647 : Int32)) % (5 : Int32)), vi v_14, vi v_15, vi v_16, vi v_17, vr b57, vi 0]) rfl (XS.goto X69.here hx rfl (pc0 := 140) (pc' := 281) rfl (B_ at_140) (by decide) (by decide) k_))) ?_
           have f71 : Exa Z T63.heap b57 sc0 := (f64.keep Kc63)
           have K72 : Keep h0 T63.heap [] := (K68.trans Kc63 (allS (Or.inr lo_b57) all0))
           exact seg_w2 _ _ _ ((p1 &&& (2147483647 : Int32)) % (5 : Int32)) v_14 v_15 v_16 v_17 b57 r_63 k_63 _ _ (X69.more (by decide) (by decide)) Eh69 N69 K72 O70 hS0 (Nat.le_trans (Nat.le_trans (Nat.le_trans (Nat.le_trans (Nat.le_trans (Nat.zero_le _) E57.1) E58.1) (Keep.of_wr W60).1) (Keep.of_wr W61).1) Kc63.1) hZ hown (own_IB_mono hI (by intro t_ h_; first | exact h_ | exact List.mem_cons_of_mem _ h_ | (revert t_ h_; decide))) f71 r63_2 r63_1 r63_3 r14_0 r15_0 (Or.inl hv62)
       · skip
         by_cases hv73 : (255 : Int32) < v_15
         · skip
           have f75 : Exa Z h61 b57 sc0 := (((A57.ext E58).wr W60).wr W61)
           have f76 : Fld Z h61 b57 sc0 "value" "[B" .null := (((F57_value.ext E58).other W60 (Or.inl (Nat.ne_of_lt (Nat.lt_of_lt_of_le A57.lt (Nat.le_of_eq q58.symm))))).other W61 (Or.inl (Nat.ne_of_lt (Nat.lt_of_lt_of_le A57.lt (Nat.le_of_eq q58.symm)))))
           have f77 : Fld Z h61 b57 sc0 "coder" "B" (.int 0) := (((F57_coder.ext E58).other W60 (Or.inl (Nat.ne_of_lt (Nat.lt_of_lt_of_le A57.lt (Nat.le_of_eq q58.symm))))).other W61 (Or.inl (Nat.ne_of_lt (Nat.lt_of_lt_of_le A57.lt (Nat.le_of_eq q58.symm)))))
           have O78 : Old Z n0 h61 := ((((O0.ext E57).ext E58).wr W60 g_b58).wr W61 g_b58)
           obtain ⟨_, T74, Lc74, X74, hQ74, st74⟩ := own_cI X61 hx hZ rfl hown (w_ hw 11 rfl) (w_ hw 12 rfl) (w_ hw 13 rfl) (by decide) (backOf (W := 1) (rmI12 l Z a0 hw [] b57 b58 k58 v_14 v_15 h61 n0 O78 G_ f75 f76 f77 g_b57 V61 r14_0 r15_0 (Or.inr hv73)) hZ (w_ hw 13 rfl) (w_ hw 9 rfl) (by decide) (by decide)) (g := (mkF mm_ 112 #[vi p1, vi p2, vi p3, vi p4, vi p5, vi ((p1 &&& (2147483647 : Int32)) % (5 : Int32)), vi v_14, vi v_15, vi v_16, vi v_17, un, un] [(.ref b58), (.ref b57), (.ref b57)])) rfl hml.symm (a := b57) (argsL := [(.ref b58)]) (rest := [(.ref b57)]) (lenOf pd_17 rfl) rfl (Nat.le_of_eq rfl) (B_ at_112) rfl e61 (by decide) (by decide)
           obtain ⟨r_74, k_74, rfl, Nq74, Kc74, r74_0, r74_1, r74_2, r74_3⟩ := hQ74
           have N74 := Fr.app N61 Nq74
           have K79 : Keep h0 h61 [] := (((K59.ext E58).wr W60 (Or.inr lo_b58)).wr W61 (Or.inr lo_b58))
           have lo_r_74 : h0.size ≤ r_74 := Nat.le_trans K79.1 r74_0
           have g_r_74 : n0 ≤ r_74 := Nat.le_trans Z0 lo_r_74
           refine jp_ st74 ?_
           show Go_ T74 (mkF mm_ 115 #[vi p1, vi p2, vi p3, vi p4, vi p5, vi ((p1 &&& (2147483647 : Int32)) % (5 : Int32)), vi v_14, vi v_15, vi v_16, vi v_17, un, un] [(.ref b57)])
           refine sp_ (fun t_ k_ => XS.astore X74.here hx rfl (B_ at_115) rfl rfl (l' := #[vi p1, vi p2, vi p3, vi p4, vi p5, vi ((p1 &&& (2147483647 : Int32)) % (5 : Int32)), vi v_14, vi v_15, vi v_16, vi v_17, vr b57, un]) rfl (XS.iload X74.here hx rfl (B_ at_117) rfl  k_)) ?_
           have O81 : Old Z n0 T74.heap := (O78.keep Kc74 (allS g_b57 all0))
           obtain ⟨_, T80, Lc80, X80, hQ80, st80⟩ := own_cS X74 hx hZ hown (w_ hw 49 rfl) (w_ hw 50 rfl) (w_ hw 3 rfl) (w_ hw 51 rfl) (by decide) (backOf (W := 0) (rmDg l Z a0 hw [] v_14 T74.heap n0 O81 ) hZ (w_ hw 51 rfl) (w_ hw 3 rfl) (by decide) (by decide)) (g := (mkF mm_ 119 #[vi p1, vi p2, vi p3, vi p4, vi p5, vi ((p1 &&& (2147483647 : Int32)) % (5 : Int32)), vi v_14, vi v_15, vi v_16, vi v_17, vr b57, un] [(.int v_14)])) rfl hml.symm (argsL := [(.int v_14)]) (rest := []) (lenOf pd_18 rfl) rfl (Nat.le_of_eq rfl) (B_ at_119) rfl rfl (by decide) (by decide)
           obtain ⟨r_80, rfl, rfl, Eh80, r80_0⟩ := hQ80
           have N80 := Fr.app N74 (Fr.nil n0)
           refine jp_ st80 ?_
           rcases r80_0 with ⟨rfl, hd80⟩ | ⟨rfl, hd80⟩
           · skip
             show Go_ T80 (mkF mm_ 122 #[vi p1, vi p2, vi p3, vi p4, vi p5, vi ((p1 &&& (2147483647 : Int32)) % (5 : Int32)), vi v_14, vi v_15, vi v_16, vi v_17, vr b57, un] [(.int 1)])
             refine sp_ (fun t_ k_ => XS.ifNo X80.here hx rfl (B_ at_122) rfl ((if0 _ _).trans (feq (by decide : ¬ ((1 : Int32) = (0 : Int32)))).1) k_) ?_
             show Go_ T80 (mkF mm_ 125 #[vi p1, vi p2, vi p3, vi p4, vi p5, vi ((p1 &&& (2147483647 : Int32)) % (5 : Int32)), vi v_14, vi v_15, vi v_16, vi v_17, vr b57, un] [])
             refine sp_ (fun t_ k_ => XS.iload X80.here hx rfl (B_ at_125) rfl  k_) ?_
             obtain ⟨_, T82, Lc82, X82, hQ82, st82⟩ := own_cS X80 hx hZ hown (w_ hw 49 rfl) (w_ hw 50 rfl) (w_ hw 3 rfl) (w_ hw 51 rfl) (by decide) (backOf (W := 0) (rmDg l Z a0 hw [] v_15 T74.heap n0 O81 ) hZ (w_ hw 51 rfl) (w_ hw 3 rfl) (by decide) (by decide)) (g := (mkF mm_ 127 #[vi p1, vi p2, vi p3, vi p4, vi p5, vi ((p1 &&& (2147483647 : Int32)) % (5 : Int32)), vi v_14, vi v_15, vi v_16, vi v_17, vr b57, un] [(.int v_15)])) rfl hml.symm (argsL := [(.int v_15)]) (rest := []) (lenOf pd_18 rfl) rfl (Nat.le_of_eq rfl) (B_ at_127) rfl Eh80 (by decide) (by decide)
             obtain ⟨r_82, rfl, rfl, Eh82, r82_0⟩ := hQ82
             have N82 := Fr.app N80 (Fr.nil n0)
             refine jp_ st82 ?_
             rcases r82_0 with ⟨rfl, hd82⟩ | ⟨rfl, hd82⟩
             · exact absurd hd82 (fun q_ => q_.2 (own_big hv73).2)
             · skip
               show Go_ T82 (mkF mm_ 130 #[vi p1, vi p2, vi p3, vi p4, vi p5, vi ((p1 &&& (2147483647 : Int32)) % (5 : Int32)), vi v_14, vi v_15, vi v_16, vi v_17, vr b57, un] [(.int 0)])
               refine sp_ (fun t_ k_ => XS.ifYes X82.here hx rfl (pc0 := 130) (pc' := 137) rfl (B_ at_130) rfl ((if0 _ _).trans (teq (by decide : (0 : Int32) = (0 : Int32))).1) (by decide) (by decide) k_) ?_
               show Go_ T82 (mkF mm_ 137 #[vi p1, vi p2, vi p3, vi p4, vi p5, vi ((p1 &&& (2147483647 : Int32)) % (5 : Int32)), vi v_14, vi v_15, vi v_16, vi v_17, vr b57, un] [])
               refine sp_ (fun t_ k_ => XS.iconst X82.here hx rfl (B_ at_137) (XS.istore X82.here hx rfl (B_ at_138) rfl (l' := #[vi p1, vi p2, vi p3, vi p4, vi p5, vi ((p1 &&& (2147483647 : Int32)) % (5 : Int32)), vi v_14, vi v_15, vi v_16, vi v_17, vr b57, vi 0]) rfl (XS.goto X82.here hx rfl (pc0 := 140) (pc' := 281) rfl (B_ at_140) (by decide) (by decide) k_))) ?_
               have f83 : Exa Z T74.heap b57 sc0 := (f75.keep Kc74)
               have K84 : Keep h0 T74.heap [] := (K79.trans Kc74 (allS (Or.inr lo_b57) all0))
               exact seg_w2 _ _ _ ((p1 &&& (2147483647 : Int32)) % (5 : Int32)) v_14 v_15 v_16 v_17 b57 r_74 k_74 _ _ (X82.more (by decide) (by decide)) Eh82 N82 K84 O81 hS0 (Nat.le_trans (Nat.le_trans (Nat.le_trans (Nat.le_trans (Nat.le_trans (Nat.zero_le _) E57.1) E58.1) (Keep.of_wr W60).1) (Keep.of_wr W61).1) Kc74.1) hZ hown (own_IB_mono hI (by intro t_ h_; first | exact h_ | exact List.mem_cons_of_mem _ h_ | (revert t_ h_; decide))) f83 r74_2 r74_1 r74_3 r14_0 r15_0 (Or.inr hv73)
           · skip
             show Go_ T80 (mkF mm_ 122 #[vi p1, vi p2, vi p3, vi p4, vi p5, vi ((p1 &&& (2147483647 : Int32)) % (5 : Int32)), vi v_14, vi v_15, vi v_16, vi v_17, vr b57, un] [(.int 0)])
             refine sp_ (fun t_ k_ => XS.ifYes X80.here hx rfl (pc0 := 122) (pc' := 137) rfl (B_ at_122) rfl ((if0 _ _).trans (teq (by decide : (0 : Int32) = (0 : Int32))).1) (by decide) (by decide) k_) ?_
             show Go_ T80 (mkF mm_ 137 #[vi p1, vi p2, vi p3, vi p4, vi p5, vi ((p1 &&& (2147483647 : Int32)) % (5 : Int32)), vi v_14, vi v_15, vi v_16, vi v_17, vr b57, un] [])
             refine sp_ (fun t_ k_ => XS.iconst X80.here hx rfl (B_ at_137) (XS.istore X80.here hx rfl (B_ at_138) rfl (l' := #[vi p1, vi p2, vi p3, vi p4, vi p5, vi ((p1 &&& (2147483647 : Int32)) % (5 : Int32)), vi v_14, vi v_15, vi v_16, vi v_17, vr b57, vi 0]) rfl (XS.goto X80.here hx rfl (pc0 := 140) (pc' := 281) rfl (B_ at_140) (by decide) (by decide) k_))) ?_
             have f85 : Exa Z T74.heap b57 sc0 := (f75.keep Kc74)
             have K86 : Keep h0 T74.heap [] := (K79.trans Kc74 (allS (Or.inr lo_b57) all0))
             exact seg_w2 _ _ _ ((p1 &&& (2147483647 : Int32)) % (5 : Int32)) v_14 v_15 v_16 v_17 b57 r_74 k_74 _ _ (X80.more (by decide) (by decide)) Eh80 N80 K86 O81 hS0 (Nat.le_trans (Nat.le_trans (Nat.le_trans (Nat.le_trans (Nat.le_trans (Nat.zero_le _) E57.1) E58.1) (Keep.of_wr W60).1) (Keep.of_wr W61).1) Kc74.1) hZ hown (own_IB_mono hI (by intro t_ h_; first | exact h_ | exact List.mem_cons_of_mem _ h_ | (revert t_ h_; decide))) f85 r74_2 r74_1 r74_3 r14_0 r15_0 (Or.inr hv73)
         · skip
           have hp88 : ∀ ch_ ∈ ([v_14, v_15] : List Int32), ¬ ch_ < 0 ∧ ¬ (255 : Int32) < ch_ := by
            intro ch_ hc
            simp only [List.mem_cons, List.not_mem_nil, or_false] at hc
            rcases hc with rfl | rfl
            · exact ⟨r14_0.1, hv62⟩
            · exact ⟨r15_0.1, hv73⟩
           have f89 : Exa Z h61 b57 sc0 := (((A57.ext E58).wr W60).wr W61)
           have f90 : Fld Z h61 b57 sc0 "value" "[B" .null := (((F57_value.ext E58).other W60 (Or.inl (Nat.ne_of_lt (Nat.lt_of_lt_of_le A57.lt (Nat.le_of_eq q58.symm))))).other W61 (Or.inl (Nat.ne_of_lt (Nat.lt_of_lt_of_le A57.lt (Nat.le_of_eq q58.symm)))))
           have f91 : Fld Z h61 b57 sc0 "coder" "B" (.int 0) := (((F57_coder.ext E58).other W60 (Or.inl (Nat.ne_of_lt (Nat.lt_of_lt_of_le A57.lt (Nat.le_of_eq q58.symm))))).other W61 (Or.inl (Nat.ne_of_lt (Nat.lt_of_lt_of_le A57.lt (Nat.le_of_eq q58.symm)))))
           have O92 : Old Z n0 h61 := ((((O0.ext E57).ext E58).wr W60 g_b58).wr W61 g_b58)
           have K93 : Keep h0 h61 [] := (((K59.ext E58).wr W60 (Or.inr lo_b58)).wr W61 (Or.inr lo_b58))
           obtain ⟨_, T87, Lc87, X87, hQ87, st87⟩ := own_cI X61 hx hZ rfl hown (w_ hw 11 rfl) (w_ hw 12 rfl) (w_ hw 13 rfl) (by decide) (own_newS (W := 1) hZ hw (cs := [v_14, v_15]) (n := 2) g_b57 (Nat.le_trans Z0 K93.1) f89 f90 f91 V61 (G_cs.ext O92.2) G_cs0 rfl rfl rfl (by decide) (by decide) hp88 (by decide) (by decide)) (g := (mkF mm_ 112 #[vi p1, vi p2, vi p3, vi p4, vi p5, vi ((p1 &&& (2147483647 : Int32)) % (5 : Int32)), vi v_14, vi v_15, vi v_16, vi v_17, un, un] [(.ref b58), (.ref b57), (.ref b57)])) rfl hml.symm (a := b57) (argsL := [(.ref b58)]) (rest := [(.ref b57)]) (lenOf pd_17 rfl) rfl (Nat.le_of_eq rfl) (B_ at_112) rfl e61 (by decide) (by decide)
           obtain ⟨t87, rfl, Nq87, Kc87, lo87, Fs87⟩ := hQ87
           have N87 := Fr.app N61 Nq87
           have lo_t87 : h0.size ≤ t87 := Nat.le_trans K93.1 lo87
           have g_t87 : n0 ≤ t87 := Nat.le_trans Z0 lo_t87
           refine jp_ st87 ?_
           show Go_ T87 (mkF mm_ 115 #[vi p1, vi p2, vi p3, vi p4, vi p5, vi ((p1 &&& (2147483647 : Int32)) % (5 : Int32)), vi v_14, vi v_15, vi v_16, vi v_17, un, un] [(.ref b57)])
           refine sp_ (fun t_ k_ => XS.astore X87.here hx rfl (B_ at_115) rfl rfl (l' := #[vi p1, vi p2, vi p3, vi p4, vi p5, vi ((p1 &&& (2147483647 : Int32)) % (5 : Int32)), vi v_14, vi v_15, vi v_16, vi v_17, vr b57, un]) rfl (XS.iload X87.here hx rfl (B_ at_117) rfl  k_)) ?_
           have O95 : Old Z n0 T87.heap := (O92.keep Kc87 (allS g_b57 all0))
           obtain ⟨_, T94, Lc94, X94, hQ94, st94⟩ := own_cS X87 hx hZ hown (w_ hw 49 rfl) (w_ hw 50 rfl) (w_ hw 3 rfl) (w_ hw 51 rfl) (by decide) (backOf (W := 0) (rmDg l Z a0 hw [] v_14 T87.heap n0 O95 ) hZ (w_ hw 51 rfl) (w_ hw 3 rfl) (by decide) (by decide)) (g := (mkF mm_ 119 #[vi p1, vi p2, vi p3, vi p4, vi p5, vi ((p1 &&& (2147483647 : Int32)) % (5 : Int32)), vi v_14, vi v_15, vi v_16, vi v_17, vr b57, un] [(.int v_14)])) rfl hml.symm (argsL := [(.int v_14)]) (rest := []) (lenOf pd_18 rfl) rfl (Nat.le_of_eq rfl) (B_ at_119) rfl rfl (by decide) (by decide)
           obtain ⟨r_94, rfl, rfl, Eh94, r94_0⟩ := hQ94
           have N94 := Fr.app N87 (Fr.nil n0)
           refine jp_ st94 ?_
           rcases r94_0 with ⟨rfl, hd94⟩ | ⟨rfl, hd94⟩
           · skip
             show Go_ T94 (mkF mm_ 122 #[vi p1, vi p2, vi p3, vi p4, vi p5, vi ((p1 &&& (2147483647 : Int32)) % (5 : Int32)), vi v_14, vi v_15, vi v_16, vi v_17, vr b57, un] [(.int 1)])
             refine sp_ (fun t_ k_ => XS.ifNo X94.here hx rfl (B_ at_122) rfl ((if0 _ _).trans (feq (by decide : ¬ ((1 : Int32) = (0 : Int32)))).1) k_) ?_
             show Go_ T94 (mkF mm_ 125 #[vi p1, vi p2, vi p3, vi p4, vi p5, vi ((p1 &&& (2147483647 : Int32)) % (5 : Int32)), vi v_14, vi v_15, vi v_16, vi v_17, vr b57, un] [])
             refine sp_ (fun t_ k_ => XS.iload X94.here hx rfl (B_ at_125) rfl  k_) ?_
             obtain ⟨_, T96, Lc96, X96, hQ96, st96⟩ := own_cS X94 hx hZ hown (w_ hw 49 rfl) (w_ hw 50 rfl) (w_ hw 3 rfl) (w_ hw 51 rfl) (by decide) (backOf (W := 0) (rmDg l Z a0 hw [] v_15 T87.heap n0 O95 ) hZ (w_ hw 51 rfl) (w_ hw 3 rfl) (by decide) (by decide)) (g := (mkF mm_ 127 #[vi p1, vi p2, vi p3, vi p4, vi p5, vi ((p1 &&& (2147483647 : Int32)) % (5 : Int32)), vi v_14, vi v_15, vi v_16, vi v_17, vr b57, un] [(.int v_15)])) rfl hml.symm (argsL := [(.int v_15)]) (rest := []) (lenOf pd_18 rfl) rfl (Nat.le_of_eq rfl) (B_ at_127) rfl Eh94 (by decide) (by decide)
             obtain ⟨r_96, rfl, rfl, Eh96, r96_0⟩ := hQ96
             have N96 := Fr.app N94 (Fr.nil n0)
             refine jp_ st96 ?_
             rcases r96_0 with ⟨rfl, hd96⟩ | ⟨rfl, hd96⟩
             · skip
               show Go_ T96 (mkF mm_ 130 #[vi p1, vi p2, vi p3, vi p4, vi p5, vi ((p1 &&& (2147483647 : Int32)) % (5 : Int32)), vi v_14, vi v_15, vi v_16, vi v_17, vr b57, un] [(.int 1)])
               refine sp_ (fun t_ k_ => XS.ifNo X96.here hx rfl (B_ at_130) rfl ((if0 _ _).trans (feq (by decide : ¬ ((1 : Int32) = (0 : Int32)))).1) k_) ?_
               show Go_ T96 (mkF mm_ 133 #[vi p1, vi p2, vi p3, vi p4, vi p5, vi ((p1 &&& (2147483647 : Int32)) % (5 : Int32)), vi v_14, vi v_15, vi v_16, vi v_17, vr b57, un] [])
               refine sp_ (fun t_ k_ => XS.iconst X96.here hx rfl (B_ at_133) (XS.goto X96.here hx rfl (pc0 := 134) (pc' := 138) rfl (B_ at_134) (by decide) (by decide) (XS.istore X96.here hx rfl (B_ at_138) rfl (l' := #[vi p1, vi p2, vi p3, vi p4, vi p5, vi ((p1 &&& (2147483647 : Int32)) % (5 : Int32)), vi v_14, vi v_15, vi v_16, vi v_17, vr b57, vi 1]) rfl (XS.goto X96.here hx rfl (pc0 := 140) (pc' := 281) rfl (B_ at_140) (by decide) (by decide) k_)))) ?_
               have K97 : Keep h0 T87.heap [] := (K93.trans Kc87 (allS (Or.inr lo_b57) all0))
               exact seg_l2_1 _ _ _ ((p1 &&& (2147483647 : Int32)) % (5 : Int32)) v_14 v_15 v_16 v_17 b57 t87 _ _ (X96.more (by decide) (by decide)) Eh96 N96 K97 O95 hS0 (Nat.le_trans (Nat.le_trans (Nat.le_trans (Nat.le_trans (Nat.le_trans (Nat.zero_le _) E57.1) E58.1) (Keep.of_wr W60).1) (Keep.of_wr W61).1) Kc87.1) hZ hown (own_IB_mono hI (by intro t_ h_; first | exact h_ | exact List.mem_cons_of_mem _ h_ | (revert t_ h_; decide))) Fs87 (fun r h_ => h_.2.2 hd94 hd96)
             · skip
               show Go_ T96 (mkF mm_ 130 #[vi p1, vi p2, vi p3, vi p4, vi p5, vi ((p1 &&& (2147483647 : Int32)) % (5 : Int32)), vi v_14, vi v_15, vi v_16, vi v_17, vr b57, un] [(.int 0)])
               refine sp_ (fun t_ k_ => XS.ifYes X96.here hx rfl (pc0 := 130) (pc' := 137) rfl (B_ at_130) rfl ((if0 _ _).trans (teq (by decide : (0 : Int32) = (0 : Int32))).1) (by decide) (by decide) k_) ?_
               show Go_ T96 (mkF mm_ 137 #[vi p1, vi p2, vi p3, vi p4, vi p5, vi ((p1 &&& (2147483647 : Int32)) % (5 : Int32)), vi v_14, vi v_15, vi v_16, vi v_17, vr b57, un] [])
               refine sp_ (fun t_ k_ => XS.iconst X96.here hx rfl (B_ at_137) (XS.istore X96.here hx rfl (B_ at_138) rfl (l' := #[vi p1, vi p2, vi p3, vi p4, vi p5, vi ((p1 &&& (2147483647 : Int32)) % (5 : Int32)), vi v_14, vi v_15, vi v_16, vi v_17, vr b57, vi 0]) rfl (XS.goto X96.here hx rfl (pc0 := 140) (pc' := 281) rfl (B_ at_140) (by decide) (by decide) k_))) ?_
               have K98 : Keep h0 T87.heap [] := (K93.trans Kc87 (allS (Or.inr lo_b57) all0))
               exact seg_l2_0 _ _ _ ((p1 &&& (2147483647 : Int32)) % (5 : Int32)) v_14 v_15 v_16 v_17 b57 t87 _ _ (X96.more (by decide) (by decide)) Eh96 N96 K98 O95 hS0 (Nat.le_trans (Nat.le_trans (Nat.le_trans (Nat.le_trans (Nat.le_trans (Nat.zero_le _) E57.1) E58.1) (Keep.of_wr W60).1) (Keep.of_wr W61).1) Kc87.1) hZ hown (own_IB_mono hI (by intro t_ h_; first | exact h_ | exact List.mem_cons_of_mem _ h_ | (revert t_ h_; decide))) Fs87 (fun r h_ => h_.2.1 hd94 hd96)
           · skip
             show Go_ T94 (mkF mm_ 122 #[vi p1, vi p2, vi p3, vi p4, vi p5, vi ((p1 &&& (2147483647 : Int32)) % (5 : Int32)), vi v_14, vi v_15, vi v_16, vi v_17, vr b57, un] [(.int 0)])
             refine sp_ (fun t_ k_ => XS.ifYes X94.here hx rfl (pc0 := 122) (pc' := 137) rfl (B_ at_122) rfl ((if0 _ _).trans (teq (by decide : (0 : Int32) = (0 : Int32))).1) (by decide) (by decide) k_) ?_
             show Go_ T94 (mkF mm_ 137 #[vi p1, vi p2, vi p3, vi p4, vi p5, vi ((p1 &&& (2147483647 : Int32)) % (5 : Int32)), vi v_14, vi v_15, vi v_16, vi v_17, vr b57, un] [])
             refine sp_ (fun t_ k_ => XS.iconst X94.here hx rfl (B_ at_137) (XS.istore X94.here hx rfl (B_ at_138) rfl (l' := #[vi p1, vi p2, vi p3, vi p4, vi p5, vi ((p1 &&& (2147483647 : Int32)) % (5 : Int32)), vi v_14, vi v_15, vi v_16, vi v_17, vr b57, vi 0]) rfl (XS.goto X94.here hx rfl (pc0 := 140) (pc' := 281) rfl (B_ at_140) (by decide) (by decide) k_))) ?_
             have K99 : Keep h0 T87.heap [] := (K93.trans Kc87 (allS (Or.inr lo_b57) all0))
             exact seg_l2_0 _ _ _ ((p1 &&& (2147483647 : Int32)) % (5 : Int32)) v_14 v_15 v_16 v_17 b57 t87 _ _ (X94.more (by decide) (by decide)) Eh94 N94 K99 O95 hS0 (Nat.le_trans (Nat.le_trans (Nat.le_trans (Nat.le_trans (Nat.le_trans (Nat.zero_le _) E57.1) E58.1) (Keep.of_wr W60).1) (Keep.of_wr W61).1) Kc87.1) hZ hown (own_IB_mono hI (by intro t_ h_; first | exact h_ | exact List.mem_cons_of_mem _ h_ | (revert t_ h_; decide))) Fs87 (fun r h_ => h_.1 hd94)
     · skip
       refine sp_ (fun t_ k_ => XS.icmpYes X17.here hx rfl (pc0 := 92) (pc' := 143) rfl (B_ at_92) rfl (feq hc92_56).2 (by decide) (by decide) k_) ?_
       show Go_ T17 (mkF mm_ 143 #[vi p1, vi p2, vi p3, vi p4, vi p5, vi ((p1 &&& (2147483647 : Int32)) % (5 : Int32)), vi v_14, vi v_15, vi v_16, vi v_17, un, un] [])
       refine sp_ (fun t_ k_ => XS.iload X17.here hx rfl (B_ at_143) rfl  (XS.iconst X17.here hx rfl (B_ at_145) k_)) ?_
       show Go_ T17 (mkF mm_ 146 #[vi p1, vi p2, vi p3, vi p4, vi p5, vi ((p1 &&& (2147483647 : Int32)) % (5 : Int32)), vi v_14, vi v_15, vi v_16, vi v_17, un, un] [(.int 3), (.int ((p1 &&& (2147483647 : Int32)) % (5 : Int32)))])
       by_cases hc146_100 : ((p1 &&& (2147483647 : Int32)) % (5 : Int32)) = (3 : Int32)
       · skip
         refine sp_ (fun t_ k_ => XS.icmpNo X17.here hx rfl (B_ at_146) rfl (teq hc146_100).2 k_) ?_
         obtain ⟨T101, h101, X101, e101, E101, A101, D101, -, st101⟩ := newO X17 hx hZ hown (w_ hw 7 rfl) (w_ hw 8 rfl) (w_ hw 9 rfl) Eh17 (g := (mkF mm_ 149 #[vi p1, vi p2, vi p3, vi p4, vi p5, vi ((p1 &&& (2147483647 : Int32)) % (5 : Int32)), vi v_14, vi v_15, vi v_16, vi v_17, un, un] [])) rfl (B_ at_149) (by decide) (by decide)
         obtain ⟨b101, q101⟩ : ∃ z, z = h0.size := ⟨_, rfl⟩
         rw [← q101] at A101 D101 st101
         have lo_b101 : h0.size ≤ b101 := Nat.le_trans K0.1 (Nat.le_of_eq q101.symm)
         have g_b101 : n0 ≤ b101 := Nat.le_trans Z0 lo_b101
         refine sp_ st101 ?_
         have F101_value : Fld Z h101 b101 sc0 "value" "[B" .null := D101 (Or.inr (w_ hw 23 rfl)) (ty := (.array .byte)) (by decide)
         have F101_coder : Fld Z h101 b101 sc0 "coder" "B" (.int 0) := D101 (Or.inr (w_ hw 24 rfl)) (ty := .byte) (by decide)
         show Go_ T101 (mkF mm_ 152 #[vi p1, vi p2, vi p3, vi p4, vi p5, vi ((p1 &&& (2147483647 : Int32)) % (5 : Int32)), vi v_14, vi v_15, vi v_16, vi v_17, un, un] [(.ref b101)])
         refine sp_ (fun t_ k_ => XS.dup X101.here hx rfl (B_ at_152) rfl rfl (XS.iconst X101.here hx rfl (B_ at_153) k_)) ?_
         obtain ⟨T102, h102, k102, X102, e102, E102, A102, st102⟩ := newP X101 hx hZ (w_ hw 10 rfl) e101 (g := (mkF mm_ 154 #[vi p1, vi p2, vi p3, vi p4, vi p5, vi ((p1 &&& (2147483647 : Int32)) % (5 : Int32)), vi v_14, vi v_15, vi v_16, vi v_17, un, un] [(.int 3), (.ref b101), (.ref b101)])) rfl (B_ at_154) rfl (by decide) (cap := 3) (by decide) (by decide) (by decide) (by decide)
         obtain ⟨b102, q102⟩ : ∃ z, z = h101.size := ⟨_, rfl⟩
         rw [← q102] at A102 st102
         have K103 : Keep h0 h101 [] := (K0.ext E101)
         have lo_b102 : h0.size ≤ b102 := Nat.le_trans K103.1 (Nat.le_of_eq q102.symm)
         have g_b102 : n0 ≤ b102 := Nat.le_trans Z0 lo_b102
         refine sp_ st102 ?_
         have V102 : Arv Z h102 b102 k102 .char (3 : Int32) [(.int 0), (.int 0), (.int 0)] (.int 0) := (Arv.new A102 (by decide)).pad (pad_rep [] (.int 0) 3)
         show Go_ T102 (mkF mm_ 156 #[vi p1, vi p2, vi p3, vi p4, vi p5, vi ((p1 &&& (2147483647 : Int32)) % (5 : Int32)), vi v_14, vi v_15, vi v_16, vi v_17, un, un] [(.ref b102), (.ref b101), (.ref b101)])
         refine sp_ (fun t_ k_ => XS.dup X102.here hx rfl (B_ at_156) rfl rfl (XS.iconst X102.here hx rfl (B_ at_157) (XS.iload X102.here hx rfl (B_ at_158) rfl  k_))) ?_
         obtain ⟨cl104, Ar104, q104, S104, M104, H104, G104⟩ := id V102
         have hin104 : ¬ ((0 : Int32) < 0 ∨ cl104.slots.size ≤ ((0 : Int32)).toNatClampNeg) := inb_of S104 ⟨by decide, by decide⟩
         obtain ⟨T104, h104, X104, e104, W104, st104⟩ := stC X102 hx hZ e102 Ar104 (j := (0 : Int32)) hin104 (g := (mkF mm_ 160 #[vi p1, vi p2, vi p3, vi p4, vi p5, vi ((p1 &&& (2147483647 : Int32)) % (5 : Int32)), vi v_14, vi v_15, vi v_16, vi v_17, un, un] [(.int v_14), (.int 0), (.ref b102), (.ref b102), (.ref b101), (.ref b101)])) rfl rfl (B_ at_160)
         have V104 : Arv Z h104 b102 k102 .char (3 : Int32) [(.int v_14), (.int 0), (.int 0)] (.int 0) := by
          have q := Arv.set Ar104 q104 S104 M104 H104 G104 (fits_nar_char _) W104 0 rfl (Nat.le_of_ble_eq_true rfl)
          rw [own_narLit _ r14_0.1 r14_0.2] at q
          exact q
         have N104 := Fr.snoc X104 N17 g_b102
         refine sp_ st104 ?_
         show Go_ T104 (mkF mm_ 161 #[vi p1, vi p2, vi p3, vi p4, vi p5, vi ((p1 &&& (2147483647 : Int32)) % (5 : Int32)), vi v_14, vi v_15, vi v_16, vi v_17, un, un] [(.ref b102), (.ref b101), (.ref b101)])
         refine sp_ (fun t_ k_ => XS.dup X104.here hx rfl (B_ at_161) rfl rfl (XS.iconst X104.here hx rfl (B_ at_162) (XS.iload X104.here hx rfl (B_ at_163) rfl  k_))) ?_
         obtain ⟨cl105, Ar105, q105, S105, M105, H105, G105⟩ := id V104
         have hin105 : ¬ ((1 : Int32) < 0 ∨ cl105.slots.size ≤ ((1 : Int32)).toNatClampNeg) := inb_of S105 ⟨by decide, by decide⟩
         obtain ⟨T105, h105, X105, e105, W105, st105⟩ := stC X104 hx hZ e104 Ar105 (j := (1 : Int32)) hin105 (g := (mkF mm_ 165 #[vi p1, vi p2, vi p3, vi p4, vi p5, vi ((p1 &&& (2147483647 : Int32)) % (5 : Int32)), vi v_14, vi v_15, vi v_16, vi v_17, un, un] [(.int v_15), (.int 1), (.ref b102), (.ref b102), (.ref b101), (.ref b101)])) rfl rfl (B_ at_165)
         have V105 : Arv Z h105 b102 k102 .char (3 : Int32) [(.int v_14), (.int v_15), (.int 0)] (.int 0) := by
          have q := Arv.set Ar105 q105 S105 M105 H105 G105 (fits_nar_char _) W105 1 rfl (Nat.le_of_ble_eq_true rfl)
          rw [own_narLit _ r15_0.1 r15_0.2] at q
          exact q
         have N105 := Fr.snoc X105 N104 g_b102
         refine sp_ st105 ?_
         show Go_ T105 (mkF mm_ 166 #[vi p1, vi p2, vi p3, vi p4, vi p5, vi ((p1 &&& (2147483647 : Int32)) % (5 : Int32)), vi v_14, vi v_15, vi v_16, vi v_17, un, un] [(.ref b102), (.ref b101), (.ref b101)])
         refine sp_ (fun t_ k_ => XS.dup X105.here hx rfl (B_ at_166) rfl rfl (XS.iconst X105.here hx rfl (B_ at_167) (XS.iload X105.here hx rfl (B_ at_168) rfl  k_))) ?_
         obtain ⟨cl106, Ar106, q106, S106, M106, H106, G106⟩ := id V105
         have hin106 : ¬ ((2 : Int32) < 0 ∨ cl106.slots.size ≤ ((2 : Int32)).toNatClampNeg) := inb_of S106 ⟨by decide, by decide⟩
         obtain ⟨T106, h106, X106, e106, W106, st106⟩ := stC X105 hx hZ e105 Ar106 (j := (2 : Int32)) hin106 (g := (mkF mm_ 170 #[vi p1, vi p2, vi p3, vi p4, vi p5, vi ((p1 &&& (2147483647 : Int32)) % (5 : Int32)), vi v_14, vi v_15, vi v_16, vi v_17, un, un] [(.int v_16), (.int 2), (.ref b102), (.ref b102), (.ref b101), (.ref b101)])) rfl rfl (B_ at_170)
         have V106 : Arv Z h106 b102 k102 .char (3 : Int32) [(.int v_14), (.int v_15), (.int v_16)] (.int 0) := by
          have q := Arv.set Ar106 q106 S106 M106 H106 G106 (fits_nar_char _) W106 2 rfl (Nat.le_of_ble_eq_true rfl)
          rw [own_narLit _ r16_0.1 r16_0.2] at q
          exact q
         have N106 := Fr.snoc X106 N105 g_b102
         refine sp_ st106 ?_
         show Go_ T106 (mkF mm_ 171 #[vi p1, vi p2, vi p3, vi p4, vi p5, vi ((p1 &&& (2147483647 : Int32)) % (5 : Int32)), vi v_14, vi v_15, vi v_16, vi v_17, un, un] [(.ref b102), (.ref b101), (.ref b101)])
         by_cases hv107 : (255 : Int32) < v_14
         · skip
           have f109 : Exa Z h106 b101 sc0 := ((((A101.ext E102).wr W104).wr W105).wr W106)
           have f110 : Fld Z h106 b101 sc0 "value" "[B" .null := ((((F101_value.ext E102).other W104 (Or.inl (Nat.ne_of_lt (Nat.lt_of_lt_of_le A101.lt (Nat.le_of_eq q102.symm))))).other W105 (Or.inl (Nat.ne_of_lt (Nat.lt_of_lt_of_le A101.lt (Nat.le_of_eq q102.symm))))).other W106 (Or.inl (Nat.ne_of_lt (Nat.lt_of_lt_of_le A101.lt (Nat.le_of_eq q102.symm)))))
           have f111 : Fld Z h106 b101 sc0 "coder" "B" (.int 0) := ((((F101_coder.ext E102).other W104 (Or.inl (Nat.ne_of_lt (Nat.lt_of_lt_of_le A101.lt (Nat.le_of_eq q102.symm))))).other W105 (Or.inl (Nat.ne_of_lt (Nat.lt_of_lt_of_le A101.lt (Nat.le_of_eq q102.symm))))).other W106 (Or.inl (Nat.ne_of_lt (Nat.lt_of_lt_of_le A101.lt (Nat.le_of_eq q102.symm)))))
           have O112 : Old Z n0 h106 := (((((O0.ext E101).ext E102).wr W104 g_b102).wr W105 g_b102).wr W106 g_b102)
           obtain ⟨_, T108, Lc108, X108, hQ108, st108⟩ := own_cI X106 hx hZ rfl hown (w_ hw 11 rfl) (w_ hw 12 rfl) (w_ hw 13 rfl) (by decide) (backOf (W := 1) (rmI13 l Z a0 hw [] b101 b102 k102 v_14 v_15 v_16 h106 n0 O112 G_ f109 f110 f111 g_b101 V106 r14_0 r15_0 r16_0 (Or.inl hv107)) hZ (w_ hw 13 rfl) (w_ hw 9 rfl) (by decide) (by decide)) (g := (mkF mm_ 171 #[vi p1, vi p2, vi p3, vi p4, vi p5, vi ((p1 &&& (2147483647 : Int32)) % (5 : Int32)), vi v_14, vi v_15, vi v_16, vi v_17, un, un] [(.ref b102), (.ref b101), (.ref b101)])) rfl hml.symm (a := b101) (argsL := [(.ref b102)]) (rest := [(.ref b101)]) (lenOf pd_17 rfl) rfl (Nat.le_of_eq rfl) (B_ at_171) rfl e106 (by decide) (by decide)
           obtain ⟨r_108, k_108, rfl, Nq108, Kc108, r108_0, r108_1, r108_2, r108_3⟩ := hQ108
           have N108 := Fr.app N106 Nq108
           have K113 : Keep h0 h106 [] := ((((K103.ext E102).wr W104 (Or.inr lo_b102)).wr W105 (Or.inr lo_b102)).wr W106 (Or.inr lo_b102))
           have lo_r_108 : h0.size ≤ r_108 := Nat.le_trans K113.1 r108_0
           have g_r_108 : n0 ≤ r_108 := Nat.le_trans Z0 lo_r_108
           refine jp_ st108 ?_
           show Go_ T108 (mkF mm_ 174 #[vi p1, vi p2, vi p3, vi p4, vi p5, vi ((p1 &&& (2147483647 : Int32)) % (5 : Int32)), vi v_14, vi v_15, vi v_16, vi v_17, un, un] [(.ref b101)])
           refine sp_ (fun t_ k_ => XS.astore X108.here hx rfl (B_ at_174) rfl rfl (l' := #[vi p1, vi p2, vi p3, vi p4, vi p5, vi ((p1 &&& (2147483647 : Int32)) % (5 : Int32)), vi v_14, vi v_15, vi v_16, vi v_17, vr b101, un]) rfl (XS.iload X108.here hx rfl (B_ at_176) rfl  k_)) ?_
           have O115 : Old Z n0 T108.heap := (O112.keep Kc108 (allS g_b101 all0))
           obtain ⟨_, T114, Lc114, X114, hQ114, st114⟩ := own_cS X108 hx hZ hown (w_ hw 49 rfl) (w_ hw 50 rfl) (w_ hw 3 rfl) (w_ hw 51 rfl) (by decide) (backOf (W := 0) (rmDg l Z a0 hw [] v_14 T108.heap n0 O115 ) hZ (w_ hw 51 rfl) (w_ hw 3 rfl) (by decide) (by decide)) (g := (mkF mm_ 178 #[vi p1, vi p2, vi p3, vi p4, vi p5, vi ((p1 &&& (2147483647 : Int32)) % (5 : Int32)), vi v_14, vi v_15, vi v_16, vi v_17, vr b101, un] [(.int v_14)])) rfl hml.symm (argsL := [(.int v_14)]) (rest := []) (lenOf pd_18 rfl) rfl (Nat.le_of_eq rfl) (B_ at_178) rfl rfl (by decide) (by decide)
           obtain ⟨r_114, rfl, rfl, Eh114, r114_0⟩ := hQ114
           have N114 := Fr.app N108 (Fr.nil n0)
           refine jp_ st114 ?_
           rcases r114_0 with ⟨rfl, hd114⟩ | ⟨rfl, hd114⟩
           · exact absurd hd114 (fun q_ => q_.2 (own_big hv107).2)
           · skip
             show Go_ T114 (mkF mm_ 181 #[vi p1, vi p2, vi p3, vi p4, vi p5, vi ((p1 &&& (2147483647 : Int32)) % (5 : Int32)), vi v_14, vi v_15, vi v_16, vi v_17, vr b101, un] [(.int 0)])
             refine sp_ (fun t_ k_ => XS.ifYes X114.here hx rfl (pc0 := 181) (pc' := 204) rfl (B_ at_181) rfl ((if0 _ _).trans (teq (by decide : (0 : Int32) = (0 : Int32))).1) (by decide) (by decide) k_) ?_
             show Go_ T114 (mkF mm_ 204 #[vi p1, vi p2, vi p3, vi p4, vi p5, vi ((p1 &&& (2147483647 : Int32)) % (5 : Int32)), vi v_14, vi v_15, vi v_16, vi v_17, vr b101, un] [])
             refine sp_ (fun t_ k_ => XS.iconst X114.here hx rfl (B_ at_204) (XS.istore X114.here hx rfl (B_ at_205) rfl (l' := #[vi p1, vi p2, vi p3, vi p4, vi p5, vi ((p1 &&& (2147483647 : Int32)) % (5 : Int32)), vi v_14, vi v_15, vi v_16, vi v_17, vr b101, vi 0]) rfl (XS.goto X114.here hx rfl (pc0 := 207) (pc' := 281) rfl (B_ at_207) (by decide) (by decide) k_))) ?_
             have f116 : Exa Z T108.heap b101 sc0 := (f109.keep Kc108)
             have K117 : Keep h0 T108.heap [] := (K113.trans Kc108 (allS (Or.inr lo_b101) all0))
             exact seg_w3 _ _ _ ((p1 &&& (2147483647 : Int32)) % (5 : Int32)) v_14 v_15 v_16 v_17 b101 r_108 k_108 _ _ (X114.more (by decide) (by decide)) Eh114 N114 K117 O115 hS0 (Nat.le_trans (Nat.le_trans (Nat.le_trans (Nat.le_trans (Nat.le_trans (Nat.le_trans (Nat.zero_le _) E101.1) E102.1) (Keep.of_wr W104).1) (Keep.of_wr W105).1) (Keep.of_wr W106).1) Kc108.1) hZ hown (own_IB_mono hI (by intro t_ h_; first | exact h_ | exact List.mem_cons_of_mem _ h_ | (revert t_ h_; decide))) f116 r108_2 r108_1 r108_3 r14_0 r15_0 r16_0 (Or.inl hv107)
         · skip
           by_cases hv118 : (255 : Int32) < v_15
           · skip
             have f120 : Exa Z h106 b101 sc0 := ((((A101.ext E102).wr W104).wr W105).wr W106)
             have f121 : Fld Z h106 b101 sc0 "value" "[B" .null := ((((F101_value.ext E102).other W104 (Or.inl (Nat.ne_of_lt (Nat.lt_of_lt_of_le A101.lt (Nat.le_of_eq q102.symm))))).other W105 (Or.inl (Nat.ne_of_lt (Nat.lt_of_lt_of_le A101.lt (Nat.le_of_eq q102.symm))))).other W106 (Or.inl (Nat.ne_of_lt (Nat.lt_of_lt_of_le A101.lt (Nat.le_of_eq q102.symm)))))
             have f122 : Fld Z h106 b101 sc0 "coder" "B" (.int 0) := ((((F101_coder.ext E102).other W104 (Or.inl (Nat.ne_of_lt (Nat.lt_of_lt_of_le A101.lt (Nat.le_of_eq q102.symm))))).other W105 (Or.inl (Nat.ne_of_lt (Nat.lt_of_lt_of_le A101.lt (Nat.le_of_eq q102.symm))))).other W106 (Or.inl (Nat.ne_of_lt (Nat.lt_of_lt_of_le A101.lt (Nat.le_of_eq q102.symm)))))
             have O123 : Old Z n0 h106 := (((((O0.ext E101).ext E102).wr W104 g_b102).wr W105 g_b102).wr W106 g_b102)
             obtain ⟨_, T119, Lc119, X119, hQ119, st119⟩ := own_cI X106 hx hZ rfl hown (w_ hw 11 rfl) (w_ hw 12 rfl) (w_ hw 13 rfl) (by decide) (backOf (W := 1) (rmI13 l Z a0 hw [] b101 b102 k102 v_14 v_15 v_16 h106 n0 O123 G_ f120 f121 f122 g_b101 V106 r14_0 r15_0 r16_0 (Or.inr (Or.inl hv118))) hZ (w_ hw 13 rfl) (w_ hw 9 rfl) (by decide) (by decide)) (g := (mkF mm_ 171 #[vi p1, vi p2, vi p3, vi p4, vi p5, vi ((p1 &&& (2147483647 : Int32)) % (5 : Int32)), vi v_14, vi v_15, vi v_16, vi v_17, un, un] [(.ref b102), (.ref b101), (.ref b101)])) rfl hml.symm (a := b101) (argsL := [(.ref b102)]) (rest := [(.ref b101)]) (lenOf pd_17 rfl) rfl (Nat.le_of_eq rfl) (B_ at_171) rfl e106 (by decide) (by decide)
             obtain ⟨r_119, k_119, rfl, Nq119, Kc119, r119_0, r119_1, r119_2, r119_3⟩ := hQ119
             have N119 := Fr.app N106 Nq119
             have K124 : Keep h0 h106 [] := ((((K103.ext E102).wr W104 (Or.inr lo_b102)).wr W105 (Or.inr lo_b102)).wr W106 (Or.inr lo_b102))
             have lo_r_119 : h0.size ≤ r_119 := Nat.le_trans K124.1 r119_0
             have g_r_119 : n0 ≤ r_119 := Nat.le_trans Z0 lo_r_119
             refine jp_ st119 ?_
             show Go_ T119 (mkF mm_ 174 #[vi p1, vi p2, vi p3, vi p4, vi p5, vi ((p1 &&& (2147483647 : Int32)) % (5 : Int32)), vi v_14, vi v_15, vi v_16, vi v_17, un, un] [(.ref b101)])
             refine sp_ (fun t_ k_ => XS.astore X119.here hx rfl (B_ at_174) rfl rfl (l' := #[vi p1, vi p2, vi p3, vi p4, vi p5, vi ((p1 &&& (2147483647 : Int32)) % (5 : Int32)), vi v_14, vi v_15, vi v_16, vi v_17, vr b101, un]) rfl (XS.iload X119.here hx rfl (B_ at_176) rfl  k_)) ?_
             have O126 : Old Z n0 T119.heap := (O123.keep Kc119 (allS g_b101 all0))
             obtain ⟨_, T125, Lc125, X125, hQ125, st125⟩ := own_cS X119 hx hZ hown (w_ hw 49 rfl) (w_ hw 50 rfl) (w_ hw 3 rfl) (w_ hw 51 rfl) (by decide) (backOf (W := 0) (rmDg l Z a0 hw [] v_14 T119.heap n0 O126 ) hZ (w_ hw 51 rfl) (w_ hw 3 rfl) (by decide) (by decide)) (g := (mkF mm_ 178 #[vi p1, vi p2, vi p3, vi p4, vi p5, vi ((p1 &&& (2147483647 : Int32)) % (5 : Int32)), vi v_14, vi v_15, vi v_16, vi v_17, vr b101, un] [(.int v_14)])) rfl hml.symm (argsL := [(.int v_14)]) (rest := []) (lenOf pd_18 rfl) rfl (Nat.le_of_eq rfl) (B_ at_178) rfl rfl (by decide) (by decide)
             obtain ⟨r_125, rfl, rfl, Eh125, r125_0⟩ := hQ125
             have N125 := Fr.app N119 (Fr.nil n0)
             refine jp_ st125 ?_
             rcases r125_0 with ⟨rfl, hd125⟩ | ⟨rfl, hd125⟩
             · skip
               show Go_ T125 (mkF mm_ 181 #[vi p1, vi p2, vi p3, vi p4, vi p5, vi ((p1 &&& (2147483647 : Int32)) % (5 : Int32)), vi v_14, vi v_15, vi v_16, vi v_17, vr b101, un] [(.int 1)])
               refine sp_ (fun t_ k_ => XS.ifNo X125.here hx rfl (B_ at_181) rfl ((if0 _ _).trans (feq (by decide : ¬ ((1 : Int32) = (0 : Int32)))).1) k_) ?_
               show Go_ T125 (mkF mm_ 184 #[vi p1, vi p2, vi p3, vi p4, vi p5, vi ((p1 &&& (2147483647 : Int32)) % (5 : Int32)), vi v_14, vi v_15, vi v_16, vi v_17, vr b101, un] [])
               refine sp_ (fun t_ k_ => XS.iload X125.here hx rfl (B_ at_184) rfl  k_) ?_
               obtain ⟨_, T127, Lc127, X127, hQ127, st127⟩ := own_cS X125 hx hZ hown (w_ hw 49 rfl) (w_ hw 50 rfl) (w_ hw 3 rfl) (w_ hw 51 rfl) (by decide) (backOf (W := 0) (rmDg l Z a0 hw [] v_15 T119.heap n0 O126 ) hZ (w_ hw 51 rfl) (w_ hw 3 rfl) (by decide) (by decide)) (g := (mkF mm_ 186 #[vi p1, vi p2, vi p3, vi p4, vi p5, vi ((p1 &&& (2147483647 : Int32)) % (5 : Int32)), vi v_14, vi v_15, vi v_16, vi v_17, vr b101, un] [(.int v_15)])) rfl hml.symm (argsL := [(.int v_15)]) (rest := []) (lenOf pd_18 rfl) rfl (Nat.le_of_eq rfl) (B_ at_186) rfl Eh125 (by decide) (by decide)
               obtain ⟨r_127, rfl, rfl, Eh127, r127_0⟩ := hQ127
               have N127 := Fr.app N125 (Fr.nil n0)
               refine jp_ st127 ?_
               rcases r127_0 with ⟨rfl, hd127⟩ | ⟨rfl, hd127⟩
               · exact absurd hd127 (fun q_ => q_.2 (own_big hv118).2)
               · skip
                 show Go_ T127 (mkF mm_ 189 #[vi p1, vi p2, vi p3, vi p4, vi p5, vi ((p1 &&& (2147483647 : Int32)) % (5 : Int32)), vi v_14, vi v_15, vi v_16, vi v_17, vr b101, un] [(.int 0)])
                 refine sp_ (fun t_ k_ => XS.ifYes X127.here hx rfl (pc0 := 189) (pc' := 204) rfl (B_ at_189) rfl ((if0 _ _).trans (teq (by decide : (0 : Int32) = (0 : Int32))).1) (by decide) (by decide) k_) ?_
                 show Go_ T127 (mkF mm_ 204 #[vi p1, vi p2, vi p3, vi p4, vi p5, vi ((p1 &&& (2147483647 : Int32)) % (5 : Int32)), vi v_14, vi v_15, vi v_16, vi v_17, vr b101, un] [])
                 refine sp_ (fun t_ k_ => XS.iconst X127.here hx rfl (B_ at_204) (XS.istore X127.here hx rfl (B_ at_205) rfl (l' := #[vi p1, vi p2, vi p3, vi p4, vi p5, vi ((p1 &&& (2147483647 : Int32)) % (5 : Int32)), vi v_14, vi v_15, vi v_16, vi v_17, vr b101, vi 0]) rfl (XS.goto X127.here hx rfl (pc0 := 207) (pc' := 281) rfl (B_ at_207) (by decide) (by decide) k_))) ?_
                 have f128 : Exa Z T119.heap b101 sc0 := (f120.keep Kc119)
                 have K129 : Keep h0 T119.heap [] := (K124.trans Kc119 (allS (Or.inr lo_b101) all0))
                 exact seg_w3 _ _ _ ((p1 &&& (2147483647 : Int32)) % (5 : Int32)) v_14 v_15 v_16 v_17 b101 r_119 k_119 _ _ (X127.more (by decide) (by decide)) Eh127 N127 K129 O126 hS0 (Nat.le_trans (Nat.le_trans (Nat.le_trans (Nat.le_trans (Nat.le_trans (Nat.le_trans (Nat.zero_le _) E101.1) E102.1) (Keep.of_wr W104).1) (Keep.of_wr W105).1) (Keep.of_wr W106).1) Kc119.1) hZ hown (own_IB_mono hI (by intro t_ h_; first | exact h_ | exact List.mem_cons_of_mem _ h_ | (revert t_ h_; decide))) f128 r119_2 r119_1 r119_3 r14_0 r15_0 r16_0 (Or.inr (Or.inl hv118))
             · skip
               show Go_ T125 (mkF mm_ 181 #[vi p1, vi p2, vi p3, vi p4, vi p5, vi ((p1 &&& (2147483647 : Int32)) % (5 : Int32)), vi v_14, vi v_15, vi v_16, vi v_17, vr b101, un] [(.int 0)])
               refine sp_ (fun t_ k_ => XS.ifYes X125.here hx rfl (pc0 := 181) (pc' := 204) rfl (B_ at_181) rfl ((if0 _ _).trans (teq (by decide : (0 : Int32) = (0 : Int32))).1) (by decide) (by decide) k_) ?_
               show Go_ T125 (mkF mm_ 204 #[vi p1, vi p2, vi p3, vi p4, vi p5, vi ((p1 &&& (2147483647 : Int32)) % (5 : Int32)), vi v_14, vi v_15, vi v_16, vi v_17, vr b101, un] [])
               refine sp_ (fun t_ k_ => XS.iconst X125.here hx rfl (B_ at_204) (XS.istore X125.here hx rfl (B_ at_205) rfl (l' := #[vi p1, vi p2, vi p3, vi p4, vi p5, vi ((p1 &&& (2147483647 : Int32)) % (5 : Int32)), vi v_14, vi v_15, vi v_16, vi v_17, vr b101, vi 0]) rfl (XS.goto X125.here hx rfl (pc0 := 207) (pc' := 281) rfl (B_ at_207) (by decide) (by decide) k_))) ?_
               have f130 : Exa Z T119.heap b101 sc0 := (f120.keep Kc119)
               have K131 : Keep h0 T119.heap [] := (K124.trans Kc119 (allS (Or.inr lo_b101) all0))
               exact seg_w3 _ _ _ ((p1 &&& (2147483647 : Int32)) % (5 : Int32)) v_14 v_15 v_16 v_17 b101 r_119 k_119 _ _ (X125.more (by decide) (by decide)) Eh125 N125 K131 O126 hS0 (Nat.le_trans (Nat.le_trans (Nat.le_trans (Nat.le_trans (Nat.le_trans (Nat.le_trans (Nat.zero_le _) E101.1) E102.1) (Keep.of_wr W104).1) (Keep.of_wr W105).1) (Keep.of_wr W106).1) Kc119.1) hZ hown (own_IB_mono hI (by intro t_ h_; first | exact h_ | exact List.mem_cons_of_mem _ h_ | (revert t_ h_; decide))) f130 r119_2 r119_1 r119_3 r14_0 r15_0 r16_0 (Or.inr (Or.inl hv118))
           · skip
             by_cases hv132 : (255 : Int32) < v_16
             · skip
               have f134 : Exa Z h106 b101 sc0 := ((((A101.ext E102).wr W104).wr W105).wr W106)
               have f135 : Fld Z h106 b101 sc0 "value" "[B" .null := ((((F101_value.ext E102).other W104 (Or.inl (Nat.ne_of_lt (Nat.lt_of_lt_of_le A101.lt (Nat.le_of_eq q102.symm))))).other W105 (Or.inl (Nat.ne_of_lt (Nat.lt_of_lt_of_le A101.lt (Nat.le_of_eq q102.symm))))).other W106 (Or.inl (Nat.ne_of_lt (Nat.lt_of_lt_of_le A101.lt (Nat.le_of_eq q102.symm)))))
               have f136 : Fld Z h106 b101 sc0 "coder" "B" (.int 0) := ((((F101_coder.ext E102).other W104 (Or.inl (Nat.ne_of_lt (Nat.lt_of_lt_of_le A101.lt (Nat.le_of_eq q102.symm))))).other W105 (Or.inl (Nat.ne_of_lt (Nat.lt_of_lt_of_le A101.lt (Nat.le_of_eq q102.symm))))).other W106 (Or.inl (Nat.ne_of_lt (Nat.lt_of_lt_of_le A101.lt (Nat.le_of_eq q102.symm)))))
               have O137 : Old Z n0 h106 := (((((O0.ext E101).ext E102).wr W104 g_b102).wr W105 g_b102).wr W106 g_b102)
               obtain ⟨_, T133, Lc133, X133, hQ133, st133⟩ := own_cI X106 hx hZ rfl hown (w_ hw 11 rfl) (w_ hw 12 rfl) (w_ hw 13 rfl) (by decide) (backOf (W := 1) (rmI13 l Z a0 hw [] b101 b102 k102 v_14 v_15 v_16 h106 n0 O137 G_ f134 f135 f136 g_b101 V106 r14_0 r15_0 r16_0 (Or.inr (Or.inr hv132))) hZ (w_ hw 13 rfl) (w_ hw 9 rfl) (by decide) (by decide)) (g := (mkF mm_ 171 #[vi p1, vi p2, vi p3, vi p4, vi p5, vi ((p1 &&& (2147483647 : Int32)) % (5 : Int32)), vi v_14, vi v_15, vi v_16, vi v_17, un, un] [(.ref b102), (.ref b101), (.ref b101)])) rfl hml.symm (a := b101) (argsL := [(.ref b102)]) (rest := [(.ref b101)]) (lenOf pd_17 rfl) rfl (Nat.le_of_eq rfl) (B_ at_171) rfl e106 (by decide) (by decide)
               obtain ⟨r_133, k_133, rfl, Nq133, Kc133, r133_0, r133_1, r133_2, r133_3⟩ := hQ133
               have N133 := Fr.app N106 Nq133
               have K138 : Keep h0 h106 [] := ((((K103.ext E102).wr W104 (Or.inr lo_b102)).wr W105 (Or.inr lo_b102)).wr W106 (Or.inr lo_b102))
               have lo_r_133 : h0.size ≤ r_133 := Nat.le_trans K138.1 r133_0
               have g_r_133 : n0 ≤ r_133 := Nat.le_trans Z0 lo_r_133
               refine jp_ st133 ?_
               show Go_ T133 (mkF mm_ 174 #[vi p1, vi p2, vi p3, vi p4, vi p5, vi ((p1 &&& (2147483647 : Int32)) % (5 : Int32)), vi v_14, vi v_15, vi v_16, vi v_17, un, un] [(.ref b101)])
               refine sp_ (fun t_ k_ => XS.astore X133.here hx rfl (B_ at_174) rfl rfl (l' := #[vi p1, vi p2, vi p3, vi p4, vi p5, vi ((p1 &&& (2147483647 : Int32)) % (5 : Int32)), vi v_14, vi v_15, vi v_16, vi v_17, vr b101, un]) rfl (XS.iload X133.here hx rfl (B_ at_176) rfl  k_)) ?_
               have O140 : Old Z n0 T133.heap := (O137.keep Kc133 (allS g_b101 all0))
               obtain ⟨_, T139, Lc139, X139, hQ139, st139⟩ := own_cS X133 hx hZ hown (w_ hw 49 rfl) (w_ hw 50 rfl) (w_ hw 3 rfl) (w_ hw 51 rfl) (by decide) (backOf (W := 0) (rmDg l Z a0 hw [] v_14 T133.heap n0 O140 ) hZ (w_ hw 51 rfl) (w_ hw 3 rfl) (by decide) (by decide)) (g := (mkF mm_ 178 #[vi p1, vi p2, vi p3, vi p4, vi p5, vi ((p1 &&& (2147483647 : Int32)) % (5 : Int32)), vi v_14, vi v_15, vi v_16, vi v_17, vr b101, un] [(.int v_14)])) rfl hml.symm (argsL := [(.int v_14)]) (rest := []) (lenOf pd_18 rfl) rfl (Nat.le_of_eq rfl) (B_ at_178) rfl rfl (by decide) (by decide)
               obtain ⟨r_139, rfl, rfl, Eh139, r139_0⟩ := hQ139
               have N139 := Fr.app N133 (Fr.nil n0)
               refine jp_ st139 ?_
               rcases r139_0 with ⟨rfl, hd139⟩ | ⟨rfl, hd139⟩
               · skip
                 show Go_ T139 (mkF mm_ 181 #[vi p1, vi p2, vi p3, vi p4, vi p5, vi ((p1 &&& (2147483647 : Int32)) % (5 : Int32)), vi v_14, vi v_15, vi v_16, vi v_17, vr b101, un] [(.int 1)])
                 refine sp_ (fun t_ k_ => XS.ifNo X139.here hx rfl (B_ at_181) rfl ((if0 _ _).trans (feq (by decide : ¬ ((1 : Int32) = (0 : Int32)))).1) k_) ?_
                 show Go_ T139 (mkF mm_ 184 #[vi p1, vi p2, vi p3, vi p4, vi p5, vi ((p1 &&& (2147483647 : Int32)) % (5 : Int32)), vi v_14, vi v_15, vi v_16, vi v_17, vr b101, un] [])
                 refine sp_ (fun t_ k_ => XS.iload X139.here hx rfl (B_ at_184) rfl  k_) ?_
                 obtain ⟨_, T141, Lc141, X141, hQ141, st141⟩ := own_cS X139 hx hZ hown (w_ hw 49 rfl) (w_ hw 50 rfl) (w_ hw 3 rfl) (w_ hw 51 rfl) (by decide) (backOf (W := 0) (rmDg l Z a0 hw [] v_15 T133.heap n0 O140 ) hZ (w_ hw 51 rfl) (w_ hw 3 rfl) (by decide) (by decide)) (g := (mkF mm_ 186 #[vi p1, vi p2, vi p3, vi p4, vi p5, vi ((p1 &&& (2147483647 : Int32)) % (5 : Int32)), vi v_14, vi v_15, vi v_16, vi v_17, vr b101, un] [(.int v_15)])) rfl hml.symm (argsL := [(.int v_15)]) (rest := []) (lenOf pd_18 rfl) rfl (Nat.le_of_eq rfl) (B_ at_186) rfl Eh139 (by decide) (by decide)
                 obtain ⟨r_141, rfl, rfl, Eh141, r141_0⟩ := hQ141
                 have N141 := Fr.app N139 (Fr.nil n0)
                 refine jp_ st141 ?_
                 rcases r141_0 with ⟨rfl, hd141⟩ | ⟨rfl, hd141⟩
                 · skip
                   show Go_ T141 (mkF mm_ 189 #[vi p1, vi p2, vi p3, vi p4, vi p5, vi ((p1 &&& (2147483647 : Int32)) % (5 : Int32)), vi v_14, vi v_15, vi v_16, vi v_17, vr b101, un] [(.int 1)])
                   refine sp_ (fun t_ k_ => XS.ifNo X141.here hx rfl (B_ at_189) rfl ((if0 _ _).trans (feq (by decide : ¬ ((1 : Int32) = (0 : Int32)))).1) k_) ?_
                   show Go_ T141 (mkF mm_ 192 #[vi p1, vi p2, vi p3, vi p4, vi p5, vi ((p1 &&& (2147483647 : Int32)) % (5 : Int32)), vi v_14, vi v_15, vi v_16, vi v_17, vr b101, un] [])
                   refine sp_ (fun t_ k_ => XS.iload X141.here hx rfl (B_ at_192) rfl  k_) ?_
                   obtain ⟨_, T142, Lc142, X142, hQ142, st142⟩ := own_cS X141 hx hZ hown (w_ hw 49 rfl) (w_ hw 50 rfl) (w_ hw 3 rfl) (w_ hw 51 rfl) (by decide) (backOf (W := 0) (rmDg l Z a0 hw [] v_16 T133.heap n0 O140 ) hZ (w_ hw 51 rfl) (w_ hw 3 rfl) (by decide) (by decide)) (g := (mkF mm_ 194 #[vi p1, vi p2, vi p3, vi p4, vi p5, vi ((p1 &&& (2147483647 : Int32)) % (5 : Int32)), vi v_14, vi v_15, vi v_16, vi v_17, vr b101, un] [(.int v_16)])) rfl hml.symm (argsL := [(.int v_16)]) (rest := []) (lenOf pd_18 rfl) rfl (Nat.le_of_eq rfl) (B_ at_194) rfl Eh141 (by decide) (by decide)
                   obtain ⟨r_142, rfl, rfl, Eh142, r142_0⟩ := hQ142
                   have N142 := Fr.app N141 (Fr.nil n0)
                   refine jp_ st142 ?_
                   rcases r142_0 with ⟨rfl, hd142⟩ | ⟨rfl, hd142⟩
                   · exact absurd hd142 (fun q_ => q_.2 (own_big hv132).2)
                   · skip
                     show Go_ T142 (mkF mm_ 197 #[vi p1, vi p2, vi p3, vi p4, vi p5, vi ((p1 &&& (2147483647 : Int32)) % (5 : Int32)), vi v_14, vi v_15, vi v_16, vi v_17, vr b101, un] [(.int 0)])
                     refine sp_ (fun t_ k_ => XS.ifYes X142.here hx rfl (pc0 := 197) (pc' := 204) rfl (B_ at_197) rfl ((if0 _ _).trans (teq (by decide : (0 : Int32) = (0 : Int32))).1) (by decide) (by decide) k_) ?_
                     show Go_ T142 (mkF mm_ 204 #[vi p1, vi p2, vi p3, vi p4, vi p5, vi ((p1 &&& (2147483647 : Int32)) % (5 : Int32)), vi v_14, vi v_15, vi v_16, vi v_17, vr b101, un] [])
                     refine sp_ (fun t_ k_ => XS.iconst X142.here hx rfl (B_ at_204) (XS.istore X142.here hx rfl (B_ at_205) rfl (l' := #[vi p1, vi p2, vi p3, vi p4, vi p5, vi ((p1 &&& (2147483647 : Int32)) % (5 : Int32)), vi v_14, vi v_15, vi v_16, vi v_17, vr b101, vi 0]) rfl (XS.goto X142.here hx rfl (pc0 := 207) (pc' := 281) rfl (B_ at_207) (by decide) (by decide) k_))) ?_
                     have f143 : Exa Z T133.heap b101 sc0 := (f134.keep Kc133)
                     have K144 : Keep h0 T133.heap [] := (K138.trans Kc133 (allS (Or.inr lo_b101) all0))
                     exact seg_w3 _ _ _ ((p1 &&& (2147483647 : Int32)) % (5 : Int32)) v_14 v_15 v_16 v_17 b101 r_133 k_133 _ _ (X142.more (by decide) (by decide)) Eh142 N142 K144 O140 hS0 (Nat.le_trans (Nat.le_trans (Nat.le_trans (Nat.le_trans (Nat.le_trans (Nat.le_trans (Nat.zero_le _) E101.1) E102.1) (Keep.of_wr W104).1) (Keep.of_wr W105).1) (Keep.of_wr W106).1) Kc133.1) hZ hown (own_IB_mono hI (by intro t_ h_; first | exact h_ | exact List.mem_cons_of_mem _ h_ | (revert t_ h_; decide))) f143 r133_2 r133_1 r133_3 r14_0 r15_0 r16_0 (Or.inr (Or.inr hv132))
                 · skip
                   show Go_ T141 (mkF mm_ 189 #[vi p1, vi p2, vi p3, vi p4, vi p5, vi ((p1 &&& (2147483647 : Int32)) % (5 : Int32)), vi v_14, vi v_15, vi v_16, vi v_17, vr b101, un] [(.int 0)])
                   refine sp_ (fun t_ k_ => XS.ifYes X141.here hx rfl (pc0 := 189) (pc' := 204) rfl (B_ at_189) rfl ((if0 _ _).trans (teq (by decide : (0 : Int32) = (0 : Int32))).1) (by decide) (by decide) k_) ?_
                   show Go_ T141 (mkF mm_ 204 #[vi p1, vi p2, vi p3, vi p4, vi p5, vi ((p1 &&& (2147483647 : Int32)) % (5 : Int32)), vi v_14, vi v_15, vi v_16, vi v_17, vr b101, un] [])
                   refine sp_ (fun t_ k_ => XS.iconst X141.here hx rfl (B_ at_204) (XS.istore X141.here hx rfl (B_ at_205) rfl (l' := #[vi p1, vi p2, vi p3, vi p4, vi p5, vi ((p1 &&& (2147483647 : Int32)) % (5 : Int32)), vi v_14, vi v_15, vi v_16, vi v_17, vr b101, vi 0]) rfl (XS.goto X141.here hx rfl (pc0 := 207) (pc' := 281) rfl (B_ at_207) (by decide) (by decide) k_))) ?_
                   have f145 : Exa Z T133.heap b101 sc0 := (f134.keep Kc133)
                   have K146 : Keep h0 T133.heap [] := (K138.trans Kc133 (allS (Or.inr lo_b101) all0))
                   exact seg_w3 _ _ _ ((p1 &&& (2147483647 : Int32)) % (5 : Int32)) v_14 v_15 v_16 v_17 b101 r_133 k_133 _ _ (X141.more (by decide) (by decide)) Eh141 N141 K146 O140 hS0 (Nat.le_trans (Nat.le_trans (Nat.le_trans (Nat.le_trans (Nat.le_trans (Nat.le_trans (Nat.zero_le _) E101.1) E102.1) (Keep.of_wr W104).1) (Keep.of_wr W105).1) (Keep.of_wr W106).1) Kc133.1) hZ hown (own_IB_mono hI (by intro t_ h_; first | exact h_ | exact List.mem_cons_of_mem _ h_ | (revert t_ h_; decide))) f145 r133_2 r133_1 r133_3 r14_0 r15_0 r16_0 (Or.inr (Or.inr hv132))
               · skip
                 show Go_ T139 (mkF mm_ 181 #[vi p1, vi p2, vi p3, vi p4, vi p5, vi ((p1 &&& (2147483647 : Int32)) % (5 : Int32)), vi v_14, vi v_15, vi v_16, vi v_17, vr b101, un] [(.int 0)])
                 refine sp_ (fun t_ k_ => XS.ifYes X139.here hx rfl (pc0 := 181) (pc' := 204) rfl (B_ at_181) rfl ((if0 _ _).trans (teq (by decide : (0 : Int32) = (0 : Int32))).1) (by decide) (by decide) k_) ?_
                 show Go_ T139 (mkF mm_ 204 #[vi p1, vi p2, vi p3, vi p4, vi p5, vi ((p1 &&& (2147483647 : Int32)) % (5 : Int32)), vi v_14, vi v_15, vi v_16, vi v_17, vr b101, un] [])
                 refine sp_ (fun t_ k_ => XS.iconst X139.here hx rfl (B_ at_204) (XS.istore X139.here hx rfl (B_ at_205) rfl (l' := #[vi p1, vi p2, vi p3, vi p4, vi p5, vi ((p1 &&& (2147483647 : Int32)) % (5 : Int32)), vi v_14, vi v_15, vi v_16, vi v_17, vr b101, vi 0]) rfl (XS.goto X139.here hx rfl (pc0 := 207) (pc' := 281) rfl (B_ at_207) (by decide) (by decide) k_))) ?_
                 have f147 : Exa Z T133.heap b101 sc0 := (f134.keep Kc133)
                 have K148 : Keep h0 T133.heap [] := (K138.trans Kc133 (allS (Or.inr lo_b101) all0))
                 exact seg_w3 _ _ _ ((p1 &&& (2147483647 : Int32)) % (5 : Int32)) v_14 v_15 v_16 v_17 b101 r_133 k_133 _ _ (X139.more (by decide) (by decide)) Eh139 N139 K148 O140 hS0 (Nat.le_trans (Nat.le_trans (Nat.le_trans (Nat.le_trans (Nat.le_trans (Nat.le_trans (Nat.zero_le _) E101.1) E102.1) (Keep.of_wr W104).1) (Keep.of_wr W105).1) (Keep.of_wr W106).1) Kc133.1) hZ hown (own_IB_mono hI (by intro t_ h_; first | exact h_ | exact List.mem_cons_of_mem _ h_ | (revert t_ h_; decide))) f147 r133_2 r133_1 r133_3 r14_0 r15_0 r16_0 (Or.inr (Or.inr hv132))
             · skip
               have hp150 : ∀ ch_ ∈ ([v_14, v_15, v_16] : List Int32), ¬ ch_ < 0 ∧ ¬ (255 : Int32) < ch_ := by
                intro ch_ hc
                simp only [List.mem_cons, List.not_mem_nil, or_false] at hc
                rcases hc with rfl | rfl | rfl
                · exact ⟨r14_0.1, hv107⟩
                · exact ⟨r15_0.1, hv118⟩
                · exact ⟨r16_0.1, hv132⟩
               have f151 : Exa Z h106 b101 sc0 := ((((A101.ext E102).wr W104).wr W105).wr W106)
               have f152 : Fld Z h106 b101 sc0 "value" "[B" .null := ((((F101_value.ext E102).other W104 (Or.inl (Nat.ne_of_lt (Nat.lt_of_lt_of_le A101.lt (Nat.le_of_eq q102.symm))))).other W105 (Or.inl (Nat.ne_of_lt (Nat.lt_of_lt_of_le A101.lt (Nat.le_of_eq q102.symm))))).other W106 (Or.inl (Nat.ne_of_lt (Nat.lt_of_lt_of_le A101.lt (Nat.le_of_eq q102.symm)))))
               have f153 : Fld Z h106 b101 sc0 "coder" "B" (.int 0) := ((((F101_coder.ext E102).other W104 (Or.inl (Nat.ne_of_lt (Nat.lt_of_lt_of_le A101.lt (Nat.le_of_eq q102.symm))))).other W105 (Or.inl (Nat.ne_of_lt (Nat.lt_of_lt_of_le A101.lt (Nat.le_of_eq q102.symm))))).other W106 (Or.inl (Nat.ne_of_lt (Nat.lt_of_lt_of_le A101.lt (Nat.le_of_eq q102.symm)))))
               have O154 : Old Z n0 h106 := (((((O0.ext E101).ext E102).wr W104 g_b102).wr W105 g_b102).wr W106 g_b102)
               have K155 : Keep h0 h106 [] := ((((K103.ext E102).wr W104 (Or.inr lo_b102)).wr W105 (Or.inr lo_b102)).wr W106 (Or.inr lo_b102))
               obtain ⟨_, T149, Lc149, X149, hQ149, st149⟩ := own_cI X106 hx hZ rfl hown (w_ hw 11 rfl) (w_ hw 12 rfl) (w_ hw 13 rfl) (by decide) (own_newS (W := 1) hZ hw (cs := [v_14, v_15, v_16]) (n := 3) g_b101 (Nat.le_trans Z0 K155.1) f151 f152 f153 V106 (G_cs.ext O154.2) G_cs0 rfl rfl rfl (by decide) (by decide) hp150 (by decide) (by decide)) (g := (mkF mm_ 171 #[vi p1, vi p2, vi p3, vi p4, vi p5, vi ((p1 &&& (2147483647 : Int32)) % (5 : Int32)), vi v_14, vi v_15, vi v_16, vi v_17, un, un] [(.ref b102), (.ref b101), (.ref b101)])) rfl hml.symm (a := b101) (argsL := [(.ref b102)]) (rest := [(.ref b101)]) (lenOf pd_17 rfl) rfl (Nat.le_of_eq rfl) (B_ at_171) rfl e106 (by decide) (by decide)
               obtain ⟨t149, rfl, Nq149, Kc149, lo149, Fs149⟩ := hQ149
               have N149 := Fr.app N106 Nq149
               have lo_t149 : h0.size ≤ t149 := Nat.le_trans K155.1 lo149
               have g_t149 : n0 ≤ t149 := Nat.le_trans Z0 lo_t149
               refine jp_ st149 ?_
               show Go_ T149 (mkF mm_ 174 #[vi p1, vi p2, vi p3, vi p4, vi p5, vi ((p1 &&& (2147483647 : Int32)) % (5 : Int32)), vi v_14, vi v_15, vi v_16, vi v_17, un, un] [(.ref b101)])
               refine sp_ (fun t_ k_ => XS.astore X149.here hx rfl (B_ at_174) rfl rfl (l' := #[vi p1, vi p2, vi p3, vi p4, vi p5, vi ((p1 &&& (2147483647 : Int32)) % (5 : Int32)), vi v_14, vi v_15, vi v_16, vi v_17, vr b101, un]) rfl (XS.iload X149.here hx rfl (B_ at_176) rfl  k_)) ?_
               have O157 : Old Z n0 T149.heap := (O154.keep Kc149 (allS g_b101 all0))
               obtain ⟨_, T156, Lc156, X156, hQ156, st156⟩ := own_cS X149 hx hZ hown (w_ hw 49 rfl) (w_ hw 50 rfl) (w_ hw 3 rfl) (w_ hw 51 rfl) (by decide) (backOf (W := 0) (rmDg l Z a0 hw [] v_14 T149.heap n0 O157 ) hZ (w_ hw 51 rfl) (w_ hw 3 rfl) (by decide) (by decide)) (g := (mkF mm_ 178 #[vi p1, vi p2, vi p3, vi p4, vi p5, vi ((p1 &&& (2147483647 : Int32)) % (5 : Int32)), vi v_14, vi v_15, vi v_16, vi v_17, vr b101, un] [(.int v_14)])) rfl hml.symm (argsL := [(.int v_14)]) (rest := []) (lenOf pd_18 rfl) rfl (Nat.le_of_eq rfl) (B_ at_178) rfl rfl (by decide) (by decide)
               obtain ⟨r_156, rfl, rfl, Eh156, r156_0⟩ := hQ156
               have N156 := Fr.app N149 (Fr.nil n0)
               refine jp_ st156 ?_
               rcases r156_0 with ⟨rfl, hd156⟩ | ⟨rfl, hd156⟩
               · skip
                 show Go_ T156 (mkF mm_ 181 #[vi p1, vi p2, vi p3, vi p4, vi p5, vi ((p1 &&& (2147483647 : Int32)) % (5 : Int32)), vi v_14, vi v_15, vi v_16, vi v_17, vr b101, un] [(.int 1)])
                 refine sp_ (fun t_ k_ => XS.ifNo X156.here hx rfl (B_ at_181) rfl ((if0 _ _).trans (feq (by decide : ¬ ((1 : Int32) = (0 : Int32)))).1) k_) ?_
                 show Go_ T156 (mkF mm_ 184 #[vi p1, vi p2, vi p3, vi p4, vi p5, vi ((p1 &&& (2147483647 : Int32)) % (5 : Int32)), vi v_14, vi v_15, vi v_16, vi v_17, vr b101, un] [])
                 refine sp_ (fun t_ k_ => XS.iload X156.here hx rfl (B_ at_184) rfl  k_) ?_
                 obtain ⟨_, T158, Lc158, X158, hQ158, st158⟩ := own_cS X156 hx hZ hown (w_ hw 49 rfl) (w_ hw 50 rfl) (w_ hw 3 rfl) (w_ hw 51 rfl) (by decide) (backOf (W := 0) (rmDg l Z a0 hw [] v_15 T149.heap n0 O157 ) hZ (w_ hw 51 rfl) (w_ hw 3 rfl) (by decide) (by decide)) (g := (mkF mm_ 186 #[vi p1, vi p2, vi p3, vi p4, vi p5, vi ((p1 &&& (2147483647 : Int32)) % (5 : Int32)), vi v_14, vi v_15, vi v_16, vi v_17, vr b101, un] [(.int v_15)])) rfl hml.symm (argsL := [(.int v_15)]) (rest := []) (lenOf pd_18 rfl) rfl (Nat.le_of_eq rfl) (B_ at_186) rfl Eh156 (by decide) (by decide)
                 obtain ⟨r_158, rfl, rfl, Eh158, r158_0⟩ := hQ158
                 have N158 := Fr.app N156 (Fr.nil n0)
                 refine jp_ st158 ?_
                 rcases r158_0 with ⟨rfl, hd158⟩ | ⟨rfl, hd158⟩
                 · skip
                   show Go_ T158 (mkF mm_ 189 #[vi p1, vi p2, vi p3, vi p4, vi p5, vi ((p1 &&& (2147483647 : Int32)) % (5 : Int32)), vi v_14, vi v_15, vi v_16, vi v_17, vr b101, un] [(.int 1)])
                   refine sp_ (fun t_ k_ => XS.ifNo X158.here hx rfl (B_ at_189) rfl ((if0 _ _).trans (feq (by decide : ¬ ((1 : Int32) = (0 : Int32)))).1) k_) ?_
                   show Go_ T158 (mkF mm_ 192 #[vi p1, vi p2, vi p3, vi p4, vi p5, vi ((p1 &&& (2147483647 : Int32)) % (5 : Int32)), vi v_14, vi v_15, vi v_16, vi v_17, vr b101, un] [])
                   refine sp_ (fun t_ k_ => XS.iload X158.here hx rfl (B_ at_192) rfl  k_) ?_
                   obtain ⟨_, T159, Lc159, X159, hQ159, st159⟩ := own_cS X158 hx hZ hown (w_ hw 49 rfl) (w_ hw 50 rfl) (w_ hw 3 rfl) (w_ hw 51 rfl) (by decide) (backOf (W := 0) (rmDg l Z a0 hw [] v_16 T149.heap n0 O157 ) hZ (w_ hw 51 rfl) (w_ hw 3 rfl) (by decide) (by decide)) (g := (mkF mm_ 194 #[vi p1, vi p2, vi p3, vi p4, vi p5, vi ((p1 &&& (2147483647 : Int32)) % (5 : Int32)), vi v_14, vi v_15, vi v_16, vi v_17, vr b101, un] [(.int v_16)])) rfl hml.symm (argsL := [(.int v_16)]) (rest := []) (lenOf pd_18 rfl) rfl (Nat.le_of_eq rfl) (B_ at_194) rfl Eh158 (by decide) (by decide)
                   obtain ⟨r_159, rfl, rfl, Eh159, r159_0⟩ := hQ159
                   have N159 := Fr.app N158 (Fr.nil n0)
                   refine jp_ st159 ?_
                   rcases r159_0 with ⟨rfl, hd159⟩ | ⟨rfl, hd159⟩
                   · skip
                     show Go_ T159 (mkF mm_ 197 #[vi p1, vi p2, vi p3, vi p4, vi p5, vi ((p1 &&& (2147483647 : Int32)) % (5 : Int32)), vi v_14, vi v_15, vi v_16, vi v_17, vr b101, un] [(.int 1)])
                     refine sp_ (fun t_ k_ => XS.ifNo X159.here hx rfl (B_ at_197) rfl ((if0 _ _).trans (feq (by decide : ¬ ((1 : Int32) = (0 : Int32)))).1) k_) ?_
                     show Go_ T159 (mkF mm_ 200 #[vi p1, vi p2, vi p3, vi p4, vi p5, vi ((p1 &&& (2147483647 : Int32)) % (5 : Int32)), vi v_14, vi v_15, vi v_16, vi v_17, vr b101, un] [])
                     refine sp_ (fun t_ k_ => XS.iconst X159.here hx rfl (B_ at_200) (XS.goto X159.here hx rfl (pc0 := 201) (pc' := 205) rfl (B_ at_201) (by decide) (by decide) (XS.istore X159.here hx rfl (B_ at_205) rfl (l' := #[vi p1, vi p2, vi p3, vi p4, vi p5, vi ((p1 &&& (2147483647 : Int32)) % (5 : Int32)), vi v_14, vi v_15, vi v_16, vi v_17, vr b101, vi 1]) rfl (XS.goto X159.here hx rfl (pc0 := 207) (pc' := 281) rfl (B_ at_207) (by decide) (by decide) k_)))) ?_
                     have K160 : Keep h0 T149.heap [] := (K155.trans Kc149 (allS (Or.inr lo_b101) all0))
                     exact seg_l3_1 _ _ _ ((p1 &&& (2147483647 : Int32)) % (5 : Int32)) v_14 v_15 v_16 v_17 b101 t149 _ _ (X159.more (by decide) (by decide)) Eh159 N159 K160 O157 hS0 (Nat.le_trans (Nat.le_trans (Nat.le_trans (Nat.le_trans (Nat.le_trans (Nat.le_trans (Nat.zero_le _) E101.1) E102.1) (Keep.of_wr W104).1) (Keep.of_wr W105).1) (Keep.of_wr W106).1) Kc149.1) hZ hown (own_IB_mono hI (by intro t_ h_; first | exact h_ | exact List.mem_cons_of_mem _ h_ | (revert t_ h_; decide))) Fs149 (fun r h_ => h_.2.2.2 hd156 hd158 hd159)
                   · skip
                     show Go_ T159 (mkF mm_ 197 #[vi p1, vi p2, vi p3, vi p4, vi p5, vi ((p1 &&& (2147483647 : Int32)) % (5 : Int32)), vi v_14, vi v_15, vi v_16, vi v_17, vr b101, un] [(.int 0)])
                     refine sp_ (fun t_ k_ => XS.ifYes X159.here hx rfl (pc0 := 197) (pc' := 204) rfl (B_ at_197) rfl ((if0 _ _).trans (teq (by decide : (0 : Int32) = (0 : Int32))).1) (by decide) (by decide) k_) ?_
                     show Go_ T159 (mkF mm_ 204 #[vi p1, vi p2, vi p3, vi p4, vi p5, vi ((p1 &&& (2147483647 : Int32)) % (5 : Int32)), vi v_14, vi v_15, vi v_16, vi v_17, vr b101, un] [])
                     refine sp_ (fun t_ k_ => XS.iconst X159.here hx rfl (B_ at_204) (XS.istore X159.here hx rfl (B_ at_205) rfl (l' := #[vi p1, vi p2, vi p3, vi p4, vi p5, vi ((p1 &&& (2147483647 : Int32)) % (5 : Int32)), vi v_14, vi v_15, vi v_16, vi v_17, vr b101, vi 0]) rfl (XS.goto X159.here hx rfl (pc0 := 207) (pc' := 281) rfl (B_ at_207) (by decide) (by decide) k_))) ?_
                     have K161 : Keep h0 T149.heap [] := (K155.trans Kc149 (allS (Or.inr lo_b101) all0))
                     exact seg_l3_0 _ _ _ ((p1 &&& (2147483647 : Int32)) % (5 : Int32)) v_14 v_15 v_16 v_17 b101 t149 _ _ (X159.more (by decide) (by decide)) Eh159 N159 K161 O157 hS0 (Nat.le_trans (Nat.le_trans (Nat.le_trans (Nat.le_trans (Nat.le_trans (Nat.le_trans (Nat.zero_le _) E101.1) E102.1) (Keep.of_wr W104).1) (Keep.of_wr W105).1) (Keep.of_wr W106).1) Kc149.1) hZ hown (own_IB_mono hI (by intro t_ h_; first | exact h_ | exact List.mem_cons_of_mem _ h_ | (revert t_ h_; decide))) Fs149 (fun r h_ => h_.2.2.1 hd156 hd158 hd159)
                 · skip
                   show Go_ T158 (mkF mm_ 189 #[vi p1, vi p2, vi p3, vi p4, vi p5, vi ((p1 &&& (2147483647 : Int32)) % (5 : Int32)), vi v_14, vi v_15, vi v_16, vi v_17, vr b101, un] [(.int 0)])
                   refine sp_ (fun t_ k_ => XS.ifYes X158.here hx rfl (pc0 := 189) (pc' := 204) rfl (B_ at_189) rfl ((if0 _ _).trans (teq (by decide : (0 : Int32) = (0 : Int32))).1) (by decide) (by decide) k_) ?_
                   show Go_ T158 (mkF mm_ 204 #[vi p1, vi p2, vi p3, vi p4, vi p5, vi ((p1 &&& (2147483647 : Int32)) % (5 : Int32)), vi v_14, vi v_15, vi v_16, vi v_17, vr b101, un] [])
                   refine sp_ (fun t_ k_ => XS.iconst X158.here hx rfl (B_ at_204) (XS.istore X158.here hx rfl (B_ at_205) rfl (l' := #[vi p1, vi p2, vi p3, vi p4, vi p5, vi ((p1 &&& (2147483647 : Int32)) % (5 : Int32)), vi v_14, vi v_15, vi v_16, vi v_17, vr b101, vi 0]) rfl (XS.goto X158.here hx rfl (pc0 := 207) (pc' := 281) rfl (B_ at_207) (by decide) (by decide) k_))) ?_
                   have K162 : Keep h0 T149.heap [] := (K155.trans Kc149 (allS (Or.inr lo_b101) all0))
                   exact seg_l3_0 _ _ _ ((p1 &&& (2147483647 : Int32)) % (5 : Int32)) v_14 v_15 v_16 v_17 b101 t149 _ _ (X158.more (by decide) (by decide)) Eh158 N158 K162 O157 hS0 (Nat.le_trans (Nat.le_trans (Nat.le_trans (Nat.le_trans (Nat.le_trans (Nat.le_trans (Nat.zero_le _) E101.1) E102.1) (Keep.of_wr W104).1) (Keep.of_wr W105).1) (Keep.of_wr W106).1) Kc149.1) hZ hown (own_IB_mono hI (by intro t_ h_; first | exact h_ | exact List.mem_cons_of_mem _ h_ | (revert t_ h_; decide))) Fs149 (fun r h_ => h_.2.1 hd156 hd158)
               · skip
                 show Go_ T156 (mkF mm_ 181 #[vi p1, vi p2, vi p3, vi p4, vi p5, vi ((p1 &&& (2147483647 : Int32)) % (5 : Int32)), vi v_14, vi v_15, vi v_16, vi v_17, vr b101, un] [(.int 0)])
                 refine sp_ (fun t_ k_ => XS.ifYes X156.here hx rfl (pc0 := 181) (pc' := 204) rfl (B_ at_181) rfl ((if0 _ _).trans (teq (by decide : (0 : Int32) = (0 : Int32))).1) (by decide) (by decide) k_) ?_
                 show Go_ T156 (mkF mm_ 204 #[vi p1, vi p2, vi p3, vi p4, vi p5, vi ((p1 &&& (2147483647 : Int32)) % (5 : Int32)), vi v_14, vi v_15, vi v_16, vi v_17, vr b101, un] [])
                 refine sp_ (fun t_ k_ => XS.iconst X156.here hx rfl (B_ at_204) (XS.istore X156.here hx rfl (B_ at_205) rfl (l' := #[vi p1, vi p2, vi p3, vi p4, vi p5, vi ((p1 &&& (2147483647 : Int32)) % (5 : Int32)), vi v_14, vi v_15, vi v_16, vi v_17, vr b101, vi 0]) rfl (XS.goto X156.here hx rfl (pc0 := 207) (pc' := 281) rfl (B_ at_207) (by decide) (by decide) k_))) ?_
                 have K163 : Keep h0 T149.heap [] := (K155.trans Kc149 (allS (Or.inr lo_b101) all0))
                 exact seg_l3_0 _ _ _ ((p1 &&& (2147483647 : Int32)) % (5 : Int32)) v_14 v_15 v_16 v_17 b101 t149 _ _ (X156.more (by decide) (by decide)) Eh156 N156 K163 O157 hS0 (Nat.le_trans (Nat.le_trans (Nat.le_trans (Nat.le_trans (Nat.le_trans (Nat.le_trans (Nat.zero_le _) E101.1) E102.1) (Keep.of_wr W104).1) (Keep.of_wr W105).1) (Keep.of_wr W106).1) Kc149.1) hZ hown (own_IB_mono hI (by intro t_ h_; first | exact h_ | exact List.mem_cons_of_mem _ h_ | (revert t_ h_; decide))) Fs149 (fun r h_ => h_.1 hd156)
       · skip
         refine sp_ (fun t_ k_ => XS.icmpYes X17.here hx rfl (pc0 := 146) (pc' := 210) rfl (B_ at_146) rfl (feq hc146_100).2 (by decide) (by decide) k_) ?_
         obtain ⟨T164, h164, X164, e164, E164, A164, D164, -, st164⟩ := newO X17 hx hZ hown (w_ hw 7 rfl) (w_ hw 8 rfl) (w_ hw 9 rfl) Eh17 (g := (mkF mm_ 210 #[vi p1, vi p2, vi p3, vi p4, vi p5, vi ((p1 &&& (2147483647 : Int32)) % (5 : Int32)), vi v_14, vi v_15, vi v_16, vi v_17, un, un] [])) rfl (B_ at_210) (by decide) (by decide)
         obtain ⟨b164, q164⟩ : ∃ z, z = h0.size := ⟨_, rfl⟩
         rw [← q164] at A164 D164 st164
         have lo_b164 : h0.size ≤ b164 := Nat.le_trans K0.1 (Nat.le_of_eq q164.symm)
         have g_b164 : n0 ≤ b164 := Nat.le_trans Z0 lo_b164
         refine sp_ st164 ?_
         have F164_value : Fld Z h164 b164 sc0 "value" "[B" .null := D164 (Or.inr (w_ hw 23 rfl)) (ty := (.array .byte)) (by decide)
         have F164_coder : Fld Z h164 b164 sc0 "coder" "B" (.int 0) := D164 (Or.inr (w_ hw 24 rfl)) (ty := .byte) (by decide)
         show Go_ T164 (mkF mm_ 213 #[vi p1, vi p2, vi p3, vi p4, vi p5, vi ((p1 &&& (2147483647 : Int32)) % (5 : Int32)), vi v_14, vi v_15, vi v_16, vi v_17, un, un] [(.ref b164)])
         refine sp_ (fun t_ k_ => XS.dup X164.here hx rfl (B_ at_213) rfl rfl (XS.iconst X164.here hx rfl (B_ at_214) k_)) ?_
         obtain ⟨T165, h165, k165, X165, e165, E165, A165, st165⟩ := newP X164 hx hZ (w_ hw 10 rfl) e164 (g := (mkF mm_ 215 #[vi p1, vi p2, vi p3, vi p4, vi p5, vi ((p1 &&& (2147483647 : Int32)) % (5 : Int32)), vi v_14, vi v_15, vi v_16, vi v_17, un, un] [(.int 4), (.ref b164), (.ref b164)])) rfl (B_ at_215) rfl (by decide) (cap := 4) (by decide) (by decide) (by decide) (by decide)
         obtain ⟨b165, q165⟩ : ∃ z, z = h164.size := ⟨_, rfl⟩
         rw [← q165] at A165 st165
         have K166 : Keep h0 h164 [] := (K0.ext E164)
         have lo_b165 : h0.size ≤ b165 := Nat.le_trans K166.1 (Nat.le_of_eq q165.symm)
         have g_b165 : n0 ≤ b165 := Nat.le_trans Z0 lo_b165
         refine sp_ st165 ?_
         have V165 : Arv Z h165 b165 k165 .char (4 : Int32) [(.int 0), (.int 0), (.int 0), (.int 0)] (.int 0) := (Arv.new A165 (by decide)).pad (pad_rep [] (.int 0) 4)
         show Go_ T165 (mkF mm_ 217 #[vi p1, vi p2, vi p3, vi p4, vi p5, vi ((p1 &&& (2147483647 : Int32)) % (5 : Int32)), vi v_14, vi v_15, vi v_16, vi v_17, un, un] [(.ref b165), (.ref b164), (.ref b164)])
         refine sp_ (fun t_ k_ => XS.dup X165.here hx rfl (B_ at_217) rfl rfl (XS.iconst X165.here hx rfl (B_ at_218) (XS.iload X165.here hx rfl (B_ at_219) rfl  k_))) ?_
         obtain ⟨cl167, Ar167, q167, S167, M167, H167, G167⟩ := id V165
         have hin167 : ¬ ((0 : Int32) < 0 ∨ cl167.slots.size ≤ ((0 : Int32)).toNatClampNeg) := inb_of S167 ⟨by decide, by decide⟩
         obtain ⟨T167, h167, X167, e167, W167, st167⟩ := stC X165 hx hZ e165 Ar167 (j := (0 : Int32)) hin167 (g := (mkF mm_ 221 #[vi p1, vi p2, vi p3, vi p4, vi p5, vi ((p1 &&& (2147483647 : Int32)) % (5 : Int32)), vi v_14, vi v_15, vi v_16, vi v_17, un, un] [(.int v_14), (.int 0), (.ref b165), (.ref b165), (.ref b164), (.ref b164)])) rfl rfl (B_ at_221)
         have V167 : Arv Z h167 b165 k165 .char (4 : Int32) [(.int v_14), (.int 0), (.int 0), (.int 0)] (.int 0) := by
          have q := Arv.set Ar167 q167 S167 M167 H167 G167 (fits_nar_char _) W167 0 rfl (Nat.le_of_ble_eq_true rfl)
          rw [own_narLit _ r14_0.1 r14_0.2] at q
          exact q
         have N167 := Fr.snoc X167 N17 g_b165
         refine sp_ st167 ?_
         show Go_ T167 (mkF mm_ 222 #[vi p1, vi p2, vi p3, vi p4, vi p5, vi ((p1 &&& (2147483647 : Int32)) % (5 : Int32)), vi v_14, vi v_15, vi v_16, vi v_17, un, un] [(.ref b165), (.ref b164), (.ref b164)])
         refine sp_ (fun t_ k_ => XS.dup X167.here hx rfl (B_ at_222) rfl rfl (XS.iconst X167.here hx rfl (B_ at_223) (XS.iload X167.here hx rfl (B_ at_224) rfl  k_))) ?_
         obtain ⟨cl168, Ar168, q168, S168, M168, H168, G168⟩ := id V167
         have hin168 : ¬ ((1 : Int32) < 0 ∨ cl168.slots.size ≤ ((1 : Int32)).toNatClampNeg) := inb_of S168 ⟨by decide, by decide⟩
         obtain ⟨T168, h168, X168, e168, W168, st168⟩ := stC X167 hx hZ e167 Ar168 (j := (1 : Int32)) hin168 (g := (mkF mm_ 226 #[vi p1, vi p2, vi p3, vi p4, vi p5, vi ((p1 &&& (2147483647 : Int32)) % (5 : Int32)), vi v_14, vi v_15, vi v_16, vi v_17, un, un] [(.int v_15), (.int 1), (.ref b165), (.ref b165), (.ref b164), (.ref b164)])) rfl rfl (B_ at_226)
         have V168 : Arv Z h168 b165 k165 .char (4 : Int32) [(.int v_14), (.int v_15), (.int 0), (.int 0)] (.int 0) := by
          have q := Arv.set Ar168 q168 S168 M168 H168 G168 (fits_nar_char _) W168 1 rfl (Nat.le_of_ble_eq_true rfl)
          rw [own_narLit _ r15_0.1 r15_0.2] at q
          exact q
         have N168 := Fr.snoc X168 N167 g_b165
         refine sp_ st168 ?_
         show Go_ T168 (mkF mm_ 227 #[vi p1, vi p2, vi p3, vi p4, vi p5, vi ((p1 &&& (2147483647 : Int32)) % (5 : Int32)), vi v_14, vi v_15, vi v_16, vi v_17, un, un] [(.ref b165), (.ref b164), (.ref b164)])
         refine sp_ (fun t_ k_ => XS.dup X168.here hx rfl (B_ at_227) rfl rfl (XS.iconst X168.here hx rfl (B_ at_228) (XS.iload X168.here hx rfl (B_ at_229) rfl  k_))) ?_
         obtain ⟨cl169, Ar169, q169, S169, M169, H169, G169⟩ := id V168
         have hin169 : ¬ ((2 : Int32) < 0 ∨ cl169.slots.size ≤ ((2 : Int32)).toNatClampNeg) := inb_of S169 ⟨by decide, by decide⟩
         obtain ⟨T169, h169, X169, e169, W169, st169⟩ := stC X168 hx hZ e168 Ar169 (j := (2 : Int32)) hin169 (g := (mkF mm_ 231 #[vi p1, vi p2, vi p3, vi p4, vi p5, vi ((p1 &&& (2147483647 : Int32)) % (5 : Int32)), vi v_14, vi v_15, vi v_16, vi v_17, un, un] [(.int v_16), (.int 2), (.ref b165), (.ref b165), (.ref b164), (.ref b164)])) rfl rfl (B_ at_231)
         have V169 : Arv Z h169 b165 k165 .char (4 : Int32) [(.int v_14), (.int v_15), (.int v_16), (.int 0)] (.int 0) := by
          have q := Arv.set Ar169 q169 S169 M169 H169 G169 (fits_nar_char _) W169 2 rfl (Nat.le_of_ble_eq_true rfl)
          rw [own_narLit _ r16_0.1 r16_0.2] at q
          exact q
         have N169 := Fr.snoc X169 N168 g_b165
         refine sp_ st169 ?_
         show Go_ T169 (mkF mm_ 232 #[vi p1, vi p2, vi p3, vi p4, vi p5, vi ((p1 &&& (2147483647 : Int32)) % (5 : Int32)), vi v_14, vi v_15, vi v_16, vi v_17, un, un] [(.ref b165), (.ref b164), (.ref b164)])
         refine sp_ (fun t_ k_ => XS.dup X169.here hx rfl (B_ at_232) rfl rfl (XS.iconst X169.here hx rfl (B_ at_233) (XS.iload X169.here hx rfl (B_ at_234) rfl  k_))) ?_
         obtain ⟨cl170, Ar170, q170, S170, M170, H170, G170⟩ := id V169
         have hin170 : ¬ ((3 : Int32) < 0 ∨ cl170.slots.size ≤ ((3 : Int32)).toNatClampNeg) := inb_of S170 ⟨by decide, by decide⟩
         obtain ⟨T170, h170, X170, e170, W170, st170⟩ := stC X169 hx hZ e169 Ar170 (j := (3 : Int32)) hin170 (g := (mkF mm_ 236 #[vi p1, vi p2, vi p3, vi p4, vi p5, vi ((p1 &&& (2147483647 : Int32)) % (5 : Int32)), vi v_14, vi v_15, vi v_16, vi v_17, un, un] [(.int v_17), (.int 3), (.ref b165), (.ref b165), (.ref b164), (.ref b164)])) rfl rfl (B_ at_236)
         have V170 : Arv Z h170 b165 k165 .char (4 : Int32) [(.int v_14), (.int v_15), (.int v_16), (.int v_17)] (.int 0) := by
          have q := Arv.set Ar170 q170 S170 M170 H170 G170 (fits_nar_char _) W170 3 rfl (Nat.le_of_ble_eq_true rfl)
          rw [own_narLit _ r17_0.1 r17_0.2] at q
          exact q
         have N170 := Fr.snoc X170 N169 g_b165
         refine sp_ st170 ?_
         show Go_ T170 (mkF mm_ 237 #[vi p1, vi p2, vi p3, vi p4, vi p5, vi ((p1 &&& (2147483647 : Int32)) % (5 : Int32)), vi v_14, vi v_15, vi v_16, vi v_17, un, un] [(.ref b165), (.ref b164), (.ref b164)])
         by_cases hv171 : (255 : Int32) < v_14
         · skip
           have f173 : Exa Z h170 b164 sc0 := (((((A164.ext E165).wr W167).wr W168).wr W169).wr W170)
           have f174 : Fld Z h170 b164 sc0 "value" "[B" .null := (((((F164_value.ext E165).other W167 (Or.inl (Nat.ne_of_lt (Nat.lt_of_lt_of_le A164.lt (Nat.le_of_eq q165.symm))))).other W168 (Or.inl (Nat.ne_of_lt (Nat.lt_of_lt_of_le A164.lt (Nat.le_of_eq q165.symm))))).other W169 (Or.inl (Nat.ne_of_lt (Nat.lt_of_lt_of_le A164.lt (Nat.le_of_eq q165.symm))))).other W170 (Or.inl (Nat.ne_of_lt (Nat.lt_of_lt_of_le A164.lt (Nat.le_of_eq q165.symm)))))
           have f175 : Fld Z h170 b164 sc0 "coder" "B" (.int 0) := (((((F164_coder.ext E165).other W167 (Or.inl (Nat.ne_of_lt (Nat.lt_of_lt_of_le A164.lt (Nat.le_of_eq q165.symm))))).other W168 (Or.inl (Nat.ne_of_lt (Nat.lt_of_lt_of_le A164.lt (Nat.le_of_eq q165.symm))))).other W169 (Or.inl (Nat.ne_of_lt (Nat.lt_of_lt_of_le A164.lt (Nat.le_of_eq q165.symm))))).other W170 (Or.inl (Nat.ne_of_lt (Nat.lt_of_lt_of_le A164.lt (Nat.le_of_eq q165.symm)))))
           have O176 : Old Z n0 h170 := ((((((O0.ext E164).ext E165).wr W167 g_b165).wr W168 g_b165).wr W169 g_b165).wr W170 g_b165)
           obtain ⟨_, T172, Lc172, X172, hQ172, st172⟩ := own_cI X170 hx hZ rfl hown (w_ hw 11 rfl) (w_ hw 12 rfl) (w_ hw 13 rfl) (by decide) (backOf (W := 1) (rmI14 l Z a0 hw [] b164 b165 k165 v_14 v_15 v_16 v_17 h170 n0 O176 G_ f173 f174 f175 g_b164 V170 r14_0 r15_0 r16_0 r17_0 (Or.inl hv171)) hZ (w_ hw 13 rfl) (w_ hw 9 rfl) (by decide) (by decide)) (g := (mkF mm_ 237 #[vi p1, vi p2, vi p3, vi p4, vi p5, vi ((p1 &&& (2147483647 : Int32)) % (5 : Int32)), vi v_14, vi v_15, vi v_16, vi v_17, un, un] [(.ref b165), (.ref b164), (.ref b164)])) rfl hml.symm (a := b164) (argsL := [(.ref b165)]) (rest := [(.ref b164)]) (lenOf pd_17 rfl) rfl (Nat.le_of_eq rfl) (B_ at_237) rfl e170 (by decide) (by decide)
           obtain ⟨r_172, k_172, rfl, Nq172, Kc172, r172_0, r172_1, r172_2, r172_3⟩ := hQ172
           have N172 := Fr.app N170 Nq172
           have K177 : Keep h0 h170 [] := (((((K166.ext E165).wr W167 (Or.inr lo_b165)).wr W168 (Or.inr lo_b165)).wr W169 (Or.inr lo_b165)).wr W170 (Or.inr lo_b165))
           have lo_r_172 : h0.size ≤ r_172 := Nat.le_trans K177.1 r172_0
           have g_r_172 : n0 ≤ r_172 := Nat.le_trans Z0 lo_r_172
           refine jp_ st172 ?_
           show Go_ T172 (mkF mm_ 240 #[vi p1, vi p2, vi p3, vi p4, vi p5, vi ((p1 &&& (2147483647 : Int32)) % (5 : Int32)), vi v_14, vi v_15, vi v_16, vi v_17, un, un] [(.ref b164)])
           refine sp_ (fun t_ k_ => XS.astore X172.here hx rfl (B_ at_240) rfl rfl (l' := #[vi p1, vi p2, vi p3, vi p4, vi p5, vi ((p1 &&& (2147483647 : Int32)) % (5 : Int32)), vi v_14, vi v_15, vi v_16, vi v_17, vr b164, un]) rfl (XS.iload X172.here hx rfl (B_ at_242) rfl  k_)) ?_
           have O179 : Old Z n0 T172.heap := (O176.keep Kc172 (allS g_b164 all0))
           obtain ⟨_, T178, Lc178, X178, hQ178, st178⟩ := own_cS X172 hx hZ hown (w_ hw 49 rfl) (w_ hw 50 rfl) (w_ hw 3 rfl) (w_ hw 51 rfl) (by decide) (backOf (W := 0) (rmDg l Z a0 hw [] v_14 T172.heap n0 O179 ) hZ (w_ hw 51 rfl) (w_ hw 3 rfl) (by decide) (by decide)) (g := (mkF mm_ 244 #[vi p1, vi p2, vi p3, vi p4, vi p5, vi ((p1 &&& (2147483647 : Int32)) % (5 : Int32)), vi v_14, vi v_15, vi v_16, vi v_17, vr b164, un] [(.int v_14)])) rfl hml.symm (argsL := [(.int v_14)]) (rest := []) (lenOf pd_18 rfl) rfl (Nat.le_of_eq rfl) (B_ at_244) rfl rfl (by decide) (by decide)
           obtain ⟨r_178, rfl, rfl, Eh178, r178_0⟩ := hQ178
           have N178 := Fr.app N172 (Fr.nil n0)
           refine jp_ st178 ?_
           rcases r178_0 with ⟨rfl, hd178⟩ | ⟨rfl, hd178⟩
           · exact absurd hd178 (fun q_ => q_.2 (own_big hv171).2)
           · skip
             show Go_ T178 (mkF mm_ 247 #[vi p1, vi p2, vi p3, vi p4, vi p5, vi ((p1 &&& (2147483647 : Int32)) % (5 : Int32)), vi v_14, vi v_15, vi v_16, vi v_17, vr b164, un] [(.int 0)])
             refine sp_ (fun t_ k_ => XS.ifYes X178.here hx rfl (pc0 := 247) (pc' := 278) rfl (B_ at_247) rfl ((if0 _ _).trans (teq (by decide : (0 : Int32) = (0 : Int32))).1) (by decide) (by decide) k_) ?_
             show Go_ T178 (mkF mm_ 278 #[vi p1, vi p2, vi p3, vi p4, vi p5, vi ((p1 &&& (2147483647 : Int32)) % (5 : Int32)), vi v_14, vi v_15, vi v_16, vi v_17, vr b164, un] [])
             refine sp_ (fun t_ k_ => XS.iconst X178.here hx rfl (B_ at_278) (XS.istore X178.here hx rfl (B_ at_279) rfl (l' := #[vi p1, vi p2, vi p3, vi p4, vi p5, vi ((p1 &&& (2147483647 : Int32)) % (5 : Int32)), vi v_14, vi v_15, vi v_16, vi v_17, vr b164, vi 0]) rfl k_)) ?_
             have f180 : Exa Z T172.heap b164 sc0 := (f173.keep Kc172)
             have K181 : Keep h0 T172.heap [] := (K177.trans Kc172 (allS (Or.inr lo_b164) all0))
             exact seg_w4 _ _ _ ((p1 &&& (2147483647 : Int32)) % (5 : Int32)) v_14 v_15 v_16 v_17 b164 r_172 k_172 _ _ (X178.more (by decide) (by decide)) Eh178 N178 K181 O179 hS0 (Nat.le_trans (Nat.le_trans (Nat.le_trans (Nat.le_trans (Nat.le_trans (Nat.le_trans (Nat.le_trans (Nat.zero_le _) E164.1) E165.1) (Keep.of_wr W167).1) (Keep.of_wr W168).1) (Keep.of_wr W169).1) (Keep.of_wr W170).1) Kc172.1) hZ hown (own_IB_mono hI (by intro t_ h_; first | exact h_ | exact List.mem_cons_of_mem _ h_ | (revert t_ h_; decide))) f180 r172_2 r172_1 r172_3 r14_0 r15_0 r16_0 r17_0 (Or.inl hv171)
         · skip
           by_cases hv182 : (255 : Int32) < v_15
           · skip
             have f184 : Exa Z h170 b164 sc0 := (((((A164.ext E165).wr W167).wr W168).wr W169).wr W170)
             have f185 : Fld Z h170 b164 sc0 "value" "[B" .null := (((((F164_value.ext E165).other W167 (Or.inl (Nat.ne_of_lt (Nat.lt_of_lt_of_le A164.lt (Nat.le_of_eq q165.symm))))).other W168 (Or.inl (Nat.ne_of_lt (Nat.lt_of_lt_of_le A164.lt (Nat.le_of_eq q165.symm))))).other W169 (Or.inl (Nat.ne_of_lt (Nat.lt_of_lt_of_le A164.lt (Nat.le_of_eq q165.symm))))).other W170 (Or.inl (Nat.ne_of_lt (Nat.lt_of_lt_of_le A164.lt (Nat.le_of_eq q165.symm)))))
             have f186 : Fld Z h170 b164 sc0 "coder" "B" (.int 0) := (((((F164_coder.ext E165).other W167 (Or.inl (Nat.ne_of_lt (Nat.lt_of_lt_of_le A164.lt (Nat.le_of_eq q165.symm))))).other W168 (Or.inl (Nat.ne_of_lt (Nat.lt_of_lt_of_le A164.lt (Nat.le_of_eq q165.symm))))).other W169 (Or.inl (Nat.ne_of_lt (Nat.lt_of_lt_of_le A164.lt (Nat.le_of_eq q165.symm))))).other W170 (Or.inl (Nat.ne_of_lt (Nat.lt_of_lt_of_le A164.lt (Nat.le_of_eq q165.symm)))))
             have O187 : Old Z n0 h170 := ((((((O0.ext E164).ext E165).wr W167 g_b165).wr W168 g_b165).wr W169 g_b165).wr W170 g_b165)
             obtain ⟨_, T183, Lc183, X183, hQ183, st183⟩ := own_cI X170 hx hZ rfl hown (w_ hw 11 rfl) (w_ hw 12 rfl) (w_ hw 13 rfl) (by decide) (backOf (W := 1) (rmI14 l Z a0 hw [] b164 b165 k165 v_14 v_15 v_16 v_17 h170 n0 O187 G_ f184 f185 f186 g_b164 V170 r14_0 r15_0 r16_0 r17_0 (Or.inr (Or.inl hv182))) hZ (w_ hw 13 rfl) (w_ hw 9 rfl) (by decide) (by decide)) (g := (mkF mm_ 237 #[vi p1, vi p2, vi p3, vi p4, vi p5, vi ((p1 &&& (2147483647 : Int32)) % (5 : Int32)), vi v_14, vi v_15, vi v_16, vi v_17, un, un] [(.ref b165), (.ref b164), (.ref b164)])) rfl hml.symm (a := b164) (argsL := [(.ref b165)]) (rest := [(.ref b164)]) (lenOf pd_17 rfl) rfl (Nat.le_of_eq rfl) (B_ at_237) rfl e170 (by decide) (by decide)
             obtain ⟨r_183, k_183, rfl, Nq183, Kc183, r183_0, r183_1, r183_2, r183_3⟩ := hQ183
             have N183 := Fr.app N170 Nq183
             have K188 : Keep h0 h170 [] := (((((K166.ext E165).wr W167 (Or.inr lo_b165)).wr W168 (Or.inr lo_b165)).wr W169 (Or.inr lo_b165)).wr W170 (Or.inr lo_b165))
             have lo_r_183 : h0.size ≤ r_183 := Nat.le_trans K188.1 r183_0
             have g_r_183 : n0 ≤ r_183 := Nat.le_trans Z0 lo_r_183
             refine jp_ st183 ?_
             show Go_ T183 (mkF mm_ 240 #[vi p1, vi p2, vi p3, vi p4, vi p5, vi ((p1 &&& (2147483647 : Int32)) % (5 : Int32)), vi v_14, vi v_15, vi v_16, vi v_17, un, un] [(.ref b164)])
             refine sp_ (fun t_ k_ => XS.astore X183.here hx rfl (B_ at_240) rfl rfl (l' := #[vi p1, vi p2, vi p3, vi p4, vi p5, vi ((p1 &&& (2147483647 : Int32)) % (5 : Int32)), vi v_14, vi v_15, vi v_16, vi v_17, vr b164, un]) rfl (XS.iload X183.here hx rfl (B_ at_242) rfl  k_)) ?_
             have O190 : Old Z n0 T183.heap := (O187.keep Kc183 (allS g_b164 all0))
             obtain ⟨_, T189, Lc189, X189, hQ189, st189⟩ := own_cS X183 hx hZ hown (w_ hw 49 rfl) (w_ hw 50 rfl) (w_ hw 3 rfl) (w_ hw 51 rfl) (by decide) (backOf (W := 0) (rmDg l Z a0 hw [] v_14 T183.heap n0 O190 ) hZ (w_ hw 51 rfl) (w_ hw 3 rfl) (by decide) (by decide)) (g := (mkF mm_ 244 #[vi p1, vi p2, vi p3, vi p4, vi p5, vi ((p1 &&& (2147483647 : Int32)) % (5 : Int32)), vi v_14, vi v_15, vi v_16, vi v_17, vr b164, un] [(.int v_14)])) rfl hml.symm (argsL := [(.int v_14)]) (rest := []) (lenOf pd_18 rfl) rfl (Nat.le_of_eq rfl) (B_ at_244) rfl rfl (by decide) (by decide)
             obtain ⟨r_189, rfl, rfl, Eh189, r189_0⟩ := hQ189
             have N189 := Fr.app N183 (Fr.nil n0)
             refine jp_ st189 ?_
             rcases r189_0 with ⟨rfl, hd189⟩ | ⟨rfl, hd189⟩
             · skip
               show Go_ T189 (mkF mm_ 247 #[vi p1, vi p2, vi p3, vi p4, vi p5, vi ((p1 &&& (2147483647 : Int32)) % (5 : Int32)), vi v_14, vi v_15, vi v_16, vi v_17, vr b164, un] [(.int 1)])
               refine sp_ (fun t_ k_ => XS.ifNo X189.here hx rfl (B_ at_247) rfl ((if0 _ _).trans (feq (by decide : ¬ ((1 : Int32) = (0 : Int32)))).1) k_) ?_
               show Go_ T189 (mkF mm_ 250 #[vi p1, vi p2, vi p3, vi p4, vi p5, vi ((p1 &&& (2147483647 : Int32)) % (5 : Int32)), vi v_14, vi v_15, vi v_16, vi v_17, vr b164, un] [])
               refine sp_ (fun t_ k_ => XS.iload X189.here hx rfl (B_ at_250) rfl  k_) ?_
               obtain ⟨_, T191, Lc191, X191, hQ191, st191⟩ := own_cS X189 hx hZ hown (w_ hw 49 rfl) (w_ hw 50 rfl) (w_ hw 3 rfl) (w_ hw 51 rfl) (by decide) (backOf (W := 0) (rmDg l Z a0 hw [] v_15 T183.heap n0 O190 ) hZ (w_ hw 51 rfl) (w_ hw 3 rfl) (by decide) (by decide)) (g := (mkF mm_ 252 #[vi p1, vi p2, vi p3, vi p4, vi p5, vi ((p1 &&& (2147483647 : Int32)) % (5 : Int32)), vi v_14, vi v_15, vi v_16, vi v_17, vr b164, un] [(.int v_15)])) rfl hml.symm (argsL := [(.int v_15)]) (rest := []) (lenOf pd_18 rfl) rfl (Nat.le_of_eq rfl) (B_ at_252) rfl Eh189 (by decide) (by decide)
               obtain ⟨r_191, rfl, rfl, Eh191, r191_0⟩ := hQ191
               have N191 := Fr.app N189 (Fr.nil n0)
               refine jp_ st191 ?_
               rcases r191_0 with ⟨rfl, hd191⟩ | ⟨rfl, hd191⟩
               · exact absurd hd191 (fun q_ => q_.2 (own_big hv182).2)
               · skip
                 show Go_ T191 (mkF mm_ 255 #[vi p1, vi p2, vi p3, vi p4, vi p5, vi ((p1 &&& (2147483647 : Int32)) % (5 : Int32)), vi v_14, vi v_15, vi v_16, vi v_17, vr b164, un] [(.int 0)])
                 refine sp_ (fun t_ k_ => XS.ifYes X191.here hx rfl (pc0 := 255) (pc' := 278) rfl (B_ at_255) rfl ((if0 _ _).trans (teq (by decide : (0 : Int32) = (0 : Int32))).1) (by decide) (by decide) k_) ?_
                 show Go_ T191 (mkF mm_ 278 #[vi p1, vi p2, vi p3, vi p4, vi p5, vi ((p1 &&& (2147483647 : Int32)) % (5 : Int32)), vi v_14, vi v_15, vi v_16, vi v_17, vr b164, un] [])
                 refine sp_ (fun t_ k_ => XS.iconst X191.here hx rfl (B_ at_278) (XS.istore X191.here hx rfl (B_ at_279) rfl (l' := #[vi p1, vi p2, vi p3, vi p4, vi p5, vi ((p1 &&& (2147483647 : Int32)) % (5 : Int32)), vi v_14, vi v_15, vi v_16, vi v_17, vr b164, vi 0]) rfl k_)) ?_
                 have f192 : Exa Z T183.heap b164 sc0 := (f184.keep Kc183)
                 have K193 : Keep h0 T183.heap [] := (K188.trans Kc183 (allS (Or.inr lo_b164) all0))
                 exact seg_w4 _ _ _ ((p1 &&& (2147483647 : Int32)) % (5 : Int32)) v_14 v_15 v_16 v_17 b164 r_183 k_183 _ _ (X191.more (by decide) (by decide)) Eh191 N191 K193 O190 hS0 (Nat.le_trans (Nat.le_trans (Nat.le_trans (Nat.le_trans (Nat.le_trans (Nat.le_trans (Nat.le_trans (Nat.zero_le _) E164.1) E165.1) (Keep.of_wr W167).1) (Keep.of_wr W168).1) (Keep.of_wr W169).1) (Keep.of_wr W170).1) Kc183.1) hZ hown (own_IB_mono hI (by intro t_ h_; first | exact h_ | exact List.mem_cons_of_mem _ h_ | (revert t_ h_; decide))) f192 r183_2 r183_1 r183_3 r14_0 r15_0 r16_0 r17_0 (Or.inr (Or.inl hv182))
             · skip
               show Go_ T189 (mkF mm_ 247 #[vi p1, vi p2, vi p3, vi p4, vi p5, vi ((p1 &&& (2147483647 : Int32)) % (5 : Int32)), vi v_14, vi v_15, vi v_16, vi v_17, vr b164, un] [(.int 0)])
               refine sp_ (fun t_ k_ => XS.ifYes X189.here hx rfl (pc0 := 247) (pc' := 278) rfl (B_ at_247) rfl ((if0 _ _).trans (teq (by decide : (0 : Int32) = (0 : Int32))).1) (by decide) (by decide) k_) ?_
               show Go_ T189 (mkF mm_ 278 #[vi p1, vi p2, vi p3, vi p4, vi p5, vi ((p1 &&& (2147483647 : Int32)) % (5 : Int32)), vi v_14, vi v_15, vi v_16, vi v_17, vr b164, un] [])
               refine sp_ (fun t_ k_ => XS.iconst X189.here hx rfl (B_ at_278) (XS.istore X189.here hx rfl (B_ at_279) rfl (l' := #[vi p1, vi p2, vi p3, vi p4, vi p5, vi ((p1 &&& (2147483647 : Int32)) % (5 : Int32)), vi v_14, vi v_15, vi v_16, vi v_17, vr b164, vi 0]) rfl k_)) ?_
               have f194 : Exa Z T183.heap b164 sc0 := (f184.keep Kc183)
               have K195 : Keep h0 T183.heap [] := (K188.trans Kc183 (allS (Or.inr lo_b164) all0))
               exact seg_w4 _ _ _ ((p1 &&& (2147483647 : Int32)) % (5 : Int32)) v_14 v_15 v_16 v_17 b164 r_183 k_183 _ _ (X189.more (by decide) (by decide)) Eh189 N189 K195 O190 hS0 (Nat.le_trans (Nat.le_trans (Nat.le_trans (Nat.le_trans (Nat.le_trans (Nat.le_trans (Nat.le_trans (Nat.zero_le _) E164.1) E165.1) (Keep.of_wr W167).1) (Keep.of_wr W168).1) (Keep.of_wr W169).1) (Keep.of_wr W170).1) Kc183.1) hZ hown (own_IB_mono hI (by intro t_ h_; first | exact h_ | exact List.mem_cons_of_mem _ h_ | (revert t_ h_; decide))) f194 r183_2 r183_1 r183_3 r14_0 r15_0 r16_0 r17_0 (Or.inr (Or.inl hv182))
           · skip
             by_cases hv196 : (255 : Int32) < v_16
             · skip
               have f198 : Exa Z h170 b164 sc0 := (((((A164.ext E165).wr W167).wr W168).wr W169).wr W170)
               have f199 : Fld Z h170 b164 sc0 "value" "[B" .null := (((((F164_value.ext E165).other W167 (Or.inl (Nat.ne_of_lt (Nat.lt_of_lt_of_le A164.lt (Nat.le_of_eq q165.symm))))).other W168 (Or.inl (Nat.ne_of_lt (Nat.lt_of_lt_of_le A164.lt (Nat.le_of_eq q165.symm))))).other W169 (Or.inl (Nat.ne_of_lt (Nat.lt_of_lt_of_le A164.lt (Nat.le_of_eq q165.symm))))).other W170 (Or.inl (Nat.ne_of_lt (Nat.lt_of_lt_of_le A164.lt (Nat.le_of_eq q165.symm)))))
               have f200 : Fld Z h170 b164 sc0 "coder" "B" (.int 0) := (((((F164_coder.ext E165).other W167 (Or.inl (Nat.ne_of_lt (Nat.lt_of_lt_of_le A164.lt (Nat.le_of_eq q165.symm))))).other W168 (Or.inl (Nat.ne_of_lt (Nat.lt_of_lt_of_le A164.lt (Nat.le_of_eq q165.symm))))).other W169 (Or.inl (Nat.ne_of_lt (Nat.lt_of_lt_of_le A164.lt (Nat.le_of_eq q165.symm))))).other W170 (Or.inl (Nat.ne_of_lt (Nat.lt_of_lt_of_le A164.lt (Nat.le_of_eq q165.symm)))))
               have O201 : Old Z n0 h170 := ((((((O0.ext E164).ext E165).wr W167 g_b165).wr W168 g_b165).wr W169 g_b165).wr W170 g_b165)
               obtain ⟨_, T197, Lc197, X197, hQ197, st197⟩ := own_cI X170 hx hZ rfl hown (w_ hw 11 rfl) (w_ hw 12 rfl) (w_ hw 13 rfl) (by decide) (backOf (W := 1) (rmI14 l Z a0 hw [] b164 b165 k165 v_14 v_15 v_16 v_17 h170 n0 O201 G_ f198 f199 f200 g_b164 V170 r14_0 r15_0 r16_0 r17_0 (Or.inr (Or.inr (Or.inl hv196)))) hZ (w_ hw 13 rfl) (w_ hw 9 rfl) (by decide) (by decide)) (g := (mkF mm_ 237 #[vi p1, vi p2, vi p3, vi p4, vi p5, vi ((p1 &&& (2147483647 : Int32)) % (5 : Int32)), vi v_14, vi v_15, vi v_16, vi v_17, un, un] [(.ref b165), (.ref b164), (.ref b164)])) rfl hml.symm (a := b164) (argsL := [(.ref b165)]) (rest := [(.ref b164)]) (lenOf pd_17 rfl) rfl (Nat.le_of_eq rfl) (B_ at_237) rfl e170 (by decide) (by decide)
               obtain ⟨r_197, k_197, rfl, Nq197, Kc197, r197_0, r197_1, r197_2, r197_3⟩ := hQ197
               have N197 := Fr.app N170 Nq197
               have K202 : Keep h0 h170 [] := (((((K166.ext E165).wr W167 (Or.inr lo_b165)).wr W168 (Or.inr lo_b165)).wr W169 (Or.inr lo_b165)).wr W170 (Or.inr lo_b165))
               have lo_r_197 : h0.size ≤ r_197 := Nat.le_trans K202.1 r197_0
               have g_r_197 : n0 ≤ r_197 := Nat.le_trans Z0 lo_r_197
               refine jp_ st197 ?_
               show Go_ T197 (mkF mm_ 240 #[vi p1, vi p2, vi p3, vi p4, vi p5, vi ((p1 &&& (2147483647 : Int32)) % (5 : Int32)), vi v_14, vi v_15, vi v_16, vi v_17, un, un] [(.ref b164)])
               refine sp_ (fun t_ k_ => XS.astore X197.here hx rfl (B_ at_240) rfl rfl (l' := #[vi p1, vi p2, vi p3, vi p4, vi p5, vi ((p1 &&& (2147483647 : Int32)) % (5 : Int32)), vi v_14, vi v_15, vi v_16, vi v_17, vr b164, un]) rfl (XS.iload X197.here hx rfl (B_ at_242) rfl  k_)) ?_
               have O204 : Old Z n0 T197.heap := (O201.keep Kc197 (allS g_b164 all0))
               obtain ⟨_, T203, Lc203, X203, hQ203, st203⟩ := own_cS X197 hx hZ hown (w_ hw 49 rfl) (w_ hw 50 rfl) (w_ hw 3 rfl) (w_ hw 51 rfl) (by decide) (backOf (W := 0) (rmDg l Z a0 hw [] v_14 T197.heap n0 O204 ) hZ (w_ hw 51 rfl) (w_ hw 3 rfl) (by decide) (by decide)) (g := (mkF mm_ 244 #[vi p1, vi p2, vi p3, vi p4, vi p5, vi ((p1 &&& (2147483647 : Int32)) % (5 : Int32)), vi v_14, vi v_15, vi v_16, vi v_17, vr b164, un] [(.int v_14)])) rfl hml.symm (argsL := [(.int v_14)]) (rest := []) (lenOf pd_18 rfl) rfl (Nat.le_of_eq rfl) (B_ at_244) rfl rfl (by decide) (by decide)
               obtain ⟨r_203, rfl, rfl, Eh203, r203_0⟩ := hQ203
               have N203 := Fr.app N197 (Fr.nil n0)
               refine jp_ st203 ?_
               rcases r203_0 with ⟨rfl, hd203⟩ | ⟨rfl, hd203⟩
               · skip
                 show Go_ T203 (mkF mm_ 247 #[vi p1, vi p2, vi p3, vi p4, vi p5, vi ((p1 &&& (2147483647 : Int32)) % (5 : Int32)), vi v_14, vi v_15, vi v_16, vi v_17, vr b164, un] [(.int 1)])
                 refine sp_ (fun t_ k_ => XS.ifNo X203.here hx rfl (B_ at_247) rfl ((if0 _ _).trans (feq (by decide : ¬ ((1 : Int32) = (0 : Int32)))).1) k_) ?_
                 show Go_ T203 (mkF mm_ 250 #[vi p1, vi p2, vi p3, vi p4, vi p5, vi ((p1 &&& (2147483647 : Int32)) % (5 : Int32)), vi v_14, vi v_15, vi v_16, vi v_17, vr b164, un] [])
                 refine sp_ (fun t_ k_ => XS.iload X203.here hx rfl (B_ at_250) rfl  k_) ?_
                 obtain ⟨_, T205, Lc205, X205, hQ205, st205⟩ := own_cS X203 hx hZ hown (w_ hw 49 rfl) (w_ hw 50 rfl) (w_ hw 3 rfl) (w_ hw 51 rfl) (by decide) (backOf (W := 0) (rmDg l Z a0 hw [] v_15 T197.heap n0 O204 ) hZ (w_ hw 51 rfl) (w_ hw 3 rfl) (by decide) (by decide)) (g := (mkF mm_ 252 #[vi p1, vi p2, vi p3, vi p4, vi p5, vi ((p1 &&& (2147483647 : Int32)) % (5 : Int32)), vi v_14, vi v_15, vi v_16, vi v_17, vr b164, un] [(.int v_15)])) rfl hml.symm (argsL := [(.int v_15)]) (rest := []) (lenOf pd_18 rfl) rfl (Nat.le_of_eq rfl) (B_ at_252) rfl Eh203 (by decide) (by decide)
                 obtain ⟨r_205, rfl, rfl, Eh205, r205_0⟩ := hQ205
                 have N205 := Fr.app N203 (Fr.nil n0)
                 refine jp_ st205 ?_
                 rcases r205_0 with ⟨rfl, hd205⟩ | ⟨rfl, hd205⟩
                 · skip
                   show Go_ T205 (mkF mm_ 255 #[vi p1, vi p2, vi p3, vi p4, vi p5, vi ((p1 &&& (2147483647 : Int32)) % (5 : Int32)), vi v_14, vi v_15, vi v_16, vi v_17, vr b164, un] [(.int 1)])
                   refine sp_ (fun t_ k_ => XS.ifNo X205.here hx rfl (B_ at_255) rfl ((if0 _ _).trans (feq (by decide : ¬ ((1 : Int32) = (0 : Int32)))).1) k_) ?_
                   show Go_ T205 (mkF mm_ 258 #[vi p1, vi p2, vi p3, vi p4, vi p5, vi ((p1 &&& (2147483647 : Int32)) % (5 : Int32)), vi v_14, vi v_15, vi v_16, vi v_17, vr b164, un] [])
                   refine sp_ (fun t_ k_ => XS.iload X205.here hx rfl (B_ at_258) rfl  k_) ?_
                   obtain ⟨_, T206, Lc206, X206, hQ206, st206⟩ := own_cS X205 hx hZ hown (w_ hw 49 rfl) (w_ hw 50 rfl) (w_ hw 3 rfl) (w_ hw 51 rfl) (by decide) (backOf (W := 0) (rmDg l Z a0 hw [] v_16 T197.heap n0 O204 ) hZ (w_ hw 51 rfl) (w_ hw 3 rfl) (by decide) (by decide)) (g := (mkF mm_ 260 #[vi p1, vi p2, vi p3, vi p4, vi p5, vi ((p1 &&& (2147483647 : Int32)) % (5 : Int32)), vi v_14, vi v_15, vi v_16, vi v_17, vr b164, un] [(.int v_16)])) rfl hml.symm (argsL := [(.int v_16)]) (rest := []) (lenOf pd_18 rfl) rfl (Nat.le_of_eq rfl) (B_ at_260) rfl Eh205 (by decide) (by decide)
                   obtain ⟨r_206, rfl, rfl, Eh206, r206_0⟩ := hQ206
                   have N206 := Fr.app N205 (Fr.nil n0)
                   refine jp_ st206 ?_
                   rcases r206_0 with ⟨rfl, hd206⟩ | ⟨rfl, hd206⟩
                   · exact absurd hd206 (fun q_ => q_.2 (own_big hv196).2)
                   · skip
                     show Go_ T206 (mkF mm_ 263 #[vi p1, vi p2, vi p3, vi p4, vi p5, vi ((p1 &&& (2147483647 : Int32)) % (5 : Int32)), vi v_14, vi v_15, vi v_16, vi v_17, vr b164, un] [(.int 0)])
                     refine sp_ (fun t_ k_ => XS.ifYes X206.here hx rfl (pc0 := 263) (pc' := 278) rfl (B_ at_263) rfl ((if0 _ _).trans (teq (by decide : (0 : Int32) = (0 : Int32))).1) (by decide) (by decide) k_) ?_
                     show Go_ T206 (mkF mm_ 278 #[vi p1, vi p2, vi p3, vi p4, vi p5, vi ((p1 &&& (2147483647 : Int32)) % (5 : Int32)), vi v_14, vi v_15, vi v_16, vi v_17, vr b164, un] [])
                     refine sp_ (fun t_ k_ => XS.iconst X206.here hx rfl (B_ at_278) (XS.istore X206.here hx rfl (B_ at_279) rfl (l' := #[vi p1, vi p2, vi p3, vi p4, vi p5, vi ((p1 &&& (2147483647 : Int32)) % (5 : Int32)), vi v_14, vi v_15, vi v_16, vi v_17, vr b164, vi 0]) rfl k_)) ?_
                     have f207 : Exa Z T197.heap b164 sc0 := (f198.keep Kc197)
                     have K208 : Keep h0 T197.heap [] := (K202.trans Kc197 (allS (Or.inr lo_b164) all0))
                     exact seg_w4 _ _ _ ((p1 &&& (2147483647 : Int32)) % (5 : Int32)) v_14 v_15 v_16 v_17 b164 r_197 k_197 _ _ (X206.more (by decide) (by decide)) Eh206 N206 K208 O204 hS0 (Nat.le_trans (Nat.le_trans (Nat.le_trans (Nat.le_trans (Nat.le_trans (Nat.le_trans (Nat.le_trans (Nat.zero_le _) E164.1) E165.1) (Keep.of_wr W167).1) (Keep.of_wr W168).1) (Keep.of_wr W169).1) (Keep.of_wr W170).1) Kc197.1) hZ hown (own_IB_mono hI (by intro t_ h_; first | exact h_ | exact List.mem_cons_of_mem _ h_ | (revert t_ h_; decide))) f207 r197_2 r197_1 r197_3 r14_0 r15_0 r16_0 r17_0 (Or.inr (Or.inr (Or.inl hv196)))
                 · skip
                   show Go_ T205 (mkF mm_ 255 #[vi p1, vi p2, vi p3, vi p4, vi p5, vi ((p1 &&& (2147483647 : Int32)) % (5 : Int32)), vi v_14, vi v_15, vi v_16, vi v_17, vr b164, un] [(.int 0)])
                   refine sp_ (fun t_ k_ => XS.ifYes X205.here hx rfl (pc0 := 255) (pc' := 278) rfl (B_ at_255) rfl ((if0 _ _).trans (teq (by decide : (0 : Int32) = (0 : Int32))).1) (by decide) (by decide) k_) ?_
                   show Go_ T205 (mkF mm_ 278 #[vi p1, vi p2, vi p3, vi p4, vi p5, vi ((p1 &&& (2147483647 : Int32)) % (5 : Int32)), vi v_14, vi v_15, vi v_16, vi v_17, vr b164, un] [])
                   refine sp_ (fun t_ k_ => XS.iconst X205.here hx rfl (B_ at_278) (XS.istore X205.here hx rfl (B_ at_279) rfl (l' := #[vi p1, vi p2, vi p3, vi p4, vi p5, vi ((p1 &&& (2147483647 : Int32)) % (5 : Int32)), vi v_14, vi v_15, vi v_16, vi v_17, vr b164, vi 0]) rfl k_)) ?_
                   have f209 : Exa Z T197.heap b164 sc0 := (f198.keep Kc197)
                   have K210 : Keep h0 T197.heap [] := (K202.trans Kc197 (allS (Or.inr lo_b164) all0))
                   exact seg_w4 _ _ _ ((p1 &&& (2147483647 : Int32)) % (5 : Int32)) v_14 v_15 v_16 v_17 b164 r_197 k_197 _ _ (X205.more (by decide) (by decide)) Eh205 N205 K210 O204 hS0 (Nat.le_trans (Nat.le_trans (Nat.le_trans (Nat.le_trans (Nat.le_trans (Nat.le_trans (Nat.le_trans (Nat.zero_le _) E164.1) E165.1) (Keep.of_wr W167).1) (Keep.of_wr W168).1) (Keep.of_wr W169).1) (Keep.of_wr W170).1) Kc197.1) hZ hown (own_IB_mono hI (by intro t_ h_; first | exact h_ | exact List.mem_cons_of_mem _ h_ | (revert t_ h_; decide))) f209 r197_2 r197_1 r197_3 r14_0 r15_0 r16_0 r17_0 (Or.inr (Or.inr (Or.inl hv196)))
               · skip
                 show Go_ T203 (mkF mm_ 247 #[vi p1, vi p2, vi p3, vi p4, vi p5, vi ((p1 &&& (2147483647 : Int32)) % (5 : Int32)), vi v_14, vi v_15, vi v_16, vi v_17, vr b164, un] [(.int 0)])
                 refine sp_ (fun t_ k_ => XS.ifYes X203.here hx rfl (pc0 := 247) (pc' := 278) rfl (B_ at_247) rfl ((if0 _ _).trans (teq (by decide : (0 : Int32) = (0 : Int32))).1) (by decide) (by decide) k_) ?_
                 show Go_ T203 (mkF mm_ 278 #[vi p1, vi p2, vi p3, vi p4, vi p5, vi ((p1 &&& (2147483647 : Int32)) % (5 : Int32)), vi v_14, vi v_15, vi v_16, vi v_17, vr b164, un] [])
                 refine sp_ (fun t_ k_ => XS.iconst X203.here hx rfl (B_ at_278) (XS.istore X203.here hx rfl (B_ at_279) rfl (l' := #[vi p1, vi p2, vi p3, vi p4, vi p5, vi ((p1 &&& (2147483647 : Int32)) % (5 : Int32)), vi v_14, vi v_15, vi v_16, vi v_17, vr b164, vi 0]) rfl k_)) ?_
                 have f211 : Exa Z T197.heap b164 sc0 := (f198.keep Kc197)
                 have K212 : Keep h0 T197.heap [] := (K202.trans Kc197 (allS (Or.inr lo_b164) all0))
                 exact seg_w4 _ _ _ ((p1 &&& (2147483647 : Int32)) % (5 : Int32)) v_14 v_15 v_16 v_17 b164 r_197 k_197 _ _ (X203.more (by decide) (by decide)) Eh203 N203 K212 O204 hS0 (Nat.le_trans (Nat.le_trans (Nat.le_trans (Nat.le_trans (Nat.le_trans (Nat.le_trans (Nat.le_trans (Nat.zero_le _) E164.1) E165.1) (Keep.of_wr W167).1) (Keep.of_wr W168).1) (Keep.of_wr W169).1) (Keep.of_wr W170).1) Kc197.1) hZ hown (own_IB_mono hI (by intro t_ h_; first | exact h_ | exact List.mem_cons_of_mem _ h_ | (revert t_ h_; decide))) f211 r197_2 r197_1 r197_3 r14_0 r15_0 r16_0 r17_0 (Or.inr (Or.inr (Or.inl hv196)))
             · skip
               by_cases hv213 : (255 : Int32) < v_17
               · skip
                 have f215 : Exa Z h170 b164 sc0 := (((((A164.ext E165).wr W167).wr W168).wr W169).wr W170)
                 have f216 : Fld Z h170 b164 sc0 "value" "[B" .null := (((((F164_value.ext E165).other W167 (Or.inl (Nat.ne_of_lt (Nat.lt_of_lt_of_le A164.lt (Nat.le_of_eq q165.symm))))).other W168 (Or.inl (Nat.ne_of_lt (Nat.lt_of_lt_of_le A164.lt (Nat.le_of_eq q165.symm))))).other W169 (Or.inl (Nat.ne_of_lt (Nat.lt_of_lt_of_le A164.lt (Nat.le_of_eq q165.symm))))).other W170 (Or.inl (Nat.ne_of_lt (Nat.lt_of_lt_of_le A164.lt (Nat.le_of_eq q165.symm)))))
                 have f217 : Fld Z h170 b164 sc0 "coder" "B" (.int 0) := (((((F164_coder.ext E165).other W167 (Or.inl (Nat.ne_of_lt (Nat.lt_of_lt_of_le A164.lt (Nat.le_of_eq q165.symm))))).other W168 (Or.inl (Nat.ne_of_lt (Nat.lt_of_lt_of_le A164.lt (Nat.le_of_eq q165.symm))))).other W169 (Or.inl (Nat.ne_of_lt (Nat.lt_of_lt_of_le A164.lt (Nat.le_of_eq q165.symm))))).other W170 (Or.inl (Nat.ne_of_lt (Nat.lt_of_lt_of_le A164.lt (Nat.le_of_eq q165.symm)))))
                 have O218 : Old Z n0 h170 := ((((((O0.ext E164).ext E165).wr W167 g_b165).wr W168 g_b165).wr W169 g_b165).wr W170 g_b165)
                 obtain ⟨_, T214, Lc214, X214, hQ214, st214⟩ := own_cI X170 hx hZ rfl hown (w_ hw 11 rfl) (w_ hw 12 rfl) (w_ hw 13 rfl) (by decide) (backOf (W := 1) (rmI14 l Z a0 hw [] b164 b165 k165 v_14 v_15 v_16 v_17 h170 n0 O218 G_ f215 f216 f217 g_b164 V170 r14_0 r15_0 r16_0 r17_0 (Or.inr (Or.inr (Or.inr hv213)))) hZ (w_ hw 13 rfl) (w_ hw 9 rfl) (by decide) (by decide)) (g := (mkF mm_ 237 #[vi p1, vi p2, vi p3, vi p4, vi p5, vi ((p1 &&& (2147483647 : Int32)) % (5 : Int32)), vi v_14, vi v_15, vi v_16, vi v_17, un, un] [(.ref b165), (.ref b164), (.ref b164)])) rfl hml.symm (a := b164) (argsL := [(.ref b165)]) (rest := [(.ref b164)]) (lenOf pd_17 rfl) rfl (Nat.le_of_eq rfl) (B_ at_237) rfl e170 (by decide) (by decide)
                 obtain ⟨r_214, k_214, rfl, Nq214, Kc214, r214_0, r214_1, r214_2, r214_3⟩ := hQ214
                 have N214 := Fr.app N170 Nq214
                 have K219 : Keep h0 h170 [] := (((((K166.ext E165).wr W167 (Or.inr lo_b165)).wr W168 (Or.inr lo_b165)).wr W169 (Or.inr lo_b165)).wr W170 (Or.inr lo_b165))
                 have lo_r_214 : h0.size ≤ r_214 := Nat.le_trans K219.1 r214_0
                 have g_r_214 : n0 ≤ r_214 := Nat.le_trans Z0 lo_r_214
                 refine jp_ st214 ?_
                 show Go_ T214 (mkF mm_ 240 #[vi p1, vi p2, vi p3, vi p4, vi p5, vi ((p1 &&& (2147483647 : Int32)) % (5 : Int32)), vi v_14, vi v_15, vi v_16, vi v_17, un, un] [(.ref b164)])
                 refine sp_ (fun t_ k_ => XS.astore X214.here hx rfl (B_ at_240) rfl rfl (l' := #[vi p1, vi p2, vi p3, vi p4, vi p5, vi ((p1 &&& (2147483647 : Int32)) % (5 : Int32)), vi v_14, vi v_15, vi v_16, vi v_17, vr b164, un]) rfl (XS.iload X214.here hx rfl (B_ at_242) rfl  k_)) ?_
                 have O221 : Old Z n0 T214.heap := (O218.keep Kc214 (allS g_b164 all0))
                 obtain ⟨_, T220, Lc220, X220, hQ220, st220⟩ := own_cS X214 hx hZ hown (w_ hw 49 rfl) (w_ hw 50 rfl) (w_ hw 3 rfl) (w_ hw 51 rfl) (by decide) (backOf (W := 0) (rmDg l Z a0 hw [] v_14 T214.heap n0 O221 ) hZ (w_ hw 51 rfl) (w_ hw 3 rfl) (by decide) (by decide)) (g := (mkF mm_ 244 #[vi p1, vi p2, vi p3, vi p4, vi p5, vi ((p1 &&& (2147483647 : Int32)) % (5 : Int32)), vi v_14, vi v_15, vi v_16, vi v_17, vr b164, un] [(.int v_14)])) rfl hml.symm (argsL := [(.int v_14)]) (rest := []) (lenOf pd_18 rfl) rfl (Nat.le_of_eq rfl) (B_ at_244) rfl rfl (by decide) (by decide)
                 obtain ⟨r_220, rfl, rfl, Eh220, r220_0⟩ := hQ220
                 have N220 := Fr.app N214 (Fr.nil n0)
                 refine jp_ st220 ?_
                 rcases r220_0 with ⟨rfl, hd220⟩ | ⟨rfl, hd220⟩
                 · skip
                   show Go_ T220 (mkF mm_ 247 #[vi p1, vi p2, vi p3, vi p4, vi p5, vi ((p1 &&& (2147483647 : Int32)) % (5 : Int32)), vi v_14, vi v_15, vi v_16, vi v_17, vr b164, un] [(.int 1)])
                   refine sp_ (fun t_ k_ => XS.ifNo X220.here hx rfl (B_ at_247) rfl ((if0 _ _).trans (feq (by decide : ¬ ((1 : Int32) = (0 : Int32)))).1) k_) ?_
                   show Go_ T220 (mkF mm_ 250 #[vi p1, vi p2, vi p3, vi p4, vi p5, vi ((p1 &&& (2147483647 : Int32)) % (5 : Int32)), vi v_14, vi v_15, vi v_16, vi v_17, vr b164, un] [])
                   refine sp_ (fun t_ k_ => XS.iload X220.here hx rfl (B_ at_250) rfl  k_) ?_
                   obtain ⟨_, T222, Lc222, X222, hQ222, st222⟩ := own_cS X220 hx hZ hown (w_ hw 49 rfl) (w_ hw 50 rfl) (w_ hw 3 rfl) (w_ hw 51 rfl) (by decide) (backOf (W := 0) (rmDg l Z a0 hw [] v_15 T214.heap n0 O221 ) hZ (w_ hw 51 rfl) (w_ hw 3 rfl) (by decide) (by decide)) (g := (mkF mm_ 252 #[vi p1, vi p2, vi p3, vi p4, vi p5, vi ((p1 &&& (2147483647 : Int32)) % (5 : Int32)), vi v_14, vi v_15, vi v_16, vi v_17, vr b164, un] [(.int v_15)])) rfl hml.symm (argsL := [(.int v_15)]) (rest := []) (lenOf pd_18 rfl) rfl (Nat.le_of_eq rfl) (B_ at_252) rfl Eh220 (by decide) (by decide)
                   obtain ⟨r_222, rfl, rfl, Eh222, r222_0⟩ := hQ222
                   have N222 := Fr.app N220 (Fr.nil n0)
                   refine jp_ st222 ?_
                   rcases r222_0 with ⟨rfl, hd222⟩ | ⟨rfl, hd222⟩
                   · skip
                     show Go_ T222 (mkF mm_ 255 #[vi p1, vi p2, vi p3, vi p4, vi p5, vi ((p1 &&& (2147483647 : Int32)) % (5 : Int32)), vi v_14, vi v_15, vi v_16, vi v_17, vr b164, un] [(.int 1)])
                     refine sp_ (fun t_ k_ => XS.ifNo X222.here hx rfl (B_ at_255) rfl ((if0 _ _).trans (feq (by decide : ¬ ((1 : Int32) = (0 : Int32)))).1) k_) ?_
                     show Go_ T222 (mkF mm_ 258 #[vi p1, vi p2, vi p3, vi p4, vi p5, vi ((p1 &&& (2147483647 : Int32)) % (5 : Int32)), vi v_14, vi v_15, vi v_16, vi v_17, vr b164, un] [])
                     refine sp_ (fun t_ k_ => XS.iload X222.here hx rfl (B_ at_258) rfl  k_) ?_
                     obtain ⟨_, T223, Lc223, X223, hQ223, st223⟩ := own_cS X222 hx hZ hown (w_ hw 49 rfl) (w_ hw 50 rfl) (w_ hw 3 rfl) (w_ hw 51 rfl) (by decide) (backOf (W := 0) (rmDg l Z a0 hw [] v_16 T214.heap n0 O221 ) hZ (w_ hw 51 rfl) (w_ hw 3 rfl) (by decide) (by decide)) (g := (mkF mm_ 260 #[vi p1, vi p2, vi p3, vi p4, vi p5, vi ((p1 &&& (2147483647 : Int32)) % (5 : Int32)), vi v_14, vi v_15, vi v_16, vi v_17, vr b164, un] [(.int v_16)])) rfl hml.symm (argsL := [(.int v_16)]) (rest := []) (lenOf pd_18 rfl) rfl (Nat.le_of_eq rfl) (B_ at_260) rfl Eh222 (by decide) (by decide)
                     obtain ⟨r_223, rfl, rfl, Eh223, r223_0⟩ := hQ223
                     have N223 := Fr.app N222 (Fr.nil n0)
                     refine jp_ st223 ?_
                     rcases r223_0 with ⟨rfl, hd223⟩ | ⟨rfl, hd223⟩
                     · skip
                       show Go_ T223 (mkF mm_ 263 #[vi p1, vi p2, vi p3, vi p4, vi p5, vi ((p1 &&& (2147483647 : Int32)) % (5 : Int32)), vi v_14, vi v_15, vi v_16, vi v_17, vr b164, un] [(.int 1)])
                       refine sp_ (fun t_ k_ => XS.ifNo X223.here hx rfl (B_ at_263) rfl ((if0 _ _).trans (feq (by decide : ¬ ((1 : Int32) = (0 : Int32)))).1) k_) ?_
                       show Go_ T223 (mkF mm_ 266 #[vi p1, vi p2, vi p3, vi p4, vi p5, vi ((p1 &&& (2147483647 : Int32)) % (5 : Int32)), vi v_14, vi v_15, vi v_16, vi v_17, vr b164, un] [])
                       refine sp_ (fun t_ k_ => XS.iload X223.here hx rfl (B_ at_266) rfl  k_) ?_
                       obtain ⟨_, T224, Lc224, X224, hQ224, st224⟩ := own_cS X223 hx hZ hown (w_ hw 49 rfl) (w_ hw 50 rfl) (w_ hw 3 rfl) (w_ hw 51 rfl) (by decide) (backOf (W := 0) (rmDg l Z a0 hw [] v_17 T214.heap n0 O221 ) hZ (w_ hw 51 rfl) (w_ hw 3 rfl) (by decide) (by decide)) (g := (mkF mm_ 268 #[vi p1, vi p2, vi p3, vi p4, vi p5, vi ((p1 &&& (2147483647 : Int32)) % (5 : Int32)), vi v_14, vi v_15, vi v_16, vi v_17, vr b164, un] [(.int v_17)])) rfl hml.symm (argsL := [(.int v_17)]) (rest := []) (lenOf pd_18 rfl) rfl (Nat.le_of_eq rfl) (B_ at_268) rfl Eh223 (by decide) (by decide)
                       obtain ⟨r_224, rfl, rfl, Eh224, r224_0⟩ := hQ224
                       have N224 := Fr.app N223 (Fr.nil n0)
                       refine jp_ st224 ?_
                       rcases r224_0 with ⟨rfl, hd224⟩ | ⟨rfl, hd224⟩
                       · exact absurd hd224 (fun q_ => q_.2 (own_big hv213).2)
                       · skip
                         show Go_ T224 (mkF mm_ 271 #[vi p1, vi p2, vi p3, vi p4, vi p5, vi ((p1 &&& (2147483647 : Int32)) % (5 : Int32)), vi v_14, vi v_15, vi v_16, vi v_17, vr b164, un] [(.int 0)])
                         refine sp_ (fun t_ k_ => XS.ifYes X224.here hx rfl (pc0 := 271) (pc' := 278) rfl (B_ at_271) rfl ((if0 _ _).trans (teq (by decide : (0 : Int32) = (0 : Int32))).1) (by decide) (by decide) k_) ?_
                         show Go_ T224 (mkF mm_ 278 #[vi p1, vi p2, vi p3, vi p4, vi p5, vi ((p1 &&& (2147483647 : Int32)) % (5 : Int32)), vi v_14, vi v_15, vi v_16, vi v_17, vr b164, un] [])
                         refine sp_ (fun t_ k_ => XS.iconst X224.here hx rfl (B_ at_278) (XS.istore X224.here hx rfl (B_ at_279) rfl (l' := #[vi p1, vi p2, vi p3, vi p4, vi p5, vi ((p1 &&& (2147483647 : Int32)) % (5 : Int32)), vi v_14, vi v_15, vi v_16, vi v_17, vr b164, vi 0]) rfl k_)) ?_
                         have f225 : Exa Z T214.heap b164 sc0 := (f215.keep Kc214)
                         have K226 : Keep h0 T214.heap [] := (K219.trans Kc214 (allS (Or.inr lo_b164) all0))
                         exact seg_w4 _ _ _ ((p1 &&& (2147483647 : Int32)) % (5 : Int32)) v_14 v_15 v_16 v_17 b164 r_214 k_214 _ _ (X224.more (by decide) (by decide)) Eh224 N224 K226 O221 hS0 (Nat.le_trans (Nat.le_trans (Nat.le_trans (Nat.le_trans (Nat.le_trans (Nat.le_trans (Nat.le_trans (Nat.zero_le _) E164.1) E165.1) (Keep.of_wr W167).1) (Keep.of_wr W168).1) (Keep.of_wr W169).1) (Keep.of_wr W170).1) Kc214.1) hZ hown (own_IB_mono hI (by intro t_ h_; first | exact h_ | exact List.mem_cons_of_mem _ h_ | (revert t_ h_; decide))) f225 r214_2 r214_1 r214_3 r14_0 r15_0 r16_0 r17_0 (Or.inr (Or.inr (Or.inr hv213)))
                     · skip
                       show Go_ T223 (mkF mm_ 263 #[vi p1, vi p2, vi p3, vi p4, vi p5, vi ((p1 &&& (2147483647 : Int32)) % (5 : Int32)), vi v_14, vi v_15, vi v_16, vi v_17, vr b164, un] [(.int 0)])
                       refine sp_ (fun t_ k_ => XS.ifYes X223.here hx rfl (pc0 := 263) (pc' := 278) rfl (B_ at_263) rfl ((if0 _ _).trans (teq (by decide : (0 : Int32) = (0 : Int32))).1) (by decide) (by decide) k_) ?_
                       show Go_ T223 (mkF mm_ 278 #[vi p1, vi p2, vi p3, vi p4, vi p5, vi ((p1 &&& (2147483647 : Int32)) % (5 : Int32)), vi v_14, vi v_15, vi v_16, vi v_17, vr b164, un] [])
                       refine sp_ (fun t_ k_ => XS.iconst X223.here hx rfl (B_ at_278) (XS.istore X223.here hx rfl (B_ at_279) rfl (l' := #[vi p1, vi p2, vi p3, vi p4, vi p5, vi ((p1 &&& (2147483647 : Int32)) % (5 : Int32)), vi v_14, vi v_15, vi v_16, vi v_17, vr b164, vi 0]) rfl k_)) ?_
                       have f227 : Exa Z T214.heap b164 sc0 := (f215.keep Kc214)
                       have K228 : Keep h0 T214.heap [] := (K219.trans Kc214 (allS (Or.inr lo_b164) all0))
                       exact seg_w4 _ _ _ ((p1 &&& (2147483647 : Int32)) % (5 : Int32)) v_14 v_15 v_16 v_17 b164 r_214 k_214 _ _ (X223.more (by decide) (by decide)) Eh223 N223 K228 O221 hS0 (Nat.le_trans (Nat.le_trans (Nat.le_trans (Nat.le_trans (Nat.le_trans (Nat.le_trans (Nat.le_trans (Nat.zero_le _) E164.1) E165.1) (Keep.of_wr W167).1) (Keep.of_wr W168).1) (Keep.of_wr W169).1) (Keep.of_wr W170).1) Kc214.1) hZ hown (own_IB_mono hI (by intro t_ h_; first | exact h_ | exact List.mem_cons_of_mem _ h_ | (revert t_ h_; decide))) f227 r214_2 r214_1 r214_3 r14_0 r15_0 r16_0 r17_0 (Or.inr (Or.inr (Or.inr hv213)))
                   · skip
                     show Go_ T222 (mkF mm_ 255 #[vi p1, vi p2, vi p3, vi p4, vi p5, vi ((p1 &&& (2147483647 : Int32)) % (5 : Int32)), vi v_14, vi v_15, vi v_16, vi v_17, vr b164, un] [(.int 0)])
                     refine sp_ (fun t_ k_ => XS.ifYes X222.here hx rfl (pc0 := 255) (pc' := 278) rfl (B_ at_255) rfl ((if0 _ _).trans (teq (by decide : (0 : Int32) = (0 : Int32))).1) (by decide) (by decide) k_) ?_
                     show Go_ T222 (mkF mm_ 278 #[vi p1, vi p2, vi p3, vi p4, vi p5, vi ((p1 &&& (2147483647 : Int32)) % (5 : Int32)), vi v_14, vi v_15, vi v_16, vi v_17, vr b164, un] [])
                     refine sp_ (fun t_ k_ => XS.iconst X222.here hx rfl (B_ at_278) (XS.istore X222.here hx rfl (B_ at_279) rfl (l' := #[vi p1, vi p2, vi p3, vi p4, vi p5, vi ((p1 &&& (2147483647 : Int32)) % (5 : Int32)), vi v_14, vi v_15, vi v_16, vi v_17, vr b164, vi 0]) rfl k_)) ?_
                     have f229 : Exa Z T214.heap b164 sc0 := (f215.keep Kc214)
                     have K230 : Keep h0 T214.heap [] := (K219.trans Kc214 (allS (Or.inr lo_b164) all0))
                     exact seg_w4 _ _ _ ((p1 &&& (2147483647 : Int32)) % (5 : Int32)) v_14 v_15 v_16 v_17 b164 r_214 k_214 _ _ (X222.more (by decide) (by decide)) Eh222 N222 K230 O221 hS0 (Nat.le_trans (Nat.le_trans (Nat.le_trans (Nat.le_trans (Nat.le_trans (Nat.le_trans (Nat.le_trans (Nat.zero_le _) E164.1) E165.1) (Keep.of_wr W167).1) (Keep.of_wr W168).1) (Keep.of_wr W169).1) (Keep.of_wr W170).1) Kc214.1) hZ hown (own_IB_mono hI (by intro t_ h_; first | exact h_ | exact List.mem_cons_of_mem _ h_ | (revert t_ h_; decide))) f229 r214_2 r214_1 r214_3 r14_0 r15_0 r16_0 r17_0 (Or.inr (Or.inr (Or.inr hv213)))
                 · skip
                   show Go_ T220 (mkF mm_ 247 #[vi p1, vi p2, vi p3, vi p4, vi p5, vi ((p1 &&& (2147483647 : Int32)) % (5 : Int32)), vi v_14, vi v_15, vi v_16, vi v_17, vr b164, un] [(.int 0)])
                   refine sp_ (fun t_ k_ => XS.ifYes X220.here hx rfl (pc0 := 247) (pc' := 278) rfl (B_ at_247) rfl ((if0 _ _).trans (teq (by decide : (0 : Int32) = (0 : Int32))).1) (by decide) (by decide) k_) ?_
                   show Go_ T220 (mkF mm_ 278 #[vi p1, vi p2, vi p3, vi p4, vi p5, vi ((p1 &&& (2147483647 : Int32)) % (5 : Int32)), vi v_14, vi v_15, vi v_16, vi v_17, vr b164, un] [])
                   refine sp_ (fun t_ k_ => XS.iconst X220.here hx rfl (B_ at_278) (XS.istore X220.here hx rfl (B_ at_279) rfl (l' := #[vi p1, vi p2, vi p3, vi p4, vi p5, vi ((p1 &&& (2147483647 : Int32)) % (5 : Int32)), vi v_14, vi v_15, vi v_16, vi v_17, vr b164, vi 0]) rfl k_)) ?_
                   have f231 : Exa Z T214.heap b164 sc0 := (f215.keep Kc214)
                   have K232 : Keep h0 T214.heap [] := (K219.trans Kc214 (allS (Or.inr lo_b164) all0))
                   exact seg_w4 _ _ _ ((p1 &&& (2147483647 : Int32)) % (5 : Int32)) v_14 v_15 v_16 v_17 b164 r_214 k_214 _ _ (X220.more (by decide) (by decide)) Eh220 N220 K232 O221 hS0 (Nat.le_trans (Nat.le_trans (Nat.le_trans (Nat.le_trans (Nat.le_trans (Nat.le_trans (Nat.le_trans (Nat.zero_le _) E164.1) E165.1) (Keep.of_wr W167).1) (Keep.of_wr W168).1) (Keep.of_wr W169).1) (Keep.of_wr W170).1) Kc214.1) hZ hown (own_IB_mono hI (by intro t_ h_; first | exact h_ | exact List.mem_cons_of_mem _ h_ | (revert t_ h_; decide))) f231 r214_2 r214_1 r214_3 r14_0 r15_0 r16_0 r17_0 (Or.inr (Or.inr (Or.inr hv213)))
               · skip
                 have hp234 : ∀ ch_ ∈ ([v_14, v_15, v_16, v_17] : List Int32), ¬ ch_ < 0 ∧ ¬ (255 : Int32) < ch_ := by
                  intro ch_ hc
                  simp only [List.mem_cons, List.not_mem_nil, or_false] at hc
                  rcases hc with rfl | rfl | rfl | rfl
                  · exact ⟨r14_0.1, hv171⟩
                  · exact ⟨r15_0.1, hv182⟩
                  · exact ⟨r16_0.1, hv196⟩
                  · exact ⟨r17_0.1, hv213⟩
                 have f235 : Exa Z h170 b164 sc0 := (((((A164.ext E165).wr W167).wr W168).wr W169).wr W170)
                 have f236 : Fld Z h170 b164 sc0 "value" "[B" .null := (((((F164_value.ext E165).other W167 (Or.inl (Nat.ne_of_lt (Nat.lt_of_lt_of_le A164.lt (Nat.le_of_eq q165.symm))))).other W168 (Or.inl (Nat.ne_of_lt (Nat.lt_of_lt_of_le A164.lt (Nat.le_of_eq q165.symm))))).other W169 (Or.inl (Nat.ne_of_lt (Nat.lt_of_lt_of_le A164.lt (Nat.le_of_eq q165.symm))))).other W170 (Or.inl (Nat.ne_of_lt (Nat.lt_of_lt_of_le A164.lt (Nat.le_of_eq q165.symm)))))
                 have f237 : Fld Z h170 b164 sc0 "coder" "B" (.int 0) := (((((F164_coder.ext E165).other W167 (Or.inl (Nat.ne_of_lt (Nat.lt_of_lt_of_le A164.lt (Nat.le_of_eq q165.symm))))).other W168 (Or.inl (Nat.ne_of_lt (Nat.lt_of_lt_of_le A164.lt (Nat.le_of_eq q165.symm))))).other W169 (Or.inl (Nat.ne_of_lt (Nat.lt_of_lt_of_le A164.lt (Nat.le_of_eq q165.symm))))).other W170 (Or.inl (Nat.ne_of_lt (Nat.lt_of_lt_of_le A164.lt (Nat.le_of_eq q165.symm)))))
                 have O238 : Old Z n0 h170 := ((((((O0.ext E164).ext E165).wr W167 g_b165).wr W168 g_b165).wr W169 g_b165).wr W170 g_b165)
                 have K239 : Keep h0 h170 [] := (((((K166.ext E165).wr W167 (Or.inr lo_b165)).wr W168 (Or.inr lo_b165)).wr W169 (Or.inr lo_b165)).wr W170 (Or.inr lo_b165))
                 obtain ⟨_, T233, Lc233, X233, hQ233, st233⟩ := own_cI X170 hx hZ rfl hown (w_ hw 11 rfl) (w_ hw 12 rfl) (w_ hw 13 rfl) (by decide) (own_newS (W := 1) hZ hw (cs := [v_14, v_15, v_16, v_17]) (n := 4) g_b164 (Nat.le_trans Z0 K239.1) f235 f236 f237 V170 (G_cs.ext O238.2) G_cs0 rfl rfl rfl (by decide) (by decide) hp234 (by decide) (by decide)) (g := (mkF mm_ 237 #[vi p1, vi p2, vi p3, vi p4, vi p5, vi ((p1 &&& (2147483647 : Int32)) % (5 : Int32)), vi v_14, vi v_15, vi v_16, vi v_17, un, un] [(.ref b165), (.ref b164), (.ref b164)])) rfl hml.symm (a := b164) (argsL := [(.ref b165)]) (rest := [(.ref b164)]) (lenOf pd_17 rfl) rfl (Nat.le_of_eq rfl) (B_ at_237) rfl e170 (by decide) (by decide)
                 obtain ⟨t233, rfl, Nq233, Kc233, lo233, Fs233⟩ := hQ233
                 have N233 := Fr.app N170 Nq233
                 have lo_t233 : h0.size ≤ t233 := Nat.le_trans K239.1 lo233
                 have g_t233 : n0 ≤ t233 := Nat.le_trans Z0 lo_t233
                 refine jp_ st233 ?_
                 show Go_ T233 (mkF mm_ 240 #[vi p1, vi p2, vi p3, vi p4, vi p5, vi ((p1 &&& (2147483647 : Int32)) % (5 : Int32)), vi v_14, vi v_15, vi v_16, vi v_17, un, un] [(.ref b164)])
                 refine sp_ (fun t_ k_ => XS.astore X233.here hx rfl (B_ at_240) rfl rfl (l' := #[vi p1, vi p2, vi p3, vi p4, vi p5, vi ((p1 &&& (2147483647 : Int32)) % (5 : Int32)), vi v_14, vi v_15, vi v_16, vi v_17, vr b164, un]) rfl (XS.iload X233.here hx rfl (B_ at_242) rfl  k_)) ?_
                 have O241 : Old Z n0 T233.heap := (O238.keep Kc233 (allS g_b164 all0))
                 obtain ⟨_, T240, Lc240, X240, hQ240, st240⟩ := own_cS X233 hx hZ hown (w_ hw 49 rfl) (w_ hw 50 rfl) (w_ hw 3 rfl) (w_ hw 51 rfl) (by decide) (backOf (W := 0) (rmDg l Z a0 hw [] v_14 T233.heap n0 O241 ) hZ (w_ hw 51 rfl) (w_ hw 3 rfl) (by decide) (by decide)) (g := (mkF mm_ 244 #[vi p1, vi p2, vi p3, vi p4, vi p5, vi ((p1 &&& (2147483647 : Int32)) % (5 : Int32)), vi v_14, vi v_15, vi v_16, vi v_17, vr b164, un] [(.int v_14)])) rfl hml.symm (argsL := [(.int v_14)]) (rest := []) (lenOf pd_18 rfl) rfl (Nat.le_of_eq rfl) (B_ at_244) rfl rfl (by decide) (by decide)
                 obtain ⟨r_240, rfl, rfl, Eh240, r240_0⟩ := hQ240
                 have N240 := Fr.app N233 (Fr.nil n0)
                 refine jp_ st240 ?_
                 rcases r240_0 with ⟨rfl, hd240⟩ | ⟨rfl, hd240⟩
                 · skip
                   show Go_ T240 (mkF mm_ 247 #[vi p1, vi p2, vi p3, vi p4, vi p5, vi ((p1 &&& (2147483647 : Int32)) % (5 : Int32)), vi v_14, vi v_15, vi v_16, vi v_17, vr b164, un] [(.int 1)])
                   refine sp_ (fun t_ k_ => XS.ifNo X240.here hx rfl (B_ at_247) rfl ((if0 _ _).trans (feq (by decide : ¬ ((1 : Int32) = (0 : Int32)))).1) k_) ?_
                   show Go_ T240 (mkF mm_ 250 #[vi p1, vi p2, vi p3, vi p4, vi p5, vi ((p1 &&& (2147483647 : Int32)) % (5 : Int32)), vi v_14, vi v_15, vi v_16, vi v_17, vr b164, un] [])
                   refine sp_ (fun t_ k_ => XS.iload X240.here hx rfl (B_ at_250) rfl  k_) ?_
                   obtain ⟨_, T242, Lc242, X242, hQ242, st242⟩ := own_cS X240 hx hZ hown (w_ hw 49 rfl) (w_ hw 50 rfl) (w_ hw 3 rfl) (w_ hw 51 rfl) (by decide) (backOf (W := 0) (rmDg l Z a0 hw [] v_15 T233.heap n0 O241 ) hZ (w_ hw 51 rfl) (w_ hw 3 rfl) (by decide) (by decide)) (g := (mkF mm_ 252 #[vi p1, vi p2, vi p3, vi p4, vi p5, vi ((p1 &&& (2147483647 : Int32)) % (5 : Int32)), vi v_14, vi v_15, vi v_16, vi v_17, vr b164, un] [(.int v_15)])) rfl hml.symm (argsL := [(.int v_15)]) (rest := []) (lenOf pd_18 rfl) rfl (Nat.le_of_eq rfl) (B_ at_252) rfl Eh240 (by decide) (by decide)
                   obtain ⟨r_242, rfl, rfl, Eh242, r242_0⟩ := hQ242
                   have N242 := Fr.app N240 (Fr.nil n0)
                   refine jp_ st242 ?_
                   rcases r242_0 with ⟨rfl, hd242⟩ | ⟨rfl, hd242⟩
                   · skip
                     show Go_ T242 (mkF mm_ 255 #[vi p1, vi p2, vi p3, vi p4, vi p5, vi ((p1 &&& (2147483647 : Int32)) % (5 : Int32)), vi v_14, vi v_15, vi v_16, vi v_17, vr b164, un] [(.int 1)])
                     refine sp_ (fun t_ k_ => XS.ifNo X242.here hx rfl (B_ at_255) rfl ((if0 _ _).trans (feq (by decide : ¬ ((1 : Int32) = (0 : Int32)))).1) k_) ?_
                     show Go_ T242 (mkF mm_ 258 #[vi p1, vi p2, vi p3, vi p4, vi p5, vi ((p1 &&& (2147483647 : Int32)) % (5 : Int32)), vi v_14, vi v_15, vi v_16, vi v_17, vr b164, un] [])
                     refine sp_ (fun t_ k_ => XS.iload X242.here hx rfl (B_ at_258) rfl  k_) ?_
                     obtain ⟨_, T243, Lc243, X243, hQ243, st243⟩ := own_cS X242 hx hZ hown (w_ hw 49 rfl) (w_ hw 50 rfl) (w_ hw 3 rfl) (w_ hw 51 rfl) (by decide) (backOf (W := 0) (rmDg l Z a0 hw [] v_16 T233.heap n0 O241 ) hZ (w_ hw 51 rfl) (w_ hw 3 rfl) (by decide) (by decide)) (g := (mkF mm_ 260 #[vi p1, vi p2, vi p3, vi p4, vi p5, vi ((p1 &&& (2147483647 : Int32)) % (5 : Int32)), vi v_14, vi v_15, vi v_16, vi v_17, vr b164, un] [(.int v_16)])) rfl hml.symm (argsL := [(.int v_16)]) (rest := []) (lenOf pd_18 rfl) rfl (Nat.le_of_eq rfl) (B_ at_260) rfl Eh242 (by decide) (by decide)
                     obtain ⟨r_243, rfl, rfl, Eh243, r243_0⟩ := hQ243
                     have N243 := Fr.app N242 (Fr.nil n0)
                     refine jp_ st243 ?_
                     rcases r243_0 with ⟨rfl, hd243⟩ | ⟨rfl, hd243⟩
                     · skip
                       show Go_ T243 (mkF mm_ 263 #[vi p1, vi p2, vi p3, vi p4, vi p5, vi ((p1 &&& (2147483647 : Int32)) % (5 : Int32)), vi v_14, vi v_15, vi v_16, vi v_17, vr b164, un] [(.int 1)])
                       refine sp_ (fun t_ k_ => XS.ifNo X243.here hx rfl (B_ at_263) rfl ((if0 _ _).trans (feq (by decide : ¬ ((1 : Int32) = (0 : Int32)))).1) k_) ?_
                       show Go_ T243 (mkF mm_ 266 #[vi p1, vi p2, vi p3, vi p4, vi p5, vi ((p1 &&& (2147483647 : Int32)) % (5 : Int32)), vi v_14, vi v_15, vi v_16, vi v_17, vr b164, un] [])
                       refine sp_ (fun t_ k_ => XS.iload X243.here hx rfl (B_ at_266) rfl  k_) ?_
                       obtain ⟨_, T244, Lc244, X244, hQ244, st244⟩ := own_cS X243 hx hZ hown (w_ hw 49 rfl) (w_ hw 50 rfl) (w_ hw 3 rfl) (w_ hw 51 rfl) (by decide) (backOf (W := 0) (rmDg l Z a0 hw [] v_17 T233.heap n0 O241 ) hZ (w_ hw 51 rfl) (w_ hw 3 rfl) (by decide) (by decide)) (g := (mkF mm_ 268 #[vi p1, vi p2, vi p3, vi p4, vi p5, vi ((p1 &&& (2147483647 : Int32)) % (5 : Int32)), vi v_14, vi v_15, vi v_16, vi v_17, vr b164, un] [(.int v_17)])) rfl hml.symm (argsL := [(.int v_17)]) (rest := []) (lenOf pd_18 rfl) rfl (Nat.le_of_eq rfl) (B_ at_268) rfl Eh243 (by decide) (by decide)
                       obtain ⟨r_244, rfl, rfl, Eh244, r244_0⟩ := hQ244
                       have N244 := Fr.app N243 (Fr.nil n0)
                       refine jp_ st244 ?_
                       rcases r244_0 with ⟨rfl, hd244⟩ | ⟨rfl, hd244⟩
                       · skip
                         show Go_ T244 (mkF mm_ 271 #[vi p1, vi p2, vi p3, vi p4, vi p5, vi ((p1 &&& (2147483647 : Int32)) % (5 : Int32)), vi v_14, vi v_15, vi v_16, vi v_17, vr b164, un] [(.int 1)])
                         refine sp_ (fun t_ k_ => XS.ifNo X244.here hx rfl (B_ at_271) rfl ((if0 _ _).trans (feq (by decide : ¬ ((1 : Int32) = (0 : Int32)))).1) k_) ?_
                         show Go_ T244 (mkF mm_ 274 #[vi p1, vi p2, vi p3, vi p4, vi p5, vi ((p1 &&& (2147483647 : Int32)) % (5 : Int32)), vi v_14, vi v_15, vi v_16, vi v_17, vr b164, un] [])
                         refine sp_ (fun t_ k_ => XS.iconst X244.here hx rfl (B_ at_274) (XS.goto X244.here hx rfl (pc0 := 275) (pc' := 279) rfl (B_ at_275) (by decide) (by decide) (XS.istore X244.here hx rfl (B_ at_279) rfl (l' := #[vi p1, vi p2, vi p3, vi p4, vi p5, vi ((p1 &&& (2147483647 : Int32)) % (5 : Int32)), vi v_14, vi v_15, vi v_16, vi v_17, vr b164, vi 1]) rfl k_))) ?_
                         have K245 : Keep h0 T233.heap [] := (K239.trans Kc233 (allS (Or.inr lo_b164) all0))
                         exact seg_l4_1 _ _ _ ((p1 &&& (2147483647 : Int32)) % (5 : Int32)) v_14 v_15 v_16 v_17 b164 t233 _ _ (X244.more (by decide) (by decide)) Eh244 N244 K245 O241 hS0 (Nat.le_trans (Nat.le_trans (Nat.le_trans (Nat.le_trans (Nat.le_trans (Nat.le_trans (Nat.le_trans (Nat.zero_le _) E164.1) E165.1) (Keep.of_wr W167).1) (Keep.of_wr W168).1) (Keep.of_wr W169).1) (Keep.of_wr W170).1) Kc233.1) hZ hown (own_IB_mono hI (by intro t_ h_; first | exact h_ | exact List.mem_cons_of_mem _ h_ | (revert t_ h_; decide))) Fs233 (fun r h_ => h_.2.2.2.2 hd240 hd242 hd243 hd244)
                       · skip
                         show Go_ T244 (mkF mm_ 271 #[vi p1, vi p2, vi p3, vi p4, vi p5, vi ((p1 &&& (2147483647 : Int32)) % (5 : Int32)), vi v_14, vi v_15, vi v_16, vi v_17, vr b164, un] [(.int 0)])
                         refine sp_ (fun t_ k_ => XS.ifYes X244.here hx rfl (pc0 := 271) (pc' := 278) rfl (B_ at_271) rfl ((if0 _ _).trans (teq (by decide : (0 : Int32) = (0 : Int32))).1) (by decide) (by decide) k_) ?_
                         show Go_ T244 (mkF mm_ 278 #[vi p1, vi p2, vi p3, vi p4, vi p5, vi ((p1 &&& (2147483647 : Int32)) % (5 : Int32)), vi v_14, vi v_15, vi v_16, vi v_17, vr b164, un] [])
                         refine sp_ (fun t_ k_ => XS.iconst X244.here hx rfl (B_ at_278) (XS.istore X244.here hx rfl (B_ at_279) rfl (l' := #[vi p1, vi p2, vi p3, vi p4, vi p5, vi ((p1 &&& (2147483647 : Int32)) % (5 : Int32)), vi v_14, vi v_15, vi v_16, vi v_17, vr b164, vi 0]) rfl k_)) ?_
                         have K246 : Keep h0 T233.heap [] := (K239.trans Kc233 (allS (Or.inr lo_b164) all0))
                         exact seg_l4_0 _ _ _ ((p1 &&& (2147483647 : Int32)) % (5 : Int32)) v_14 v_15 v_16 v_17 b164 t233 _ _ (X244.more (by decide) (by decide)) Eh244 N244 K246 O241 hS0 (Nat.le_trans (Nat.le_trans (Nat.le_trans (Nat.le_trans (Nat.le_trans (Nat.le_trans (Nat.le_trans (Nat.zero_le _) E164.1) E165.1) (Keep.of_wr W167).1) (Keep.of_wr W168).1) (Keep.of_wr W169).1) (Keep.of_wr W170).1) Kc233.1) hZ hown (own_IB_mono hI (by intro t_ h_; first | exact h_ | exact List.mem_cons_of_mem _ h_ | (revert t_ h_; decide))) Fs233 (fun r h_ => h_.2.2.2.1 hd240 hd242 hd243 hd244)
                     · skip
                       show Go_ T243 (mkF mm_ 263 #[vi p1, vi p2, vi p3, vi p4, vi p5, vi ((p1 &&& (2147483647 : Int32)) % (5 : Int32)), vi v_14, vi v_15, vi v_16, vi v_17, vr b164, un] [(.int 0)])
                       refine sp_ (fun t_ k_ => XS.ifYes X243.here hx rfl (pc0 := 263) (pc' := 278) rfl (B_ at_263) rfl ((if0 _ _).trans (teq (by decide : (0 : Int32) = (0 : Int32))).1) (by decide) (by decide) k_) ?_
                       show Go_ T243 (mkF mm_ 278 #[vi p1, vi p2, vi p3, vi p4, vi p5, vi ((p1 &&& (2147483647 : Int32)) % (5 : Int32)), vi v_14, vi v_15, vi v_16, vi v_17, vr b164, un] [])
                       refine sp_ (fun t_ k_ => XS.iconst X243.here hx rfl (B_ at_278) (XS.istore X243.here hx rfl (B_ at_279) rfl (l' := #[vi p1, vi p2, vi p3, vi p4, vi p5, vi ((p1 &&& (2147483647 : Int32)) % (5 : Int32)), vi v_14, vi v_15, vi v_16, vi v_17, vr b164, vi 0]) rfl k_)) ?_
                       have K247 : Keep h0 T233.heap [] := (K239.trans Kc233 (allS (Or.inr lo_b164) all0))
                       exact seg_l4_0 _ _ _ ((p1 &&& (2147483647 : Int32)) % (5 : Int32)) v_14 v_15 v_16 v_17 b164 t233 _ _ (X243.more (by decide) (by decide)) Eh243 N243 K247 O241 hS0 (Nat.le_trans (Nat.le_trans (Nat.le_trans (Nat.le_trans (Nat.le_trans (Nat.le_trans (Nat.le_trans (Nat.zero_le _) E164.1) E165.1) (Keep.of_wr W167).1) (Keep.of_wr W168).1) (Keep.of_wr W169).1) (Keep.of_wr W170).1) Kc233.1) hZ hown (own_IB_mono hI (by intro t_ h_; first | exact h_ | exact List.mem_cons_of_mem _ h_ | (revert t_ h_; decide))) Fs233 (fun r h_ => h_.2.2.1 hd240 hd242 hd243)
                   · skip
                     show Go_ T242 (mkF mm_ 255 #[vi p1, vi p2, vi p3, vi p4, vi p5, vi ((p1 &&& (2147483647 : Int32)) % (5 : Int32)), vi v_14, vi v_15, vi v_16, vi v_17, vr b164, un] [(.int 0)])
                     refine sp_ (fun t_ k_ => XS.ifYes X242.here hx rfl (pc0 := 255) (pc' := 278) rfl (B_ at_255) rfl ((if0 _ _).trans (teq (by decide : (0 : Int32) = (0 : Int32))).1) (by decide) (by decide) k_) ?_
                     show Go_ T242 (mkF mm_ 278 #[vi p1, vi p2, vi p3, vi p4, vi p5, vi ((p1 &&& (2147483647 : Int32)) % (5 : Int32)), vi v_14, vi v_15, vi v_16, vi v_17, vr b164, un] [])
                     refine sp_ (fun t_ k_ => XS.iconst X242.here hx rfl (B_ at_278) (XS.istore X242.here hx rfl (B_ at_279) rfl (l' := #[vi p1, vi p2, vi p3, vi p4, vi p5, vi ((p1 &&& (2147483647 : Int32)) % (5 : Int32)), vi v_14, vi v_15, vi v_16, vi v_17, vr b164, vi 0]) rfl k_)) ?_
                     have K248 : Keep h0 T233.heap [] := (K239.trans Kc233 (allS (Or.inr lo_b164) all0))
                     exact seg_l4_0 _ _ _ ((p1 &&& (2147483647 : Int32)) % (5 : Int32)) v_14 v_15 v_16 v_17 b164 t233 _ _ (X242.more (by decide) (by decide)) Eh242 N242 K248 O241 hS0 (Nat.le_trans (Nat.le_trans (Nat.le_trans (Nat.le_trans (Nat.le_trans (Nat.le_trans (Nat.le_trans (Nat.zero_le _) E164.1) E165.1) (Keep.of_wr W167).1) (Keep.of_wr W168).1) (Keep.of_wr W169).1) (Keep.of_wr W170).1) Kc233.1) hZ hown (own_IB_mono hI (by intro t_ h_; first | exact h_ | exact List.mem_cons_of_mem _ h_ | (revert t_ h_; decide))) Fs233 (fun r h_ => h_.2.1 hd240 hd242)
                 · skip
                   show Go_ T240 (mkF mm_ 247 #[vi p1, vi p2, vi p3, vi p4, vi p5, vi ((p1 &&& (2147483647 : Int32)) % (5 : Int32)), vi v_14, vi v_15, vi v_16, vi v_17, vr b164, un] [(.int 0)])
                   refine sp_ (fun t_ k_ => XS.ifYes X240.here hx rfl (pc0 := 247) (pc' := 278) rfl (B_ at_247) rfl ((if0 _ _).trans (teq (by decide : (0 : Int32) = (0 : Int32))).1) (by decide) (by decide) k_) ?_
                   show Go_ T240 (mkF mm_ 278 #[vi p1, vi p2, vi p3, vi p4, vi p5, vi ((p1 &&& (2147483647 : Int32)) % (5 : Int32)), vi v_14, vi v_15, vi v_16, vi v_17, vr b164, un] [])
                   refine sp_ (fun t_ k_ => XS.iconst X240.here hx rfl (B_ at_278) (XS.istore X240.here hx rfl (B_ at_279) rfl (l' := #[vi p1, vi p2, vi p3, vi p4, vi p5, vi ((p1 &&& (2147483647 : Int32)) % (5 : Int32)), vi v_14, vi v_15, vi v_16, vi v_17, vr b164, vi 0]) rfl k_)) ?_
                   have K249 : Keep h0 T233.heap [] := (K239.trans Kc233 (allS (Or.inr lo_b164) all0))
                   exact seg_l4_0 _ _ _ ((p1 &&& (2147483647 : Int32)) % (5 : Int32)) v_14 v_15 v_16 v_17 b164 t233 _ _ (X240.more (by decide) (by decide)) Eh240 N240 K249 O241 hS0 (Nat.le_trans (Nat.le_trans (Nat.le_trans (Nat.le_trans (Nat.le_trans (Nat.le_trans (Nat.le_trans (Nat.zero_le _) E164.1) E165.1) (Keep.of_wr W167).1) (Keep.of_wr W168).1) (Keep.of_wr W169).1) (Keep.of_wr W170).1) Kc233.1) hZ hown (own_IB_mono hI (by intro t_ h_; first | exact h_ | exact List.mem_cons_of_mem _ h_ | (revert t_ h_; decide))) Fs233 (fun r h_ => h_.1 hd240)
theorem comes_1 {Post : Tables → Env → Array Value → State → Outcome → State → Prop} (hpost : ∀ tb e args s v u, (limb_1_1.after args s (.returned v) u = true ∧ limb_1_2.after args s (.returned v) u = true ∧ True) → ReturnedEndW s (.returned v) u (Jvm.fieldLocs frame_1_writes args s ++ Jvm.arrayLocs frame_1_arrays args s ++ Jvm.staticLocs frame_1_statics s) 24 1152 → Post tb e args s (.returned v) u) :
 ArmFor flags0 classFile x code maxLocals ret World_1 tables_1 room_1 Calls_1 rest_1 Pre_1 Post := by
 intro l hfl _ _ p e ha hc hk s m args below hf hA hF happ hP
 obtain ⟨hcalls, hrest, hpre⟩ := hP
 obtain ⟨-, -, -, hnamed, -, -, -, hat⟩ := (Spec.applies_iff hf).mp happ
 obtain ⟨hg, hn⟩ := and_e (Cond.before_iff.mp (show (Jvm.Cond.and given_1 narrow_1).before args s = true from hpre))
 obtain ⟨ga, gb0⟩ := and_e hg
 obtain ⟨w0_, w1_, w2_, w3_, w4_, rfl⟩ : ∃ w0_ w1_ w2_ w3_ w4_ : Value, args = #[w0_, w1_, w2_, w3_, w4_] := by
  have hs : args.size = 5 := by simpa [Cond.value, given_1] using ga
  obtain ⟨L⟩ := args
  match L, hs with
  | [w0_, w1_, w2_, w3_, w4_], _ => exact ⟨w0_, w1_, w2_, w3_, w4_, rfl⟩
 have hw := fun d (hd : d ∈ tables_1) => atoms_spec (ws := Jvm.Cond.code x code maxLocals ret :: tables_1) hat d (List.mem_cons_of_mem _ hd)
 have hfit : Fit s := fun {y c} hc i hi => by
  obtain ⟨ha, rfl⟩ := Array.getElem?_eq_some_iff.mp hc
  have q := List.all_eq_true.mp ((Array.all_eq_true_iff_forall_mem.mp hF) _ (Array.getElem_mem ha)) i (List.mem_range.mpr hi)
  simpa [Array.getElem?_eq_getElem hi] using q
 obtain ⟨hsets, hown0⟩ := atoms_of _ (rest_1_c_eq ▸ (show rest_1_c.before _ s = true from hrest))
 obtain ⟨gc0, gb1⟩ := and_e gb0
 obtain ⟨i0, ei0⟩ := is_v gc0
 obtain rfl : w0_ = (.int i0) := Option.some.inj ei0
 obtain ⟨gc1, gb2⟩ := and_e gb1
 obtain ⟨i1, ei1⟩ := is_v gc1
 obtain rfl : w1_ = (.int i1) := Option.some.inj ei1
 obtain ⟨gc2, gb3⟩ := and_e gb2
 obtain ⟨i2, ei2⟩ := is_v gc2
 obtain rfl : w2_ = (.int i2) := Option.some.inj ei2
 obtain ⟨gc3, gb4⟩ := and_e gb3
 obtain ⟨i3, ei3⟩ := is_v gc3
 obtain rfl : w3_ = (.int i3) := Option.some.inj ei3
 obtain ⟨i4, ei4⟩ := is_v gb4
 obtain rfl : w4_ = (.int i4) := Option.some.inj ei4
 obtain ⟨zc, ev_zc⟩ := is_v (Cond.before_iff.mp (hsets _ (List.mem_of_getElem? (i := 1) rfl)))
 have G_cs : Sta s s.heap sc0 "COMPACT_STRINGS" "Z" (.int zc) := Sta.start ev_zc (Or.inl (hsets _ (List.mem_of_getElem? (i := 0) rfl)))
 have G_cs0 : ¬ zc = (0 : Int32) := gotF (Cond.eq_ints ev_zc (Term.int_eval (0))) (not_v (Cond.before_iff.mp (hsets _ (List.mem_of_getElem? (i := 2) rfl))))
 have G_cw : Jvm.Lit.compactW.before #[] s = true := (hsets _ (List.mem_of_getElem? (i := 2) rfl))
 have G_h_java_lang_String_7 : Jvm.Lit.constHeld s sc0 7 := hcalls.1 (sc0, 7) (List.mem_of_getElem? (i := 0) rfl)
 obtain ⟨fm, ev_fm, G_fr⟩ := isR_v (Cond.before_iff.mp (hsets _ (List.mem_of_getElem? (i := 8) rfl)))
 have G_fm : Sta s s.heap sc4 "SIOOBE_FORMATTER" "Ljava/util/function/BiFunction;" fm := Sta.start ev_fm (Or.inl (hsets _ (List.mem_of_getElem? (i := 7) rfl)))
 have G_hb : Sta s s.heap sc1 "HI_BYTE_SHIFT" "I" (.int 0) := Sta.start (own_eqInt (Cond.before_iff.mp (hsets _ (List.mem_of_getElem? (i := 15) rfl)))) (Or.inl (hsets _ (List.mem_of_getElem? (i := 14) rfl)))
 have G_lb : Sta s s.heap sc1 "LO_BYTE_SHIFT" "I" (.int 8) := Sta.start (own_eqInt (Cond.before_iff.mp (hsets _ (List.mem_of_getElem? (i := 18) rfl)))) (Or.inl (hsets _ (List.mem_of_getElem? (i := 17) rfl)))
 have G_ad : Sta s s.heap sc1 "$assertionsDisabled" "Z" (.int 1) := Sta.start (own_eqInt (Cond.before_iff.mp (hsets _ (List.mem_of_getElem? (i := 12) rfl)))) (Or.inl (hsets _ (List.mem_of_getElem? (i := 11) rfl)))
 obtain ⟨n, o, h1, h2, h3, _, L, rfl, ⟨rfl, N, -⟩, hq⟩ := rm0 l s _ hw tables_1 i0 i1 i2 i3 i4 s.heap s.heap.size (Old.start s) (⟨G_cs, G_cs0, G_cw, G_h_java_lang_String_7, G_fm, G_fr, G_hb, G_lb, G_ad⟩ : own_St s (zc) (fm)) rfl p e ha hc hk s m _ below hf ((Spec.applies_iff_loose hf).mp happ).1 ⟨rfl, State.Warmed39.refl s, rfl, IB.start⟩ trivial
 refine ⟨n, _, h1, h2, h3, hpost _ _ _ _ _ _ ⟨Cond.after_iff.mpr rfl, Cond.after_iff.mpr (eq_i res_at (Term.int_eval (1)) rfl), trivial⟩ ⟨hq.2.1, hq.2.2.1, hq.2.2.2.1, (hq.2.2.2.2.sift fun y hy => Or.inr (N y hy)).mono (by decide) (by decide)⟩⟩
theorem main_1_1 : Claimed_1_1 := comes_1 fun _ _ _ _ _ _ h hF => ⟨h.1, hF⟩
theorem main_1_2 : Claimed_1_2 := comes_1 fun _ _ _ _ _ _ h hF => ⟨h.2.1, hF⟩
end Jvm.Pilot.@@N@@
namespace Jvm.Pilot.@@N@@
open Jvm Jvm.ClassFile Sem Op Lib Jvm.Free Jvm.Stand Jvm.Pilot.@@N@@.Jvm.D
/-! MADE BY PROGRAM (witnessworld.py) out of the Statement's table words and the real class files: 20 classes; the members and pool entries that the words name. The judged class is class 1, her method 3. -/
namespace start1
open Jvm.ClassFile
def u (s : String) : CpInfo := .utf8 (stringToUtf16 s)
/-- a pool by its gaps: so many unusable entries, then the entry; so many at the end -/
def gap : Nat → List CpInfo → List CpInfo
  | 0, r => r
  | n + 1, r => .unusable :: gap n r
def poolList (es : List (Nat × CpInfo)) (last : Nat) : List CpInfo := es.foldr (fun e r => gap e.1 (e.2 :: r)) (gap last [])
def pool (es : List (Nat × CpInfo)) (last : Nat) : Array CpInfo := ⟨poolList es last⟩
def fileOf (pool : Array CpInfo) (this : Nat) (attrs : Array Attribute := #[]) (ms : Array MethodInfo := #[]) (fl : Nat := 33) (sup : Nat := 0) (ifs : Array Nat := #[]) (fds : Array FieldInfo := #[]) : ClassFile where
  minorVersion := 0
  majorVersion := 65
  constantPool := pool
  accessFlags := fl
  thisClass := this
  superClass := sup
  interfaces := ifs
  fields := fds
  methods := ms
  attributes := attrs
def plain (name : String) (sup : Option ClassId) : Class where
  name := name
  kind := .ordinary
  loader := none
  accessFlags := 33
  super := sup
  interfaces := #[]
  cf := none
  fields := #[]
  methods := #[]
  instanceTypes := #[]
  staticTypes := #[]
  resolved := #[]
  callSites := []
  init := .initialized
  statics := none
  mirror := none

def pool0 : Array CpInfo := pool [(5, u "<init>"), (0, u "()V"), (1, .class_ 10), (1, u "java/lang/Object")] 113

def k0c0 : Code := { maxStack := 0, maxLocals := 1, code := object_method_1_code, exceptionTable := #[], attributes := #[] }
def k0m0 : Method := { name := "<init>", desc := "()V", sig := { parameters := [], returnType := none }, accessFlags := 1, code := some k0c0 }
/-- java/lang/Object -/
def k0 : Class := { plain "java/lang/Object" none with
  accessFlags := 33
  interfaces := #[]
  cf := some (fileOf pool0 8 #[] #[{ accessFlags := 1, nameIndex := 5, descriptorIndex := 6, attributes := #[] }] 33 0 #[] #[])
  fields := #[]
  methods := #[k0m0]
  instanceTypes := #[]
  staticTypes := #[]
  resolved := Array.replicate 124 none
  statics := none }

def pool1 : Array CpInfo := pool [(2, .class_ 4), (1, u "java/lang/Object"), (0, u "<init>"), (0, u "()V"), (0, .integer 65536), (0, .integer 65535), (0, .integer 2147483647), (0, .methodref 11 12), (0, .class_ 13), (0, .nameAndType 14 15), (0, u "com/example/malipo/malipo/core/intake/DecimalTextIsDigitsPinLaw"), (0, u "pick"), (0, u "(I)C"), (0, .class_ 17), (0, u "java/lang/String"), (0, .methodref 16 19), (0, .nameAndType 5 20), (0, u "([C)V"), (0, .methodref 11 22), (0, .nameAndType 23 24), (0, u "dig"), (0, u "(C)Z"), (0, .methodref 26 27), (0, .class_ 28), (0, .nameAndType 29 30), (0, u "com/example/malipo/malipo/core/intake/DecimalText"), (0, u "isDigits"), (0, u "(Ljava/lang/String;)Z"), (3, u "law"), (0, u "(IIIII)Z")] 2

def k1m0 : Method := { name := "<init>", desc := "()V", sig := { parameters := [], returnType := none }, accessFlags := 2, code := none }
def k1c1 : Code := { maxStack := 3, maxLocals := 1, code := method_2_code, exceptionTable := #[], attributes := #[] }
def k1m1 : Method := { name := "pick", desc := "(I)C", sig := { parameters := [.int], returnType := some .char }, accessFlags := 10, code := some k1c1 }
def k1c2 : Code := { maxStack := 2, maxLocals := 1, code := method_3_code, exceptionTable := #[], attributes := #[] }
def k1m2 : Method := { name := "dig", desc := "(C)Z", sig := { parameters := [.char], returnType := some .boolean }, accessFlags := 10, code := some k1c2 }
def k1c3 : Code := { maxStack := 6, maxLocals := 12, code := code, exceptionTable := #[], attributes := #[] }
def k1m3 : Method := { name := "law", desc := "(IIIII)Z", sig := { parameters := [.int, .int, .int, .int, .int], returnType := some .boolean }, accessFlags := 9, code := some k1c3 }
/-- com/example/malipo/malipo/core/intake/DecimalTextIsDigitsPinLaw -/
def k1 : Class := { plain "com/example/malipo/malipo/core/intake/DecimalTextIsDigitsPinLaw" (some 0) with
  accessFlags := 49
  interfaces := #[]
  cf := some (fileOf pool1 11 #[] #[{ accessFlags := 2, nameIndex := 5, descriptorIndex := 6, attributes := #[] }, { accessFlags := 10, nameIndex := 14, descriptorIndex := 15, attributes := #[] }, { accessFlags := 10, nameIndex := 23, descriptorIndex := 24, attributes := #[] }, { accessFlags := 9, nameIndex := 34, descriptorIndex := 35, attributes := #[] }] 49 2 #[] #[])
  fields := #[]
  methods := #[k1m0, k1m1, k1m2, k1m3]
  instanceTypes := #[]
  staticTypes := #[]
  resolved := Array.replicate 38 none
  statics := none }

def pool2 : Array CpInfo := pool [(1, .class_ 2), (0, u "java/io/Serializable"), (0, .class_ 4), (0, u "java/lang/Object")] 2

/-- java/io/Serializable -/
def k2 : Class := { plain "java/io/Serializable" (some 0) with
  accessFlags := 1537
  interfaces := #[]
  cf := some (fileOf pool2 1 #[] #[] 1537 3 #[] #[])
  fields := #[]
  methods := #[]
  instanceTypes := #[]
  staticTypes := #[]
  resolved := Array.replicate 7 none
  statics := none }

def pool3 : Array CpInfo := pool [(1, .class_ 2), (0, u "java/lang/Comparable"), (0, .class_ 4), (0, u "java/lang/Object")] 7

/-- java/lang/Comparable -/
def k3 : Class := { plain "java/lang/Comparable" (some 0) with
  accessFlags := 1537
  interfaces := #[]
  cf := some (fileOf pool3 1 #[] #[] 1537 3 #[] #[])
  fields := #[]
  methods := #[]
  instanceTypes := #[]
  staticTypes := #[]
  resolved := Array.replicate 12 none
  statics := none }

def pool4 : Array CpInfo := pool [(2, .class_ 4), (1, u "java/lang/CharSequence"), (42, .class_ 48), (0, u "java/lang/CharSequence$1CodePointIterator"), (10, .class_ 60), (0, u "java/lang/CharSequence$1CharIterator"), (5, .class_ 67), (0, u "java/lang/Object")] 63

/-- java/lang/CharSequence -/
def k4 : Class := { plain "java/lang/CharSequence" (some 0) with
  accessFlags := 1537
  interfaces := #[]
  cf := some (fileOf pool4 2 #[.nestMembers #[47, 59]] #[] 1537 66 #[] #[])
  fields := #[]
  methods := #[]
  instanceTypes := #[]
  staticTypes := #[]
  resolved := Array.replicate 131 none
  statics := none }

def pool5 : Array CpInfo := pool [(1, .class_ 2), (0, u "java/lang/constant/Constable"), (0, .class_ 4), (0, u "java/lang/Object")] 6

/-- java/lang/constant/Constable -/
def k5 : Class := { plain "java/lang/constant/Constable" (some 0) with
  accessFlags := 1537
  interfaces := #[]
  cf := some (fileOf pool5 1 #[] #[] 1537 3 #[] #[])
  fields := #[]
  methods := #[]
  instanceTypes := #[]
  staticTypes := #[]
  resolved := Array.replicate 11 none
  statics := none }

def pool6 : Array CpInfo := pool [(1, .class_ 2), (0, u "java/lang/constant/ConstantDesc"), (0, .class_ 4), (0, u "java/lang/Object")] 32

/-- java/lang/constant/ConstantDesc -/
def k6 : Class := { plain "java/lang/constant/ConstantDesc" (some 0) with
  accessFlags := 1537
  interfaces := #[]
  cf := some (fileOf pool6 1 #[] #[] 1537 3 #[] #[])
  fields := #[]
  methods := #[]
  instanceTypes := #[]
  staticTypes := #[]
  resolved := Array.replicate 37 none
  statics := none }

def pool7 : Array CpInfo := pool [(1, .methodref 2 3), (0, .class_ 4), (0, .nameAndType 5 6), (0, u "java/lang/Object"), (0, u "<init>"), (0, u "()V"), (0, .string 8), (0, u ""), (0, .fieldref 10 11), (0, .class_ 12), (0, .nameAndType 13 14), (0, u "java/lang/String"), (0, u "value"), (0, u "[B"), (0, .fieldref 10 16), (0, .nameAndType 17 18), (0, u "coder"), (0, u "B"), (2, u "hash"), (0, u "I"), (2, u "hashIsZero"), (0, u "Z"), (0, .methodref 10 28), (0, .nameAndType 5 29), (0, u "([CIILjava/lang/Void;)V"), (8, .fieldref 10 39), (0, .nameAndType 40 26), (0, u "COMPACT_STRINGS"), (1, .class_ 44), (1, u "java/lang/StringUTF16"), (0, u "compress"), (1, .methodref 42 48), (0, .nameAndType 49 50), (0, u "coderFromArrayLen"), (0, u "([BI)B"), (56, .class_ 109), (1, u "java/lang/StringLatin1"), (32, u "()Z"), (34, .methodref 42 178), (0, .nameAndType 45 179), (0, u "([CII)[B"), (154, u "()I"), (0, .methodref 10 336), (0, .nameAndType 17 337), (0, u "()B"), (25, u "([BI)C"), (27, u "(II)V"), (35, u "(I)C"), (64, .methodref 10 493), (0, .nameAndType 494 142), (0, u "isLatin1"), (0, .methodref 107 496), (0, .nameAndType 497 363), (0, u "charAt"), (0, .methodref 42 496), (2, u "checkIndex"), (5, u "length"), (67, .class_ 576), (0, u "java/lang/CharSequence"), (22, u "CASE_INSENSITIVE_ORDER"), (0, u "Ljava/util/Comparator;"), (91, u "isEmpty"), (317, u "([C)V"), (42, .fieldref 1054 1055), (0, .class_ 1056), (0, .nameAndType 1057 1058), (0, u "jdk/internal/util/Preconditions"), (0, u "SIOOBE_FORMATTER"), (0, u "Ljava/util/function/BiFunction;"), (0, .methodref 1054 1060), (0, .nameAndType 501 1061), (0, u "(IILjava/util/function/BiFunction;)I"), (39, u "serialPersistentFields"), (0, u "[Ljava/io/ObjectStreamField;"), (0, .class_ 1104), (0, u "java/lang/String$CaseInsensitiveComparator"), (1, .class_ 1107), (0, u "java/io/Serializable"), (0, .class_ 1109), (0, u "java/lang/Comparable"), (0, .class_ 1111), (0, u "java/lang/constant/Constable"), (0, .class_ 1113), (0, u "java/lang/constant/ConstantDesc"), (2, u "serialVersionUID"), (0, u "J"), (3, u "REPL"), (0, u "C"), (2, u "LATIN1"), (1, u "UTF16")] 323

def k7m0 : Method := { name := "<init>", desc := "()V", sig := { parameters := [], returnType := none }, accessFlags := 1, code := none }
def k7c1 : Code := { maxStack := 5, maxLocals := 2, code := jdk_42_method_3_code, exceptionTable := #[], attributes := #[] }
def k7m1 : Method := { name := "<init>", desc := "([C)V", sig := { parameters := [(.array .char)], returnType := none }, accessFlags := 1, code := some k7c1 }
def k7c2 : Code := { maxStack := 2, maxLocals := 1, code := jdk_42_method_54_code, exceptionTable := #[], attributes := #[] }
def k7m2 : Method := { name := "length", desc := "()I", sig := { parameters := [], returnType := some .int }, accessFlags := 1, code := some k7c2 }
def k7c3 : Code := { maxStack := 1, maxLocals := 1, code := jdk_42_method_55_code, exceptionTable := #[], attributes := #[] }
def k7m3 : Method := { name := "isEmpty", desc := "()Z", sig := { parameters := [], returnType := some .boolean }, accessFlags := 1, code := some k7c3 }
def k7c4 : Code := { maxStack := 2, maxLocals := 2, code := jdk_42_method_56_code, exceptionTable := #[], attributes := #[] }
def k7m4 : Method := { name := "charAt", desc := "(I)C", sig := { parameters := [.int], returnType := some .char }, accessFlags := 1, code := some k7c4 }
def k7c5 : Code := { maxStack := 4, maxLocals := 6, code := jdk_42_method_149_code, exceptionTable := #[], attributes := #[] }
def k7m5 : Method := { name := "<init>", desc := "([CIILjava/lang/Void;)V", sig := { parameters := [(.array .char), .int, .int, (.object "java/lang/Void")], returnType := none }, accessFlags := 2, code := some k7c5 }
def k7c6 : Code := { maxStack := 1, maxLocals := 1, code := jdk_42_method_152_code, exceptionTable := #[], attributes := #[] }
def k7m6 : Method := { name := "coder", desc := "()B", sig := { parameters := [], returnType := some .byte }, accessFlags := 0, code := some k7c6 }
def k7c7 : Code := { maxStack := 1, maxLocals := 1, code := jdk_42_method_154_code, exceptionTable := #[], attributes := #[] }
def k7m7 : Method := { name := "isLatin1", desc := "()Z", sig := { parameters := [], returnType := some .boolean }, accessFlags := 0, code := some k7c7 }
def k7c8 : Code := { maxStack := 3, maxLocals := 2, code := jdk_42_method_155_code, exceptionTable := #[], attributes := #[] }
def k7m8 : Method := { name := "checkIndex", desc := "(II)V", sig := { parameters := [.int, .int], returnType := none }, accessFlags := 8, code := some k7c8 }
/-- java/lang/String -/
def k7 : Class := { plain "java/lang/String" (some 0) with
  accessFlags := 49
  interfaces := #[2, 3, 4, 5, 6]
  cf := some (fileOf pool7 10 #[.nestMembers #[1103]] #[{ accessFlags := 1, nameIndex := 5, descriptorIndex := 6, attributes := #[] }, { accessFlags := 1, nameIndex := 5, descriptorIndex := 1010, attributes := #[] }, { accessFlags := 1, nameIndex := 507, descriptorIndex := 334, attributes := #[] }, { accessFlags := 1, nameIndex := 692, descriptorIndex := 142, attributes := #[] }, { accessFlags := 1, nameIndex := 497, descriptorIndex := 427, attributes := #[] }, { accessFlags := 2, nameIndex := 5, descriptorIndex := 29, attributes := #[] }, { accessFlags := 0, nameIndex := 17, descriptorIndex := 337, attributes := #[] }, { accessFlags := 0, nameIndex := 494, descriptorIndex := 142, attributes := #[] }, { accessFlags := 8, nameIndex := 501, descriptorIndex := 391, attributes := #[] }] 49 2 #[1106, 1108, 575, 1110, 1112] #[{ accessFlags := 18, nameIndex := 13, descriptorIndex := 14, attributes := #[] }, { accessFlags := 18, nameIndex := 17, descriptorIndex := 18, attributes := #[] }, { accessFlags := 2, nameIndex := 21, descriptorIndex := 22, attributes := #[] }, { accessFlags := 2, nameIndex := 25, descriptorIndex := 26, attributes := #[] }, { accessFlags := 26, nameIndex := 1116, descriptorIndex := 1117, attributes := #[] }, { accessFlags := 24, nameIndex := 40, descriptorIndex := 26, attributes := #[] }, { accessFlags := 26, nameIndex := 1101, descriptorIndex := 1102, attributes := #[] }, { accessFlags := 26, nameIndex := 1121, descriptorIndex := 1122, attributes := #[] }, { accessFlags := 25, nameIndex := 599, descriptorIndex := 600, attributes := #[] }, { accessFlags := 24, nameIndex := 1125, descriptorIndex := 18, attributes := #[] }, { accessFlags := 24, nameIndex := 1127, descriptorIndex := 18, attributes := #[] }])
  fields := #[{ name := "value", type := (.array .byte), accessFlags := 18, slot := 0, constantValue := 0 }, { name := "coder", type := .byte, accessFlags := 18, slot := 1, constantValue := 0 }, { name := "hash", type := .int, accessFlags := 2, slot := 2, constantValue := 0 }, { name := "hashIsZero", type := .boolean, accessFlags := 2, slot := 3, constantValue := 0 }, { name := "serialVersionUID", type := .long, accessFlags := 26, slot := 0, constantValue := 0 }, { name := "COMPACT_STRINGS", type := .boolean, accessFlags := 24, slot := 1, constantValue := 0 }, { name := "serialPersistentFields", type := (.array (.object "java/io/ObjectStreamField")), accessFlags := 26, slot := 2, constantValue := 0 }, { name := "REPL", type := .char, accessFlags := 26, slot := 3, constantValue := 0 }, { name := "CASE_INSENSITIVE_ORDER", type := (.object "java/util/Comparator"), accessFlags := 25, slot := 4, constantValue := 0 }, { name := "LATIN1", type := .byte, accessFlags := 24, slot := 5, constantValue := 0 }, { name := "UTF16", type := .byte, accessFlags := 24, slot := 6, constantValue := 0 }]
  methods := #[k7m0, k7m1, k7m2, k7m3, k7m4, k7m5, k7m6, k7m7, k7m8]
  instanceTypes := #[(.array .byte), .byte, .int, .boolean]
  staticTypes := #[.long, .boolean, (.array (.object "java/io/ObjectStreamField")), .char, (.object "java/util/Comparator"), .byte, .byte]
  resolved := Array.replicate 1451 none
  statics := some 0 }

def pool8 : Array CpInfo := pool [(2, .class_ 4), (1, u "java/lang/Object"), (0, u "<init>"), (0, u "()V"), (0, .methodref 8 9), (0, .class_ 10), (0, .nameAndType 11 12), (0, u "java/lang/String"), (0, u "isEmpty"), (0, u "()Z"), (0, .methodref 8 14), (0, .nameAndType 15 16), (0, u "length"), (0, u "()I"), (0, .methodref 8 18), (0, .nameAndType 19 20), (0, u "charAt"), (0, u "(I)C"), (0, .class_ 22), (0, u "com/example/malipo/malipo/core/intake/DecimalText"), (2, u "isDigits"), (0, u "(Ljava/lang/String;)Z")] 3

def k8m0 : Method := { name := "<init>", desc := "()V", sig := { parameters := [], returnType := none }, accessFlags := 2, code := none }
def k8c1 : Code := { maxStack := 2, maxLocals := 3, code := prog_8_method_2_code, exceptionTable := #[], attributes := #[] }
def k8m1 : Method := { name := "isDigits", desc := "(Ljava/lang/String;)Z", sig := { parameters := [(.object "java/lang/String")], returnType := some .boolean }, accessFlags := 9, code := some k8c1 }
/-- com/example/malipo/malipo/core/intake/DecimalText -/
def k8 : Class := { plain "com/example/malipo/malipo/core/intake/DecimalText" (some 0) with
  accessFlags := 49
  interfaces := #[]
  cf := some (fileOf pool8 21 #[] #[{ accessFlags := 2, nameIndex := 5, descriptorIndex := 6, attributes := #[] }, { accessFlags := 9, nameIndex := 25, descriptorIndex := 26, attributes := #[] }] 49 2 #[] #[])
  fields := #[]
  methods := #[k8m0, k8m1]
  instanceTypes := #[]
  staticTypes := #[]
  resolved := Array.replicate 30 none
  statics := none }

def pool9 : Array CpInfo := pool [(3, .class_ 4), (0, u "java/lang/String"), (1, .class_ 8), (1, u "java/lang/Object"), (0, u "<init>"), (0, u "()V"), (0, .methodref 12 13), (0, .class_ 14), (0, .nameAndType 15 16), (0, u "java/lang/StringUTF16"), (0, u "newBytesLength"), (0, u "(I)I"), (3, .integer 1073741823), (23, .fieldref 12 45), (0, .nameAndType 46 47), (0, u "$assertionsDisabled"), (0, u "Z"), (0, .methodref 12 49), (0, .nameAndType 50 51), (0, u "length"), (0, u "([B)I"), (7, .fieldref 12 60), (0, .nameAndType 61 62), (0, u "HI_BYTE_SHIFT"), (0, u "I"), (0, .fieldref 12 64), (0, .nameAndType 65 62), (0, u "LO_BYTE_SHIFT"), (1, .methodref 12 68), (0, .nameAndType 69 70), (0, u "checkIndex"), (0, u "(I[B)V"), (0, .methodref 12 72), (0, .nameAndType 73 74), (0, u "getChar"), (0, u "([BI)C"), (32, .methodref 12 108), (0, .nameAndType 109 110), (0, u "newBytesFor"), (0, u "(I)[B"), (0, .methodref 12 112), (0, .nameAndType 113 114), (0, u "putChar"), (0, u "([BII)V"), (0, .methodref 12 116), (0, .nameAndType 117 118), (0, u "compress"), (0, u "([CI[BII)I"), (0, .methodref 12 120), (0, .nameAndType 121 122), (0, u "toBytes"), (0, u "([CII)[B"), (138, u "coderFromArrayLen"), (0, u "([BI)B"), (106, .class_ 371), (1, u "java/lang/StringUTF16$LinesSpliterator"), (20, u "charAt"), (21, .methodref 3 415), (0, .nameAndType 69 416), (0, u "(II)V"), (13, u "MAX_LENGTH"), (196, .class_ 628), (0, u "java/lang/StringUTF16$CodePointsSpliterator"), (0, .class_ 630), (0, u "java/lang/StringUTF16$CharsSpliterator")] 4

def k9m0 : Method := { name := "<init>", desc := "()V", sig := { parameters := [], returnType := none }, accessFlags := 0, code := none }
def k9c1 : Code := { maxStack := 1, maxLocals := 1, code := jdk_52_method_2_code, exceptionTable := #[], attributes := #[] }
def k9m1 : Method := { name := "newBytesFor", desc := "(I)[B", sig := { parameters := [.int], returnType := some (.array .byte) }, accessFlags := 9, code := some k9c1 }
def k9c2 : Code := { maxStack := 4, maxLocals := 1, code := jdk_52_method_3_code, exceptionTable := #[], attributes := #[] }
def k9m2 : Method := { name := "newBytesLength", desc := "(I)I", sig := { parameters := [.int], returnType := some .int }, accessFlags := 9, code := some k9c2 }
def k9c3 : Code := { maxStack := 4, maxLocals := 3, code := jdk_52_method_4_code, exceptionTable := #[], attributes := #[] }
def k9m3 : Method := { name := "putChar", desc := "([BII)V", sig := { parameters := [(.array .byte), .int, .int], returnType := none }, accessFlags := 8, code := some k9c3 }
def k9c4 : Code := { maxStack := 3, maxLocals := 2, code := jdk_52_method_5_code, exceptionTable := #[], attributes := #[] }
def k9m4 : Method := { name := "getChar", desc := "([BI)C", sig := { parameters := [(.array .byte), .int], returnType := some .char }, accessFlags := 8, code := some k9c4 }
def k9c5 : Code := { maxStack := 2, maxLocals := 1, code := jdk_52_method_6_code, exceptionTable := #[], attributes := #[] }
def k9m5 : Method := { name := "length", desc := "([B)I", sig := { parameters := [(.array .byte)], returnType := some .int }, accessFlags := 9, code := some k9c5 }
def k9c6 : Code := { maxStack := 4, maxLocals := 5, code := jdk_52_method_14_code, exceptionTable := #[], attributes := #[] }
def k9m6 : Method := { name := "toBytes", desc := "([CII)[B", sig := { parameters := [(.array .char), .int, .int], returnType := some (.array .byte) }, accessFlags := 9, code := some k9c6 }
def k9c7 : Code := { maxStack := 2, maxLocals := 2, code := jdk_52_method_15_code, exceptionTable := #[], attributes := #[] }
def k9m7 : Method := { name := "coderFromArrayLen", desc := "([BI)B", sig := { parameters := [(.array .byte), .int], returnType := some .byte }, accessFlags := 8, code := some k9c7 }
def k9c8 : Code := { maxStack := 5, maxLocals := 6, code := jdk_52_method_16_code, exceptionTable := #[], attributes := #[] }
def k9m8 : Method := { name := "compress", desc := "([CII)[B", sig := { parameters := [(.array .char), .int, .int], returnType := some (.array .byte) }, accessFlags := 9, code := some k9c8 }
def k9c9 : Code := { maxStack := 3, maxLocals := 7, code := jdk_52_method_21_code, exceptionTable := #[], attributes := #[] }
def k9m9 : Method := { name := "compress", desc := "([CI[BII)I", sig := { parameters := [(.array .char), .int, (.array .byte), .int, .int], returnType := some .int }, accessFlags := 9, code := some k9c9 }
def k9c10 : Code := { maxStack := 2, maxLocals := 2, code := jdk_52_method_83_code, exceptionTable := #[], attributes := #[] }
def k9m10 : Method := { name := "charAt", desc := "([BI)C", sig := { parameters := [(.array .byte), .int], returnType := some .char }, accessFlags := 9, code := some k9c10 }
def k9c11 : Code := { maxStack := 2, maxLocals := 2, code := jdk_52_method_91_code, exceptionTable := #[], attributes := #[] }
def k9m11 : Method := { name := "checkIndex", desc := "(I[B)V", sig := { parameters := [.int, (.array .byte)], returnType := none }, accessFlags := 9, code := some k9c11 }
/-- java/lang/StringUTF16 -/
def k9 : Class := { plain "java/lang/StringUTF16" (some 0) with
  accessFlags := 48
  interfaces := #[]
  cf := some (fileOf pool9 12 #[.nestMembers #[627, 629, 369]] #[{ accessFlags := 0, nameIndex := 9, descriptorIndex := 10, attributes := #[] }, { accessFlags := 9, nameIndex := 109, descriptorIndex := 110, attributes := #[] }, { accessFlags := 9, nameIndex := 15, descriptorIndex := 16, attributes := #[] }, { accessFlags := 8, nameIndex := 113, descriptorIndex := 114, attributes := #[] }, { accessFlags := 8, nameIndex := 73, descriptorIndex := 74, attributes := #[] }, { accessFlags := 9, nameIndex := 50, descriptorIndex := 51, attributes := #[] }, { accessFlags := 9, nameIndex := 121, descriptorIndex := 122, attributes := #[] }, { accessFlags := 8, nameIndex := 261, descriptorIndex := 262, attributes := #[] }, { accessFlags := 9, nameIndex := 117, descriptorIndex := 122, attributes := #[] }, { accessFlags := 9, nameIndex := 117, descriptorIndex := 118, attributes := #[] }, { accessFlags := 9, nameIndex := 392, descriptorIndex := 74, attributes := #[] }, { accessFlags := 9, nameIndex := 69, descriptorIndex := 70, attributes := #[] }] 48 6 #[] #[{ accessFlags := 26, nameIndex := 61, descriptorIndex := 62, attributes := #[] }, { accessFlags := 26, nameIndex := 65, descriptorIndex := 62, attributes := #[] }, { accessFlags := 24, nameIndex := 430, descriptorIndex := 62, attributes := #[] }, { accessFlags := 4120, nameIndex := 46, descriptorIndex := 47, attributes := #[] }])
  fields := #[{ name := "HI_BYTE_SHIFT", type := .int, accessFlags := 26, slot := 0, constantValue := 0 }, { name := "LO_BYTE_SHIFT", type := .int, accessFlags := 26, slot := 1, constantValue := 0 }, { name := "MAX_LENGTH", type := .int, accessFlags := 24, slot := 2, constantValue := 0 }, { name := "$assertionsDisabled", type := .boolean, accessFlags := 4120, slot := 3, constantValue := 0 }]
  methods := #[k9m0, k9m1, k9m2, k9m3, k9m4, k9m5, k9m6, k9m7, k9m8, k9m9, k9m10, k9m11]
  instanceTypes := #[]
  staticTypes := #[.int, .int, .int, .boolean]
  resolved := Array.replicate 635 none
  statics := some 1 }

def pool10 : Array CpInfo := pool [(1, .class_ 2), (0, u "java/lang/String"), (1, .class_ 6), (1, u "java/lang/Object"), (0, u "<init>"), (0, u "()V"), (0, .methodref 1 10), (0, .nameAndType 11 12), (0, u "checkIndex"), (0, u "(II)V"), (1, .class_ 16), (1, u "java/lang/StringLatin1"), (36, u "([BI)C"), (67, u "$assertionsDisabled"), (0, u "Z"), (98, .class_ 223), (1, u "java/lang/StringLatin1$LinesSpliterator"), (28, u "charAt"), (137, .class_ 391), (0, u "java/lang/StringLatin1$CharsSpliterator")] 3

def k10m0 : Method := { name := "<init>", desc := "()V", sig := { parameters := [], returnType := none }, accessFlags := 0, code := none }
def k10c1 : Code := { maxStack := 2, maxLocals := 2, code := jdk_43_method_2_code, exceptionTable := #[], attributes := #[] }
def k10m1 : Method := { name := "charAt", desc := "([BI)C", sig := { parameters := [(.array .byte), .int], returnType := some .char }, accessFlags := 9, code := some k10c1 }
/-- java/lang/StringLatin1 -/
def k10 : Class := { plain "java/lang/StringLatin1" (some 0) with
  accessFlags := 48
  interfaces := #[]
  cf := some (fileOf pool10 14 #[.nestMembers #[390, 221]] #[{ accessFlags := 0, nameIndex := 7, descriptorIndex := 8, attributes := #[] }, { accessFlags := 9, nameIndex := 252, descriptorIndex := 53, attributes := #[] }] 48 4 #[] #[{ accessFlags := 4120, nameIndex := 121, descriptorIndex := 122, attributes := #[] }])
  fields := #[{ name := "$assertionsDisabled", type := .boolean, accessFlags := 4120, slot := 0, constantValue := 0 }]
  methods := #[k10m0, k10m1]
  instanceTypes := #[]
  staticTypes := #[.boolean]
  resolved := Array.replicate 395 none
  statics := none }

def pool11 : Array CpInfo := pool [(2, .class_ 4), (1, u "java/lang/Object"), (0, u "<init>"), (0, u "()V"), (17, .class_ 26), (1, u "jdk/internal/util/Preconditions"), (6, u "checkIndex"), (21, .class_ 56), (0, u "jdk/internal/util/Preconditions$4"), (57, .class_ 115), (0, u "jdk/internal/util/Preconditions$1"), (7, u "SIOOBE_FORMATTER"), (0, u "Ljava/util/function/BiFunction;"), (0, .class_ 126), (0, u "jdk/internal/util/Preconditions$2"), (3, u "AIOOBE_FORMATTER"), (0, .class_ 132), (0, u "jdk/internal/util/Preconditions$3"), (3, u "IOOBE_FORMATTER"), (41, u "(IILjava/util/function/BiFunction;)I")] 15

def k11m0 : Method := { name := "<init>", desc := "()V", sig := { parameters := [], returnType := none }, accessFlags := 1, code := none }
def k11c1 : Code := { maxStack := 3, maxLocals := 3, code := jdk_41_method_11_code, exceptionTable := #[], attributes := #[] }
def k11m1 : Method := { name := "checkIndex", desc := "(IILjava/util/function/BiFunction;)I", sig := { parameters := [.int, .int, (.object "java/util/function/BiFunction")], returnType := some .int }, accessFlags := 9, code := some k11c1 }
/-- jdk/internal/util/Preconditions -/
def k11 : Class := { plain "jdk/internal/util/Preconditions" (some 0) with
  accessFlags := 33
  interfaces := #[]
  cf := some (fileOf pool11 24 #[.nestMembers #[55, 131, 125, 114]] #[{ accessFlags := 1, nameIndex := 5, descriptorIndex := 6, attributes := #[] }, { accessFlags := 9, nameIndex := 33, descriptorIndex := 178, attributes := #[] }] 33 2 #[] #[{ accessFlags := 25, nameIndex := 123, descriptorIndex := 124, attributes := #[] }, { accessFlags := 25, nameIndex := 130, descriptorIndex := 124, attributes := #[] }, { accessFlags := 25, nameIndex := 136, descriptorIndex := 124, attributes := #[] }])
  fields := #[{ name := "SIOOBE_FORMATTER", type := (.object "java/util/function/BiFunction"), accessFlags := 25, slot := 0, constantValue := 0 }, { name := "AIOOBE_FORMATTER", type := (.object "java/util/function/BiFunction"), accessFlags := 25, slot := 1, constantValue := 0 }, { name := "IOOBE_FORMATTER", type := (.object "java/util/function/BiFunction"), accessFlags := 25, slot := 2, constantValue := 0 }]
  methods := #[k11m0, k11m1]
  instanceTypes := #[]
  staticTypes := #[(.object "java/util/function/BiFunction"), (.object "java/util/function/BiFunction"), (.object "java/util/function/BiFunction")]
  resolved := Array.replicate 194 none
  statics := some 2 }

def pool12 : Array CpInfo := pool [(9, u "<init>"), (6, .class_ 18), (1, u "java/lang/Object"), (0, u "()V"), (1, .class_ 23), (1, u "jdk/internal/util/ArraysSupport"), (0, u "LOG2_ARRAY_LONG_INDEX_SCALE"), (0, u "I"), (2, u "U"), (0, u "Ljdk/internal/misc/Unsafe;"), (8, u "BIG_ENDIAN"), (0, u "Z"), (8, u "LOG2_BYTE_BIT_SIZE"), (4, u "LOG2_ARRAY_INT_INDEX_SCALE"), (54, u "JLA"), (0, u "Ljdk/internal/access/JavaLangAccess;"), (11, u "LOG2_ARRAY_BOOLEAN_INDEX_SCALE"), (9, u "LOG2_ARRAY_BYTE_INDEX_SCALE"), (5, u "LOG2_ARRAY_CHAR_INDEX_SCALE"), (5, u "LOG2_ARRAY_SHORT_INDEX_SCALE"), (18, u "LOG2_ARRAY_FLOAT_INDEX_SCALE"), (24, u "LOG2_ARRAY_DOUBLE_INDEX_SCALE"), (89, u "T_BOOLEAN"), (2, u "T_CHAR"), (1, u "T_FLOAT"), (1, u "T_DOUBLE"), (1, u "T_BYTE"), (1, u "T_SHORT"), (1, u "T_INT"), (1, u "T_LONG"), (1, u "SOFT_MAX_ARRAY_LENGTH")] 83

def k12m0 : Method := { name := "<init>", desc := "()V", sig := { parameters := [], returnType := none }, accessFlags := 2, code := none }
/-- jdk/internal/util/ArraysSupport -/
def k12 : Class := { plain "jdk/internal/util/ArraysSupport" (some 0) with
  accessFlags := 33
  interfaces := #[]
  cf := some (fileOf pool12 21 #[] #[{ accessFlags := 2, nameIndex := 9, descriptorIndex := 19, attributes := #[] }] 33 16 #[] #[{ accessFlags := 24, nameIndex := 28, descriptorIndex := 29, attributes := #[] }, { accessFlags := 26, nameIndex := 38, descriptorIndex := 39, attributes := #[] }, { accessFlags := 25, nameIndex := 121, descriptorIndex := 25, attributes := #[] }, { accessFlags := 25, nameIndex := 131, descriptorIndex := 25, attributes := #[] }, { accessFlags := 25, nameIndex := 137, descriptorIndex := 25, attributes := #[] }, { accessFlags := 25, nameIndex := 143, descriptorIndex := 25, attributes := #[] }, { accessFlags := 25, nameIndex := 53, descriptorIndex := 25, attributes := #[] }, { accessFlags := 25, nameIndex := 24, descriptorIndex := 25, attributes := #[] }, { accessFlags := 25, nameIndex := 162, descriptorIndex := 25, attributes := #[] }, { accessFlags := 25, nameIndex := 187, descriptorIndex := 25, attributes := #[] }, { accessFlags := 26, nameIndex := 48, descriptorIndex := 25, attributes := #[] }, { accessFlags := 25, nameIndex := 277, descriptorIndex := 25, attributes := #[] }, { accessFlags := 25, nameIndex := 280, descriptorIndex := 25, attributes := #[] }, { accessFlags := 25, nameIndex := 282, descriptorIndex := 25, attributes := #[] }, { accessFlags := 25, nameIndex := 284, descriptorIndex := 25, attributes := #[] }, { accessFlags := 25, nameIndex := 286, descriptorIndex := 25, attributes := #[] }, { accessFlags := 25, nameIndex := 288, descriptorIndex := 25, attributes := #[] }, { accessFlags := 25, nameIndex := 290, descriptorIndex := 25, attributes := #[] }, { accessFlags := 25, nameIndex := 292, descriptorIndex := 25, attributes := #[] }, { accessFlags := 26, nameIndex := 108, descriptorIndex := 109, attributes := #[] }, { accessFlags := 25, nameIndex := 294, descriptorIndex := 25, attributes := #[] }])
  fields := #[{ name := "U", type := (.object "jdk/internal/misc/Unsafe"), accessFlags := 24, slot := 0, constantValue := 0 }, { name := "BIG_ENDIAN", type := .boolean, accessFlags := 26, slot := 1, constantValue := 0 }, { name := "LOG2_ARRAY_BOOLEAN_INDEX_SCALE", type := .int, accessFlags := 25, slot := 2, constantValue := 0 }, { name := "LOG2_ARRAY_BYTE_INDEX_SCALE", type := .int, accessFlags := 25, slot := 3, constantValue := 0 }, { name := "LOG2_ARRAY_CHAR_INDEX_SCALE", type := .int, accessFlags := 25, slot := 4, constantValue := 0 }, { name := "LOG2_ARRAY_SHORT_INDEX_SCALE", type := .int, accessFlags := 25, slot := 5, constantValue := 0 }, { name := "LOG2_ARRAY_INT_INDEX_SCALE", type := .int, accessFlags := 25, slot := 6, constantValue := 0 }, { name := "LOG2_ARRAY_LONG_INDEX_SCALE", type := .int, accessFlags := 25, slot := 7, constantValue := 0 }, { name := "LOG2_ARRAY_FLOAT_INDEX_SCALE", type := .int, accessFlags := 25, slot := 8, constantValue := 0 }, { name := "LOG2_ARRAY_DOUBLE_INDEX_SCALE", type := .int, accessFlags := 25, slot := 9, constantValue := 0 }, { name := "LOG2_BYTE_BIT_SIZE", type := .int, accessFlags := 26, slot := 10, constantValue := 0 }, { name := "T_BOOLEAN", type := .int, accessFlags := 25, slot := 11, constantValue := 0 }, { name := "T_CHAR", type := .int, accessFlags := 25, slot := 12, constantValue := 0 }, { name := "T_FLOAT", type := .int, accessFlags := 25, slot := 13, constantValue := 0 }, { name := "T_DOUBLE", type := .int, accessFlags := 25, slot := 14, constantValue := 0 }, { name := "T_BYTE", type := .int, accessFlags := 25, slot := 15, constantValue := 0 }, { name := "T_SHORT", type := .int, accessFlags := 25, slot := 16, constantValue := 0 }, { name := "T_INT", type := .int, accessFlags := 25, slot := 17, constantValue := 0 }, { name := "T_LONG", type := .int, accessFlags := 25, slot := 18, constantValue := 0 }, { name := "JLA", type := (.object "jdk/internal/access/JavaLangAccess"), accessFlags := 26, slot := 19, constantValue := 0 }, { name := "SOFT_MAX_ARRAY_LENGTH", type := .int, accessFlags := 25, slot := 20, constantValue := 0 }]
  methods := #[k12m0]
  instanceTypes := #[]
  staticTypes := #[(.object "jdk/internal/misc/Unsafe"), .boolean, .int, .int, .int, .int, .int, .int, .int, .int, .int, .int, .int, .int, .int, .int, .int, .int, .int, (.object "jdk/internal/access/JavaLangAccess"), .int]
  resolved := Array.replicate 378 none
  statics := none }

def pool13 : Array CpInfo := pool [(1, u "java/lang/Cloneable"), (0, .class_ 1), (0, u "java/lang/Object"), (0, .class_ 3)] 3

/-- java/lang/Cloneable -/
def k13 : Class := { plain "java/lang/Cloneable" (some 0) with
  accessFlags := 1537
  interfaces := #[]
  cf := some (fileOf pool13 2 #[] #[] 1537 4 #[] #[])
  fields := #[]
  methods := #[]
  instanceTypes := #[]
  staticTypes := #[]
  resolved := Array.replicate 8 none
  statics := none }

/-- the primitive byte -/
def k14 : Class := { plain "byte" none with kind := .primitive 'B', accessFlags := 0x411 }
/-- [B -/
def k15 : Class := { plain "[B" (some 0) with kind := .array 14 .byte, interfaces := #[13, 2], accessFlags := 1041 }

/-- the primitive char -/
def k16 : Class := { plain "char" none with kind := .primitive 'C', accessFlags := 0x411 }
/-- [C -/
def k17 : Class := { plain "[C" (some 0) with kind := .array 16 .char, interfaces := #[13, 2], accessFlags := 1041 }

/-- the primitive int -/
def k18 : Class := { plain "int" none with kind := .primitive 'I', accessFlags := 0x411 }
/-- [I -/
def k19 : Class := { plain "[I" (some 0) with kind := .array 18 .int, interfaces := #[13, 2], accessFlags := 1041 }

def heap : Heap := #[{ cls := 7, slots := #[.long 0, .int 1, .null, .int 0, .null, .int 0, .int 0], vm := .statics 7 },
  { cls := 9, slots := #[.int 0, .int 8, .int 0, .int 1], vm := .statics 9 },
  { cls := 11, slots := #[.null, .null, .null], vm := .statics 11 }]
def classes : Array Class := #[k0, k1, k2, k3, k4, k5, k6, k7, k8, k9, k10, k11, k12, k13, k14, k15, k16, k17, k18, k19]
def interned : List (Array UInt16 × Addr) := []
def slotsUsed : Nat := 14
def theMethod : MethodId := ⟨1, 3⟩
def args0 : Array Value := #[.int 5, .int 6, .int 7, .int 8, .int 9]
def aboutOver (below : List Frame) : State where
  vm := { classes := classes, interned := interned.toArray }
  heap := heap
  slotsUsed := slotsUsed
  threads := #[{ frames := .invoking theMethod args0 :: below }]
def below0 : List Frame := [.native { method := ⟨0, 0⟩, args := #[] }]
def about1 : State := aboutOver below0
def p0 : Program := .bare "" "" ""
def e0 : Env := launch0.env 0 0 0
theorem w_frames : about1.frames = Frame.invoking theMethod args0 :: below0 := rfl
set_option maxRecDepth 65536 in
theorem w_args : argsFit about1.vm theMethod args0 = true := by decide +kernel
set_option maxRecDepth 65536 in
theorem w_heap : heapFits about1 = true := by decide +kernel
set_option maxRecDepth 65536 in
theorem w_runnable : about1.curStatus? = some .runnable := by decide +kernel
set_option maxRecDepth 65536 in
theorem w_alone : about1.alone = true := by decide +kernel
set_option maxRecDepth 65536 in
theorem w_named : about1.methodNamed? x = some theMethod := by decide +kernel
set_option maxRecDepth 65536 in
theorem w_hears : about1.hears theMethod below0 = true := by decide +kernel
set_option maxRecDepth 65536 in
theorem w_ripe : about1.ripe theMethod args0 below0 = true := by decide +kernel
theorem w_running : about1.status = .running := rfl
set_option maxRecDepth 65536 in
theorem w_room : about1.hasRoom e0.platform room_1 = true :=
  launch0.hasRoom_least _ room_1 (by decide +kernel) (by decide +kernel) (by decide +kernel) (by decide +kernel) (by decide +kernel) (by decide +kernel)
theorem allAtoms_all (ts : List Jvm.Cond) (a : Array Jvm.Value) (st : Jvm.State) : (allAtoms ts).before a st = ts.all (fun c => c.before a st) := by
  induction ts with
  | nil => rfl
  | cons c t ih =>
    show (Jvm.Cond.and c (allAtoms t)).before a st = _
    rw [Jvm.Cond.before_and, ih, List.all_cons]
def words1 : List Jvm.Cond := Jvm.Cond.code x code maxLocals ret :: tables_1
/-- a 'code' word, met by the world's own term for the bytes: nothing is compared byte by byte -/
theorem code_word {y : MethodName} {bytes : ByteArray} {mx : Nat} {rt : Option FieldType} {a : Array Value} {s : State} {m : MethodId} {meth : Method} {c : Code} (h1 : s.methodNamed? y = some m) (h2 : s.vm.method? m = some meth) (h3 : meth.code = some c) (h4 : c.code = bytes)
    (h5 : (c.maxLocals == mx && c.exceptionTable.isEmpty && decide (c.maxStack ≤ mostOperands) && decide (meth.sig.returnType = rt) && !meth.locks && decide (parseMethodDescriptor y.desc = some meth.sig)) = true) : (Jvm.Cond.code y bytes mx rt).before a s = true := by
  simp only [Bool.and_eq_true, beq_iff_eq, Bool.not_eq_true', decide_eq_true_eq] at h5
  obtain ⟨⟨⟨⟨⟨g1, g2⟩, g3⟩, g4⟩, g5⟩, g6⟩ := h5
  simp [Cond.before, Cond.holds, Cond.value, h1, h2, h3, h4, g1, g2, g3, g4, g5, g6]
def isCode : Jvm.Cond → Bool
  | .code _ _ _ _ => true
  | _ => false
theorem all_split {L : List Jvm.Cond} {P : Jvm.Cond → Bool} (h1 : L.all (fun c => isCode c || P c) = true) (h2 : ∀ c ∈ L.filter isCode, P c = true) : L.all P = true := by
  refine List.all_eq_true.mpr fun c hc => ?_
  have h := List.all_eq_true.mp h1 c hc
  rcases Bool.eq_false_or_eq_true (isCode c) with hi | hi
  · exact h2 c (List.mem_filter.mpr ⟨hc, hi⟩)
  · simpa [hi] using h
set_option maxRecDepth 65536 in
theorem w_c0 : (Jvm.Cond.code x code maxLocals ret).before args0 about1 = true := code_word (m := ⟨1, 3⟩) (meth := k1m3) (c := k1c3) (by decide +kernel) rfl rfl rfl (by decide +kernel)
set_option maxRecDepth 65536 in
theorem w_c1 : (Jvm.Cond.code ({ cls := "com/example/malipo/malipo/core/intake/DecimalTextIsDigitsPinLaw", name := "pick", desc := "(I)C" } : Jvm.MethodName) method_2_code (1 : Nat) (Option.some Jvm.ClassFile.FieldType.char)).before args0 about1 = true := code_word (m := ⟨1, 1⟩) (meth := k1m1) (c := k1c1) (by decide +kernel) rfl rfl rfl (by decide +kernel)
set_option maxRecDepth 65536 in
theorem w_c2 : (Jvm.Cond.code ({ cls := "java/lang/String", name := "<init>", desc := "([C)V" } : Jvm.MethodName) jdk_42_method_3_code (2 : Nat) (Option.none : Option Jvm.ClassFile.FieldType)).before args0 about1 = true := code_word (m := ⟨7, 1⟩) (meth := k7m1) (c := k7c1) (by decide +kernel) rfl rfl rfl (by decide +kernel)
set_option maxRecDepth 65536 in
theorem w_c3 : (Jvm.Cond.code ({ cls := "java/lang/String", name := "<init>", desc := "([CIILjava/lang/Void;)V" } : Jvm.MethodName) jdk_42_method_149_code (6 : Nat) (Option.none : Option Jvm.ClassFile.FieldType)).before args0 about1 = true := code_word (m := ⟨7, 5⟩) (meth := k7m5) (c := k7c5) (by decide +kernel) rfl rfl rfl (by decide +kernel)
set_option maxRecDepth 65536 in
theorem w_c4 : (Jvm.Cond.code ({ cls := "java/lang/Object", name := "<init>", desc := "()V" } : Jvm.MethodName) object_method_1_code (1 : Nat) (Option.none : Option Jvm.ClassFile.FieldType)).before args0 about1 = true := code_word (m := ⟨0, 0⟩) (meth := k0m0) (c := k0c0) (by decide +kernel) rfl rfl rfl (by decide +kernel)
set_option maxRecDepth 65536 in
theorem w_c5 : (Jvm.Cond.code ({ cls := "com/example/malipo/malipo/core/intake/DecimalText", name := "isDigits", desc := "(Ljava/lang/String;)Z" } : Jvm.MethodName) prog_8_method_2_code (3 : Nat) (Option.some Jvm.ClassFile.FieldType.boolean)).before args0 about1 = true := code_word (m := ⟨8, 1⟩) (meth := k8m1) (c := k8c1) (by decide +kernel) rfl rfl rfl (by decide +kernel)
set_option maxRecDepth 65536 in
theorem w_c6 : (Jvm.Cond.code ({ cls := "java/lang/String", name := "isEmpty", desc := "()Z" } : Jvm.MethodName) jdk_42_method_55_code (1 : Nat) (Option.some Jvm.ClassFile.FieldType.boolean)).before args0 about1 = true := code_word (m := ⟨7, 3⟩) (meth := k7m3) (c := k7c3) (by decide +kernel) rfl rfl rfl (by decide +kernel)
set_option maxRecDepth 65536 in
theorem w_c7 : (Jvm.Cond.code ({ cls := "java/lang/StringUTF16", name := "compress", desc := "([CII)[B" } : Jvm.MethodName) jdk_52_method_16_code (6 : Nat) (Option.some (Jvm.ClassFile.FieldType.array Jvm.ClassFile.FieldType.byte))).before args0 about1 = true := code_word (m := ⟨9, 8⟩) (meth := k9m8) (c := k9c8) (by decide +kernel) rfl rfl rfl (by decide +kernel)
set_option maxRecDepth 65536 in
theorem w_c8 : (Jvm.Cond.code ({ cls := "java/lang/StringUTF16", name := "compress", desc := "([CI[BII)I" } : Jvm.MethodName) jdk_52_method_21_code (7 : Nat) (Option.some Jvm.ClassFile.FieldType.int)).before args0 about1 = true := code_word (m := ⟨9, 9⟩) (meth := k9m9) (c := k9c9) (by decide +kernel) rfl rfl rfl (by decide +kernel)
set_option maxRecDepth 65536 in
theorem w_c9 : (Jvm.Cond.code ({ cls := "java/lang/StringUTF16", name := "coderFromArrayLen", desc := "([BI)B" } : Jvm.MethodName) jdk_52_method_15_code (2 : Nat) (Option.some Jvm.ClassFile.FieldType.byte)).before args0 about1 = true := code_word (m := ⟨9, 7⟩) (meth := k9m7) (c := k9c7) (by decide +kernel) rfl rfl rfl (by decide +kernel)
set_option maxRecDepth 65536 in
theorem w_c10 : (Jvm.Cond.code ({ cls := "com/example/malipo/malipo/core/intake/DecimalTextIsDigitsPinLaw", name := "dig", desc := "(C)Z" } : Jvm.MethodName) method_3_code (1 : Nat) (Option.some Jvm.ClassFile.FieldType.boolean)).before args0 about1 = true := code_word (m := ⟨1, 2⟩) (meth := k1m2) (c := k1c2) (by decide +kernel) rfl rfl rfl (by decide +kernel)
set_option maxRecDepth 65536 in
theorem w_c11 : (Jvm.Cond.code ({ cls := "java/lang/String", name := "length", desc := "()I" } : Jvm.MethodName) jdk_42_method_54_code (1 : Nat) (Option.some Jvm.ClassFile.FieldType.int)).before args0 about1 = true := code_word (m := ⟨7, 2⟩) (meth := k7m2) (c := k7c2) (by decide +kernel) rfl rfl rfl (by decide +kernel)
set_option maxRecDepth 65536 in
theorem w_c12 : (Jvm.Cond.code ({ cls := "java/lang/String", name := "coder", desc := "()B" } : Jvm.MethodName) jdk_42_method_152_code (1 : Nat) (Option.some Jvm.ClassFile.FieldType.byte)).before args0 about1 = true := code_word (m := ⟨7, 6⟩) (meth := k7m6) (c := k7c6) (by decide +kernel) rfl rfl rfl (by decide +kernel)
set_option maxRecDepth 65536 in
theorem w_c13 : (Jvm.Cond.code ({ cls := "java/lang/String", name := "charAt", desc := "(I)C" } : Jvm.MethodName) jdk_42_method_56_code (2 : Nat) (Option.some Jvm.ClassFile.FieldType.char)).before args0 about1 = true := code_word (m := ⟨7, 4⟩) (meth := k7m4) (c := k7c4) (by decide +kernel) rfl rfl rfl (by decide +kernel)
set_option maxRecDepth 65536 in
theorem w_c14 : (Jvm.Cond.code ({ cls := "java/lang/String", name := "isLatin1", desc := "()Z" } : Jvm.MethodName) jdk_42_method_154_code (1 : Nat) (Option.some Jvm.ClassFile.FieldType.boolean)).before args0 about1 = true := code_word (m := ⟨7, 7⟩) (meth := k7m7) (c := k7c7) (by decide +kernel) rfl rfl rfl (by decide +kernel)
set_option maxRecDepth 65536 in
theorem w_c15 : (Jvm.Cond.code ({ cls := "java/lang/StringLatin1", name := "charAt", desc := "([BI)C" } : Jvm.MethodName) jdk_43_method_2_code (2 : Nat) (Option.some Jvm.ClassFile.FieldType.char)).before args0 about1 = true := code_word (m := ⟨10, 1⟩) (meth := k10m1) (c := k10c1) (by decide +kernel) rfl rfl rfl (by decide +kernel)
set_option maxRecDepth 65536 in
theorem w_c16 : (Jvm.Cond.code ({ cls := "java/lang/String", name := "checkIndex", desc := "(II)V" } : Jvm.MethodName) jdk_42_method_155_code (2 : Nat) (Option.none : Option Jvm.ClassFile.FieldType)).before args0 about1 = true := code_word (m := ⟨7, 8⟩) (meth := k7m8) (c := k7c8) (by decide +kernel) rfl rfl rfl (by decide +kernel)
set_option maxRecDepth 65536 in
theorem w_c17 : (Jvm.Cond.code ({ cls := "jdk/internal/util/Preconditions", name := "checkIndex", desc := "(IILjava/util/function/BiFunction;)I" } : Jvm.MethodName) jdk_41_method_11_code (3 : Nat) (Option.some Jvm.ClassFile.FieldType.int)).before args0 about1 = true := code_word (m := ⟨11, 1⟩) (meth := k11m1) (c := k11c1) (by decide +kernel) rfl rfl rfl (by decide +kernel)
set_option maxRecDepth 65536 in
theorem w_c18 : (Jvm.Cond.code ({ cls := "java/lang/StringUTF16", name := "toBytes", desc := "([CII)[B" } : Jvm.MethodName) jdk_52_method_14_code (5 : Nat) (Option.some (Jvm.ClassFile.FieldType.array Jvm.ClassFile.FieldType.byte))).before args0 about1 = true := code_word (m := ⟨9, 6⟩) (meth := k9m6) (c := k9c6) (by decide +kernel) rfl rfl rfl (by decide +kernel)
set_option maxRecDepth 65536 in
theorem w_c19 : (Jvm.Cond.code ({ cls := "java/lang/StringUTF16", name := "newBytesFor", desc := "(I)[B" } : Jvm.MethodName) jdk_52_method_2_code (1 : Nat) (Option.some (Jvm.ClassFile.FieldType.array Jvm.ClassFile.FieldType.byte))).before args0 about1 = true := code_word (m := ⟨9, 1⟩) (meth := k9m1) (c := k9c1) (by decide +kernel) rfl rfl rfl (by decide +kernel)
set_option maxRecDepth 65536 in
theorem w_c20 : (Jvm.Cond.code ({ cls := "java/lang/StringUTF16", name := "newBytesLength", desc := "(I)I" } : Jvm.MethodName) jdk_52_method_3_code (1 : Nat) (Option.some Jvm.ClassFile.FieldType.int)).before args0 about1 = true := code_word (m := ⟨9, 2⟩) (meth := k9m2) (c := k9c2) (by decide +kernel) rfl rfl rfl (by decide +kernel)
set_option maxRecDepth 65536 in
theorem w_c21 : (Jvm.Cond.code ({ cls := "java/lang/StringUTF16", name := "putChar", desc := "([BII)V" } : Jvm.MethodName) jdk_52_method_4_code (3 : Nat) (Option.none : Option Jvm.ClassFile.FieldType)).before args0 about1 = true := code_word (m := ⟨9, 3⟩) (meth := k9m3) (c := k9c3) (by decide +kernel) rfl rfl rfl (by decide +kernel)
set_option maxRecDepth 65536 in
theorem w_c22 : (Jvm.Cond.code ({ cls := "java/lang/StringUTF16", name := "getChar", desc := "([BI)C" } : Jvm.MethodName) jdk_52_method_5_code (2 : Nat) (Option.some Jvm.ClassFile.FieldType.char)).before args0 about1 = true := code_word (m := ⟨9, 4⟩) (meth := k9m4) (c := k9c4) (by decide +kernel) rfl rfl rfl (by decide +kernel)
set_option maxRecDepth 65536 in
theorem w_c23 : (Jvm.Cond.code ({ cls := "java/lang/StringUTF16", name := "charAt", desc := "([BI)C" } : Jvm.MethodName) jdk_52_method_83_code (2 : Nat) (Option.some Jvm.ClassFile.FieldType.char)).before args0 about1 = true := code_word (m := ⟨9, 10⟩) (meth := k9m10) (c := k9c10) (by decide +kernel) rfl rfl rfl (by decide +kernel)
set_option maxRecDepth 65536 in
theorem w_c24 : (Jvm.Cond.code ({ cls := "java/lang/StringUTF16", name := "checkIndex", desc := "(I[B)V" } : Jvm.MethodName) jdk_52_method_91_code (2 : Nat) (Option.none : Option Jvm.ClassFile.FieldType)).before args0 about1 = true := code_word (m := ⟨9, 11⟩) (meth := k9m11) (c := k9c11) (by decide +kernel) rfl rfl rfl (by decide +kernel)
set_option maxRecDepth 65536 in
theorem w_c25 : (Jvm.Cond.code ({ cls := "java/lang/StringUTF16", name := "length", desc := "([B)I" } : Jvm.MethodName) jdk_52_method_6_code (1 : Nat) (Option.some Jvm.ClassFile.FieldType.int)).before args0 about1 = true := code_word (m := ⟨9, 5⟩) (meth := k9m5) (c := k9c5) (by decide +kernel) rfl rfl rfl (by decide +kernel)
def codes1 : List Jvm.Cond := [Jvm.Cond.code x code maxLocals ret, Jvm.Cond.code ({ cls := "com/example/malipo/malipo/core/intake/DecimalTextIsDigitsPinLaw", name := "pick", desc := "(I)C" } : Jvm.MethodName) method_2_code (1 : Nat) (Option.some Jvm.ClassFile.FieldType.char), Jvm.Cond.code ({ cls := "java/lang/String", name := "<init>", desc := "([C)V" } : Jvm.MethodName) jdk_42_method_3_code (2 : Nat) (Option.none : Option Jvm.ClassFile.FieldType), Jvm.Cond.code ({ cls := "java/lang/String", name := "<init>", desc := "([CIILjava/lang/Void;)V" } : Jvm.MethodName) jdk_42_method_149_code (6 : Nat) (Option.none : Option Jvm.ClassFile.FieldType), Jvm.Cond.code ({ cls := "java/lang/Object", name := "<init>", desc := "()V" } : Jvm.MethodName) object_method_1_code (1 : Nat) (Option.none : Option Jvm.ClassFile.FieldType), Jvm.Cond.code ({ cls := "com/example/malipo/malipo/core/intake/DecimalText", name := "isDigits", desc := "(Ljava/lang/String;)Z" } : Jvm.MethodName) prog_8_method_2_code (3 : Nat) (Option.some Jvm.ClassFile.FieldType.boolean), Jvm.Cond.code ({ cls := "java/lang/String", name := "isEmpty", desc := "()Z" } : Jvm.MethodName) jdk_42_method_55_code (1 : Nat) (Option.some Jvm.ClassFile.FieldType.boolean), Jvm.Cond.code ({ cls := "java/lang/StringUTF16", name := "compress", desc := "([CII)[B" } : Jvm.MethodName) jdk_52_method_16_code (6 : Nat) (Option.some (Jvm.ClassFile.FieldType.array Jvm.ClassFile.FieldType.byte)), Jvm.Cond.code ({ cls := "java/lang/StringUTF16", name := "compress", desc := "([CI[BII)I" } : Jvm.MethodName) jdk_52_method_21_code (7 : Nat) (Option.some Jvm.ClassFile.FieldType.int), Jvm.Cond.code ({ cls := "java/lang/StringUTF16", name := "coderFromArrayLen", desc := "([BI)B" } : Jvm.MethodName) jdk_52_method_15_code (2 : Nat) (Option.some Jvm.ClassFile.FieldType.byte), Jvm.Cond.code ({ cls := "com/example/malipo/malipo/core/intake/DecimalTextIsDigitsPinLaw", name := "dig", desc := "(C)Z" } : Jvm.MethodName) method_3_code (1 : Nat) (Option.some Jvm.ClassFile.FieldType.boolean), Jvm.Cond.code ({ cls := "java/lang/String", name := "length", desc := "()I" } : Jvm.MethodName) jdk_42_method_54_code (1 : Nat) (Option.some Jvm.ClassFile.FieldType.int), Jvm.Cond.code ({ cls := "java/lang/String", name := "coder", desc := "()B" } : Jvm.MethodName) jdk_42_method_152_code (1 : Nat) (Option.some Jvm.ClassFile.FieldType.byte), Jvm.Cond.code ({ cls := "java/lang/String", name := "charAt", desc := "(I)C" } : Jvm.MethodName) jdk_42_method_56_code (2 : Nat) (Option.some Jvm.ClassFile.FieldType.char), Jvm.Cond.code ({ cls := "java/lang/String", name := "isLatin1", desc := "()Z" } : Jvm.MethodName) jdk_42_method_154_code (1 : Nat) (Option.some Jvm.ClassFile.FieldType.boolean), Jvm.Cond.code ({ cls := "java/lang/StringLatin1", name := "charAt", desc := "([BI)C" } : Jvm.MethodName) jdk_43_method_2_code (2 : Nat) (Option.some Jvm.ClassFile.FieldType.char), Jvm.Cond.code ({ cls := "java/lang/String", name := "checkIndex", desc := "(II)V" } : Jvm.MethodName) jdk_42_method_155_code (2 : Nat) (Option.none : Option Jvm.ClassFile.FieldType), Jvm.Cond.code ({ cls := "jdk/internal/util/Preconditions", name := "checkIndex", desc := "(IILjava/util/function/BiFunction;)I" } : Jvm.MethodName) jdk_41_method_11_code (3 : Nat) (Option.some Jvm.ClassFile.FieldType.int), Jvm.Cond.code ({ cls := "java/lang/StringUTF16", name := "toBytes", desc := "([CII)[B" } : Jvm.MethodName) jdk_52_method_14_code (5 : Nat) (Option.some (Jvm.ClassFile.FieldType.array Jvm.ClassFile.FieldType.byte)), Jvm.Cond.code ({ cls := "java/lang/StringUTF16", name := "newBytesFor", desc := "(I)[B" } : Jvm.MethodName) jdk_52_method_2_code (1 : Nat) (Option.some (Jvm.ClassFile.FieldType.array Jvm.ClassFile.FieldType.byte)), Jvm.Cond.code ({ cls := "java/lang/StringUTF16", name := "newBytesLength", desc := "(I)I" } : Jvm.MethodName) jdk_52_method_3_code (1 : Nat) (Option.some Jvm.ClassFile.FieldType.int), Jvm.Cond.code ({ cls := "java/lang/StringUTF16", name := "putChar", desc := "([BII)V" } : Jvm.MethodName) jdk_52_method_4_code (3 : Nat) (Option.none : Option Jvm.ClassFile.FieldType), Jvm.Cond.code ({ cls := "java/lang/StringUTF16", name := "getChar", desc := "([BI)C" } : Jvm.MethodName) jdk_52_method_5_code (2 : Nat) (Option.some Jvm.ClassFile.FieldType.char), Jvm.Cond.code ({ cls := "java/lang/StringUTF16", name := "charAt", desc := "([BI)C" } : Jvm.MethodName) jdk_52_method_83_code (2 : Nat) (Option.some Jvm.ClassFile.FieldType.char), Jvm.Cond.code ({ cls := "java/lang/StringUTF16", name := "checkIndex", desc := "(I[B)V" } : Jvm.MethodName) jdk_52_method_91_code (2 : Nat) (Option.none : Option Jvm.ClassFile.FieldType), Jvm.Cond.code ({ cls := "java/lang/StringUTF16", name := "length", desc := "([B)I" } : Jvm.MethodName) jdk_52_method_6_code (1 : Nat) (Option.some Jvm.ClassFile.FieldType.int)]
set_option maxRecDepth 65536 in
theorem codes_eq : words1.filter isCode = codes1 := rfl
theorem w_codes : ∀ c ∈ words1.filter isCode, c.before args0 about1 = true := by
  rw [codes_eq]
  intro c hc
  simp only [codes1, List.mem_cons, List.not_mem_nil, or_false] at hc
  rcases hc with rfl | rfl | rfl | rfl | rfl | rfl | rfl | rfl | rfl | rfl | rfl | rfl | rfl | rfl | rfl | rfl | rfl | rfl | rfl | rfl | rfl | rfl | rfl | rfl | rfl | rfl
  · exact w_c0
  · exact w_c1
  · exact w_c2
  · exact w_c3
  · exact w_c4
  · exact w_c5
  · exact w_c6
  · exact w_c7
  · exact w_c8
  · exact w_c9
  · exact w_c10
  · exact w_c11
  · exact w_c12
  · exact w_c13
  · exact w_c14
  · exact w_c15
  · exact w_c16
  · exact w_c17
  · exact w_c18
  · exact w_c19
  · exact w_c20
  · exact w_c21
  · exact w_c22
  · exact w_c23
  · exact w_c24
  · exact w_c25
set_option maxRecDepth 65536 in
theorem w_t1 : (words1.take 24).all (fun c => isCode c || c.before args0 about1) = true := by decide +kernel
set_option maxRecDepth 65536 in
theorem w_t2 : ((words1.drop 24).take 24).all (fun c => isCode c || c.before args0 about1) = true := by decide +kernel
set_option maxRecDepth 65536 in
theorem w_t3 : (((words1.drop 24).drop 24).take 24).all (fun c => isCode c || c.before args0 about1) = true := by decide +kernel
set_option maxRecDepth 65536 in
theorem w_t4 : ((((words1.drop 24).drop 24).drop 24).take 24).all (fun c => isCode c || c.before args0 about1) = true := by decide +kernel
set_option maxRecDepth 65536 in
theorem w_t5 : ((((words1.drop 24).drop 24).drop 24).drop 24).all (fun c => isCode c || c.before args0 about1) = true := by decide +kernel
theorem w_tables : (allAtoms (Jvm.Cond.code x code maxLocals ret :: tables_1)).before args0 about1 = true := by
  rw [allAtoms_all]
  show words1.all (fun c => c.before args0 about1) = true
  refine all_split ?_ w_codes
  rw [← List.take_append_drop 24 words1, List.all_append, w_t1, ← List.take_append_drop 24 (words1.drop 24), List.all_append, w_t2, ← List.take_append_drop 24 ((words1.drop 24).drop 24), List.all_append, w_t3, ← List.take_append_drop 24 (((words1.drop 24).drop 24).drop 24), List.all_append, w_t4, w_t5]
  rfl
set_option maxRecDepth 65536 in
theorem w_rest : rest_1_c.before args0 about1 = true := by decide +kernel
set_option maxRecDepth 65536 in
theorem w_case : (Jvm.Cond.and given_1 narrow_1).before args0 about1 = true := by decide +kernel
set_option maxRecDepth 65536 in
theorem w_consts : constsHeld consts_1 about1 := Jvm.Lit.constsHeldB_iff.mp (by decide +kernel)
theorem w_applies : (headSpec (Jvm.Cond.code x code maxLocals ret :: tables_1) room_1).applies x e0.platform about1 = true :=
  (Spec.applies_iff w_frames).mpr ⟨w_running, w_runnable, w_alone, w_named, w_hears, w_ripe, w_room, w_tables⟩
theorem atStart : AtStart classFile x code maxLocals ret World_1 tables_1 room_1 Calls_1 rest_1 Pre_1 launch0 p0 e0 about1 theMethod args0 below0 :=
  ⟨lists_1, trivial, launch0.admits_env _ _ _, launch0.least_env, fairChoices_fair.cas, fairChoices_fair.clock, w_frames, w_args, w_heap, w_applies, ⟨w_consts, trivial⟩, w_rest, w_case⟩
end start1
theorem witness_1 : WitnessClaimed_1 := ⟨start1.p0, start1.e0, start1.about1, start1.theMethod, start1.args0, start1.below0, start1.atStart⟩
end Jvm.Pilot.@@N@@
