import JvmDerived
import JvmDerived.Pilot.@@N@@Statement
import JvmDerived.Pilot.@@N@@Code
set_option linter.unusedVariables false
set_option linter.unusedSimpArgs false
namespace Jvm.RoadKit
open Sem ClassFile Op Lib Jvm.Stand Jvm.Free Jvm.LawKit
section New
variable {p : Program} {l : Launch} {e : Env} {R : Room} {s : State} {m : MethodId} {args : Array Value} {below : List Frame} {meth : Method} {c : Code} {T : State} {locs : List Loc} {cells slots : Nat}
theorem retI (X : Stand p l e R s m args below meth c T locs cells slots) (hx : p.tables.exec = Jvm.exec) {pc : Nat} {Ls : Array Slot} {z : Int32} {rest : List Value} (hret : meth.sig.returnType = some .int) (hd : decode c.code pc = .ok (.ireturn, 1)) {fs : List Frame}
    (hl : ∀ (f : JFrame) (acts : List Action), f.method = m → f.locked = none → f.entered = [] → (doReturn e (T.setTop f) acts (some (.int z))).1 = T.setFrames fs) : Steps p.tables e below (T.setTop (mkF m pc Ls (.int z :: rest))) (T.setFrames fs) := by
  have hm' : T.vm.method? m = some meth := X.method'
  have hn : narrow .int (.int z) = .int z := rfl
  show Steps p.tables e below (T.setTop { method := m, pc := pc, locals := Ls, stack := _ :: rest, locked := none }) _
  jvm_step X.here [X.here.top, hx, hd, hm', hret, hn]
  first | (intro acts; rw [hl _ acts rfl rfl rfl]) | rw [hl _ _ rfl rfl rfl]
  exact Steps.refl _
end New
end Jvm.RoadKit
/- laws to paste: Road.backV, Road.eqW, Road.lenW, Road.chN, codOf (cut by pick.py; bodies as the Statement names them) -/
namespace Jvm.Pilot.@@N@@
namespace StrChars
open Jvm Sem ClassFile Op Lib Jvm.Stand Jvm.Free.XT Jvm.Free.ALB Jvm.Free.JM Jvm.Free
open Jvm.Lib.Cold (StaticIs)
/-- a char array whose places are chars -/
def Ch (a : Addr) (A : Cell) (U : State) : Prop := Arr .char a A U ∧ Typed .char A
theorem Ch.mv {a : Addr} {A : Cell} {U U' : State} (h : Ch a A U) (hal : U.vm.Alike U'.vm) (hh : U'.heap = U.heap) : Ch a A U' := ⟨h.1.mv hal hh, h.2⟩
theorem Ch.keep {a : Addr} {A : Cell} {U U' : State} (h : Ch a A U) (hal : U.vm.Alike U'.vm) (hk : U'.heap[a]? = some A) : Ch a A U' := ⟨h.1.keep hal hk, h.2⟩
/-- what place i of a char[]'s cell holds -/
def cv (A : Cell) (i : Nat) : Int32 := match A.slots[i]? with | some (.int x) => x | _ => 0
theorem Ch.get {a : Addr} {A : Cell} {U : State} (h : Ch a A U) {i : Nat} (hi : i < A.slots.size) : A.slots[i]? = some (.int (cv A i)) := by
  have e := Array.getElem?_eq_getElem hi
  have f := h.2 i _ e
  unfold cv; rw [e]
  generalize A.slots[i] = v at f
  cases v <;> simp [fits] at f ⊢
/-- the byte that i2b leaves of a char -/
def lo8 (x : Int32) : Int32 := x.toInt8.toInt32
theorem fits_lo8 (y : Int32) : fits .byte (.int (lo8 y)) = true := by
  have h1 := y.toInt8.le_toInt
  have h2 := y.toInt8.toInt_lt
  simp only [lo8, fits, Bool.and_eq_true, decide_eq_true_eq, Int32.le_iff_toInt_le, Int8.toInt_toInt32, show (-128 : Int32).toInt = -128 from by decide, show (127 : Int32).toInt = 127 from by decide]
  omega
/-- A' is A but that each place j of lo .. hi - 1 holds f j -/
def Laid (A A' : Cell) (lo hi : Nat) (f : Nat → Value) : Prop := A'.cls = A.cls ∧ A'.vm = A.vm ∧ A'.slots.size = A.slots.size ∧ ∀ i, A'.slots[i]? = if lo ≤ i ∧ i < hi then some (f i) else A.slots[i]?
theorem Laid.zero (A : Cell) (lo : Nat) (f : Nat → Value) : Laid A A lo (lo + 0) f := ⟨rfl, rfl, rfl, fun i => by rw [if_neg (by omega)]⟩
theorem Laid.step {A Ak : Cell} {lo k : Nat} {f : Nat → Value} {v : Value} (h : Laid A Ak lo k f) (hlo : lo ≤ k) (hk : k < Ak.slots.size) (hv : v = f k) : Laid A (Ak.setSlot k v) lo (k + 1) f := by
  refine ⟨h.1, h.2.1, by simpa [Cell.setSlot] using h.2.2.1, fun i => ?_⟩
  by_cases e : k = i
  · subst e; rw [Cell.slots_setSlot_self v hk, if_pos (by omega), hv]
  · rw [Cell.slots_setSlot_ne v e, h.2.2.2 i]
    by_cases q : lo ≤ i ∧ i < k
    · rw [if_pos q, if_pos (by omega)]
    · rw [if_neg q, if_neg (by omega)]
def U16 : String := "java/lang/StringUTF16"
namespace Cmp5
def yN : MethodName := ⟨"java/lang/StringUTF16", "compress", "([CI[BII)I"⟩
abbrev yB : ByteArray := jdk_52_method_21_code
theorem d0 : decode yB 0 = .ok (.iconst 0, 1) := by decide +kernel
theorem d1 : decode yB 1 = .ok (.istore 5, 2) := by decide +kernel
theorem d3 : decode yB 3 = .ok (.iload 5, 2) := by decide +kernel
theorem d5 : decode yB 5 = .ok (.iload 4, 2) := by decide +kernel
theorem d7 : decode yB 7 = .ok (.if_icmp (.ge) 37, 3) := by decide +kernel
theorem d10 : decode yB 10 = .ok (.aload_n 0, 1) := by decide +kernel
theorem d11 : decode yB 11 = .ok (.iload_n 1, 1) := by decide +kernel
theorem d12 : decode yB 12 = .ok (.caload, 1) := by decide +kernel
theorem d13 : decode yB 13 = .ok (.istore 6, 2) := by decide +kernel
theorem d15 : decode yB 15 = .ok (.iload 6, 2) := by decide +kernel
theorem d17 : decode yB 17 = .ok (.sipush 255, 3) := by decide +kernel
theorem d20 : decode yB 20 = .ok (.if_icmp (.le) 6, 3) := by decide +kernel
theorem d26 : decode yB 26 = .ok (.aload_n 2, 1) := by decide +kernel
theorem d27 : decode yB 27 = .ok (.iload_n 3, 1) := by decide +kernel
theorem d28 : decode yB 28 = .ok (.iload 6, 2) := by decide +kernel
theorem d30 : decode yB 30 = .ok (.i2b, 1) := by decide +kernel
theorem d31 : decode yB 31 = .ok (.bastore, 1) := by decide +kernel
theorem d32 : decode yB 32 = .ok (.iinc 1 1, 3) := by decide +kernel
theorem d35 : decode yB 35 = .ok (.iinc 3 1, 3) := by decide +kernel
theorem d38 : decode yB 38 = .ok (.iinc 5 1, 3) := by decide +kernel
theorem d41 : decode yB 41 = .ok (.goto (-38), 3) := by decide +kernel
theorem d44 : decode yB 44 = .ok (.iload 4, 2) := by decide +kernel
theorem d46 : decode yB 46 = .ok (.ireturn, 1) := by decide +kernel
def site : List Cond := []
def tab : Cond := tabOf yN yB 7 (some .int) site
def P (b : Addr) (A : Cell) (d : Addr) (B : Cell) (o q len : Nat) (args : Array Value) (s : State) : Prop := args = #[.ref b, .int (Int32.ofNat o), .ref d, .int (Int32.ofNat q), .int (Int32.ofNat len)] ∧ Ch b A s ∧ Arr .byte d B s ∧ b ≠ d ∧ o + len ≤ A.slots.size ∧ q + len ≤ B.slots.size ∧ ∀ i, i < len → ¬ 255 < cv A (o + i)
def E (b : Addr) (A : Cell) (d : Addr) (B : Cell) (o q len : Nat) (r : Option Value) (s u : State) : Prop := r = some (.int (Int32.ofNat len)) ∧ ∃ B', Put d B' s u ∧ Laid B B' q (q + len) (fun j => Value.int (lo8 (cv A (o + (j - q)))))
/-- no char of the range above 255: len; the places written hold each char's low byte -/
theorem law (l : Launch) (b : Addr) (A : Cell) (d : Addr) (B : Cell) (o q len : Nat) : Law l yN 5 5 0 0 yB 7 (some .int) site (P b A d B o q len) (E b A d B o q len) (copyLocs d q len) 0 0 := by
  refine Law.of_walk (plainFor_of_name (by decide +kernel)) (by decide +kernel) (by decide +kernel) (by decide) (fun _ _ h => by rw [h.1]; rfl) (fun _ U U' hal hh h => ⟨h.1, h.2.1.mv hal hh, h.2.2.1.mv hal hh, h.2.2.2⟩) (fun r U U' V V' h1 hal h2 h => ⟨h.1, h.2.elim fun B' q => ⟨B', q.1.mv h1 h2, q.2⟩⟩) ?_
  intro p e s m args below meth c s₁ X0 hexec hbytes hml hret hlk hnm hown hh0 W hP
  obtain ⟨rfl, hA, hB, hne, l1, l2, hp⟩ := hP
  have c1 : Steps p.tables e below (s₁.setTop (entryFrame m #[.ref b, .int (Int32.ofNat o), .ref d, .int (Int32.ofNat q), .int (Int32.ofNat len)] 7)) (s₁.setTop (mkF m 0 #[.val (.ref b), .val (.int (Int32.ofNat o)), .val (.ref d), .val (.int (Int32.ofNat q)), .val (.int (Int32.ofNat len)), .unset, .unset] [])) := entry rfl
  have hA0 := hA.1.mv X0.warmed.alike hh0
  have hB0 := hB.mv X0.warmed.alike hh0
  have a31 := hA.1.2.2.2
  have c2 : Steps p.tables e below (s₁.setTop (entryFrame m #[.ref b, .int (Int32.ofNat o), .ref d, .int (Int32.ofNat q), .int (Int32.ofNat len)] 7)) (s₁.setTop (mkF m 3 #[.val (.ref b), .val (.int (Int32.ofNat o)), .val (.ref d), .val (.int (Int32.ofNat q)), .val (.int (Int32.ofNat len)), .val (.int 0), .unset] [])) := c1.trans (by
    refine iconstV X0.here hexec rfl 0 (hb hbytes d0) (by decide) ?_
    refine XS.istore X0.here hexec rfl (hb hbytes d1) rfl rfl ?_
    exact Steps.refl _)
  have loop : ∀ (r i : Nat), i + r = len → ∀ (z : Slot), (z = .unset ∨ ∃ w, z = .val w ∧ w.category = 1) → ∀ (Tl : State) (Bk : Cell), Stand p l e { frames := 0, locals := 0, cells := 0, slots := 0 } s m #[.ref b, .int (Int32.ofNat o), .ref d, .int (Int32.ofNat q), .int (Int32.ofNat len)] below meth c Tl ([] ++ copyLocs d q i) 0 0 → Put d Bk s₁ Tl → Laid B Bk q (q + i) (fun j => Value.int (lo8 (cv A (o + (j - q))))) →
      Steps p.tables e below (s₁.setTop (entryFrame m #[.ref b, .int (Int32.ofNat o), .ref d, .int (Int32.ofNat q), .int (Int32.ofNat len)] 7)) (Tl.setTop (mkF m 3 #[.val (.ref b), .val (.int (Int32.ofNat (o + i))), .val (.ref d), .val (.int (Int32.ofNat (q + i))), .val (.int (Int32.ofNat len)), .val (.int (Int32.ofNat i)), z] [])) → ∃ (T' : State) (B' : Cell) (z' : Slot), Stand p l e { frames := 0, locals := 0, cells := 0, slots := 0 } s m #[.ref b, .int (Int32.ofNat o), .ref d, .int (Int32.ofNat q), .int (Int32.ofNat len)] below meth c T' ([] ++ copyLocs d q len) 0 0 ∧ Put d B' s₁ T' ∧ Laid B B' q (q + len) (fun j => Value.int (lo8 (cv A (o + (j - q))))) ∧
      Steps p.tables e below (s₁.setTop (entryFrame m #[.ref b, .int (Int32.ofNat o), .ref d, .int (Int32.ofNat q), .int (Int32.ofNat len)] 7)) (T'.setTop (mkF m 3 #[.val (.ref b), .val (.int (Int32.ofNat (o + len))), .val (.ref d), .val (.int (Int32.ofNat (q + len))), .val (.int (Int32.ofNat len)), .val (.int (Int32.ofNat len)), z'] [])) := by
    intro r
    induction r with
    | zero =>
      intro i hi z hz Tl Bk Xl pl fl cl
      have hil : i = len := by omega
      rw [hil] at Xl fl cl
      exact ⟨Tl, Bk, z, Xl, pl, fl, cl⟩
    | succ r ih =>
      intro i hi z hz Tl Bk Xl pl fl cl
      have all := X0.warmed.alike.symm.trans Xl.warmed.alike
      have hAl := hA0.keep all (pl.other hne hA0.1)
      have hBk := hB0.like all pl.1 fl.1 fl.2.1 fl.2.2.1
      have hlt : q + i < Bk.slots.size := by rw [fl.2.2.1]; omega
      have c3 : Steps p.tables e below (s₁.setTop (entryFrame m #[.ref b, .int (Int32.ofNat o), .ref d, .int (Int32.ofNat q), .int (Int32.ofNat len)] 7)) (Tl.setTop (mkF m 12 #[.val (.ref b), .val (.int (Int32.ofNat (o + i))), .val (.ref d), .val (.int (Int32.ofNat (q + i))), .val (.int (Int32.ofNat len)), .val (.int (Int32.ofNat i)), z] [.int (Int32.ofNat (o + i)), .ref b])) := cl.trans (by
        refine XS.iload Xl.here hexec rfl (hb hbytes d3) rfl ?_
        refine XS.iload Xl.here hexec rfl (hb hbytes d5) rfl ?_
        refine XS.icmpNo Xl.here hexec rfl (hb hbytes d7) rfl (ii_ge_f (lt32 (by omega) (by omega))) ?_
        refine XS.aloadN Xl.here hexec rfl (hb hbytes d10) rfl rfl ?_
        refine XS.iloadN Xl.here hexec rfl (hb hbytes d11) rfl ?_
        exact Steps.refl _)
      have c4 : Steps p.tables e below (s₁.setTop (entryFrame m #[.ref b, .int (Int32.ofNat o), .ref d, .int (Int32.ofNat q), .int (Int32.ofNat len)] 7)) (Tl.setTop (mkF m 13 #[.val (.ref b), .val (.int (Int32.ofNat (o + i))), .val (.ref d), .val (.int (Int32.ofNat (q + i))), .val (.int (Int32.ofNat len)), .val (.int (Int32.ofNat i)), z] [.int (cv A (o + i))])) := c3.trans (by
        refine Xl.aget hexec hAl rfl (hA.get (i := o + i) (by omega)) rfl rfl (hb hbytes d12) ?_
        exact Steps.refl _)
      have c5 : Steps p.tables e below (s₁.setTop (entryFrame m #[.ref b, .int (Int32.ofNat o), .ref d, .int (Int32.ofNat q), .int (Int32.ofNat len)] 7)) (Tl.setTop (mkF m 15 #[.val (.ref b), .val (.int (Int32.ofNat (o + i))), .val (.ref d), .val (.int (Int32.ofNat (q + i))), .val (.int (Int32.ofNat len)), .val (.int (Int32.ofNat i)), .val (.int (cv A (o + i)))] [])) := c4.trans (by
        refine XS.istoreS Xl.here hexec rfl (hb hbytes d13) rfl rfl hz ?_
        exact Steps.refl _)
      have c6 : Steps p.tables e below (s₁.setTop (entryFrame m #[.ref b, .int (Int32.ofNat o), .ref d, .int (Int32.ofNat q), .int (Int32.ofNat len)] 7)) (Tl.setTop (mkF m 31 #[.val (.ref b), .val (.int (Int32.ofNat (o + i))), .val (.ref d), .val (.int (Int32.ofNat (q + i))), .val (.int (Int32.ofNat len)), .val (.int (Int32.ofNat i)), .val (.int (cv A (o + i)))] [.int (lo8 (cv A (o + i))), .int (Int32.ofNat (q + i)), .ref d])) := c5.trans (by
        refine XS.iload Xl.here hexec rfl (hb hbytes d15) rfl ?_
        refine sipushV Xl.here hexec rfl 255 (hb hbytes d17) (by decide) ?_
        refine XS.icmpYes Xl.here hexec rfl (pc0 := 20) rfl (hb hbytes d20) rfl (ii_le_t (hp i (by omega))) (by decide) rfl ?_
        refine XS.aloadN Xl.here hexec rfl (hb hbytes d26) rfl rfl ?_
        refine XS.iloadN Xl.here hexec rfl (hb hbytes d27) rfl ?_
        refine XS.iload Xl.here hexec rfl (hb hbytes d28) rfl ?_
        refine i2b Xl.here hexec rfl (hb hbytes d30) rfl ?_
        exact Steps.refl _)
      obtain ⟨T7, X7, p7, st7⟩ := Xl.aput hexec hBk rfl hlt rfl (fits_lo8 (cv A (o + i))) (g := (mkF m 31 #[.val (.ref b), .val (.int (Int32.ofNat (o + i))), .val (.ref d), .val (.int (Int32.ofNat (q + i))), .val (.int (Int32.ofNat len)), .val (.int (Int32.ofNat i)), .val (.int (cv A (o + i)))] [.int (lo8 (cv A (o + i))), .int (Int32.ofNat (q + i)), .ref d])) rfl (rest := []) rfl (hb hbytes d31)
      have c8 : Steps p.tables e below (s₁.setTop (entryFrame m #[.ref b, .int (Int32.ofNat o), .ref d, .int (Int32.ofNat q), .int (Int32.ofNat len)] 7)) (T7.setTop (mkF m 32 #[.val (.ref b), .val (.int (Int32.ofNat (o + i))), .val (.ref d), .val (.int (Int32.ofNat (q + i))), .val (.int (Int32.ofNat len)), .val (.int (Int32.ofNat i)), .val (.int (cv A (o + i)))] [])) := c6.trans (st7 _ (Steps.refl _))
      have c9 : Steps p.tables e below (s₁.setTop (entryFrame m #[.ref b, .int (Int32.ofNat o), .ref d, .int (Int32.ofNat q), .int (Int32.ofNat len)] 7)) (T7.setTop (mkF m 3 #[.val (.ref b), .val (.int (Int32.ofNat (o + i) + 1)), .val (.ref d), .val (.int (Int32.ofNat (q + i) + 1)), .val (.int (Int32.ofNat len)), .val (.int (Int32.ofNat i + 1)), .val (.int (cv A (o + i)))] [])) := c8.trans (by
        refine iincV X7.here hexec rfl 1 (hb hbytes d32) (by decide) rfl rfl ?_
        refine iincV X7.here hexec rfl 1 (hb hbytes d35) (by decide) rfl rfl ?_
        refine iincV X7.here hexec rfl 1 (hb hbytes d38) (by decide) rfl rfl ?_
        refine XS.goto X7.here hexec rfl (pc0 := 41) rfl (hb hbytes d41) (by decide) rfl ?_
        exact Steps.refl _)
      have c10 : Steps p.tables e below (s₁.setTop (entryFrame m #[.ref b, .int (Int32.ofNat o), .ref d, .int (Int32.ofNat q), .int (Int32.ofNat len)] 7)) (T7.setTop (mkF m 3 #[.val (.ref b), .val (.int (Int32.ofNat (o + (i + 1)))), .val (.ref d), .val (.int (Int32.ofNat (q + (i + 1)))), .val (.int (Int32.ofNat len)), .val (.int (Int32.ofNat (i + 1))), .val (.int (cv A (o + i)))] [])) := by
        have := c9
        rw [succ32, succ32, succ32] at this
        exact this
      exact ih (i + 1) (by omega) _ (Or.inr ⟨_, rfl, rfl⟩) T7 _ (by rw [copyLocs_step, ← List.append_assoc]; exact X7) (pl.trans p7) (fl.step (by omega) hlt (by simp)) c10
  obtain ⟨T9, B9, z9, X9, p9, f9, g9⟩ := loop len 0 (by omega) .unset (Or.inl rfl) s₁ B (by simpa [copyLocs] using X0) ⟨hB0.1, fun _ _ => rfl, rfl⟩ (Laid.zero _ _ _) c2
  have c11 : Steps p.tables e below (s₁.setTop (entryFrame m #[.ref b, .int (Int32.ofNat o), .ref d, .int (Int32.ofNat q), .int (Int32.ofNat len)] 7)) (T9.setTop (mkF m 46 #[.val (.ref b), .val (.int (Int32.ofNat (o + len))), .val (.ref d), .val (.int (Int32.ofNat (q + len))), .val (.int (Int32.ofNat len)), .val (.int (Int32.ofNat len)), z9] [.int (Int32.ofNat len)])) := g9.trans (by
    refine XS.iload X9.here hexec rfl (hb hbytes d3) rfl ?_
    refine XS.iload X9.here hexec rfl (hb hbytes d5) rfl ?_
    refine XS.icmpYes X9.here hexec rfl (pc0 := 7) rfl (hb hbytes d7) rfl (ii_ge_t (nlt32 (by omega) (Nat.le_refl _))) (by decide) rfl ?_
    refine XS.iload X9.here hexec rfl (hb hbytes d44) rfl ?_
    exact Steps.refl _)
  exact ⟨T9, some (.int (Int32.ofNat len)), _, _, _, X9, by simp, rfl, rfl, (fun h => by cases h), ⟨rfl, B9, p9.from hh0, f9⟩, fun fs hl => c11.trans (X9.ireturnOut hexec hret rfl (Or.inl rfl) (hb hbytes d46) hl)⟩
end Cmp5
namespace Cmp3
def yN : MethodName := ⟨"java/lang/StringUTF16", "compress", "([CII)[B"⟩
abbrev yB : ByteArray := jdk_52_method_16_code
theorem d0 : decode yB 0 = .ok (.iload_n 2, 1) := by decide +kernel
theorem d1 : decode yB 1 = .ok (.newarray .byte, 2) := by decide +kernel
theorem d3 : decode yB 3 = .ok (.astore_n 3, 1) := by decide +kernel
theorem d4 : decode yB 4 = .ok (.aload_n 0, 1) := by decide +kernel
theorem d5 : decode yB 5 = .ok (.iload_n 1, 1) := by decide +kernel
theorem d6 : decode yB 6 = .ok (.aload_n 3, 1) := by decide +kernel
theorem d7 : decode yB 7 = .ok (.iconst 0, 1) := by decide +kernel
theorem d8 : decode yB 8 = .ok (.iload_n 2, 1) := by decide +kernel
theorem d9 : decode yB 9 = .ok (.invokestatic 115, 3) := by decide +kernel
theorem d12 : decode yB 12 = .ok (.istore 4, 2) := by decide +kernel
theorem d14 : decode yB 14 = .ok (.iload 4, 2) := by decide +kernel
theorem d16 : decode yB 16 = .ok (.iload_n 2, 1) := by decide +kernel
theorem d17 : decode yB 17 = .ok (.if_icmp (.eq) 40, 3) := by decide +kernel
theorem d57 : decode yB 57 = .ok (.aload_n 3, 1) := by decide +kernel
theorem d58 : decode yB 58 = .ok (.areturn, 1) := by decide +kernel
def site : List Cond := [.arrayClass .byte, Cmp5.tab] ++ staticW U16 115 Cmp5.yN
def tab : Cond := tabOf yN yB 6 (some (.array .byte)) site
def P (b : Addr) (A : Cell) (o len : Nat) (args : Array Value) (s : State) : Prop := args = #[.ref b, .int (Int32.ofNat o), .int (Int32.ofNat len)] ∧ Ch b A s ∧ o + len ≤ A.slots.size ∧ len ≤ 536870912 ∧ ∀ i, i < len → ¬ 255 < cv A (o + i)
def E (b : Addr) (A : Cell) (o len : Nat) (r : Option Value) (s u : State) : Prop := NewArr .byte "[B" len (fun j => .int (lo8 (cv A (o + j)))) r s u ∧ u.heap.size = s.heap.size + 1
/-- no char of the range above 255: a new byte[] of their low bytes -/
theorem law (l : Launch) (b : Addr) (A : Cell) (o len : Nat) : Law l yN 3 3 1 18 yB 6 (some (.array .byte)) site (P b A o len) (E b A o len) [] 1 len := by
  refine Law.of_walk (plainFor_of_name (by decide +kernel)) (by decide +kernel) (by decide +kernel) (by decide) (fun _ _ h => by rw [h.1]; rfl) (fun _ U U' hal hh h => ⟨h.1, h.2.1.mv hal hh, h.2.2⟩) (fun r U U' V V' h1 hal h2 h => ⟨NewArr.mv r U U' V V' h1 hal h2 h.1, by rw [h1, h2]; exact h.2⟩) ?_
  intro p e s m args below meth c s₁ X0 hexec hbytes hml hret hlk hnm hown hh0 W hP
  obtain ⟨rfl, hA, l1, l2, hp⟩ := hP
  have a31 := hA.1.2.2.2
  have c1 : Steps p.tables e below (s₁.setTop (entryFrame m #[.ref b, .int (Int32.ofNat o), .int (Int32.ofNat len)] 6)) (s₁.setTop (mkF m 0 #[.val (.ref b), .val (.int (Int32.ofNat o)), .val (.int (Int32.ofNat len)), .unset, .unset, .unset] [])) := entry rfl
  have c2 : Steps p.tables e below (s₁.setTop (entryFrame m #[.ref b, .int (Int32.ofNat o), .int (Int32.ofNat len)] 6)) (s₁.setTop (mkF m 1 #[.val (.ref b), .val (.int (Int32.ofNat o)), .val (.int (Int32.ofNat len)), .unset, .unset, .unset] [.int (Int32.ofNat len)])) := c1.trans (by
    refine XS.iloadN X0.here hexec rfl (hb hbytes d0) rfl ?_
    exact Steps.refl _)
  obtain ⟨T3, B3, X3, ba3, bs3, bv3, bh3, bf3, st3⟩ := X0.anew hexec (atype := .byte) (wk W (.arrayClass .byte)) rfl (by show len * 1 ≤ _; omega) (by omega) (g := (mkF m 1 #[.val (.ref b), .val (.int (Int32.ofNat o)), .val (.int (Int32.ofNat len)), .unset, .unset, .unset] [.int (Int32.ofNat len)])) rfl (hb hbytes d1) (rest := []) rfl (Nat.le_refl _) (by show 0 + len ≤ len; omega)
  rw [hh0] at ba3 st3
  have kp3 : XT.Kept s T3 := (XT.Kept.of_eq hh0).push bh3
  have hA3 := hA.keep X3.warmed.alike (kp3 _ _ hA.1.1)
  have hne : b ≠ s.heap.size := hA.1.ne
  have c4 : Steps p.tables e below (s₁.setTop (entryFrame m #[.ref b, .int (Int32.ofNat o), .int (Int32.ofNat len)] 6)) (T3.setTop (mkF m 3 #[.val (.ref b), .val (.int (Int32.ofNat o)), .val (.int (Int32.ofNat len)), .unset, .unset, .unset] [.ref s.heap.size])) := c2.trans (st3 _ (Steps.refl _))
  have c5 : Steps p.tables e below (s₁.setTop (entryFrame m #[.ref b, .int (Int32.ofNat o), .int (Int32.ofNat len)] 6)) (T3.setTop (mkF m 9 #[.val (.ref b), .val (.int (Int32.ofNat o)), .val (.int (Int32.ofNat len)), .val (.ref s.heap.size), .unset, .unset] [.int (Int32.ofNat len), .int 0, .ref s.heap.size, .int (Int32.ofNat o), .ref b])) := c4.trans (by
    refine XS.astoreN X3.here hexec rfl (hb hbytes d3) rfl rfl rfl ?_
    refine XS.aloadN X3.here hexec rfl (hb hbytes d4) rfl rfl ?_
    refine XS.iloadN X3.here hexec rfl (hb hbytes d5) rfl ?_
    refine XS.aloadN X3.here hexec rfl (hb hbytes d6) rfl rfl ?_
    refine iconstV X3.here hexec rfl 0 (hb hbytes d7) (by decide) ?_
    refine XS.iloadN X3.here hexec rfl (hb hbytes d8) rfl ?_
    exact Steps.refl _)
  obtain ⟨v6, T6, X6, E6, g6⟩ := X3.callS hexec (Cmp5.law l b A s.heap.size B3 o 0 len) hown (wks W (staticW U16 115 Cmp5.yN)) (wk W Cmp5.tab) (W := 0) (Nat.le_of_ble_eq_true rfl) (Nat.le_of_ble_eq_true rfl) (Nat.le_refl _) (by show 0 + len + 0 ≤ len; omega) (g := (mkF m 9 #[.val (.ref b), .val (.int (Int32.ofNat o)), .val (.int (Int32.ofNat len)), .val (.ref s.heap.size), .unset, .unset] [.int (Int32.ofNat len), .int (Int32.ofNat 0), .ref s.heap.size, .int (Int32.ofNat o), .ref b])) rfl (by rw [hml]; rfl) c5 (argsL := [.ref b, .int (Int32.ofNat o), .ref s.heap.size, .int (Int32.ofNat 0), .int (Int32.ofNat len)]) (rest := []) rfl rfl (by show 2 * 0 + 0 ≤ _; decide) (hb hbytes d9) (⟨rfl, hA3, ba3, hne, l1, by rw [bs3]; simp, hp⟩)
  obtain ⟨rfl, B6, p6, f6⟩ := E6
  have c7 : Steps p.tables e below (s₁.setTop (entryFrame m #[.ref b, .int (Int32.ofNat o), .int (Int32.ofNat len)] 6)) (T6.setTop (mkF m 12 #[.val (.ref b), .val (.int (Int32.ofNat o)), .val (.int (Int32.ofNat len)), .val (.ref s.heap.size), .unset, .unset] [.int (Int32.ofNat len)])) := g6
  have c8 : Steps p.tables e below (s₁.setTop (entryFrame m #[.ref b, .int (Int32.ofNat o), .int (Int32.ofNat len)] 6)) (T6.setTop (mkF m 58 #[.val (.ref b), .val (.int (Int32.ofNat o)), .val (.int (Int32.ofNat len)), .val (.ref s.heap.size), .val (.int (Int32.ofNat len)), .unset] [.ref s.heap.size])) := c7.trans (by
    refine XS.istore X6.here hexec rfl (hb hbytes d12) rfl rfl ?_
    refine XS.iload X6.here hexec rfl (hb hbytes d14) rfl ?_
    refine XS.iloadN X6.here hexec rfl (hb hbytes d16) rfl ?_
    refine XS.icmpYes X6.here hexec rfl (pc0 := 17) rfl (hb hbytes d17) rfl (ii_eq_t rfl) (by decide) rfl ?_
    refine XS.aloadN X6.here hexec rfl (hb hbytes d57) rfl rfl ?_
    exact Steps.refl _)
  have X8 := X6.wide (L' := []) (cells' := 1) (slots' := len) (fun x hx hlt => by
    simp only [List.nil_append, copyLocs, List.mem_map, List.mem_range] at hx
    obtain ⟨i, -, rfl⟩ := hx
    exact absurd hlt (Nat.lt_irrefl _)) (Nat.le_refl _) (by omega)
  exact ⟨T6, some (.ref s.heap.size), _, _, _, X8, rfl, rfl, rfl, (fun h => by cases h), ⟨⟨rfl, B6, ba3.like (X3.warmed.alike.symm.trans X6.warmed.alike) p6.1 f6.1 f6.2.1 f6.2.2.1, f6.2.1.trans bv3, by rw [X6.warmed.alike.findClass, f6.1]; exact bf3, by rw [f6.2.2.1, bs3]; simp, fun j hj => by rw [f6.2.2.2 j, if_pos (by omega)]; rfl, kp3.put p6 (Nat.le_refl _)⟩, by rw [p6.2.2, bh3, hh0]; simp⟩, fun fs hl => c8.trans (X8.areturnOut hexec rfl hret rfl (hb hbytes d58) hl)⟩
end Cmp3
namespace CodL
def yN : MethodName := ⟨"java/lang/StringUTF16", "coderFromArrayLen", "([BI)B"⟩
abbrev yB : ByteArray := jdk_52_method_15_code
theorem d0 : decode yB 0 = .ok (.iload_n 1, 1) := by decide +kernel
theorem d1 : decode yB 1 = .ok (.aload_n 0, 1) := by decide +kernel
theorem d2 : decode yB 2 = .ok (.arraylength, 1) := by decide +kernel
theorem d3 : decode yB 3 = .ok (.isub, 1) := by decide +kernel
theorem d4 : decode yB 4 = .ok (.bipush 31, 2) := by decide +kernel
theorem d6 : decode yB 6 = .ok (.iushr, 1) := by decide +kernel
theorem d7 : decode yB 7 = .ok (.i2b, 1) := by decide +kernel
theorem d8 : decode yB 8 = .ok (.ireturn, 1) := by decide +kernel
def site : List Cond := []
def tab : Cond := tabOf yN yB 2 (some .byte) site
def P (d : Addr) (B : Cell) (args : Array Value) (s : State) : Prop := args = #[.ref d, .int (Int32.ofNat B.slots.size)] ∧ Arr .byte d B s
def E (r : Option Value) (s u : State) : Prop := XT.PureE (some (.int 0)) r s u
/-- an array as long as the number of chars: LATIN1 -/
theorem law (l : Launch) (d : Addr) (B : Cell) : Law l yN 2 2 0 0 yB 2 (some .byte) site (P d B) E [] 0 0 := by
  refine Law.of_walk (plainFor_of_name (by decide +kernel)) (by decide +kernel) (by decide +kernel) (by decide) (fun _ _ h => by rw [h.1]; rfl) (fun _ U U' hal hh h => ⟨h.1, h.2.mv hal hh⟩) (fun r U U' V V' h1 hal h2 h => XT.PureE.mv r U U' V V' h1 hal h2 h) ?_
  intro p e s m args below meth c s₁ X0 hexec hbytes hml hret hlk hnm hown hh0 W hP
  obtain ⟨rfl, hB⟩ := hP
  have hB0 := hB.mv X0.warmed.alike hh0
  have c1 : Steps p.tables e below (s₁.setTop (entryFrame m #[.ref d, .int (Int32.ofNat B.slots.size)] 2)) (s₁.setTop (mkF m 0 #[.val (.ref d), .val (.int (Int32.ofNat B.slots.size))] [])) := entry rfl
  have c2 : Steps p.tables e below (s₁.setTop (entryFrame m #[.ref d, .int (Int32.ofNat B.slots.size)] 2)) (s₁.setTop (mkF m 2 #[.val (.ref d), .val (.int (Int32.ofNat B.slots.size))] [.ref d, .int (Int32.ofNat B.slots.size)])) := c1.trans (by
    refine XS.iloadN X0.here hexec rfl (hb hbytes d0) rfl ?_
    refine XS.aloadN X0.here hexec rfl (hb hbytes d1) rfl rfl ?_
    exact Steps.refl _)
  have c3 : Steps p.tables e below (s₁.setTop (entryFrame m #[.ref d, .int (Int32.ofNat B.slots.size)] 2)) (s₁.setTop (mkF m 8 #[.val (.ref d), .val (.int (Int32.ofNat B.slots.size))] [.int (lo8 (ushr (Int32.ofNat B.slots.size - Int32.ofNat B.slots.size) 31))])) := c2.trans (by
    refine X0.alen hexec hB0 rfl rfl (hb hbytes d2) ?_
    refine XS.isub X0.here hexec rfl (hb hbytes d3) rfl ?_
    refine bipushV X0.here hexec rfl 31 (hb hbytes d4) (by decide) ?_
    refine iushr X0.here hexec rfl (hb hbytes d6) rfl ?_
    refine i2b X0.here hexec rfl (hb hbytes d7) rfl ?_
    exact Steps.refl _)
  have e0 : lo8 (ushr (Int32.ofNat B.slots.size - Int32.ofNat B.slots.size) 31) = 0 := by rw [Int32.sub_self]; decide
  rw [e0] at c3
  exact ⟨s₁, some (.int 0), _, _, _, X0, rfl, rfl, rfl, (fun h => by cases h), ⟨rfl, hh0⟩, fun fs hl => c3.trans (X0.ireturnOut hexec hret rfl (Or.inr (Or.inr (Or.inl rfl))) (hb hbytes d8) hl)⟩
end CodL
/-- the String at a is Latin-1 over a new byte[] (the heap's one new cell): the low bytes of the len chars of A from o on; every cell but a is kept -/
def Got (a : Addr) (D : Cell) (fV fC : Field) (A : Cell) (o len : Nat) (r : Option Value) (s u : State) : Prop := r = none ∧ ∃ D' V : Cell, Blank "java/lang/String" a D' u ∧ Same D D' [fV.slot, fC.slot] ∧ D'.slots[fV.slot]? = some (.ref s.heap.size) ∧ D'.slots[fC.slot]? = some (.int 0) ∧ Arr .byte s.heap.size V u ∧ V.vm = .none ∧ u.vm.findClass "[B" = some V.cls ∧ V.slots.size = len ∧ (∀ j, j < len → V.slots[j]? = some (.int (lo8 (cv A (o + j))))) ∧ (∀ (y : Addr) (c : Cell), y ≠ a → s.heap[y]? = some c → u.heap[y]? = some c) ∧ u.heap.size = s.heap.size + 1
theorem Got.mv {a : Addr} {D A : Cell} {fV fC : Field} {o len : Nat} : ∀ r (U U' V V' : State), U'.heap = U.heap → V.vm.Alike V'.vm → V'.heap = V.heap → Got a D fV fC A o len r U V → Got a D fV fC A o len r U' V' :=
  fun r U U' V V' h1 hal h2 ⟨e0, D', X, a1, a2, a3, a4, a5, a6, a7, a8, a9, a10, a11⟩ => ⟨e0, D', X, a1.mv hal h2, a2, by rw [h1]; exact a3, a4, by rw [h1]; exact a5.mv hal h2, a6, by rw [hal.findClass]; exact a7, a8, a9, by rw [h1, h2]; exact a10, by rw [h1, h2]; exact a11⟩
namespace New4
def yN : MethodName := ⟨"java/lang/String", "<init>", "([CIILjava/lang/Void;)V"⟩
abbrev yB : ByteArray := jdk_42_method_149_code
theorem d0 : decode yB 0 = .ok (.aload_n 0, 1) := by decide +kernel
theorem d1 : decode yB 1 = .ok (.invokespecial 1, 3) := by decide +kernel
theorem d4 : decode yB 4 = .ok (.iload_n 3, 1) := by decide +kernel
theorem d5 : decode yB 5 = .ok (.ifCond (.ne) 22, 3) := by decide +kernel
theorem d27 : decode yB 27 = .ok (.getstatic 38, 3) := by decide +kernel
theorem d30 : decode yB 30 = .ok (.ifCond (.eq) 28, 3) := by decide +kernel
theorem d33 : decode yB 33 = .ok (.aload_n 1, 1) := by decide +kernel
theorem d34 : decode yB 34 = .ok (.iload_n 2, 1) := by decide +kernel
theorem d35 : decode yB 35 = .ok (.iload_n 3, 1) := by decide +kernel
theorem d36 : decode yB 36 = .ok (.invokestatic 177, 3) := by decide +kernel
theorem d39 : decode yB 39 = .ok (.astore 5, 2) := by decide +kernel
theorem d41 : decode yB 41 = .ok (.aload_n 0, 1) := by decide +kernel
theorem d42 : decode yB 42 = .ok (.aload 5, 2) := by decide +kernel
theorem d44 : decode yB 44 = .ok (.iload_n 3, 1) := by decide +kernel
theorem d45 : decode yB 45 = .ok (.invokestatic 47, 3) := by decide +kernel
theorem d48 : decode yB 48 = .ok (.putfield 15, 3) := by decide +kernel
theorem d51 : decode yB 51 = .ok (.aload_n 0, 1) := by decide +kernel
theorem d52 : decode yB 52 = .ok (.aload 5, 2) := by decide +kernel
theorem d54 : decode yB 54 = .ok (.putfield 9, 3) := by decide +kernel
theorem d57 : decode yB 57 = .ok (.return_, 1) := by decide +kernel
def site : List Cond := [.fieldLink "java/lang/String" 38 "java/lang/String" "COMPACT_STRINGS" "Z", Cmp3.tab, CodL.tab, .laysFinal "java/lang/String" "java/lang/String" "value" "[B", .fieldLink "java/lang/String" 9 "java/lang/String" "value" "[B", .laysFinal "java/lang/String" "java/lang/String" "coder" "B", .fieldLink "java/lang/String" 15 "java/lang/String" "coder" "B"] ++ objW "java/lang/String" 1 ++ staticW "java/lang/String" 177 Cmp3.yN ++ staticW "java/lang/String" 47 CodL.yN
def tab : Cond := tabOf yN yB 6 none site
def P (a : Addr) (D : Cell) (fV fC : Field) (b : Addr) (A : Cell) (z : Int32) (o len : Nat) (args : Array Value) (s : State) : Prop := args = #[.ref a, .ref b, .int (Int32.ofNat o), .int (Int32.ofNat len), .null] ∧ Blank "java/lang/String" a D s ∧ Found "java/lang/String" "value" "[B" fV s ∧ Found "java/lang/String" "coder" "B" fC s ∧ Ch b A s ∧ StaticIs s "java/lang/String" "COMPACT_STRINGS" "Z" (.int z) ∧ ¬ z = 0 ∧ 0 < len ∧ o + len ≤ A.slots.size ∧ len ≤ 536870912 ∧ ∀ i, i < len → ¬ 255 < cv A (o + i)
def E (a : Addr) (D : Cell) (fV fC : Field) (A : Cell) (o len : Nat) (r : Option Value) (s u : State) : Prop := Got a D fV fC A o len r s u
/-- len > 0, no char of the range above 255: a Latin-1 String of their low bytes -/
theorem law (l : Launch) (a : Addr) (D : Cell) (fV fC : Field) (b : Addr) (A : Cell) (z : Int32) (o len : Nat) : Law l yN 5 4 2 35 yB 6 none site (P a D fV fC b A z o len) (E a D fV fC A o len) [⟨a, fC.slot⟩, ⟨a, fV.slot⟩] 1 len := by
  refine Law.of_walk (plainFor_of_name (by decide +kernel)) (by decide +kernel) (by decide +kernel) (by decide) (fun _ _ h => by rw [h.1]; rfl) (fun _ U U' hal hh h => ⟨h.1, h.2.1.mv hal hh, h.2.2.1.al hal, h.2.2.2.1.al hal, h.2.2.2.2.1.mv hal hh, h.2.2.2.2.2.1.there hal hh, h.2.2.2.2.2.2⟩) (fun r U U' V V' h1 hal h2 h => Got.mv r U U' V V' h1 hal h2 h) ?_
  intro p e s m args below meth c s₁ X0 hexec hbytes hml hret hlk hnm hown hh0 W hP
  obtain ⟨rfl, hB, f1, f2, hA, s1, hz, l0, l1, l2, hp⟩ := hP
  have a31 := hA.1.2.2.2
  have c1 : Steps p.tables e below (s₁.setTop (entryFrame m #[.ref a, .ref b, .int (Int32.ofNat o), .int (Int32.ofNat len), .null] 6)) (s₁.setTop (mkF m 0 #[.val (.ref a), .val (.ref b), .val (.int (Int32.ofNat o)), .val (.int (Int32.ofNat len)), .val .null, .unset] [])) := entry rfl
  have c2 : Steps p.tables e below (s₁.setTop (entryFrame m #[.ref a, .ref b, .int (Int32.ofNat o), .int (Int32.ofNat len), .null] 6)) (s₁.setTop (mkF m 1 #[.val (.ref a), .val (.ref b), .val (.int (Int32.ofNat o)), .val (.int (Int32.ofNat len)), .val .null, .unset] [.ref a])) := c1.trans (by
    refine XS.aloadN X0.here hexec rfl (hb hbytes d0) rfl rfl ?_
    exact Steps.refl _)
  obtain ⟨T3, X3, q3, st3⟩ := X0.oinit hexec hown (wks W (objW "java/lang/String" 1)) (g := (mkF m 1 #[.val (.ref a), .val (.ref b), .val (.int (Int32.ofNat o)), .val (.int (Int32.ofNat len)), .val .null, .unset] [.ref a])) rfl (by rw [hml]; rfl) (rest := []) rfl (hb hbytes d1) (W := 0) (by show 2 * 0 + 0 ≤ _; decide) (Nat.le_of_ble_eq_true rfl) (Nat.le_of_ble_eq_true rfl)
  have hh3 := q3.trans hh0
  have c4 : Steps p.tables e below (s₁.setTop (entryFrame m #[.ref a, .ref b, .int (Int32.ofNat o), .int (Int32.ofNat len), .null] 6)) (T3.setTop (mkF m 27 #[.val (.ref a), .val (.ref b), .val (.int (Int32.ofNat o)), .val (.int (Int32.ofNat len)), .val .null, .unset] [])) := (c2.trans (st3 _ (Steps.refl _))).trans (by
    refine XS.iloadN X3.here hexec rfl (hb hbytes d4) rfl ?_
    refine XS.ifYes X3.here hexec rfl (pc0 := 5) rfl (hb hbytes d5) rfl (i0_ne_t (nz32 (by omega) l0)) (by decide) rfl ?_
    exact Steps.refl _)
  obtain ⟨T5, X5, q5, st5⟩ := X3.sget hexec hown (wk W (.fieldLink "java/lang/String" 38 "java/lang/String" "COMPACT_STRINGS" "Z")) s1 (fun _ _ h => by rw [hh3]; exact h) (g := (mkF m 27 #[.val (.ref a), .val (.ref b), .val (.int (Int32.ofNat o)), .val (.int (Int32.ofNat len)), .val .null, .unset] [])) rfl (hb hbytes d27)
  have hh5 := q5.trans hh3
  have c6 : Steps p.tables e below (s₁.setTop (entryFrame m #[.ref a, .ref b, .int (Int32.ofNat o), .int (Int32.ofNat len), .null] 6)) (T5.setTop (mkF m 30 #[.val (.ref a), .val (.ref b), .val (.int (Int32.ofNat o)), .val (.int (Int32.ofNat len)), .val .null, .unset] [.int z])) := c4.trans (st5 _ (Steps.refl _))
  have c7 : Steps p.tables e below (s₁.setTop (entryFrame m #[.ref a, .ref b, .int (Int32.ofNat o), .int (Int32.ofNat len), .null] 6)) (T5.setTop (mkF m 36 #[.val (.ref a), .val (.ref b), .val (.int (Int32.ofNat o)), .val (.int (Int32.ofNat len)), .val .null, .unset] [.int (Int32.ofNat len), .int (Int32.ofNat o), .ref b])) := c6.trans (by
    refine XS.ifNo X5.here hexec rfl (hb hbytes d30) rfl (i0_eq_f hz) ?_
    refine XS.aloadN X5.here hexec rfl (hb hbytes d33) rfl rfl ?_
    refine XS.iloadN X5.here hexec rfl (hb hbytes d34) rfl ?_
    refine XS.iloadN X5.here hexec rfl (hb hbytes d35) rfl ?_
    exact Steps.refl _)
  obtain ⟨v8, T8, X8, E8, g8⟩ := X5.callS hexec (Cmp3.law l b A o len) hown (wks W (staticW "java/lang/String" 177 Cmp3.yN)) (wk W Cmp3.tab) (W := 0) (Nat.le_of_ble_eq_true rfl) (Nat.le_of_ble_eq_true rfl) (Nat.le_refl _) (by show 0 + len ≤ len; omega) (g := (mkF m 36 #[.val (.ref a), .val (.ref b), .val (.int (Int32.ofNat o)), .val (.int (Int32.ofNat len)), .val .null, .unset] [.int (Int32.ofNat len), .int (Int32.ofNat o), .ref b])) rfl (by rw [hml]; rfl) c7 (argsL := [.ref b, .int (Int32.ofNat o), .int (Int32.ofNat len)]) (rest := []) rfl rfl (by show 2 * 0 + 0 ≤ _; decide) (hb hbytes d36) (⟨rfl, hA.mv X5.warmed.alike hh5, l1, l2, hp⟩)
  obtain ⟨e8, z8⟩ := E8
  obtain ⟨rfl, N, n1, n2, n3, n4, n5, n6⟩ := NewArr.mv _ T5 s _ _ hh5.symm (Vm.Alike.refl _) rfl e8
  rw [hh5] at z8
  have hB1 := hB.keep X8.warmed.alike (n6 _ _ hB.1)
  have hne : s.heap.size ≠ a := (Nat.ne_of_lt (Array.getElem?_eq_some_iff.mp hB.1).1).symm
  have c9 : Steps p.tables e below (s₁.setTop (entryFrame m #[.ref a, .ref b, .int (Int32.ofNat o), .int (Int32.ofNat len), .null] 6)) (T8.setTop (mkF m 39 #[.val (.ref a), .val (.ref b), .val (.int (Int32.ofNat o)), .val (.int (Int32.ofNat len)), .val .null, .unset] [.ref s.heap.size])) := g8
  have c10 : Steps p.tables e below (s₁.setTop (entryFrame m #[.ref a, .ref b, .int (Int32.ofNat o), .int (Int32.ofNat len), .null] 6)) (T8.setTop (mkF m 45 #[.val (.ref a), .val (.ref b), .val (.int (Int32.ofNat o)), .val (.int (Int32.ofNat len)), .val .null, .val (.ref s.heap.size)] [.int (Int32.ofNat N.slots.size), .ref s.heap.size, .ref a])) := by
    have hc : Steps p.tables e below (s₁.setTop (entryFrame m #[.ref a, .ref b, .int (Int32.ofNat o), .int (Int32.ofNat len), .null] 6)) (T8.setTop (mkF m 45 #[.val (.ref a), .val (.ref b), .val (.int (Int32.ofNat o)), .val (.int (Int32.ofNat len)), .val .null, .val (.ref s.heap.size)] [.int (Int32.ofNat len), .ref s.heap.size, .ref a])) := c9.trans (by
      refine XS.astore X8.here hexec rfl (hb hbytes d39) rfl rfl rfl ?_
      refine XS.aloadN X8.here hexec rfl (hb hbytes d41) rfl rfl ?_
      refine XS.aload X8.here hexec rfl (hb hbytes d42) rfl rfl ?_
      refine XS.iloadN X8.here hexec rfl (hb hbytes d44) rfl ?_
      exact Steps.refl _)
    rw [n4]; exact hc
  obtain ⟨v11, T11, X11, E11, g11⟩ := X8.callS hexec (CodL.law l s.heap.size N) hown (wks W (staticW "java/lang/String" 47 CodL.yN)) (wk W CodL.tab) (W := 1) (Nat.le_of_ble_eq_true rfl) (Nat.le_of_ble_eq_true rfl) (Nat.le_refl _) (by show 0 + len + 0 ≤ len; omega) (g := (mkF m 45 #[.val (.ref a), .val (.ref b), .val (.int (Int32.ofNat o)), .val (.int (Int32.ofNat len)), .val .null, .val (.ref s.heap.size)] [.int (Int32.ofNat N.slots.size), .ref s.heap.size, .ref a])) rfl (by rw [hml]; rfl) c10 (argsL := [.ref s.heap.size, .int (Int32.ofNat N.slots.size)]) (rest := [.ref a]) rfl rfl (by show 2 * 0 + (1 + 0) ≤ _; decide) (hb hbytes d45) (⟨rfl, n1⟩)
  obtain ⟨rfl, q11⟩ := E11
  have hB11 := hB1.mv (X8.warmed.alike.symm.trans X11.warmed.alike) q11
  have c12 : Steps p.tables e below (s₁.setTop (entryFrame m #[.ref a, .ref b, .int (Int32.ofNat o), .int (Int32.ofNat len), .null] 6)) (T11.setTop (mkF m 48 #[.val (.ref a), .val (.ref b), .val (.int (Int32.ofNat o)), .val (.int (Int32.ofNat len)), .val .null, .val (.ref s.heap.size)] [.int 0, .ref a])) := g11
  obtain ⟨T13, X13, p13, bl13, sl13, st13⟩ := X11.finit hexec hown (wk W (.fieldLink "java/lang/String" 15 "java/lang/String" "coder" "B")) (Or.inr ⟨_, (wk W (.laysFinal "java/lang/String" "java/lang/String" "coder" "B"))⟩) (Or.inl ⟨rfl, hnm⟩) f2 (Or.inl rfl) hB11 (t := .byte) (by decide +kernel) rfl (g := (mkF m 48 #[.val (.ref a), .val (.ref b), .val (.int (Int32.ofNat o)), .val (.int (Int32.ofNat len)), .val .null, .val (.ref s.heap.size)] [.int 0, .ref a])) rfl (rest := []) rfl (hb hbytes d48)
  have c14 : Steps p.tables e below (s₁.setTop (entryFrame m #[.ref a, .ref b, .int (Int32.ofNat o), .int (Int32.ofNat len), .null] 6)) (T13.setTop (mkF m 54 #[.val (.ref a), .val (.ref b), .val (.int (Int32.ofNat o)), .val (.int (Int32.ofNat len)), .val .null, .val (.ref s.heap.size)] [.ref s.heap.size, .ref a])) := (c12.trans (st13 _ (Steps.refl _))).trans (by
    refine XS.aloadN X13.here hexec rfl (hb hbytes d51) rfl rfl ?_
    refine XS.aload X13.here hexec rfl (hb hbytes d52) rfl rfl ?_
    exact Steps.refl _)
  obtain ⟨T15, X15, p15, bl15, sl15, st15⟩ := X13.finit hexec hown (wk W (.fieldLink "java/lang/String" 9 "java/lang/String" "value" "[B")) (Or.inr ⟨_, (wk W (.laysFinal "java/lang/String" "java/lang/String" "value" "[B"))⟩) (Or.inl ⟨rfl, hnm⟩) f1 (Or.inl rfl) bl13 (t := (.array .byte)) (by decide +kernel) rfl (g := (mkF m 54 #[.val (.ref a), .val (.ref b), .val (.int (Int32.ofNat o)), .val (.int (Int32.ofNat len)), .val .null, .val (.ref s.heap.size)] [.ref s.heap.size, .ref a])) rfl (rest := []) rfl (hb hbytes d54)
  have c16 : Steps p.tables e below (s₁.setTop (entryFrame m #[.ref a, .ref b, .int (Int32.ofNat o), .int (Int32.ofNat len), .null] 6)) (T15.setTop (mkF m 57 #[.val (.ref a), .val (.ref b), .val (.int (Int32.ofNat o)), .val (.int (Int32.ofNat len)), .val .null, .val (.ref s.heap.size)] [])) := c14.trans (st15 _ (Steps.refl _))
  have ap := apart (Or.inr ⟨_, (wk W (.laysFinal "java/lang/String" "java/lang/String" "value" "[B"))⟩) (Or.inr ⟨_, (wk W (.laysFinal "java/lang/String" "java/lang/String" "coder" "B"))⟩) f1 f2 (t₁ := .array .byte) (t₂ := .byte) (by decide +kernel) (by decide +kernel) (by decide)
  have al := X8.warmed.alike.symm.trans X15.warmed.alike
  have n7 : T11.heap[s.heap.size]? = some N := by rw [q11]; exact n1.1
  exact ⟨T15, none, _, _, _, X15, by simp, rfl, by omega, (fun _ => rfl), ⟨rfl, _, N, bl15, ((Same.refl D _).set _ (by simp)).set _ (by simp), sl15, (Cell.slots_setSlot_ne _ ap).trans sl13, n1.keep al (p15.other hne (p13.other hne n7)), n2, by rw [al.findClass]; exact n3, n4, n5, fun y c h1 h2 => p15.other h1 (p13.other h1 (by rw [q11]; exact n6 y c h2)), by rw [p15.2.2, p13.2.2, q11]; exact z8⟩, fun fs hl => c16.trans (X15.returnOut hexec hret (hb hbytes d57) hl)⟩
end New4
namespace New1
def yN : MethodName := ⟨"java/lang/String", "<init>", "([C)V"⟩
abbrev yB : ByteArray := jdk_42_method_3_code
theorem d0 : decode yB 0 = .ok (.aload_n 0, 1) := by decide +kernel
theorem d1 : decode yB 1 = .ok (.aload_n 1, 1) := by decide +kernel
theorem d2 : decode yB 2 = .ok (.iconst 0, 1) := by decide +kernel
theorem d3 : decode yB 3 = .ok (.aload_n 1, 1) := by decide +kernel
theorem d4 : decode yB 4 = .ok (.arraylength, 1) := by decide +kernel
theorem d5 : decode yB 5 = .ok (.aconst_null, 1) := by decide +kernel
theorem d6 : decode yB 6 = .ok (.invokespecial 27, 3) := by decide +kernel
theorem d9 : decode yB 9 = .ok (.return_, 1) := by decide +kernel
def site : List Cond := [New4.tab] ++ initW "java/lang/String" 27 New4.yN
def tab : Cond := tabOf yN yB 2 none site
def P (a : Addr) (D : Cell) (fV fC : Field) (b : Addr) (A : Cell) (z : Int32) (args : Array Value) (s : State) : Prop := args = #[.ref a, .ref b] ∧ Blank "java/lang/String" a D s ∧ Found "java/lang/String" "value" "[B" fV s ∧ Found "java/lang/String" "coder" "B" fC s ∧ Ch b A s ∧ StaticIs s "java/lang/String" "COMPACT_STRINGS" "Z" (.int z) ∧ ¬ z = 0 ∧ 0 < A.slots.size ∧ A.slots.size ≤ 536870912 ∧ ∀ i, i < A.slots.size → ¬ 255 < cv A i
def E (a : Addr) (D : Cell) (fV fC : Field) (A : Cell) (r : Option Value) (s u : State) : Prop := Got a D fV fC A 0 A.slots.size r s u
/-- new String(chars), not empty, no char above 255: a Latin-1 String of their low bytes -/
theorem law (l : Launch) (a : Addr) (D : Cell) (fV fC : Field) (b : Addr) (A : Cell) (z : Int32) : Law l yN 2 1 3 52 yB 2 none site (P a D fV fC b A z) (E a D fV fC A) [⟨a, fC.slot⟩, ⟨a, fV.slot⟩] 1 A.slots.size := by
  refine Law.of_walk (plainFor_of_name (by decide +kernel)) (by decide +kernel) (by decide +kernel) (by decide) (fun _ _ h => by rw [h.1]; rfl) (fun _ U U' hal hh h => ⟨h.1, h.2.1.mv hal hh, h.2.2.1.al hal, h.2.2.2.1.al hal, h.2.2.2.2.1.mv hal hh, h.2.2.2.2.2.1.there hal hh, h.2.2.2.2.2.2⟩) (fun r U U' V V' h1 hal h2 h => Got.mv r U U' V V' h1 hal h2 h) ?_
  intro p e s m args below meth c s₁ X0 hexec hbytes hml hret hlk hnm hown hh0 W hP
  obtain ⟨rfl, hB, f1, f2, hA, s1, hz, l0, l2, hp⟩ := hP
  have c1 : Steps p.tables e below (s₁.setTop (entryFrame m #[.ref a, .ref b] 2)) (s₁.setTop (mkF m 0 #[.val (.ref a), .val (.ref b)] [])) := entry rfl
  have c2 : Steps p.tables e below (s₁.setTop (entryFrame m #[.ref a, .ref b] 2)) (s₁.setTop (mkF m 6 #[.val (.ref a), .val (.ref b)] [.null, .int (Int32.ofNat A.slots.size), .int 0, .ref b, .ref a])) := c1.trans (by
    refine XS.aloadN X0.here hexec rfl (hb hbytes d0) rfl rfl ?_
    refine XS.aloadN X0.here hexec rfl (hb hbytes d1) rfl rfl ?_
    refine iconstV X0.here hexec rfl 0 (hb hbytes d2) (by decide) ?_
    refine XS.aloadN X0.here hexec rfl (hb hbytes d3) rfl rfl ?_
    refine X0.alen hexec (hA.1.mv X0.warmed.alike hh0) rfl rfl (hb hbytes d4) ?_
    refine XS.aconstNull X0.here hexec rfl (hb hbytes d5) ?_
    exact Steps.refl _)
  obtain ⟨v3, T3, X3, E3, g3⟩ := X0.callN hexec (New4.law l a D fV fC b A z 0 A.slots.size) rfl hown (wks W (initW "java/lang/String" 27 New4.yN)) (W New4.tab (by simp only [site, List.mem_cons, List.mem_append, true_or, or_true])) (W := 0) (Nat.le_of_ble_eq_true rfl) (Nat.le_of_ble_eq_true rfl) (Nat.le_refl _) (by show 0 + A.slots.size ≤ A.slots.size; omega) (g := (mkF m 6 #[.val (.ref a), .val (.ref b)] [.null, .int (Int32.ofNat A.slots.size), .int (Int32.ofNat 0), .ref b, .ref a])) rfl (by rw [hml]; rfl) c2 (argsL := [.ref b, .int (Int32.ofNat 0), .int (Int32.ofNat A.slots.size), .null]) (rest := []) rfl rfl (by show 2 * 0 + 0 ≤ _; decide) (hb hbytes d6) (⟨rfl, hB.mv X0.warmed.alike hh0, f1.al X0.warmed.alike, f2.al X0.warmed.alike, hA.mv X0.warmed.alike hh0, s1.there X0.warmed.alike hh0, hz, l0, by omega, l2, fun i hi => by rw [Nat.zero_add]; exact hp i hi⟩)
  have e0 := Got.mv _ s₁ s _ _ hh0.symm (Vm.Alike.refl _) rfl E3
  obtain rfl := e0.1
  have c4 : Steps p.tables e below (s₁.setTop (entryFrame m #[.ref a, .ref b] 2)) (T3.setTop (mkF m 9 #[.val (.ref a), .val (.ref b)] [])) := g3
  exact ⟨T3, none, _, _, _, X3, by simp, rfl, by omega, (fun _ => rfl), e0, fun fs hl => c4.trans (X3.returnOut hexec hret (hb hbytes d9) hl)⟩
theorem pays {l : Launch} {R : Room} {p : Program} {e : Env} {below : List Frame} {s : State} {sargs : Array Value} {len W : Nat} (a : Addr) (D : Cell) (fV fC : Field) (b : Addr) (A : Cell) (z : Int32) (htab : tab.before sargs s = true) (hfr : 4 ≤ R.frames) (hlo : W + 65 ≤ R.locals) :
    Back l R p e below s sargs yN len W (fun A₁ a₁ => A₁.cells + 1 ≤ R.cells ∧ A₁.slots + A.slots.size ≤ R.slots ∧ P a D fV fC b A z a₁ A₁.U) (fun A₁ _ v₁ B₁ => E a D fV fC A v₁ A₁.U B₁.U ∧ B₁.locs = A₁.locs ++ [⟨a, fC.slot⟩, ⟨a, fV.slot⟩] ∧ B₁.cells = A₁.cells + 1 ∧ B₁.slots = A₁.slots + A.slots.size) :=
  (law l a D fV fC b A z).pays htab hfr (by omega)
end New1
/-- the byte, read back as charAt reads it, is the char -/
theorem lo8_mask {x : Int32} (h0 : ¬ x < 0) (h1 : ¬ 255 < x) : lo8 x &&& 255 = x := by
  have t : ∀ k : Fin 256, lo8 (Int32.ofNat k.val) &&& 255 = Int32.ofNat k.val := by decide +kernel
  rw [Int32.lt_iff_toInt_lt] at h0 h1
  have e0 : (0 : Int32).toInt = 0 := rfl
  have e1 : (255 : Int32).toInt = 255 := rfl
  obtain ⟨k, hk⟩ : ∃ k : Nat, x.toInt = k := ⟨x.toInt.toNat, by omega⟩
  have hx : x = Int32.ofNat k := Int32.toInt_inj.mp (by rw [hk, Int32.toInt_ofNat_small (by omega)])
  rw [hx]
  exact t ⟨k, by omega⟩
end StrChars
namespace StrChars.Road
open Jvm Sem ClassFile Op Lib Jvm.Stand Jvm.Free Jvm.Free.XT
open Jvm.Lib.Cold (StaticIs)
abbrev ST : String := "java/lang/String"
/-- every table word that New1's law asks, flat -/
abbrev words : List Jvm.Cond := [.code New1.yN New1.yB 2 none, .initialized ST, .methodLink ST 27 New4.yN, .instanceMethod New4.yN,
  .code New4.yN New4.yB 6 none, .fieldLink ST 38 ST "COMPACT_STRINGS" "Z", .laysFinal ST ST "value" "[B", .fieldLink ST 9 ST "value" "[B", .laysFinal ST ST "coder" "B", .fieldLink ST 15 ST "coder" "B",
  .methodLink ST 1 Lib.objectInit, .instanceMethod Lib.objectInit, .code Lib.objectInit ⟨#[0xb1]⟩ 1 none, .methodLink ST 177 Cmp3.yN, .static Cmp3.yN, .methodLink ST 47 CodL.yN, .static CodL.yN,
  .code Cmp3.yN Cmp3.yB 6 (some (.array .byte)), .initialized U16, .arrayClass .byte, .methodLink U16 115 Cmp5.yN, .static Cmp5.yN, .code Cmp5.yN Cmp5.yB 7 (some .int), .code CodL.yN CodL.yB 2 (some .byte)]
theorem tab_of {a : Array Value} {s : State} (h : ∀ w ∈ words, w.before a s = true) : New1.tab.before a s = true := by
  have h5 : Cmp5.tab.before a s = true := unparts (wk h (.code Cmp5.yN Cmp5.yB 7 (some .int))) (wks h (.initialized Cmp5.yN.cls :: Cmp5.site))
  have hc : CodL.tab.before a s = true := unparts (wk h (.code CodL.yN CodL.yB 2 (some .byte))) (wks h (.initialized CodL.yN.cls :: CodL.site))
  have q5 : ∀ w ∈ Cmp5.tab :: words, w.before a s = true := fun w hw => (List.mem_cons.mp hw).elim (fun e => e ▸ h5) (h w)
  have h3 : Cmp3.tab.before a s = true := unparts (wk q5 (.code Cmp3.yN Cmp3.yB 6 (some (.array .byte)))) (wks q5 (.initialized Cmp3.yN.cls :: Cmp3.site))
  have q3 : ∀ w ∈ Cmp3.tab :: CodL.tab :: words, w.before a s = true := fun w hw => (List.mem_cons.mp hw).elim (fun e => e ▸ h3) fun hw => (List.mem_cons.mp hw).elim (fun e => e ▸ hc) (h w)
  have h4 : New4.tab.before a s = true := unparts (wk q3 (.code New4.yN New4.yB 6 none)) (wks q3 (.initialized New4.yN.cls :: New4.site))
  have q4 : ∀ w ∈ New4.tab :: words, w.before a s = true := fun w hw => (List.mem_cons.mp hw).elim (fun e => e ▸ h4) (h w)
  exact unparts (wk q4 (.code New1.yN New1.yB 2 none)) (wks q4 (.initialized New1.yN.cls :: New1.site))
/-- the words ride from the start Z to the walk's own state -/
theorem moved {Z s : State} {a0 args : Array Value} (hZ : Z.Warmed39 s.vm) (hw : ∀ d ∈ words, d.before a0 Z = true) : ∀ d ∈ words, d.before args s = true := fun d hd => by
  have q := hw d hd
  have t : ∀ d ∈ words, d = .arrayClass .byte ∨ (d.onTables && d.keepsFace) = true := by decide +kernel
  rcases t d hd with rfl | t
  · exact RoadKit.mvA hZ q
  · exact RoadKit.mv hZ q t
/-- WHAT COMES BACK, over the tables of the start Z: h the heap at the call, h' behind it -/
def Q (Z : State) (x : Addr) (A : Cell) (h : Heap) (v : Option Value) (h' : Heap) (L : List Loc) : Prop := v = none ∧ (∀ y ∈ L, y.base = x) ∧ RoadKit.Keep h h' [x] ∧ h'.size = h.size + 1 ∧ RoadKit.Exa Z h' x ST ∧ RoadKit.Fld Z h' x ST "value" "[B" (.ref h.size) ∧ RoadKit.Fld Z h' x ST "coder" "B" (.int 0) ∧
  (∃ V : Cell, RoadKit.Arr Z h' h.size V .byte ∧ V.vm = .none ∧ Z.vm.findClass "[B" = some V.cls ∧ V.slots.size = A.slots.size ∧ ∀ j, j < A.slots.size → V.slots[j]? = some (.int (lo8 (cv A j)))) ∧
  ∀ (O n d : String) (w : Value), RoadKit.Fld Z h x O n d w → RoadKit.slotOf Z O n d ≠ RoadKit.slotOf Z ST "value" "[B" → RoadKit.slotOf Z O n d ≠ RoadKit.slotOf Z ST "coder" "B" → RoadKit.Fld Z h' x O n d w
/-- **new String(chars) AT A CALL, IN THE ROAD'S FORM**: for specialBack behind newO: x the fresh String, b the char[] with the cell A -/
theorem back {p : Program} {l : Launch} {e : Env} {R : Room} {s : State} {args : Array Value} {below : List Frame} {len W : Nat} {Z : State} {a0 : Array Value} {h : Heap} (hZ : Z.Warmed39 s.vm) (hw : ∀ d ∈ words, d.before a0 Z = true) {kI : Nat} (wi : (Jvm.Cond.instantiable ST kI).before a0 Z = true)
    {x b : Addr} {A : Cell} {z : Int32} {v0 c0 : Value} (E : RoadKit.Exa Z h x ST) (V : RoadKit.Fld Z h x ST "value" "[B" v0) (C : RoadKit.Fld Z h x ST "coder" "B" c0) (K : RoadKit.Arr Z h b A .char) (hty : Typed .char A) (S : RoadKit.Sta Z h ST "COMPACT_STRINGS" "Z" (.int z)) (hz : ¬ z = 0)
    (l0 : 0 < A.slots.size) (l2 : A.slots.size ≤ 536870912) (hp : ∀ i, i < A.slots.size → ¬ 255 < cv A i) (hfr : 4 ≤ R.frames) (hlo : W + 65 ≤ R.locals) :
    Back l R p e below s args New1.yN len W (fun P a => a = #[.ref x, .ref b] ∧ P.U.heap = h ∧ P.cells + 1 ≤ R.cells ∧ P.slots + A.slots.size ≤ R.slots)
      (fun P _ v B => ∃ L, Q Z x A h v B.U.heap L ∧ B.locs = P.locs ++ L ∧ B.cells = P.cells + 1 ∧ B.slots = P.slots + A.slots.size) := by
  intro m meth c P g ig mk a X hg hsize hdg hW hn hp'
  obtain ⟨rfl, rfl, r1, r2⟩ := hp'
  have al : Z.vm.Alike P.U.vm := hZ.alike.trans X.warmed.alike
  obtain ⟨D, cfV, kV, iV, fV, hD, gV, stV, knV, obV, asV, slV⟩ := id V
  obtain ⟨D', cfC, kC, iC, fC, hD', gC, stC, -, -, asC, slC⟩ := id C
  cases hD.symm.trans hD'
  obtain ⟨D2, kD, e1, e2, e3, e4, e5⟩ := id E
  cases hD.symm.trans e1
  obtain ⟨c2, k2, i1, i2, i3, -⟩ := Cond.instantiable_spec wi
  cases e2.symm.trans i1
  cases e3.symm.trans i2
  obtain ⟨kU, u1, u2⟩ := al.2.2 _ _ e3
  have hB : Blank ST x D P.U := ⟨hD, ⟨knV, fun q hq => by rw [hq] at obV; cases obV⟩, by rw [al.findClass]; exact e2, kU, u1, by rw [u2]; exact i3, by rw [u2]; exact e5 i3⟩
  have F1 : Found ST "value" "[B" fV P.U := ⟨SBG.found_only al ⟨cfV, kV, iV, gV⟩, stV⟩
  have F2 : Found ST "coder" "B" fC P.U := ⟨SBG.found_only al ⟨cfC, kC, iC, gC⟩, stC⟩
  have hA : Ch b A P.U := ⟨⟨K.1, State.isArrayOf_alike al K.2.1, K.2.2, by omega⟩, hty⟩
  have hS : StaticIs P.U ST "COMPACT_STRINGS" "Z" (.int z) := by
    obtain ⟨cfS, iS, kS, fS, st, cS, t1, t2, t3, t4, t5, t6, t7⟩ := S
    exact StaticIs.there (s := { Z with heap := P.U.heap }) ⟨cfS, iS, kS, fS, st, cS, t1, t2, t3, t4, t5, (fun q => by rw [q] at t6; cases t6), t7⟩ al rfl
  obtain ⟨v, B, X', ⟨⟨hv, E', V', q1, q2, q3, q4, q5, q6, q7, q8, q9, q10, q11⟩, hl, hc, hs⟩, st⟩ := New1.pays x D fV fC b A z (tab_of (moved hZ hw)) hfr hlo m meth c P g ig mk _ X hg hsize hdg hW hn ⟨r1, r2, rfl, hB, F1, F2, hA, hS, hz, l0, l2, hp⟩
  have al' : Z.vm.Alike B.U.vm := hZ.alike.trans X'.warmed.alike
  have hsz : E'.slots.size = D.slots.size := by
    obtain ⟨-, -, -, kB, w1, w2, w3⟩ := q1
    obtain ⟨kB', y1, y2⟩ := al'.2.2 _ _ e3
    rw [q2.2.1] at w1
    cases w1.symm.trans y1
    rw [w3, e5 i3, y2]
  refine ⟨v, B, X', ⟨_, ⟨hv, ?_, ⟨by omega, fun y cy hy hn' => q10 y cy (by simpa using hn') hy, fun y cy hy => ?_⟩, q11, ⟨E', _, q1.1, by rw [q2.2.1]; exact e2, by rw [q2.2.1]; exact e3, by rw [q2.1]; exact obV, fun _ => by rw [hsz]; exact e5 i3⟩,
    ⟨E', cfV, kV, iV, fV, q1.1, gV, stV, by rw [q2.1]; exact knV, by rw [q2.1]; exact obV, by rw [q2.2.1]; exact asV, q3⟩, ⟨E', cfC, kC, iC, fC, q1.1, gC, stC, by rw [q2.1]; exact knV, by rw [q2.1]; exact obV, by rw [q2.2.1]; exact asC, q4⟩,
    ⟨V', ⟨q5.1, State.isArrayOf_alike al'.symm q5.2.1, q5.2.2.1⟩, q6, by rw [← al'.findClass]; exact q7, q8, fun j hj => by have := q9 j hj; rwa [Nat.zero_add] at this⟩, fun O n d w F n1 n2 => ?_⟩, hl, hc, hs⟩, st⟩
  · intro y hy
    simp only [List.mem_cons, List.not_mem_nil, or_false] at hy
    rcases hy with rfl | rfl <;> rfl
  · by_cases q : y = x
    · subst q
      cases hD.symm.trans hy
      exact ⟨E', q1.1, q2.2.1, q2.1, hsz⟩
    · exact ⟨cy, q10 y cy q hy, rfl, rfl, rfl⟩
  · obtain ⟨D3, cf, k, i, f, g1, g2, g3, g4, g5, g6, g7⟩ := F
    cases hD.symm.trans g1
    simp only [RoadKit.slotOf, g2, gV, gC, Option.map_some, Option.getD_some] at n1 n2
    exact ⟨E', cf, k, i, f, q1.1, g2, g3, by rw [q2.1]; exact g4, by rw [q2.1]; exact g5, by rw [q2.2.1]; exact g6, by rw [q2.2.2 f.slot (by simp [n1, n2])]; exact g7⟩
end StrChars.Road
namespace StrChars.Road
open Jvm Sem ClassFile Op Lib Jvm.Stand Jvm.Free Jvm.Free.XT
/-- WHAT COMES BACK, the byte[] as a list of values -/
def QA (Z : State) (x : Addr) (zn : Int32) (cs : List Int32) (h : Heap) (v : Option Value) (h' : Heap) (L : List Loc) : Prop := v = none ∧ (∀ y ∈ L, y.base = x) ∧ RoadKit.Keep h h' [x] ∧ h'.size = h.size + 1 ∧ RoadKit.Exa Z h' x ST ∧ RoadKit.Fld Z h' x ST "value" "[B" (.ref h.size) ∧ RoadKit.Fld Z h' x ST "coder" "B" (.int 0) ∧
  (∃ kb, Z.vm.findClass "[B" = some kb ∧ RoadKit.Arv Z h' h.size kb .byte zn (cs.map fun c => .int (lo8 c)) (.int 0)) ∧
  ∀ (O n d : String) (w : Value), RoadKit.Fld Z h x O n d w → RoadKit.slotOf Z O n d ≠ RoadKit.slotOf Z ST "value" "[B" → RoadKit.slotOf Z O n d ≠ RoadKit.slotOf Z ST "coder" "B" → RoadKit.Fld Z h' x O n d w
/-- **new String(chars) AT A CALL, THE ARRAYS AS LISTS**: the char[] at b holds cs, not empty, no char above 255 -/
theorem backArv {p : Program} {l : Launch} {e : Env} {R : Room} {s : State} {args : Array Value} {below : List Frame} {len W : Nat} {Z : State} {a0 : Array Value} {h : Heap} (hZ : Z.Warmed39 s.vm) (hw : ∀ d ∈ words, d.before a0 Z = true) {kI : Nat} (wi : (Jvm.Cond.instantiable ST kI).before a0 Z = true)
    {x b : Addr} {k : ClassId} {zn z : Int32} {cs : List Int32} {dv v0 c0 : Value} (E : RoadKit.Exa Z h x ST) (V : RoadKit.Fld Z h x ST "value" "[B" v0) (C : RoadKit.Fld Z h x ST "coder" "B" c0) (K : RoadKit.Arv Z h b k .char zn (cs.map Value.int) dv) (S : RoadKit.Sta Z h ST "COMPACT_STRINGS" "Z" (.int z)) (hz : ¬ z = 0)
    (hlen : zn.toNatClampNeg = cs.length) (h0 : 0 < cs.length) (hbig : cs.length ≤ 536870912) (hall : ∀ c ∈ cs, ¬ 255 < c) (hfr : 4 ≤ R.frames) (hlo : W + 65 ≤ R.locals) :
    Back l R p e below s args New1.yN len W (fun P a => a = #[.ref x, .ref b] ∧ P.U.heap = h ∧ P.cells + 1 ≤ R.cells ∧ P.slots + cs.length ≤ R.slots)
      (fun P _ v B => ∃ L, QA Z x zn cs h v B.U.heap L ∧ B.locs = P.locs ++ L ∧ B.cells = P.cells + 1 ∧ B.slots = P.slots + cs.length) := by
  obtain ⟨A, K1, K2, K3, K4, K5, K6⟩ := K
  have e : A.slots.size = cs.length := K3.trans hlen
  have hat : ∀ (i : Nat) (hi : i < cs.length), A.slots[i]? = some (.int cs[i]) := fun i hi => by rw [K5 i (by omega)]; simp [List.getD_eq_getElem?_getD, hi]
  have hcv : ∀ (i : Nat) (hi : i < cs.length), cv A i = cs[i] := fun i hi => by unfold cv; rw [hat i hi]
  have hty : Typed .char A := fun i v hv => by
    have hi : i < A.slots.size := (Array.getElem?_eq_some_iff.mp hv).1
    have q := K5 i hi
    rw [hv] at q
    rw [Option.some.inj q]
    exact K6 i hi
  refine Back.mono (back hZ hw wi E V C K1 hty S hz (by omega) (by omega) (fun i hi => by rw [hcv i (by omega)]; exact hall _ (List.getElem_mem _)) hfr hlo) (fun P a hp => ⟨hp.1, hp.2.1, hp.2.2.1, by rw [e]; exact hp.2.2.2⟩) (fun P a v B hp hq => ?_)
  obtain ⟨L, ⟨q1, q2, q3, q4, q5, q6, q7, ⟨V', v1, v2, v3, v4, v5⟩, q9⟩, hl, hc, hs⟩ := hq
  refine ⟨L, ⟨q1, q2, q3, q4, q5, q6, q7, ⟨V'.cls, v3, V', v1, rfl, by rw [v4, e, hlen], K4, fun i hi => ?_, fun i hi => ?_⟩, q9⟩, hl, hc, by rw [hs, e]⟩
  · have hi' : i < cs.length := by omega
    rw [v5 i (by omega), hcv i hi']; simp [List.getD_eq_getElem?_getD, hi']
  · have hi' : i < cs.length := by omega
    simp only [List.getD_eq_getElem?_getD, List.getElem?_map, List.getElem?_eq_getElem hi', Option.map_some, Option.getD_some]
    exact fits_lo8 _
end StrChars.Road
namespace StrChars.Road
open Jvm Sem ClassFile Op Lib Jvm.Stand Jvm.Free Jvm.Free.XT
/-- WHAT COMES BACK, in the writer's own shape -/
def QV (Z : State) (x : Addr) (N : Int32) (bs : List Int32) (h : Heap) (n0 : Nat) (v : Option Value) (h' : Heap) (L : List Loc) : Prop := v = none ∧ RoadKit.Fr n0 L ∧ RoadKit.Keep h h' [x] ∧ RoadKit.Exa Z h' x ST ∧ RoadKit.Fld Z h' x ST "coder" "B" (.int 0) ∧
  ∃ (t : Addr) (kb : ClassId), n0 ≤ t ∧ h.size ≤ t ∧ ¬ t = x ∧ RoadKit.Fld Z h' x ST "value" "[B" (.ref t) ∧ RoadKit.Arv Z h' t kb .byte N (bs.map Value.int) (.int 0)
/-- **new String(chars) AT A CALL, FOR THE WRITER**: a char[] of n known ints, each 0 to 255 -/
theorem backV {p : Program} {l : Launch} {e : Env} {R : Room} {s : State} {args : Array Value} {below : List Frame} {len W : Nat} {Z : State} {a0 : Array Value} {h : Heap} (hZ : Z.Warmed39 s.vm) (hw : ∀ d ∈ words, d.before a0 Z = true) {kI : Nat} (wi : (Jvm.Cond.instantiable ST kI).before a0 Z = true)
    {x b : Addr} {kC : ClassId} {cs bs : List Int32} {d v0 c0 : Value} {z N : Int32} {n n0 : Nat} (hx0 : n0 ≤ x) (hh0 : n0 ≤ h.size) (E : RoadKit.Exa Z h x ST) (V : RoadKit.Fld Z h x ST "value" "[B" v0) (C : RoadKit.Fld Z h x ST "coder" "B" c0) (K : RoadKit.Arv Z h b kC .char N (cs.map Value.int) d) (S : RoadKit.Sta Z h ST "COMPACT_STRINGS" "Z" (.int z)) (hz : ¬ z = 0)
    (hn : cs.length = n) (hN : N = Int32.ofNat n) (l0 : 0 < n) (l2 : n ≤ 4000) (hp : ∀ c ∈ cs, ¬ c < 0 ∧ ¬ (255 : Int32) < c) (hb : bs = cs.map (fun c => c.toInt8.toInt32)) (hfr : 4 ≤ R.frames) (hlo : W + 65 ≤ R.locals) :
    Back l R p e below s args (⟨"java/lang/String", "<init>", "([C)V"⟩ : MethodName) len W (fun P a => a = #[.ref x, .ref b] ∧ P.U.heap = h ∧ P.cells + 1 ≤ R.cells ∧ P.slots + n ≤ R.slots)
      (fun P _ v B => ∃ L, QV Z x N bs h n0 v B.U.heap L ∧ B.locs = P.locs ++ L ∧ B.cells = P.cells + 1 ∧ B.slots = P.slots + n) := by
  subst hn hN hb
  refine Back.mono (backArv hZ hw wi E V C K S hz (n32 (by omega)) l0 (by omega) (fun c hc => (hp c hc).2) hfr hlo) (fun P a hp => hp) (fun P a v B hp hq => ?_)
  obtain ⟨L, ⟨q1, q2, q3, q4, q5, q6, q7, ⟨kb, v1, v2⟩, q9⟩, hl, hc, hs⟩ := hq
  exact ⟨L, ⟨q1, fun y hy => by rw [q2 y hy]; exact hx0, q3, q5, q7, h.size, kb, hh0, Nat.le_refl _, Nat.ne_of_gt E.lt, q6, by rw [List.map_map]; exact v2⟩, hl, hc, hs⟩
end StrChars.Road
namespace StrChars
open Jvm Sem ClassFile Op Lib Jvm.Stand Jvm.Free.XT Jvm.Free.ALB Jvm.Free.JM Jvm.Free
open Jvm.Lib.Cold (StaticIs)
def hi8 (x : Int32) : Int32 := lo8 (x >>> ((8 : Int32) &&& 31))
/-- what StringUTF16.getChar makes of two bytes -/
def pairCh (u v : Int32) : Int32 := (((u &&& 255) <<< ((0 : Int32) &&& 31)) ||| ((v &&& 255) <<< ((8 : Int32) &&& 31))).toUInt32.toUInt16.toUInt32.toInt32
theorem shr0 (c : Int32) : c >>> ((0 : Int32) &&& 31) = c := by
  have e : ((0 : Int32) &&& 31) = 0 := by decide
  rw [e]
  apply Int32.toBitVec_inj.mp
  rw [Int32.toBitVec_shiftRight]
  have e1 : ((0 : Int32).toBitVec.smod 32) = 0#32 := by decide
  rw [e1, BitVec.sshiftRight_eq']
  exact BitVec.sshiftRight_zero
theorem lo8_and (x : Int32) : (lo8 x &&& 255).toBitVec.toNat = x.toBitVec.toNat % 256 := by
  have h : (lo8 x).toBitVec = (x.toBitVec.signExtend 8).signExtend 32 := by rw [lo8, Int8.toBitVec_toInt32, Int32.toBitVec_toInt8]
  rw [Int32.toBitVec_and, BitVec.toNat_and, h]
  have e : ((x.toBitVec.signExtend 8).signExtend 32).toNat % 256 = x.toBitVec.toNat % 256 := by
    rw [BitVec.toNat_signExtend]
    have hlt := x.toBitVec.isLt
    simp only [BitVec.toNat_setWidth, BitVec.toNat_signExtend]
    split <;> split <;> omega
  rw [← e]
  exact Nat.and_two_pow_sub_one_eq_mod _ 8
theorem pair_says {c : Int32} (h0 : ¬ c < 0) (h1 : ¬ 65535 < c) : pairCh (lo8 c) (hi8 c) = c := by
  rw [Int32.lt_iff_toInt_lt] at h0 h1
  have e0 : (0 : Int32).toInt = 0 := rfl
  have e1 : (65535 : Int32).toInt = 65535 := rfl
  have hc : c.toInt = c.toBitVec.toNat := by
    have := c.toBitVec.isLt
    have e : c.toInt = c.toBitVec.toInt := rfl
    rw [e] at h0 h1
    rw [e]
    rw [BitVec.toInt_eq_toNat_cond] at h0 h1 ⊢
    split at h0 <;> split <;> omega
  have hn : c.toBitVec.toNat < 65536 := by omega
  have a1 := lo8_and c
  have a2 : (hi8 c &&& 255).toBitVec.toNat = c.toBitVec.toNat / 256 := by
    rw [hi8, lo8_and]
    have e : ((8 : Int32) &&& 31) = 8 := by decide
    rw [e, Int32.toBitVec_shiftRight]
    have e2 : ((8 : Int32).toBitVec.smod 32) = 8#32 := by decide
    rw [e2, BitVec.sshiftRight_eq', BitVec.toNat_sshiftRight_of_msb_false (by rw [BitVec.msb_eq_false_iff_two_mul_lt]; omega)]
    show c.toBitVec.toNat >>> 8 % 256 = _
    rw [Nat.shiftRight_eq_div_pow]
    omega
  unfold pairCh
  apply Int32.toBitVec_inj.mp
  apply BitVec.eq_of_toNat_eq
  have f0 : ((0 : Int32) &&& 31) = 0 := by decide
  have f8 : ((8 : Int32) &&& 31) = 8 := by decide
  rw [f0, f8]
  have g : (((lo8 c &&& 255) <<< (0 : Int32)) ||| ((hi8 c &&& 255) <<< (8 : Int32))).toBitVec.toNat = c.toBitVec.toNat := by
    rw [Int32.toBitVec_or, Int32.toBitVec_shiftLeft, Int32.toBitVec_shiftLeft]
    have s0 : ((0 : Int32).toBitVec.smod 32) = 0#32 := by decide
    have s8 : ((8 : Int32).toBitVec.smod 32) = 8#32 := by decide
    rw [s0, s8, BitVec.toNat_or]
    simp only [BitVec.shiftLeft_eq', BitVec.toNat_shiftLeft, a1, a2]
    show (c.toBitVec.toNat % 256) <<< 0 % 2 ^ 32 ||| (c.toBitVec.toNat / 256) <<< 8 % 2 ^ 32 = _
    rw [Nat.shiftLeft_zero, Nat.mod_eq_of_lt (show c.toBitVec.toNat % 256 < 2 ^ 32 by omega), Nat.mod_eq_of_lt (show (c.toBitVec.toNat / 256) <<< 8 < 2 ^ 32 by rw [Nat.shiftLeft_eq]; omega), Nat.or_comm, ← Nat.shiftLeft_add_eq_or_of_lt (by omega), Nat.shiftLeft_eq]
    omega
  show BitVec.toNat (((((lo8 c &&& 255) <<< (0 : Int32)) ||| ((hi8 c &&& 255) <<< (8 : Int32))).toBitVec.setWidth 16).setWidth 32) = _
  rw [BitVec.toNat_setWidth, BitVec.toNat_setWidth, g]
  omega
end StrChars
namespace StrChars
open Jvm Sem ClassFile Op Lib Jvm.Stand Jvm.Free.XT Jvm.Free.ALB Jvm.Free.JM Jvm.Free
open Jvm.Lib.Cold (StaticIs)
theorem shr1 {n : Nat} (h : 2 * n < 2 ^ 31) : Int32.ofNat (2 * n) >>> ((1 : Int32) &&& 31) = Int32.ofNat n := by
  have e : ((1 : Int32) &&& 31) = 1 := by decide
  rw [e]
  apply Int32.toBitVec_inj.mp
  rw [Int32.toBitVec_shiftRight]
  have e1 : ((1 : Int32).toBitVec.smod 32) = 1#32 := by decide
  have hm : (BitVec.ofNat 32 (2 * n)).toNat = 2 * n := by rw [BitVec.toNat_ofNat, Nat.mod_eq_of_lt (by omega)]
  rw [e1, BitVec.sshiftRight_eq']
  apply BitVec.eq_of_toNat_eq
  show ((BitVec.ofNat 32 (2 * n)).sshiftRight 1).toNat = (BitVec.ofNat 32 n).toNat
  rw [BitVec.toNat_sshiftRight_of_msb_false (by rw [BitVec.msb_eq_false_iff_two_mul_lt, hm]; omega), hm, BitVec.toNat_ofNat, Nat.shiftRight_eq_div_pow]
  omega
/-- charAt's cast of a byte read back -/
def chr8 (u : Int32) : Int32 := (u &&& 255).toUInt32.toUInt16.toUInt32.toInt32
theorem chr8_lo8 {c : Int32} (h0 : ¬ c < 0) (h1 : ¬ 255 < c) : chr8 (lo8 c) = c := by
  have t : ∀ k : Fin 256, (Int32.ofNat k.val).toUInt32.toUInt16.toUInt32.toInt32 = Int32.ofNat k.val := by decide +kernel
  unfold chr8
  rw [lo8_mask h0 h1]
  rw [Int32.lt_iff_toInt_lt] at h0 h1
  have e0 : (0 : Int32).toInt = 0 := rfl
  have e1 : (255 : Int32).toInt = 255 := rfl
  obtain ⟨k, hk⟩ : ∃ k : Nat, c.toInt = k := ⟨c.toInt.toNat, by omega⟩
  have hx : c = Int32.ofNat k := Int32.toInt_inj.mp (by rw [hk, Int32.toInt_ofNat_small (by omega)])
  rw [hx]
  exact t ⟨k, by omega⟩
theorem narrow_ch {c : Int32} (h0 : ¬ c < 0) (h1 : ¬ 65535 < c) : narrow .char (.int c) = .int c := by
  have q : narrow .char (.int (pairCh (lo8 c) (hi8 c))) = .int (pairCh (lo8 c) (hi8 c)) := narrow_c _
  rwa [pair_says h0 h1] at q
/-- the array's cell V codes the n chars f 0 .. f (n - 1) by the coder cd, as the JDK does: coder 1 just where some char is above 255 -/
def Cod (cd : Int32) (n : Nat) (f : Nat → Int32) (V : Cell) : Prop := (cd = 0 ∧ V.slots.size = n ∧ ∀ j, j < n → V.slots[j]? = some (.int (lo8 (f j))) ∧ ¬ 255 < f j) ∨ (cd = 1 ∧ V.slots.size = 2 * n ∧ (∀ j, j < n → V.slots[2 * j]? = some (.int (lo8 (f j))) ∧ V.slots[2 * j + 1]? = some (.int (hi8 (f j)))) ∧ ∃ j, j < n ∧ 255 < f j)
theorem Cod.cd {cd : Int32} {n : Nat} {f : Nat → Int32} {V : Cell} (h : Cod cd n f V) : cd = 0 ∨ cd = 1 := h.imp (fun q => q.1) fun q => q.1
theorem Cod.len {cd : Int32} {n : Nat} {f : Nat → Int32} {V : Cell} (h : Cod cd n f V) (hs : V.slots.size < 2 ^ 31) : Int32.ofNat V.slots.size >>> (cd &&& 31) = Int32.ofNat n := by
  rcases h with ⟨rfl, h, -⟩ | ⟨rfl, h, -⟩
  · rw [shr0, h]
  · rw [h, shr1 (by omega)]
/-- **x is a String of the n chars f 0 .. f (n - 1)**, Latin-1 or UTF-16; its array at t has the cell V -/
def Txt (x t : Addr) (V : Cell) (cd : Int32) (n : Nat) (f : Nat → Int32) (U : State) : Prop := Exact "java/lang/String" x U ∧ Has x "java/lang/String" "value" "[B" (.ref t) U ∧ Has x "java/lang/String" "coder" "B" (.int cd) U ∧ XT.Arr .byte t V U ∧ Cod cd n f V ∧ ∀ j, j < n → ¬ f j < 0 ∧ ¬ 65535 < f j
theorem Txt.mv {x t : Addr} {V : Cell} {cd : Int32} {n : Nat} {f : Nat → Int32} {U U' : State} (h : Txt x t V cd n f U) (hal : U.vm.Alike U'.vm) (hh : U'.heap = U.heap) : Txt x t V cd n f U' := ⟨h.1.mv hal hh, h.2.1.mv hal hh, h.2.2.1.mv hal hh, h.2.2.2.1.mv hal hh, h.2.2.2.2⟩
namespace Cdr
def yN : MethodName := ⟨"java/lang/String", "coder", "()B"⟩
abbrev yB : ByteArray := jdk_42_method_152_code
theorem d0 : decode yB 0 = .ok (.getstatic 38, 3) := by decide +kernel
theorem d3 : decode yB 3 = .ok (.ifCond (.eq) 10, 3) := by decide +kernel
theorem d6 : decode yB 6 = .ok (.aload_n 0, 1) := by decide +kernel
theorem d7 : decode yB 7 = .ok (.getfield 15, 3) := by decide +kernel
theorem d10 : decode yB 10 = .ok (.goto 4, 3) := by decide +kernel
theorem d14 : decode yB 14 = .ok (.ireturn, 1) := by decide +kernel
def site : List Cond := [.fieldLink "java/lang/String" 38 "java/lang/String" "COMPACT_STRINGS" "Z", .fieldLink "java/lang/String" 15 "java/lang/String" "coder" "B"]
def tab : Cond := tabOf yN yB 1 (some .byte) site
def P (x : Addr) (cd z : Int32) (args : Array Value) (s : State) : Prop := args = #[.ref x] ∧ Has x "java/lang/String" "coder" "B" (.int cd) s ∧ (cd = 0 ∨ cd = 1) ∧ StaticIs s "java/lang/String" "COMPACT_STRINGS" "Z" (.int z) ∧ ¬ z = 0
def E (cd : Int32) (r : Option Value) (s u : State) : Prop := XT.PureE (some (.int cd)) r s u
theorem law (l : Launch) (x : Addr) (cd z : Int32) : Law l yN 1 0 0 0 yB 1 (some .byte) site (P x cd z) (E cd) [] 0 0 := by
  refine Law.of_walk (plainFor_of_name (by decide +kernel)) (by decide +kernel) (by decide +kernel) (by decide) (fun _ _ h => by rw [h.1]; rfl) (fun _ U U' hal hh h => ⟨h.1, h.2.1.mv hal hh, h.2.2.1, h.2.2.2.1.there hal hh, h.2.2.2.2⟩) (fun r U U' V V' h1 hal h2 h => XT.PureE.mv r U U' V V' h1 hal h2 h) ?_
  intro p e s m args below meth c s₁ X0 hexec hbytes hml hret hlk hnm hown hh0 W hP
  obtain ⟨rfl, hx, hc, s1, hz⟩ := hP
  have c1 : Steps p.tables e below (s₁.setTop (entryFrame m #[.ref x] 1)) (s₁.setTop (mkF m 0 #[.val (.ref x)] [])) := entry rfl
  obtain ⟨T2, X2, q2, st2⟩ := X0.sget hexec hown (wk W (.fieldLink "java/lang/String" 38 "java/lang/String" "COMPACT_STRINGS" "Z")) s1 (fun _ _ h => by rw [hh0]; exact h) (g := (mkF m 0 #[.val (.ref x)] [])) rfl (hb hbytes d0)
  have hh2 := q2.trans hh0
  have c3 : Steps p.tables e below (s₁.setTop (entryFrame m #[.ref x] 1)) (T2.setTop (mkF m 7 #[.val (.ref x)] [.ref x])) := (c1.trans (st2 _ (Steps.refl _))).trans (by
    refine XS.ifNo X2.here hexec rfl (hb hbytes d3) rfl (i0_eq_f hz) ?_
    refine XS.aloadN X2.here hexec rfl (hb hbytes d6) rfl rfl ?_
    exact Steps.refl _)
  obtain ⟨T4, X4, q4, st4⟩ := X2.hget hexec hown (wk W (.fieldLink "java/lang/String" 15 "java/lang/String" "coder" "B")) (hx.mv X2.warmed.alike hh2) (g := (mkF m 7 #[.val (.ref x)] [.ref x])) rfl (rest := []) rfl (hb hbytes d7)
  have c5 : Steps p.tables e below (s₁.setTop (entryFrame m #[.ref x] 1)) (T4.setTop (mkF m 14 #[.val (.ref x)] [.int cd])) := (c3.trans (st4 _ (Steps.refl _))).trans (by
    refine XS.goto X4.here hexec rfl (pc0 := 10) rfl (hb hbytes d10) (by decide) rfl ?_
    exact Steps.refl _)
  exact ⟨T4, some (.int cd), _, _, _, X4, rfl, rfl, rfl, (fun h => by cases h), ⟨rfl, q4.trans hh2⟩, fun fs hl => c5.trans (X4.ireturnOut hexec hret (by rcases hc with rfl | rfl <;> rfl) (Or.inr (Or.inr (Or.inl rfl))) (hb hbytes d14) hl)⟩
end Cdr
namespace Len
def yN : MethodName := ⟨"java/lang/String", "length", "()I"⟩
abbrev yB : ByteArray := jdk_42_method_54_code
theorem d0 : decode yB 0 = .ok (.aload_n 0, 1) := by decide +kernel
theorem d1 : decode yB 1 = .ok (.getfield 9, 3) := by decide +kernel
theorem d4 : decode yB 4 = .ok (.arraylength, 1) := by decide +kernel
theorem d5 : decode yB 5 = .ok (.aload_n 0, 1) := by decide +kernel
theorem d6 : decode yB 6 = .ok (.invokevirtual 335, 3) := by decide +kernel
theorem d9 : decode yB 9 = .ok (.ishr, 1) := by decide +kernel
theorem d10 : decode yB 10 = .ok (.ireturn, 1) := by decide +kernel
def site : List Cond := [.fieldLink "java/lang/String" 9 "java/lang/String" "value" "[B", Cdr.tab] ++ virtW "java/lang/String" 335 "java/lang/String" Cdr.yN Cdr.yN
def tab : Cond := tabOf yN yB 1 (some .int) site
def P (x t : Addr) (V : Cell) (cd : Int32) (n : Nat) (f : Nat → Int32) (z : Int32) (args : Array Value) (s : State) : Prop := args = #[.ref x] ∧ Txt x t V cd n f s ∧ StaticIs s "java/lang/String" "COMPACT_STRINGS" "Z" (.int z) ∧ ¬ z = 0
def E (n : Nat) (r : Option Value) (s u : State) : Prop := XT.PureE (some (.int (Int32.ofNat n))) r s u
/-- length() of a String of n chars, in either coding -/
theorem law (l : Launch) (x t : Addr) (V : Cell) (cd : Int32) (n : Nat) (f : Nat → Int32) (z : Int32) : Law l yN 1 0 1 13 yB 1 (some .int) site (P x t V cd n f z) (E n) [] 0 0 := by
  refine Law.of_walk (plainFor_of_name (by decide +kernel)) (by decide +kernel) (by decide +kernel) (by decide) (fun _ _ h => by rw [h.1]; rfl) (fun _ U U' hal hh h => ⟨h.1, h.2.1.mv hal hh, h.2.2.1.there hal hh, h.2.2.2⟩) (fun r U U' V V' h1 hal h2 h => XT.PureE.mv r U U' V V' h1 hal h2 h) ?_
  intro p e s m args below meth c s₁ X0 hexec hbytes hml hret hlk hnm hown hh0 W hP
  obtain ⟨rfl, hx, s1, hz⟩ := hP
  have v31 := hx.2.2.2.1.2.2.2
  have c1 : Steps p.tables e below (s₁.setTop (entryFrame m #[.ref x] 1)) (s₁.setTop (mkF m 1 #[.val (.ref x)] [.ref x])) := Steps.trans (entry rfl) (by
    show Steps p.tables e below (s₁.setTop (mkF m 0 #[.val (.ref x)] [])) _
    refine XS.aloadN X0.here hexec rfl (hb hbytes d0) rfl rfl ?_
    exact Steps.refl _)
  obtain ⟨T2, X2, q2, st2⟩ := X0.hget hexec hown (wk W (.fieldLink "java/lang/String" 9 "java/lang/String" "value" "[B")) (hx.mv X0.warmed.alike hh0).2.1 (g := (mkF m 1 #[.val (.ref x)] [.ref x])) rfl (rest := []) rfl (hb hbytes d1)
  have hh2 := q2.trans hh0
  have hx2 := hx.mv X2.warmed.alike hh2
  have c3 : Steps p.tables e below (s₁.setTop (entryFrame m #[.ref x] 1)) (T2.setTop (mkF m 6 #[.val (.ref x)] [.ref x, .int (Int32.ofNat V.slots.size)])) := (c1.trans (st2 _ (Steps.refl _))).trans (by
    refine X2.alen hexec hx2.2.2.2.1 rfl rfl (hb hbytes d4) ?_
    refine XS.aloadN X2.here hexec rfl (hb hbytes d5) rfl rfl ?_
    exact Steps.refl _)
  obtain ⟨v4, T4, X4, E4, g4⟩ := X2.callV hexec (Cdr.law l x cd z) hown (wks W (virtW "java/lang/String" 335 "java/lang/String" Cdr.yN Cdr.yN)) rfl (by decide) (wk W Cdr.tab) (W := 1) (Nat.le_of_ble_eq_true rfl) (Nat.le_of_ble_eq_true rfl) (Nat.le_refl _) (Nat.le_refl _) (hx2.1.fc X2.warmed.alike) hx2.1.is (g := (mkF m 6 #[.val (.ref x)] [.ref x, .int (Int32.ofNat V.slots.size)])) rfl (by rw [hml]; rfl) c3 (argsL := []) (rest := [.int (Int32.ofNat V.slots.size)]) rfl rfl (by show 2 * 0 + (1 + 0) ≤ _; decide) (hb hbytes d6) (⟨rfl, hx2.2.2.1, hx.2.2.2.2.1.cd, s1.there X2.warmed.alike hh2, hz⟩)
  obtain ⟨rfl, q4⟩ := E4
  have c5 : Steps p.tables e below (s₁.setTop (entryFrame m #[.ref x] 1)) (T4.setTop (mkF m 10 #[.val (.ref x)] [.int (Int32.ofNat V.slots.size >>> (cd &&& 31))])) := Steps.trans g4 (by
    refine ishr X4.here hexec rfl (hb hbytes d9) rfl ?_
    exact Steps.refl _)
  rw [hx.2.2.2.2.1.len v31] at c5
  exact ⟨T4, some (.int (Int32.ofNat n)), _, _, _, X4, rfl, rfl, rfl, (fun h => by cases h), ⟨rfl, q4.trans hh2⟩, fun fs hl => c5.trans (X4.ireturnOut hexec hret rfl (Or.inl rfl) (hb hbytes d10) hl)⟩
theorem pays {l : Launch} {R : Room} {p : Program} {e : Env} {below : List Frame} {s : State} {sargs : Array Value} {len W : Nat} (x t : Addr) (V : Cell) (cd : Int32) (n : Nat) (f : Nat → Int32) (z : Int32) (htab : tab.before sargs s = true) (hfr : 2 ≤ R.frames) (hlo : W + 25 ≤ R.locals) :
    Back l R p e below s sargs yN len W (fun A₁ a₁ => A₁.cells + 0 ≤ R.cells ∧ A₁.slots + 0 ≤ R.slots ∧ P x t V cd n f z a₁ A₁.U) (fun A₁ _ v₁ B₁ => E n v₁ A₁.U B₁.U ∧ B₁.locs = A₁.locs ++ [] ∧ B₁.cells = A₁.cells + 0 ∧ B₁.slots = A₁.slots + 0) :=
  (law l x t V cd n f z).pays htab hfr (by omega)
end Len
namespace IsL
def yN : MethodName := ⟨"java/lang/String", "isLatin1", "()Z"⟩
abbrev yB : ByteArray := jdk_42_method_154_code
theorem d0 : decode yB 0 = .ok (.getstatic 38, 3) := by decide +kernel
theorem d3 : decode yB 3 = .ok (.ifCond (.eq) 14, 3) := by decide +kernel
theorem d6 : decode yB 6 = .ok (.aload_n 0, 1) := by decide +kernel
theorem d7 : decode yB 7 = .ok (.getfield 15, 3) := by decide +kernel
theorem d10 : decode yB 10 = .ok (.ifCond (.ne) 7, 3) := by decide +kernel
theorem d13 : decode yB 13 = .ok (.iconst 1, 1) := by decide +kernel
theorem d14 : decode yB 14 = .ok (.goto 4, 3) := by decide +kernel
theorem d17 : decode yB 17 = .ok (.iconst 0, 1) := by decide +kernel
theorem d18 : decode yB 18 = .ok (.ireturn, 1) := by decide +kernel
def site : List Cond := [.fieldLink "java/lang/String" 38 "java/lang/String" "COMPACT_STRINGS" "Z", .fieldLink "java/lang/String" 15 "java/lang/String" "coder" "B"]
def tab : Cond := tabOf yN yB 1 (some .boolean) site
def P (x : Addr) (cd z : Int32) (args : Array Value) (s : State) : Prop := args = #[.ref x] ∧ Has x "java/lang/String" "coder" "B" (.int cd) s ∧ (cd = 0 ∨ cd = 1) ∧ StaticIs s "java/lang/String" "COMPACT_STRINGS" "Z" (.int z) ∧ ¬ z = 0
def E (cd : Int32) (r : Option Value) (s u : State) : Prop := XT.PureE (some (.int (1 - cd))) r s u
theorem law (l : Launch) (x : Addr) (cd z : Int32) : Law l yN 1 0 0 0 yB 1 (some .boolean) site (P x cd z) (E cd) [] 0 0 := by
  refine Law.of_walk (plainFor_of_name (by decide +kernel)) (by decide +kernel) (by decide +kernel) (by decide) (fun _ _ h => by rw [h.1]; rfl) (fun _ U U' hal hh h => ⟨h.1, h.2.1.mv hal hh, h.2.2.1, h.2.2.2.1.there hal hh, h.2.2.2.2⟩) (fun r U U' V V' h1 hal h2 h => XT.PureE.mv r U U' V V' h1 hal h2 h) ?_
  intro p e s m args below meth c s₁ X0 hexec hbytes hml hret hlk hnm hown hh0 W hP
  obtain ⟨rfl, hx, hc, s1, hz⟩ := hP
  have c1 : Steps p.tables e below (s₁.setTop (entryFrame m #[.ref x] 1)) (s₁.setTop (mkF m 0 #[.val (.ref x)] [])) := entry rfl
  obtain ⟨T2, X2, q2, st2⟩ := X0.sget hexec hown (wk W (.fieldLink "java/lang/String" 38 "java/lang/String" "COMPACT_STRINGS" "Z")) s1 (fun _ _ h => by rw [hh0]; exact h) (g := (mkF m 0 #[.val (.ref x)] [])) rfl (hb hbytes d0)
  have hh2 := q2.trans hh0
  have c3 : Steps p.tables e below (s₁.setTop (entryFrame m #[.ref x] 1)) (T2.setTop (mkF m 7 #[.val (.ref x)] [.ref x])) := (c1.trans (st2 _ (Steps.refl _))).trans (by
    refine XS.ifNo X2.here hexec rfl (hb hbytes d3) rfl (i0_eq_f hz) ?_
    refine XS.aloadN X2.here hexec rfl (hb hbytes d6) rfl rfl ?_
    exact Steps.refl _)
  obtain ⟨T4, X4, q4, st4⟩ := X2.hget hexec hown (wk W (.fieldLink "java/lang/String" 15 "java/lang/String" "coder" "B")) (hx.mv X2.warmed.alike hh2) (g := (mkF m 7 #[.val (.ref x)] [.ref x])) rfl (rest := []) rfl (hb hbytes d7)
  have c5 : Steps p.tables e below (s₁.setTop (entryFrame m #[.ref x] 1)) (T4.setTop (mkF m 10 #[.val (.ref x)] [.int cd])) := c3.trans (st4 _ (Steps.refl _))
  have c6 : Steps p.tables e below (s₁.setTop (entryFrame m #[.ref x] 1)) (T4.setTop (mkF m 18 #[.val (.ref x)] [.int (1 - cd)])) := by
    rcases hc with rfl | rfl
    · exact c5.trans (by
        refine XS.ifNo X4.here hexec rfl (hb hbytes d10) rfl (i0_ne_f rfl) ?_
        refine iconstV X4.here hexec rfl 1 (hb hbytes d13) (by decide) ?_
        refine XS.goto X4.here hexec rfl (pc0 := 14) rfl (hb hbytes d14) (by decide) rfl ?_
        exact Steps.refl _)
    · exact c5.trans (by
        refine XS.ifYes X4.here hexec rfl (pc0 := 10) rfl (hb hbytes d10) rfl (i0_ne_t (by decide)) (by decide) rfl ?_
        refine iconstV X4.here hexec rfl 0 (hb hbytes d17) (by decide) ?_
        exact Steps.refl _)
  exact ⟨T4, some (.int (1 - cd)), _, _, _, X4, rfl, rfl, rfl, (fun h => by cases h), ⟨rfl, q4.trans hh2⟩, fun fs hl => c6.trans (X4.ireturnOut hexec hret (by rcases hc with rfl | rfl <;> rfl) (Or.inr (Or.inl rfl)) (hb hbytes d18) hl)⟩
end IsL
namespace LChA
def yN : MethodName := ⟨"java/lang/StringLatin1", "charAt", "([BI)C"⟩
abbrev yB : ByteArray := jdk_43_method_2_code
theorem d0 : decode yB 0 = .ok (.iload_n 1, 1) := by decide +kernel
theorem d1 : decode yB 1 = .ok (.aload_n 0, 1) := by decide +kernel
theorem d2 : decode yB 2 = .ok (.arraylength, 1) := by decide +kernel
theorem d3 : decode yB 3 = .ok (.invokestatic 9, 3) := by decide +kernel
theorem d6 : decode yB 6 = .ok (.aload_n 0, 1) := by decide +kernel
theorem d7 : decode yB 7 = .ok (.iload_n 1, 1) := by decide +kernel
theorem d8 : decode yB 8 = .ok (.baload, 1) := by decide +kernel
theorem d9 : decode yB 9 = .ok (.sipush 255, 3) := by decide +kernel
theorem d12 : decode yB 12 = .ok (.iand, 1) := by decide +kernel
theorem d13 : decode yB 13 = .ok (.i2c, 1) := by decide +kernel
theorem d14 : decode yB 14 = .ok (.ireturn, 1) := by decide +kernel
def site : List Cond := [JO.Str_checkIndex.tab] ++ staticW "java/lang/StringLatin1" 9 JO.Str_checkIndex.yN
def tab : Cond := tabOf yN yB 2 (some .char) site
def P (t : Addr) (V : Cell) (i : Nat) (u : Int32) (fm : Value) (args : Array Value) (s : State) : Prop := args = #[.ref t, .int (Int32.ofNat i)] ∧ XT.Arr .byte t V s ∧ V.slots[i]? = some (.int u) ∧ (StaticIs s "jdk/internal/util/Preconditions" "SIOOBE_FORMATTER" "Ljava/util/function/BiFunction;" fm ∧ fm.isRef = true)
def E (u : Int32) (r : Option Value) (s w : State) : Prop := XT.PureE (some (.int (chr8 u))) r s w
theorem law (l : Launch) (t : Addr) (V : Cell) (i : Nat) (u : Int32) (fm : Value) : Law l yN 2 2 2 27 yB 2 (some .char) site (P t V i u fm) (E u) [] 0 0 := by
  refine Law.of_walk (plainFor_of_name (by decide +kernel)) (by decide +kernel) (by decide +kernel) (by decide) (fun _ _ h => by rw [h.1]; rfl) (fun _ U U' hal hh h => ⟨h.1, h.2.1.mv hal hh, h.2.2.1, h.2.2.2.1.there hal hh, h.2.2.2.2⟩) (fun r U U' V V' h1 hal h2 h => XT.PureE.mv r U U' V V' h1 hal h2 h) ?_
  intro p e s m args below meth c s₁ X0 hexec hbytes hml hret hlk hnm hown hh0 W hP
  obtain ⟨rfl, hV, hu, s1, rf⟩ := hP
  have v31 := hV.2.2.2
  have hi : i < V.slots.size := (Array.getElem?_eq_some_iff.mp hu).1
  have c1 : Steps p.tables e below (s₁.setTop (entryFrame m #[.ref t, .int (Int32.ofNat i)] 2)) (s₁.setTop (mkF m 0 #[.val (.ref t), .val (.int (Int32.ofNat i))] [])) := entry rfl
  have c2 : Steps p.tables e below (s₁.setTop (entryFrame m #[.ref t, .int (Int32.ofNat i)] 2)) (s₁.setTop (mkF m 3 #[.val (.ref t), .val (.int (Int32.ofNat i))] [.int (Int32.ofNat V.slots.size), .int (Int32.ofNat i)])) := c1.trans (by
    refine XS.iloadN X0.here hexec rfl (hb hbytes d0) rfl ?_
    refine XS.aloadN X0.here hexec rfl (hb hbytes d1) rfl rfl ?_
    refine X0.alen hexec (hV.mv X0.warmed.alike hh0) rfl rfl (hb hbytes d2) ?_
    exact Steps.refl _)
  obtain ⟨v3, T3, X3, E3, g3⟩ := X0.callS hexec (JO.Str_checkIndex.law l (Int32.ofNat i) (Int32.ofNat V.slots.size) fm) hown (wks W (staticW "java/lang/StringLatin1" 9 JO.Str_checkIndex.yN)) (wk W JO.Str_checkIndex.tab) (W := 0) (Nat.le_of_ble_eq_true rfl) (Nat.le_of_ble_eq_true rfl) (Nat.le_refl _) (Nat.le_refl _) (g := (mkF m 3 #[.val (.ref t), .val (.int (Int32.ofNat i))] [.int (Int32.ofNat V.slots.size), .int (Int32.ofNat i)])) rfl (by rw [hml]; rfl) c2 (argsL := [.int (Int32.ofNat i), .int (Int32.ofNat V.slots.size)]) (rest := []) rfl rfl (by show 2 * 0 + 0 ≤ _; decide) (hb hbytes d3) (⟨rfl, rf, s1.there X0.warmed.alike hh0, Int32.ofNat_not_neg (by omega), lt32 v31 hi⟩)
  obtain ⟨rfl, q3⟩ := E3
  have hh3 := q3.trans hh0
  have c4 : Steps p.tables e below (s₁.setTop (entryFrame m #[.ref t, .int (Int32.ofNat i)] 2)) (T3.setTop (mkF m 14 #[.val (.ref t), .val (.int (Int32.ofNat i))] [.int (chr8 u)])) := Steps.trans g3 (by
    refine XS.aloadN X3.here hexec rfl (hb hbytes d6) rfl rfl ?_
    refine XS.iloadN X3.here hexec rfl (hb hbytes d7) rfl ?_
    refine X3.aget hexec (hV.mv X3.warmed.alike hh3) rfl hu rfl rfl (hb hbytes d8) ?_
    refine sipushV X3.here hexec rfl 255 (hb hbytes d9) (by decide) ?_
    refine XS.iand X3.here hexec rfl (hb hbytes d12) rfl ?_
    refine i2c X3.here hexec rfl (hb hbytes d13) rfl ?_
    exact Steps.refl _)
  exact ⟨T3, some (.int (chr8 u)), _, _, _, X3, rfl, rfl, rfl, (fun h => by cases h), ⟨rfl, hh3⟩, fun fs hl => c4.trans (X3.ireturnOut hexec hret (narrow_c _) (Or.inr (Or.inr (Or.inr (Or.inl rfl)))) (hb hbytes d14) hl)⟩
end LChA
end StrChars
namespace StrChars.Road
open Jvm Sem ClassFile Op Lib Jvm.Stand Jvm.Free Jvm.Free.XT
open Jvm.Lib.Cold (StaticIs)
theorem consq {a : Array Value} {s : State} {c : Jvm.Cond} {L : List Jvm.Cond} (h0 : c.before a s = true) (h : ∀ w ∈ L, w.before a s = true) : ∀ w ∈ c :: L, w.before a s = true := fun w hw => (List.mem_cons.mp hw).elim (fun e => e ▸ h0) (h w)
/-- the words of String.length(), either coding -/
abbrev wordsLen : List Jvm.Cond := [.code Len.yN Len.yB 1 (some .int), .initialized ST, .fieldLink ST 9 ST "value" "[B", .fieldLink ST 38 ST "COMPACT_STRINGS" "Z", .fieldLink ST 15 ST "coder" "B", .code Cdr.yN Cdr.yB 1 (some .byte), .methodLink ST 335 Cdr.yN, .declares Cdr.yN, .selects ST Cdr.yN Cdr.yN, .instanceMethod Cdr.yN]
theorem tabLen_of {a : Array Value} {s : State} (h : ∀ w ∈ wordsLen, w.before a s = true) : Len.tab.before a s = true := by
  have hc : Cdr.tab.before a s = true := unparts (wk h (.code Cdr.yN Cdr.yB 1 (some .byte))) (wks h (.initialized Cdr.yN.cls :: Cdr.site))
  have q := consq hc h
  exact unparts (wk q (.code Len.yN Len.yB 1 (some .int))) (wks q (.initialized Len.yN.cls :: Len.site))
theorem movedLen {Z s : State} {a0 args : Array Value} (hZ : Z.Warmed39 s.vm) (hw : ∀ d ∈ wordsLen, d.before a0 Z = true) : ∀ d ∈ wordsLen, d.before args s = true := fun d hd => by
  have q := hw d hd
  have t : ∀ d ∈ wordsLen, d = .arrayClass .byte ∨ (d.onTables && d.keepsFace) = true := by decide +kernel
  rcases t d hd with rfl | t
  · exact RoadKit.mvA hZ q
  · exact RoadKit.mv hZ q t
/-- the bytes of the chars cs, low before high -/
def wideBytes : List Int32 → List Value
  | [] => []
  | c :: cs => .int (lo8 c) :: .int (hi8 c) :: wideBytes cs
theorem wide_lo (d : Value) : ∀ (cs : List Int32) (j : Nat), j < cs.length → (wideBytes cs).getD (2 * j) d = .int (lo8 (cs.getD j 0))
  | [], j, h => absurd h (Nat.not_lt_zero j)
  | c :: cs, 0, _ => rfl
  | c :: cs, j + 1, h => by
    have q := wide_lo d cs j (by simpa using h)
    rw [show 2 * (j + 1) = 2 * j + 1 + 1 from by omega]
    simpa [wideBytes] using q
theorem wide_hi (d : Value) : ∀ (cs : List Int32) (j : Nat), j < cs.length → (wideBytes cs).getD (2 * j + 1) d = .int (hi8 (cs.getD j 0))
  | [], j, h => absurd h (Nat.not_lt_zero j)
  | c :: cs, 0, _ => rfl
  | c :: cs, j + 1, h => by
    have q := wide_hi d cs j (by simpa using h)
    rw [show 2 * (j + 1) + 1 = 2 * j + 1 + 1 + 1 from by omega]
    simpa [wideBytes] using q
theorem low_at (d : Value) (cs : List Int32) (j : Nat) (h : j < cs.length) : (cs.map fun c => Value.int (lo8 c)).getD j d = .int (lo8 (cs.getD j 0)) := by
  simp [List.getD_eq_getElem?_getD, h]
/-- an array of N2 bytes vs codes the chars cs by the coder cd -/
def CodA (cs : List Int32) (cd N2 : Int32) (vs : List Value) : Prop := (cd = 0 ∧ N2 = Int32.ofNat cs.length ∧ vs = (cs.map fun c => Value.int (lo8 c)) ∧ ∀ c ∈ cs, ¬ 255 < c) ∨ (cd = 1 ∧ N2 = Int32.ofNat (2 * cs.length) ∧ vs = wideBytes cs ∧ ∃ c ∈ cs, 255 < c)
theorem CodA.cod {cs : List Int32} {cd N2 : Int32} {vs : List Value} {V : Cell} (h : CodA cs cd N2 vs) (hn : 2 * cs.length < 2 ^ 31) (hs : V.slots.size = N2.toNatClampNeg) (hv : RoadKit.Has V vs (.int 0)) : Cod cd cs.length (fun j => cs.getD j 0) V := by
  rcases h with ⟨rfl, rfl, rfl, h⟩ | ⟨rfl, rfl, rfl, c, hc, hw⟩
  · rw [n32 (by omega)] at hs
    exact Or.inl ⟨rfl, hs, fun j hj => ⟨by rw [hv j (by omega), low_at _ _ _ hj], by
      have e : cs.getD j 0 = cs[j] := by simp [List.getD_eq_getElem?_getD, hj]
      show ¬ 255 < cs.getD j 0
      rw [e]; exact h _ (List.getElem_mem _)⟩⟩
  · rw [n32 (by omega)] at hs
    obtain ⟨j, hj, rfl⟩ := List.getElem_of_mem hc
    exact Or.inr ⟨rfl, hs, fun j hj => ⟨by rw [hv _ (by omega), wide_lo _ _ _ hj], by rw [hv _ (by omega), wide_hi _ _ _ hj]⟩, j, hj, by
      have e : cs.getD j 0 = cs[j] := by simp [List.getD_eq_getElem?_getD, hj]
      show 255 < cs.getD j 0
      rw [e]; exact hw⟩
/-- an object of exactly java/lang/String, its two fields found: as the laws ask it -/
theorem strObj {Z U : State} {a0 : Array Value} {kI : Nat} (wi : (Jvm.Cond.instantiable ST kI).before a0 Z = true) (al : Z.vm.Alike U.vm) {x : Addr} {v0 c0 : Value} (E : RoadKit.Exa Z U.heap x ST) (V : RoadKit.Fld Z U.heap x ST "value" "[B" v0) (C : RoadKit.Fld Z U.heap x ST "coder" "B" c0) :
    ∃ (D : Cell) (fV fC : Field), Blank ST x D U ∧ Found ST "value" "[B" fV U ∧ Found ST "coder" "B" fC U ∧ D.slots[fV.slot]? = some v0 ∧ D.slots[fC.slot]? = some c0 ∧ RoadKit.slotOf Z ST "value" "[B" = fV.slot ∧ RoadKit.slotOf Z ST "coder" "B" = fC.slot := by
  obtain ⟨D, cfV, kV, iV, fV, hD, gV, stV, knV, obV, asV, slV⟩ := V
  obtain ⟨D', cfC, kC, iC, fC, hD', gC, stC, -, -, asC, slC⟩ := C
  cases hD.symm.trans hD'
  obtain ⟨D2, kD, e1, e2, e3, e4, e5⟩ := E
  cases hD.symm.trans e1
  obtain ⟨c2, k2, i1, i2, i3, -⟩ := Cond.instantiable_spec wi
  cases e2.symm.trans i1
  cases e3.symm.trans i2
  obtain ⟨kU, u1, u2⟩ := al.2.2 _ _ e3
  exact ⟨D, fV, fC, ⟨hD, ⟨knV, fun q hq => by rw [hq] at obV; cases obV⟩, by rw [al.findClass]; exact e2, kU, u1, by rw [u2]; exact i3, by rw [u2]; exact e5 i3⟩, ⟨SBG.found_only al ⟨cfV, kV, iV, gV⟩, stV⟩, ⟨SBG.found_only al ⟨cfC, kC, iC, gC⟩, stC⟩, slV, slC, by simp [RoadKit.slotOf, gV], by simp [RoadKit.slotOf, gC]⟩
theorem sta_is {Z U : State} (al : Z.vm.Alike U.vm) {C n d : String} {v : Value} (S : RoadKit.Sta Z U.heap C n d v) : StaticIs U C n d v := by
  obtain ⟨cfS, iS, kS, fS, st, cS, t1, t2, t3, t4, t5, t6, t7⟩ := S
  exact StaticIs.there (s := { Z with heap := U.heap }) ⟨cfS, iS, kS, fS, st, cS, t1, t2, t3, t4, t5, (fun q => by rw [q] at t6; cases t6), t7⟩ al rfl
/-- **length() OF SUCH A STRING** -/
theorem lenW {p : Program} {l : Launch} {e : Env} {R : Room} {s : State} {args : Array Value} {below : List Frame} {len W : Nat} {Z : State} {a0 : Array Value} {h : Heap} (hZ : Z.Warmed39 s.vm) (hw : ∀ d ∈ wordsLen, d.before a0 Z = true) {kI : Nat} (wi : (Jvm.Cond.instantiable ST kI).before a0 Z = true)
    {x t : Addr} {kb : ClassId} {cs : List Int32} {cd N2 z : Int32} {vs : List Value} (E : RoadKit.Exa Z h x ST) (V : RoadKit.Fld Z h x ST "value" "[B" (.ref t)) (C : RoadKit.Fld Z h x ST "coder" "B" (.int cd)) (K : RoadKit.Arv Z h t kb .byte N2 vs (.int 0)) (hc : CodA cs cd N2 vs) (hb : ∀ c ∈ cs, ¬ c < 0 ∧ ¬ (65535 : Int32) < c)
    (S : RoadKit.Sta Z h ST "COMPACT_STRINGS" "Z" (.int z)) (hz : ¬ z = 0) (l2 : cs.length ≤ 4000) (hfr : 2 ≤ R.frames) (hlo : W + 25 ≤ R.locals) :
    Back l R p e below s args (⟨"java/lang/String", "length", "()I"⟩ : MethodName) len W (fun P a => a = #[.ref x] ∧ P.U.heap = h ∧ P.cells + 0 ≤ R.cells ∧ P.slots + 0 ≤ R.slots)
      (fun P _ v B => ∃ L, (v = some (.int (Int32.ofNat cs.length)) ∧ L = [] ∧ B.U.heap = h) ∧ B.locs = P.locs ++ L ∧ B.cells = P.cells + 0 ∧ B.slots = P.slots + 0) := by
  obtain ⟨A, K1, K2, K3, K4, K5, K6⟩ := K
  have hcod := hc.cod (by omega) K3 K5
  intro m meth c P g ig mk a X hg hsize hdg hW hn hp'
  obtain ⟨rfl, rfl, r1, r2⟩ := hp'
  have al : Z.vm.Alike P.U.vm := hZ.alike.trans X.warmed.alike
  obtain ⟨D, fV, fC, hB, F1, F2, g1, g2, -, -⟩ := strObj wi al E V C
  have hx : Txt x t A cd cs.length (fun j => cs.getD j 0) P.U := ⟨⟨_, hB.2.2.1, D, hB.1, rfl, by cases q : D.vm <;> first | rfl | exact absurd q (hB.2.1.2 _)⟩, Has.of hB F1 g1, Has.of hB F2 g2, ⟨K1.1, State.isArrayOf_alike al K1.2.1, K1.2.2, by rcases hcod with ⟨-, q, -⟩ | ⟨-, q, -⟩ <;> omega⟩, hcod, fun j hj => by
    have e : cs.getD j 0 = cs[j] := by simp [List.getD_eq_getElem?_getD, hj]
    show ¬ cs.getD j 0 < 0 ∧ ¬ 65535 < cs.getD j 0
    rw [e]; exact hb _ (List.getElem_mem _)⟩
  obtain ⟨v, B, X', ⟨⟨hv, hh⟩, hl, hk, hs⟩, st⟩ := Len.pays x t A cd cs.length (fun j => cs.getD j 0) z (tabLen_of (movedLen hZ hw)) hfr hlo m meth c P g ig mk _ X hg hsize hdg hW hn ⟨r1, r2, rfl, hx, sta_is al S, hz⟩
  exact ⟨v, B, X', ⟨[], ⟨hv, rfl, hh⟩, hl, hk, hs⟩, st⟩
end StrChars.Road
namespace StrChars
open Jvm Sem ClassFile Op Lib Jvm.Stand Jvm.Free.XT Jvm.Free.ALB Jvm.Free.JM Jvm.Free
open Jvm.Lib.Cold (StaticIs)
/-- what place i of a byte[]'s cell holds -/
def yv (A : Cell) (i : Nat) : Int32 := match A.slots[i]? with | some (.int x) => x | _ => 0
theorem yv_get {a : Addr} {A : Cell} {U : State} (h : XT.Arr .byte a A U) (ht : Typed .byte A) {i : Nat} (hi : i < A.slots.size) : A.slots[i]? = some (.int (yv A i)) := by
  have e := Array.getElem?_eq_getElem hi
  have f := ht i _ e
  unfold yv; rw [e]
  generalize A.slots[i] = v at f
  cases v <;> simp [fits] at f ⊢
/-- the two arrays are equal, place for place -/
def EqC (A B : Cell) : Prop := A.slots.size = B.slots.size ∧ ∀ i, i < A.slots.size → yv A i = yv B i
/-- a boolean that says whether p -/
def Says01 (q : Prop) (r : Option Value) (s u : State) : Prop := ∃ v : Int32, r = some (.int v) ∧ u.heap = s.heap ∧ ((v = 1 ∧ q) ∨ (v = 0 ∧ ¬ q))
theorem Says01.mv {q : Prop} : ∀ r (U U' V V' : State), U'.heap = U.heap → V.vm.Alike V'.vm → V'.heap = V.heap → Says01 q r U V → Says01 q r U' V' :=
  fun r U U' V V' h1 _ h2 ⟨v, a, b, c⟩ => ⟨v, a, by rw [h1, h2]; exact b, c⟩
namespace LEq
def yN : MethodName := ⟨"java/lang/StringLatin1", "equals", "([B[B)Z"⟩
abbrev yB : ByteArray := jdk_43_method_13_code
theorem d0 : decode yB 0 = .ok (.aload_n 0, 1) := by decide +kernel
theorem d1 : decode yB 1 = .ok (.arraylength, 1) := by decide +kernel
theorem d2 : decode yB 2 = .ok (.aload_n 1, 1) := by decide +kernel
theorem d3 : decode yB 3 = .ok (.arraylength, 1) := by decide +kernel
theorem d4 : decode yB 4 = .ok (.if_icmp (.ne) 30, 3) := by decide +kernel
theorem d7 : decode yB 7 = .ok (.iconst 0, 1) := by decide +kernel
theorem d8 : decode yB 8 = .ok (.istore_n 2, 1) := by decide +kernel
theorem d9 : decode yB 9 = .ok (.iload_n 2, 1) := by decide +kernel
theorem d10 : decode yB 10 = .ok (.aload_n 0, 1) := by decide +kernel
theorem d11 : decode yB 11 = .ok (.arraylength, 1) := by decide +kernel
theorem d12 : decode yB 12 = .ok (.if_icmp (.ge) 20, 3) := by decide +kernel
theorem d15 : decode yB 15 = .ok (.aload_n 0, 1) := by decide +kernel
theorem d16 : decode yB 16 = .ok (.iload_n 2, 1) := by decide +kernel
theorem d17 : decode yB 17 = .ok (.baload, 1) := by decide +kernel
theorem d18 : decode yB 18 = .ok (.aload_n 1, 1) := by decide +kernel
theorem d19 : decode yB 19 = .ok (.iload_n 2, 1) := by decide +kernel
theorem d20 : decode yB 20 = .ok (.baload, 1) := by decide +kernel
theorem d21 : decode yB 21 = .ok (.if_icmp (.eq) 5, 3) := by decide +kernel
theorem d24 : decode yB 24 = .ok (.iconst 0, 1) := by decide +kernel
theorem d25 : decode yB 25 = .ok (.ireturn, 1) := by decide +kernel
theorem d26 : decode yB 26 = .ok (.iinc 2 1, 3) := by decide +kernel
theorem d29 : decode yB 29 = .ok (.goto (-20), 3) := by decide +kernel
theorem d32 : decode yB 32 = .ok (.iconst 1, 1) := by decide +kernel
theorem d33 : decode yB 33 = .ok (.ireturn, 1) := by decide +kernel
theorem d34 : decode yB 34 = .ok (.iconst 0, 1) := by decide +kernel
theorem d35 : decode yB 35 = .ok (.ireturn, 1) := by decide +kernel
def site : List Cond := []
def tab : Cond := tabOf yN yB 3 (some .boolean) site
def P (a : Addr) (A : Cell) (b : Addr) (B : Cell) (args : Array Value) (s : State) : Prop := args = #[.ref a, .ref b] ∧ XT.Arr .byte a A s ∧ Typed .byte A ∧ XT.Arr .byte b B s ∧ Typed .byte B
/-- whether two byte[] are equal, place for place -/
theorem law (l : Launch) (a : Addr) (A : Cell) (b : Addr) (B : Cell) : Law l yN 2 2 0 0 yB 3 (some .boolean) site (P a A b B) (Says01 (EqC A B)) [] 0 0 := by
  refine Law.of_walk (plainFor_of_name (by decide +kernel)) (by decide +kernel) (by decide +kernel) (by decide) (fun _ _ h => by rw [h.1]; rfl) (fun _ U U' hal hh h => ⟨h.1, h.2.1.mv hal hh, h.2.2.1, h.2.2.2.1.mv hal hh, h.2.2.2.2⟩) (fun r U U' V V' h1 hal h2 h => Says01.mv r U U' V V' h1 hal h2 h) ?_
  intro p e s m args below meth c s₁ X0 hexec hbytes hml hret hlk hnm hown hh0 W hP
  obtain ⟨rfl, hA, tA, hB, tB⟩ := hP
  have a31 := hA.2.2.2
  have b31 := hB.2.2.2
  have hA0 := hA.mv X0.warmed.alike hh0
  have hB0 := hB.mv X0.warmed.alike hh0
  have c1 : Steps p.tables e below (s₁.setTop (entryFrame m #[.ref a, .ref b] 3)) (s₁.setTop (mkF m 0 #[.val (.ref a), .val (.ref b), .unset] [])) := entry rfl
  have c2 : Steps p.tables e below (s₁.setTop (entryFrame m #[.ref a, .ref b] 3)) (s₁.setTop (mkF m 4 #[.val (.ref a), .val (.ref b), .unset] [.int (Int32.ofNat B.slots.size), .int (Int32.ofNat A.slots.size)])) := c1.trans (by
    refine XS.aloadN X0.here hexec rfl (hb hbytes d0) rfl rfl ?_
    refine X0.alen hexec hA0 rfl rfl (hb hbytes d1) ?_
    refine XS.aloadN X0.here hexec rfl (hb hbytes d2) rfl rfl ?_
    refine X0.alen hexec hB0 rfl rfl (hb hbytes d3) ?_
    exact Steps.refl _)
  by_cases hs : A.slots.size = B.slots.size
  · have c3 : Steps p.tables e below (s₁.setTop (entryFrame m #[.ref a, .ref b] 3)) (s₁.setTop (mkF m 9 #[.val (.ref a), .val (.ref b), .val (.int 0)] [])) := c2.trans (by
      refine XS.icmpNo X0.here hexec rfl (hb hbytes d4) rfl (ii_ne_f (by rw [hs])) ?_
      refine iconstV X0.here hexec rfl 0 (hb hbytes d7) (by decide) ?_
      refine XS.istoreN X0.here hexec rfl (hb hbytes d8) rfl rfl ?_
      exact Steps.refl _)
    have loop : ∀ (r i : Nat), i + r = A.slots.size → (∀ j, j < i → yv A j = yv B j) → Steps p.tables e below (s₁.setTop (entryFrame m #[.ref a, .ref b] 3)) (s₁.setTop (mkF m 9 #[.val (.ref a), .val (.ref b), .val (.int (Int32.ofNat i))] [])) → ∃ (pc : Nat) (Ls : Array Slot) (v : Int32), (pc = 25 ∨ pc = 33) ∧ ((v = 1 ∧ EqC A B) ∨ (v = 0 ∧ ¬ EqC A B)) ∧ Steps p.tables e below (s₁.setTop (entryFrame m #[.ref a, .ref b] 3)) (s₁.setTop (mkF m pc Ls [.int v])) := by
      intro r
      induction r with
      | zero =>
        intro i hi he cl
        exact ⟨33, _, 1, Or.inr rfl, Or.inl ⟨rfl, hs, fun j hj => he j (by omega)⟩, cl.trans (by
          refine XS.iloadN X0.here hexec rfl (hb hbytes d9) rfl ?_
          refine XS.aloadN X0.here hexec rfl (hb hbytes d10) rfl rfl ?_
          refine X0.alen hexec hA0 rfl rfl (hb hbytes d11) ?_
          refine XS.icmpYes X0.here hexec rfl (pc0 := 12) rfl (hb hbytes d12) rfl (ii_ge_t (nlt32 (by omega) (by omega))) (by decide) rfl ?_
          refine iconstV X0.here hexec rfl 1 (hb hbytes d32) (by decide) ?_
          exact Steps.refl _)⟩
      | succ r ih =>
        intro i hi he cl
        have c4 : Steps p.tables e below (s₁.setTop (entryFrame m #[.ref a, .ref b] 3)) (s₁.setTop (mkF m 21 #[.val (.ref a), .val (.ref b), .val (.int (Int32.ofNat i))] [.int (yv B i), .int (yv A i)])) := cl.trans (by
          refine XS.iloadN X0.here hexec rfl (hb hbytes d9) rfl ?_
          refine XS.aloadN X0.here hexec rfl (hb hbytes d10) rfl rfl ?_
          refine X0.alen hexec hA0 rfl rfl (hb hbytes d11) ?_
          refine XS.icmpNo X0.here hexec rfl (hb hbytes d12) rfl (ii_ge_f (lt32 (by omega) (by omega))) ?_
          refine XS.aloadN X0.here hexec rfl (hb hbytes d15) rfl rfl ?_
          refine XS.iloadN X0.here hexec rfl (hb hbytes d16) rfl ?_
          refine X0.aget hexec hA0 rfl (yv_get hA tA (i := i) (by omega)) rfl rfl (hb hbytes d17) ?_
          refine XS.aloadN X0.here hexec rfl (hb hbytes d18) rfl rfl ?_
          refine XS.iloadN X0.here hexec rfl (hb hbytes d19) rfl ?_
          refine X0.aget hexec hB0 rfl (yv_get hB tB (i := i) (by omega)) rfl rfl (hb hbytes d20) ?_
          exact Steps.refl _)
        by_cases hv : yv A i = yv B i
        · have c5 : Steps p.tables e below (s₁.setTop (entryFrame m #[.ref a, .ref b] 3)) (s₁.setTop (mkF m 9 #[.val (.ref a), .val (.ref b), .val (.int (Int32.ofNat i + 1))] [])) := c4.trans (by
            refine XS.icmpYes X0.here hexec rfl (pc0 := 21) rfl (hb hbytes d21) rfl (ii_eq_t hv) (by decide) rfl ?_
            refine iincV X0.here hexec rfl 1 (hb hbytes d26) (by decide) rfl rfl ?_
            refine XS.goto X0.here hexec rfl (pc0 := 29) rfl (hb hbytes d29) (by decide) rfl ?_
            exact Steps.refl _)
          rw [succ32] at c5
          exact ih (i + 1) (by omega) (fun j hj => by
            by_cases e : j = i
            · rw [e]; exact hv
            · exact he j (by omega)) c5
        · exact ⟨25, _, 0, Or.inl rfl, Or.inr ⟨rfl, fun q => hv (q.2 i (by omega))⟩, c4.trans (by
            refine XS.icmpNo X0.here hexec rfl (hb hbytes d21) rfl (ii_eq_f hv) ?_
            refine iconstV X0.here hexec rfl 0 (hb hbytes d24) (by decide) ?_
            exact Steps.refl _)⟩
    obtain ⟨pc, Ls, v, hpc, hv, cz⟩ := loop A.slots.size 0 (by omega) (fun j hj => absurd hj (Nat.not_lt_zero j)) c3
    have nv : narrow .boolean (.int v) = .int v := by rcases hv with ⟨rfl, -⟩ | ⟨rfl, -⟩ <;> rfl
    rcases hpc with rfl | rfl
    · exact ⟨s₁, some (.int v), _, _, _, X0, rfl, rfl, rfl, (fun h => by cases h), ⟨v, rfl, hh0, hv⟩, fun fs hl => cz.trans (X0.ireturnOut hexec hret nv (Or.inr (Or.inl rfl)) (hb hbytes d25) hl)⟩
    · exact ⟨s₁, some (.int v), _, _, _, X0, rfl, rfl, rfl, (fun h => by cases h), ⟨v, rfl, hh0, hv⟩, fun fs hl => cz.trans (X0.ireturnOut hexec hret nv (Or.inr (Or.inl rfl)) (hb hbytes d33) hl)⟩
  · have c3 : Steps p.tables e below (s₁.setTop (entryFrame m #[.ref a, .ref b] 3)) (s₁.setTop (mkF m 35 #[.val (.ref a), .val (.ref b), .unset] [.int 0])) := c2.trans (by
      refine XS.icmpYes X0.here hexec rfl (pc0 := 4) rfl (hb hbytes d4) rfl (ii_ne_t (ne32 a31 b31 hs)) (by decide) rfl ?_
      refine iconstV X0.here hexec rfl 0 (hb hbytes d34) (by decide) ?_
      exact Steps.refl _)
    exact ⟨s₁, some (.int 0), _, _, _, X0, rfl, rfl, rfl, (fun h => by cases h), ⟨0, rfl, hh0, Or.inr ⟨rfl, fun q => hs q.1⟩⟩, fun fs hl => c3.trans (X0.ireturnOut hexec hret rfl (Or.inr (Or.inl rfl)) (hb hbytes d35) hl)⟩
end LEq
theorem Cod.ty {cd : Int32} {n : Nat} {f : Nat → Int32} {V : Cell} (h : Cod cd n f V) : Typed .byte V := fun i v hv => by
  have hi : i < V.slots.size := (Array.getElem?_eq_some_iff.mp hv).1
  rcases h with ⟨-, k1, k2⟩ | ⟨-, k1, k2, -⟩
  · rw [(k2 i (by omega)).1] at hv; cases hv; exact fits_lo8 _
  · rcases Nat.mod_two_eq_zero_or_one i with e | e
    · obtain ⟨j, rfl⟩ : ∃ j, i = 2 * j := ⟨i / 2, by omega⟩
      rw [(k2 j (by omega)).1] at hv; cases hv; exact fits_lo8 _
    · obtain ⟨j, rfl⟩ : ∃ j, i = 2 * j + 1 := ⟨i / 2, by omega⟩
      rw [(k2 j (by omega)).2] at hv; cases hv; exact fits_lo8 _
/-- the same text -/
def SameT (n : Nat) (f : Nat → Int32) (k : Nat) (g : Nat → Int32) : Prop := n = k ∧ ∀ j, j < n → f j = g j
theorem lo8_inj {x y : Int32} (h0 : ¬ x < 0) (h1 : ¬ 255 < x) (k0 : ¬ y < 0) (k1 : ¬ 255 < y) (h : lo8 x = lo8 y) : x = y := by
  rw [← lo8_mask h0 h1, ← lo8_mask k0 k1, h]
/-- arrays coded by one coder are equal just where the texts are -/
theorem Cod.eqv {cd : Int32} {n k : Nat} {f g : Nat → Int32} {V V' : Cell} (h : Cod cd n f V) (h' : Cod cd k g V') (hf : ∀ j, j < n → ¬ f j < 0 ∧ ¬ 65535 < f j) (hg : ∀ j, j < k → ¬ g j < 0 ∧ ¬ 65535 < g j) : EqC V V' ↔ SameT n f k g := by
  have yvv : ∀ {W : Cell} {i : Nat} {x : Int32}, W.slots[i]? = some (.int x) → yv W i = x := fun q => by unfold yv; rw [q]
  rcases h with ⟨rfl, k1, k2⟩ | ⟨rfl, k1, k2, -⟩
  · rcases h' with ⟨-, m1, m2⟩ | ⟨e, -⟩
    · constructor
      · rintro ⟨e1, e2⟩
        refine ⟨by omega, fun j hj => ?_⟩
        have q := e2 j (by omega)
        rw [yvv (k2 j hj).1, yvv (m2 j (by omega)).1] at q
        exact lo8_inj (hf j hj).1 (k2 j hj).2 (hg j (by omega)).1 (m2 j (by omega)).2 q
      · rintro ⟨rfl, e2⟩
        refine ⟨by omega, fun j hj => ?_⟩
        rw [yvv (k2 j (by omega)).1, yvv (m2 j (by omega)).1, e2 j (by omega)]
    · exact absurd e (by decide)
  · rcases h' with ⟨e, -⟩ | ⟨-, m1, m2, -⟩
    · exact absurd e (by decide)
    · constructor
      · rintro ⟨e1, e2⟩
        refine ⟨by omega, fun j hj => ?_⟩
        have q1 := e2 (2 * j) (by omega)
        have q2 := e2 (2 * j + 1) (by omega)
        rw [yvv (k2 j hj).1, yvv (m2 j (by omega)).1] at q1
        rw [yvv (k2 j hj).2, yvv (m2 j (by omega)).2] at q2
        rw [← pair_says (hf j hj).1 (hf j hj).2, ← pair_says (hg j (by omega)).1 (hg j (by omega)).2, q1, q2]
      · rintro ⟨rfl, e2⟩
        refine ⟨by omega, fun i hi => ?_⟩
        rcases Nat.mod_two_eq_zero_or_one i with e | e
        · obtain ⟨j, rfl⟩ : ∃ j, i = 2 * j := ⟨i / 2, by omega⟩
          rw [yvv (k2 j (by omega)).1, yvv (m2 j (by omega)).1, e2 j (by omega)]
        · obtain ⟨j, rfl⟩ : ∃ j, i = 2 * j + 1 := ⟨i / 2, by omega⟩
          rw [yvv (k2 j (by omega)).2, yvv (m2 j (by omega)).2, e2 j (by omega)]
/-- two codings differ: so do the texts -/
theorem Cod.dif {cd cd' : Int32} {n k : Nat} {f g : Nat → Int32} {V V' : Cell} (h : Cod cd n f V) (h' : Cod cd' k g V') (hne : ¬ cd = cd') : ¬ SameT n f k g := by
  rintro ⟨rfl, e⟩
  rcases h with ⟨rfl, -, k2⟩ | ⟨rfl, -, -, j, hj, hw⟩
  · rcases h' with ⟨rfl, -⟩ | ⟨-, -, -, j, hj, hw⟩
    · exact hne rfl
    · exact (k2 j hj).2 (by rw [e j hj]; exact hw)
  · rcases h' with ⟨-, -, m2⟩ | ⟨rfl, -⟩
    · exact (m2 j hj).2 (by rw [← e j hj]; exact hw)
    · exact hne rfl
/-- an object of exactly C is an instance of C -/
theorem cinst {p : Program} {l : Launch} {e : Env} {R : Room} {s : State} {m : MethodId} {args : Array Value} {below : List Frame} {meth : Method} {c : Code} {T : State} {locs : List Loc} {cells slots : Nat} (X : Stand p l e R s m args below meth c T locs cells slots) (hexec : p.tables.exec = Jvm.exec) {own C : String} {index : Nat} (hown : s.vm.findClass own = some m.cls) (hlink : (Cond.classLink own index C).before args s = true) {a : Addr} (hE : Exact C a T)
    {g : JFrame} (hg : g.method = m) {rest : List Value} (hstack : g.stack = .ref a :: rest) (hdg : decode c.code g.pc = .ok (.instanceof index, 3)) :
    ∃ T', Stand p l e R s m args below meth c T' locs cells slots ∧ T'.heap = T.heap ∧ ∀ target, Steps p.tables e below (T'.setTop { g with pc := g.pc + 3, stack := .int 1 :: rest }) target → Steps p.tables e below (T.setTop g) target := by
  obtain ⟨cB, h1, D, h2, h3, h4⟩ := hE
  have h1' : s.vm.findClass C = some cB := by rw [← X.warmed.alike.findClass]; exact h1
  obtain ⟨vm', X', st⟩ := X.instanceofYes hexec hown hlink h2 h4 h1' (by rw [h3]; exact Jvm.Free.SB.assignable_self _ _) hg hstack hdg
  exact ⟨_, X', rfl, st⟩
theorem cself {p : Program} {l : Launch} {e : Env} {R : Room} {s : State} {m : MethodId} {args : Array Value} {below : List Frame} {meth : Method} {c : Code} {T : State} {locs : List Loc} {cells slots : Nat} (X : Stand p l e R s m args below meth c T locs cells slots) (hexec : p.tables.exec = Jvm.exec) {own C : String} {index : Nat} (hown : s.vm.findClass own = some m.cls) (hlink : (Cond.classLink own index C).before args s = true) {a : Addr} (hE : Exact C a T)
    {g : JFrame} (hg : g.method = m) {rest : List Value} (hstack : g.stack = .ref a :: rest) (hdg : decode c.code g.pc = .ok (.checkcast index, 3)) :
    ∃ T', Stand p l e R s m args below meth c T' locs cells slots ∧ T'.heap = T.heap ∧ ∀ target, Steps p.tables e below (T'.setTop { g with pc := g.pc + 3, stack := .ref a :: rest }) target → Steps p.tables e below (T.setTop g) target := by
  obtain ⟨cB, h1, D, h2, h3, h4⟩ := hE
  have h1' : s.vm.findClass C = some cB := by rw [← X.warmed.alike.findClass]; exact h1
  obtain ⟨vm', X', st⟩ := X.checkcastYes hexec hown hlink h2 h4 h1' (by rw [h3]; exact Jvm.Free.SB.assignable_self _ _) hg hstack hdg
  exact ⟨_, X', rfl, fun t h => st t (by rw [← hstack] at h; exact h)⟩
namespace SEq
def yN : MethodName := ⟨"java/lang/String", "equals", "(Ljava/lang/Object;)Z"⟩
abbrev yB : ByteArray := jdk_42_method_66_code
theorem d0 : decode yB 0 = .ok (.aload_n 0, 1) := by decide +kernel
theorem d1 : decode yB 1 = .ok (.aload_n 1, 1) := by decide +kernel
theorem d2 : decode yB 2 = .ok (.if_acmp (.ne) 5, 3) := by decide +kernel
theorem d5 : decode yB 5 = .ok (.iconst 1, 1) := by decide +kernel
theorem d6 : decode yB 6 = .ok (.ireturn, 1) := by decide +kernel
theorem d7 : decode yB 7 = .ok (.aload_n 1, 1) := by decide +kernel
theorem d8 : decode yB 8 = .ok (.instanceof 10, 3) := by decide +kernel
theorem d11 : decode yB 11 = .ok (.ifCond (.eq) 43, 3) := by decide +kernel
theorem d14 : decode yB 14 = .ok (.aload_n 1, 1) := by decide +kernel
theorem d15 : decode yB 15 = .ok (.checkcast 10, 3) := by decide +kernel
theorem d18 : decode yB 18 = .ok (.astore_n 2, 1) := by decide +kernel
theorem d19 : decode yB 19 = .ok (.getstatic 38, 3) := by decide +kernel
theorem d22 : decode yB 22 = .ok (.ifCond (.eq) 14, 3) := by decide +kernel
theorem d25 : decode yB 25 = .ok (.aload_n 0, 1) := by decide +kernel
theorem d26 : decode yB 26 = .ok (.getfield 15, 3) := by decide +kernel
theorem d29 : decode yB 29 = .ok (.aload_n 2, 1) := by decide +kernel
theorem d30 : decode yB 30 = .ok (.getfield 15, 3) := by decide +kernel
theorem d33 : decode yB 33 = .ok (.if_icmp (.ne) 21, 3) := by decide +kernel
theorem d36 : decode yB 36 = .ok (.aload_n 0, 1) := by decide +kernel
theorem d37 : decode yB 37 = .ok (.getfield 9, 3) := by decide +kernel
theorem d40 : decode yB 40 = .ok (.aload_n 2, 1) := by decide +kernel
theorem d41 : decode yB 41 = .ok (.getfield 9, 3) := by decide +kernel
theorem d44 : decode yB 44 = .ok (.invokestatic 541, 3) := by decide +kernel
theorem d47 : decode yB 47 = .ok (.ifCond (.eq) 7, 3) := by decide +kernel
theorem d50 : decode yB 50 = .ok (.iconst 1, 1) := by decide +kernel
theorem d51 : decode yB 51 = .ok (.goto 4, 3) := by decide +kernel
theorem d54 : decode yB 54 = .ok (.iconst 0, 1) := by decide +kernel
theorem d55 : decode yB 55 = .ok (.ireturn, 1) := by decide +kernel
def site : List Cond := [.classLink "java/lang/String" 10 "java/lang/String", .fieldLink "java/lang/String" 38 "java/lang/String" "COMPACT_STRINGS" "Z", .fieldLink "java/lang/String" 15 "java/lang/String" "coder" "B", .fieldLink "java/lang/String" 9 "java/lang/String" "value" "[B", LEq.tab] ++ staticW "java/lang/String" 541 LEq.yN
def tab : Cond := tabOf yN yB 3 (some .boolean) site
def P (x t : Addr) (V : Cell) (cd : Int32) (n : Nat) (f : Nat → Int32) (y t' : Addr) (V' : Cell) (cd' : Int32) (k : Nat) (g : Nat → Int32) (z : Int32) (args : Array Value) (s : State) : Prop := args = #[.ref x, .ref y] ∧ Txt x t V cd n f s ∧ Txt y t' V' cd' k g s ∧ StaticIs s "java/lang/String" "COMPACT_STRINGS" "Z" (.int z) ∧ ¬ z = 0
/-- equals(Object) of two Strings: whether the texts are the same -/
theorem law (l : Launch) (x t : Addr) (V : Cell) (cd : Int32) (n : Nat) (f : Nat → Int32) (y t' : Addr) (V' : Cell) (cd' : Int32) (k : Nat) (g : Nat → Int32) (z : Int32) : Law l yN 2 1 1 14 yB 3 (some .boolean) site (P x t V cd n f y t' V' cd' k g z) (Says01 (SameT n f k g)) [] 0 0 := by
  refine Law.of_walk (plainFor_of_name (by decide +kernel)) (by decide +kernel) (by decide +kernel) (by decide) (fun _ _ h => by rw [h.1]; rfl) (fun _ U U' hal hh h => ⟨h.1, h.2.1.mv hal hh, h.2.2.1.mv hal hh, h.2.2.2.1.there hal hh, h.2.2.2.2⟩) (fun r U U' V V' h1 hal h2 h => Says01.mv r U U' V V' h1 hal h2 h) ?_
  intro p e s m args below meth c s₁ X0 hexec hbytes hml hret hlk hnm hown hh0 W hP
  obtain ⟨rfl, hx, hy, s1, hz⟩ := hP
  have c1 : Steps p.tables e below (s₁.setTop (entryFrame m #[.ref x, .ref y] 3)) (s₁.setTop (mkF m 2 #[.val (.ref x), .val (.ref y), .unset] [.ref y, .ref x])) := Steps.trans (entry rfl) (by
    show Steps p.tables e below (s₁.setTop (mkF m 0 #[.val (.ref x), .val (.ref y), .unset] [])) _
    refine XS.aloadN X0.here hexec rfl (hb hbytes d0) rfl rfl ?_
    refine XS.aloadN X0.here hexec rfl (hb hbytes d1) rfl rfl ?_
    exact Steps.refl _)
  by_cases hxy : x = y
  · have c2 : Steps p.tables e below (s₁.setTop (entryFrame m #[.ref x, .ref y] 3)) (s₁.setTop (mkF m 6 #[.val (.ref x), .val (.ref y), .unset] [.int 1])) := c1.trans (by
      refine acmpNo X0.here hexec rfl (hb hbytes d2) rfl rfl rfl (by simp [acmp, hxy]) ?_
      refine iconstV X0.here hexec rfl 1 (hb hbytes d5) (by decide) ?_
      exact Steps.refl _)
    subst hxy
    have ec : cd = cd' := by
      obtain ⟨D, fd, a1, a2, a3⟩ := hx.2.2.1
      obtain ⟨D', fd', b1, b2, b3⟩ := hy.2.2.1
      cases a1.symm.trans b1
      obtain ⟨q1, q2, q3, q4⟩ := a2.1
      obtain ⟨r1, r2, r3, r4⟩ := b2.1
      cases q4.symm.trans r4
      cases a3.symm.trans b3; rfl
    have et : t = t' := by
      obtain ⟨D, fd, a1, a2, a3⟩ := hx.2.1
      obtain ⟨D', fd', b1, b2, b3⟩ := hy.2.1
      cases a1.symm.trans b1
      obtain ⟨q1, q2, q3, q4⟩ := a2.1
      obtain ⟨r1, r2, r3, r4⟩ := b2.1
      cases q4.symm.trans r4
      cases a3.symm.trans b3; rfl
    subst ec et
    have ev : V = V' := by cases hx.2.2.2.1.1.symm.trans hy.2.2.2.1.1; rfl
    subst ev
    have hs : SameT n f k g := (Cod.eqv hx.2.2.2.2.1 hy.2.2.2.2.1 hx.2.2.2.2.2 hy.2.2.2.2.2).mp ⟨rfl, fun _ _ => rfl⟩
    exact ⟨s₁, some (.int 1), _, _, _, X0, rfl, rfl, rfl, (fun h => by cases h), ⟨1, rfl, hh0, Or.inl ⟨rfl, hs⟩⟩, fun fs hl => c2.trans (X0.ireturnOut hexec hret rfl (Or.inr (Or.inl rfl)) (hb hbytes d6) hl)⟩
  · have c2 : Steps p.tables e below (s₁.setTop (entryFrame m #[.ref x, .ref y] 3)) (s₁.setTop (mkF m 8 #[.val (.ref x), .val (.ref y), .unset] [.ref y])) := c1.trans (by
      refine acmpYes X0.here hexec rfl (pc0 := 2) rfl (hb hbytes d2) rfl rfl rfl (by simp [acmp, hxy]) (by decide) rfl ?_
      refine XS.aloadN X0.here hexec rfl (hb hbytes d7) rfl rfl ?_
      exact Steps.refl _)
    obtain ⟨T3, X3, q3, st3⟩ := cinst X0 hexec hown (wk W (.classLink "java/lang/String" 10 "java/lang/String")) (hy.mv X0.warmed.alike hh0).1 (g := (mkF m 8 #[.val (.ref x), .val (.ref y), .unset] [.ref y])) rfl (rest := []) rfl (hb hbytes d8)
    have hh3 := q3.trans hh0
    have c4 : Steps p.tables e below (s₁.setTop (entryFrame m #[.ref x, .ref y] 3)) (T3.setTop (mkF m 15 #[.val (.ref x), .val (.ref y), .unset] [.ref y])) := (c2.trans (st3 _ (Steps.refl _))).trans (by
      refine XS.ifNo X3.here hexec rfl (hb hbytes d11) rfl (i0_eq_f (by decide)) ?_
      refine XS.aloadN X3.here hexec rfl (hb hbytes d14) rfl rfl ?_
      exact Steps.refl _)
    obtain ⟨T5, X5, q5, st5⟩ := cself X3 hexec hown (wk W (.classLink "java/lang/String" 10 "java/lang/String")) (hy.mv X3.warmed.alike hh3).1 (g := (mkF m 15 #[.val (.ref x), .val (.ref y), .unset] [.ref y])) rfl (rest := []) rfl (hb hbytes d15)
    have hh5 := q5.trans hh3
    have c6 : Steps p.tables e below (s₁.setTop (entryFrame m #[.ref x, .ref y] 3)) (T5.setTop (mkF m 19 #[.val (.ref x), .val (.ref y), .val (.ref y)] [])) := (c4.trans (st5 _ (Steps.refl _))).trans (by
      refine XS.astoreN X5.here hexec rfl (hb hbytes d18) rfl rfl rfl ?_
      exact Steps.refl _)
    obtain ⟨T7, X7, q7, st7⟩ := X5.sget hexec hown (wk W (.fieldLink "java/lang/String" 38 "java/lang/String" "COMPACT_STRINGS" "Z")) s1 (fun _ _ h => by rw [hh5]; exact h) (g := (mkF m 19 #[.val (.ref x), .val (.ref y), .val (.ref y)] [])) rfl (hb hbytes d19)
    have hh7 := q7.trans hh5
    have c8 : Steps p.tables e below (s₁.setTop (entryFrame m #[.ref x, .ref y] 3)) (T7.setTop (mkF m 26 #[.val (.ref x), .val (.ref y), .val (.ref y)] [.ref x])) := (c6.trans (st7 _ (Steps.refl _))).trans (by
      refine XS.ifNo X7.here hexec rfl (hb hbytes d22) rfl (i0_eq_f hz) ?_
      refine XS.aloadN X7.here hexec rfl (hb hbytes d25) rfl rfl ?_
      exact Steps.refl _)
    obtain ⟨T9, X9, q9, st9⟩ := X7.hget hexec hown (wk W (.fieldLink "java/lang/String" 15 "java/lang/String" "coder" "B")) (hx.mv X7.warmed.alike hh7).2.2.1 (g := (mkF m 26 #[.val (.ref x), .val (.ref y), .val (.ref y)] [.ref x])) rfl (rest := []) rfl (hb hbytes d26)
    have hh9 := q9.trans hh7
    have c10 : Steps p.tables e below (s₁.setTop (entryFrame m #[.ref x, .ref y] 3)) (T9.setTop (mkF m 30 #[.val (.ref x), .val (.ref y), .val (.ref y)] [.ref y, .int cd])) := (c8.trans (st9 _ (Steps.refl _))).trans (by
      refine XS.aloadN X9.here hexec rfl (hb hbytes d29) rfl rfl ?_
      exact Steps.refl _)
    obtain ⟨T11, X11, q11, st11⟩ := X9.hget hexec hown (wk W (.fieldLink "java/lang/String" 15 "java/lang/String" "coder" "B")) (hy.mv X9.warmed.alike hh9).2.2.1 (g := (mkF m 30 #[.val (.ref x), .val (.ref y), .val (.ref y)] [.ref y, .int cd])) rfl (rest := [.int cd]) rfl (hb hbytes d30)
    have hh11 := q11.trans hh9
    have c12 : Steps p.tables e below (s₁.setTop (entryFrame m #[.ref x, .ref y] 3)) (T11.setTop (mkF m 33 #[.val (.ref x), .val (.ref y), .val (.ref y)] [.int cd', .int cd])) := c10.trans (st11 _ (Steps.refl _))
    by_cases hcd : cd = cd'
    · subst hcd
      have c13 : Steps p.tables e below (s₁.setTop (entryFrame m #[.ref x, .ref y] 3)) (T11.setTop (mkF m 37 #[.val (.ref x), .val (.ref y), .val (.ref y)] [.ref x])) := c12.trans (by
        refine XS.icmpNo X11.here hexec rfl (hb hbytes d33) rfl (ii_ne_f rfl) ?_
        refine XS.aloadN X11.here hexec rfl (hb hbytes d36) rfl rfl ?_
        exact Steps.refl _)
      obtain ⟨T14, X14, q14, st14⟩ := X11.hget hexec hown (wk W (.fieldLink "java/lang/String" 9 "java/lang/String" "value" "[B")) (hx.mv X11.warmed.alike hh11).2.1 (g := (mkF m 37 #[.val (.ref x), .val (.ref y), .val (.ref y)] [.ref x])) rfl (rest := []) rfl (hb hbytes d37)
      have hh14 := q14.trans hh11
      have c15 : Steps p.tables e below (s₁.setTop (entryFrame m #[.ref x, .ref y] 3)) (T14.setTop (mkF m 41 #[.val (.ref x), .val (.ref y), .val (.ref y)] [.ref y, .ref t])) := (c13.trans (st14 _ (Steps.refl _))).trans (by
        refine XS.aloadN X14.here hexec rfl (hb hbytes d40) rfl rfl ?_
        exact Steps.refl _)
      obtain ⟨T16, X16, q16, st16⟩ := X14.hget hexec hown (wk W (.fieldLink "java/lang/String" 9 "java/lang/String" "value" "[B")) (hy.mv X14.warmed.alike hh14).2.1 (g := (mkF m 41 #[.val (.ref x), .val (.ref y), .val (.ref y)] [.ref y, .ref t])) rfl (rest := [.ref t]) rfl (hb hbytes d41)
      have hh16 := q16.trans hh14
      have c17 : Steps p.tables e below (s₁.setTop (entryFrame m #[.ref x, .ref y] 3)) (T16.setTop (mkF m 44 #[.val (.ref x), .val (.ref y), .val (.ref y)] [.ref t', .ref t])) := c15.trans (st16 _ (Steps.refl _))
      obtain ⟨v18, T18, X18, E18, g18⟩ := X16.callS hexec (LEq.law l t V t' V') hown (wks W (staticW "java/lang/String" 541 LEq.yN)) (wk W LEq.tab) (W := 0) (Nat.le_of_ble_eq_true rfl) (Nat.le_of_ble_eq_true rfl) (Nat.le_refl _) (Nat.le_refl _) (g := (mkF m 44 #[.val (.ref x), .val (.ref y), .val (.ref y)] [.ref t', .ref t])) rfl (by rw [hml]; rfl) c17 (argsL := [.ref t, .ref t']) (rest := []) rfl rfl (by show 2 * 0 + 0 ≤ _; decide) (hb hbytes d44) (⟨rfl, hx.2.2.2.1.mv X16.warmed.alike hh16, hx.2.2.2.2.1.ty, hy.2.2.2.1.mv X16.warmed.alike hh16, hy.2.2.2.2.1.ty⟩)
      obtain ⟨v, rfl, q18, hv⟩ := E18
      have iff := Cod.eqv hx.2.2.2.2.1 hy.2.2.2.2.1 hx.2.2.2.2.2 hy.2.2.2.2.2
      rcases hv with ⟨rfl, he⟩ | ⟨rfl, he⟩
      · have c19 : Steps p.tables e below (s₁.setTop (entryFrame m #[.ref x, .ref y] 3)) (T18.setTop (mkF m 55 #[.val (.ref x), .val (.ref y), .val (.ref y)] [.int 1])) := Steps.trans g18 (by
          refine XS.ifNo X18.here hexec rfl (hb hbytes d47) rfl (i0_eq_f (by decide)) ?_
          refine iconstV X18.here hexec rfl 1 (hb hbytes d50) (by decide) ?_
          refine XS.goto X18.here hexec rfl (pc0 := 51) rfl (hb hbytes d51) (by decide) rfl ?_
          exact Steps.refl _)
        exact ⟨T18, some (.int 1), _, _, _, X18, rfl, rfl, rfl, (fun h => by cases h), ⟨1, rfl, q18.trans hh16, Or.inl ⟨rfl, iff.mp he⟩⟩, fun fs hl => c19.trans (X18.ireturnOut hexec hret rfl (Or.inr (Or.inl rfl)) (hb hbytes d55) hl)⟩
      · have c19 : Steps p.tables e below (s₁.setTop (entryFrame m #[.ref x, .ref y] 3)) (T18.setTop (mkF m 55 #[.val (.ref x), .val (.ref y), .val (.ref y)] [.int 0])) := Steps.trans g18 (by
          refine XS.ifYes X18.here hexec rfl (pc0 := 47) rfl (hb hbytes d47) rfl (i0_eq_t rfl) (by decide) rfl ?_
          refine iconstV X18.here hexec rfl 0 (hb hbytes d54) (by decide) ?_
          exact Steps.refl _)
        exact ⟨T18, some (.int 0), _, _, _, X18, rfl, rfl, rfl, (fun h => by cases h), ⟨0, rfl, q18.trans hh16, Or.inr ⟨rfl, fun q => he (iff.mpr q)⟩⟩, fun fs hl => c19.trans (X18.ireturnOut hexec hret rfl (Or.inr (Or.inl rfl)) (hb hbytes d55) hl)⟩
    · have c13 : Steps p.tables e below (s₁.setTop (entryFrame m #[.ref x, .ref y] 3)) (T11.setTop (mkF m 55 #[.val (.ref x), .val (.ref y), .val (.ref y)] [.int 0])) := c12.trans (by
        refine XS.icmpYes X11.here hexec rfl (pc0 := 33) rfl (hb hbytes d33) rfl (ii_ne_t hcd) (by decide) rfl ?_
        refine iconstV X11.here hexec rfl 0 (hb hbytes d54) (by decide) ?_
        exact Steps.refl _)
      exact ⟨T11, some (.int 0), _, _, _, X11, rfl, rfl, rfl, (fun h => by cases h), ⟨0, rfl, hh11, Or.inr ⟨rfl, Cod.dif hx.2.2.2.2.1 hy.2.2.2.2.1 hcd⟩⟩, fun fs hl => c13.trans (X11.ireturnOut hexec hret rfl (Or.inr (Or.inl rfl)) (hb hbytes d55) hl)⟩
theorem pays {l : Launch} {R : Room} {p : Program} {e : Env} {below : List Frame} {s : State} {sargs : Array Value} {len W : Nat} (x t : Addr) (V : Cell) (cd : Int32) (n : Nat) (f : Nat → Int32) (y t' : Addr) (V' : Cell) (cd' : Int32) (k : Nat) (g : Nat → Int32) (z : Int32) (htab : tab.before sargs s = true) (hfr : 2 ≤ R.frames) (hlo : W + 28 ≤ R.locals) :
    Back l R p e below s sargs yN len W (fun A₁ a₁ => A₁.cells + 0 ≤ R.cells ∧ A₁.slots + 0 ≤ R.slots ∧ P x t V cd n f y t' V' cd' k g z a₁ A₁.U) (fun A₁ _ v₁ B₁ => Says01 (SameT n f k g) v₁ A₁.U B₁.U ∧ B₁.locs = A₁.locs ++ [] ∧ B₁.cells = A₁.cells + 0 ∧ B₁.slots = A₁.slots + 0) :=
  (law l x t V cd n f y t' V' cd' k g z).pays htab hfr (by omega)
end SEq
end StrChars
namespace StrChars.Road
open Jvm Sem ClassFile Op Lib Jvm.Stand Jvm.Free Jvm.Free.XT
open Jvm.Lib.Cold (StaticIs)
/-- the words of String.equals(Object) -/
abbrev wordsEq : List Jvm.Cond := [.code SEq.yN SEq.yB 3 (some .boolean), .initialized ST, .classLink ST 10 ST, .fieldLink ST 38 ST "COMPACT_STRINGS" "Z", .fieldLink ST 15 ST "coder" "B", .fieldLink ST 9 ST "value" "[B", .methodLink ST 541 LEq.yN, .static LEq.yN, .code LEq.yN LEq.yB 3 (some .boolean), .initialized "java/lang/StringLatin1"]
theorem tabEq_of {a : Array Value} {s : State} (h : ∀ w ∈ wordsEq, w.before a s = true) : SEq.tab.before a s = true := by
  have hl : LEq.tab.before a s = true := unparts (wk h (.code LEq.yN LEq.yB 3 (some .boolean))) (wks h (.initialized LEq.yN.cls :: LEq.site))
  have q := consq hl h
  exact unparts (wk q (.code SEq.yN SEq.yB 3 (some .boolean))) (wks q (.initialized SEq.yN.cls :: SEq.site))
theorem movedEq {Z s : State} {a0 args : Array Value} (hZ : Z.Warmed39 s.vm) (hw : ∀ d ∈ wordsEq, d.before a0 Z = true) : ∀ d ∈ wordsEq, d.before args s = true := fun d hd => by
  have t : ∀ d ∈ wordsEq, (d.onTables && d.keepsFace) = true := by decide +kernel
  exact RoadKit.mv hZ (hw d hd) (t d hd)
/-- the road's facts of a String, as the laws ask it -/
theorem txt_of {Z U : State} {a0 : Array Value} {kI : Nat} (wi : (Jvm.Cond.instantiable ST kI).before a0 Z = true) (al : Z.vm.Alike U.vm) {x t : Addr} {kb : ClassId} {cs : List Int32} {cd N2 : Int32} {vs : List Value} (E : RoadKit.Exa Z U.heap x ST) (V : RoadKit.Fld Z U.heap x ST "value" "[B" (.ref t)) (C : RoadKit.Fld Z U.heap x ST "coder" "B" (.int cd)) (K : RoadKit.Arv Z U.heap t kb .byte N2 vs (.int 0)) (hc : CodA cs cd N2 vs) (hb : ∀ c ∈ cs, ¬ c < 0 ∧ ¬ (65535 : Int32) < c) (l2 : cs.length ≤ 4000) :
    ∃ A, Txt x t A cd cs.length (fun j => cs.getD j 0) U := by
  obtain ⟨A, K1, K2, K3, K4, K5, K6⟩ := K
  have hcod := hc.cod (by omega) K3 K5
  obtain ⟨D, fV, fC, hB, F1, F2, g1, g2, -, -⟩ := strObj wi al E V C
  exact ⟨A, ⟨_, hB.2.2.1, D, hB.1, rfl, by cases q : D.vm <;> first | rfl | exact absurd q (hB.2.1.2 _)⟩, Has.of hB F1 g1, Has.of hB F2 g2, ⟨K1.1, State.isArrayOf_alike al K1.2.1, K1.2.2, by rcases hcod with ⟨-, q, -⟩ | ⟨-, q, -⟩ <;> omega⟩, hcod, fun j hj => by
    have e : cs.getD j 0 = cs[j] := by simp [List.getD_eq_getElem?_getD, hj]
    show ¬ cs.getD j 0 < 0 ∧ ¬ 65535 < cs.getD j 0
    rw [e]; exact hb _ (List.getElem_mem _)⟩
theorem same_list (cs ds : List Int32) : SameT cs.length (fun j => cs.getD j 0) ds.length (fun j => ds.getD j 0) ↔ cs = ds := by
  constructor
  · rintro ⟨e, q⟩
    refine List.ext_getElem e fun j h1 h2 => ?_
    have := q j h1
    simpa [List.getD_eq_getElem?_getD, h1, h2] using this
  · rintro rfl
    exact ⟨rfl, fun _ _ => rfl⟩
/-- **equals(Object) OF TWO SUCH STRINGS**: 1 just where the chars are the same -/
theorem eqW {p : Program} {l : Launch} {e : Env} {R : Room} {s : State} {args : Array Value} {below : List Frame} {len W : Nat} {Z : State} {a0 : Array Value} {h : Heap} (hZ : Z.Warmed39 s.vm) (hw : ∀ d ∈ wordsEq, d.before a0 Z = true) {kI : Nat} (wi : (Jvm.Cond.instantiable ST kI).before a0 Z = true)
    {x t : Addr} {kb : ClassId} {cs : List Int32} {cd N2 : Int32} {vs : List Value} (E : RoadKit.Exa Z h x ST) (V : RoadKit.Fld Z h x ST "value" "[B" (.ref t)) (C : RoadKit.Fld Z h x ST "coder" "B" (.int cd)) (K : RoadKit.Arv Z h t kb .byte N2 vs (.int 0)) (hc : CodA cs cd N2 vs) (hb : ∀ c ∈ cs, ¬ c < 0 ∧ ¬ (65535 : Int32) < c) (l2 : cs.length ≤ 4000)
    {y t' : Addr} {kb' : ClassId} {ds : List Int32} {cd' N2' : Int32} {vs' : List Value} (E' : RoadKit.Exa Z h y ST) (V' : RoadKit.Fld Z h y ST "value" "[B" (.ref t')) (C' : RoadKit.Fld Z h y ST "coder" "B" (.int cd')) (K' : RoadKit.Arv Z h t' kb' .byte N2' vs' (.int 0)) (hc' : CodA ds cd' N2' vs') (hb' : ∀ c ∈ ds, ¬ c < 0 ∧ ¬ (65535 : Int32) < c) (l2' : ds.length ≤ 4000)
    {z : Int32} (S : RoadKit.Sta Z h ST "COMPACT_STRINGS" "Z" (.int z)) (hz : ¬ z = 0) (hfr : 2 ≤ R.frames) (hlo : W + 28 ≤ R.locals) :
    Back l R p e below s args (⟨"java/lang/String", "equals", "(Ljava/lang/Object;)Z"⟩ : MethodName) len W (fun P a => a = #[.ref x, .ref y] ∧ P.U.heap = h ∧ P.cells + 0 ≤ R.cells ∧ P.slots + 0 ≤ R.slots)
      (fun P _ v B => ∃ L, (((v = some (.int 1) ∧ cs = ds) ∨ (v = some (.int 0) ∧ ¬ cs = ds)) ∧ L = [] ∧ B.U.heap = h) ∧ B.locs = P.locs ++ L ∧ B.cells = P.cells + 0 ∧ B.slots = P.slots + 0) := by
  intro m meth c P g ig mk a X hg hsize hdg hW hn hp'
  obtain ⟨rfl, rfl, r1, r2⟩ := hp'
  have al : Z.vm.Alike P.U.vm := hZ.alike.trans X.warmed.alike
  obtain ⟨A, hx⟩ := txt_of wi al E V C K hc hb l2
  obtain ⟨A', hy⟩ := txt_of wi al E' V' C' K' hc' hb' l2'
  obtain ⟨v, B, X', ⟨⟨w, hv, hh, hq⟩, hl, hk, hs⟩, st⟩ := SEq.pays x t A cd cs.length (fun j => cs.getD j 0) y t' A' cd' ds.length (fun j => ds.getD j 0) z (tabEq_of (movedEq hZ hw)) hfr hlo m meth c P g ig mk _ X hg hsize hdg hW hn ⟨r1, r2, rfl, hx, hy, sta_is al S, hz⟩
  refine ⟨v, B, X', ⟨[], ⟨?_, rfl, hh⟩, hl, hk, hs⟩, st⟩
  rcases hq with ⟨rfl, q⟩ | ⟨rfl, q⟩
  · exact Or.inl ⟨hv, (same_list cs ds).mp q⟩
  · exact Or.inr ⟨hv, fun e => q ((same_list cs ds).mpr e)⟩
end StrChars.Road
namespace StrChars
open Jvm Sem ClassFile Op Lib Jvm.Stand Jvm.Free.XT Jvm.Free.ALB Jvm.Free.JM Jvm.Free
open Jvm.Lib.Cold (StaticIs)
namespace ChN
def yN : MethodName := ⟨"java/lang/String", "charAt", "(I)C"⟩
abbrev yB : ByteArray := jdk_42_method_56_code
theorem d0 : decode yB 0 = .ok (.aload_n 0, 1) := by decide +kernel
theorem d1 : decode yB 1 = .ok (.invokevirtual 492, 3) := by decide +kernel
theorem d4 : decode yB 4 = .ok (.ifCond (.eq) 12, 3) := by decide +kernel
theorem d7 : decode yB 7 = .ok (.aload_n 0, 1) := by decide +kernel
theorem d8 : decode yB 8 = .ok (.getfield 9, 3) := by decide +kernel
theorem d11 : decode yB 11 = .ok (.iload_n 1, 1) := by decide +kernel
theorem d12 : decode yB 12 = .ok (.invokestatic 495, 3) := by decide +kernel
theorem d15 : decode yB 15 = .ok (.ireturn, 1) := by decide +kernel
def site : List Cond := [.fieldLink "java/lang/String" 9 "java/lang/String" "value" "[B", IsL.tab, LChA.tab] ++ virtW "java/lang/String" 492 "java/lang/String" IsL.yN IsL.yN ++ staticW "java/lang/String" 495 LChA.yN
def tab : Cond := tabOf yN yB 2 (some .char) site
def P (x t : Addr) (V : Cell) (n : Nat) (f : Nat → Int32) (z : Int32) (fm : Value) (i : Nat) (args : Array Value) (s : State) : Prop := args = #[.ref x, .int (Int32.ofNat i)] ∧ Txt x t V 0 n f s ∧ i < n ∧ StaticIs s "java/lang/String" "COMPACT_STRINGS" "Z" (.int z) ∧ ¬ z = 0 ∧ StaticIs s "jdk/internal/util/Preconditions" "SIOOBE_FORMATTER" "Ljava/util/function/BiFunction;" fm ∧ fm.isRef = true
def E (f : Nat → Int32) (i : Nat) (r : Option Value) (s u : State) : Prop := XT.PureE (some (.int (f i))) r s u
/-- charAt(i) of a Latin-1 String of n chars, i < n: f i -/
theorem law (l : Launch) (x t : Addr) (V : Cell) (n : Nat) (f : Nat → Int32) (z : Int32) (fm : Value) (i : Nat) : Law l yN 2 1 3 40 yB 2 (some .char) site (P x t V n f z fm i) (E f i) [] 0 0 := by
  refine Law.of_walk (plainFor_of_name (by decide +kernel)) (by decide +kernel) (by decide +kernel) (by decide) (fun _ _ h => by rw [h.1]; rfl) (fun _ U U' hal hh h => ⟨h.1, h.2.1.mv hal hh, h.2.2.1, h.2.2.2.1.there hal hh, h.2.2.2.2.1, h.2.2.2.2.2.1.there hal hh, h.2.2.2.2.2.2⟩) (fun r U U' V V' h1 hal h2 h => XT.PureE.mv r U U' V V' h1 hal h2 h) ?_
  intro p e s m args below meth c s₁ X0 hexec hbytes hml hret hlk hnm hown hh0 W hP
  obtain ⟨rfl, hx, hi, s1, hz, s3, rf⟩ := hP
  have v31 := hx.2.2.2.1.2.2.2
  have hr := hx.2.2.2.2.2 i hi
  have hx0 := hx.mv X0.warmed.alike hh0
  have c1 : Steps p.tables e below (s₁.setTop (entryFrame m #[.ref x, .int (Int32.ofNat i)] 2)) (s₁.setTop (mkF m 1 #[.val (.ref x), .val (.int (Int32.ofNat i))] [.ref x])) := Steps.trans (entry rfl) (by
    show Steps p.tables e below (s₁.setTop (mkF m 0 #[.val (.ref x), .val (.int (Int32.ofNat i))] [])) _
    refine XS.aloadN X0.here hexec rfl (hb hbytes d0) rfl rfl ?_
    exact Steps.refl _)
  obtain ⟨v2, T2, X2, E2, g2⟩ := X0.callV hexec (IsL.law l x 0 z) hown (wks W (virtW "java/lang/String" 492 "java/lang/String" IsL.yN IsL.yN)) rfl (by decide) (wk W IsL.tab) (W := 0) (Nat.le_of_ble_eq_true rfl) (Nat.le_of_ble_eq_true rfl) (Nat.le_refl _) (Nat.le_refl _) (hx0.1.fc X0.warmed.alike) hx0.1.is (g := (mkF m 1 #[.val (.ref x), .val (.int (Int32.ofNat i))] [.ref x])) rfl (by rw [hml]; rfl) c1 (argsL := []) (rest := []) rfl rfl (by show 2 * 0 + 0 ≤ _; decide) (hb hbytes d1) (⟨rfl, hx0.2.2.1, hx.2.2.2.2.1.cd, s1.there X0.warmed.alike hh0, hz⟩)
  obtain ⟨rfl, q2⟩ := E2
  have hh2 := q2.trans hh0
  have hx2 := hx.mv X2.warmed.alike hh2
  obtain ⟨-, k1, k2⟩ | ⟨k0, -⟩ := hx.2.2.2.2.1
  · have c3 : Steps p.tables e below (s₁.setTop (entryFrame m #[.ref x, .int (Int32.ofNat i)] 2)) (T2.setTop (mkF m 8 #[.val (.ref x), .val (.int (Int32.ofNat i))] [.ref x])) := Steps.trans g2 (by
      refine XS.ifNo X2.here hexec rfl (hb hbytes d4) rfl (i0_eq_f (by decide)) ?_
      refine XS.aloadN X2.here hexec rfl (hb hbytes d7) rfl rfl ?_
      exact Steps.refl _)
    obtain ⟨T4, X4, q4, st4⟩ := X2.hget hexec hown (wk W (.fieldLink "java/lang/String" 9 "java/lang/String" "value" "[B")) hx2.2.1 (g := (mkF m 8 #[.val (.ref x), .val (.int (Int32.ofNat i))] [.ref x])) rfl (rest := []) rfl (hb hbytes d8)
    have hh4 := q4.trans hh2
    have c5 : Steps p.tables e below (s₁.setTop (entryFrame m #[.ref x, .int (Int32.ofNat i)] 2)) (T4.setTop (mkF m 12 #[.val (.ref x), .val (.int (Int32.ofNat i))] [.int (Int32.ofNat i), .ref t])) := (c3.trans (st4 _ (Steps.refl _))).trans (by
      refine XS.iloadN X4.here hexec rfl (hb hbytes d11) rfl ?_
      exact Steps.refl _)
    obtain ⟨v6, T6, X6, E6, g6⟩ := X4.callS hexec (LChA.law l t V i (lo8 (f i)) fm) hown (wks W (staticW "java/lang/String" 495 LChA.yN)) (wk W LChA.tab) (W := 0) (Nat.le_of_ble_eq_true rfl) (Nat.le_of_ble_eq_true rfl) (Nat.le_refl _) (Nat.le_refl _) (g := (mkF m 12 #[.val (.ref x), .val (.int (Int32.ofNat i))] [.int (Int32.ofNat i), .ref t])) rfl (by rw [hml]; rfl) c5 (argsL := [.ref t, .int (Int32.ofNat i)]) (rest := []) rfl rfl (by show 2 * 0 + 0 ≤ _; decide) (hb hbytes d12) (⟨rfl, hx.2.2.2.1.mv X4.warmed.alike hh4, (k2 i hi).1, s3.there X4.warmed.alike hh4, rf⟩)
    obtain ⟨rfl, q6⟩ := E6
    rw [chr8_lo8 hr.1 (k2 i hi).2] at g6
    exact ⟨T6, some (.int (f i)), _, _, _, X6, rfl, rfl, rfl, (fun h => by cases h), ⟨rfl, q6.trans hh4⟩, fun fs hl => Steps.trans g6 (X6.ireturnOut hexec hret (narrow_ch hr.1 hr.2) (Or.inr (Or.inr (Or.inr (Or.inl rfl)))) (hb hbytes d15) hl)⟩
  · exact absurd k0 (by decide)
theorem pays {l : Launch} {R : Room} {p : Program} {e : Env} {below : List Frame} {s : State} {sargs : Array Value} {len W : Nat} (x t : Addr) (V : Cell) (n : Nat) (f : Nat → Int32) (z : Int32) (fm : Value) (i : Nat) (htab : tab.before sargs s = true) (hfr : 4 ≤ R.frames) (hlo : W + 53 ≤ R.locals) :
    Back l R p e below s sargs yN len W (fun A₁ a₁ => A₁.cells + 0 ≤ R.cells ∧ A₁.slots + 0 ≤ R.slots ∧ P x t V n f z fm i a₁ A₁.U) (fun A₁ _ v₁ B₁ => E f i v₁ A₁.U B₁.U ∧ B₁.locs = A₁.locs ++ [] ∧ B₁.cells = A₁.cells + 0 ∧ B₁.slots = A₁.slots + 0) :=
  (law l x t V n f z fm i).pays htab hfr (by omega)
end ChN
end StrChars
namespace StrChars.Road
open Jvm Sem ClassFile Op Lib Jvm.Stand Jvm.Free Jvm.Free.XT
open Jvm.Lib.Cold (StaticIs)
/-- the words of String.charAt(int), the Latin-1 road alone -/
abbrev wordsChN : List Jvm.Cond := [.code ChN.yN ChN.yB 2 (some .char), .initialized ST, .fieldLink ST 9 ST "value" "[B", .fieldLink ST 38 ST "COMPACT_STRINGS" "Z", .fieldLink ST 15 ST "coder" "B", .code IsL.yN IsL.yB 1 (some .boolean), .methodLink ST 492 IsL.yN, .declares IsL.yN, .selects ST IsL.yN IsL.yN, .instanceMethod IsL.yN,
  .methodLink ST 495 LChA.yN, .static LChA.yN, .code LChA.yN LChA.yB 2 (some .char), .initialized "java/lang/StringLatin1", .methodLink "java/lang/StringLatin1" 9 JO.Str_checkIndex.yN, .static JO.Str_checkIndex.yN, .code JO.Str_checkIndex.yN JO.Str_checkIndex.yB 2 none,
  .fieldLink ST 1053 "jdk/internal/util/Preconditions" "SIOOBE_FORMATTER" "Ljava/util/function/BiFunction;", .methodLink ST 1059 JC.PreCheck.yN, .static JC.PreCheck.yN, .code JC.PreCheck.yN JC.PreCheck.yB 3 (some .int), .initialized "jdk/internal/util/Preconditions"]
theorem tabChN_of {a : Array Value} {s : State} (h : ∀ w ∈ wordsChN, w.before a s = true) : ChN.tab.before a s = true := by
  have hp : JC.PreCheck.tab.before a s = true := unparts (wk h (.code JC.PreCheck.yN JC.PreCheck.yB 3 (some .int))) (wks h (.initialized JC.PreCheck.yN.cls :: JC.PreCheck.site))
  have qk := consq hp h
  have hk : JO.Str_checkIndex.tab.before a s = true := unparts (wk qk (.code JO.Str_checkIndex.yN JO.Str_checkIndex.yB 2 none)) (wks qk (.initialized JO.Str_checkIndex.yN.cls :: JO.Str_checkIndex.site))
  have ql := consq hk h
  have hl : LChA.tab.before a s = true := unparts (wk ql (.code LChA.yN LChA.yB 2 (some .char))) (wks ql (.initialized LChA.yN.cls :: LChA.site))
  have hi : IsL.tab.before a s = true := unparts (wk h (.code IsL.yN IsL.yB 1 (some .boolean))) (wks h (.initialized IsL.yN.cls :: IsL.site))
  have q := consq hi (consq hl h)
  exact unparts (wk q (.code ChN.yN ChN.yB 2 (some .char))) (wks q (.initialized ChN.yN.cls :: ChN.site))
theorem movedChN {Z s : State} {a0 args : Array Value} (hZ : Z.Warmed39 s.vm) (hw : ∀ d ∈ wordsChN, d.before a0 Z = true) : ∀ d ∈ wordsChN, d.before args s = true := fun d hd => by
  have t : ∀ d ∈ wordsChN, (d.onTables && d.keepsFace) = true := by decide +kernel
  exact RoadKit.mv hZ (hw d hd) (t d hd)
/-- **charAt(i) OF A LATIN-1 STRING**, i < n: the char -/
theorem chN {p : Program} {l : Launch} {e : Env} {R : Room} {s : State} {args : Array Value} {below : List Frame} {len W : Nat} {Z : State} {a0 : Array Value} {h : Heap} (hZ : Z.Warmed39 s.vm) (hw : ∀ d ∈ wordsChN, d.before a0 Z = true) {kI : Nat} (wi : (Jvm.Cond.instantiable ST kI).before a0 Z = true)
    {x t : Addr} {kb : ClassId} {cs : List Int32} {N2 z : Int32} {vs : List Value} {fm : Value} {i : Nat} {j : Int32} (E : RoadKit.Exa Z h x ST) (V : RoadKit.Fld Z h x ST "value" "[B" (.ref t)) (C : RoadKit.Fld Z h x ST "coder" "B" (.int 0)) (K : RoadKit.Arv Z h t kb .byte N2 vs (.int 0)) (hc : CodA cs 0 N2 vs) (hb : ∀ c ∈ cs, ¬ c < 0 ∧ ¬ (65535 : Int32) < c)
    (S : RoadKit.Sta Z h ST "COMPACT_STRINGS" "Z" (.int z)) (hz : ¬ z = 0) (F : RoadKit.Sta Z h "jdk/internal/util/Preconditions" "SIOOBE_FORMATTER" "Ljava/util/function/BiFunction;" fm) (rf : fm.isRef = true) (l2 : cs.length ≤ 4000) (hi : i < cs.length) (hj : j = Int32.ofNat i) (hfr : 4 ≤ R.frames) (hlo : W + 53 ≤ R.locals) :
    Back l R p e below s args (⟨"java/lang/String", "charAt", "(I)C"⟩ : MethodName) len W (fun P a => a = #[.ref x, .int j] ∧ P.U.heap = h ∧ P.cells + 0 ≤ R.cells ∧ P.slots + 0 ≤ R.slots)
      (fun P _ v B => ∃ L, (v = some (.int (cs.getD i 0)) ∧ L = [] ∧ B.U.heap = h) ∧ B.locs = P.locs ++ L ∧ B.cells = P.cells + 0 ∧ B.slots = P.slots + 0) := by
  subst hj
  intro m meth c P g ig mk a X hg hsize hdg hW hn hp'
  obtain ⟨rfl, rfl, r1, r2⟩ := hp'
  have al : Z.vm.Alike P.U.vm := hZ.alike.trans X.warmed.alike
  obtain ⟨A, hx⟩ := txt_of wi al E V C K hc hb l2
  obtain ⟨v, B, X', ⟨⟨hv, hh⟩, hl, hk, hs⟩, st⟩ := ChN.pays x t A cs.length (fun j => cs.getD j 0) z fm i (tabChN_of (movedChN hZ hw)) hfr hlo m meth c P g ig mk _ X hg hsize hdg hW hn ⟨r1, r2, rfl, hx, hi, sta_is al S, hz, sta_is al F, rf⟩
  exact ⟨v, B, X', ⟨[], ⟨hv, rfl, hh⟩, hl, hk, hs⟩, st⟩
/-- what backV says of its String, as the contracts of this text ask it: cs's low bytes, coder 0 -/
theorem codOf {cs : List Int32} {n : Nat} (hn : cs.length = n) (hb : ∀ c ∈ cs, ¬ 255 < c) : CodA cs 0 (Int32.ofNat n) ((cs.map lo8).map Value.int) := Or.inl ⟨rfl, by rw [hn], by simp [List.map_map, Function.comp_def], hb⟩
end StrChars.Road
end Jvm.Pilot.@@N@@

namespace Jvm.Pilot.@@N@@
open Jvm Jvm.ClassFile Sem Op Lib Jvm.Free Jvm.Stand Jvm.LawKit Jvm.RoadKit Bundle Jvm.Pilot.@@N@@.Jvm.D
theorem w_ {Z : State} {a0 : Array Value} (hw : ∀ d ∈ tables_1, d.before a0 Z = true) (i : Nat) {d : Jvm.Cond} (h : tables_1[i]? = some d) : d.before a0 Z = true := hw d (List.mem_of_getElem? h)
abbrev own_Go (p : Program) (e : Env) (below : List Frame) (Φ : State → Outcome → Prop) (T : State) (g : JFrame) : Prop := ∃ s₂ o, Steps p.tables e below (T.setTop g) s₂ ∧ Φ s₂ o
section OwnGo
variable {p : Program} {e : Env} {below : List Frame} {Φ : State → Outcome → Prop} {T T' : State} {g g' : JFrame}
theorem sp_ (st : ∀ target, Steps p.tables e below (T'.setTop g') target → Steps p.tables e below (T.setTop g) target) (k : own_Go p e below Φ T' g') : own_Go p e below Φ T g := by
  obtain ⟨t, o, h, r⟩ := k
  exact ⟨t, o, st t h, r⟩
theorem jp_ (st : Steps p.tables e below (T.setTop g) (T'.setTop g')) (k : own_Go p e below Φ T' g') : own_Go p e below Φ T g := by
  obtain ⟨t, o, h, r⟩ := k
  exact ⟨t, o, st.trans h, r⟩
theorem own_cast (q : g = g') (k : own_Go p e below Φ T g') : own_Go p e below Φ T g := q ▸ k
theorem own_insKeep {Z : State} {h h' : Heap} {a : Addr} {C : String} {ws : List Addr} (F : Ins Z h a C true) (K : Keep h h' ws) : Ins Z h' a C true := by
  obtain ⟨cell, cT, h1, h2, h3⟩ := F
  obtain ⟨c', q1, q2, q3, -⟩ := K.2.2 _ _ h1
  exact ⟨c', cT, q1, h2, by rw [q2, q3]; exact h3⟩
end OwnGo
section OwnCall
variable {p : Program} {l : Launch} {e : Env} {R : Room} {s : State} {m : MethodId} {args : Array Value} {below : List Frame} {meth : Method} {c : Code} {T : State} {locs : List Loc} {cells slots : Nat} {Z : State} {a0 : Array Value} {h : Heap}
  {own : String} {index : Nat} {y z : MethodName} {bytes : ByteArray} {maxL W k n : Nat} {ret : Option FieldType} {as' : Array Value} {Q : Option Value → Heap → List Loc → Prop} {g : JFrame} {argsL rest : List Value} {a : Addr} {C : String} {J J' : Vm → Prop}
/-- who pays a call: what it asks, what it leaves -/
abbrev own_Pay (l : Launch) (R : Room) (p : Program) (e : Env) (below : List Frame) (s : State) (args : Array Value) (y : MethodName) (len W : Nat) (as' : Array Value) (h : Heap) (k n : Nat) (Q : Option Value → Heap → List Loc → Prop) : Prop :=
  Back l R p e below s args y len W (fun A a => a = as' ∧ A.U.heap = h ∧ A.cells + k ≤ R.cells ∧ A.slots + n ≤ R.slots) (fun A _ v B => ∃ L, Q v B.U.heap L ∧ B.locs = A.locs ++ L ∧ B.cells = A.cells + k ∧ B.slots = A.slots + n)
abbrev own_PayW (l : Launch) (R : Room) (p : Program) (e : Env) (below : List Frame) (s : State) (args : Array Value) (y : MethodName) (len W : Nat) (as' : Array Value) (h : Heap) (k n : Nat) (J J' : Vm → Prop) (Q : Option Value → Heap → List Loc → Prop) : Prop :=
  BackS l R p e below s args y len W (fun A a => a = as' ∧ A.U.heap = h ∧ A.cells + k ≤ R.cells ∧ A.slots + n ≤ R.slots ∧ J A.U.vm) (fun A _ v B => ∃ L, (Q v B.U.heap L ∧ J' B.U.vm) ∧ B.locs = A.locs ++ L ∧ B.cells = A.cells + k ∧ B.slots = A.slots + n)
theorem own_cS (X : Stand p l e R s m args below meth c T locs cells slots) (hx : p.tables.exec = Jvm.exec) (hZ : Z.Warmed39 s.vm) (hown : s.vm.findClass own = some m.cls) (w1 : (Jvm.Cond.methodLink own index y).before a0 Z = true) (w2 : (Jvm.Cond.static y).before a0 Z = true) (w3 : (Jvm.Cond.initialized y.cls).before a0 Z = true) (w4 : (Jvm.Cond.code y bytes maxL ret).before a0 Z = true)
    (hy : y.cls ≠ "java/lang/invoke/MethodHandle" ∧ y.cls ≠ "java/lang/invoke/VarHandle") (hK : own_Pay l R p e below s args y 3 W as' h k n Q) (hg : g.method = m) (hsize : g.locals.size = c.maxLocals) (hlen : ∀ sig, parseMethodDescriptor y.desc = some sig → argsL.length = sig.parameters.length) (hstack : g.stack = argsL.reverse ++ rest)
    (hW : 2 * g.monitorRoom + (rest.map fun v => v.category).sum ≤ W) (hdg : decode c.code g.pc = .ok (.invokestatic index, 3)) (ha : argsL.toArray = as') (eT : T.heap = h) (hc : cells + k ≤ R.cells) (hs : slots + n ≤ R.slots) :
    ∃ v T' L, Stand p l e R s m args below meth c T' (locs ++ L) (cells + k) (slots + n) ∧ Q v T'.heap L ∧ Steps p.tables e below (T.setTop g) (T'.setTop { g with pc := g.pc + 3, stack := v.toList ++ rest }) := by
  obtain ⟨v, vm₁, ⟨T', L', c', n'⟩, -, X', ⟨L, hQ, e1, e2, e3⟩, st⟩ := Jvm.LawKit.callS X hx hown (mvT hZ w1) (mvT hZ w2) (mvT hZ w3) (mvT hZ w4) hy hK hg hsize hlen hstack hW hdg (fun _ _ => ⟨ha, eT, hc, hs⟩)
  dsimp only [Pt.U, Pt.locs, Pt.cells, Pt.slots] at X' e1 e2 e3 st hQ
  subst e1 e2 e3
  exact ⟨v, T', L, X', hQ, st _ (Steps.refl _)⟩
theorem own_cI (X : Stand p l e R s m args below meth c T locs cells slots) (hx : p.tables.exec = Jvm.exec) (hZ : Z.Warmed39 s.vm) (hy1 : y.name = "<init>") (hown : s.vm.findClass own = some m.cls) (w1 : (Jvm.Cond.methodLink own index y).before a0 Z = true) (w2 : (Jvm.Cond.instanceMethod y).before a0 Z = true) (w4 : (Jvm.Cond.code y bytes maxL none).before a0 Z = true)
    (hy : y.cls ≠ "java/lang/invoke/MethodHandle" ∧ y.cls ≠ "java/lang/invoke/VarHandle") (hK : own_Pay l R p e below s args y 3 W as' h k n Q) (hg : g.method = m) (hsize : g.locals.size = c.maxLocals) (hlen : ∀ sig, parseMethodDescriptor y.desc = some sig → argsL.length = sig.parameters.length) (hstack : g.stack = argsL.reverse ++ .ref a :: rest)
    (hW : 2 * g.monitorRoom + (rest.map fun v => v.category).sum ≤ W) (hdg : decode c.code g.pc = .ok (.invokespecial index, 3)) (ha : (.ref a :: argsL).toArray = as') (eT : T.heap = h) (hc : cells + k ≤ R.cells) (hs : slots + n ≤ R.slots) :
    ∃ v T' L, Stand p l e R s m args below meth c T' (locs ++ L) (cells + k) (slots + n) ∧ Q v T'.heap L ∧ Steps p.tables e below (T.setTop g) (T'.setTop { g with pc := g.pc + 3, stack := v.toList ++ rest }) := by
  obtain ⟨v, vm₁, ⟨T', L', c', n'⟩, -, X', ⟨L, hQ, e1, e2, e3⟩, st⟩ := X.specialBack hx hy1 hown (mvT hZ w1) (mvT hZ w2) (mvT hZ w4) hy hK hg hsize (Steps.refl _) hlen hstack hW hdg (fun _ _ => ⟨ha, eT, hc, hs⟩)
  dsimp only [Pt.U, Pt.locs, Pt.cells, Pt.slots] at X' e1 e2 e3 st hQ
  subst e1 e2 e3
  exact ⟨v, T', L, X', hQ, st⟩
theorem own_cV (X : Stand p l e R s m args below meth c T locs cells slots) (hx : p.tables.exec = Jvm.exec) (hZ : Z.Warmed39 s.vm) (hown : s.vm.findClass own = some m.cls) (w1 : (Jvm.Cond.methodLink own index y).before a0 Z = true) (w2 : (Jvm.Cond.declares y).before a0 Z = true) (hnf : NotFace s y) (w3 : (Jvm.Cond.selects C y z).before a0 Z = true) (w4 : (Jvm.Cond.instanceMethod z).before a0 Z = true)
    (hy : y.cls ≠ "java/lang/invoke/MethodHandle" ∧ y.cls ≠ "java/lang/invoke/VarHandle") (hK : own_Pay l R p e below s args z 3 W as' h k n Q) (E : Exa Z h a C) (hg : g.method = m) (hsize : g.locals.size = c.maxLocals) (hlen : ∀ sig, parseMethodDescriptor y.desc = some sig → argsL.length = sig.parameters.length) (hstack : g.stack = argsL.reverse ++ .ref a :: rest)
    (hW : 2 * g.monitorRoom + (rest.map fun v => v.category).sum ≤ W) (hdg : decode c.code g.pc = .ok (.invokevirtual index, 3)) (ha : (.ref a :: argsL).toArray = as') (eT : T.heap = h) (hc : cells + k ≤ R.cells) (hs : slots + n ≤ R.slots) :
    ∃ v T' L, Stand p l e R s m args below meth c T' (locs ++ L) (cells + k) (slots + n) ∧ Q v T'.heap L ∧ Steps p.tables e below (T.setTop g) (T'.setTop { g with pc := g.pc + 3, stack := v.toList ++ rest }) := by
  obtain ⟨cq, kq, q1, q2, q3⟩ := isOf hZ eT E
  obtain ⟨v, vm₁, ⟨T', L', c', n'⟩, -, X', ⟨L, hQ, e1, e2, e3⟩, st⟩ := X.virtualBack hx hown (mvT hZ w1) (mvT hZ w2) hnf (mvT hZ w3) (mvT hZ w4) hy hK q1 q3 hg hsize (Steps.refl _) hlen hstack hW hdg (fun _ _ => ⟨ha, eT, hc, hs⟩)
  dsimp only [Pt.U, Pt.locs, Pt.cells, Pt.slots] at X' e1 e2 e3 st hQ
  subst e1 e2 e3
  exact ⟨v, T', L, X', hQ, st⟩
end OwnCall
/-- a String of Latin-1 signs: its object, its byte[], its signs -/
def own_Str (Z : State) (h : Heap) (a t : Addr) (cs : List Int32) : Prop :=
  Exa Z h a "java/lang/String" ∧ Fld Z h a "java/lang/String" "coder" "B" (.int (0 : Int32)) ∧ Fld Z h a "java/lang/String" "value" "[B" (.ref t) ∧ (∃ kb, Arv Z h t kb .byte (Int32.ofNat cs.length) ((cs.map fun c => c.toInt8.toInt32).map Value.int) (.int 0)) ∧ (∀ c ∈ cs, ¬ c < 0 ∧ ¬ (255 : Int32) < c) ∧ cs.length ≤ 4000
section OwnStr
variable {Z : State} {h h' : Heap} {a t : Addr} {cs ds : List Int32} {ws : List Addr}
theorem own_Str.lt (F : own_Str Z h a t cs) : a < h.size := F.1.lt
theorem own_Str.ltT (F : own_Str Z h a t cs) : t < h.size := by obtain ⟨-, -, -, ⟨kb, A⟩, -⟩ := F; exact A.lt
theorem own_Str.ext (F : own_Str Z h a t cs) (E : Ext h h') : own_Str Z h' a t cs := by
  obtain ⟨f1, f2, f3, ⟨kb, f4⟩, f5⟩ := F
  exact ⟨f1.ext E, f2.ext E, f3.ext E, ⟨kb, f4.ext E⟩, f5⟩
theorem own_Str.keep (F : own_Str Z h a t cs) (K : Keep h h' ws) (qa : a ∉ ws) (qt : t ∉ ws) : own_Str Z h' a t cs := by
  obtain ⟨f1, f2, f3, ⟨kb, f4⟩, f5⟩ := F
  exact ⟨f1.keep K, f2.keep K qa, f3.keep K qa, ⟨kb, f4.keep K qt⟩, f5⟩
theorem own_neT {x : Addr} {C : String} {a0 : Array Value} {n : Nat} (E : Exa Z h x C) (F : own_Str Z h a t cs) (w : (Jvm.Cond.instantiable C n).before a0 Z = true) : x ≠ t := by
  obtain ⟨-, -, -, ⟨kb, f4⟩, -⟩ := F
  exact Exa.neArv E f4 w
theorem own_narLit : ∀ x : Int32, ¬ x < 0 → ¬ (65535 : Int32) < x → nar .char x = x := fun x h0 h1 => by
  have q := c_i2c x
  have r := rng32 x
  rw [Int32.lt_iff_toInt_lt] at h0 h1
  have e0 : (0 : Int32).toInt = 0 := rfl
  have e1 : (65535 : Int32).toInt = 65535 := rfl
  exact Int32.toInt_inj.mp (by show (x.toUInt32.toUInt16.toUInt32.toInt32).toInt = _; omega)
theorem own_up (hp : ∀ c ∈ cs, ¬ c < 0 ∧ ¬ (255 : Int32) < c) : ∀ c ∈ cs, ¬ c < 0 ∧ ¬ (65535 : Int32) < c := fun c hc => ⟨(hp c hc).1, fun q => (hp c hc).2 (by rw [Int32.lt_iff_toInt_lt] at q ⊢; have e1 : (65535 : Int32).toInt = 65535 := rfl; have e2 : (255 : Int32).toInt = 255 := rfl; omega)⟩
theorem own_sgc {c : Int32} (h : ¬ c < (0 : Int32) ∧ ¬ (255 : Int32) < c) : ¬ c < 0 ∧ ¬ (65535 : Int32) < c := own_up (cs := [c]) (fun x hx => by cases List.mem_singleton.mp hx; exact h) c (List.mem_singleton.mpr rfl)
theorem own_Str.sgD {i : Nat} (F : own_Str Z h a t cs) (hi : i < cs.length) : ¬ cs.getD i 0 < (0 : Int32) ∧ ¬ (255 : Int32) < cs.getD i 0 := by
  have e : cs.getD i 0 = cs[i] := by simp [List.getD, List.getElem?_eq_getElem hi]
  rw [e]
  exact F.2.2.2.2.1 _ (List.getElem_mem hi)
theorem own_Str.cast (F : own_Str Z h a t cs) (e : cs = ds) : own_Str Z h a t ds := e ▸ F
theorem own_nar255 (x : Int32) : nar .char (x &&& (255 : Int32)) = x &&& (255 : Int32) := i2c_mask x
theorem own_narB (x : Int32) : x.toInt8.toInt32.toInt8.toInt32 = x.toInt8.toInt32 := by
  rw [Int8.toInt8_toInt32]
theorem own_and255 (x : Int32) : ¬ x &&& (255 : Int32) < 0 ∧ ¬ (255 : Int32) < x &&& (255 : Int32) := by
  have h := c_and x 255 (by decide)
  have e : (255 : Int32).toInt = 255 := rfl
  rw [e] at h
  exact ⟨fun q => by rw [Int32.lt_iff_toInt_lt] at q; have e0 : (0 : Int32).toInt = 0 := rfl; omega, fun q => by rw [Int32.lt_iff_toInt_lt, e] at q; omega⟩
end OwnStr
theorem own_newS {p : Program} {l : Launch} {e : Env} {R : Room} {s : State} {args : Array Value} {below : List Frame} {len W : Nat} {Z : State} {a0 : Array Value} {h : Heap} (hZ : Z.Warmed39 s.vm) (hw : ∀ d ∈ tables_1, d.before a0 Z = true)
    {x b : Addr} {kC : ClassId} {cs : List Int32} {vs : List Value} {d v0 c0 : Value} {z N : Int32} {n n0 : Nat} (hx0 : n0 ≤ x) (hh0 : n0 ≤ h.size) (E : Exa Z h x "java/lang/String") (V : Fld Z h x "java/lang/String" "value" "[B" v0) (C : Fld Z h x "java/lang/String" "coder" "B" c0) (K : Arv Z h b kC .char N vs d) (S : Sta Z h "java/lang/String" "COMPACT_STRINGS" "Z" (.int z)) (hz : ¬ z = 0)
    (hv : vs = cs.map Value.int) (hn : cs.length = n) (hN : N = Int32.ofNat n) (l0 : 0 < n) (l2 : n ≤ 4000) (hp : ∀ c ∈ cs, ¬ c < 0 ∧ ¬ (255 : Int32) < c) (hfr : 4 ≤ R.frames) (hlo : W + 65 ≤ R.locals) :
    own_Pay l R p e below s args (⟨"java/lang/String", "<init>", "([C)V"⟩ : MethodName) len W #[.ref x, .ref b] h 1 n (fun v h' L => ∃ t, v = none ∧ Fr n0 L ∧ Keep h h' [x] ∧ h.size ≤ t ∧ own_Str Z h' x t cs) := by
  have hws : ∀ d ∈ StrChars.Road.words, d.before a0 Z = true := fun d hd => hw d ((by decide +kernel : ∀ d ∈ StrChars.Road.words, d ∈ tables_1) d hd)
  subst hv
  refine Back.mono (StrChars.Road.backV hZ hws (kI := 4) (hw _ ((by decide +kernel : Jvm.Cond.instantiable "java/lang/String" 4 ∈ tables_1))) (bs := cs.map fun c => c.toInt8.toInt32) hx0 hh0 E V C K S hz hn hN l0 l2 hp rfl hfr hlo) (fun P a hp => hp) (fun P a v B _ hq => ?_)
  obtain ⟨L, ⟨q1, q2, q3, q4, q5, t, kb, -, q6, -, q7, q8⟩, hl, hc, hs⟩ := hq
  exact ⟨L, ⟨t, q1, q2, q3, q6, q4, q5, q7, ⟨kb, by rw [hn, ← hN]; exact q8⟩, hp, by omega⟩, hl, hc, hs⟩
theorem own_eqS {p : Program} {l : Launch} {e : Env} {R : Room} {s : State} {args : Array Value} {below : List Frame} {len W : Nat} {Z : State} {a0 : Array Value} {h : Heap} (hZ : Z.Warmed39 s.vm) (hw : ∀ d ∈ tables_1, d.before a0 Z = true)
    {x t y t' : Addr} {cs ds : List Int32} (F : own_Str Z h x t cs) (F' : own_Str Z h y t' ds) {z : Int32} (S : Sta Z h "java/lang/String" "COMPACT_STRINGS" "Z" (.int z)) (hz : ¬ z = 0) (hfr : 2 ≤ R.frames) (hlo : W + 28 ≤ R.locals) :
    own_Pay l R p e below s args (⟨"java/lang/String", "equals", "(Ljava/lang/Object;)Z"⟩ : MethodName) len W #[.ref x, .ref y] h 0 0 (fun v h' L => ((v = some (.int 1) ∧ cs = ds) ∨ (v = some (.int 0) ∧ ¬ cs = ds)) ∧ L = [] ∧ h' = h) := by
  have hws : ∀ d ∈ StrChars.Road.wordsEq, d.before a0 Z = true := fun d hd => hw d ((by decide +kernel : ∀ d ∈ StrChars.Road.wordsEq, d ∈ tables_1) d hd)
  obtain ⟨f1, f2, f3, ⟨kb, f4⟩, f5, f6⟩ := F
  obtain ⟨g1, g2, g3, ⟨kb', g4⟩, g5, g6⟩ := F'
  exact StrChars.Road.eqW hZ hws (kI := 4) (hw _ ((by decide +kernel : Jvm.Cond.instantiable "java/lang/String" 4 ∈ tables_1))) f1 f3 f2 f4 (StrChars.Road.codOf rfl fun c hc => (f5 c hc).2) (own_up f5) f6 g1 g3 g2 g4 (StrChars.Road.codOf rfl fun c hc => (g5 c hc).2) (own_up g5) g6 S hz hfr hlo
theorem own_lenS {p : Program} {l : Launch} {e : Env} {R : Room} {s : State} {args : Array Value} {below : List Frame} {len W : Nat} {Z : State} {a0 : Array Value} {h : Heap} (hZ : Z.Warmed39 s.vm) (hw : ∀ d ∈ tables_1, d.before a0 Z = true)
    {x t : Addr} {cs : List Int32} (F : own_Str Z h x t cs) {z : Int32} (S : Sta Z h "java/lang/String" "COMPACT_STRINGS" "Z" (.int z)) (hz : ¬ z = 0) (hfr : 2 ≤ R.frames) (hlo : W + 25 ≤ R.locals) :
    own_Pay l R p e below s args (⟨"java/lang/String", "length", "()I"⟩ : MethodName) len W #[.ref x] h 0 0 (fun v h' L => v = some (.int (Int32.ofNat cs.length)) ∧ L = [] ∧ h' = h) := by
  have hws : ∀ d ∈ StrChars.Road.wordsLen, d.before a0 Z = true := fun d hd => hw d ((by decide +kernel : ∀ d ∈ StrChars.Road.wordsLen, d ∈ tables_1) d hd)
  obtain ⟨f1, f2, f3, ⟨kb, f4⟩, f5, f6⟩ := F
  exact StrChars.Road.lenW hZ hws (kI := 4) (hw _ ((by decide +kernel : Jvm.Cond.instantiable "java/lang/String" 4 ∈ tables_1))) f1 f3 f2 f4 (StrChars.Road.codOf rfl fun c hc => (f5 c hc).2) (own_up f5) S hz f6 hfr hlo
theorem own_chS {p : Program} {l : Launch} {e : Env} {R : Room} {s : State} {args : Array Value} {below : List Frame} {len W : Nat} {Z : State} {a0 : Array Value} {h : Heap} (hZ : Z.Warmed39 s.vm) (hw : ∀ d ∈ tables_1, d.before a0 Z = true)
    {x t : Addr} {cs : List Int32} {fm : Value} {i : Nat} {j : Int32} (F : own_Str Z h x t cs) {z : Int32} (S : Sta Z h "java/lang/String" "COMPACT_STRINGS" "Z" (.int z)) (hz : ¬ z = 0) (Fm : Sta Z h "jdk/internal/util/Preconditions" "SIOOBE_FORMATTER" "Ljava/util/function/BiFunction;" fm) (rf : fm.isRef = true) (hi : i < cs.length) (hj : j = Int32.ofNat i) (hfr : 4 ≤ R.frames) (hlo : W + 53 ≤ R.locals) :
    own_Pay l R p e below s args (⟨"java/lang/String", "charAt", "(I)C"⟩ : MethodName) len W #[.ref x, .int j] h 0 0 (fun v h' L => v = some (.int (cs.getD i 0)) ∧ L = [] ∧ h' = h) := by
  have hws : ∀ d ∈ StrChars.Road.wordsChN, d.before a0 Z = true := fun d hd => hw d ((by decide +kernel : ∀ d ∈ StrChars.Road.wordsChN, d ∈ tables_1) d hd)
  obtain ⟨f1, f2, f3, ⟨kb, f4⟩, f5, f6⟩ := F
  exact StrChars.Road.chN hZ hws (kI := 4) (hw _ ((by decide +kernel : Jvm.Cond.instantiable "java/lang/String" 4 ∈ tables_1))) f1 f3 f2 f4 (StrChars.Road.codOf rfl fun c hc => (f5 c hc).2) (own_up f5) S hz Fm rf f6 hi hj hfr hlo
theorem own_one {c : Int32} (h0 : ¬ c < 0) (h1 : ¬ (255 : Int32) < c) : ∀ x ∈ [c], ¬ x < 0 ∧ ¬ (255 : Int32) < x := fun x hx => by
  cases List.mem_singleton.mp hx
  exact ⟨h0, h1⟩
theorem own_sgL (x : Int64) : ¬ (x &&& (255 : Int64)).toInt32 < (0 : Int32) ∧ ¬ (255 : Int32) < (x &&& (255 : Int64)).toInt32 := by
  have h := c_maskL x 255 8 (by decide) (by decide)
  have q := c_l2i (x &&& 255)
  have r := rng32 (x &&& (255 : Int64)).toInt32
  have e0 : (0 : Int32).toInt = 0 := rfl
  have e1 : (255 : Int32).toInt = 255 := rfl
  have h2 : 0 ≤ (x &&& (255 : Int64)).toInt ∧ (x &&& (255 : Int64)).toInt ≤ 255 := by rw [h]; omega
  constructor
  · intro k; rw [Int32.lt_iff_toInt_lt, e0] at k; omega
  · intro k; rw [Int32.lt_iff_toInt_lt, e1] at k; omega
theorem own_narL (x : Int64) : nar .char (x &&& (255 : Int64)).toInt32 = (x &&& (255 : Int64)).toInt32 := own_narLit _ (own_sgc (own_sgL x)).1 (own_sgc (own_sgL x)).2
theorem own_i2cL (x : Int64) : (x &&& (255 : Int64)).toInt32.toUInt32.toUInt16.toUInt32.toInt32 = (x &&& (255 : Int64)).toInt32 := own_narL x
section OwnWide
variable {p : Program} {l : Launch} {e : Env} {R : Room} {s : State} {args : Array Value} {below : List Frame} {Z : State} {a0 : Array Value} {h : Heap} {vm0 vm1 : Vm} {Ts Ts' : List String} {J J' : Vm → Prop}
theorem own_IB_warm (I : IB Z s.vm Ts) (hw : s.WarmedH vm1) : IB Z vm1 Ts := by
  obtain ⟨more, h1, h2⟩ := I
  exact ⟨more, by rw [hw.interned_eq]; exact h1, h2⟩
theorem own_IB_mono (I : IB Z vm0 Ts) (h : ∀ t ∈ Ts, t ∈ Ts') : IB Z vm0 Ts' := by
  obtain ⟨more, h1, h2⟩ := I
  exact ⟨more, h1, fun q hq => by obtain ⟨t, ht, e⟩ := h2 q hq; exact ⟨t, h t ht, e⟩⟩
theorem own_endMono {s t : State} {o : Outcome} {L : List Loc} {k n k' n' : Nat} (h : ReturnedEndW s o t L k n) (hk : k ≤ k') (hn : n ≤ n') : ReturnedEndW s o t L k' n' := ⟨h.1, h.2.1, h.2.2.1, h.2.2.2.mono hk hn⟩
theorem own_backI {y : MethodName} {bytes : ByteArray} {maxL : Nat} {ret : Option FieldType} {rm : Room} {len W : Nat} {as' : Array Value} {Q : Option Value → Heap → List Loc → Prop}
    (hM : MetFree l y (head1 [Cond.code y bytes maxL ret] rm) (fun a U => a = as' ∧ Z.Warmed39 U.vm ∧ U.heap = h ∧ J U.vm) (fun _ _ _ _ _ => True) (fun _ U o U' => ∃ v L, o = .returned v ∧ Q v U'.heap L ∧ J' U'.vm ∧ ReturnedEndW U o U' L rm.cells rm.slots))
    (hZ : Z.Warmed39 s.vm) (wc : (Cond.code y bytes maxL ret).before a0 Z = true) (wz : (Cond.initialized y.cls).before a0 Z = true) (hf : rm.frames + 1 ≤ R.frames) (hl : W + (maxL + 11) + rm.locals ≤ R.locals) :
    BackS l R p e below s args y len W (fun A a => a = as' ∧ A.U.heap = h ∧ A.cells + rm.cells ≤ R.cells ∧ A.slots + rm.slots ≤ R.slots ∧ J A.U.vm)
      (fun A _ v B => ∃ L, (Q v B.U.heap L ∧ J' B.U.vm) ∧ B.locs = A.locs ++ L ∧ B.cells = A.cells + rm.cells ∧ B.slots = A.slots + rm.slots) :=
  BackS.of_freeW (bytes := bytes) (maxL := maxL) (ret := ret) (E := fun _ _ o t L k n => k = rm.cells ∧ n = rm.slots ∧ ∃ v, o = .returned v ∧ Q v t.heap L ∧ J' t.vm) hM hf hl
    (fun m meth c A a Y hp => have hU : Z.Warmed39 A.U.vm := wtrans hZ Y.warmed
      ⟨by show (Cond.and _ .tt).before a A.U = true; rw [Cond.before_and, mv hU wc]; rfl, mv hU wc, mv hU wz, hp.2.2.1, hp.2.2.2.1⟩)
    (fun m meth c A a g mk Y hp => ⟨hp.1, wtrans hZ Y.warmed, hp.2.1, hp.2.2.2.2⟩) (fun _ _ _ _ _ _ _ _ _ => trivial)
    (fun _ _ _ _ ⟨v, L, h1, h2, h3, h4⟩ => ⟨L, _, _, h4, rfl, rfl, v, h1, h2, h3⟩)
    (fun m meth c A a g mk v t L k n Y hp _ _ ⟨e1, e2, v', e3, e4, e5⟩ => by cases e3; subst e1 e2; exact ⟨L, ⟨e4, e5⟩, rfl, rfl, rfl⟩)
end OwnWide
section OwnStart
variable {args : Array Value} {s : State} {t u : Term} {a : Addr} {cl : Cell} {ty : FieldType} {z k : Int32}
theorem own_eqInt (h : (Jvm.Cond.eq t (.int k)).value args s none s [] = some true) : t.eval args s none [] s = some (.int k) := by
  obtain ⟨x, y, h1, h2, h3, -⟩ := cmp_v (Or.inl h)
  cases h2
  cases x <;> simp [Kin, Value.isRef] at h3
  have := gotT (Cond.eq_ints h1 (Term.int_eval k)) h
  rw [h1, this]
theorem own_eqRef (h : (Jvm.Cond.eq t u).value args s none s [] = some true) (hu : u.eval args s none [] s = some (.ref a)) : t.eval args s none [] s = some (.ref a) := by
  obtain ⟨x, y, h1, h2, h3, h4⟩ := cmp_v (Or.inl h)
  cases hu.symm.trans h2
  have hx : x.isRef = true := by cases x <;> simp [Kin, Value.isRef] at h3 h4 ⊢
  have := gotT (eq_R h1 hu hx rfl) h
  rw [h1, this]
theorem own_len (h : (Term.length t).eval args s none [] s = some (.int z)) (ht : t.eval args s none [] s = some (.ref a)) (A : Arr s s.heap a cl ty) : cl.slots.size < 2 ^ 31 ∧ cl.slots.size.toInt32 = z := by
  have ha : s.arrayAt? a = some cl := Arr.fin (Vm.Alike.refl _) A
  simp only [Term.eval, ht, ha, Option.bind_eq_bind, Option.bind_some] at h
  split at h
  · rename_i q
    exact ⟨q, by simpa using h⟩
  · cases h
theorem own_elem {v : Value} {i : Nat} {j : Int32} (h : (Term.elem t (.int j)).eval args s none [] s = some v) (ht : t.eval args s none [] s = some (.ref a)) (A : Arr s s.heap a cl ty) (hi : j.toNatClampNeg = i) : cl.slots[i]? = some v := by
  have q := (elem_in h ht (Term.int_eval j) A.1).2
  rw [hi] at q
  exact q
theorem own_fld {C n d : String} {v : Value} (h : (Term.field t C n d).eval args s none [] s = some v) (ht : t.eval args s none [] s = some (.ref a)) : Fld s s.heap a C n d v := Fld.start (by rw [← fld_at ht]; exact h)
end OwnStart
set_option maxRecDepth 65536
set_option maxHeartbeats 40000000
theorem rN {o : Option FieldType} {t : FieldType} {P : Prop} (e : o = some t) (h : o = none) : P := by rw [e] at h; cases h
abbrev own_Hw (a0 : Array Value) (Z : State) : Prop := ∀ d ∈ tables_1, d.before a0 Z = true
abbrev J0 : ByteArray := prog_9_method_1_code
abbrev J1 : ByteArray := jdk_42_method_149_code
abbrev J2 : ByteArray := jdk_42_method_3_code
abbrev J3 : ByteArray := jdk_43_method_3_code
abbrev J4 : ByteArray := jdk_43_method_46_code
abbrev J5 : ByteArray := jdk_42_method_151_code
abbrev J6 : ByteArray := jdk_42_method_139_code
abbrev J7 : ByteArray := jdk_42_method_66_code
abbrev J8 : ByteArray := prog_9_method_5_code
abbrev J9 : ByteArray := method_3_code
abbrev J10 : ByteArray := method_4_code
abbrev J11 : ByteArray := method_5_code
abbrev J12 : ByteArray := method_6_code
abbrev J13 : ByteArray := method_7_code
abbrev J14 : ByteArray := method_8_code
abbrev vi (x : Int32) : Slot := .val (.int x)
abbrev vr (x : Addr) : Slot := .val (.ref x)
abbrev un : Slot := .unset
abbrev lb (c : Int32) : Value := .int ((c >>> ((0 : Int32) &&& 31)).toInt8.toInt32)
abbrev hb_ (c : Int32) : Value := .int ((c >>> ((8 : Int32) &&& 31)).toInt8.toInt32)
abbrev rm_ (f c s l : Nat) : Room := { frames := f, cells := c, slots := s, locals := l }
abbrev Go_ {p : Program} {e : Env} {below : List Frame} {Q : State → Outcome → Prop} (T : State) (g : JFrame) : Prop := own_Go p e below Q T g
abbrev sc0 : String := "java/lang/String"
abbrev sc1 : String := "com/example/vestwright/vestwright/census/ReasonOfPinLaw"
abbrev sc2 : String := "com/example/vestwright/vestwright/census/Separation$Reason"
abbrev sc3 : String := "Lcom/example/vestwright/vestwright/census/Separation$Reason;"
abbrev sc4 : String := "Ljava/lang/String;"
abbrev sc5 : String := "java/lang/StringLatin1"
abbrev ym0 : MethodName := ⟨"com/example/vestwright/vestwright/census/ReasonOfPinLaw", "expected", "(Ljava/lang/String;)Lcom/example/vestwright/vestwright/census/Separation$Reason;"⟩
abbrev ym1 : MethodName := ⟨"com/example/vestwright/vestwright/census/ReasonOfPinLaw", "drawnString", "(IJ)Ljava/lang/String;"⟩
abbrev ym2 : MethodName := ⟨"com/example/vestwright/vestwright/census/Separation$Reason", "of", "(Ljava/lang/String;)Lcom/example/vestwright/vestwright/census/Separation$Reason;"⟩
abbrev ym3 : MethodName := ⟨"com/example/vestwright/vestwright/census/ReasonOfPinLaw", "copy", "(Ljava/lang/String;IC)Ljava/lang/String;"⟩
abbrev ym4 : MethodName := ⟨"com/example/vestwright/vestwright/census/ReasonOfPinLaw", "longer", "(Ljava/lang/String;C)Ljava/lang/String;"⟩
abbrev ym5 : MethodName := ⟨"com/example/vestwright/vestwright/census/ReasonOfPinLaw", "shorter", "(Ljava/lang/String;)Ljava/lang/String;"⟩
abbrev ym6 : MethodName := ⟨"java/lang/String", "<init>", "([CIILjava/lang/Void;)V"⟩
abbrev ym7 : MethodName := ⟨"java/lang/String", "<init>", "([C)V"⟩
def own_St (Z : State) (zc : Int32) (fm : Value) (w_0 : Addr) (w_1 : Addr) (w_2 : Addr) (w_3 : Addr) (wV : Addr) (kV : ClassId) (s_0 : Addr) (t_0 : Addr) (s_1 : Addr) (t_1 : Addr) (s_2 : Addr) (t_2 : Addr) (s_3 : Addr) (t_3 : Addr) : Prop := (Sta Z Z.heap sc0 "COMPACT_STRINGS" "Z" (.int zc)) ∧ (¬ zc = (0 : Int32)) ∧ (Sta Z Z.heap "jdk/internal/util/Preconditions" "SIOOBE_FORMATTER" "Ljava/util/function/BiFunction;" fm) ∧ (fm.isRef = true) ∧ (Sta Z Z.heap sc2 "DEATH" sc3 (.ref w_0)) ∧ (Sta Z Z.heap sc2 "DISABILITY" sc3 (.ref w_1)) ∧ (Sta Z Z.heap sc2 "RETIREMENT" sc3 (.ref w_2)) ∧ (Sta Z Z.heap sc2 "OTHER" sc3 (.ref w_3)) ∧ (Sta Z Z.heap sc2 "$VALUES" "[Lcom/example/vestwright/vestwright/census/Separation$Reason;" (.ref wV)) ∧ (Exa Z Z.heap w_0 sc2) ∧ (Exa Z Z.heap w_1 sc2) ∧ (Exa Z Z.heap w_2 sc2) ∧ (Exa Z Z.heap w_3 sc2) ∧ (Exa Z Z.heap wV "[Lcom/example/vestwright/vestwright/census/Separation$Reason;") ∧ (Arv Z Z.heap wV kV (.object sc2) (4 : Int32) [(.ref w_0), (.ref w_1), (.ref w_2), (.ref w_3)] .null) ∧ (Fld Z Z.heap w_0 sc2 "word" sc4 (.ref s_0)) ∧ (own_Str Z Z.heap s_0 t_0 [(100 : Int32), (101 : Int32), (97 : Int32), (116 : Int32), (104 : Int32)]) ∧ (Fld Z Z.heap w_1 sc2 "word" sc4 (.ref s_1)) ∧ (own_Str Z Z.heap s_1 t_1 [(100 : Int32), (105 : Int32), (115 : Int32), (97 : Int32), (98 : Int32), (105 : Int32), (108 : Int32), (105 : Int32), (116 : Int32), (121 : Int32)]) ∧ (Fld Z Z.heap w_2 sc2 "word" sc4 (.ref s_2)) ∧ (own_Str Z Z.heap s_2 t_2 [(114 : Int32), (101 : Int32), (116 : Int32), (105 : Int32), (114 : Int32), (101 : Int32), (109 : Int32), (101 : Int32), (110 : Int32), (116 : Int32)]) ∧ (Fld Z Z.heap w_3 sc2 "word" sc4 (.ref s_3)) ∧ (own_Str Z Z.heap s_3 t_3 [(111 : Int32), (116 : Int32), (104 : Int32), (101 : Int32), (114 : Int32)]) ∧ (Jvm.Lit.compactW.before #[] Z = true) ∧ (Jvm.Lit.constHeld Z sc1 7) ∧ (Jvm.Lit.constHeld Z sc1 9) ∧ (Jvm.Lit.constHeld Z sc1 11) ∧ (Jvm.Lit.constHeld Z sc1 13) ∧ (Jvm.Lit.constHeld Z sc0 7)
theorem dk0 : decode J0 0 = .ok (.getstatic 16, 3) := by decide +kernel
theorem dk1 : decode J0 3 = .ok (.invokevirtual 20, 3) := by decide +kernel
theorem dk2 : decode J0 6 = .ok (.checkcast 21, 3) := by decide +kernel
theorem dk3 : decode J0 9 = .ok (.areturn, 1) := by decide +kernel
theorem pn_com_example_vestwright_vestwright_census_Separation_Reason : plainName "com/example/vestwright/vestwright/census/Separation$Reason" = true := by first | (simp [plainName, overriddenIn]; done) | decide +kernel
theorem ef_rmV (mm_ : MethodId)  : entryFrame mm_ #[] 0 = (mkF mm_ 0 #[] []) := by first | (simp [entryFrame, mkF, argsToLocals, Value.category]; done) | rfl
def QrmV (Z : State) (w_0 : Addr) (w_1 : Addr) (w_2 : Addr) (w_3 : Addr) (kV : ClassId) (h0 : Heap) (n0 : Nat) (vv_ : Option Value) (hh_ : Heap) (LL_ : List Loc) : Prop := ∃ (r : Addr), (vv_ = some (.ref r)) ∧ (Fr n0 LL_) ∧ (Keep h0 hh_ []) ∧ (h0.size ≤ r) ∧ (Arv Z hh_ r kV (.object sc2) (4 : Int32) [(.ref w_0), (.ref w_1), (.ref w_2), (.ref w_3)] .null)
theorem rmV (l : Launch) (Z : State) (a0 : Array Value) (hw : own_Hw a0 Z) (ws : List Jvm.Cond) {zc : Int32} {fm : Value} {w_0 : Addr} {w_1 : Addr} {w_2 : Addr} {w_3 : Addr} {wV : Addr} {kV : ClassId} {s_0 : Addr} {t_0 : Addr} {s_1 : Addr} {t_1 : Addr} {s_2 : Addr} {t_2 : Addr} {s_3 : Addr} {t_3 : Addr} (h0 : Heap) (n0 : Nat) (O0 : Old Z n0 h0) (G_ : own_St Z zc fm w_0 w_1 w_2 w_3 wV kV s_0 t_0 s_1 t_1 s_2 t_2 s_3 t_3) :
 MetFree l (⟨sc2, "values", "()[Lcom/example/vestwright/vestwright/census/Separation$Reason;"⟩ : MethodName) (head1 (Jvm.Cond.code (⟨sc2, "values", "()[Lcom/example/vestwright/vestwright/census/Separation$Reason;"⟩ : MethodName) J0 0 (some (.array (.object sc2))) :: ws) (rm_ 1 1 4 14)) (fun aa_ UU_ => aa_ = #[] ∧ Z.Warmed39 UU_.vm ∧ UU_.heap = h0) (fun _ _ _ _ _ => True) (fun _ UU_ oo_ UV_ => ∃ vv_ LL_, oo_ = .returned vv_ ∧ QrmV Z w_0 w_1 w_2 w_3 kV h0 n0 vv_ UV_.heap LL_ ∧ FrameEnd UU_ oo_ UV_ LL_ (rm_ 1 1 4 14).cells (rm_ 1 1 4 14).slots) := by
 refine MetFree.of_bodySF (plainFor_of_name pn_com_example_vestwright_vestwright_census_Separation_Reason) hisR ?_
 intro pp_ ee_ ss_ mm_ args_ bb_ me_ cc_ s₁ Bd hml0 hP hK
 obtain ⟨rfl, hZ, hh⟩ := hP
 have hx := Bd.exec
 have hby := Bd.bytes; have B_ {q_ : Nat} {r_ : _} (h_ : decode _ q_ = r_) := hb hby h_
 have hml : cc_.maxLocals = 0 := hml0
 have hown : ss_.vm.findClass sc2 = some mm_.cls := findClass_of_methodNamed Bd.named
 have hnm := (name_of_methodNamed Bd.named Bd.method).1
 have X0 : Stand pp_ l ee_ (rm_ 1 1 4 14) ss_ mm_ #[] bb_ me_ cc_ s₁ [] 0 0 := Stand.of_body Bd
 have e0 : s₁.heap = h0 := by rw [← hh, Bd.state]; rfl
 have N0 := Fr.nil n0
 show own_Go pp_ ee_ bb_ _ s₁ (entryFrame mm_ #[] 0)
 refine own_cast (ef_rmV mm_ ) ?_
 have Z0 : n0 ≤ h0.size := by have q := O0.2.1; rw [O0.1] at q; exact q
 have K0 : Keep h0 h0 [] := Keep.refl _ _
 obtain ⟨G_cs, G_cs0, G_fm, G_fr, G_S1, G_S2, G_S3, G_S4, G_S5, G_E6, G_E7, G_E8, G_E9, G_E10, G_V11, G_F12, G_T13, G_F17, G_T18, G_F22, G_T23, G_F27, G_T28, G_cw, G_h_com_example_vestwright_vestwright_census_ReasonOfPinLaw_7, G_h_com_example_vestwright_vestwright_census_ReasonOfPinLaw_9, G_h_com_example_vestwright_vestwright_census_ReasonOfPinLaw_11, G_h_com_example_vestwright_vestwright_census_ReasonOfPinLaw_13, G_h_java_lang_String_7⟩ := id G_
 show Go_ s₁ (mkF mm_ 0 #[] [])
 obtain ⟨T1, X1, e1, st1⟩ := getS2 X0 hx hZ hown (host := "") (Or.inl (w_ hw 80 rfl)) Via.refl e0 (G_S5.ext O0.2) (g := (mkF mm_ 0 #[] [])) rfl (B_ dk0)
 refine sp_ st1 ?_
 show Go_ T1 (mkF mm_ 3 #[] [(.ref wV)])
 obtain ⟨T2, h2, X2, e2, E2, V2, A2, st2⟩ := cloneH X1 hx hZ hown (w_ hw 82 rfl) (w_ hw 83 rfl) (w_ hw 87 rfl) (w_ hw 85 rfl) (w_ hw 86 rfl) (w_ hw 88 rfl) e1 (Arv.arh (G_V11.ext O0.2)) (G_E10.ext O0.2) (g := (mkF mm_ 3 #[] [(.ref wV)])) rfl hml.symm rfl (B_ dk1) (by decide) (W := 0) (cap := 4) (Nat.le_of_eq rfl) (by decide) (by decide) (by decide) (by decide)
 obtain ⟨b2, q2⟩ : ∃ z, z = h0.size := ⟨_, rfl⟩
 rw [← q2] at A2 V2 st2
 have lo_b2 : h0.size ≤ b2 := Nat.le_trans K0.1 (Nat.le_of_eq q2.symm)
 have g_b2 : n0 ≤ b2 := Nat.le_trans Z0 lo_b2
 refine sp_ st2 ?_
 have Vc2 : Arv Z h2 b2 kV (.object sc2) (4 : Int32) [(.ref w_0), (.ref w_1), (.ref w_2), (.ref w_3)] .null := V2
 show Go_ T2 (mkF mm_ 6 #[] [(.ref b2)])
 obtain ⟨T3, X3, e3, st3⟩ := castY X2 hx hZ hown (w_ hw 94 rfl) e2 (Ins.self A2) (g := (mkF mm_ 6 #[] [(.ref b2)])) rfl rfl (B_ dk2)
 refine sp_ st3 ?_
 show Go_ T3 (mkF mm_ 9 #[] [(.ref b2)])
 have K4 : Keep h0 h2 [] := (K0.ext E2)
 obtain ⟨fs, hr, hrun, hended, hW, hsame⟩ := X3.leave (v := some (.ref b2)) (rN Bd.returns)
 refine ⟨_, _, ?_, hrun, hended, _, _, rfl, ?_, ⟨_, rfl⟩, hW, hsame.mono (by decide) (by decide)⟩
 · jvm_step X3.here [X3.here.top, hx, (B_ dk3), X3.method', Bd.returns, Value.isRef, FieldType.isReference]
   first | (intro acts; rw [hr _ acts rfl rfl rfl]) | rw [hr _ _ rfl rfl rfl]
   exact Steps.refl _
 · show QrmV Z w_0 w_1 w_2 w_3 kV h0 n0 (some (.ref b2)) T3.heap _
   rw [e3]
   exact ⟨b2, rfl, N0, K4, lo_b2, Vc2⟩
theorem dk4 : decode J1 0 = .ok (.aload_n 0, 1) := by decide +kernel
theorem dk5 : decode J1 1 = .ok (.invokespecial 1, 3) := by decide +kernel
theorem dk6 : decode J1 4 = .ok (.iload_n 3, 1) := by decide +kernel
theorem dk7 : decode J1 5 = .ok (.ifCond .ne 22, 3) := by decide +kernel
theorem dk8 : decode J1 8 = .ok (.aload_n 0, 1) := by decide +kernel
theorem dk9 : decode J1 9 = .ok (.ldc 7, 2) := by decide +kernel
theorem dk10 : decode J1 11 = .ok (.getfield 9, 3) := by decide +kernel
theorem dk11 : decode J1 14 = .ok (.putfield 9, 3) := by decide +kernel
theorem dk12 : decode J1 17 = .ok (.aload_n 0, 1) := by decide +kernel
theorem dk13 : decode J1 18 = .ok (.ldc 7, 2) := by decide +kernel
theorem dk14 : decode J1 20 = .ok (.getfield 15, 3) := by decide +kernel
theorem dk15 : decode J1 23 = .ok (.putfield 15, 3) := by decide +kernel
theorem dk16 : decode J1 26 = .ok (.return_, 1) := by decide +kernel
theorem pn_java_lang_String : plainName "java/lang/String" = true := by first | (simp [plainName, overriddenIn]; done) | decide +kernel
theorem ef_rmI4 (mm_ : MethodId) (x : Addr) (b : Addr) : entryFrame mm_ #[(.ref x), (.ref b), (.int 0), (.int 0), .null] 6 = (mkF mm_ 0 #[vr x, vr b, vi 0, vi 0, .val .null, un] []) := by first | (simp [entryFrame, mkF, argsToLocals, Value.category]; done) | rfl
def QrmI4 (Z : State) (x : Addr) (b : Addr) (tz : List String) (h0 : Heap) (n0 : Nat) (vv_ : Option Value) (hh_ : Heap) (LL_ : List Loc) : Prop := ∃ (t : Addr), (vv_ = none) ∧ (Fr n0 LL_) ∧ (Keep h0 hh_ [x]) ∧ (own_Str Z hh_ x t [])
theorem rmI4 (l : Launch) (Z : State) (a0 : Array Value) (hw : own_Hw a0 Z) (ws : List Jvm.Cond) (x : Addr) (b : Addr) (tz : List String) {zc : Int32} {fm : Value} {w_0 : Addr} {w_1 : Addr} {w_2 : Addr} {w_3 : Addr} {wV : Addr} {kV : ClassId} {s_0 : Addr} {t_0 : Addr} {s_1 : Addr} {t_1 : Addr} {s_2 : Addr} {t_2 : Addr} {s_3 : Addr} {t_3 : Addr} (h0 : Heap) (n0 : Nat) (O0 : Old Z n0 h0) (G_ : own_St Z zc fm w_0 w_1 w_2 w_3 wV kV s_0 t_0 s_1 t_1 s_2 t_2 s_3 t_3) (pr0 : Exa Z h0 x sc0) (pr1 : Fld Z h0 x sc0 "value" "[B" .null) (pr2 : Fld Z h0 x sc0 "coder" "B" (.int 0)) (g_x : n0 ≤ x) (hnz : "" ∉ tz) :
 MetFree l ym6 (head1 (Jvm.Cond.code ym6 J1 6 none :: ws) (rm_ 1 2 4 12)) (fun aa_ UU_ => aa_ = #[(.ref x), (.ref b), (.int 0), (.int 0), .null] ∧ Z.Warmed39 UU_.vm ∧ UU_.heap = h0 ∧ (IB Z UU_.vm tz)) (fun _ _ _ _ _ => True) (fun _ UU_ oo_ UV_ => ∃ vv_ LL_, oo_ = .returned vv_ ∧ QrmI4 Z x b tz h0 n0 vv_ UV_.heap LL_ ∧ IB Z UV_.vm ("" :: tz) ∧ ReturnedEndW UU_ oo_ UV_ LL_ (rm_ 1 2 4 12).cells (rm_ 1 2 4 12).slots) := by
 refine MetFree.of_bodySF (plainFor_of_name pn_java_lang_String) hisR ?_
 intro pp_ ee_ ss_ mm_ args_ bb_ me_ cc_ s₁ Bd hml0 hP hK
 obtain ⟨rfl, hZ, hh, hI⟩ := hP
 have hx := Bd.exec
 have hby := Bd.bytes; have B_ {q_ : Nat} {r_ : _} (h_ : decode _ q_ = r_) := hb hby h_
 have hml : cc_.maxLocals = 6 := hml0
 have hown : ss_.vm.findClass sc0 = some mm_.cls := findClass_of_methodNamed Bd.named
 have hnm := (name_of_methodNamed Bd.named Bd.method).1
 have X0 : Stand pp_ l ee_ (rm_ 1 2 4 12) ss_ mm_ #[(.ref x), (.ref b), (.int 0), (.int 0), .null] bb_ me_ cc_ s₁ [] 0 0 := Stand.of_body Bd
 have e0 : s₁.heap = h0 := by rw [← hh, Bd.state]; rfl
 have N0 := Fr.nil n0
 have X0 : Stand pp_ l ee_ _ (ss_.setVm ss_.vm) mm_ _ bb_ me_ cc_ s₁ [] 0 0 := X0
 have hZ : Z.Warmed39 (ss_.setVm ss_.vm).vm := hZ
 have hown : (ss_.setVm ss_.vm).vm.findClass sc0 = some mm_.cls := hown
 have hS0 : ss_.Since ss_.vm 0 := (State.WarmedH.refl ss_).since 0
 have hkeep_ : ∀ (b : Addr) (cl : Cell), Z.heap[b]? = some cl → ss_.heap[b]? = some cl := by rw [hh]; exact O0.2.2
 have own_atoms_ : ∀ a ∈ Bundle.stringAtoms, a.before a0 Z = true := fun d hd => hw d ((by decide +kernel : ∀ d ∈ Bundle.stringAtoms, d ∈ tables_1) d hd)
 show own_Go pp_ ee_ bb_ _ s₁ (entryFrame mm_ #[(.ref x), (.ref b), (.int 0), (.int 0), .null] 6)
 refine own_cast (ef_rmI4 mm_ x b) ?_
 have Z0 : n0 ≤ h0.size := by have q := O0.2.1; rw [O0.1] at q; exact q
 have K0 : Keep h0 h0 [x] := Keep.refl _ _
 obtain ⟨G_cs, G_cs0, G_fm, G_fr, G_S1, G_S2, G_S3, G_S4, G_S5, G_E6, G_E7, G_E8, G_E9, G_E10, G_V11, G_F12, G_T13, G_F17, G_T18, G_F22, G_T23, G_F27, G_T28, G_cw, G_h_com_example_vestwright_vestwright_census_ReasonOfPinLaw_7, G_h_com_example_vestwright_vestwright_census_ReasonOfPinLaw_9, G_h_com_example_vestwright_vestwright_census_ReasonOfPinLaw_11, G_h_com_example_vestwright_vestwright_census_ReasonOfPinLaw_13, G_h_java_lang_String_7⟩ := id G_
 have own_cw_ : Jvm.Lit.compactW.before a0 Z = true := G_cw
 show Go_ s₁ (mkF mm_ 0 #[vr x, vr b, vi 0, vi 0, .val .null, un] [])
 refine sp_ (fun t_ k_ => XS.aloadN X0.here hx rfl (B_ dk4) rfl rfl k_) ?_
 show Go_ s₁ (mkF mm_ 1 #[vr x, vr b, vi 0, vi 0, .val .null, un] [(.ref x)])
 obtain ⟨T1, X1, e1, st1⟩ := initO X0 hx hZ hown (w_ hw 60 rfl) (w_ hw 61 rfl) (w_ hw 62 rfl) e0 (g := (mkF mm_ 1 #[vr x, vr b, vi 0, vi 0, .val .null, un] [(.ref x)])) rfl hml.symm rfl (B_ dk5) (by decide) (W := 0) (Nat.le_of_eq rfl) (by decide)
 refine sp_ st1 ?_
 show Go_ T1 (mkF mm_ 4 #[vr x, vr b, vi 0, vi 0, .val .null, un] [])
 refine sp_ (fun t_ k_ => XS.iloadN X1.here hx rfl (B_ dk6) rfl  k_) ?_
 show Go_ T1 (mkF mm_ 5 #[vr x, vr b, vi 0, vi 0, .val .null, un] [(.int 0)])
 refine sp_ (fun t_ k_ => XS.ifNo X1.here hx rfl (B_ dk7) rfl ((if0 _ _).trans (teq (by decide : (0 : Int32) = (0 : Int32))).2) k_) ?_
 show Go_ T1 (mkF mm_ 8 #[vr x, vr b, vi 0, vi 0, .val .null, un] [])
 refine sp_ (fun t_ k_ => XS.aloadN X1.here hx rfl (B_ dk8) rfl rfl k_) ?_
 show Go_ T1 (mkF mm_ 9 #[vr x, vr b, vi 0, vi 0, .val .null, un] [(.ref x)])
 obtain ⟨a2, T2, h2, k2, t2, kb2, X2, e2, E2, hS2, hk2, hZ2, hown2, Ex2, Fc2, Fv2, V2, -, -, I2, L2, st2⟩ := ldcSVL (s := ss_) (vm0 := ss_.vm) X1 hx hZ hown (w_ hw 140 rfl) own_atoms_ e1 hS0 (Nat.zero_le _) (by rw [hh]; exact (Fr.nil _)) hkeep_ hI (by first | assumption | decide) (G_h_java_lang_String_7) own_cw_ (vs := []) (z := (0 : Int32)) ⟨by decide, rfl⟩ (by decide) (by decide) (g := (mkF mm_ 9 #[vr x, vr b, vi 0, vi 0, .val .null, un] [(.ref x)])) rfl (B_ dk9) (n := 0) (by decide) (by decide) (by decide) (by decide)
 have Ls2 : own_Str Z h2 a2 t2 [] := ⟨Ex2, Fc2, Fv2, ⟨kb2, V2⟩, by decide, by decide⟩
 refine sp_ st2 ?_
 show Go_ T2 (mkF mm_ 11 #[vr x, vr b, vi 0, vi 0, .val .null, un] [(.ref a2), (.ref x)])
 obtain ⟨T3, X3, e3, st3⟩ := getF X2 hx hZ2 hown2 (host := "") (Or.inl (w_ hw 18 rfl)) Via.refl e2 Fv2 (g := (mkF mm_ 11 #[vr x, vr b, vi 0, vi 0, .val .null, un] [(.ref a2), (.ref x)])) rfl rfl (B_ dk10)
 refine sp_ st3 ?_
 show Go_ T3 (mkF mm_ 14 #[vr x, vr b, vi 0, vi 0, .val .null, un] [(.ref t2), (.ref x)])
 have f4 : Fld Z h2 x sc0 "value" "[B" .null := (pr1.ext E2)
 have f5 : Exa Z h2 x sc0 := (pr0.ext E2)
 obtain ⟨T6, h6, X6, e6, W6, st6⟩ := putF X3 hx hZ2 hown2 (host := "") (Or.inl (w_ hw 18 rfl)) Via.refl e3 f4 f5 (Or.inr ⟨(w_ hw 4 rfl), rfl, hnm⟩) (w_ hw 2 rfl) (ty := (.array .byte)) (by decide) rfl rfl (g := (mkF mm_ 14 #[vr x, vr b, vi 0, vi 0, .val .null, un] [(.ref t2), (.ref x)])) rfl rfl (B_ dk11)
 have F6 := f4.same W6
 have N6 := Fr.snoc X6 N0 g_x
 refine sp_ st6 ?_
 show Go_ T6 (mkF mm_ 17 #[vr x, vr b, vi 0, vi 0, .val .null, un] [])
 refine sp_ (fun t_ k_ => XS.aloadN X6.here hx rfl (B_ dk12) rfl rfl k_) ?_
 show Go_ T6 (mkF mm_ 18 #[vr x, vr b, vi 0, vi 0, .val .null, un] [(.ref x)])
 refine sp_ (ldcAgain (s := ss_) (vm0 := T2.vm) X6 hx hZ2 hown2 (w_ hw 140 rfl) L2 (g := (mkF mm_ 18 #[vr x, vr b, vi 0, vi 0, .val .null, un] [(.ref x)])) rfl (B_ dk13)) ?_
 show Go_ T6 (mkF mm_ 20 #[vr x, vr b, vi 0, vi 0, .val .null, un] [(.ref a2), (.ref x)])
 have f8 : Fld Z h6 a2 sc0 "coder" "B" (.int 0) := (Fc2.other W6 (Or.inr (slot_ne (Or.inr (w_ hw 5 rfl)) (Or.inr (w_ hw 4 rfl)) (by decide) (t := .byte) (t' := (.array .byte)) (by decide) (by decide))))
 obtain ⟨T9, X9, e9, st9⟩ := getF X6 hx hZ2 hown2 (host := "") (Or.inl (w_ hw 25 rfl)) Via.refl e6 f8 (g := (mkF mm_ 20 #[vr x, vr b, vi 0, vi 0, .val .null, un] [(.ref a2), (.ref x)])) rfl rfl (B_ dk14)
 refine sp_ st9 ?_
 show Go_ T9 (mkF mm_ 23 #[vr x, vr b, vi 0, vi 0, .val .null, un] [(.int 0), (.ref x)])
 have f10 : Fld Z h6 x sc0 "coder" "B" (.int 0) := ((pr2.ext E2).other W6 (Or.inr (slot_ne (Or.inr (w_ hw 5 rfl)) (Or.inr (w_ hw 4 rfl)) (by decide) (t := .byte) (t' := (.array .byte)) (by decide) (by decide))))
 have f11 : Exa Z h6 x sc0 := (f5.wr W6)
 obtain ⟨T12, h12, X12, e12, W12, st12⟩ := putFN X9 hx hZ2 hown2 (w_ hw 25 rfl) Via.refl e9 f10 f11 (Or.inr ⟨(w_ hw 5 rfl), rfl, hnm⟩) (w_ hw 2 rfl) (ty := .byte) (v' := (.int 0)) (by decide) rfl rfl (g := (mkF mm_ 23 #[vr x, vr b, vi 0, vi 0, .val .null, un] [(.int 0), (.ref x)])) rfl rfl (B_ dk15)
 have F12 := f10.same W12
 have N12 := Fr.snoc X12 N6 g_x
 refine sp_ st12 ?_
 show Go_ T12 (mkF mm_ 26 #[vr x, vr b, vi 0, vi 0, .val .null, un] [])
 have f13 : Exa Z h12 x sc0 := (f11.wr W12)
 have f14 : Fld Z h12 x sc0 "value" "[B" (.ref t2) := (F6.other W12 (Or.inr (slot_ne (Or.inr (w_ hw 4 rfl)) (Or.inr (w_ hw 5 rfl)) (by decide) (t := (.array .byte)) (t' := .byte) (by decide) (by decide))))
 have f15 : Arv Z h12 t2 kb2 .byte (0 : Int32) [] (.int 0) := ((V2.other W6 (Ne.symm (Exa.neArv f5 V2 (w_ hw 2 rfl)))).other W12 (Ne.symm (Exa.neArv f11 (V2.other W6 (Ne.symm (Exa.neArv f5 V2 (w_ hw 2 rfl)))) (w_ hw 2 rfl))))
 have Pk16 : own_Str Z h12 x t2 [] := ⟨f13, F12, f14, ⟨_, f15⟩, by decide, Nat.le_of_ble_eq_true rfl⟩
 have K17 : Keep h0 h12 [x] := (((K0.ext E2).wr W6 (Or.inl (List.mem_of_getElem? (i := 0) rfl))).wr W12 (Or.inl (List.mem_of_getElem? (i := 0) rfl)))
 obtain ⟨fs, hr, hrun, hended, hEnd⟩ := X12.leaveW hS2 (by rw [e12]; exact (Nat.le_trans (Nat.le_trans hk2 (Keep.of_wr W6).1) (Keep.of_wr W12).1)) (v := none) (fun _ => rfl)
 refine ⟨_, _, ?_, hrun, hended, _, _, rfl, ?_, own_IB_mono (own_IB_warm I2 X12.warmed) (by intro t_ h_; first | exact h_ | exact List.mem_cons_of_mem _ h_ | (revert t_ h_; decide)), own_endMono hEnd (by decide) (by decide)⟩
 · exact X12.returnOut hx Bd.returns (B_ dk16) hr
 · show QrmI4 Z x b tz h0 n0 none T12.heap _
   rw [e12]
   exact ⟨t2, rfl, N12, K17, Pk16⟩
theorem dk17 : decode J2 0 = .ok (.aload_n 0, 1) := by decide +kernel
theorem dk18 : decode J2 1 = .ok (.aload_n 1, 1) := by decide +kernel
theorem dk19 : decode J2 2 = .ok (.iconst 0, 1) := by decide +kernel
theorem dk20 : decode J2 3 = .ok (.aload_n 1, 1) := by decide +kernel
theorem dk21 : decode J2 4 = .ok (.arraylength, 1) := by decide +kernel
theorem dk22 : decode J2 5 = .ok (.aconst_null, 1) := by decide +kernel
theorem dk23 : decode J2 6 = .ok (.invokespecial 27, 3) := by decide +kernel
theorem pd_0 : parseMethodDescriptor "([CIILjava/lang/Void;)V" = some ⟨[(.array .char), .int, .int, (.object "java/lang/Void")], none⟩ := by decide +kernel
theorem dk24 : decode J2 9 = .ok (.return_, 1) := by decide +kernel
theorem ef_rmI1 (mm_ : MethodId) (x : Addr) (b : Addr) : entryFrame mm_ #[(.ref x), (.ref b)] 2 = (mkF mm_ 0 #[vr x, vr b] []) := by first | (simp [entryFrame, mkF, argsToLocals, Value.category]; done) | rfl
def QrmI1 (Z : State) (x : Addr) (b : Addr) (k : ClassId) (d : Value) (tz : List String) (h0 : Heap) (n0 : Nat) (vv_ : Option Value) (hh_ : Heap) (LL_ : List Loc) : Prop := ∃ (t : Addr), (vv_ = none) ∧ (Fr n0 LL_) ∧ (Keep h0 hh_ [x]) ∧ (own_Str Z hh_ x t [])
theorem rmI1 (l : Launch) (Z : State) (a0 : Array Value) (hw : own_Hw a0 Z) (ws : List Jvm.Cond) (x : Addr) (b : Addr) (k : ClassId) (d : Value) (tz : List String) {zc : Int32} {fm : Value} {w_0 : Addr} {w_1 : Addr} {w_2 : Addr} {w_3 : Addr} {wV : Addr} {kV : ClassId} {s_0 : Addr} {t_0 : Addr} {s_1 : Addr} {t_1 : Addr} {s_2 : Addr} {t_2 : Addr} {s_3 : Addr} {t_3 : Addr} (h0 : Heap) (n0 : Nat) (O0 : Old Z n0 h0) (G_ : own_St Z zc fm w_0 w_1 w_2 w_3 wV kV s_0 t_0 s_1 t_1 s_2 t_2 s_3 t_3) (pr0 : Exa Z h0 x sc0) (pr1 : Fld Z h0 x sc0 "value" "[B" .null) (pr2 : Fld Z h0 x sc0 "coder" "B" (.int 0)) (g_x : n0 ≤ x) (hnz : "" ∉ tz) (pr5 : Arv Z h0 b k .char (0 : Int32) [] d) :
 MetFree l ym7 (head1 (Jvm.Cond.code ym7 J2 2 none :: ws) (rm_ 2 2 4 29)) (fun aa_ UU_ => aa_ = #[(.ref x), (.ref b)] ∧ Z.Warmed39 UU_.vm ∧ UU_.heap = h0 ∧ (IB Z UU_.vm tz)) (fun _ _ _ _ _ => True) (fun _ UU_ oo_ UV_ => ∃ vv_ LL_, oo_ = .returned vv_ ∧ QrmI1 Z x b k d tz h0 n0 vv_ UV_.heap LL_ ∧ IB Z UV_.vm ("" :: tz) ∧ ReturnedEndW UU_ oo_ UV_ LL_ (rm_ 2 2 4 29).cells (rm_ 2 2 4 29).slots) := by
 refine MetFree.of_bodySF (plainFor_of_name pn_java_lang_String) hisR ?_
 intro pp_ ee_ ss_ mm_ args_ bb_ me_ cc_ s₁ Bd hml0 hP hK
 obtain ⟨rfl, hZ, hh, hI⟩ := hP
 have hx := Bd.exec
 have hby := Bd.bytes; have B_ {q_ : Nat} {r_ : _} (h_ : decode _ q_ = r_) := hb hby h_
 have hml : cc_.maxLocals = 2 := hml0
 have hown : ss_.vm.findClass sc0 = some mm_.cls := findClass_of_methodNamed Bd.named
 have hnm := (name_of_methodNamed Bd.named Bd.method).1
 have X0 : Stand pp_ l ee_ (rm_ 2 2 4 29) ss_ mm_ #[(.ref x), (.ref b)] bb_ me_ cc_ s₁ [] 0 0 := Stand.of_body Bd
 have e0 : s₁.heap = h0 := by rw [← hh, Bd.state]; rfl
 have N0 := Fr.nil n0
 have X0 : Stand pp_ l ee_ _ (ss_.setVm ss_.vm) mm_ _ bb_ me_ cc_ s₁ [] 0 0 := X0
 have hZ : Z.Warmed39 (ss_.setVm ss_.vm).vm := hZ
 have hown : (ss_.setVm ss_.vm).vm.findClass sc0 = some mm_.cls := hown
 have hS0 : ss_.Since ss_.vm 0 := (State.WarmedH.refl ss_).since 0
 have hkeep_ : ∀ (b : Addr) (cl : Cell), Z.heap[b]? = some cl → ss_.heap[b]? = some cl := by rw [hh]; exact O0.2.2
 have own_atoms_ : ∀ a ∈ Bundle.stringAtoms, a.before a0 Z = true := fun d hd => hw d ((by decide +kernel : ∀ d ∈ Bundle.stringAtoms, d ∈ tables_1) d hd)
 show own_Go pp_ ee_ bb_ _ s₁ (entryFrame mm_ #[(.ref x), (.ref b)] 2)
 refine own_cast (ef_rmI1 mm_ x b) ?_
 have Z0 : n0 ≤ h0.size := by have q := O0.2.1; rw [O0.1] at q; exact q
 have K0 : Keep h0 h0 [x] := Keep.refl _ _
 obtain ⟨G_cs, G_cs0, G_fm, G_fr, G_S1, G_S2, G_S3, G_S4, G_S5, G_E6, G_E7, G_E8, G_E9, G_E10, G_V11, G_F12, G_T13, G_F17, G_T18, G_F22, G_T23, G_F27, G_T28, G_cw, G_h_com_example_vestwright_vestwright_census_ReasonOfPinLaw_7, G_h_com_example_vestwright_vestwright_census_ReasonOfPinLaw_9, G_h_com_example_vestwright_vestwright_census_ReasonOfPinLaw_11, G_h_com_example_vestwright_vestwright_census_ReasonOfPinLaw_13, G_h_java_lang_String_7⟩ := id G_
 have own_cw_ : Jvm.Lit.compactW.before a0 Z = true := G_cw
 show Go_ s₁ (mkF mm_ 0 #[vr x, vr b] [])
 refine sp_ (fun t_ k_ => XS.aloadN X0.here hx rfl (B_ dk17) rfl rfl (XS.aloadN X0.here hx rfl (B_ dk18) rfl rfl (XS.iconst X0.here hx rfl (B_ dk19) (XS.aloadN X0.here hx rfl (B_ dk20) rfl rfl k_)))) ?_
 show Go_ s₁ (mkF mm_ 4 #[vr x, vr b] [(.ref b), (.int 0), (.ref b), (.ref x)])
 obtain ⟨cl1, Ar1, -, S1, M1, -, -⟩ := id pr5
 refine sp_ (fun t_ k_ => X0.arraylength hx (by rw [e0]; exact Ar1.1) (State.isArrayOf_alike hZ.alike Ar1.2.1) (g := (mkF mm_ 4 #[vr x, vr b] [(.ref b), (.int 0), (.ref b), (.ref x)])) rfl rfl (B_ dk21) t_ (by rw [len_of S1 M1]; exact k_)) ?_
 show Go_ s₁ (mkF mm_ 5 #[vr x, vr b] [(.int 0), (.int 0), (.ref b), (.ref x)])
 refine sp_ (fun t_ k_ => XS.aconstNull X0.here hx rfl (B_ dk22) k_) ?_
 show Go_ s₁ (mkF mm_ 6 #[vr x, vr b] [.null, (.int 0), (.int 0), (.ref b), (.ref x)])
 obtain ⟨_, _, ⟨T2, Lx2, kx2, nx2⟩, -, X2, hS2, hG2, ⟨Lc2, hQ2, l2, y2, z2⟩, st2⟩ := X0.specialBackS hx (y := ym6) rfl hown (mvT hZ (w_ hw 56 rfl)) (mvT hZ (w_ hw 57 rfl)) (mvT hZ (w_ hw 59 rfl)) (by decide) (own_backI (J := fun q_ => IB Z q_ tz) (J' := fun q_ => IB Z q_ ("" :: tz)) (W := 0) (rmI4 l Z a0 hw [] x b tz h0 n0 O0 G_ pr0 pr1 pr2 g_x hnz) hZ (w_ hw 59 rfl) (w_ hw 1 rfl) (by decide) (by decide)) (g := (mkF mm_ 6 #[vr x, vr b] [.null, (.int 0), (.int 0), (.ref b), (.ref x)])) rfl hml.symm (Steps.refl _) (a := x) (argsL := [(.ref b), (.int 0), (.int 0), .null]) (rest := []) (lenOf pd_0 rfl) rfl (Nat.le_of_eq rfl) (B_ dk23) (fun vm_ hvm_ => ⟨rfl, e0, (by decide : 0 + 2 ≤ _), (by decide : 0 + 4 ≤ _), own_IB_mono (own_IB_warm hI hvm_) (by intro t_ h_; first | exact h_ | exact List.mem_cons_of_mem _ h_ | (revert t_ h_; decide))⟩)
 dsimp only [Pt.U, Pt.locs, Pt.cells, Pt.slots] at X2 l2 y2 z2 st2 hQ2 hS2 hG2
 subst l2 y2 z2
 obtain ⟨X2, hS2, hZ2, hown2⟩ := rebS (n1 := h0.size) hS0 (Nat.zero_le _) X2 hS2 (by rw [← e0]; exact hG2) hZ hown
 obtain ⟨hQ2, hIq2⟩ := hQ2
 obtain ⟨t_2, rfl, Nq2, Kc2, r2_0⟩ := hQ2
 have N2 := Fr.app N0 Nq2
 refine jp_ st2 ?_
 show Go_ T2 (mkF mm_ 9 #[vr x, vr b] [])
 have K3 : Keep h0 T2.heap [x] := (K0.trans Kc2 (allS (Or.inl (List.mem_of_getElem? (i := 0) rfl)) all0))
 obtain ⟨fs, hr, hrun, hended, hEnd⟩ := X2.leaveW hS2 (Nat.le_refl _) (v := none) (fun _ => rfl)
 refine ⟨_, _, ?_, hrun, hended, _, _, rfl, ?_, own_IB_mono (own_IB_warm hIq2 X2.warmed) (by intro t_ h_; first | exact h_ | exact List.mem_cons_of_mem _ h_ | (revert t_ h_; decide)), own_endMono hEnd (by decide) (by decide)⟩
 · exact X2.returnOut hx Bd.returns (B_ dk24) hr
 · show QrmI1 Z x b k d tz h0 n0 none T2.heap _
   exact ⟨t_2, rfl, N2, K3, r2_0⟩
theorem dk25 : decode J3 0 = .ok (.iload_n 0, 1) := by decide +kernel
theorem dk26 : decode J3 1 = .ok (.sipush 255, 3) := by decide +kernel
theorem dk27 : decode J3 4 = .ok (.if_icmp .gt 7, 3) := by decide +kernel
theorem dk28 : decode J3 7 = .ok (.iconst 1, 1) := by decide +kernel
theorem dk29 : decode J3 8 = .ok (.goto 4, 3) := by decide +kernel
theorem dk30 : decode J3 12 = .ok (.ireturn, 1) := by decide +kernel
theorem pn_java_lang_StringLatin1 : plainName "java/lang/StringLatin1" = true := by first | (simp [plainName, overriddenIn]; done) | decide +kernel
theorem ef_rmCE (mm_ : MethodId) (c : Int32) : entryFrame mm_ #[(.int c)] 1 = (mkF mm_ 0 #[vi c] []) := by first | (simp [entryFrame, mkF, argsToLocals, Value.category]; done) | rfl
def QrmCE (Z : State) (c : Int32) (h0 : Heap) (n0 : Nat) (vv_ : Option Value) (hh_ : Heap) (LL_ : List Loc) : Prop := (vv_ = some (.int 1)) ∧ (LL_ = []) ∧ (hh_ = h0)
theorem rmCE (l : Launch) (Z : State) (a0 : Array Value) (hw : own_Hw a0 Z) (ws : List Jvm.Cond) (c : Int32) (h0 : Heap) (n0 : Nat) (O0 : Old Z n0 h0) (hc1 : ¬ ((255 : Int32) < c)) :
 MetFree l (⟨sc5, "canEncode", "(C)Z"⟩ : MethodName) (head1 (Jvm.Cond.code (⟨sc5, "canEncode", "(C)Z"⟩ : MethodName) J3 1 (some .boolean) :: ws) (rm_ 0 0 0 0)) (fun aa_ UU_ => aa_ = #[(.int c)] ∧ Z.Warmed39 UU_.vm ∧ UU_.heap = h0) (fun _ _ _ _ _ => True) (fun _ UU_ oo_ UV_ => ∃ vv_ LL_, oo_ = .returned vv_ ∧ QrmCE Z c h0 n0 vv_ UV_.heap LL_ ∧ FrameEnd UU_ oo_ UV_ LL_ (rm_ 0 0 0 0).cells (rm_ 0 0 0 0).slots) := by
 refine MetFree.of_bodySF (plainFor_of_name pn_java_lang_StringLatin1) hisR ?_
 intro pp_ ee_ ss_ mm_ args_ bb_ me_ cc_ s₁ Bd hml0 hP hK
 obtain ⟨rfl, hZ, hh⟩ := hP
 have hx := Bd.exec
 have hby := Bd.bytes; have B_ {q_ : Nat} {r_ : _} (h_ : decode _ q_ = r_) := hb hby h_
 have hml : cc_.maxLocals = 1 := hml0
 have hown : ss_.vm.findClass sc5 = some mm_.cls := findClass_of_methodNamed Bd.named
 have hnm := (name_of_methodNamed Bd.named Bd.method).1
 have X0 : Stand pp_ l ee_ (rm_ 0 0 0 0) ss_ mm_ #[(.int c)] bb_ me_ cc_ s₁ [] 0 0 := Stand.of_body Bd
 have e0 : s₁.heap = h0 := by rw [← hh, Bd.state]; rfl
 have N0 := Fr.nil n0
 show own_Go pp_ ee_ bb_ _ s₁ (entryFrame mm_ #[(.int c)] 1)
 refine own_cast (ef_rmCE mm_ c) ?_
 have Z0 : n0 ≤ h0.size := by have q := O0.2.1; rw [O0.1] at q; exact q
 have K0 : Keep h0 h0 [] := Keep.refl _ _
 show Go_ s₁ (mkF mm_ 0 #[vi c] [])
 refine sp_ (fun t_ k_ => XS.iloadN X0.here hx rfl (B_ dk25) rfl  (XS.sipush X0.here hx rfl (B_ dk26) k_)) ?_
 show Go_ s₁ (mkF mm_ 4 #[vi c] [(.int 255), (.int c)])
 refine sp_ (fun t_ k_ => XS.icmpNo X0.here hx rfl (B_ dk27) rfl (flt hc1).2.2.1 k_) ?_
 show Go_ s₁ (mkF mm_ 7 #[vi c] [])
 refine sp_ (fun t_ k_ => XS.iconst X0.here hx rfl (B_ dk28) (XS.goto X0.here hx rfl (pc0 := 8) (pc' := 12) rfl (B_ dk29) (by decide) (by decide) k_)) ?_
 show Go_ s₁ (mkF mm_ 12 #[vi c] [(.int 1)])
 obtain ⟨fs, hr, hrun, hended, hW, hsame⟩ := X0.leave (v := some (.int 1)) (rN Bd.returns)
 refine ⟨_, _, ?_, hrun, hended, _, _, rfl, ?_, ⟨_, rfl⟩, hW, hsame.mono (by decide) (by decide)⟩
 · exact retN X0 hx (t := .boolean) Bd.returns (by simp) (B_ dk30) hr
 · show QrmCE Z c h0 n0 (some (.int 1)) s₁.heap _
   rw [e0]
   exact ⟨rfl, rfl, rfl⟩
theorem dk31 : decode J4 0 = .ok (.iconst 1, 1) := by decide +kernel
theorem dk32 : decode J4 1 = .ok (.newarray .byte, 2) := by decide +kernel
theorem dk33 : decode J4 3 = .ok (.dup, 1) := by decide +kernel
theorem dk34 : decode J4 4 = .ok (.iconst 0, 1) := by decide +kernel
theorem dk35 : decode J4 5 = .ok (.iload_n 0, 1) := by decide +kernel
theorem dk36 : decode J4 6 = .ok (.i2b, 1) := by decide +kernel
theorem dk37 : decode J4 7 = .ok (.bastore, 1) := by decide +kernel
theorem dk38 : decode J4 8 = .ok (.areturn, 1) := by decide +kernel
theorem ef_rmTB (mm_ : MethodId) (c : Int32) : entryFrame mm_ #[(.int c)] 1 = (mkF mm_ 0 #[vi c] []) := by first | (simp [entryFrame, mkF, argsToLocals, Value.category]; done) | rfl
def QrmTB (Z : State) (c : Int32) (h0 : Heap) (n0 : Nat) (vv_ : Option Value) (hh_ : Heap) (LL_ : List Loc) : Prop := ∃ (r : Addr), ∃ (k : ClassId), (vv_ = some (.ref r)) ∧ (Fr n0 LL_) ∧ (Keep h0 hh_ []) ∧ (h0.size ≤ r) ∧ (Arv Z hh_ r k .byte (1 : Int32) [(.int (c.toInt8.toInt32))] (.int 0))
theorem rmTB (l : Launch) (Z : State) (a0 : Array Value) (hw : own_Hw a0 Z) (ws : List Jvm.Cond) (c : Int32) (h0 : Heap) (n0 : Nat) (O0 : Old Z n0 h0) :
 MetFree l (⟨sc5, "toBytes", "(C)[B"⟩ : MethodName) (head1 (Jvm.Cond.code (⟨sc5, "toBytes", "(C)[B"⟩ : MethodName) J4 1 (some (.array .byte)) :: ws) (rm_ 0 1 1 0)) (fun aa_ UU_ => aa_ = #[(.int c)] ∧ Z.Warmed39 UU_.vm ∧ UU_.heap = h0) (fun _ _ _ _ _ => True) (fun _ UU_ oo_ UV_ => ∃ vv_ LL_, oo_ = .returned vv_ ∧ QrmTB Z c h0 n0 vv_ UV_.heap LL_ ∧ FrameEnd UU_ oo_ UV_ LL_ (rm_ 0 1 1 0).cells (rm_ 0 1 1 0).slots) := by
 refine MetFree.of_bodySF (plainFor_of_name pn_java_lang_StringLatin1) hisR ?_
 intro pp_ ee_ ss_ mm_ args_ bb_ me_ cc_ s₁ Bd hml0 hP hK
 obtain ⟨rfl, hZ, hh⟩ := hP
 have hx := Bd.exec
 have hby := Bd.bytes; have B_ {q_ : Nat} {r_ : _} (h_ : decode _ q_ = r_) := hb hby h_
 have hml : cc_.maxLocals = 1 := hml0
 have hown : ss_.vm.findClass sc5 = some mm_.cls := findClass_of_methodNamed Bd.named
 have hnm := (name_of_methodNamed Bd.named Bd.method).1
 have X0 : Stand pp_ l ee_ (rm_ 0 1 1 0) ss_ mm_ #[(.int c)] bb_ me_ cc_ s₁ [] 0 0 := Stand.of_body Bd
 have e0 : s₁.heap = h0 := by rw [← hh, Bd.state]; rfl
 have N0 := Fr.nil n0
 show own_Go pp_ ee_ bb_ _ s₁ (entryFrame mm_ #[(.int c)] 1)
 refine own_cast (ef_rmTB mm_ c) ?_
 have Z0 : n0 ≤ h0.size := by have q := O0.2.1; rw [O0.1] at q; exact q
 have K0 : Keep h0 h0 [] := Keep.refl _ _
 show Go_ s₁ (mkF mm_ 0 #[vi c] [])
 refine sp_ (fun t_ k_ => XS.iconst X0.here hx rfl (B_ dk31) k_) ?_
 show Go_ s₁ (mkF mm_ 1 #[vi c] [(.int 1)])
 obtain ⟨T1, h1, k1, X1, e1, E1, A1, st1⟩ := newP X0 hx hZ (w_ hw 3 rfl) e0 (g := (mkF mm_ 1 #[vi c] [(.int 1)])) rfl (B_ dk32) rfl (by decide) (cap := 1) (by decide) (by decide) (by decide) (by decide)
 obtain ⟨b1, q1⟩ : ∃ z, z = h0.size := ⟨_, rfl⟩
 rw [← q1] at A1 st1
 have lo_b1 : h0.size ≤ b1 := Nat.le_trans K0.1 (Nat.le_of_eq q1.symm)
 have g_b1 : n0 ≤ b1 := Nat.le_trans Z0 lo_b1
 refine sp_ st1 ?_
 have V1 : Arv Z h1 b1 k1 .byte (1 : Int32) [(.int 0)] (.int 0) := (Arv.new A1 (by decide)).pad (pad_rep [] (.int 0) 1)
 show Go_ T1 (mkF mm_ 3 #[vi c] [(.ref b1)])
 refine sp_ (fun t_ k_ => XS.dup X1.here hx rfl (B_ dk33) rfl rfl (XS.iconst X1.here hx rfl (B_ dk34) (XS.iloadN X1.here hx rfl (B_ dk35) rfl  (XS.i2b X1.here hx rfl (B_ dk36) rfl k_)))) ?_
 show Go_ T1 (mkF mm_ 7 #[vi c] [(.int (c.toInt8.toInt32)), (.int 0), (.ref b1), (.ref b1)])
 obtain ⟨cl2, Ar2, q2, S2, M2, H2, G2⟩ := id V1
 have hin2 : ¬ ((0 : Int32) < 0 ∨ cl2.slots.size ≤ ((0 : Int32)).toNatClampNeg) := inb_of S2 ⟨by decide, by decide⟩
 obtain ⟨T2, h2, X2, e2, W2, st2⟩ := stB X1 hx hZ e1 Ar2 (j := (0 : Int32)) hin2 (g := (mkF mm_ 7 #[vi c] [(.int (c.toInt8.toInt32)), (.int 0), (.ref b1), (.ref b1)])) rfl rfl (B_ dk37)
 have V2 : Arv Z h2 b1 k1 .byte (1 : Int32) [(.int (c.toInt8.toInt32))] (.int 0) := by
  have q := Arv.set Ar2 q2 S2 M2 H2 G2 (fits_nar_byte _) W2 0 rfl (Nat.le_of_ble_eq_true rfl)
  rw [own_narB] at q
  exact q
 have N2 := Fr.snoc X2 N0 g_b1
 refine sp_ st2 ?_
 show Go_ T2 (mkF mm_ 8 #[vi c] [(.ref b1)])
 have K3 : Keep h0 h2 [] := ((K0.ext E1).wr W2 (Or.inr lo_b1))
 obtain ⟨fs, hr, hrun, hended, hW, hsame⟩ := X2.leave (v := some (.ref b1)) (rN Bd.returns)
 refine ⟨_, _, ?_, hrun, hended, _, _, rfl, ?_, ⟨_, rfl⟩, hW, hsame.mono (by decide) (by decide)⟩
 · jvm_step X2.here [X2.here.top, hx, (B_ dk38), X2.method', Bd.returns, Value.isRef, FieldType.isReference]
   first | (intro acts; rw [hr _ acts rfl rfl rfl]) | rw [hr _ _ rfl rfl rfl]
   exact Steps.refl _
 · show QrmTB Z c h0 n0 (some (.ref b1)) T2.heap _
   rw [e2]
   exact ⟨b1, k1, rfl, N2, K3, lo_b1, V2⟩
theorem dk39 : decode J5 0 = .ok (.aload_n 0, 1) := by decide +kernel
theorem dk40 : decode J5 1 = .ok (.invokespecial 1, 3) := by decide +kernel
theorem dk41 : decode J5 4 = .ok (.aload_n 0, 1) := by decide +kernel
theorem dk42 : decode J5 5 = .ok (.aload_n 1, 1) := by decide +kernel
theorem dk43 : decode J5 6 = .ok (.putfield 9, 3) := by decide +kernel
theorem dk44 : decode J5 9 = .ok (.aload_n 0, 1) := by decide +kernel
theorem dk45 : decode J5 10 = .ok (.iload_n 2, 1) := by decide +kernel
theorem dk46 : decode J5 11 = .ok (.putfield 15, 3) := by decide +kernel
theorem dk47 : decode J5 14 = .ok (.return_, 1) := by decide +kernel
theorem ef_rmIB (mm_ : MethodId) (x : Addr) (b : Addr) : entryFrame mm_ #[(.ref x), (.ref b), (.int 0)] 3 = (mkF mm_ 0 #[vr x, vr b, vi 0] []) := by first | (simp [entryFrame, mkF, argsToLocals, Value.category]; done) | rfl
def QrmIB (Z : State) (x : Addr) (b : Addr) (h0 : Heap) (n0 : Nat) (vv_ : Option Value) (hh_ : Heap) (LL_ : List Loc) : Prop := (vv_ = none) ∧ (Fr n0 LL_) ∧ (Keep h0 hh_ [x]) ∧ (Fld Z hh_ x sc0 "value" "[B" (.ref b)) ∧ (Fld Z hh_ x sc0 "coder" "B" (.int 0))
theorem rmIB (l : Launch) (Z : State) (a0 : Array Value) (hw : own_Hw a0 Z) (ws : List Jvm.Cond) (x : Addr) (b : Addr) (h0 : Heap) (n0 : Nat) (O0 : Old Z n0 h0) (pr0 : Exa Z h0 x sc0) (pr1 : Fld Z h0 x sc0 "value" "[B" .null) (pr2 : Fld Z h0 x sc0 "coder" "B" (.int 0)) (g_x : n0 ≤ x) :
 MetFree l (⟨sc0, "<init>", "([BB)V"⟩ : MethodName) (head1 (Jvm.Cond.code (⟨sc0, "<init>", "([BB)V"⟩ : MethodName) J5 3 none :: ws) (rm_ 1 0 0 12)) (fun aa_ UU_ => aa_ = #[(.ref x), (.ref b), (.int 0)] ∧ Z.Warmed39 UU_.vm ∧ UU_.heap = h0) (fun _ _ _ _ _ => True) (fun _ UU_ oo_ UV_ => ∃ vv_ LL_, oo_ = .returned vv_ ∧ QrmIB Z x b h0 n0 vv_ UV_.heap LL_ ∧ FrameEnd UU_ oo_ UV_ LL_ (rm_ 1 0 0 12).cells (rm_ 1 0 0 12).slots) := by
 refine MetFree.of_bodySF (plainFor_of_name pn_java_lang_String) hisR ?_
 intro pp_ ee_ ss_ mm_ args_ bb_ me_ cc_ s₁ Bd hml0 hP hK
 obtain ⟨rfl, hZ, hh⟩ := hP
 have hx := Bd.exec
 have hby := Bd.bytes; have B_ {q_ : Nat} {r_ : _} (h_ : decode _ q_ = r_) := hb hby h_
 have hml : cc_.maxLocals = 3 := hml0
 have hown : ss_.vm.findClass sc0 = some mm_.cls := findClass_of_methodNamed Bd.named
 have hnm := (name_of_methodNamed Bd.named Bd.method).1
 have X0 : Stand pp_ l ee_ (rm_ 1 0 0 12) ss_ mm_ #[(.ref x), (.ref b), (.int 0)] bb_ me_ cc_ s₁ [] 0 0 := Stand.of_body Bd
 have e0 : s₁.heap = h0 := by rw [← hh, Bd.state]; rfl
 have N0 := Fr.nil n0
 show own_Go pp_ ee_ bb_ _ s₁ (entryFrame mm_ #[(.ref x), (.ref b), (.int 0)] 3)
 refine own_cast (ef_rmIB mm_ x b) ?_
 have Z0 : n0 ≤ h0.size := by have q := O0.2.1; rw [O0.1] at q; exact q
 have K0 : Keep h0 h0 [x] := Keep.refl _ _
 show Go_ s₁ (mkF mm_ 0 #[vr x, vr b, vi 0] [])
 refine sp_ (fun t_ k_ => XS.aloadN X0.here hx rfl (B_ dk39) rfl rfl k_) ?_
 show Go_ s₁ (mkF mm_ 1 #[vr x, vr b, vi 0] [(.ref x)])
 obtain ⟨T1, X1, e1, st1⟩ := initO X0 hx hZ hown (w_ hw 60 rfl) (w_ hw 61 rfl) (w_ hw 62 rfl) e0 (g := (mkF mm_ 1 #[vr x, vr b, vi 0] [(.ref x)])) rfl hml.symm rfl (B_ dk40) (by decide) (W := 0) (Nat.le_of_eq rfl) (by decide)
 refine sp_ st1 ?_
 show Go_ T1 (mkF mm_ 4 #[vr x, vr b, vi 0] [])
 refine sp_ (fun t_ k_ => XS.aloadN X1.here hx rfl (B_ dk41) rfl rfl (XS.aloadN X1.here hx rfl (B_ dk42) rfl rfl k_)) ?_
 show Go_ T1 (mkF mm_ 6 #[vr x, vr b, vi 0] [(.ref b), (.ref x)])
 obtain ⟨T2, h2, X2, e2, W2, st2⟩ := putF X1 hx hZ hown (host := "") (Or.inl (w_ hw 18 rfl)) Via.refl e1 pr1 pr0 (Or.inr ⟨(w_ hw 4 rfl), rfl, hnm⟩) (w_ hw 2 rfl) (ty := (.array .byte)) (by decide) rfl rfl (g := (mkF mm_ 6 #[vr x, vr b, vi 0] [(.ref b), (.ref x)])) rfl rfl (B_ dk43)
 have F2 := pr1.same W2
 have N2 := Fr.snoc X2 N0 g_x
 refine sp_ st2 ?_
 show Go_ T2 (mkF mm_ 9 #[vr x, vr b, vi 0] [])
 refine sp_ (fun t_ k_ => XS.aloadN X2.here hx rfl (B_ dk44) rfl rfl (XS.iloadN X2.here hx rfl (B_ dk45) rfl  k_)) ?_
 show Go_ T2 (mkF mm_ 11 #[vr x, vr b, vi 0] [(.int 0), (.ref x)])
 have f3 : Fld Z h2 x sc0 "coder" "B" (.int 0) := (pr2.other W2 (Or.inr (slot_ne (Or.inr (w_ hw 5 rfl)) (Or.inr (w_ hw 4 rfl)) (by decide) (t := .byte) (t' := (.array .byte)) (by decide) (by decide))))
 have f4 : Exa Z h2 x sc0 := (pr0.wr W2)
 obtain ⟨T5, h5, X5, e5, W5, st5⟩ := putFN X2 hx hZ hown (w_ hw 25 rfl) Via.refl e2 f3 f4 (Or.inr ⟨(w_ hw 5 rfl), rfl, hnm⟩) (w_ hw 2 rfl) (ty := .byte) (v' := (.int 0)) (by decide) rfl rfl (g := (mkF mm_ 11 #[vr x, vr b, vi 0] [(.int 0), (.ref x)])) rfl rfl (B_ dk46)
 have F5 := f3.same W5
 have N5 := Fr.snoc X5 N2 g_x
 refine sp_ st5 ?_
 show Go_ T5 (mkF mm_ 14 #[vr x, vr b, vi 0] [])
 have K6 : Keep h0 h5 [x] := ((K0.wr W2 (Or.inl (List.mem_of_getElem? (i := 0) rfl))).wr W5 (Or.inl (List.mem_of_getElem? (i := 0) rfl)))
 have f7 : Fld Z h5 x sc0 "value" "[B" (.ref b) := (F2.other W5 (Or.inr (slot_ne (Or.inr (w_ hw 4 rfl)) (Or.inr (w_ hw 5 rfl)) (by decide) (t := (.array .byte)) (t' := .byte) (by decide) (by decide))))
 obtain ⟨fs, hr, hrun, hended, hW, hsame⟩ := X5.leave (v := none) (fun _ => rfl)
 refine ⟨_, _, ?_, hrun, hended, _, _, rfl, ?_, ⟨_, rfl⟩, hW, hsame.mono (by decide) (by decide)⟩
 · exact X5.returnOut hx Bd.returns (B_ dk47) hr
 · show QrmIB Z x b h0 n0 none T5.heap _
   rw [e5]
   exact ⟨rfl, N5, K6, f7, F5⟩
theorem dk48 : decode J6 0 = .ok (.getstatic 38, 3) := by decide +kernel
theorem dk49 : decode J6 3 = .ok (.ifCond .eq 23, 3) := by decide +kernel
theorem dk50 : decode J6 6 = .ok (.iload_n 0, 1) := by decide +kernel
theorem dk51 : decode J6 7 = .ok (.invokestatic 1015, 3) := by decide +kernel
theorem pd_1 : parseMethodDescriptor "(C)Z" = some ⟨[.char], some .boolean⟩ := by decide +kernel
theorem dk52 : decode J6 10 = .ok (.ifCond .eq 16, 3) := by decide +kernel
theorem dk53 : decode J6 13 = .ok (.new 10, 3) := by decide +kernel
theorem dk54 : decode J6 16 = .ok (.dup, 1) := by decide +kernel
theorem dk55 : decode J6 17 = .ok (.iload_n 0, 1) := by decide +kernel
theorem dk56 : decode J6 18 = .ok (.invokestatic 1018, 3) := by decide +kernel
theorem pd_2 : parseMethodDescriptor "(C)[B" = some ⟨[.char], some (.array .byte)⟩ := by decide +kernel
theorem dk57 : decode J6 21 = .ok (.iconst 0, 1) := by decide +kernel
theorem dk58 : decode J6 22 = .ok (.invokespecial 209, 3) := by decide +kernel
theorem pd_3 : parseMethodDescriptor "([BB)V" = some ⟨[(.array .byte), .byte], none⟩ := by decide +kernel
theorem dk59 : decode J6 25 = .ok (.areturn, 1) := by decide +kernel
theorem ef_rmVC (mm_ : MethodId) (c : Int32) : entryFrame mm_ #[(.int c)] 1 = (mkF mm_ 0 #[vi c] []) := by first | (simp [entryFrame, mkF, argsToLocals, Value.category]; done) | rfl
def QrmVC (Z : State) (c : Int32) (h0 : Heap) (n0 : Nat) (vv_ : Option Value) (hh_ : Heap) (LL_ : List Loc) : Prop := ∃ (r : Addr), ∃ (t : Addr), (vv_ = some (.ref r)) ∧ (Fr n0 LL_) ∧ (Keep h0 hh_ []) ∧ (h0.size ≤ r) ∧ (own_Str Z hh_ r t [c])
theorem rmVC (l : Launch) (Z : State) (a0 : Array Value) (hw : own_Hw a0 Z) (ws : List Jvm.Cond) (c : Int32) {zc : Int32} {fm : Value} {w_0 : Addr} {w_1 : Addr} {w_2 : Addr} {w_3 : Addr} {wV : Addr} {kV : ClassId} {s_0 : Addr} {t_0 : Addr} {s_1 : Addr} {t_1 : Addr} {s_2 : Addr} {t_2 : Addr} {s_3 : Addr} {t_3 : Addr} (h0 : Heap) (n0 : Nat) (O0 : Old Z n0 h0) (G_ : own_St Z zc fm w_0 w_1 w_2 w_3 wV kV s_0 t_0 s_1 t_1 s_2 t_2 s_3 t_3) (sg_c : ¬ c < (0 : Int32) ∧ ¬ (255 : Int32) < c) :
 MetFree l (⟨sc0, "valueOf", "(C)Ljava/lang/String;"⟩ : MethodName) (head1 (Jvm.Cond.code (⟨sc0, "valueOf", "(C)Ljava/lang/String;"⟩ : MethodName) J6 1 (some (.object sc0)) :: ws) (rm_ 2 2 5 27)) (fun aa_ UU_ => aa_ = #[(.int c)] ∧ Z.Warmed39 UU_.vm ∧ UU_.heap = h0) (fun _ _ _ _ _ => True) (fun _ UU_ oo_ UV_ => ∃ vv_ LL_, oo_ = .returned vv_ ∧ QrmVC Z c h0 n0 vv_ UV_.heap LL_ ∧ FrameEnd UU_ oo_ UV_ LL_ (rm_ 2 2 5 27).cells (rm_ 2 2 5 27).slots) := by
 refine MetFree.of_bodySF (plainFor_of_name pn_java_lang_String) hisR ?_
 intro pp_ ee_ ss_ mm_ args_ bb_ me_ cc_ s₁ Bd hml0 hP hK
 obtain ⟨rfl, hZ, hh⟩ := hP
 have hx := Bd.exec
 have hby := Bd.bytes; have B_ {q_ : Nat} {r_ : _} (h_ : decode _ q_ = r_) := hb hby h_
 have hml : cc_.maxLocals = 1 := hml0
 have hown : ss_.vm.findClass sc0 = some mm_.cls := findClass_of_methodNamed Bd.named
 have hnm := (name_of_methodNamed Bd.named Bd.method).1
 have X0 : Stand pp_ l ee_ (rm_ 2 2 5 27) ss_ mm_ #[(.int c)] bb_ me_ cc_ s₁ [] 0 0 := Stand.of_body Bd
 have e0 : s₁.heap = h0 := by rw [← hh, Bd.state]; rfl
 have N0 := Fr.nil n0
 show own_Go pp_ ee_ bb_ _ s₁ (entryFrame mm_ #[(.int c)] 1)
 refine own_cast (ef_rmVC mm_ c) ?_
 have Z0 : n0 ≤ h0.size := by have q := O0.2.1; rw [O0.1] at q; exact q
 have K0 : Keep h0 h0 [] := Keep.refl _ _
 obtain ⟨G_cs, G_cs0, G_fm, G_fr, G_S1, G_S2, G_S3, G_S4, G_S5, G_E6, G_E7, G_E8, G_E9, G_E10, G_V11, G_F12, G_T13, G_F17, G_T18, G_F22, G_T23, G_F27, G_T28, G_cw, G_h_com_example_vestwright_vestwright_census_ReasonOfPinLaw_7, G_h_com_example_vestwright_vestwright_census_ReasonOfPinLaw_9, G_h_com_example_vestwright_vestwright_census_ReasonOfPinLaw_11, G_h_com_example_vestwright_vestwright_census_ReasonOfPinLaw_13, G_h_java_lang_String_7⟩ := id G_
 show Go_ s₁ (mkF mm_ 0 #[vi c] [])
 obtain ⟨T1, X1, e1, st1⟩ := getS2 X0 hx hZ hown (host := "") (Or.inl (w_ hw 24 rfl)) Via.refl e0 (G_cs.ext O0.2) (g := (mkF mm_ 0 #[vi c] [])) rfl (B_ dk48)
 refine sp_ st1 ?_
 show Go_ T1 (mkF mm_ 3 #[vi c] [(.int zc)])
 refine sp_ (fun t_ k_ => XS.ifNo X1.here hx rfl (B_ dk49) rfl ((if0 _ _).trans (feq G_cs0).1) k_) ?_
 show Go_ T1 (mkF mm_ 6 #[vi c] [])
 refine sp_ (fun t_ k_ => XS.iloadN X1.here hx rfl (B_ dk50) rfl  k_) ?_
 show Go_ T1 (mkF mm_ 7 #[vi c] [(.int c)])
 obtain ⟨_, T2, Lc2, X2, hQ2, st2⟩ := own_cS X1 hx hZ hown (w_ hw 122 rfl) (w_ hw 123 rfl) (w_ hw 43 rfl) (w_ hw 124 rfl) (by decide) (backOf (W := 0) (rmCE l Z a0 hw [] c h0 n0 O0 sg_c.2) hZ (w_ hw 124 rfl) (w_ hw 43 rfl) (by decide) (by decide)) (g := (mkF mm_ 7 #[vi c] [(.int c)])) rfl hml.symm (argsL := [(.int c)]) (rest := []) (lenOf pd_1 rfl) rfl (Nat.le_of_eq rfl) (B_ dk51) rfl e1 (by decide) (by decide)
 obtain ⟨rfl, rfl, Eh2⟩ := hQ2
 have N2 := Fr.app N0 (Fr.nil n0)
 refine jp_ st2 ?_
 show Go_ T2 (mkF mm_ 10 #[vi c] [(.int 1)])
 refine sp_ (fun t_ k_ => XS.ifNo X2.here hx rfl (B_ dk52) rfl ((if0 _ _).trans (feq (by decide : ¬ ((1 : Int32) = (0 : Int32)))).1) k_) ?_
 show Go_ T2 (mkF mm_ 13 #[vi c] [])
 obtain ⟨T3, h3, X3, e3, E3, A3, D3, -, st3⟩ := newO X2 hx hZ hown (w_ hw 103 rfl) (w_ hw 2 rfl) (w_ hw 1 rfl) Eh2 (g := (mkF mm_ 13 #[vi c] [])) rfl (B_ dk53) (by decide) (by decide)
 obtain ⟨b3, q3⟩ : ∃ z, z = h0.size := ⟨_, rfl⟩
 rw [← q3] at A3 D3 st3
 have lo_b3 : h0.size ≤ b3 := Nat.le_trans K0.1 (Nat.le_of_eq q3.symm)
 have g_b3 : n0 ≤ b3 := Nat.le_trans Z0 lo_b3
 refine sp_ st3 ?_
 have F3_value : Fld Z h3 b3 sc0 "value" "[B" .null := D3 (Or.inr (w_ hw 4 rfl)) (ty := (.array .byte)) (by decide)
 have F3_coder : Fld Z h3 b3 sc0 "coder" "B" (.int 0) := D3 (Or.inr (w_ hw 5 rfl)) (ty := .byte) (by decide)
 show Go_ T3 (mkF mm_ 16 #[vi c] [(.ref b3)])
 refine sp_ (fun t_ k_ => XS.dup X3.here hx rfl (B_ dk54) rfl rfl (XS.iloadN X3.here hx rfl (B_ dk55) rfl  k_)) ?_
 show Go_ T3 (mkF mm_ 18 #[vi c] [(.int c), (.ref b3), (.ref b3)])
 have O5 : Old Z n0 h3 := (O0.ext E3)
 obtain ⟨_, T4, Lc4, X4, hQ4, st4⟩ := own_cS X3 hx hZ hown (w_ hw 125 rfl) (w_ hw 126 rfl) (w_ hw 43 rfl) (w_ hw 127 rfl) (by decide) (backOf (W := 2) (rmTB l Z a0 hw [] c h3 n0 O5 ) hZ (w_ hw 127 rfl) (w_ hw 43 rfl) (by decide) (by decide)) (g := (mkF mm_ 18 #[vi c] [(.int c), (.ref b3), (.ref b3)])) rfl hml.symm (argsL := [(.int c)]) (rest := [(.ref b3), (.ref b3)]) (lenOf pd_2 rfl) rfl (Nat.le_of_eq rfl) (B_ dk56) rfl e3 (by decide) (by decide)
 obtain ⟨r_4, k_4, rfl, Nq4, Kc4, r4_0, r4_1⟩ := hQ4
 have N4 := Fr.app N2 Nq4
 have K6 : Keep h0 h3 [] := (K0.ext E3)
 have lo_r_4 : h0.size ≤ r_4 := Nat.le_trans K6.1 r4_0
 have g_r_4 : n0 ≤ r_4 := Nat.le_trans Z0 lo_r_4
 refine jp_ st4 ?_
 show Go_ T4 (mkF mm_ 21 #[vi c] [(.ref r_4), (.ref b3), (.ref b3)])
 refine sp_ (fun t_ k_ => XS.iconst X4.here hx rfl (B_ dk57) k_) ?_
 show Go_ T4 (mkF mm_ 22 #[vi c] [(.int 0), (.ref r_4), (.ref b3), (.ref b3)])
 have f8 : Exa Z T4.heap b3 sc0 := (A3.keep Kc4)
 have f9 : Fld Z T4.heap b3 sc0 "value" "[B" .null := (F3_value.keep Kc4 nin0)
 have f10 : Fld Z T4.heap b3 sc0 "coder" "B" (.int 0) := (F3_coder.keep Kc4 nin0)
 have O11 : Old Z n0 T4.heap := (O5.keep Kc4 all0)
 obtain ⟨_, T7, Lc7, X7, hQ7, st7⟩ := own_cI X4 hx hZ rfl hown (w_ hw 128 rfl) (w_ hw 129 rfl) (w_ hw 130 rfl) (by decide) (backOf (W := 1) (rmIB l Z a0 hw [] b3 r_4 T4.heap n0 O11 f8 f9 f10 g_b3) hZ (w_ hw 130 rfl) (w_ hw 1 rfl) (by decide) (by decide)) (g := (mkF mm_ 22 #[vi c] [(.int 0), (.ref r_4), (.ref b3), (.ref b3)])) rfl hml.symm (a := b3) (argsL := [(.ref r_4), (.int 0)]) (rest := [(.ref b3)]) (lenOf pd_3 rfl) rfl (Nat.le_of_eq rfl) (B_ dk58) rfl rfl (by decide) (by decide)
 obtain ⟨rfl, Nq7, Kc7, r7_0, r7_1⟩ := hQ7
 have N7 := Fr.app N4 Nq7
 refine jp_ st7 ?_
 show Go_ T7 (mkF mm_ 25 #[vi c] [(.ref b3)])
 have f12 : Exa Z T7.heap b3 sc0 := (f8.keep Kc7)
 have f13 : Arv Z T7.heap r_4 k_4 .byte (1 : Int32) [(.int (c.toInt8.toInt32))] (.int 0) := (r4_1.keep Kc7 (ninS (Ne.symm (Nat.ne_of_lt (Nat.lt_of_lt_of_le A3.lt r4_0))) nin0))
 have Pk14 : own_Str Z T7.heap b3 r_4 [c] := ⟨f12, r7_1, r7_0, ⟨_, f13⟩, own_one sg_c.1 sg_c.2, Nat.le_of_ble_eq_true rfl⟩
 have K15 : Keep h0 T7.heap [] := ((K6.trans Kc4 all0).trans Kc7 (allS (Or.inr lo_b3) all0))
 obtain ⟨fs, hr, hrun, hended, hW, hsame⟩ := X7.leave (v := some (.ref b3)) (rN Bd.returns)
 refine ⟨_, _, ?_, hrun, hended, _, _, rfl, ?_, ⟨_, rfl⟩, hW, hsame.mono (by decide) (by decide)⟩
 · jvm_step X7.here [X7.here.top, hx, (B_ dk59), X7.method', Bd.returns, Value.isRef, FieldType.isReference]
   first | (intro acts; rw [hr _ acts rfl rfl rfl]) | rw [hr _ _ rfl rfl rfl]
   exact Steps.refl _
 · show QrmVC Z c h0 n0 (some (.ref b3)) T7.heap _
   exact ⟨b3, r_4, rfl, N7, K15, lo_b3, Pk14⟩
theorem dk60 : decode J7 0 = .ok (.aload_n 0, 1) := by decide +kernel
theorem dk61 : decode J7 1 = .ok (.aload_n 1, 1) := by decide +kernel
theorem dk62 : decode J7 2 = .ok (.if_acmp .ne 5, 3) := by decide +kernel
theorem dk63 : decode J7 7 = .ok (.aload_n 1, 1) := by decide +kernel
theorem dk64 : decode J7 8 = .ok (.instanceof 10, 3) := by decide +kernel
theorem dk65 : decode J7 11 = .ok (.ifCond .eq 43, 3) := by decide +kernel
theorem dk66 : decode J7 54 = .ok (.iconst 0, 1) := by decide +kernel
theorem dk67 : decode J7 55 = .ok (.ireturn, 1) := by decide +kernel
theorem ef_rmEqN (mm_ : MethodId) (a : Addr) : entryFrame mm_ #[(.ref a), .null] 3 = (mkF mm_ 0 #[vr a, .val .null, un] []) := by first | (simp [entryFrame, mkF, argsToLocals, Value.category]; done) | rfl
def QrmEqN (Z : State) (a : Addr) (h0 : Heap) (n0 : Nat) (vv_ : Option Value) (hh_ : Heap) (LL_ : List Loc) : Prop := (vv_ = some (.int 0)) ∧ (LL_ = []) ∧ (hh_ = h0)
theorem rmEqN (l : Launch) (Z : State) (a0 : Array Value) (hw : own_Hw a0 Z) (ws : List Jvm.Cond) (a : Addr) (h0 : Heap) (n0 : Nat) (O0 : Old Z n0 h0) :
 MetFree l (⟨sc0, "equals", "(Ljava/lang/Object;)Z"⟩ : MethodName) (head1 (Jvm.Cond.code (⟨sc0, "equals", "(Ljava/lang/Object;)Z"⟩ : MethodName) J7 3 (some .boolean) :: ws) (rm_ 0 0 0 0)) (fun aa_ UU_ => aa_ = #[(.ref a), .null] ∧ Z.Warmed39 UU_.vm ∧ UU_.heap = h0) (fun _ _ _ _ _ => True) (fun _ UU_ oo_ UV_ => ∃ vv_ LL_, oo_ = .returned vv_ ∧ QrmEqN Z a h0 n0 vv_ UV_.heap LL_ ∧ FrameEnd UU_ oo_ UV_ LL_ (rm_ 0 0 0 0).cells (rm_ 0 0 0 0).slots) := by
 refine MetFree.of_bodySF (plainFor_of_name pn_java_lang_String) hisR ?_
 intro pp_ ee_ ss_ mm_ args_ bb_ me_ cc_ s₁ Bd hml0 hP hK
 obtain ⟨rfl, hZ, hh⟩ := hP
 have hx := Bd.exec
 have hby := Bd.bytes; have B_ {q_ : Nat} {r_ : _} (h_ : decode _ q_ = r_) := hb hby h_
 have hml : cc_.maxLocals = 3 := hml0
 have hown : ss_.vm.findClass sc0 = some mm_.cls := findClass_of_methodNamed Bd.named
 have hnm := (name_of_methodNamed Bd.named Bd.method).1
 have X0 : Stand pp_ l ee_ (rm_ 0 0 0 0) ss_ mm_ #[(.ref a), .null] bb_ me_ cc_ s₁ [] 0 0 := Stand.of_body Bd
 have e0 : s₁.heap = h0 := by rw [← hh, Bd.state]; rfl
 have N0 := Fr.nil n0
 show own_Go pp_ ee_ bb_ _ s₁ (entryFrame mm_ #[(.ref a), .null] 3)
 refine own_cast (ef_rmEqN mm_ a) ?_
 have Z0 : n0 ≤ h0.size := by have q := O0.2.1; rw [O0.1] at q; exact q
 have K0 : Keep h0 h0 [] := Keep.refl _ _
 show Go_ s₁ (mkF mm_ 0 #[vr a, .val .null, un] [])
 refine sp_ (fun t_ k_ => XS.aloadN X0.here hx rfl (B_ dk60) rfl rfl (XS.aloadN X0.here hx rfl (B_ dk61) rfl rfl k_)) ?_
 show Go_ s₁ (mkF mm_ 2 #[vr a, .val .null, un] [.null, (.ref a)])
 refine sp_ (fun t_ k_ => Jvm.RoadKit.acmp (g := (mkF mm_ 2 #[vr a, .val .null, un] [.null, (.ref a)])) X0 hx rfl rfl rfl (pc0 := 2) (pc' := 7) (same := false) rfl (B_ dk62) rfl (decide_eq_false nofun) (by decide) (by decide) (XS.aloadN X0.here hx rfl (B_ dk63) rfl rfl k_)) ?_
 show Go_ s₁ (mkF mm_ 8 #[vr a, .val .null, un] [.null])
 refine sp_ (fun t_ k_ => X0.instanceofNull hx (g := (mkF mm_ 8 #[vr a, .val .null, un] [.null])) rfl rfl (B_ dk64) t_ k_) ?_
 show Go_ s₁ (mkF mm_ 11 #[vr a, .val .null, un] [(.int 0)])
 refine sp_ (fun t_ k_ => XS.ifYes X0.here hx rfl (pc0 := 11) (pc' := 54) rfl (B_ dk65) rfl ((if0 _ _).trans (teq (by decide : (0 : Int32) = (0 : Int32))).1) (by decide) (by decide) k_) ?_
 show Go_ s₁ (mkF mm_ 54 #[vr a, .val .null, un] [])
 refine sp_ (fun t_ k_ => XS.iconst X0.here hx rfl (B_ dk66) k_) ?_
 show Go_ s₁ (mkF mm_ 55 #[vr a, .val .null, un] [(.int 0)])
 obtain ⟨fs, hr, hrun, hended, hW, hsame⟩ := X0.leave (v := some (.int 0)) (rN Bd.returns)
 refine ⟨_, _, ?_, hrun, hended, _, _, rfl, ?_, ⟨_, rfl⟩, hW, hsame.mono (by decide) (by decide)⟩
 · exact retN X0 hx (t := .boolean) Bd.returns (by simp) (B_ dk67) hr
 · show QrmEqN Z a h0 n0 (some (.int 0)) s₁.heap _
   rw [e0]
   exact ⟨rfl, rfl, rfl⟩
theorem dk68 : decode J8 0 = .ok (.aconst_null, 1) := by decide +kernel
theorem dk69 : decode J8 1 = .ok (.astore_n 1, 1) := by decide +kernel
theorem dk70 : decode J8 2 = .ok (.invokestatic 39, 3) := by decide +kernel
theorem pd_4 : parseMethodDescriptor "()[Lcom/example/vestwright/vestwright/census/Separation$Reason;" = some ⟨[], some (.array (.object "com/example/vestwright/vestwright/census/Separation$Reason"))⟩ := by decide +kernel
theorem dk71 : decode J8 5 = .ok (.astore_n 2, 1) := by decide +kernel
theorem dk72 : decode J8 6 = .ok (.aload_n 2, 1) := by decide +kernel
theorem dk73 : decode J8 7 = .ok (.arraylength, 1) := by decide +kernel
theorem dk74 : decode J8 8 = .ok (.istore_n 3, 1) := by decide +kernel
theorem dk75 : decode J8 9 = .ok (.iconst 0, 1) := by decide +kernel
theorem dk76 : decode J8 10 = .ok (.istore 4, 2) := by decide +kernel
theorem dk77 : decode J8 12 = .ok (.iload 4, 2) := by decide +kernel
theorem dk78 : decode J8 14 = .ok (.iload_n 3, 1) := by decide +kernel
theorem dk79 : decode J8 15 = .ok (.if_icmp .ge 33, 3) := by decide +kernel
theorem dk80 : decode J8 18 = .ok (.aload_n 2, 1) := by decide +kernel
theorem dk81 : decode J8 19 = .ok (.iload 4, 2) := by decide +kernel
theorem dk82 : decode J8 21 = .ok (.aaload, 1) := by decide +kernel
theorem dk83 : decode J8 22 = .ok (.astore 5, 2) := by decide +kernel
theorem dk84 : decode J8 24 = .ok (.aload 5, 2) := by decide +kernel
theorem dk85 : decode J8 26 = .ok (.getfield 35, 3) := by decide +kernel
theorem dk86 : decode J8 29 = .ok (.aload_n 0, 1) := by decide +kernel
theorem dk87 : decode J8 30 = .ok (.invokevirtual 43, 3) := by decide +kernel
theorem pd_5 : parseMethodDescriptor "(Ljava/lang/Object;)Z" = some ⟨[(.object "java/lang/Object")], some .boolean⟩ := by decide +kernel
theorem dk88 : decode J8 33 = .ok (.ifCond .eq 9, 3) := by decide +kernel
theorem dk89 : decode J8 42 = .ok (.iinc 4 1, 3) := by decide +kernel
theorem dk90 : decode J8 45 = .ok (.goto (-33), 3) := by decide +kernel
theorem dk91 : decode J8 48 = .ok (.aload_n 1, 1) := by decide +kernel
theorem dk92 : decode J8 49 = .ok (.areturn, 1) := by decide +kernel
theorem ef_rmOfN (mm_ : MethodId)  : entryFrame mm_ #[.null] 6 = (mkF mm_ 0 #[.val .null, un, un, un, un, un] []) := by first | (simp [entryFrame, mkF, argsToLocals, Value.category]; done) | rfl
def QrmOfN (Z : State)  (h0 : Heap) (n0 : Nat) (vv_ : Option Value) (hh_ : Heap) (LL_ : List Loc) : Prop := (vv_ = some .null) ∧ (Fr n0 LL_) ∧ (Keep h0 hh_ [])
theorem rmOfN (l : Launch) (Z : State) (a0 : Array Value) (hw : own_Hw a0 Z) (ws : List Jvm.Cond) {zc : Int32} {fm : Value} {w_0 : Addr} {w_1 : Addr} {w_2 : Addr} {w_3 : Addr} {wV : Addr} {kV : ClassId} {s_0 : Addr} {t_0 : Addr} {s_1 : Addr} {t_1 : Addr} {s_2 : Addr} {t_2 : Addr} {s_3 : Addr} {t_3 : Addr} (h0 : Heap) (n0 : Nat) (O0 : Old Z n0 h0) (G_ : own_St Z zc fm w_0 w_1 w_2 w_3 wV kV s_0 t_0 s_1 t_1 s_2 t_2 s_3 t_3) :
 MetFree l ym2 (head1 (Jvm.Cond.code ym2 J8 6 (some (.object sc2)) :: ws) (rm_ 2 1 4 25)) (fun aa_ UU_ => aa_ = #[.null] ∧ Z.Warmed39 UU_.vm ∧ UU_.heap = h0) (fun _ _ _ _ _ => True) (fun _ UU_ oo_ UV_ => ∃ vv_ LL_, oo_ = .returned vv_ ∧ QrmOfN Z  h0 n0 vv_ UV_.heap LL_ ∧ FrameEnd UU_ oo_ UV_ LL_ (rm_ 2 1 4 25).cells (rm_ 2 1 4 25).slots) := by
 refine MetFree.of_bodySF (plainFor_of_name pn_com_example_vestwright_vestwright_census_Separation_Reason) hisR ?_
 intro pp_ ee_ ss_ mm_ args_ bb_ me_ cc_ s₁ Bd hml0 hP hK
 obtain ⟨rfl, hZ, hh⟩ := hP
 have hx := Bd.exec
 have hby := Bd.bytes; have B_ {q_ : Nat} {r_ : _} (h_ : decode _ q_ = r_) := hb hby h_
 have hml : cc_.maxLocals = 6 := hml0
 have hown : ss_.vm.findClass sc2 = some mm_.cls := findClass_of_methodNamed Bd.named
 have hnm := (name_of_methodNamed Bd.named Bd.method).1
 have X0 : Stand pp_ l ee_ (rm_ 2 1 4 25) ss_ mm_ #[.null] bb_ me_ cc_ s₁ [] 0 0 := Stand.of_body Bd
 have e0 : s₁.heap = h0 := by rw [← hh, Bd.state]; rfl
 have N0 := Fr.nil n0
 show own_Go pp_ ee_ bb_ _ s₁ (entryFrame mm_ #[.null] 6)
 refine own_cast (ef_rmOfN mm_ ) ?_
 have Z0 : n0 ≤ h0.size := by have q := O0.2.1; rw [O0.1] at q; exact q
 have K0 : Keep h0 h0 [] := Keep.refl _ _
 obtain ⟨G_cs, G_cs0, G_fm, G_fr, G_S1, G_S2, G_S3, G_S4, G_S5, G_E6, G_E7, G_E8, G_E9, G_E10, G_V11, G_F12, G_T13, G_F17, G_T18, G_F22, G_T23, G_F27, G_T28, G_cw, G_h_com_example_vestwright_vestwright_census_ReasonOfPinLaw_7, G_h_com_example_vestwright_vestwright_census_ReasonOfPinLaw_9, G_h_com_example_vestwright_vestwright_census_ReasonOfPinLaw_11, G_h_com_example_vestwright_vestwright_census_ReasonOfPinLaw_13, G_h_java_lang_String_7⟩ := id G_
 show Go_ s₁ (mkF mm_ 0 #[.val .null, un, un, un, un, un] [])
 refine sp_ (fun t_ k_ => XS.aconstNull X0.here hx rfl (B_ dk68) (XS.astoreN X0.here hx rfl (B_ dk69) rfl rfl (l' := #[.val .null, .val .null, un, un, un, un]) rfl k_)) ?_
 show Go_ s₁ (mkF mm_ 2 #[.val .null, .val .null, un, un, un, un] [])
 obtain ⟨_, T1, Lc1, X1, hQ1, st1⟩ := own_cS X0 hx hZ hown (w_ hw 77 rfl) (w_ hw 78 rfl) (w_ hw 75 rfl) (w_ hw 79 rfl) (by decide) (backOf (W := 0) (rmV l Z a0 hw []  h0 n0 O0 G_ ) hZ (w_ hw 79 rfl) (w_ hw 75 rfl) (by decide) (by decide)) (g := (mkF mm_ 2 #[.val .null, .val .null, un, un, un, un] [])) rfl hml.symm (argsL := []) (rest := []) (lenOf pd_4 rfl) rfl (Nat.le_of_eq rfl) (B_ dk70) rfl e0 (by decide) (by decide)
 obtain ⟨r_1, rfl, Nq1, Kc1, r1_0, r1_1⟩ := hQ1
 have N1 := Fr.app N0 Nq1
 have lo_r_1 : h0.size ≤ r_1 := Nat.le_trans K0.1 r1_0
 have g_r_1 : n0 ≤ r_1 := Nat.le_trans Z0 lo_r_1
 refine jp_ st1 ?_
 show Go_ T1 (mkF mm_ 5 #[.val .null, .val .null, un, un, un, un] [(.ref r_1)])
 refine sp_ (fun t_ k_ => XS.astoreN X1.here hx rfl (B_ dk71) rfl rfl (l' := #[.val .null, .val .null, vr r_1, un, un, un]) rfl (XS.aloadN X1.here hx rfl (B_ dk72) rfl rfl k_)) ?_
 show Go_ T1 (mkF mm_ 7 #[.val .null, .val .null, vr r_1, un, un, un] [(.ref r_1)])
 obtain ⟨cl2, Ar2, -, S2, M2, -, -⟩ := id r1_1
 refine sp_ (fun t_ k_ => X1.arraylength hx Ar2.1 (State.isArrayOf_alike hZ.alike Ar2.2.1) (g := (mkF mm_ 7 #[.val .null, .val .null, vr r_1, un, un, un] [(.ref r_1)])) rfl rfl (B_ dk73) t_ (by rw [len_of S2 M2]; exact k_)) ?_
 show Go_ T1 (mkF mm_ 8 #[.val .null, .val .null, vr r_1, un, un, un] [(.int 4)])
 refine sp_ (fun t_ k_ => XS.istoreN X1.here hx rfl (B_ dk74) rfl (l' := #[.val .null, .val .null, vr r_1, vi 4, un, un]) rfl (XS.iconst X1.here hx rfl (B_ dk75) (XS.istore X1.here hx rfl (B_ dk76) rfl (l' := #[.val .null, .val .null, vr r_1, vi 4, vi 0, un]) rfl (XS.iload X1.here hx rfl (B_ dk77) rfl  (XS.iloadN X1.here hx rfl (B_ dk78) rfl  k_))))) ?_
 show Go_ T1 (mkF mm_ 15 #[.val .null, .val .null, vr r_1, vi 4, vi 0, un] [(.int 4), (.int 0)])
 refine sp_ (fun t_ k_ => XS.icmpNo X1.here hx rfl (B_ dk79) rfl (tlt (by decide : (0 : Int32) < (4 : Int32))).2.1 k_) ?_
 show Go_ T1 (mkF mm_ 18 #[.val .null, .val .null, vr r_1, vi 4, vi 0, un] [])
 refine sp_ (fun t_ k_ => XS.aloadN X1.here hx rfl (B_ dk80) rfl rfl (XS.iload X1.here hx rfl (B_ dk81) rfl  k_)) ?_
 show Go_ T1 (mkF mm_ 21 #[.val .null, .val .null, vr r_1, vi 4, vi 0, un] [(.int 0), (.ref r_1)])
 obtain ⟨cl3, Ar3, q3, S3, M3, H3, G3⟩ := id r1_1
 have hin3 : ¬ ((0 : Int32) < 0 ∨ cl3.slots.size ≤ ((0 : Int32)).toNatClampNeg) := inb_of S3 ⟨by decide, by decide⟩
 have hat3 : cl3.slots[((0 : Int32)).toNatClampNeg]? = some (.ref w_0) := Has.at H3 hin3 rfl
 refine sp_ (fun t_ k_ => X1.aaload hx (j := (0 : Int32)) (v := (.ref w_0)) Ar3.1 (State.isArrayOf_alike hZ.alike Ar3.2.1) rfl Ar3.2.2 hin3 hat3 (g := (mkF mm_ 21 #[.val .null, .val .null, vr r_1, vi 4, vi 0, un] [(.int 0), (.ref r_1)])) rfl rfl (B_ dk82) t_ k_) ?_
 show Go_ T1 (mkF mm_ 22 #[.val .null, .val .null, vr r_1, vi 4, vi 0, un] [(.ref w_0)])
 refine sp_ (fun t_ k_ => XS.astore X1.here hx rfl (B_ dk83) rfl rfl (l' := #[.val .null, .val .null, vr r_1, vi 4, vi 0, vr w_0]) rfl (XS.aload X1.here hx rfl (B_ dk84) rfl rfl k_)) ?_
 show Go_ T1 (mkF mm_ 26 #[.val .null, .val .null, vr r_1, vi 4, vi 0, vr w_0] [(.ref w_0)])
 have O4 : Old Z n0 T1.heap := (O0.keep Kc1 all0)
 obtain ⟨T5, X5, e5, st5⟩ := getF X1 hx hZ hown (host := "") (Or.inl (w_ hw 96 rfl)) Via.refl rfl (G_F12.ext O4.2) (g := (mkF mm_ 26 #[.val .null, .val .null, vr r_1, vi 4, vi 0, vr w_0] [(.ref w_0)])) rfl rfl (B_ dk85)
 refine sp_ st5 ?_
 show Go_ T5 (mkF mm_ 29 #[.val .null, .val .null, vr r_1, vi 4, vi 0, vr w_0] [(.ref s_0)])
 refine sp_ (fun t_ k_ => XS.aloadN X5.here hx rfl (B_ dk86) rfl rfl k_) ?_
 show Go_ T5 (mkF mm_ 30 #[.val .null, .val .null, vr r_1, vi 4, vi 0, vr w_0] [.null, (.ref s_0)])
 obtain ⟨_, T6, Lc6, X6, hQ6, st6⟩ := own_cV X5 hx hZ hown (w_ hw 98 rfl) (w_ hw 99 rfl) (notFace_of_selects (args := #[]) (mvT hZ (w_ hw 101 rfl))) (w_ hw 101 rfl) (w_ hw 100 rfl) (by decide) (backOf (W := 0) (rmEqN l Z a0 hw [] s_0 T1.heap n0 O4 ) hZ (w_ hw 102 rfl) (w_ hw 1 rfl) (by decide) (by decide)) (G_T13.ext O4.2).1 (g := (mkF mm_ 30 #[.val .null, .val .null, vr r_1, vi 4, vi 0, vr w_0] [.null, (.ref s_0)])) rfl hml.symm (argsL := [.null]) (rest := []) (lenOf pd_5 rfl) rfl (Nat.le_of_eq rfl) (B_ dk87) rfl e5 (by decide) (by decide)
 obtain ⟨rfl, rfl, Eh6⟩ := hQ6
 have N6 := Fr.app N1 (Fr.nil n0)
 refine jp_ st6 ?_
 show Go_ T6 (mkF mm_ 33 #[.val .null, .val .null, vr r_1, vi 4, vi 0, vr w_0] [(.int 0)])
 refine sp_ (fun t_ k_ => XS.ifYes X6.here hx rfl (pc0 := 33) (pc' := 42) rfl (B_ dk88) rfl ((if0 _ _).trans (teq (by decide : (0 : Int32) = (0 : Int32))).1) (by decide) (by decide) k_) ?_
 show Go_ T6 (mkF mm_ 42 #[.val .null, .val .null, vr r_1, vi 4, vi 0, vr w_0] [])
 refine sp_ (fun t_ k_ => XS.iinc X6.here hx rfl (B_ dk89) rfl (l' := #[.val .null, .val .null, vr r_1, vi 4, vi 1, vr w_0]) rfl (XS.goto X6.here hx rfl (pc0 := 45) (pc' := 12) rfl (B_ dk90) (by decide) (by decide) (XS.iload X6.here hx rfl (B_ dk77) rfl  (XS.iloadN X6.here hx rfl (B_ dk78) rfl  k_)))) ?_
 show Go_ T6 (mkF mm_ 15 #[.val .null, .val .null, vr r_1, vi 4, vi 1, vr w_0] [(.int 4), (.int 1)])
 refine sp_ (fun t_ k_ => XS.icmpNo X6.here hx rfl (B_ dk79) rfl (tlt (by decide : (1 : Int32) < (4 : Int32))).2.1 k_) ?_
 show Go_ T6 (mkF mm_ 18 #[.val .null, .val .null, vr r_1, vi 4, vi 1, vr w_0] [])
 refine sp_ (fun t_ k_ => XS.aloadN X6.here hx rfl (B_ dk80) rfl rfl (XS.iload X6.here hx rfl (B_ dk81) rfl  k_)) ?_
 show Go_ T6 (mkF mm_ 21 #[.val .null, .val .null, vr r_1, vi 4, vi 1, vr w_0] [(.int 1), (.ref r_1)])
 obtain ⟨cl7, Ar7, q7, S7, M7, H7, G7⟩ := id r1_1
 have hin7 : ¬ ((1 : Int32) < 0 ∨ cl7.slots.size ≤ ((1 : Int32)).toNatClampNeg) := inb_of S7 ⟨by decide, by decide⟩
 have hat7 : cl7.slots[((1 : Int32)).toNatClampNeg]? = some (.ref w_1) := Has.at H7 hin7 rfl
 refine sp_ (fun t_ k_ => X6.aaload hx (j := (1 : Int32)) (v := (.ref w_1)) (by rw [Eh6]; exact Ar7.1) (State.isArrayOf_alike hZ.alike Ar7.2.1) rfl Ar7.2.2 hin7 hat7 (g := (mkF mm_ 21 #[.val .null, .val .null, vr r_1, vi 4, vi 1, vr w_0] [(.int 1), (.ref r_1)])) rfl rfl (B_ dk82) t_ k_) ?_
 show Go_ T6 (mkF mm_ 22 #[.val .null, .val .null, vr r_1, vi 4, vi 1, vr w_0] [(.ref w_1)])
 refine sp_ (fun t_ k_ => XS.astore X6.here hx rfl (B_ dk83) rfl rfl (l' := #[.val .null, .val .null, vr r_1, vi 4, vi 1, vr w_1]) rfl (XS.aload X6.here hx rfl (B_ dk84) rfl rfl k_)) ?_
 show Go_ T6 (mkF mm_ 26 #[.val .null, .val .null, vr r_1, vi 4, vi 1, vr w_1] [(.ref w_1)])
 obtain ⟨T8, X8, e8, st8⟩ := getF X6 hx hZ hown (host := "") (Or.inl (w_ hw 96 rfl)) Via.refl Eh6 (G_F17.ext O4.2) (g := (mkF mm_ 26 #[.val .null, .val .null, vr r_1, vi 4, vi 1, vr w_1] [(.ref w_1)])) rfl rfl (B_ dk85)
 refine sp_ st8 ?_
 show Go_ T8 (mkF mm_ 29 #[.val .null, .val .null, vr r_1, vi 4, vi 1, vr w_1] [(.ref s_1)])
 refine sp_ (fun t_ k_ => XS.aloadN X8.here hx rfl (B_ dk86) rfl rfl k_) ?_
 show Go_ T8 (mkF mm_ 30 #[.val .null, .val .null, vr r_1, vi 4, vi 1, vr w_1] [.null, (.ref s_1)])
 obtain ⟨_, T9, Lc9, X9, hQ9, st9⟩ := own_cV X8 hx hZ hown (w_ hw 98 rfl) (w_ hw 99 rfl) (notFace_of_selects (args := #[]) (mvT hZ (w_ hw 101 rfl))) (w_ hw 101 rfl) (w_ hw 100 rfl) (by decide) (backOf (W := 0) (rmEqN l Z a0 hw [] s_1 T1.heap n0 O4 ) hZ (w_ hw 102 rfl) (w_ hw 1 rfl) (by decide) (by decide)) (G_T18.ext O4.2).1 (g := (mkF mm_ 30 #[.val .null, .val .null, vr r_1, vi 4, vi 1, vr w_1] [.null, (.ref s_1)])) rfl hml.symm (argsL := [.null]) (rest := []) (lenOf pd_5 rfl) rfl (Nat.le_of_eq rfl) (B_ dk87) rfl e8 (by decide) (by decide)
 obtain ⟨rfl, rfl, Eh9⟩ := hQ9
 have N9 := Fr.app N6 (Fr.nil n0)
 refine jp_ st9 ?_
 show Go_ T9 (mkF mm_ 33 #[.val .null, .val .null, vr r_1, vi 4, vi 1, vr w_1] [(.int 0)])
 refine sp_ (fun t_ k_ => XS.ifYes X9.here hx rfl (pc0 := 33) (pc' := 42) rfl (B_ dk88) rfl ((if0 _ _).trans (teq (by decide : (0 : Int32) = (0 : Int32))).1) (by decide) (by decide) k_) ?_
 show Go_ T9 (mkF mm_ 42 #[.val .null, .val .null, vr r_1, vi 4, vi 1, vr w_1] [])
 refine sp_ (fun t_ k_ => XS.iinc X9.here hx rfl (B_ dk89) rfl (l' := #[.val .null, .val .null, vr r_1, vi 4, vi 2, vr w_1]) rfl (XS.goto X9.here hx rfl (pc0 := 45) (pc' := 12) rfl (B_ dk90) (by decide) (by decide) (XS.iload X9.here hx rfl (B_ dk77) rfl  (XS.iloadN X9.here hx rfl (B_ dk78) rfl  k_)))) ?_
 show Go_ T9 (mkF mm_ 15 #[.val .null, .val .null, vr r_1, vi 4, vi 2, vr w_1] [(.int 4), (.int 2)])
 refine sp_ (fun t_ k_ => XS.icmpNo X9.here hx rfl (B_ dk79) rfl (tlt (by decide : (2 : Int32) < (4 : Int32))).2.1 k_) ?_
 show Go_ T9 (mkF mm_ 18 #[.val .null, .val .null, vr r_1, vi 4, vi 2, vr w_1] [])
 refine sp_ (fun t_ k_ => XS.aloadN X9.here hx rfl (B_ dk80) rfl rfl (XS.iload X9.here hx rfl (B_ dk81) rfl  k_)) ?_
 show Go_ T9 (mkF mm_ 21 #[.val .null, .val .null, vr r_1, vi 4, vi 2, vr w_1] [(.int 2), (.ref r_1)])
 obtain ⟨cl10, Ar10, q10, S10, M10, H10, G10⟩ := id r1_1
 have hin10 : ¬ ((2 : Int32) < 0 ∨ cl10.slots.size ≤ ((2 : Int32)).toNatClampNeg) := inb_of S10 ⟨by decide, by decide⟩
 have hat10 : cl10.slots[((2 : Int32)).toNatClampNeg]? = some (.ref w_2) := Has.at H10 hin10 rfl
 refine sp_ (fun t_ k_ => X9.aaload hx (j := (2 : Int32)) (v := (.ref w_2)) (by rw [Eh9]; exact Ar10.1) (State.isArrayOf_alike hZ.alike Ar10.2.1) rfl Ar10.2.2 hin10 hat10 (g := (mkF mm_ 21 #[.val .null, .val .null, vr r_1, vi 4, vi 2, vr w_1] [(.int 2), (.ref r_1)])) rfl rfl (B_ dk82) t_ k_) ?_
 show Go_ T9 (mkF mm_ 22 #[.val .null, .val .null, vr r_1, vi 4, vi 2, vr w_1] [(.ref w_2)])
 refine sp_ (fun t_ k_ => XS.astore X9.here hx rfl (B_ dk83) rfl rfl (l' := #[.val .null, .val .null, vr r_1, vi 4, vi 2, vr w_2]) rfl (XS.aload X9.here hx rfl (B_ dk84) rfl rfl k_)) ?_
 show Go_ T9 (mkF mm_ 26 #[.val .null, .val .null, vr r_1, vi 4, vi 2, vr w_2] [(.ref w_2)])
 obtain ⟨T11, X11, e11, st11⟩ := getF X9 hx hZ hown (host := "") (Or.inl (w_ hw 96 rfl)) Via.refl Eh9 (G_F22.ext O4.2) (g := (mkF mm_ 26 #[.val .null, .val .null, vr r_1, vi 4, vi 2, vr w_2] [(.ref w_2)])) rfl rfl (B_ dk85)
 refine sp_ st11 ?_
 show Go_ T11 (mkF mm_ 29 #[.val .null, .val .null, vr r_1, vi 4, vi 2, vr w_2] [(.ref s_2)])
 refine sp_ (fun t_ k_ => XS.aloadN X11.here hx rfl (B_ dk86) rfl rfl k_) ?_
 show Go_ T11 (mkF mm_ 30 #[.val .null, .val .null, vr r_1, vi 4, vi 2, vr w_2] [.null, (.ref s_2)])
 obtain ⟨_, T12, Lc12, X12, hQ12, st12⟩ := own_cV X11 hx hZ hown (w_ hw 98 rfl) (w_ hw 99 rfl) (notFace_of_selects (args := #[]) (mvT hZ (w_ hw 101 rfl))) (w_ hw 101 rfl) (w_ hw 100 rfl) (by decide) (backOf (W := 0) (rmEqN l Z a0 hw [] s_2 T1.heap n0 O4 ) hZ (w_ hw 102 rfl) (w_ hw 1 rfl) (by decide) (by decide)) (G_T23.ext O4.2).1 (g := (mkF mm_ 30 #[.val .null, .val .null, vr r_1, vi 4, vi 2, vr w_2] [.null, (.ref s_2)])) rfl hml.symm (argsL := [.null]) (rest := []) (lenOf pd_5 rfl) rfl (Nat.le_of_eq rfl) (B_ dk87) rfl e11 (by decide) (by decide)
 obtain ⟨rfl, rfl, Eh12⟩ := hQ12
 have N12 := Fr.app N9 (Fr.nil n0)
 refine jp_ st12 ?_
 show Go_ T12 (mkF mm_ 33 #[.val .null, .val .null, vr r_1, vi 4, vi 2, vr w_2] [(.int 0)])
 refine sp_ (fun t_ k_ => XS.ifYes X12.here hx rfl (pc0 := 33) (pc' := 42) rfl (B_ dk88) rfl ((if0 _ _).trans (teq (by decide : (0 : Int32) = (0 : Int32))).1) (by decide) (by decide) k_) ?_
 show Go_ T12 (mkF mm_ 42 #[.val .null, .val .null, vr r_1, vi 4, vi 2, vr w_2] [])
 refine sp_ (fun t_ k_ => XS.iinc X12.here hx rfl (B_ dk89) rfl (l' := #[.val .null, .val .null, vr r_1, vi 4, vi 3, vr w_2]) rfl (XS.goto X12.here hx rfl (pc0 := 45) (pc' := 12) rfl (B_ dk90) (by decide) (by decide) (XS.iload X12.here hx rfl (B_ dk77) rfl  (XS.iloadN X12.here hx rfl (B_ dk78) rfl  k_)))) ?_
 show Go_ T12 (mkF mm_ 15 #[.val .null, .val .null, vr r_1, vi 4, vi 3, vr w_2] [(.int 4), (.int 3)])
 refine sp_ (fun t_ k_ => XS.icmpNo X12.here hx rfl (B_ dk79) rfl (tlt (by decide : (3 : Int32) < (4 : Int32))).2.1 k_) ?_
 show Go_ T12 (mkF mm_ 18 #[.val .null, .val .null, vr r_1, vi 4, vi 3, vr w_2] [])
 refine sp_ (fun t_ k_ => XS.aloadN X12.here hx rfl (B_ dk80) rfl rfl (XS.iload X12.here hx rfl (B_ dk81) rfl  k_)) ?_
 show Go_ T12 (mkF mm_ 21 #[.val .null, .val .null, vr r_1, vi 4, vi 3, vr w_2] [(.int 3), (.ref r_1)])
 obtain ⟨cl13, Ar13, q13, S13, M13, H13, G13⟩ := id r1_1
 have hin13 : ¬ ((3 : Int32) < 0 ∨ cl13.slots.size ≤ ((3 : Int32)).toNatClampNeg) := inb_of S13 ⟨by decide, by decide⟩
 have hat13 : cl13.slots[((3 : Int32)).toNatClampNeg]? = some (.ref w_3) := Has.at H13 hin13 rfl
 refine sp_ (fun t_ k_ => X12.aaload hx (j := (3 : Int32)) (v := (.ref w_3)) (by rw [Eh12]; exact Ar13.1) (State.isArrayOf_alike hZ.alike Ar13.2.1) rfl Ar13.2.2 hin13 hat13 (g := (mkF mm_ 21 #[.val .null, .val .null, vr r_1, vi 4, vi 3, vr w_2] [(.int 3), (.ref r_1)])) rfl rfl (B_ dk82) t_ k_) ?_
 show Go_ T12 (mkF mm_ 22 #[.val .null, .val .null, vr r_1, vi 4, vi 3, vr w_2] [(.ref w_3)])
 refine sp_ (fun t_ k_ => XS.astore X12.here hx rfl (B_ dk83) rfl rfl (l' := #[.val .null, .val .null, vr r_1, vi 4, vi 3, vr w_3]) rfl (XS.aload X12.here hx rfl (B_ dk84) rfl rfl k_)) ?_
 show Go_ T12 (mkF mm_ 26 #[.val .null, .val .null, vr r_1, vi 4, vi 3, vr w_3] [(.ref w_3)])
 obtain ⟨T14, X14, e14, st14⟩ := getF X12 hx hZ hown (host := "") (Or.inl (w_ hw 96 rfl)) Via.refl Eh12 (G_F27.ext O4.2) (g := (mkF mm_ 26 #[.val .null, .val .null, vr r_1, vi 4, vi 3, vr w_3] [(.ref w_3)])) rfl rfl (B_ dk85)
 refine sp_ st14 ?_
 show Go_ T14 (mkF mm_ 29 #[.val .null, .val .null, vr r_1, vi 4, vi 3, vr w_3] [(.ref s_3)])
 refine sp_ (fun t_ k_ => XS.aloadN X14.here hx rfl (B_ dk86) rfl rfl k_) ?_
 show Go_ T14 (mkF mm_ 30 #[.val .null, .val .null, vr r_1, vi 4, vi 3, vr w_3] [.null, (.ref s_3)])
 obtain ⟨_, T15, Lc15, X15, hQ15, st15⟩ := own_cV X14 hx hZ hown (w_ hw 98 rfl) (w_ hw 99 rfl) (notFace_of_selects (args := #[]) (mvT hZ (w_ hw 101 rfl))) (w_ hw 101 rfl) (w_ hw 100 rfl) (by decide) (backOf (W := 0) (rmEqN l Z a0 hw [] s_3 T1.heap n0 O4 ) hZ (w_ hw 102 rfl) (w_ hw 1 rfl) (by decide) (by decide)) (G_T28.ext O4.2).1 (g := (mkF mm_ 30 #[.val .null, .val .null, vr r_1, vi 4, vi 3, vr w_3] [.null, (.ref s_3)])) rfl hml.symm (argsL := [.null]) (rest := []) (lenOf pd_5 rfl) rfl (Nat.le_of_eq rfl) (B_ dk87) rfl e14 (by decide) (by decide)
 obtain ⟨rfl, rfl, Eh15⟩ := hQ15
 have N15 := Fr.app N12 (Fr.nil n0)
 refine jp_ st15 ?_
 show Go_ T15 (mkF mm_ 33 #[.val .null, .val .null, vr r_1, vi 4, vi 3, vr w_3] [(.int 0)])
 refine sp_ (fun t_ k_ => XS.ifYes X15.here hx rfl (pc0 := 33) (pc' := 42) rfl (B_ dk88) rfl ((if0 _ _).trans (teq (by decide : (0 : Int32) = (0 : Int32))).1) (by decide) (by decide) k_) ?_
 show Go_ T15 (mkF mm_ 42 #[.val .null, .val .null, vr r_1, vi 4, vi 3, vr w_3] [])
 refine sp_ (fun t_ k_ => XS.iinc X15.here hx rfl (B_ dk89) rfl (l' := #[.val .null, .val .null, vr r_1, vi 4, vi 4, vr w_3]) rfl (XS.goto X15.here hx rfl (pc0 := 45) (pc' := 12) rfl (B_ dk90) (by decide) (by decide) (XS.iload X15.here hx rfl (B_ dk77) rfl  (XS.iloadN X15.here hx rfl (B_ dk78) rfl  k_)))) ?_
 show Go_ T15 (mkF mm_ 15 #[.val .null, .val .null, vr r_1, vi 4, vi 4, vr w_3] [(.int 4), (.int 4)])
 refine sp_ (fun t_ k_ => XS.icmpYes X15.here hx rfl (pc0 := 15) (pc' := 48) rfl (B_ dk79) rfl (flt (by decide : ¬ ((4 : Int32) < (4 : Int32)))).2.1 (by decide) (by decide) k_) ?_
 show Go_ T15 (mkF mm_ 48 #[.val .null, .val .null, vr r_1, vi 4, vi 4, vr w_3] [])
 refine sp_ (fun t_ k_ => XS.aloadN X15.here hx rfl (B_ dk91) rfl rfl k_) ?_
 show Go_ T15 (mkF mm_ 49 #[.val .null, .val .null, vr r_1, vi 4, vi 4, vr w_3] [.null])
 have K16 : Keep h0 T1.heap [] := (K0.trans Kc1 all0)
 obtain ⟨fs, hr, hrun, hended, hW, hsame⟩ := X15.leave (v := some .null) (rN Bd.returns)
 refine ⟨_, _, ?_, hrun, hended, _, _, rfl, ?_, ⟨_, rfl⟩, hW, hsame.mono (by decide) (by decide)⟩
 · jvm_step X15.here [X15.here.top, hx, (B_ dk92), X15.method', Bd.returns, Value.isRef, FieldType.isReference]
   first | (intro acts; rw [hr _ acts rfl rfl rfl]) | rw [hr _ _ rfl rfl rfl]
   exact Steps.refl _
 · show QrmOfN Z  h0 n0 (some .null) T15.heap _
   rw [Eh15]
   exact ⟨rfl, N15, K16⟩
def own_X (cs : List Int32) (v : Value) (w0 w1 w2 w3 : Addr) : Prop := (cs = [(100 : Int32), (101 : Int32), (97 : Int32), (116 : Int32), (104 : Int32)] → v = .ref w0) ∧ (cs = [(100 : Int32), (105 : Int32), (115 : Int32), (97 : Int32), (98 : Int32), (105 : Int32), (108 : Int32), (105 : Int32), (116 : Int32), (121 : Int32)] → v = .ref w1) ∧ (cs = [(114 : Int32), (101 : Int32), (116 : Int32), (105 : Int32), (114 : Int32), (101 : Int32), (109 : Int32), (101 : Int32), (110 : Int32), (116 : Int32)] → v = .ref w2) ∧ (cs = [(111 : Int32), (116 : Int32), (104 : Int32), (101 : Int32), (114 : Int32)] → v = .ref w3) ∧ (¬ (cs = [(100 : Int32), (101 : Int32), (97 : Int32), (116 : Int32), (104 : Int32)]) → ¬ (cs = [(100 : Int32), (105 : Int32), (115 : Int32), (97 : Int32), (98 : Int32), (105 : Int32), (108 : Int32), (105 : Int32), (116 : Int32), (121 : Int32)]) → ¬ (cs = [(114 : Int32), (101 : Int32), (116 : Int32), (105 : Int32), (114 : Int32), (101 : Int32), (109 : Int32), (101 : Int32), (110 : Int32), (116 : Int32)]) → ¬ (cs = [(111 : Int32), (116 : Int32), (104 : Int32), (101 : Int32), (114 : Int32)]) → v = .null)
theorem dk93 : decode J8 36 = .ok (.aload 5, 2) := by decide +kernel
theorem dk94 : decode J8 38 = .ok (.astore_n 1, 1) := by decide +kernel
theorem dk95 : decode J8 39 = .ok (.goto 9, 3) := by decide +kernel
theorem ef_rmOf (mm_ : MethodId) (a : Addr) : entryFrame mm_ #[(.ref a)] 6 = (mkF mm_ 0 #[vr a, un, un, un, un, un] []) := by first | (simp [entryFrame, mkF, argsToLocals, Value.category]; done) | rfl
def QrmOf (Z : State) (a : Addr) (t : Addr) (cs : List Int32) (w_0 : Addr) (w_1 : Addr) (w_2 : Addr) (w_3 : Addr) (h0 : Heap) (n0 : Nat) (vv_ : Option Value) (hh_ : Heap) (LL_ : List Loc) : Prop := ∃ (v : Value), (vv_ = some v) ∧ (Fr n0 LL_) ∧ (Keep h0 hh_ []) ∧ (own_X cs v w_0 w_1 w_2 w_3)
theorem rmOf (l : Launch) (Z : State) (a0 : Array Value) (hw : own_Hw a0 Z) (ws : List Jvm.Cond) (a : Addr) (t : Addr) (cs : List Int32) {zc : Int32} {fm : Value} {w_0 : Addr} {w_1 : Addr} {w_2 : Addr} {w_3 : Addr} {wV : Addr} {kV : ClassId} {s_0 : Addr} {t_0 : Addr} {s_1 : Addr} {t_1 : Addr} {s_2 : Addr} {t_2 : Addr} {s_3 : Addr} {t_3 : Addr} (h0 : Heap) (n0 : Nat) (O0 : Old Z n0 h0) (G_ : own_St Z zc fm w_0 w_1 w_2 w_3 wV kV s_0 t_0 s_1 t_1 s_2 t_2 s_3 t_3) (pr0 : own_Str Z h0 a t cs) :
 MetFree l ym2 (head1 (Jvm.Cond.code ym2 J8 6 (some (.object sc2)) :: ws) (rm_ 2 1 4 28)) (fun aa_ UU_ => aa_ = #[(.ref a)] ∧ Z.Warmed39 UU_.vm ∧ UU_.heap = h0) (fun _ _ _ _ _ => True) (fun _ UU_ oo_ UV_ => ∃ vv_ LL_, oo_ = .returned vv_ ∧ QrmOf Z a t cs w_0 w_1 w_2 w_3 h0 n0 vv_ UV_.heap LL_ ∧ FrameEnd UU_ oo_ UV_ LL_ (rm_ 2 1 4 28).cells (rm_ 2 1 4 28).slots) := by
 refine MetFree.of_bodySF (plainFor_of_name pn_com_example_vestwright_vestwright_census_Separation_Reason) hisR ?_
 intro pp_ ee_ ss_ mm_ args_ bb_ me_ cc_ s₁ Bd hml0 hP hK
 obtain ⟨rfl, hZ, hh⟩ := hP
 have hx := Bd.exec
 have hby := Bd.bytes; have B_ {q_ : Nat} {r_ : _} (h_ : decode _ q_ = r_) := hb hby h_
 have hml : cc_.maxLocals = 6 := hml0
 have hown : ss_.vm.findClass sc2 = some mm_.cls := findClass_of_methodNamed Bd.named
 have hnm := (name_of_methodNamed Bd.named Bd.method).1
 have X0 : Stand pp_ l ee_ (rm_ 2 1 4 28) ss_ mm_ #[(.ref a)] bb_ me_ cc_ s₁ [] 0 0 := Stand.of_body Bd
 have e0 : s₁.heap = h0 := by rw [← hh, Bd.state]; rfl
 have N0 := Fr.nil n0
 show own_Go pp_ ee_ bb_ _ s₁ (entryFrame mm_ #[(.ref a)] 6)
 refine own_cast (ef_rmOf mm_ a) ?_
 have Z0 : n0 ≤ h0.size := by have q := O0.2.1; rw [O0.1] at q; exact q
 have K0 : Keep h0 h0 [] := Keep.refl _ _
 obtain ⟨G_cs, G_cs0, G_fm, G_fr, G_S1, G_S2, G_S3, G_S4, G_S5, G_E6, G_E7, G_E8, G_E9, G_E10, G_V11, G_F12, G_T13, G_F17, G_T18, G_F22, G_T23, G_F27, G_T28, G_cw, G_h_com_example_vestwright_vestwright_census_ReasonOfPinLaw_7, G_h_com_example_vestwright_vestwright_census_ReasonOfPinLaw_9, G_h_com_example_vestwright_vestwright_census_ReasonOfPinLaw_11, G_h_com_example_vestwright_vestwright_census_ReasonOfPinLaw_13, G_h_java_lang_String_7⟩ := id G_
 show Go_ s₁ (mkF mm_ 0 #[vr a, un, un, un, un, un] [])
 refine sp_ (fun t_ k_ => XS.aconstNull X0.here hx rfl (B_ dk68) (XS.astoreN X0.here hx rfl (B_ dk69) rfl rfl (l' := #[vr a, .val .null, un, un, un, un]) rfl k_)) ?_
 show Go_ s₁ (mkF mm_ 2 #[vr a, .val .null, un, un, un, un] [])
 obtain ⟨_, T1, Lc1, X1, hQ1, st1⟩ := own_cS X0 hx hZ hown (w_ hw 77 rfl) (w_ hw 78 rfl) (w_ hw 75 rfl) (w_ hw 79 rfl) (by decide) (backOf (W := 0) (rmV l Z a0 hw []  h0 n0 O0 G_ ) hZ (w_ hw 79 rfl) (w_ hw 75 rfl) (by decide) (by decide)) (g := (mkF mm_ 2 #[vr a, .val .null, un, un, un, un] [])) rfl hml.symm (argsL := []) (rest := []) (lenOf pd_4 rfl) rfl (Nat.le_of_eq rfl) (B_ dk70) rfl e0 (by decide) (by decide)
 obtain ⟨r_1, rfl, Nq1, Kc1, r1_0, r1_1⟩ := hQ1
 have N1 := Fr.app N0 Nq1
 have lo_r_1 : h0.size ≤ r_1 := Nat.le_trans K0.1 r1_0
 have g_r_1 : n0 ≤ r_1 := Nat.le_trans Z0 lo_r_1
 refine jp_ st1 ?_
 show Go_ T1 (mkF mm_ 5 #[vr a, .val .null, un, un, un, un] [(.ref r_1)])
 refine sp_ (fun t_ k_ => XS.astoreN X1.here hx rfl (B_ dk71) rfl rfl (l' := #[vr a, .val .null, vr r_1, un, un, un]) rfl (XS.aloadN X1.here hx rfl (B_ dk72) rfl rfl k_)) ?_
 show Go_ T1 (mkF mm_ 7 #[vr a, .val .null, vr r_1, un, un, un] [(.ref r_1)])
 obtain ⟨cl2, Ar2, -, S2, M2, -, -⟩ := id r1_1
 refine sp_ (fun t_ k_ => X1.arraylength hx Ar2.1 (State.isArrayOf_alike hZ.alike Ar2.2.1) (g := (mkF mm_ 7 #[vr a, .val .null, vr r_1, un, un, un] [(.ref r_1)])) rfl rfl (B_ dk73) t_ (by rw [len_of S2 M2]; exact k_)) ?_
 show Go_ T1 (mkF mm_ 8 #[vr a, .val .null, vr r_1, un, un, un] [(.int 4)])
 refine sp_ (fun t_ k_ => XS.istoreN X1.here hx rfl (B_ dk74) rfl (l' := #[vr a, .val .null, vr r_1, vi 4, un, un]) rfl (XS.iconst X1.here hx rfl (B_ dk75) (XS.istore X1.here hx rfl (B_ dk76) rfl (l' := #[vr a, .val .null, vr r_1, vi 4, vi 0, un]) rfl (XS.iload X1.here hx rfl (B_ dk77) rfl  (XS.iloadN X1.here hx rfl (B_ dk78) rfl  k_))))) ?_
 show Go_ T1 (mkF mm_ 15 #[vr a, .val .null, vr r_1, vi 4, vi 0, un] [(.int 4), (.int 0)])
 refine sp_ (fun t_ k_ => XS.icmpNo X1.here hx rfl (B_ dk79) rfl (tlt (by decide : (0 : Int32) < (4 : Int32))).2.1 k_) ?_
 show Go_ T1 (mkF mm_ 18 #[vr a, .val .null, vr r_1, vi 4, vi 0, un] [])
 refine sp_ (fun t_ k_ => XS.aloadN X1.here hx rfl (B_ dk80) rfl rfl (XS.iload X1.here hx rfl (B_ dk81) rfl  k_)) ?_
 show Go_ T1 (mkF mm_ 21 #[vr a, .val .null, vr r_1, vi 4, vi 0, un] [(.int 0), (.ref r_1)])
 obtain ⟨cl3, Ar3, q3, S3, M3, H3, G3⟩ := id r1_1
 have hin3 : ¬ ((0 : Int32) < 0 ∨ cl3.slots.size ≤ ((0 : Int32)).toNatClampNeg) := inb_of S3 ⟨by decide, by decide⟩
 have hat3 : cl3.slots[((0 : Int32)).toNatClampNeg]? = some (.ref w_0) := Has.at H3 hin3 rfl
 refine sp_ (fun t_ k_ => X1.aaload hx (j := (0 : Int32)) (v := (.ref w_0)) Ar3.1 (State.isArrayOf_alike hZ.alike Ar3.2.1) rfl Ar3.2.2 hin3 hat3 (g := (mkF mm_ 21 #[vr a, .val .null, vr r_1, vi 4, vi 0, un] [(.int 0), (.ref r_1)])) rfl rfl (B_ dk82) t_ k_) ?_
 show Go_ T1 (mkF mm_ 22 #[vr a, .val .null, vr r_1, vi 4, vi 0, un] [(.ref w_0)])
 refine sp_ (fun t_ k_ => XS.astore X1.here hx rfl (B_ dk83) rfl rfl (l' := #[vr a, .val .null, vr r_1, vi 4, vi 0, vr w_0]) rfl (XS.aload X1.here hx rfl (B_ dk84) rfl rfl k_)) ?_
 show Go_ T1 (mkF mm_ 26 #[vr a, .val .null, vr r_1, vi 4, vi 0, vr w_0] [(.ref w_0)])
 have O4 : Old Z n0 T1.heap := (O0.keep Kc1 all0)
 obtain ⟨T5, X5, e5, st5⟩ := getF X1 hx hZ hown (host := "") (Or.inl (w_ hw 96 rfl)) Via.refl rfl (G_F12.ext O4.2) (g := (mkF mm_ 26 #[vr a, .val .null, vr r_1, vi 4, vi 0, vr w_0] [(.ref w_0)])) rfl rfl (B_ dk85)
 refine sp_ st5 ?_
 show Go_ T5 (mkF mm_ 29 #[vr a, .val .null, vr r_1, vi 4, vi 0, vr w_0] [(.ref s_0)])
 refine sp_ (fun t_ k_ => XS.aloadN X5.here hx rfl (B_ dk86) rfl rfl k_) ?_
 show Go_ T5 (mkF mm_ 30 #[vr a, .val .null, vr r_1, vi 4, vi 0, vr w_0] [(.ref a), (.ref s_0)])
 have f7 : own_Str Z T1.heap a t cs := (pr0.keep Kc1 nin0 nin0)
 obtain ⟨_, T6, Lc6, X6, hQ6, st6⟩ := own_cV X5 hx hZ hown (w_ hw 98 rfl) (w_ hw 99 rfl) (notFace_of_selects (args := #[]) (mvT hZ (w_ hw 101 rfl))) (w_ hw 101 rfl) (w_ hw 100 rfl) (by decide) (own_eqS (W := 0) hZ hw (G_T13.ext O4.2) f7 (G_cs.ext O4.2) G_cs0 (by decide) (by decide)) (G_T13.ext O4.2).1 (g := (mkF mm_ 30 #[vr a, .val .null, vr r_1, vi 4, vi 0, vr w_0] [(.ref a), (.ref s_0)])) rfl hml.symm (argsL := [(.ref a)]) (rest := []) (lenOf pd_5 rfl) rfl (Nat.le_of_eq rfl) (B_ dk87) rfl e5 (by decide) (by decide)
 obtain ⟨⟨rfl, hq6⟩ | ⟨rfl, hq6⟩, rfl, Eh6⟩ := hQ6
 · skip
   have N6 := Fr.app N1 (Fr.nil n0)
   refine jp_ st6 ?_
   refine sp_ (fun t_ k_ => XS.ifNo X6.here hx rfl (B_ dk88) rfl ((if0 _ _).trans (feq (by decide : ¬ ((1 : Int32) = (0 : Int32)))).1) k_) ?_
   show Go_ T6 (mkF mm_ 36 #[vr a, .val .null, vr r_1, vi 4, vi 0, vr w_0] [])
   refine sp_ (fun t_ k_ => XS.aload X6.here hx rfl (B_ dk93) rfl rfl (XS.astoreN X6.here hx rfl (B_ dk94) rfl rfl (l' := #[vr a, vr w_0, vr r_1, vi 4, vi 0, vr w_0]) rfl (XS.goto X6.here hx rfl (pc0 := 39) (pc' := 48) rfl (B_ dk95) (by decide) (by decide) (XS.aloadN X6.here hx rfl (B_ dk91) rfl rfl k_)))) ?_
   show Go_ T6 (mkF mm_ 49 #[vr a, vr w_0, vr r_1, vi 4, vi 0, vr w_0] [(.ref w_0)])
   have K8 : Keep h0 T1.heap [] := (K0.trans Kc1 all0)
   obtain ⟨fs, hr, hrun, hended, hW, hsame⟩ := X6.leave (v := some (.ref w_0)) (rN Bd.returns)
   refine ⟨_, _, ?_, hrun, hended, _, _, rfl, ?_, ⟨_, rfl⟩, hW, hsame.mono (by decide) (by decide)⟩
   · jvm_step X6.here [X6.here.top, hx, (B_ dk92), X6.method', Bd.returns, Value.isRef, FieldType.isReference]
     first | (intro acts; rw [hr _ acts rfl rfl rfl]) | rw [hr _ _ rfl rfl rfl]
     exact Steps.refl _
   · show QrmOf Z a t cs w_0 w_1 w_2 w_3 h0 n0 (some (.ref w_0)) T6.heap _
     rw [Eh6]
     exact ⟨(.ref w_0), rfl, N6, K8, ⟨fun _ => rfl, fun q_ => absurd (hq6.symm.symm.trans q_) (by decide), fun q_ => absurd (hq6.symm.symm.trans q_) (by decide), fun q_ => absurd (hq6.symm.symm.trans q_) (by decide), fun q0_ q1_ q2_ q3_ => absurd hq6.symm q0_⟩⟩
 · skip
   have N6 := Fr.app N1 (Fr.nil n0)
   refine jp_ st6 ?_
   refine sp_ (fun t_ k_ => XS.ifYes X6.here hx rfl (pc0 := 33) (pc' := 42) rfl (B_ dk88) rfl ((if0 _ _).trans (teq (by decide : (0 : Int32) = (0 : Int32))).1) (by decide) (by decide) k_) ?_
   show Go_ T6 (mkF mm_ 42 #[vr a, .val .null, vr r_1, vi 4, vi 0, vr w_0] [])
   refine sp_ (fun t_ k_ => XS.iinc X6.here hx rfl (B_ dk89) rfl (l' := #[vr a, .val .null, vr r_1, vi 4, vi 1, vr w_0]) rfl (XS.goto X6.here hx rfl (pc0 := 45) (pc' := 12) rfl (B_ dk90) (by decide) (by decide) (XS.iload X6.here hx rfl (B_ dk77) rfl  (XS.iloadN X6.here hx rfl (B_ dk78) rfl  k_)))) ?_
   show Go_ T6 (mkF mm_ 15 #[vr a, .val .null, vr r_1, vi 4, vi 1, vr w_0] [(.int 4), (.int 1)])
   refine sp_ (fun t_ k_ => XS.icmpNo X6.here hx rfl (B_ dk79) rfl (tlt (by decide : (1 : Int32) < (4 : Int32))).2.1 k_) ?_
   show Go_ T6 (mkF mm_ 18 #[vr a, .val .null, vr r_1, vi 4, vi 1, vr w_0] [])
   refine sp_ (fun t_ k_ => XS.aloadN X6.here hx rfl (B_ dk80) rfl rfl (XS.iload X6.here hx rfl (B_ dk81) rfl  k_)) ?_
   show Go_ T6 (mkF mm_ 21 #[vr a, .val .null, vr r_1, vi 4, vi 1, vr w_0] [(.int 1), (.ref r_1)])
   obtain ⟨cl9, Ar9, q9, S9, M9, H9, G9⟩ := id r1_1
   have hin9 : ¬ ((1 : Int32) < 0 ∨ cl9.slots.size ≤ ((1 : Int32)).toNatClampNeg) := inb_of S9 ⟨by decide, by decide⟩
   have hat9 : cl9.slots[((1 : Int32)).toNatClampNeg]? = some (.ref w_1) := Has.at H9 hin9 rfl
   refine sp_ (fun t_ k_ => X6.aaload hx (j := (1 : Int32)) (v := (.ref w_1)) (by rw [Eh6]; exact Ar9.1) (State.isArrayOf_alike hZ.alike Ar9.2.1) rfl Ar9.2.2 hin9 hat9 (g := (mkF mm_ 21 #[vr a, .val .null, vr r_1, vi 4, vi 1, vr w_0] [(.int 1), (.ref r_1)])) rfl rfl (B_ dk82) t_ k_) ?_
   show Go_ T6 (mkF mm_ 22 #[vr a, .val .null, vr r_1, vi 4, vi 1, vr w_0] [(.ref w_1)])
   refine sp_ (fun t_ k_ => XS.astore X6.here hx rfl (B_ dk83) rfl rfl (l' := #[vr a, .val .null, vr r_1, vi 4, vi 1, vr w_1]) rfl (XS.aload X6.here hx rfl (B_ dk84) rfl rfl k_)) ?_
   show Go_ T6 (mkF mm_ 26 #[vr a, .val .null, vr r_1, vi 4, vi 1, vr w_1] [(.ref w_1)])
   obtain ⟨T10, X10, e10, st10⟩ := getF X6 hx hZ hown (host := "") (Or.inl (w_ hw 96 rfl)) Via.refl Eh6 (G_F17.ext O4.2) (g := (mkF mm_ 26 #[vr a, .val .null, vr r_1, vi 4, vi 1, vr w_1] [(.ref w_1)])) rfl rfl (B_ dk85)
   refine sp_ st10 ?_
   show Go_ T10 (mkF mm_ 29 #[vr a, .val .null, vr r_1, vi 4, vi 1, vr w_1] [(.ref s_1)])
   refine sp_ (fun t_ k_ => XS.aloadN X10.here hx rfl (B_ dk86) rfl rfl k_) ?_
   show Go_ T10 (mkF mm_ 30 #[vr a, .val .null, vr r_1, vi 4, vi 1, vr w_1] [(.ref a), (.ref s_1)])
   obtain ⟨_, T11, Lc11, X11, hQ11, st11⟩ := own_cV X10 hx hZ hown (w_ hw 98 rfl) (w_ hw 99 rfl) (notFace_of_selects (args := #[]) (mvT hZ (w_ hw 101 rfl))) (w_ hw 101 rfl) (w_ hw 100 rfl) (by decide) (own_eqS (W := 0) hZ hw (G_T18.ext O4.2) f7 (G_cs.ext O4.2) G_cs0 (by decide) (by decide)) (G_T18.ext O4.2).1 (g := (mkF mm_ 30 #[vr a, .val .null, vr r_1, vi 4, vi 1, vr w_1] [(.ref a), (.ref s_1)])) rfl hml.symm (argsL := [(.ref a)]) (rest := []) (lenOf pd_5 rfl) rfl (Nat.le_of_eq rfl) (B_ dk87) rfl e10 (by decide) (by decide)
   obtain ⟨⟨rfl, hq11⟩ | ⟨rfl, hq11⟩, rfl, Eh11⟩ := hQ11
   · skip
     have N11 := Fr.app N6 (Fr.nil n0)
     refine jp_ st11 ?_
     refine sp_ (fun t_ k_ => XS.ifNo X11.here hx rfl (B_ dk88) rfl ((if0 _ _).trans (feq (by decide : ¬ ((1 : Int32) = (0 : Int32)))).1) k_) ?_
     show Go_ T11 (mkF mm_ 36 #[vr a, .val .null, vr r_1, vi 4, vi 1, vr w_1] [])
     refine sp_ (fun t_ k_ => XS.aload X11.here hx rfl (B_ dk93) rfl rfl (XS.astoreN X11.here hx rfl (B_ dk94) rfl rfl (l' := #[vr a, vr w_1, vr r_1, vi 4, vi 1, vr w_1]) rfl (XS.goto X11.here hx rfl (pc0 := 39) (pc' := 48) rfl (B_ dk95) (by decide) (by decide) (XS.aloadN X11.here hx rfl (B_ dk91) rfl rfl k_)))) ?_
     show Go_ T11 (mkF mm_ 49 #[vr a, vr w_1, vr r_1, vi 4, vi 1, vr w_1] [(.ref w_1)])
     have K12 : Keep h0 T1.heap [] := (K0.trans Kc1 all0)
     obtain ⟨fs, hr, hrun, hended, hW, hsame⟩ := X11.leave (v := some (.ref w_1)) (rN Bd.returns)
     refine ⟨_, _, ?_, hrun, hended, _, _, rfl, ?_, ⟨_, rfl⟩, hW, hsame.mono (by decide) (by decide)⟩
     · jvm_step X11.here [X11.here.top, hx, (B_ dk92), X11.method', Bd.returns, Value.isRef, FieldType.isReference]
       first | (intro acts; rw [hr _ acts rfl rfl rfl]) | rw [hr _ _ rfl rfl rfl]
       exact Steps.refl _
     · show QrmOf Z a t cs w_0 w_1 w_2 w_3 h0 n0 (some (.ref w_1)) T11.heap _
       rw [Eh11]
       exact ⟨(.ref w_1), rfl, N11, K12, ⟨fun q_ => absurd (hq11.symm.symm.trans q_) (by decide), fun _ => rfl, fun q_ => absurd (hq11.symm.symm.trans q_) (by decide), fun q_ => absurd (hq11.symm.symm.trans q_) (by decide), fun q0_ q1_ q2_ q3_ => absurd hq11.symm q1_⟩⟩
   · skip
     have N11 := Fr.app N6 (Fr.nil n0)
     refine jp_ st11 ?_
     refine sp_ (fun t_ k_ => XS.ifYes X11.here hx rfl (pc0 := 33) (pc' := 42) rfl (B_ dk88) rfl ((if0 _ _).trans (teq (by decide : (0 : Int32) = (0 : Int32))).1) (by decide) (by decide) k_) ?_
     show Go_ T11 (mkF mm_ 42 #[vr a, .val .null, vr r_1, vi 4, vi 1, vr w_1] [])
     refine sp_ (fun t_ k_ => XS.iinc X11.here hx rfl (B_ dk89) rfl (l' := #[vr a, .val .null, vr r_1, vi 4, vi 2, vr w_1]) rfl (XS.goto X11.here hx rfl (pc0 := 45) (pc' := 12) rfl (B_ dk90) (by decide) (by decide) (XS.iload X11.here hx rfl (B_ dk77) rfl  (XS.iloadN X11.here hx rfl (B_ dk78) rfl  k_)))) ?_
     show Go_ T11 (mkF mm_ 15 #[vr a, .val .null, vr r_1, vi 4, vi 2, vr w_1] [(.int 4), (.int 2)])
     refine sp_ (fun t_ k_ => XS.icmpNo X11.here hx rfl (B_ dk79) rfl (tlt (by decide : (2 : Int32) < (4 : Int32))).2.1 k_) ?_
     show Go_ T11 (mkF mm_ 18 #[vr a, .val .null, vr r_1, vi 4, vi 2, vr w_1] [])
     refine sp_ (fun t_ k_ => XS.aloadN X11.here hx rfl (B_ dk80) rfl rfl (XS.iload X11.here hx rfl (B_ dk81) rfl  k_)) ?_
     show Go_ T11 (mkF mm_ 21 #[vr a, .val .null, vr r_1, vi 4, vi 2, vr w_1] [(.int 2), (.ref r_1)])
     obtain ⟨cl13, Ar13, q13, S13, M13, H13, G13⟩ := id r1_1
     have hin13 : ¬ ((2 : Int32) < 0 ∨ cl13.slots.size ≤ ((2 : Int32)).toNatClampNeg) := inb_of S13 ⟨by decide, by decide⟩
     have hat13 : cl13.slots[((2 : Int32)).toNatClampNeg]? = some (.ref w_2) := Has.at H13 hin13 rfl
     refine sp_ (fun t_ k_ => X11.aaload hx (j := (2 : Int32)) (v := (.ref w_2)) (by rw [Eh11]; exact Ar13.1) (State.isArrayOf_alike hZ.alike Ar13.2.1) rfl Ar13.2.2 hin13 hat13 (g := (mkF mm_ 21 #[vr a, .val .null, vr r_1, vi 4, vi 2, vr w_1] [(.int 2), (.ref r_1)])) rfl rfl (B_ dk82) t_ k_) ?_
     show Go_ T11 (mkF mm_ 22 #[vr a, .val .null, vr r_1, vi 4, vi 2, vr w_1] [(.ref w_2)])
     refine sp_ (fun t_ k_ => XS.astore X11.here hx rfl (B_ dk83) rfl rfl (l' := #[vr a, .val .null, vr r_1, vi 4, vi 2, vr w_2]) rfl (XS.aload X11.here hx rfl (B_ dk84) rfl rfl k_)) ?_
     show Go_ T11 (mkF mm_ 26 #[vr a, .val .null, vr r_1, vi 4, vi 2, vr w_2] [(.ref w_2)])
     obtain ⟨T14, X14, e14, st14⟩ := getF X11 hx hZ hown (host := "") (Or.inl (w_ hw 96 rfl)) Via.refl Eh11 (G_F22.ext O4.2) (g := (mkF mm_ 26 #[vr a, .val .null, vr r_1, vi 4, vi 2, vr w_2] [(.ref w_2)])) rfl rfl (B_ dk85)
     refine sp_ st14 ?_
     show Go_ T14 (mkF mm_ 29 #[vr a, .val .null, vr r_1, vi 4, vi 2, vr w_2] [(.ref s_2)])
     refine sp_ (fun t_ k_ => XS.aloadN X14.here hx rfl (B_ dk86) rfl rfl k_) ?_
     show Go_ T14 (mkF mm_ 30 #[vr a, .val .null, vr r_1, vi 4, vi 2, vr w_2] [(.ref a), (.ref s_2)])
     obtain ⟨_, T15, Lc15, X15, hQ15, st15⟩ := own_cV X14 hx hZ hown (w_ hw 98 rfl) (w_ hw 99 rfl) (notFace_of_selects (args := #[]) (mvT hZ (w_ hw 101 rfl))) (w_ hw 101 rfl) (w_ hw 100 rfl) (by decide) (own_eqS (W := 0) hZ hw (G_T23.ext O4.2) f7 (G_cs.ext O4.2) G_cs0 (by decide) (by decide)) (G_T23.ext O4.2).1 (g := (mkF mm_ 30 #[vr a, .val .null, vr r_1, vi 4, vi 2, vr w_2] [(.ref a), (.ref s_2)])) rfl hml.symm (argsL := [(.ref a)]) (rest := []) (lenOf pd_5 rfl) rfl (Nat.le_of_eq rfl) (B_ dk87) rfl e14 (by decide) (by decide)
     obtain ⟨⟨rfl, hq15⟩ | ⟨rfl, hq15⟩, rfl, Eh15⟩ := hQ15
     · skip
       have N15 := Fr.app N11 (Fr.nil n0)
       refine jp_ st15 ?_
       refine sp_ (fun t_ k_ => XS.ifNo X15.here hx rfl (B_ dk88) rfl ((if0 _ _).trans (feq (by decide : ¬ ((1 : Int32) = (0 : Int32)))).1) k_) ?_
       show Go_ T15 (mkF mm_ 36 #[vr a, .val .null, vr r_1, vi 4, vi 2, vr w_2] [])
       refine sp_ (fun t_ k_ => XS.aload X15.here hx rfl (B_ dk93) rfl rfl (XS.astoreN X15.here hx rfl (B_ dk94) rfl rfl (l' := #[vr a, vr w_2, vr r_1, vi 4, vi 2, vr w_2]) rfl (XS.goto X15.here hx rfl (pc0 := 39) (pc' := 48) rfl (B_ dk95) (by decide) (by decide) (XS.aloadN X15.here hx rfl (B_ dk91) rfl rfl k_)))) ?_
       show Go_ T15 (mkF mm_ 49 #[vr a, vr w_2, vr r_1, vi 4, vi 2, vr w_2] [(.ref w_2)])
       have K16 : Keep h0 T1.heap [] := (K0.trans Kc1 all0)
       obtain ⟨fs, hr, hrun, hended, hW, hsame⟩ := X15.leave (v := some (.ref w_2)) (rN Bd.returns)
       refine ⟨_, _, ?_, hrun, hended, _, _, rfl, ?_, ⟨_, rfl⟩, hW, hsame.mono (by decide) (by decide)⟩
       · jvm_step X15.here [X15.here.top, hx, (B_ dk92), X15.method', Bd.returns, Value.isRef, FieldType.isReference]
         first | (intro acts; rw [hr _ acts rfl rfl rfl]) | rw [hr _ _ rfl rfl rfl]
         exact Steps.refl _
       · show QrmOf Z a t cs w_0 w_1 w_2 w_3 h0 n0 (some (.ref w_2)) T15.heap _
         rw [Eh15]
         exact ⟨(.ref w_2), rfl, N15, K16, ⟨fun q_ => absurd (hq15.symm.symm.trans q_) (by decide), fun q_ => absurd (hq15.symm.symm.trans q_) (by decide), fun _ => rfl, fun q_ => absurd (hq15.symm.symm.trans q_) (by decide), fun q0_ q1_ q2_ q3_ => absurd hq15.symm q2_⟩⟩
     · skip
       have N15 := Fr.app N11 (Fr.nil n0)
       refine jp_ st15 ?_
       refine sp_ (fun t_ k_ => XS.ifYes X15.here hx rfl (pc0 := 33) (pc' := 42) rfl (B_ dk88) rfl ((if0 _ _).trans (teq (by decide : (0 : Int32) = (0 : Int32))).1) (by decide) (by decide) k_) ?_
       show Go_ T15 (mkF mm_ 42 #[vr a, .val .null, vr r_1, vi 4, vi 2, vr w_2] [])
       refine sp_ (fun t_ k_ => XS.iinc X15.here hx rfl (B_ dk89) rfl (l' := #[vr a, .val .null, vr r_1, vi 4, vi 3, vr w_2]) rfl (XS.goto X15.here hx rfl (pc0 := 45) (pc' := 12) rfl (B_ dk90) (by decide) (by decide) (XS.iload X15.here hx rfl (B_ dk77) rfl  (XS.iloadN X15.here hx rfl (B_ dk78) rfl  k_)))) ?_
       show Go_ T15 (mkF mm_ 15 #[vr a, .val .null, vr r_1, vi 4, vi 3, vr w_2] [(.int 4), (.int 3)])
       refine sp_ (fun t_ k_ => XS.icmpNo X15.here hx rfl (B_ dk79) rfl (tlt (by decide : (3 : Int32) < (4 : Int32))).2.1 k_) ?_
       show Go_ T15 (mkF mm_ 18 #[vr a, .val .null, vr r_1, vi 4, vi 3, vr w_2] [])
       refine sp_ (fun t_ k_ => XS.aloadN X15.here hx rfl (B_ dk80) rfl rfl (XS.iload X15.here hx rfl (B_ dk81) rfl  k_)) ?_
       show Go_ T15 (mkF mm_ 21 #[vr a, .val .null, vr r_1, vi 4, vi 3, vr w_2] [(.int 3), (.ref r_1)])
       obtain ⟨cl17, Ar17, q17, S17, M17, H17, G17⟩ := id r1_1
       have hin17 : ¬ ((3 : Int32) < 0 ∨ cl17.slots.size ≤ ((3 : Int32)).toNatClampNeg) := inb_of S17 ⟨by decide, by decide⟩
       have hat17 : cl17.slots[((3 : Int32)).toNatClampNeg]? = some (.ref w_3) := Has.at H17 hin17 rfl
       refine sp_ (fun t_ k_ => X15.aaload hx (j := (3 : Int32)) (v := (.ref w_3)) (by rw [Eh15]; exact Ar17.1) (State.isArrayOf_alike hZ.alike Ar17.2.1) rfl Ar17.2.2 hin17 hat17 (g := (mkF mm_ 21 #[vr a, .val .null, vr r_1, vi 4, vi 3, vr w_2] [(.int 3), (.ref r_1)])) rfl rfl (B_ dk82) t_ k_) ?_
       show Go_ T15 (mkF mm_ 22 #[vr a, .val .null, vr r_1, vi 4, vi 3, vr w_2] [(.ref w_3)])
       refine sp_ (fun t_ k_ => XS.astore X15.here hx rfl (B_ dk83) rfl rfl (l' := #[vr a, .val .null, vr r_1, vi 4, vi 3, vr w_3]) rfl (XS.aload X15.here hx rfl (B_ dk84) rfl rfl k_)) ?_
       show Go_ T15 (mkF mm_ 26 #[vr a, .val .null, vr r_1, vi 4, vi 3, vr w_3] [(.ref w_3)])
       obtain ⟨T18, X18, e18, st18⟩ := getF X15 hx hZ hown (host := "") (Or.inl (w_ hw 96 rfl)) Via.refl Eh15 (G_F27.ext O4.2) (g := (mkF mm_ 26 #[vr a, .val .null, vr r_1, vi 4, vi 3, vr w_3] [(.ref w_3)])) rfl rfl (B_ dk85)
       refine sp_ st18 ?_
       show Go_ T18 (mkF mm_ 29 #[vr a, .val .null, vr r_1, vi 4, vi 3, vr w_3] [(.ref s_3)])
       refine sp_ (fun t_ k_ => XS.aloadN X18.here hx rfl (B_ dk86) rfl rfl k_) ?_
       show Go_ T18 (mkF mm_ 30 #[vr a, .val .null, vr r_1, vi 4, vi 3, vr w_3] [(.ref a), (.ref s_3)])
       obtain ⟨_, T19, Lc19, X19, hQ19, st19⟩ := own_cV X18 hx hZ hown (w_ hw 98 rfl) (w_ hw 99 rfl) (notFace_of_selects (args := #[]) (mvT hZ (w_ hw 101 rfl))) (w_ hw 101 rfl) (w_ hw 100 rfl) (by decide) (own_eqS (W := 0) hZ hw (G_T28.ext O4.2) f7 (G_cs.ext O4.2) G_cs0 (by decide) (by decide)) (G_T28.ext O4.2).1 (g := (mkF mm_ 30 #[vr a, .val .null, vr r_1, vi 4, vi 3, vr w_3] [(.ref a), (.ref s_3)])) rfl hml.symm (argsL := [(.ref a)]) (rest := []) (lenOf pd_5 rfl) rfl (Nat.le_of_eq rfl) (B_ dk87) rfl e18 (by decide) (by decide)
       obtain ⟨⟨rfl, hq19⟩ | ⟨rfl, hq19⟩, rfl, Eh19⟩ := hQ19
       · skip
         have N19 := Fr.app N15 (Fr.nil n0)
         refine jp_ st19 ?_
         refine sp_ (fun t_ k_ => XS.ifNo X19.here hx rfl (B_ dk88) rfl ((if0 _ _).trans (feq (by decide : ¬ ((1 : Int32) = (0 : Int32)))).1) k_) ?_
         show Go_ T19 (mkF mm_ 36 #[vr a, .val .null, vr r_1, vi 4, vi 3, vr w_3] [])
         refine sp_ (fun t_ k_ => XS.aload X19.here hx rfl (B_ dk93) rfl rfl (XS.astoreN X19.here hx rfl (B_ dk94) rfl rfl (l' := #[vr a, vr w_3, vr r_1, vi 4, vi 3, vr w_3]) rfl (XS.goto X19.here hx rfl (pc0 := 39) (pc' := 48) rfl (B_ dk95) (by decide) (by decide) (XS.aloadN X19.here hx rfl (B_ dk91) rfl rfl k_)))) ?_
         show Go_ T19 (mkF mm_ 49 #[vr a, vr w_3, vr r_1, vi 4, vi 3, vr w_3] [(.ref w_3)])
         have K20 : Keep h0 T1.heap [] := (K0.trans Kc1 all0)
         obtain ⟨fs, hr, hrun, hended, hW, hsame⟩ := X19.leave (v := some (.ref w_3)) (rN Bd.returns)
         refine ⟨_, _, ?_, hrun, hended, _, _, rfl, ?_, ⟨_, rfl⟩, hW, hsame.mono (by decide) (by decide)⟩
         · jvm_step X19.here [X19.here.top, hx, (B_ dk92), X19.method', Bd.returns, Value.isRef, FieldType.isReference]
           first | (intro acts; rw [hr _ acts rfl rfl rfl]) | rw [hr _ _ rfl rfl rfl]
           exact Steps.refl _
         · show QrmOf Z a t cs w_0 w_1 w_2 w_3 h0 n0 (some (.ref w_3)) T19.heap _
           rw [Eh19]
           exact ⟨(.ref w_3), rfl, N19, K20, ⟨fun q_ => absurd (hq19.symm.symm.trans q_) (by decide), fun q_ => absurd (hq19.symm.symm.trans q_) (by decide), fun q_ => absurd (hq19.symm.symm.trans q_) (by decide), fun _ => rfl, fun q0_ q1_ q2_ q3_ => absurd hq19.symm q3_⟩⟩
       · skip
         have N19 := Fr.app N15 (Fr.nil n0)
         refine jp_ st19 ?_
         refine sp_ (fun t_ k_ => XS.ifYes X19.here hx rfl (pc0 := 33) (pc' := 42) rfl (B_ dk88) rfl ((if0 _ _).trans (teq (by decide : (0 : Int32) = (0 : Int32))).1) (by decide) (by decide) k_) ?_
         show Go_ T19 (mkF mm_ 42 #[vr a, .val .null, vr r_1, vi 4, vi 3, vr w_3] [])
         refine sp_ (fun t_ k_ => XS.iinc X19.here hx rfl (B_ dk89) rfl (l' := #[vr a, .val .null, vr r_1, vi 4, vi 4, vr w_3]) rfl (XS.goto X19.here hx rfl (pc0 := 45) (pc' := 12) rfl (B_ dk90) (by decide) (by decide) (XS.iload X19.here hx rfl (B_ dk77) rfl  (XS.iloadN X19.here hx rfl (B_ dk78) rfl  k_)))) ?_
         show Go_ T19 (mkF mm_ 15 #[vr a, .val .null, vr r_1, vi 4, vi 4, vr w_3] [(.int 4), (.int 4)])
         refine sp_ (fun t_ k_ => XS.icmpYes X19.here hx rfl (pc0 := 15) (pc' := 48) rfl (B_ dk79) rfl (flt (by decide : ¬ ((4 : Int32) < (4 : Int32)))).2.1 (by decide) (by decide) k_) ?_
         show Go_ T19 (mkF mm_ 48 #[vr a, .val .null, vr r_1, vi 4, vi 4, vr w_3] [])
         refine sp_ (fun t_ k_ => XS.aloadN X19.here hx rfl (B_ dk91) rfl rfl k_) ?_
         show Go_ T19 (mkF mm_ 49 #[vr a, .val .null, vr r_1, vi 4, vi 4, vr w_3] [.null])
         have K21 : Keep h0 T1.heap [] := (K0.trans Kc1 all0)
         obtain ⟨fs, hr, hrun, hended, hW, hsame⟩ := X19.leave (v := some .null) (rN Bd.returns)
         refine ⟨_, _, ?_, hrun, hended, _, _, rfl, ?_, ⟨_, rfl⟩, hW, hsame.mono (by decide) (by decide)⟩
         · jvm_step X19.here [X19.here.top, hx, (B_ dk92), X19.method', Bd.returns, Value.isRef, FieldType.isReference]
           first | (intro acts; rw [hr _ acts rfl rfl rfl]) | rw [hr _ _ rfl rfl rfl]
           exact Steps.refl _
         · show QrmOf Z a t cs w_0 w_1 w_2 w_3 h0 n0 (some .null) T19.heap _
           rw [Eh19]
           exact ⟨.null, rfl, N19, K21, ⟨fun q_ => absurd q_ (fun q_ => hq6 q_.symm), fun q_ => absurd q_ (fun q_ => hq11 q_.symm), fun q_ => absurd q_ (fun q_ => hq15 q_.symm), fun q_ => absurd q_ (fun q_ => hq19 q_.symm), fun _ _ _ _ => rfl⟩⟩
theorem dk96 : decode J9 0 = .ok (.aload_n 0, 1) := by decide +kernel
theorem dk97 : decode J9 1 = .ok (.ifnonnull 5, 3) := by decide +kernel
theorem dk98 : decode J9 4 = .ok (.aconst_null, 1) := by decide +kernel
theorem dk99 : decode J9 5 = .ok (.areturn, 1) := by decide +kernel
theorem pn_com_example_vestwright_vestwright_census_ReasonOfPinLaw : plainName "com/example/vestwright/vestwright/census/ReasonOfPinLaw" = true := by first | (simp [plainName, overriddenIn]; done) | decide +kernel
theorem ef_rmExN (mm_ : MethodId)  : entryFrame mm_ #[.null] 1 = (mkF mm_ 0 #[.val .null] []) := by first | (simp [entryFrame, mkF, argsToLocals, Value.category]; done) | rfl
def QrmExN (Z : State)  (h0 : Heap) (n0 : Nat) (vv_ : Option Value) (hh_ : Heap) (LL_ : List Loc) : Prop := (vv_ = some .null) ∧ (LL_ = []) ∧ (hh_ = h0)
theorem rmExN (l : Launch) (Z : State) (a0 : Array Value) (hw : own_Hw a0 Z) (ws : List Jvm.Cond)  (h0 : Heap) (n0 : Nat) (O0 : Old Z n0 h0) :
 MetFree l ym0 (head1 (Jvm.Cond.code ym0 J9 1 (some (.object sc2)) :: ws) (rm_ 0 0 0 0)) (fun aa_ UU_ => aa_ = #[.null] ∧ Z.Warmed39 UU_.vm ∧ UU_.heap = h0) (fun _ _ _ _ _ => True) (fun _ UU_ oo_ UV_ => ∃ vv_ LL_, oo_ = .returned vv_ ∧ QrmExN Z  h0 n0 vv_ UV_.heap LL_ ∧ FrameEnd UU_ oo_ UV_ LL_ (rm_ 0 0 0 0).cells (rm_ 0 0 0 0).slots) := by
 refine MetFree.of_bodySF (plainFor_of_name pn_com_example_vestwright_vestwright_census_ReasonOfPinLaw) hisR ?_
 intro pp_ ee_ ss_ mm_ args_ bb_ me_ cc_ s₁ Bd hml0 hP hK
 obtain ⟨rfl, hZ, hh⟩ := hP
 have hx := Bd.exec
 have hby := Bd.bytes; have B_ {q_ : Nat} {r_ : _} (h_ : decode _ q_ = r_) := hb hby h_
 have hml : cc_.maxLocals = 1 := hml0
 have hown : ss_.vm.findClass sc1 = some mm_.cls := findClass_of_methodNamed Bd.named
 have hnm := (name_of_methodNamed Bd.named Bd.method).1
 have X0 : Stand pp_ l ee_ (rm_ 0 0 0 0) ss_ mm_ #[.null] bb_ me_ cc_ s₁ [] 0 0 := Stand.of_body Bd
 have e0 : s₁.heap = h0 := by rw [← hh, Bd.state]; rfl
 have N0 := Fr.nil n0
 show own_Go pp_ ee_ bb_ _ s₁ (entryFrame mm_ #[.null] 1)
 refine own_cast (ef_rmExN mm_ ) ?_
 have Z0 : n0 ≤ h0.size := by have q := O0.2.1; rw [O0.1] at q; exact q
 have K0 : Keep h0 h0 [] := Keep.refl _ _
 show Go_ s₁ (mkF mm_ 0 #[.val .null] [])
 refine sp_ (fun t_ k_ => XS.aloadN X0.here hx rfl (B_ dk96) rfl rfl k_) ?_
 show Go_ s₁ (mkF mm_ 1 #[.val .null] [.null])
 refine sp_ (fun t_ k_ => XS.ifnonnullNo X0.here hx rfl (B_ dk97) rfl (XS.aconstNull X0.here hx rfl (B_ dk98) k_)) ?_
 show Go_ s₁ (mkF mm_ 5 #[.val .null] [.null])
 obtain ⟨fs, hr, hrun, hended, hW, hsame⟩ := X0.leave (v := some .null) (rN Bd.returns)
 refine ⟨_, _, ?_, hrun, hended, _, _, rfl, ?_, ⟨_, rfl⟩, hW, hsame.mono (by decide) (by decide)⟩
 · jvm_step X0.here [X0.here.top, hx, (B_ dk99), X0.method', Bd.returns, Value.isRef, FieldType.isReference]
   first | (intro acts; rw [hr _ acts rfl rfl rfl]) | rw [hr _ _ rfl rfl rfl]
   exact Steps.refl _
 · show QrmExN Z  h0 n0 (some .null) s₁.heap _
   rw [e0]
   exact ⟨rfl, rfl, rfl⟩
theorem dk100 : decode J9 6 = .ok (.aload_n 0, 1) := by decide +kernel
theorem dk101 : decode J9 7 = .ok (.ldc 7, 2) := by decide +kernel
theorem dk102 : decode J9 9 = .ok (.invokevirtual 51, 3) := by decide +kernel
theorem dk103 : decode J9 12 = .ok (.ifCond .eq 7, 3) := by decide +kernel
theorem dk104 : decode J9 15 = .ok (.getstatic 55, 3) := by decide +kernel
theorem dk105 : decode J9 18 = .ok (.areturn, 1) := by decide +kernel
theorem dk106 : decode J9 19 = .ok (.aload_n 0, 1) := by decide +kernel
theorem dk107 : decode J9 20 = .ok (.ldc 9, 2) := by decide +kernel
theorem dk108 : decode J9 22 = .ok (.invokevirtual 51, 3) := by decide +kernel
theorem dk109 : decode J9 25 = .ok (.ifCond .eq 7, 3) := by decide +kernel
theorem dk110 : decode J9 28 = .ok (.getstatic 59, 3) := by decide +kernel
theorem dk111 : decode J9 31 = .ok (.areturn, 1) := by decide +kernel
theorem dk112 : decode J9 32 = .ok (.aload_n 0, 1) := by decide +kernel
theorem dk113 : decode J9 33 = .ok (.ldc 11, 2) := by decide +kernel
theorem dk114 : decode J9 35 = .ok (.invokevirtual 51, 3) := by decide +kernel
theorem dk115 : decode J9 38 = .ok (.ifCond .eq 7, 3) := by decide +kernel
theorem dk116 : decode J9 41 = .ok (.getstatic 62, 3) := by decide +kernel
theorem dk117 : decode J9 44 = .ok (.areturn, 1) := by decide +kernel
theorem dk118 : decode J9 45 = .ok (.aload_n 0, 1) := by decide +kernel
theorem dk119 : decode J9 46 = .ok (.ldc 13, 2) := by decide +kernel
theorem dk120 : decode J9 48 = .ok (.invokevirtual 51, 3) := by decide +kernel
theorem dk121 : decode J9 51 = .ok (.ifCond .eq 7, 3) := by decide +kernel
theorem dk122 : decode J9 54 = .ok (.getstatic 65, 3) := by decide +kernel
theorem dk123 : decode J9 57 = .ok (.areturn, 1) := by decide +kernel
theorem dk124 : decode J9 58 = .ok (.aconst_null, 1) := by decide +kernel
theorem dk125 : decode J9 59 = .ok (.areturn, 1) := by decide +kernel
theorem ef_rmEx0 (mm_ : MethodId) (a : Addr) : entryFrame mm_ #[(.ref a)] 1 = (mkF mm_ 0 #[vr a] []) := by first | (simp [entryFrame, mkF, argsToLocals, Value.category]; done) | rfl
def QrmEx0 (Z : State) (a : Addr) (t : Addr) (cs : List Int32) (al : Addr) (tl : Addr) (w_0 : Addr) (w_1 : Addr) (w_2 : Addr) (w_3 : Addr) (h0 : Heap) (n0 : Nat) (vv_ : Option Value) (hh_ : Heap) (LL_ : List Loc) : Prop := ∃ (v : Value), (vv_ = some v) ∧ (Fr n0 LL_) ∧ (Keep h0 hh_ []) ∧ (own_X cs v w_0 w_1 w_2 w_3)
theorem rmEx0 (l : Launch) (Z : State) (a0 : Array Value) (hw : own_Hw a0 Z) (ws : List Jvm.Cond) (a : Addr) (t : Addr) (cs : List Int32) (al : Addr) (tl : Addr) {zc : Int32} {fm : Value} {w_0 : Addr} {w_1 : Addr} {w_2 : Addr} {w_3 : Addr} {wV : Addr} {kV : ClassId} {s_0 : Addr} {t_0 : Addr} {s_1 : Addr} {t_1 : Addr} {s_2 : Addr} {t_2 : Addr} {s_3 : Addr} {t_3 : Addr} (h0 : Heap) (n0 : Nat) (O0 : Old Z n0 h0) (G_ : own_St Z zc fm w_0 w_1 w_2 w_3 wV kV s_0 t_0 s_1 t_1 s_2 t_2 s_3 t_3) (pr0 : own_Str Z h0 a t cs) (pr1 : own_Str Z h0 al tl [(100 : Int32), (101 : Int32), (97 : Int32), (116 : Int32), (104 : Int32)]) :
 MetFree l ym0 (head1 (Jvm.Cond.code ym0 J9 1 (some (.object sc2)) :: ws) (rm_ 2 6 112 28)) (fun aa_ UU_ => aa_ = #[(.ref a)] ∧ Z.Warmed39 UU_.vm ∧ UU_.heap = h0 ∧ (IB Z UU_.vm ["death", ""] ∧ Lit (Z.setVm UU_.vm) sc1 7 al)) (fun _ _ _ _ _ => True) (fun _ UU_ oo_ UV_ => ∃ vv_ LL_, oo_ = .returned vv_ ∧ QrmEx0 Z a t cs al tl w_0 w_1 w_2 w_3 h0 n0 vv_ UV_.heap LL_ ∧ IB Z UV_.vm ["death", "disability", "retirement", "other", ""] ∧ ReturnedEndW UU_ oo_ UV_ LL_ (rm_ 2 6 112 28).cells (rm_ 2 6 112 28).slots) := by
 refine MetFree.of_bodySF (plainFor_of_name pn_com_example_vestwright_vestwright_census_ReasonOfPinLaw) hisR ?_
 intro pp_ ee_ ss_ mm_ args_ bb_ me_ cc_ s₁ Bd hml0 hP hK
 obtain ⟨rfl, hZ, hh, ⟨hI, hLt0⟩⟩ := hP
 have hx := Bd.exec
 have hby := Bd.bytes; have B_ {q_ : Nat} {r_ : _} (h_ : decode _ q_ = r_) := hb hby h_
 have hml : cc_.maxLocals = 1 := hml0
 have hown : ss_.vm.findClass sc1 = some mm_.cls := findClass_of_methodNamed Bd.named
 have hnm := (name_of_methodNamed Bd.named Bd.method).1
 have X0 : Stand pp_ l ee_ (rm_ 2 6 112 28) ss_ mm_ #[(.ref a)] bb_ me_ cc_ s₁ [] 0 0 := Stand.of_body Bd
 have e0 : s₁.heap = h0 := by rw [← hh, Bd.state]; rfl
 have N0 := Fr.nil n0
 have X0 : Stand pp_ l ee_ _ (ss_.setVm ss_.vm) mm_ _ bb_ me_ cc_ s₁ [] 0 0 := X0
 have hZ : Z.Warmed39 (ss_.setVm ss_.vm).vm := hZ
 have hown : (ss_.setVm ss_.vm).vm.findClass sc1 = some mm_.cls := hown
 have hS0 : ss_.Since ss_.vm 0 := (State.WarmedH.refl ss_).since 0
 have hkeep_ : ∀ (b : Addr) (cl : Cell), Z.heap[b]? = some cl → ss_.heap[b]? = some cl := by rw [hh]; exact O0.2.2
 have own_atoms_ : ∀ a ∈ Bundle.stringAtoms, a.before a0 Z = true := fun d hd => hw d ((by decide +kernel : ∀ d ∈ Bundle.stringAtoms, d ∈ tables_1) d hd)
 show own_Go pp_ ee_ bb_ _ s₁ (entryFrame mm_ #[(.ref a)] 1)
 refine own_cast (ef_rmEx0 mm_ a) ?_
 have Z0 : n0 ≤ h0.size := by have q := O0.2.1; rw [O0.1] at q; exact q
 have K0 : Keep h0 h0 [] := Keep.refl _ _
 obtain ⟨G_cs, G_cs0, G_fm, G_fr, G_S1, G_S2, G_S3, G_S4, G_S5, G_E6, G_E7, G_E8, G_E9, G_E10, G_V11, G_F12, G_T13, G_F17, G_T18, G_F22, G_T23, G_F27, G_T28, G_cw, G_h_com_example_vestwright_vestwright_census_ReasonOfPinLaw_7, G_h_com_example_vestwright_vestwright_census_ReasonOfPinLaw_9, G_h_com_example_vestwright_vestwright_census_ReasonOfPinLaw_11, G_h_com_example_vestwright_vestwright_census_ReasonOfPinLaw_13, G_h_java_lang_String_7⟩ := id G_
 have own_cw_ : Jvm.Lit.compactW.before a0 Z = true := G_cw
 show Go_ s₁ (mkF mm_ 0 #[vr a] [])
 refine sp_ (fun t_ k_ => XS.aloadN X0.here hx rfl (B_ dk96) rfl rfl k_) ?_
 show Go_ s₁ (mkF mm_ 1 #[vr a] [(.ref a)])
 refine sp_ (fun t_ k_ => XS.ifnonnullYes X0.here hx rfl (pc0 := 1) (pc' := 6) rfl (B_ dk97) rfl (by decide) (by decide) (XS.aloadN X0.here hx rfl (B_ dk100) rfl rfl k_)) ?_
 show Go_ s₁ (mkF mm_ 7 #[vr a] [(.ref a)])
 refine sp_ (ldcAgain (s := ss_) (vm0 := ss_.vm) X0 hx hZ hown (w_ hw 0 rfl) (Lit.stays (s := ss_) (vm0 := ss_.vm) hLt0 hS0.1) (g := (mkF mm_ 7 #[vr a] [(.ref a)])) rfl (B_ dk101)) ?_
 show Go_ s₁ (mkF mm_ 9 #[vr a] [(.ref al), (.ref a)])
 obtain ⟨_, T2, Lc2, X2, hQ2, st2⟩ := own_cV X0 hx hZ hown (w_ hw 110 rfl) (w_ hw 99 rfl) (notFace_of_selects (args := #[]) (mvT hZ (w_ hw 101 rfl))) (w_ hw 101 rfl) (w_ hw 100 rfl) (by decide) (own_eqS (W := 0) hZ hw pr0 pr1 (G_cs.ext O0.2) G_cs0 (by decide) (by decide)) pr0.1 (g := (mkF mm_ 9 #[vr a] [(.ref al), (.ref a)])) rfl hml.symm (argsL := [(.ref al)]) (rest := []) (lenOf pd_5 rfl) rfl (Nat.le_of_eq rfl) (B_ dk102) rfl e0 (by decide) (by decide)
 obtain ⟨⟨rfl, hq2⟩ | ⟨rfl, hq2⟩, rfl, Eh2⟩ := hQ2
 · skip
   have N2 := Fr.app N0 (Fr.nil n0)
   refine jp_ st2 ?_
   refine sp_ (fun t_ k_ => XS.ifNo X2.here hx rfl (B_ dk103) rfl ((if0 _ _).trans (feq (by decide : ¬ ((1 : Int32) = (0 : Int32)))).1) k_) ?_
   show Go_ T2 (mkF mm_ 15 #[vr a] [])
   obtain ⟨T3, X3, e3, st3⟩ := getS2 X2 hx hZ hown (host := "") (Or.inl (w_ hw 111 rfl)) Via.refl Eh2 (G_S1.ext O0.2) (g := (mkF mm_ 15 #[vr a] [])) rfl (B_ dk104)
   refine sp_ st3 ?_
   show Go_ T3 (mkF mm_ 18 #[vr a] [(.ref w_0)])
   obtain ⟨fs, hr, hrun, hended, hEnd⟩ := X3.leaveW hS0 (by rw [e3]; exact (Nat.zero_le _)) (v := some (.ref w_0)) (rN Bd.returns)
   refine ⟨_, _, ?_, hrun, hended, _, _, rfl, ?_, own_IB_mono (own_IB_warm hI X3.warmed) (by intro t_ h_; first | exact h_ | exact List.mem_cons_of_mem _ h_ | (revert t_ h_; decide)), own_endMono hEnd (by decide) (by decide)⟩
   · jvm_step X3.here [X3.here.top, hx, (B_ dk105), X3.method', Bd.returns, Value.isRef, FieldType.isReference]
     first | (intro acts; rw [hr _ acts rfl rfl rfl]) | rw [hr _ _ rfl rfl rfl]
     exact Steps.refl _
   · show QrmEx0 Z a t cs al tl w_0 w_1 w_2 w_3 h0 n0 (some (.ref w_0)) T3.heap _
     rw [e3]
     exact ⟨(.ref w_0), rfl, N2, K0, ⟨fun _ => rfl, fun q_ => absurd (hq2.symm.trans q_) (by decide), fun q_ => absurd (hq2.symm.trans q_) (by decide), fun q_ => absurd (hq2.symm.trans q_) (by decide), fun q0_ q1_ q2_ q3_ => absurd hq2 q0_⟩⟩
 · skip
   have N2 := Fr.app N0 (Fr.nil n0)
   refine jp_ st2 ?_
   refine sp_ (fun t_ k_ => XS.ifYes X2.here hx rfl (pc0 := 12) (pc' := 19) rfl (B_ dk103) rfl ((if0 _ _).trans (teq (by decide : (0 : Int32) = (0 : Int32))).1) (by decide) (by decide) k_) ?_
   show Go_ T2 (mkF mm_ 19 #[vr a] [])
   refine sp_ (fun t_ k_ => XS.aloadN X2.here hx rfl (B_ dk106) rfl rfl k_) ?_
   show Go_ T2 (mkF mm_ 20 #[vr a] [(.ref a)])
   obtain ⟨a4, T4, h4, k4, t4, kb4, X4, e4, E4, hS4, hk4, hZ4, hown4, Ex4, Fc4, Fv4, V4, -, -, I4, L4, st4⟩ := ldcSVL (s := ss_) (vm0 := ss_.vm) X2 hx hZ hown (w_ hw 118 rfl) own_atoms_ Eh2 hS0 (Nat.zero_le _) (by rw [hh]; exact (Fr.app (Fr.nil _) (Fr.nil _))) hkeep_ hI (by first | assumption | decide) (G_h_com_example_vestwright_vestwright_census_ReasonOfPinLaw_9) own_cw_ (vs := [(.int 100), (.int 105), (.int 115), (.int 97), (.int 98), (.int 105), (.int 108), (.int 105), (.int 116), (.int 121)]) (z := (10 : Int32)) ⟨by decide, rfl⟩ (by decide) (by decide) (g := (mkF mm_ 20 #[vr a] [(.ref a)])) rfl (B_ dk107) (n := 40) (by decide) (by decide) (by decide) (by decide)
   have Ls4 : own_Str Z h4 a4 t4 [(100 : Int32), (105 : Int32), (115 : Int32), (97 : Int32), (98 : Int32), (105 : Int32), (108 : Int32), (105 : Int32), (116 : Int32), (121 : Int32)] := ⟨Ex4, Fc4, Fv4, ⟨kb4, V4⟩, by decide, by decide⟩
   refine sp_ st4 ?_
   show Go_ T4 (mkF mm_ 22 #[vr a] [(.ref a4), (.ref a)])
   have f6 : own_Str Z h4 a t cs := (pr0.ext E4)
   have O7 : Old Z n0 h4 := (O0.ext E4)
   obtain ⟨_, T5, Lc5, X5, hQ5, st5⟩ := own_cV X4 hx hZ4 hown4 (w_ hw 110 rfl) (w_ hw 99 rfl) (notFace_of_selects (args := #[]) (mvT hZ4 (w_ hw 101 rfl))) (w_ hw 101 rfl) (w_ hw 100 rfl) (by decide) (own_eqS (W := 0) hZ4 hw f6 Ls4 (G_cs.ext O7.2) G_cs0 (by decide) (by decide)) f6.1 (g := (mkF mm_ 22 #[vr a] [(.ref a4), (.ref a)])) rfl hml.symm (argsL := [(.ref a4)]) (rest := []) (lenOf pd_5 rfl) rfl (Nat.le_of_eq rfl) (B_ dk108) rfl e4 (by decide) (by decide)
   obtain ⟨⟨rfl, hq5⟩ | ⟨rfl, hq5⟩, rfl, Eh5⟩ := hQ5
   · skip
     have N5 := Fr.app N2 (Fr.nil n0)
     refine jp_ st5 ?_
     refine sp_ (fun t_ k_ => XS.ifNo X5.here hx rfl (B_ dk109) rfl ((if0 _ _).trans (feq (by decide : ¬ ((1 : Int32) = (0 : Int32)))).1) k_) ?_
     show Go_ T5 (mkF mm_ 28 #[vr a] [])
     obtain ⟨T8, X8, e8, st8⟩ := getS2 X5 hx hZ4 hown4 (host := "") (Or.inl (w_ hw 137 rfl)) Via.refl Eh5 (G_S2.ext O7.2) (g := (mkF mm_ 28 #[vr a] [])) rfl (B_ dk110)
     refine sp_ st8 ?_
     show Go_ T8 (mkF mm_ 31 #[vr a] [(.ref w_1)])
     have K9 : Keep h0 h4 [] := (K0.ext E4)
     obtain ⟨fs, hr, hrun, hended, hEnd⟩ := X8.leaveW hS4 (by rw [e8]; exact hk4) (v := some (.ref w_1)) (rN Bd.returns)
     refine ⟨_, _, ?_, hrun, hended, _, _, rfl, ?_, own_IB_mono (own_IB_warm I4 X8.warmed) (by intro t_ h_; first | exact h_ | exact List.mem_cons_of_mem _ h_ | (revert t_ h_; decide)), own_endMono hEnd (by decide) (by decide)⟩
     · jvm_step X8.here [X8.here.top, hx, (B_ dk111), X8.method', Bd.returns, Value.isRef, FieldType.isReference]
       first | (intro acts; rw [hr _ acts rfl rfl rfl]) | rw [hr _ _ rfl rfl rfl]
       exact Steps.refl _
     · show QrmEx0 Z a t cs al tl w_0 w_1 w_2 w_3 h0 n0 (some (.ref w_1)) T8.heap _
       rw [e8]
       exact ⟨(.ref w_1), rfl, N5, K9, ⟨fun q_ => absurd (hq5.symm.trans q_) (by decide), fun _ => rfl, fun q_ => absurd (hq5.symm.trans q_) (by decide), fun q_ => absurd (hq5.symm.trans q_) (by decide), fun q0_ q1_ q2_ q3_ => absurd hq5 q1_⟩⟩
   · skip
     have N5 := Fr.app N2 (Fr.nil n0)
     refine jp_ st5 ?_
     refine sp_ (fun t_ k_ => XS.ifYes X5.here hx rfl (pc0 := 25) (pc' := 32) rfl (B_ dk109) rfl ((if0 _ _).trans (teq (by decide : (0 : Int32) = (0 : Int32))).1) (by decide) (by decide) k_) ?_
     show Go_ T5 (mkF mm_ 32 #[vr a] [])
     refine sp_ (fun t_ k_ => XS.aloadN X5.here hx rfl (B_ dk112) rfl rfl k_) ?_
     show Go_ T5 (mkF mm_ 33 #[vr a] [(.ref a)])
     obtain ⟨a10, T10, h10, k10, t10, kb10, X10, e10, E10, hS10, hk10, hZ10, hown10, Ex10, Fc10, Fv10, V10, -, -, I10, L10, st10⟩ := ldcSVL (s := ss_) (vm0 := T4.vm) X5 hx hZ4 hown4 (w_ hw 116 rfl) own_atoms_ Eh5 hS4 hk4 (by rw [hh]; exact (Fr.app (Fr.app (Fr.nil _) (Fr.nil _)) (Fr.nil _))) hkeep_ I4 (by first | assumption | decide) (G_h_com_example_vestwright_vestwright_census_ReasonOfPinLaw_11) own_cw_ (vs := [(.int 114), (.int 101), (.int 116), (.int 105), (.int 114), (.int 101), (.int 109), (.int 101), (.int 110), (.int 116)]) (z := (10 : Int32)) ⟨by decide, rfl⟩ (by decide) (by decide) (g := (mkF mm_ 33 #[vr a] [(.ref a)])) rfl (B_ dk113) (n := 40) (by decide) (by decide) (by decide) (by decide)
     have Ls10 : own_Str Z h10 a10 t10 [(114 : Int32), (101 : Int32), (116 : Int32), (105 : Int32), (114 : Int32), (101 : Int32), (109 : Int32), (101 : Int32), (110 : Int32), (116 : Int32)] := ⟨Ex10, Fc10, Fv10, ⟨kb10, V10⟩, by decide, by decide⟩
     refine sp_ st10 ?_
     show Go_ T10 (mkF mm_ 35 #[vr a] [(.ref a10), (.ref a)])
     have f12 : own_Str Z h10 a t cs := (f6.ext E10)
     have O13 : Old Z n0 h10 := (O7.ext E10)
     obtain ⟨_, T11, Lc11, X11, hQ11, st11⟩ := own_cV X10 hx hZ10 hown10 (w_ hw 110 rfl) (w_ hw 99 rfl) (notFace_of_selects (args := #[]) (mvT hZ10 (w_ hw 101 rfl))) (w_ hw 101 rfl) (w_ hw 100 rfl) (by decide) (own_eqS (W := 0) hZ10 hw f12 Ls10 (G_cs.ext O13.2) G_cs0 (by decide) (by decide)) f12.1 (g := (mkF mm_ 35 #[vr a] [(.ref a10), (.ref a)])) rfl hml.symm (argsL := [(.ref a10)]) (rest := []) (lenOf pd_5 rfl) rfl (Nat.le_of_eq rfl) (B_ dk114) rfl e10 (by decide) (by decide)
     obtain ⟨⟨rfl, hq11⟩ | ⟨rfl, hq11⟩, rfl, Eh11⟩ := hQ11
     · skip
       have N11 := Fr.app N5 (Fr.nil n0)
       refine jp_ st11 ?_
       refine sp_ (fun t_ k_ => XS.ifNo X11.here hx rfl (B_ dk115) rfl ((if0 _ _).trans (feq (by decide : ¬ ((1 : Int32) = (0 : Int32)))).1) k_) ?_
       show Go_ T11 (mkF mm_ 41 #[vr a] [])
       obtain ⟨T14, X14, e14, st14⟩ := getS2 X11 hx hZ10 hown10 (host := "") (Or.inl (w_ hw 138 rfl)) Via.refl Eh11 (G_S3.ext O13.2) (g := (mkF mm_ 41 #[vr a] [])) rfl (B_ dk116)
       refine sp_ st14 ?_
       show Go_ T14 (mkF mm_ 44 #[vr a] [(.ref w_2)])
       have K15 : Keep h0 h10 [] := ((K0.ext E4).ext E10)
       obtain ⟨fs, hr, hrun, hended, hEnd⟩ := X14.leaveW hS10 (by rw [e14]; exact hk10) (v := some (.ref w_2)) (rN Bd.returns)
       refine ⟨_, _, ?_, hrun, hended, _, _, rfl, ?_, own_IB_mono (own_IB_warm I10 X14.warmed) (by intro t_ h_; first | exact h_ | exact List.mem_cons_of_mem _ h_ | (revert t_ h_; decide)), own_endMono hEnd (by decide) (by decide)⟩
       · jvm_step X14.here [X14.here.top, hx, (B_ dk117), X14.method', Bd.returns, Value.isRef, FieldType.isReference]
         first | (intro acts; rw [hr _ acts rfl rfl rfl]) | rw [hr _ _ rfl rfl rfl]
         exact Steps.refl _
       · show QrmEx0 Z a t cs al tl w_0 w_1 w_2 w_3 h0 n0 (some (.ref w_2)) T14.heap _
         rw [e14]
         exact ⟨(.ref w_2), rfl, N11, K15, ⟨fun q_ => absurd (hq11.symm.trans q_) (by decide), fun q_ => absurd (hq11.symm.trans q_) (by decide), fun _ => rfl, fun q_ => absurd (hq11.symm.trans q_) (by decide), fun q0_ q1_ q2_ q3_ => absurd hq11 q2_⟩⟩
     · skip
       have N11 := Fr.app N5 (Fr.nil n0)
       refine jp_ st11 ?_
       refine sp_ (fun t_ k_ => XS.ifYes X11.here hx rfl (pc0 := 38) (pc' := 45) rfl (B_ dk115) rfl ((if0 _ _).trans (teq (by decide : (0 : Int32) = (0 : Int32))).1) (by decide) (by decide) k_) ?_
       show Go_ T11 (mkF mm_ 45 #[vr a] [])
       refine sp_ (fun t_ k_ => XS.aloadN X11.here hx rfl (B_ dk118) rfl rfl k_) ?_
       show Go_ T11 (mkF mm_ 46 #[vr a] [(.ref a)])
       obtain ⟨a16, T16, h16, k16, t16, kb16, X16, e16, E16, hS16, hk16, hZ16, hown16, Ex16, Fc16, Fv16, V16, -, -, I16, L16, st16⟩ := ldcSVL (s := ss_) (vm0 := T10.vm) X11 hx hZ10 hown10 (w_ hw 115 rfl) own_atoms_ Eh11 hS10 hk10 (by rw [hh]; exact (Fr.app (Fr.app (Fr.app (Fr.nil _) (Fr.nil _)) (Fr.nil _)) (Fr.nil _))) hkeep_ I10 (by first | assumption | decide) (G_h_com_example_vestwright_vestwright_census_ReasonOfPinLaw_13) own_cw_ (vs := [(.int 111), (.int 116), (.int 104), (.int 101), (.int 114)]) (z := (5 : Int32)) ⟨by decide, rfl⟩ (by decide) (by decide) (g := (mkF mm_ 46 #[vr a] [(.ref a)])) rfl (B_ dk119) (n := 20) (by decide) (by decide) (by decide) (by decide)
       have Ls16 : own_Str Z h16 a16 t16 [(111 : Int32), (116 : Int32), (104 : Int32), (101 : Int32), (114 : Int32)] := ⟨Ex16, Fc16, Fv16, ⟨kb16, V16⟩, by decide, by decide⟩
       refine sp_ st16 ?_
       show Go_ T16 (mkF mm_ 48 #[vr a] [(.ref a16), (.ref a)])
       have f18 : own_Str Z h16 a t cs := (f12.ext E16)
       have O19 : Old Z n0 h16 := (O13.ext E16)
       obtain ⟨_, T17, Lc17, X17, hQ17, st17⟩ := own_cV X16 hx hZ16 hown16 (w_ hw 110 rfl) (w_ hw 99 rfl) (notFace_of_selects (args := #[]) (mvT hZ16 (w_ hw 101 rfl))) (w_ hw 101 rfl) (w_ hw 100 rfl) (by decide) (own_eqS (W := 0) hZ16 hw f18 Ls16 (G_cs.ext O19.2) G_cs0 (by decide) (by decide)) f18.1 (g := (mkF mm_ 48 #[vr a] [(.ref a16), (.ref a)])) rfl hml.symm (argsL := [(.ref a16)]) (rest := []) (lenOf pd_5 rfl) rfl (Nat.le_of_eq rfl) (B_ dk120) rfl e16 (by decide) (by decide)
       obtain ⟨⟨rfl, hq17⟩ | ⟨rfl, hq17⟩, rfl, Eh17⟩ := hQ17
       · skip
         have N17 := Fr.app N11 (Fr.nil n0)
         refine jp_ st17 ?_
         refine sp_ (fun t_ k_ => XS.ifNo X17.here hx rfl (B_ dk121) rfl ((if0 _ _).trans (feq (by decide : ¬ ((1 : Int32) = (0 : Int32)))).1) k_) ?_
         show Go_ T17 (mkF mm_ 54 #[vr a] [])
         obtain ⟨T20, X20, e20, st20⟩ := getS2 X17 hx hZ16 hown16 (host := "") (Or.inl (w_ hw 139 rfl)) Via.refl Eh17 (G_S4.ext O19.2) (g := (mkF mm_ 54 #[vr a] [])) rfl (B_ dk122)
         refine sp_ st20 ?_
         show Go_ T20 (mkF mm_ 57 #[vr a] [(.ref w_3)])
         have K21 : Keep h0 h16 [] := (((K0.ext E4).ext E10).ext E16)
         obtain ⟨fs, hr, hrun, hended, hEnd⟩ := X20.leaveW hS16 (by rw [e20]; exact hk16) (v := some (.ref w_3)) (rN Bd.returns)
         refine ⟨_, _, ?_, hrun, hended, _, _, rfl, ?_, own_IB_mono (own_IB_warm I16 X20.warmed) (by intro t_ h_; first | exact h_ | exact List.mem_cons_of_mem _ h_ | (revert t_ h_; decide)), own_endMono hEnd (by decide) (by decide)⟩
         · jvm_step X20.here [X20.here.top, hx, (B_ dk123), X20.method', Bd.returns, Value.isRef, FieldType.isReference]
           first | (intro acts; rw [hr _ acts rfl rfl rfl]) | rw [hr _ _ rfl rfl rfl]
           exact Steps.refl _
         · show QrmEx0 Z a t cs al tl w_0 w_1 w_2 w_3 h0 n0 (some (.ref w_3)) T20.heap _
           rw [e20]
           exact ⟨(.ref w_3), rfl, N17, K21, ⟨fun q_ => absurd (hq17.symm.trans q_) (by decide), fun q_ => absurd (hq17.symm.trans q_) (by decide), fun q_ => absurd (hq17.symm.trans q_) (by decide), fun _ => rfl, fun q0_ q1_ q2_ q3_ => absurd hq17 q3_⟩⟩
       · skip
         have N17 := Fr.app N11 (Fr.nil n0)
         refine jp_ st17 ?_
         refine sp_ (fun t_ k_ => XS.ifYes X17.here hx rfl (pc0 := 51) (pc' := 58) rfl (B_ dk121) rfl ((if0 _ _).trans (teq (by decide : (0 : Int32) = (0 : Int32))).1) (by decide) (by decide) k_) ?_
         show Go_ T17 (mkF mm_ 58 #[vr a] [])
         refine sp_ (fun t_ k_ => XS.aconstNull X17.here hx rfl (B_ dk124) k_) ?_
         show Go_ T17 (mkF mm_ 59 #[vr a] [.null])
         have K22 : Keep h0 h16 [] := (((K0.ext E4).ext E10).ext E16)
         obtain ⟨fs, hr, hrun, hended, hEnd⟩ := X17.leaveW hS16 (by rw [Eh17]; exact hk16) (v := some .null) (rN Bd.returns)
         refine ⟨_, _, ?_, hrun, hended, _, _, rfl, ?_, own_IB_mono (own_IB_warm I16 X17.warmed) (by intro t_ h_; first | exact h_ | exact List.mem_cons_of_mem _ h_ | (revert t_ h_; decide)), own_endMono hEnd (by decide) (by decide)⟩
         · jvm_step X17.here [X17.here.top, hx, (B_ dk125), X17.method', Bd.returns, Value.isRef, FieldType.isReference]
           first | (intro acts; rw [hr _ acts rfl rfl rfl]) | rw [hr _ _ rfl rfl rfl]
           exact Steps.refl _
         · show QrmEx0 Z a t cs al tl w_0 w_1 w_2 w_3 h0 n0 (some .null) T17.heap _
           rw [Eh17]
           exact ⟨.null, rfl, N17, K22, ⟨fun q_ => absurd q_ hq2, fun q_ => absurd q_ hq5, fun q_ => absurd q_ hq11, fun q_ => absurd q_ hq17, fun _ _ _ _ => rfl⟩⟩
theorem ef_rmEx1 (mm_ : MethodId) (a : Addr) : entryFrame mm_ #[(.ref a)] 1 = (mkF mm_ 0 #[vr a] []) := by first | (simp [entryFrame, mkF, argsToLocals, Value.category]; done) | rfl
def QrmEx1 (Z : State) (a : Addr) (t : Addr) (cs : List Int32) (al : Addr) (tl : Addr) (w_0 : Addr) (w_1 : Addr) (w_2 : Addr) (w_3 : Addr) (h0 : Heap) (n0 : Nat) (vv_ : Option Value) (hh_ : Heap) (LL_ : List Loc) : Prop := ∃ (v : Value), (vv_ = some v) ∧ (Fr n0 LL_) ∧ (Keep h0 hh_ []) ∧ (own_X cs v w_0 w_1 w_2 w_3)
theorem rmEx1 (l : Launch) (Z : State) (a0 : Array Value) (hw : own_Hw a0 Z) (ws : List Jvm.Cond) (a : Addr) (t : Addr) (cs : List Int32) (al : Addr) (tl : Addr) {zc : Int32} {fm : Value} {w_0 : Addr} {w_1 : Addr} {w_2 : Addr} {w_3 : Addr} {wV : Addr} {kV : ClassId} {s_0 : Addr} {t_0 : Addr} {s_1 : Addr} {t_1 : Addr} {s_2 : Addr} {t_2 : Addr} {s_3 : Addr} {t_3 : Addr} (h0 : Heap) (n0 : Nat) (O0 : Old Z n0 h0) (G_ : own_St Z zc fm w_0 w_1 w_2 w_3 wV kV s_0 t_0 s_1 t_1 s_2 t_2 s_3 t_3) (pr0 : own_Str Z h0 a t cs) (pr1 : own_Str Z h0 al tl [(100 : Int32), (105 : Int32), (115 : Int32), (97 : Int32), (98 : Int32), (105 : Int32), (108 : Int32), (105 : Int32), (116 : Int32), (121 : Int32)]) :
 MetFree l ym0 (head1 (Jvm.Cond.code ym0 J9 1 (some (.object sc2)) :: ws) (rm_ 2 6 92 28)) (fun aa_ UU_ => aa_ = #[(.ref a)] ∧ Z.Warmed39 UU_.vm ∧ UU_.heap = h0 ∧ (IB Z UU_.vm ["disability", ""] ∧ Lit (Z.setVm UU_.vm) sc1 9 al)) (fun _ _ _ _ _ => True) (fun _ UU_ oo_ UV_ => ∃ vv_ LL_, oo_ = .returned vv_ ∧ QrmEx1 Z a t cs al tl w_0 w_1 w_2 w_3 h0 n0 vv_ UV_.heap LL_ ∧ IB Z UV_.vm ["death", "disability", "retirement", "other", ""] ∧ ReturnedEndW UU_ oo_ UV_ LL_ (rm_ 2 6 92 28).cells (rm_ 2 6 92 28).slots) := by
 refine MetFree.of_bodySF (plainFor_of_name pn_com_example_vestwright_vestwright_census_ReasonOfPinLaw) hisR ?_
 intro pp_ ee_ ss_ mm_ args_ bb_ me_ cc_ s₁ Bd hml0 hP hK
 obtain ⟨rfl, hZ, hh, ⟨hI, hLt0⟩⟩ := hP
 have hx := Bd.exec
 have hby := Bd.bytes; have B_ {q_ : Nat} {r_ : _} (h_ : decode _ q_ = r_) := hb hby h_
 have hml : cc_.maxLocals = 1 := hml0
 have hown : ss_.vm.findClass sc1 = some mm_.cls := findClass_of_methodNamed Bd.named
 have hnm := (name_of_methodNamed Bd.named Bd.method).1
 have X0 : Stand pp_ l ee_ (rm_ 2 6 92 28) ss_ mm_ #[(.ref a)] bb_ me_ cc_ s₁ [] 0 0 := Stand.of_body Bd
 have e0 : s₁.heap = h0 := by rw [← hh, Bd.state]; rfl
 have N0 := Fr.nil n0
 have X0 : Stand pp_ l ee_ _ (ss_.setVm ss_.vm) mm_ _ bb_ me_ cc_ s₁ [] 0 0 := X0
 have hZ : Z.Warmed39 (ss_.setVm ss_.vm).vm := hZ
 have hown : (ss_.setVm ss_.vm).vm.findClass sc1 = some mm_.cls := hown
 have hS0 : ss_.Since ss_.vm 0 := (State.WarmedH.refl ss_).since 0
 have hkeep_ : ∀ (b : Addr) (cl : Cell), Z.heap[b]? = some cl → ss_.heap[b]? = some cl := by rw [hh]; exact O0.2.2
 have own_atoms_ : ∀ a ∈ Bundle.stringAtoms, a.before a0 Z = true := fun d hd => hw d ((by decide +kernel : ∀ d ∈ Bundle.stringAtoms, d ∈ tables_1) d hd)
 show own_Go pp_ ee_ bb_ _ s₁ (entryFrame mm_ #[(.ref a)] 1)
 refine own_cast (ef_rmEx1 mm_ a) ?_
 have Z0 : n0 ≤ h0.size := by have q := O0.2.1; rw [O0.1] at q; exact q
 have K0 : Keep h0 h0 [] := Keep.refl _ _
 obtain ⟨G_cs, G_cs0, G_fm, G_fr, G_S1, G_S2, G_S3, G_S4, G_S5, G_E6, G_E7, G_E8, G_E9, G_E10, G_V11, G_F12, G_T13, G_F17, G_T18, G_F22, G_T23, G_F27, G_T28, G_cw, G_h_com_example_vestwright_vestwright_census_ReasonOfPinLaw_7, G_h_com_example_vestwright_vestwright_census_ReasonOfPinLaw_9, G_h_com_example_vestwright_vestwright_census_ReasonOfPinLaw_11, G_h_com_example_vestwright_vestwright_census_ReasonOfPinLaw_13, G_h_java_lang_String_7⟩ := id G_
 have own_cw_ : Jvm.Lit.compactW.before a0 Z = true := G_cw
 show Go_ s₁ (mkF mm_ 0 #[vr a] [])
 refine sp_ (fun t_ k_ => XS.aloadN X0.here hx rfl (B_ dk96) rfl rfl k_) ?_
 show Go_ s₁ (mkF mm_ 1 #[vr a] [(.ref a)])
 refine sp_ (fun t_ k_ => XS.ifnonnullYes X0.here hx rfl (pc0 := 1) (pc' := 6) rfl (B_ dk97) rfl (by decide) (by decide) (XS.aloadN X0.here hx rfl (B_ dk100) rfl rfl k_)) ?_
 show Go_ s₁ (mkF mm_ 7 #[vr a] [(.ref a)])
 obtain ⟨a1, T1, h1, k1, t1, kb1, X1, e1, E1, hS1, hk1, hZ1, hown1, Ex1, Fc1, Fv1, V1, -, -, I1, L1, st1⟩ := ldcSVL (s := ss_) (vm0 := ss_.vm) X0 hx hZ hown (w_ hw 0 rfl) own_atoms_ e0 hS0 (Nat.zero_le _) (by rw [hh]; exact (Fr.nil _)) hkeep_ hI (by first | assumption | decide) (G_h_com_example_vestwright_vestwright_census_ReasonOfPinLaw_7) own_cw_ (vs := [(.int 100), (.int 101), (.int 97), (.int 116), (.int 104)]) (z := (5 : Int32)) ⟨by decide, rfl⟩ (by decide) (by decide) (g := (mkF mm_ 7 #[vr a] [(.ref a)])) rfl (B_ dk101) (n := 20) (by decide) (by decide) (by decide) (by decide)
 have Ls1 : own_Str Z h1 a1 t1 [(100 : Int32), (101 : Int32), (97 : Int32), (116 : Int32), (104 : Int32)] := ⟨Ex1, Fc1, Fv1, ⟨kb1, V1⟩, by decide, by decide⟩
 refine sp_ st1 ?_
 show Go_ T1 (mkF mm_ 9 #[vr a] [(.ref a1), (.ref a)])
 have f3 : own_Str Z h1 a t cs := (pr0.ext E1)
 have O4 : Old Z n0 h1 := (O0.ext E1)
 obtain ⟨_, T2, Lc2, X2, hQ2, st2⟩ := own_cV X1 hx hZ1 hown1 (w_ hw 110 rfl) (w_ hw 99 rfl) (notFace_of_selects (args := #[]) (mvT hZ1 (w_ hw 101 rfl))) (w_ hw 101 rfl) (w_ hw 100 rfl) (by decide) (own_eqS (W := 0) hZ1 hw f3 Ls1 (G_cs.ext O4.2) G_cs0 (by decide) (by decide)) f3.1 (g := (mkF mm_ 9 #[vr a] [(.ref a1), (.ref a)])) rfl hml.symm (argsL := [(.ref a1)]) (rest := []) (lenOf pd_5 rfl) rfl (Nat.le_of_eq rfl) (B_ dk102) rfl e1 (by decide) (by decide)
 obtain ⟨⟨rfl, hq2⟩ | ⟨rfl, hq2⟩, rfl, Eh2⟩ := hQ2
 · skip
   have N2 := Fr.app N0 (Fr.nil n0)
   refine jp_ st2 ?_
   refine sp_ (fun t_ k_ => XS.ifNo X2.here hx rfl (B_ dk103) rfl ((if0 _ _).trans (feq (by decide : ¬ ((1 : Int32) = (0 : Int32)))).1) k_) ?_
   show Go_ T2 (mkF mm_ 15 #[vr a] [])
   obtain ⟨T5, X5, e5, st5⟩ := getS2 X2 hx hZ1 hown1 (host := "") (Or.inl (w_ hw 111 rfl)) Via.refl Eh2 (G_S1.ext O4.2) (g := (mkF mm_ 15 #[vr a] [])) rfl (B_ dk104)
   refine sp_ st5 ?_
   show Go_ T5 (mkF mm_ 18 #[vr a] [(.ref w_0)])
   have K6 : Keep h0 h1 [] := (K0.ext E1)
   obtain ⟨fs, hr, hrun, hended, hEnd⟩ := X5.leaveW hS1 (by rw [e5]; exact hk1) (v := some (.ref w_0)) (rN Bd.returns)
   refine ⟨_, _, ?_, hrun, hended, _, _, rfl, ?_, own_IB_mono (own_IB_warm I1 X5.warmed) (by intro t_ h_; first | exact h_ | exact List.mem_cons_of_mem _ h_ | (revert t_ h_; decide)), own_endMono hEnd (by decide) (by decide)⟩
   · jvm_step X5.here [X5.here.top, hx, (B_ dk105), X5.method', Bd.returns, Value.isRef, FieldType.isReference]
     first | (intro acts; rw [hr _ acts rfl rfl rfl]) | rw [hr _ _ rfl rfl rfl]
     exact Steps.refl _
   · show QrmEx1 Z a t cs al tl w_0 w_1 w_2 w_3 h0 n0 (some (.ref w_0)) T5.heap _
     rw [e5]
     exact ⟨(.ref w_0), rfl, N2, K6, ⟨fun _ => rfl, fun q_ => absurd (hq2.symm.trans q_) (by decide), fun q_ => absurd (hq2.symm.trans q_) (by decide), fun q_ => absurd (hq2.symm.trans q_) (by decide), fun q0_ q1_ q2_ q3_ => absurd hq2 q0_⟩⟩
 · skip
   have N2 := Fr.app N0 (Fr.nil n0)
   refine jp_ st2 ?_
   refine sp_ (fun t_ k_ => XS.ifYes X2.here hx rfl (pc0 := 12) (pc' := 19) rfl (B_ dk103) rfl ((if0 _ _).trans (teq (by decide : (0 : Int32) = (0 : Int32))).1) (by decide) (by decide) k_) ?_
   show Go_ T2 (mkF mm_ 19 #[vr a] [])
   refine sp_ (fun t_ k_ => XS.aloadN X2.here hx rfl (B_ dk106) rfl rfl k_) ?_
   show Go_ T2 (mkF mm_ 20 #[vr a] [(.ref a)])
   refine sp_ (ldcAgain (s := ss_) (vm0 := T1.vm) X2 hx hZ1 hown1 (w_ hw 118 rfl) (Lit.stays (s := ss_) (vm0 := ss_.vm) hLt0 hS1.1) (g := (mkF mm_ 20 #[vr a] [(.ref a)])) rfl (B_ dk107)) ?_
   show Go_ T2 (mkF mm_ 22 #[vr a] [(.ref al), (.ref a)])
   have f9 : own_Str Z h1 al tl [(100 : Int32), (105 : Int32), (115 : Int32), (97 : Int32), (98 : Int32), (105 : Int32), (108 : Int32), (105 : Int32), (116 : Int32), (121 : Int32)] := (pr1.ext E1)
   obtain ⟨_, T8, Lc8, X8, hQ8, st8⟩ := own_cV X2 hx hZ1 hown1 (w_ hw 110 rfl) (w_ hw 99 rfl) (notFace_of_selects (args := #[]) (mvT hZ1 (w_ hw 101 rfl))) (w_ hw 101 rfl) (w_ hw 100 rfl) (by decide) (own_eqS (W := 0) hZ1 hw f3 f9 (G_cs.ext O4.2) G_cs0 (by decide) (by decide)) f3.1 (g := (mkF mm_ 22 #[vr a] [(.ref al), (.ref a)])) rfl hml.symm (argsL := [(.ref al)]) (rest := []) (lenOf pd_5 rfl) rfl (Nat.le_of_eq rfl) (B_ dk108) rfl Eh2 (by decide) (by decide)
   obtain ⟨⟨rfl, hq8⟩ | ⟨rfl, hq8⟩, rfl, Eh8⟩ := hQ8
   · skip
     have N8 := Fr.app N2 (Fr.nil n0)
     refine jp_ st8 ?_
     refine sp_ (fun t_ k_ => XS.ifNo X8.here hx rfl (B_ dk109) rfl ((if0 _ _).trans (feq (by decide : ¬ ((1 : Int32) = (0 : Int32)))).1) k_) ?_
     show Go_ T8 (mkF mm_ 28 #[vr a] [])
     obtain ⟨T10, X10, e10, st10⟩ := getS2 X8 hx hZ1 hown1 (host := "") (Or.inl (w_ hw 137 rfl)) Via.refl Eh8 (G_S2.ext O4.2) (g := (mkF mm_ 28 #[vr a] [])) rfl (B_ dk110)
     refine sp_ st10 ?_
     show Go_ T10 (mkF mm_ 31 #[vr a] [(.ref w_1)])
     have K11 : Keep h0 h1 [] := (K0.ext E1)
     obtain ⟨fs, hr, hrun, hended, hEnd⟩ := X10.leaveW hS1 (by rw [e10]; exact hk1) (v := some (.ref w_1)) (rN Bd.returns)
     refine ⟨_, _, ?_, hrun, hended, _, _, rfl, ?_, own_IB_mono (own_IB_warm I1 X10.warmed) (by intro t_ h_; first | exact h_ | exact List.mem_cons_of_mem _ h_ | (revert t_ h_; decide)), own_endMono hEnd (by decide) (by decide)⟩
     · jvm_step X10.here [X10.here.top, hx, (B_ dk111), X10.method', Bd.returns, Value.isRef, FieldType.isReference]
       first | (intro acts; rw [hr _ acts rfl rfl rfl]) | rw [hr _ _ rfl rfl rfl]
       exact Steps.refl _
     · show QrmEx1 Z a t cs al tl w_0 w_1 w_2 w_3 h0 n0 (some (.ref w_1)) T10.heap _
       rw [e10]
       exact ⟨(.ref w_1), rfl, N8, K11, ⟨fun q_ => absurd (hq8.symm.trans q_) (by decide), fun _ => rfl, fun q_ => absurd (hq8.symm.trans q_) (by decide), fun q_ => absurd (hq8.symm.trans q_) (by decide), fun q0_ q1_ q2_ q3_ => absurd hq8 q1_⟩⟩
   · skip
     have N8 := Fr.app N2 (Fr.nil n0)
     refine jp_ st8 ?_
     refine sp_ (fun t_ k_ => XS.ifYes X8.here hx rfl (pc0 := 25) (pc' := 32) rfl (B_ dk109) rfl ((if0 _ _).trans (teq (by decide : (0 : Int32) = (0 : Int32))).1) (by decide) (by decide) k_) ?_
     show Go_ T8 (mkF mm_ 32 #[vr a] [])
     refine sp_ (fun t_ k_ => XS.aloadN X8.here hx rfl (B_ dk112) rfl rfl k_) ?_
     show Go_ T8 (mkF mm_ 33 #[vr a] [(.ref a)])
     obtain ⟨a12, T12, h12, k12, t12, kb12, X12, e12, E12, hS12, hk12, hZ12, hown12, Ex12, Fc12, Fv12, V12, -, -, I12, L12, st12⟩ := ldcSVL (s := ss_) (vm0 := T1.vm) X8 hx hZ1 hown1 (w_ hw 116 rfl) own_atoms_ Eh8 hS1 hk1 (by rw [hh]; exact (Fr.app (Fr.app (Fr.nil _) (Fr.nil _)) (Fr.nil _))) hkeep_ I1 (by first | assumption | decide) (G_h_com_example_vestwright_vestwright_census_ReasonOfPinLaw_11) own_cw_ (vs := [(.int 114), (.int 101), (.int 116), (.int 105), (.int 114), (.int 101), (.int 109), (.int 101), (.int 110), (.int 116)]) (z := (10 : Int32)) ⟨by decide, rfl⟩ (by decide) (by decide) (g := (mkF mm_ 33 #[vr a] [(.ref a)])) rfl (B_ dk113) (n := 40) (by decide) (by decide) (by decide) (by decide)
     have Ls12 : own_Str Z h12 a12 t12 [(114 : Int32), (101 : Int32), (116 : Int32), (105 : Int32), (114 : Int32), (101 : Int32), (109 : Int32), (101 : Int32), (110 : Int32), (116 : Int32)] := ⟨Ex12, Fc12, Fv12, ⟨kb12, V12⟩, by decide, by decide⟩
     refine sp_ st12 ?_
     show Go_ T12 (mkF mm_ 35 #[vr a] [(.ref a12), (.ref a)])
     have f14 : own_Str Z h12 a t cs := (f3.ext E12)
     have O15 : Old Z n0 h12 := (O4.ext E12)
     obtain ⟨_, T13, Lc13, X13, hQ13, st13⟩ := own_cV X12 hx hZ12 hown12 (w_ hw 110 rfl) (w_ hw 99 rfl) (notFace_of_selects (args := #[]) (mvT hZ12 (w_ hw 101 rfl))) (w_ hw 101 rfl) (w_ hw 100 rfl) (by decide) (own_eqS (W := 0) hZ12 hw f14 Ls12 (G_cs.ext O15.2) G_cs0 (by decide) (by decide)) f14.1 (g := (mkF mm_ 35 #[vr a] [(.ref a12), (.ref a)])) rfl hml.symm (argsL := [(.ref a12)]) (rest := []) (lenOf pd_5 rfl) rfl (Nat.le_of_eq rfl) (B_ dk114) rfl e12 (by decide) (by decide)
     obtain ⟨⟨rfl, hq13⟩ | ⟨rfl, hq13⟩, rfl, Eh13⟩ := hQ13
     · skip
       have N13 := Fr.app N8 (Fr.nil n0)
       refine jp_ st13 ?_
       refine sp_ (fun t_ k_ => XS.ifNo X13.here hx rfl (B_ dk115) rfl ((if0 _ _).trans (feq (by decide : ¬ ((1 : Int32) = (0 : Int32)))).1) k_) ?_
       show Go_ T13 (mkF mm_ 41 #[vr a] [])
       obtain ⟨T16, X16, e16, st16⟩ := getS2 X13 hx hZ12 hown12 (host := "") (Or.inl (w_ hw 138 rfl)) Via.refl Eh13 (G_S3.ext O15.2) (g := (mkF mm_ 41 #[vr a] [])) rfl (B_ dk116)
       refine sp_ st16 ?_
       show Go_ T16 (mkF mm_ 44 #[vr a] [(.ref w_2)])
       have K17 : Keep h0 h12 [] := ((K0.ext E1).ext E12)
       obtain ⟨fs, hr, hrun, hended, hEnd⟩ := X16.leaveW hS12 (by rw [e16]; exact hk12) (v := some (.ref w_2)) (rN Bd.returns)
       refine ⟨_, _, ?_, hrun, hended, _, _, rfl, ?_, own_IB_mono (own_IB_warm I12 X16.warmed) (by intro t_ h_; first | exact h_ | exact List.mem_cons_of_mem _ h_ | (revert t_ h_; decide)), own_endMono hEnd (by decide) (by decide)⟩
       · jvm_step X16.here [X16.here.top, hx, (B_ dk117), X16.method', Bd.returns, Value.isRef, FieldType.isReference]
         first | (intro acts; rw [hr _ acts rfl rfl rfl]) | rw [hr _ _ rfl rfl rfl]
         exact Steps.refl _
       · show QrmEx1 Z a t cs al tl w_0 w_1 w_2 w_3 h0 n0 (some (.ref w_2)) T16.heap _
         rw [e16]
         exact ⟨(.ref w_2), rfl, N13, K17, ⟨fun q_ => absurd (hq13.symm.trans q_) (by decide), fun q_ => absurd (hq13.symm.trans q_) (by decide), fun _ => rfl, fun q_ => absurd (hq13.symm.trans q_) (by decide), fun q0_ q1_ q2_ q3_ => absurd hq13 q2_⟩⟩
     · skip
       have N13 := Fr.app N8 (Fr.nil n0)
       refine jp_ st13 ?_
       refine sp_ (fun t_ k_ => XS.ifYes X13.here hx rfl (pc0 := 38) (pc' := 45) rfl (B_ dk115) rfl ((if0 _ _).trans (teq (by decide : (0 : Int32) = (0 : Int32))).1) (by decide) (by decide) k_) ?_
       show Go_ T13 (mkF mm_ 45 #[vr a] [])
       refine sp_ (fun t_ k_ => XS.aloadN X13.here hx rfl (B_ dk118) rfl rfl k_) ?_
       show Go_ T13 (mkF mm_ 46 #[vr a] [(.ref a)])
       obtain ⟨a18, T18, h18, k18, t18, kb18, X18, e18, E18, hS18, hk18, hZ18, hown18, Ex18, Fc18, Fv18, V18, -, -, I18, L18, st18⟩ := ldcSVL (s := ss_) (vm0 := T12.vm) X13 hx hZ12 hown12 (w_ hw 115 rfl) own_atoms_ Eh13 hS12 hk12 (by rw [hh]; exact (Fr.app (Fr.app (Fr.app (Fr.nil _) (Fr.nil _)) (Fr.nil _)) (Fr.nil _))) hkeep_ I12 (by first | assumption | decide) (G_h_com_example_vestwright_vestwright_census_ReasonOfPinLaw_13) own_cw_ (vs := [(.int 111), (.int 116), (.int 104), (.int 101), (.int 114)]) (z := (5 : Int32)) ⟨by decide, rfl⟩ (by decide) (by decide) (g := (mkF mm_ 46 #[vr a] [(.ref a)])) rfl (B_ dk119) (n := 20) (by decide) (by decide) (by decide) (by decide)
       have Ls18 : own_Str Z h18 a18 t18 [(111 : Int32), (116 : Int32), (104 : Int32), (101 : Int32), (114 : Int32)] := ⟨Ex18, Fc18, Fv18, ⟨kb18, V18⟩, by decide, by decide⟩
       refine sp_ st18 ?_
       show Go_ T18 (mkF mm_ 48 #[vr a] [(.ref a18), (.ref a)])
       have f20 : own_Str Z h18 a t cs := (f14.ext E18)
       have O21 : Old Z n0 h18 := (O15.ext E18)
       obtain ⟨_, T19, Lc19, X19, hQ19, st19⟩ := own_cV X18 hx hZ18 hown18 (w_ hw 110 rfl) (w_ hw 99 rfl) (notFace_of_selects (args := #[]) (mvT hZ18 (w_ hw 101 rfl))) (w_ hw 101 rfl) (w_ hw 100 rfl) (by decide) (own_eqS (W := 0) hZ18 hw f20 Ls18 (G_cs.ext O21.2) G_cs0 (by decide) (by decide)) f20.1 (g := (mkF mm_ 48 #[vr a] [(.ref a18), (.ref a)])) rfl hml.symm (argsL := [(.ref a18)]) (rest := []) (lenOf pd_5 rfl) rfl (Nat.le_of_eq rfl) (B_ dk120) rfl e18 (by decide) (by decide)
       obtain ⟨⟨rfl, hq19⟩ | ⟨rfl, hq19⟩, rfl, Eh19⟩ := hQ19
       · skip
         have N19 := Fr.app N13 (Fr.nil n0)
         refine jp_ st19 ?_
         refine sp_ (fun t_ k_ => XS.ifNo X19.here hx rfl (B_ dk121) rfl ((if0 _ _).trans (feq (by decide : ¬ ((1 : Int32) = (0 : Int32)))).1) k_) ?_
         show Go_ T19 (mkF mm_ 54 #[vr a] [])
         obtain ⟨T22, X22, e22, st22⟩ := getS2 X19 hx hZ18 hown18 (host := "") (Or.inl (w_ hw 139 rfl)) Via.refl Eh19 (G_S4.ext O21.2) (g := (mkF mm_ 54 #[vr a] [])) rfl (B_ dk122)
         refine sp_ st22 ?_
         show Go_ T22 (mkF mm_ 57 #[vr a] [(.ref w_3)])
         have K23 : Keep h0 h18 [] := (((K0.ext E1).ext E12).ext E18)
         obtain ⟨fs, hr, hrun, hended, hEnd⟩ := X22.leaveW hS18 (by rw [e22]; exact hk18) (v := some (.ref w_3)) (rN Bd.returns)
         refine ⟨_, _, ?_, hrun, hended, _, _, rfl, ?_, own_IB_mono (own_IB_warm I18 X22.warmed) (by intro t_ h_; first | exact h_ | exact List.mem_cons_of_mem _ h_ | (revert t_ h_; decide)), own_endMono hEnd (by decide) (by decide)⟩
         · jvm_step X22.here [X22.here.top, hx, (B_ dk123), X22.method', Bd.returns, Value.isRef, FieldType.isReference]
           first | (intro acts; rw [hr _ acts rfl rfl rfl]) | rw [hr _ _ rfl rfl rfl]
           exact Steps.refl _
         · show QrmEx1 Z a t cs al tl w_0 w_1 w_2 w_3 h0 n0 (some (.ref w_3)) T22.heap _
           rw [e22]
           exact ⟨(.ref w_3), rfl, N19, K23, ⟨fun q_ => absurd (hq19.symm.trans q_) (by decide), fun q_ => absurd (hq19.symm.trans q_) (by decide), fun q_ => absurd (hq19.symm.trans q_) (by decide), fun _ => rfl, fun q0_ q1_ q2_ q3_ => absurd hq19 q3_⟩⟩
       · skip
         have N19 := Fr.app N13 (Fr.nil n0)
         refine jp_ st19 ?_
         refine sp_ (fun t_ k_ => XS.ifYes X19.here hx rfl (pc0 := 51) (pc' := 58) rfl (B_ dk121) rfl ((if0 _ _).trans (teq (by decide : (0 : Int32) = (0 : Int32))).1) (by decide) (by decide) k_) ?_
         show Go_ T19 (mkF mm_ 58 #[vr a] [])
         refine sp_ (fun t_ k_ => XS.aconstNull X19.here hx rfl (B_ dk124) k_) ?_
         show Go_ T19 (mkF mm_ 59 #[vr a] [.null])
         have K24 : Keep h0 h18 [] := (((K0.ext E1).ext E12).ext E18)
         obtain ⟨fs, hr, hrun, hended, hEnd⟩ := X19.leaveW hS18 (by rw [Eh19]; exact hk18) (v := some .null) (rN Bd.returns)
         refine ⟨_, _, ?_, hrun, hended, _, _, rfl, ?_, own_IB_mono (own_IB_warm I18 X19.warmed) (by intro t_ h_; first | exact h_ | exact List.mem_cons_of_mem _ h_ | (revert t_ h_; decide)), own_endMono hEnd (by decide) (by decide)⟩
         · jvm_step X19.here [X19.here.top, hx, (B_ dk125), X19.method', Bd.returns, Value.isRef, FieldType.isReference]
           first | (intro acts; rw [hr _ acts rfl rfl rfl]) | rw [hr _ _ rfl rfl rfl]
           exact Steps.refl _
         · show QrmEx1 Z a t cs al tl w_0 w_1 w_2 w_3 h0 n0 (some .null) T19.heap _
           rw [Eh19]
           exact ⟨.null, rfl, N19, K24, ⟨fun q_ => absurd q_ hq2, fun q_ => absurd q_ hq8, fun q_ => absurd q_ hq13, fun q_ => absurd q_ hq19, fun _ _ _ _ => rfl⟩⟩
theorem ef_rmEx2 (mm_ : MethodId) (a : Addr) : entryFrame mm_ #[(.ref a)] 1 = (mkF mm_ 0 #[vr a] []) := by first | (simp [entryFrame, mkF, argsToLocals, Value.category]; done) | rfl
def QrmEx2 (Z : State) (a : Addr) (t : Addr) (cs : List Int32) (al : Addr) (tl : Addr) (w_0 : Addr) (w_1 : Addr) (w_2 : Addr) (w_3 : Addr) (h0 : Heap) (n0 : Nat) (vv_ : Option Value) (hh_ : Heap) (LL_ : List Loc) : Prop := ∃ (v : Value), (vv_ = some v) ∧ (Fr n0 LL_) ∧ (Keep h0 hh_ []) ∧ (own_X cs v w_0 w_1 w_2 w_3)
theorem rmEx2 (l : Launch) (Z : State) (a0 : Array Value) (hw : own_Hw a0 Z) (ws : List Jvm.Cond) (a : Addr) (t : Addr) (cs : List Int32) (al : Addr) (tl : Addr) {zc : Int32} {fm : Value} {w_0 : Addr} {w_1 : Addr} {w_2 : Addr} {w_3 : Addr} {wV : Addr} {kV : ClassId} {s_0 : Addr} {t_0 : Addr} {s_1 : Addr} {t_1 : Addr} {s_2 : Addr} {t_2 : Addr} {s_3 : Addr} {t_3 : Addr} (h0 : Heap) (n0 : Nat) (O0 : Old Z n0 h0) (G_ : own_St Z zc fm w_0 w_1 w_2 w_3 wV kV s_0 t_0 s_1 t_1 s_2 t_2 s_3 t_3) (pr0 : own_Str Z h0 a t cs) (pr1 : own_Str Z h0 al tl [(114 : Int32), (101 : Int32), (116 : Int32), (105 : Int32), (114 : Int32), (101 : Int32), (109 : Int32), (101 : Int32), (110 : Int32), (116 : Int32)]) :
 MetFree l ym0 (head1 (Jvm.Cond.code ym0 J9 1 (some (.object sc2)) :: ws) (rm_ 2 6 92 28)) (fun aa_ UU_ => aa_ = #[(.ref a)] ∧ Z.Warmed39 UU_.vm ∧ UU_.heap = h0 ∧ (IB Z UU_.vm ["retirement", ""] ∧ Lit (Z.setVm UU_.vm) sc1 11 al)) (fun _ _ _ _ _ => True) (fun _ UU_ oo_ UV_ => ∃ vv_ LL_, oo_ = .returned vv_ ∧ QrmEx2 Z a t cs al tl w_0 w_1 w_2 w_3 h0 n0 vv_ UV_.heap LL_ ∧ IB Z UV_.vm ["death", "disability", "retirement", "other", ""] ∧ ReturnedEndW UU_ oo_ UV_ LL_ (rm_ 2 6 92 28).cells (rm_ 2 6 92 28).slots) := by
 refine MetFree.of_bodySF (plainFor_of_name pn_com_example_vestwright_vestwright_census_ReasonOfPinLaw) hisR ?_
 intro pp_ ee_ ss_ mm_ args_ bb_ me_ cc_ s₁ Bd hml0 hP hK
 obtain ⟨rfl, hZ, hh, ⟨hI, hLt0⟩⟩ := hP
 have hx := Bd.exec
 have hby := Bd.bytes; have B_ {q_ : Nat} {r_ : _} (h_ : decode _ q_ = r_) := hb hby h_
 have hml : cc_.maxLocals = 1 := hml0
 have hown : ss_.vm.findClass sc1 = some mm_.cls := findClass_of_methodNamed Bd.named
 have hnm := (name_of_methodNamed Bd.named Bd.method).1
 have X0 : Stand pp_ l ee_ (rm_ 2 6 92 28) ss_ mm_ #[(.ref a)] bb_ me_ cc_ s₁ [] 0 0 := Stand.of_body Bd
 have e0 : s₁.heap = h0 := by rw [← hh, Bd.state]; rfl
 have N0 := Fr.nil n0
 have X0 : Stand pp_ l ee_ _ (ss_.setVm ss_.vm) mm_ _ bb_ me_ cc_ s₁ [] 0 0 := X0
 have hZ : Z.Warmed39 (ss_.setVm ss_.vm).vm := hZ
 have hown : (ss_.setVm ss_.vm).vm.findClass sc1 = some mm_.cls := hown
 have hS0 : ss_.Since ss_.vm 0 := (State.WarmedH.refl ss_).since 0
 have hkeep_ : ∀ (b : Addr) (cl : Cell), Z.heap[b]? = some cl → ss_.heap[b]? = some cl := by rw [hh]; exact O0.2.2
 have own_atoms_ : ∀ a ∈ Bundle.stringAtoms, a.before a0 Z = true := fun d hd => hw d ((by decide +kernel : ∀ d ∈ Bundle.stringAtoms, d ∈ tables_1) d hd)
 show own_Go pp_ ee_ bb_ _ s₁ (entryFrame mm_ #[(.ref a)] 1)
 refine own_cast (ef_rmEx2 mm_ a) ?_
 have Z0 : n0 ≤ h0.size := by have q := O0.2.1; rw [O0.1] at q; exact q
 have K0 : Keep h0 h0 [] := Keep.refl _ _
 obtain ⟨G_cs, G_cs0, G_fm, G_fr, G_S1, G_S2, G_S3, G_S4, G_S5, G_E6, G_E7, G_E8, G_E9, G_E10, G_V11, G_F12, G_T13, G_F17, G_T18, G_F22, G_T23, G_F27, G_T28, G_cw, G_h_com_example_vestwright_vestwright_census_ReasonOfPinLaw_7, G_h_com_example_vestwright_vestwright_census_ReasonOfPinLaw_9, G_h_com_example_vestwright_vestwright_census_ReasonOfPinLaw_11, G_h_com_example_vestwright_vestwright_census_ReasonOfPinLaw_13, G_h_java_lang_String_7⟩ := id G_
 have own_cw_ : Jvm.Lit.compactW.before a0 Z = true := G_cw
 show Go_ s₁ (mkF mm_ 0 #[vr a] [])
 refine sp_ (fun t_ k_ => XS.aloadN X0.here hx rfl (B_ dk96) rfl rfl k_) ?_
 show Go_ s₁ (mkF mm_ 1 #[vr a] [(.ref a)])
 refine sp_ (fun t_ k_ => XS.ifnonnullYes X0.here hx rfl (pc0 := 1) (pc' := 6) rfl (B_ dk97) rfl (by decide) (by decide) (XS.aloadN X0.here hx rfl (B_ dk100) rfl rfl k_)) ?_
 show Go_ s₁ (mkF mm_ 7 #[vr a] [(.ref a)])
 obtain ⟨a1, T1, h1, k1, t1, kb1, X1, e1, E1, hS1, hk1, hZ1, hown1, Ex1, Fc1, Fv1, V1, -, -, I1, L1, st1⟩ := ldcSVL (s := ss_) (vm0 := ss_.vm) X0 hx hZ hown (w_ hw 0 rfl) own_atoms_ e0 hS0 (Nat.zero_le _) (by rw [hh]; exact (Fr.nil _)) hkeep_ hI (by first | assumption | decide) (G_h_com_example_vestwright_vestwright_census_ReasonOfPinLaw_7) own_cw_ (vs := [(.int 100), (.int 101), (.int 97), (.int 116), (.int 104)]) (z := (5 : Int32)) ⟨by decide, rfl⟩ (by decide) (by decide) (g := (mkF mm_ 7 #[vr a] [(.ref a)])) rfl (B_ dk101) (n := 20) (by decide) (by decide) (by decide) (by decide)
 have Ls1 : own_Str Z h1 a1 t1 [(100 : Int32), (101 : Int32), (97 : Int32), (116 : Int32), (104 : Int32)] := ⟨Ex1, Fc1, Fv1, ⟨kb1, V1⟩, by decide, by decide⟩
 refine sp_ st1 ?_
 show Go_ T1 (mkF mm_ 9 #[vr a] [(.ref a1), (.ref a)])
 have f3 : own_Str Z h1 a t cs := (pr0.ext E1)
 have O4 : Old Z n0 h1 := (O0.ext E1)
 obtain ⟨_, T2, Lc2, X2, hQ2, st2⟩ := own_cV X1 hx hZ1 hown1 (w_ hw 110 rfl) (w_ hw 99 rfl) (notFace_of_selects (args := #[]) (mvT hZ1 (w_ hw 101 rfl))) (w_ hw 101 rfl) (w_ hw 100 rfl) (by decide) (own_eqS (W := 0) hZ1 hw f3 Ls1 (G_cs.ext O4.2) G_cs0 (by decide) (by decide)) f3.1 (g := (mkF mm_ 9 #[vr a] [(.ref a1), (.ref a)])) rfl hml.symm (argsL := [(.ref a1)]) (rest := []) (lenOf pd_5 rfl) rfl (Nat.le_of_eq rfl) (B_ dk102) rfl e1 (by decide) (by decide)
 obtain ⟨⟨rfl, hq2⟩ | ⟨rfl, hq2⟩, rfl, Eh2⟩ := hQ2
 · skip
   have N2 := Fr.app N0 (Fr.nil n0)
   refine jp_ st2 ?_
   refine sp_ (fun t_ k_ => XS.ifNo X2.here hx rfl (B_ dk103) rfl ((if0 _ _).trans (feq (by decide : ¬ ((1 : Int32) = (0 : Int32)))).1) k_) ?_
   show Go_ T2 (mkF mm_ 15 #[vr a] [])
   obtain ⟨T5, X5, e5, st5⟩ := getS2 X2 hx hZ1 hown1 (host := "") (Or.inl (w_ hw 111 rfl)) Via.refl Eh2 (G_S1.ext O4.2) (g := (mkF mm_ 15 #[vr a] [])) rfl (B_ dk104)
   refine sp_ st5 ?_
   show Go_ T5 (mkF mm_ 18 #[vr a] [(.ref w_0)])
   have K6 : Keep h0 h1 [] := (K0.ext E1)
   obtain ⟨fs, hr, hrun, hended, hEnd⟩ := X5.leaveW hS1 (by rw [e5]; exact hk1) (v := some (.ref w_0)) (rN Bd.returns)
   refine ⟨_, _, ?_, hrun, hended, _, _, rfl, ?_, own_IB_mono (own_IB_warm I1 X5.warmed) (by intro t_ h_; first | exact h_ | exact List.mem_cons_of_mem _ h_ | (revert t_ h_; decide)), own_endMono hEnd (by decide) (by decide)⟩
   · jvm_step X5.here [X5.here.top, hx, (B_ dk105), X5.method', Bd.returns, Value.isRef, FieldType.isReference]
     first | (intro acts; rw [hr _ acts rfl rfl rfl]) | rw [hr _ _ rfl rfl rfl]
     exact Steps.refl _
   · show QrmEx2 Z a t cs al tl w_0 w_1 w_2 w_3 h0 n0 (some (.ref w_0)) T5.heap _
     rw [e5]
     exact ⟨(.ref w_0), rfl, N2, K6, ⟨fun _ => rfl, fun q_ => absurd (hq2.symm.trans q_) (by decide), fun q_ => absurd (hq2.symm.trans q_) (by decide), fun q_ => absurd (hq2.symm.trans q_) (by decide), fun q0_ q1_ q2_ q3_ => absurd hq2 q0_⟩⟩
 · skip
   have N2 := Fr.app N0 (Fr.nil n0)
   refine jp_ st2 ?_
   refine sp_ (fun t_ k_ => XS.ifYes X2.here hx rfl (pc0 := 12) (pc' := 19) rfl (B_ dk103) rfl ((if0 _ _).trans (teq (by decide : (0 : Int32) = (0 : Int32))).1) (by decide) (by decide) k_) ?_
   show Go_ T2 (mkF mm_ 19 #[vr a] [])
   refine sp_ (fun t_ k_ => XS.aloadN X2.here hx rfl (B_ dk106) rfl rfl k_) ?_
   show Go_ T2 (mkF mm_ 20 #[vr a] [(.ref a)])
   obtain ⟨a7, T7, h7, k7, t7, kb7, X7, e7, E7, hS7, hk7, hZ7, hown7, Ex7, Fc7, Fv7, V7, -, -, I7, L7, st7⟩ := ldcSVL (s := ss_) (vm0 := T1.vm) X2 hx hZ1 hown1 (w_ hw 118 rfl) own_atoms_ Eh2 hS1 hk1 (by rw [hh]; exact (Fr.app (Fr.nil _) (Fr.nil _))) hkeep_ I1 (by first | assumption | decide) (G_h_com_example_vestwright_vestwright_census_ReasonOfPinLaw_9) own_cw_ (vs := [(.int 100), (.int 105), (.int 115), (.int 97), (.int 98), (.int 105), (.int 108), (.int 105), (.int 116), (.int 121)]) (z := (10 : Int32)) ⟨by decide, rfl⟩ (by decide) (by decide) (g := (mkF mm_ 20 #[vr a] [(.ref a)])) rfl (B_ dk107) (n := 40) (by decide) (by decide) (by decide) (by decide)
   have Ls7 : own_Str Z h7 a7 t7 [(100 : Int32), (105 : Int32), (115 : Int32), (97 : Int32), (98 : Int32), (105 : Int32), (108 : Int32), (105 : Int32), (116 : Int32), (121 : Int32)] := ⟨Ex7, Fc7, Fv7, ⟨kb7, V7⟩, by decide, by decide⟩
   refine sp_ st7 ?_
   show Go_ T7 (mkF mm_ 22 #[vr a] [(.ref a7), (.ref a)])
   have f9 : own_Str Z h7 a t cs := (f3.ext E7)
   have O10 : Old Z n0 h7 := (O4.ext E7)
   obtain ⟨_, T8, Lc8, X8, hQ8, st8⟩ := own_cV X7 hx hZ7 hown7 (w_ hw 110 rfl) (w_ hw 99 rfl) (notFace_of_selects (args := #[]) (mvT hZ7 (w_ hw 101 rfl))) (w_ hw 101 rfl) (w_ hw 100 rfl) (by decide) (own_eqS (W := 0) hZ7 hw f9 Ls7 (G_cs.ext O10.2) G_cs0 (by decide) (by decide)) f9.1 (g := (mkF mm_ 22 #[vr a] [(.ref a7), (.ref a)])) rfl hml.symm (argsL := [(.ref a7)]) (rest := []) (lenOf pd_5 rfl) rfl (Nat.le_of_eq rfl) (B_ dk108) rfl e7 (by decide) (by decide)
   obtain ⟨⟨rfl, hq8⟩ | ⟨rfl, hq8⟩, rfl, Eh8⟩ := hQ8
   · skip
     have N8 := Fr.app N2 (Fr.nil n0)
     refine jp_ st8 ?_
     refine sp_ (fun t_ k_ => XS.ifNo X8.here hx rfl (B_ dk109) rfl ((if0 _ _).trans (feq (by decide : ¬ ((1 : Int32) = (0 : Int32)))).1) k_) ?_
     show Go_ T8 (mkF mm_ 28 #[vr a] [])
     obtain ⟨T11, X11, e11, st11⟩ := getS2 X8 hx hZ7 hown7 (host := "") (Or.inl (w_ hw 137 rfl)) Via.refl Eh8 (G_S2.ext O10.2) (g := (mkF mm_ 28 #[vr a] [])) rfl (B_ dk110)
     refine sp_ st11 ?_
     show Go_ T11 (mkF mm_ 31 #[vr a] [(.ref w_1)])
     have K12 : Keep h0 h7 [] := ((K0.ext E1).ext E7)
     obtain ⟨fs, hr, hrun, hended, hEnd⟩ := X11.leaveW hS7 (by rw [e11]; exact hk7) (v := some (.ref w_1)) (rN Bd.returns)
     refine ⟨_, _, ?_, hrun, hended, _, _, rfl, ?_, own_IB_mono (own_IB_warm I7 X11.warmed) (by intro t_ h_; first | exact h_ | exact List.mem_cons_of_mem _ h_ | (revert t_ h_; decide)), own_endMono hEnd (by decide) (by decide)⟩
     · jvm_step X11.here [X11.here.top, hx, (B_ dk111), X11.method', Bd.returns, Value.isRef, FieldType.isReference]
       first | (intro acts; rw [hr _ acts rfl rfl rfl]) | rw [hr _ _ rfl rfl rfl]
       exact Steps.refl _
     · show QrmEx2 Z a t cs al tl w_0 w_1 w_2 w_3 h0 n0 (some (.ref w_1)) T11.heap _
       rw [e11]
       exact ⟨(.ref w_1), rfl, N8, K12, ⟨fun q_ => absurd (hq8.symm.trans q_) (by decide), fun _ => rfl, fun q_ => absurd (hq8.symm.trans q_) (by decide), fun q_ => absurd (hq8.symm.trans q_) (by decide), fun q0_ q1_ q2_ q3_ => absurd hq8 q1_⟩⟩
   · skip
     have N8 := Fr.app N2 (Fr.nil n0)
     refine jp_ st8 ?_
     refine sp_ (fun t_ k_ => XS.ifYes X8.here hx rfl (pc0 := 25) (pc' := 32) rfl (B_ dk109) rfl ((if0 _ _).trans (teq (by decide : (0 : Int32) = (0 : Int32))).1) (by decide) (by decide) k_) ?_
     show Go_ T8 (mkF mm_ 32 #[vr a] [])
     refine sp_ (fun t_ k_ => XS.aloadN X8.here hx rfl (B_ dk112) rfl rfl k_) ?_
     show Go_ T8 (mkF mm_ 33 #[vr a] [(.ref a)])
     refine sp_ (ldcAgain (s := ss_) (vm0 := T7.vm) X8 hx hZ7 hown7 (w_ hw 116 rfl) (Lit.stays (s := ss_) (vm0 := ss_.vm) hLt0 hS7.1) (g := (mkF mm_ 33 #[vr a] [(.ref a)])) rfl (B_ dk113)) ?_
     show Go_ T8 (mkF mm_ 35 #[vr a] [(.ref al), (.ref a)])
     have f15 : own_Str Z h7 al tl [(114 : Int32), (101 : Int32), (116 : Int32), (105 : Int32), (114 : Int32), (101 : Int32), (109 : Int32), (101 : Int32), (110 : Int32), (116 : Int32)] := ((pr1.ext E1).ext E7)
     obtain ⟨_, T14, Lc14, X14, hQ14, st14⟩ := own_cV X8 hx hZ7 hown7 (w_ hw 110 rfl) (w_ hw 99 rfl) (notFace_of_selects (args := #[]) (mvT hZ7 (w_ hw 101 rfl))) (w_ hw 101 rfl) (w_ hw 100 rfl) (by decide) (own_eqS (W := 0) hZ7 hw f9 f15 (G_cs.ext O10.2) G_cs0 (by decide) (by decide)) f9.1 (g := (mkF mm_ 35 #[vr a] [(.ref al), (.ref a)])) rfl hml.symm (argsL := [(.ref al)]) (rest := []) (lenOf pd_5 rfl) rfl (Nat.le_of_eq rfl) (B_ dk114) rfl Eh8 (by decide) (by decide)
     obtain ⟨⟨rfl, hq14⟩ | ⟨rfl, hq14⟩, rfl, Eh14⟩ := hQ14
     · skip
       have N14 := Fr.app N8 (Fr.nil n0)
       refine jp_ st14 ?_
       refine sp_ (fun t_ k_ => XS.ifNo X14.here hx rfl (B_ dk115) rfl ((if0 _ _).trans (feq (by decide : ¬ ((1 : Int32) = (0 : Int32)))).1) k_) ?_
       show Go_ T14 (mkF mm_ 41 #[vr a] [])
       obtain ⟨T16, X16, e16, st16⟩ := getS2 X14 hx hZ7 hown7 (host := "") (Or.inl (w_ hw 138 rfl)) Via.refl Eh14 (G_S3.ext O10.2) (g := (mkF mm_ 41 #[vr a] [])) rfl (B_ dk116)
       refine sp_ st16 ?_
       show Go_ T16 (mkF mm_ 44 #[vr a] [(.ref w_2)])
       have K17 : Keep h0 h7 [] := ((K0.ext E1).ext E7)
       obtain ⟨fs, hr, hrun, hended, hEnd⟩ := X16.leaveW hS7 (by rw [e16]; exact hk7) (v := some (.ref w_2)) (rN Bd.returns)
       refine ⟨_, _, ?_, hrun, hended, _, _, rfl, ?_, own_IB_mono (own_IB_warm I7 X16.warmed) (by intro t_ h_; first | exact h_ | exact List.mem_cons_of_mem _ h_ | (revert t_ h_; decide)), own_endMono hEnd (by decide) (by decide)⟩
       · jvm_step X16.here [X16.here.top, hx, (B_ dk117), X16.method', Bd.returns, Value.isRef, FieldType.isReference]
         first | (intro acts; rw [hr _ acts rfl rfl rfl]) | rw [hr _ _ rfl rfl rfl]
         exact Steps.refl _
       · show QrmEx2 Z a t cs al tl w_0 w_1 w_2 w_3 h0 n0 (some (.ref w_2)) T16.heap _
         rw [e16]
         exact ⟨(.ref w_2), rfl, N14, K17, ⟨fun q_ => absurd (hq14.symm.trans q_) (by decide), fun q_ => absurd (hq14.symm.trans q_) (by decide), fun _ => rfl, fun q_ => absurd (hq14.symm.trans q_) (by decide), fun q0_ q1_ q2_ q3_ => absurd hq14 q2_⟩⟩
     · skip
       have N14 := Fr.app N8 (Fr.nil n0)
       refine jp_ st14 ?_
       refine sp_ (fun t_ k_ => XS.ifYes X14.here hx rfl (pc0 := 38) (pc' := 45) rfl (B_ dk115) rfl ((if0 _ _).trans (teq (by decide : (0 : Int32) = (0 : Int32))).1) (by decide) (by decide) k_) ?_
       show Go_ T14 (mkF mm_ 45 #[vr a] [])
       refine sp_ (fun t_ k_ => XS.aloadN X14.here hx rfl (B_ dk118) rfl rfl k_) ?_
       show Go_ T14 (mkF mm_ 46 #[vr a] [(.ref a)])
       obtain ⟨a18, T18, h18, k18, t18, kb18, X18, e18, E18, hS18, hk18, hZ18, hown18, Ex18, Fc18, Fv18, V18, -, -, I18, L18, st18⟩ := ldcSVL (s := ss_) (vm0 := T7.vm) X14 hx hZ7 hown7 (w_ hw 115 rfl) own_atoms_ Eh14 hS7 hk7 (by rw [hh]; exact (Fr.app (Fr.app (Fr.app (Fr.nil _) (Fr.nil _)) (Fr.nil _)) (Fr.nil _))) hkeep_ I7 (by first | assumption | decide) (G_h_com_example_vestwright_vestwright_census_ReasonOfPinLaw_13) own_cw_ (vs := [(.int 111), (.int 116), (.int 104), (.int 101), (.int 114)]) (z := (5 : Int32)) ⟨by decide, rfl⟩ (by decide) (by decide) (g := (mkF mm_ 46 #[vr a] [(.ref a)])) rfl (B_ dk119) (n := 20) (by decide) (by decide) (by decide) (by decide)
       have Ls18 : own_Str Z h18 a18 t18 [(111 : Int32), (116 : Int32), (104 : Int32), (101 : Int32), (114 : Int32)] := ⟨Ex18, Fc18, Fv18, ⟨kb18, V18⟩, by decide, by decide⟩
       refine sp_ st18 ?_
       show Go_ T18 (mkF mm_ 48 #[vr a] [(.ref a18), (.ref a)])
       have f20 : own_Str Z h18 a t cs := (f9.ext E18)
       have O21 : Old Z n0 h18 := (O10.ext E18)
       obtain ⟨_, T19, Lc19, X19, hQ19, st19⟩ := own_cV X18 hx hZ18 hown18 (w_ hw 110 rfl) (w_ hw 99 rfl) (notFace_of_selects (args := #[]) (mvT hZ18 (w_ hw 101 rfl))) (w_ hw 101 rfl) (w_ hw 100 rfl) (by decide) (own_eqS (W := 0) hZ18 hw f20 Ls18 (G_cs.ext O21.2) G_cs0 (by decide) (by decide)) f20.1 (g := (mkF mm_ 48 #[vr a] [(.ref a18), (.ref a)])) rfl hml.symm (argsL := [(.ref a18)]) (rest := []) (lenOf pd_5 rfl) rfl (Nat.le_of_eq rfl) (B_ dk120) rfl e18 (by decide) (by decide)
       obtain ⟨⟨rfl, hq19⟩ | ⟨rfl, hq19⟩, rfl, Eh19⟩ := hQ19
       · skip
         have N19 := Fr.app N14 (Fr.nil n0)
         refine jp_ st19 ?_
         refine sp_ (fun t_ k_ => XS.ifNo X19.here hx rfl (B_ dk121) rfl ((if0 _ _).trans (feq (by decide : ¬ ((1 : Int32) = (0 : Int32)))).1) k_) ?_
         show Go_ T19 (mkF mm_ 54 #[vr a] [])
         obtain ⟨T22, X22, e22, st22⟩ := getS2 X19 hx hZ18 hown18 (host := "") (Or.inl (w_ hw 139 rfl)) Via.refl Eh19 (G_S4.ext O21.2) (g := (mkF mm_ 54 #[vr a] [])) rfl (B_ dk122)
         refine sp_ st22 ?_
         show Go_ T22 (mkF mm_ 57 #[vr a] [(.ref w_3)])
         have K23 : Keep h0 h18 [] := (((K0.ext E1).ext E7).ext E18)
         obtain ⟨fs, hr, hrun, hended, hEnd⟩ := X22.leaveW hS18 (by rw [e22]; exact hk18) (v := some (.ref w_3)) (rN Bd.returns)
         refine ⟨_, _, ?_, hrun, hended, _, _, rfl, ?_, own_IB_mono (own_IB_warm I18 X22.warmed) (by intro t_ h_; first | exact h_ | exact List.mem_cons_of_mem _ h_ | (revert t_ h_; decide)), own_endMono hEnd (by decide) (by decide)⟩
         · jvm_step X22.here [X22.here.top, hx, (B_ dk123), X22.method', Bd.returns, Value.isRef, FieldType.isReference]
           first | (intro acts; rw [hr _ acts rfl rfl rfl]) | rw [hr _ _ rfl rfl rfl]
           exact Steps.refl _
         · show QrmEx2 Z a t cs al tl w_0 w_1 w_2 w_3 h0 n0 (some (.ref w_3)) T22.heap _
           rw [e22]
           exact ⟨(.ref w_3), rfl, N19, K23, ⟨fun q_ => absurd (hq19.symm.trans q_) (by decide), fun q_ => absurd (hq19.symm.trans q_) (by decide), fun q_ => absurd (hq19.symm.trans q_) (by decide), fun _ => rfl, fun q0_ q1_ q2_ q3_ => absurd hq19 q3_⟩⟩
       · skip
         have N19 := Fr.app N14 (Fr.nil n0)
         refine jp_ st19 ?_
         refine sp_ (fun t_ k_ => XS.ifYes X19.here hx rfl (pc0 := 51) (pc' := 58) rfl (B_ dk121) rfl ((if0 _ _).trans (teq (by decide : (0 : Int32) = (0 : Int32))).1) (by decide) (by decide) k_) ?_
         show Go_ T19 (mkF mm_ 58 #[vr a] [])
         refine sp_ (fun t_ k_ => XS.aconstNull X19.here hx rfl (B_ dk124) k_) ?_
         show Go_ T19 (mkF mm_ 59 #[vr a] [.null])
         have K24 : Keep h0 h18 [] := (((K0.ext E1).ext E7).ext E18)
         obtain ⟨fs, hr, hrun, hended, hEnd⟩ := X19.leaveW hS18 (by rw [Eh19]; exact hk18) (v := some .null) (rN Bd.returns)
         refine ⟨_, _, ?_, hrun, hended, _, _, rfl, ?_, own_IB_mono (own_IB_warm I18 X19.warmed) (by intro t_ h_; first | exact h_ | exact List.mem_cons_of_mem _ h_ | (revert t_ h_; decide)), own_endMono hEnd (by decide) (by decide)⟩
         · jvm_step X19.here [X19.here.top, hx, (B_ dk125), X19.method', Bd.returns, Value.isRef, FieldType.isReference]
           first | (intro acts; rw [hr _ acts rfl rfl rfl]) | rw [hr _ _ rfl rfl rfl]
           exact Steps.refl _
         · show QrmEx2 Z a t cs al tl w_0 w_1 w_2 w_3 h0 n0 (some .null) T19.heap _
           rw [Eh19]
           exact ⟨.null, rfl, N19, K24, ⟨fun q_ => absurd q_ hq2, fun q_ => absurd q_ hq8, fun q_ => absurd q_ hq14, fun q_ => absurd q_ hq19, fun _ _ _ _ => rfl⟩⟩
theorem ef_rmEx3 (mm_ : MethodId) (a : Addr) : entryFrame mm_ #[(.ref a)] 1 = (mkF mm_ 0 #[vr a] []) := by first | (simp [entryFrame, mkF, argsToLocals, Value.category]; done) | rfl
def QrmEx3 (Z : State) (a : Addr) (t : Addr) (cs : List Int32) (al : Addr) (tl : Addr) (w_0 : Addr) (w_1 : Addr) (w_2 : Addr) (w_3 : Addr) (h0 : Heap) (n0 : Nat) (vv_ : Option Value) (hh_ : Heap) (LL_ : List Loc) : Prop := ∃ (v : Value), (vv_ = some v) ∧ (Fr n0 LL_) ∧ (Keep h0 hh_ []) ∧ (own_X cs v w_0 w_1 w_2 w_3)
theorem rmEx3 (l : Launch) (Z : State) (a0 : Array Value) (hw : own_Hw a0 Z) (ws : List Jvm.Cond) (a : Addr) (t : Addr) (cs : List Int32) (al : Addr) (tl : Addr) {zc : Int32} {fm : Value} {w_0 : Addr} {w_1 : Addr} {w_2 : Addr} {w_3 : Addr} {wV : Addr} {kV : ClassId} {s_0 : Addr} {t_0 : Addr} {s_1 : Addr} {t_1 : Addr} {s_2 : Addr} {t_2 : Addr} {s_3 : Addr} {t_3 : Addr} (h0 : Heap) (n0 : Nat) (O0 : Old Z n0 h0) (G_ : own_St Z zc fm w_0 w_1 w_2 w_3 wV kV s_0 t_0 s_1 t_1 s_2 t_2 s_3 t_3) (pr0 : own_Str Z h0 a t cs) (pr1 : own_Str Z h0 al tl [(111 : Int32), (116 : Int32), (104 : Int32), (101 : Int32), (114 : Int32)]) :
 MetFree l ym0 (head1 (Jvm.Cond.code ym0 J9 1 (some (.object sc2)) :: ws) (rm_ 2 6 112 28)) (fun aa_ UU_ => aa_ = #[(.ref a)] ∧ Z.Warmed39 UU_.vm ∧ UU_.heap = h0 ∧ (IB Z UU_.vm ["other", ""] ∧ Lit (Z.setVm UU_.vm) sc1 13 al)) (fun _ _ _ _ _ => True) (fun _ UU_ oo_ UV_ => ∃ vv_ LL_, oo_ = .returned vv_ ∧ QrmEx3 Z a t cs al tl w_0 w_1 w_2 w_3 h0 n0 vv_ UV_.heap LL_ ∧ IB Z UV_.vm ["death", "disability", "retirement", "other", ""] ∧ ReturnedEndW UU_ oo_ UV_ LL_ (rm_ 2 6 112 28).cells (rm_ 2 6 112 28).slots) := by
 refine MetFree.of_bodySF (plainFor_of_name pn_com_example_vestwright_vestwright_census_ReasonOfPinLaw) hisR ?_
 intro pp_ ee_ ss_ mm_ args_ bb_ me_ cc_ s₁ Bd hml0 hP hK
 obtain ⟨rfl, hZ, hh, ⟨hI, hLt0⟩⟩ := hP
 have hx := Bd.exec
 have hby := Bd.bytes; have B_ {q_ : Nat} {r_ : _} (h_ : decode _ q_ = r_) := hb hby h_
 have hml : cc_.maxLocals = 1 := hml0
 have hown : ss_.vm.findClass sc1 = some mm_.cls := findClass_of_methodNamed Bd.named
 have hnm := (name_of_methodNamed Bd.named Bd.method).1
 have X0 : Stand pp_ l ee_ (rm_ 2 6 112 28) ss_ mm_ #[(.ref a)] bb_ me_ cc_ s₁ [] 0 0 := Stand.of_body Bd
 have e0 : s₁.heap = h0 := by rw [← hh, Bd.state]; rfl
 have N0 := Fr.nil n0
 have X0 : Stand pp_ l ee_ _ (ss_.setVm ss_.vm) mm_ _ bb_ me_ cc_ s₁ [] 0 0 := X0
 have hZ : Z.Warmed39 (ss_.setVm ss_.vm).vm := hZ
 have hown : (ss_.setVm ss_.vm).vm.findClass sc1 = some mm_.cls := hown
 have hS0 : ss_.Since ss_.vm 0 := (State.WarmedH.refl ss_).since 0
 have hkeep_ : ∀ (b : Addr) (cl : Cell), Z.heap[b]? = some cl → ss_.heap[b]? = some cl := by rw [hh]; exact O0.2.2
 have own_atoms_ : ∀ a ∈ Bundle.stringAtoms, a.before a0 Z = true := fun d hd => hw d ((by decide +kernel : ∀ d ∈ Bundle.stringAtoms, d ∈ tables_1) d hd)
 show own_Go pp_ ee_ bb_ _ s₁ (entryFrame mm_ #[(.ref a)] 1)
 refine own_cast (ef_rmEx3 mm_ a) ?_
 have Z0 : n0 ≤ h0.size := by have q := O0.2.1; rw [O0.1] at q; exact q
 have K0 : Keep h0 h0 [] := Keep.refl _ _
 obtain ⟨G_cs, G_cs0, G_fm, G_fr, G_S1, G_S2, G_S3, G_S4, G_S5, G_E6, G_E7, G_E8, G_E9, G_E10, G_V11, G_F12, G_T13, G_F17, G_T18, G_F22, G_T23, G_F27, G_T28, G_cw, G_h_com_example_vestwright_vestwright_census_ReasonOfPinLaw_7, G_h_com_example_vestwright_vestwright_census_ReasonOfPinLaw_9, G_h_com_example_vestwright_vestwright_census_ReasonOfPinLaw_11, G_h_com_example_vestwright_vestwright_census_ReasonOfPinLaw_13, G_h_java_lang_String_7⟩ := id G_
 have own_cw_ : Jvm.Lit.compactW.before a0 Z = true := G_cw
 show Go_ s₁ (mkF mm_ 0 #[vr a] [])
 refine sp_ (fun t_ k_ => XS.aloadN X0.here hx rfl (B_ dk96) rfl rfl k_) ?_
 show Go_ s₁ (mkF mm_ 1 #[vr a] [(.ref a)])
 refine sp_ (fun t_ k_ => XS.ifnonnullYes X0.here hx rfl (pc0 := 1) (pc' := 6) rfl (B_ dk97) rfl (by decide) (by decide) (XS.aloadN X0.here hx rfl (B_ dk100) rfl rfl k_)) ?_
 show Go_ s₁ (mkF mm_ 7 #[vr a] [(.ref a)])
 obtain ⟨a1, T1, h1, k1, t1, kb1, X1, e1, E1, hS1, hk1, hZ1, hown1, Ex1, Fc1, Fv1, V1, -, -, I1, L1, st1⟩ := ldcSVL (s := ss_) (vm0 := ss_.vm) X0 hx hZ hown (w_ hw 0 rfl) own_atoms_ e0 hS0 (Nat.zero_le _) (by rw [hh]; exact (Fr.nil _)) hkeep_ hI (by first | assumption | decide) (G_h_com_example_vestwright_vestwright_census_ReasonOfPinLaw_7) own_cw_ (vs := [(.int 100), (.int 101), (.int 97), (.int 116), (.int 104)]) (z := (5 : Int32)) ⟨by decide, rfl⟩ (by decide) (by decide) (g := (mkF mm_ 7 #[vr a] [(.ref a)])) rfl (B_ dk101) (n := 20) (by decide) (by decide) (by decide) (by decide)
 have Ls1 : own_Str Z h1 a1 t1 [(100 : Int32), (101 : Int32), (97 : Int32), (116 : Int32), (104 : Int32)] := ⟨Ex1, Fc1, Fv1, ⟨kb1, V1⟩, by decide, by decide⟩
 refine sp_ st1 ?_
 show Go_ T1 (mkF mm_ 9 #[vr a] [(.ref a1), (.ref a)])
 have f3 : own_Str Z h1 a t cs := (pr0.ext E1)
 have O4 : Old Z n0 h1 := (O0.ext E1)
 obtain ⟨_, T2, Lc2, X2, hQ2, st2⟩ := own_cV X1 hx hZ1 hown1 (w_ hw 110 rfl) (w_ hw 99 rfl) (notFace_of_selects (args := #[]) (mvT hZ1 (w_ hw 101 rfl))) (w_ hw 101 rfl) (w_ hw 100 rfl) (by decide) (own_eqS (W := 0) hZ1 hw f3 Ls1 (G_cs.ext O4.2) G_cs0 (by decide) (by decide)) f3.1 (g := (mkF mm_ 9 #[vr a] [(.ref a1), (.ref a)])) rfl hml.symm (argsL := [(.ref a1)]) (rest := []) (lenOf pd_5 rfl) rfl (Nat.le_of_eq rfl) (B_ dk102) rfl e1 (by decide) (by decide)
 obtain ⟨⟨rfl, hq2⟩ | ⟨rfl, hq2⟩, rfl, Eh2⟩ := hQ2
 · skip
   have N2 := Fr.app N0 (Fr.nil n0)
   refine jp_ st2 ?_
   refine sp_ (fun t_ k_ => XS.ifNo X2.here hx rfl (B_ dk103) rfl ((if0 _ _).trans (feq (by decide : ¬ ((1 : Int32) = (0 : Int32)))).1) k_) ?_
   show Go_ T2 (mkF mm_ 15 #[vr a] [])
   obtain ⟨T5, X5, e5, st5⟩ := getS2 X2 hx hZ1 hown1 (host := "") (Or.inl (w_ hw 111 rfl)) Via.refl Eh2 (G_S1.ext O4.2) (g := (mkF mm_ 15 #[vr a] [])) rfl (B_ dk104)
   refine sp_ st5 ?_
   show Go_ T5 (mkF mm_ 18 #[vr a] [(.ref w_0)])
   have K6 : Keep h0 h1 [] := (K0.ext E1)
   obtain ⟨fs, hr, hrun, hended, hEnd⟩ := X5.leaveW hS1 (by rw [e5]; exact hk1) (v := some (.ref w_0)) (rN Bd.returns)
   refine ⟨_, _, ?_, hrun, hended, _, _, rfl, ?_, own_IB_mono (own_IB_warm I1 X5.warmed) (by intro t_ h_; first | exact h_ | exact List.mem_cons_of_mem _ h_ | (revert t_ h_; decide)), own_endMono hEnd (by decide) (by decide)⟩
   · jvm_step X5.here [X5.here.top, hx, (B_ dk105), X5.method', Bd.returns, Value.isRef, FieldType.isReference]
     first | (intro acts; rw [hr _ acts rfl rfl rfl]) | rw [hr _ _ rfl rfl rfl]
     exact Steps.refl _
   · show QrmEx3 Z a t cs al tl w_0 w_1 w_2 w_3 h0 n0 (some (.ref w_0)) T5.heap _
     rw [e5]
     exact ⟨(.ref w_0), rfl, N2, K6, ⟨fun _ => rfl, fun q_ => absurd (hq2.symm.trans q_) (by decide), fun q_ => absurd (hq2.symm.trans q_) (by decide), fun q_ => absurd (hq2.symm.trans q_) (by decide), fun q0_ q1_ q2_ q3_ => absurd hq2 q0_⟩⟩
 · skip
   have N2 := Fr.app N0 (Fr.nil n0)
   refine jp_ st2 ?_
   refine sp_ (fun t_ k_ => XS.ifYes X2.here hx rfl (pc0 := 12) (pc' := 19) rfl (B_ dk103) rfl ((if0 _ _).trans (teq (by decide : (0 : Int32) = (0 : Int32))).1) (by decide) (by decide) k_) ?_
   show Go_ T2 (mkF mm_ 19 #[vr a] [])
   refine sp_ (fun t_ k_ => XS.aloadN X2.here hx rfl (B_ dk106) rfl rfl k_) ?_
   show Go_ T2 (mkF mm_ 20 #[vr a] [(.ref a)])
   obtain ⟨a7, T7, h7, k7, t7, kb7, X7, e7, E7, hS7, hk7, hZ7, hown7, Ex7, Fc7, Fv7, V7, -, -, I7, L7, st7⟩ := ldcSVL (s := ss_) (vm0 := T1.vm) X2 hx hZ1 hown1 (w_ hw 118 rfl) own_atoms_ Eh2 hS1 hk1 (by rw [hh]; exact (Fr.app (Fr.nil _) (Fr.nil _))) hkeep_ I1 (by first | assumption | decide) (G_h_com_example_vestwright_vestwright_census_ReasonOfPinLaw_9) own_cw_ (vs := [(.int 100), (.int 105), (.int 115), (.int 97), (.int 98), (.int 105), (.int 108), (.int 105), (.int 116), (.int 121)]) (z := (10 : Int32)) ⟨by decide, rfl⟩ (by decide) (by decide) (g := (mkF mm_ 20 #[vr a] [(.ref a)])) rfl (B_ dk107) (n := 40) (by decide) (by decide) (by decide) (by decide)
   have Ls7 : own_Str Z h7 a7 t7 [(100 : Int32), (105 : Int32), (115 : Int32), (97 : Int32), (98 : Int32), (105 : Int32), (108 : Int32), (105 : Int32), (116 : Int32), (121 : Int32)] := ⟨Ex7, Fc7, Fv7, ⟨kb7, V7⟩, by decide, by decide⟩
   refine sp_ st7 ?_
   show Go_ T7 (mkF mm_ 22 #[vr a] [(.ref a7), (.ref a)])
   have f9 : own_Str Z h7 a t cs := (f3.ext E7)
   have O10 : Old Z n0 h7 := (O4.ext E7)
   obtain ⟨_, T8, Lc8, X8, hQ8, st8⟩ := own_cV X7 hx hZ7 hown7 (w_ hw 110 rfl) (w_ hw 99 rfl) (notFace_of_selects (args := #[]) (mvT hZ7 (w_ hw 101 rfl))) (w_ hw 101 rfl) (w_ hw 100 rfl) (by decide) (own_eqS (W := 0) hZ7 hw f9 Ls7 (G_cs.ext O10.2) G_cs0 (by decide) (by decide)) f9.1 (g := (mkF mm_ 22 #[vr a] [(.ref a7), (.ref a)])) rfl hml.symm (argsL := [(.ref a7)]) (rest := []) (lenOf pd_5 rfl) rfl (Nat.le_of_eq rfl) (B_ dk108) rfl e7 (by decide) (by decide)
   obtain ⟨⟨rfl, hq8⟩ | ⟨rfl, hq8⟩, rfl, Eh8⟩ := hQ8
   · skip
     have N8 := Fr.app N2 (Fr.nil n0)
     refine jp_ st8 ?_
     refine sp_ (fun t_ k_ => XS.ifNo X8.here hx rfl (B_ dk109) rfl ((if0 _ _).trans (feq (by decide : ¬ ((1 : Int32) = (0 : Int32)))).1) k_) ?_
     show Go_ T8 (mkF mm_ 28 #[vr a] [])
     obtain ⟨T11, X11, e11, st11⟩ := getS2 X8 hx hZ7 hown7 (host := "") (Or.inl (w_ hw 137 rfl)) Via.refl Eh8 (G_S2.ext O10.2) (g := (mkF mm_ 28 #[vr a] [])) rfl (B_ dk110)
     refine sp_ st11 ?_
     show Go_ T11 (mkF mm_ 31 #[vr a] [(.ref w_1)])
     have K12 : Keep h0 h7 [] := ((K0.ext E1).ext E7)
     obtain ⟨fs, hr, hrun, hended, hEnd⟩ := X11.leaveW hS7 (by rw [e11]; exact hk7) (v := some (.ref w_1)) (rN Bd.returns)
     refine ⟨_, _, ?_, hrun, hended, _, _, rfl, ?_, own_IB_mono (own_IB_warm I7 X11.warmed) (by intro t_ h_; first | exact h_ | exact List.mem_cons_of_mem _ h_ | (revert t_ h_; decide)), own_endMono hEnd (by decide) (by decide)⟩
     · jvm_step X11.here [X11.here.top, hx, (B_ dk111), X11.method', Bd.returns, Value.isRef, FieldType.isReference]
       first | (intro acts; rw [hr _ acts rfl rfl rfl]) | rw [hr _ _ rfl rfl rfl]
       exact Steps.refl _
     · show QrmEx3 Z a t cs al tl w_0 w_1 w_2 w_3 h0 n0 (some (.ref w_1)) T11.heap _
       rw [e11]
       exact ⟨(.ref w_1), rfl, N8, K12, ⟨fun q_ => absurd (hq8.symm.trans q_) (by decide), fun _ => rfl, fun q_ => absurd (hq8.symm.trans q_) (by decide), fun q_ => absurd (hq8.symm.trans q_) (by decide), fun q0_ q1_ q2_ q3_ => absurd hq8 q1_⟩⟩
   · skip
     have N8 := Fr.app N2 (Fr.nil n0)
     refine jp_ st8 ?_
     refine sp_ (fun t_ k_ => XS.ifYes X8.here hx rfl (pc0 := 25) (pc' := 32) rfl (B_ dk109) rfl ((if0 _ _).trans (teq (by decide : (0 : Int32) = (0 : Int32))).1) (by decide) (by decide) k_) ?_
     show Go_ T8 (mkF mm_ 32 #[vr a] [])
     refine sp_ (fun t_ k_ => XS.aloadN X8.here hx rfl (B_ dk112) rfl rfl k_) ?_
     show Go_ T8 (mkF mm_ 33 #[vr a] [(.ref a)])
     obtain ⟨a13, T13, h13, k13, t13, kb13, X13, e13, E13, hS13, hk13, hZ13, hown13, Ex13, Fc13, Fv13, V13, -, -, I13, L13, st13⟩ := ldcSVL (s := ss_) (vm0 := T7.vm) X8 hx hZ7 hown7 (w_ hw 116 rfl) own_atoms_ Eh8 hS7 hk7 (by rw [hh]; exact (Fr.app (Fr.app (Fr.nil _) (Fr.nil _)) (Fr.nil _))) hkeep_ I7 (by first | assumption | decide) (G_h_com_example_vestwright_vestwright_census_ReasonOfPinLaw_11) own_cw_ (vs := [(.int 114), (.int 101), (.int 116), (.int 105), (.int 114), (.int 101), (.int 109), (.int 101), (.int 110), (.int 116)]) (z := (10 : Int32)) ⟨by decide, rfl⟩ (by decide) (by decide) (g := (mkF mm_ 33 #[vr a] [(.ref a)])) rfl (B_ dk113) (n := 40) (by decide) (by decide) (by decide) (by decide)
     have Ls13 : own_Str Z h13 a13 t13 [(114 : Int32), (101 : Int32), (116 : Int32), (105 : Int32), (114 : Int32), (101 : Int32), (109 : Int32), (101 : Int32), (110 : Int32), (116 : Int32)] := ⟨Ex13, Fc13, Fv13, ⟨kb13, V13⟩, by decide, by decide⟩
     refine sp_ st13 ?_
     show Go_ T13 (mkF mm_ 35 #[vr a] [(.ref a13), (.ref a)])
     have f15 : own_Str Z h13 a t cs := (f9.ext E13)
     have O16 : Old Z n0 h13 := (O10.ext E13)
     obtain ⟨_, T14, Lc14, X14, hQ14, st14⟩ := own_cV X13 hx hZ13 hown13 (w_ hw 110 rfl) (w_ hw 99 rfl) (notFace_of_selects (args := #[]) (mvT hZ13 (w_ hw 101 rfl))) (w_ hw 101 rfl) (w_ hw 100 rfl) (by decide) (own_eqS (W := 0) hZ13 hw f15 Ls13 (G_cs.ext O16.2) G_cs0 (by decide) (by decide)) f15.1 (g := (mkF mm_ 35 #[vr a] [(.ref a13), (.ref a)])) rfl hml.symm (argsL := [(.ref a13)]) (rest := []) (lenOf pd_5 rfl) rfl (Nat.le_of_eq rfl) (B_ dk114) rfl e13 (by decide) (by decide)
     obtain ⟨⟨rfl, hq14⟩ | ⟨rfl, hq14⟩, rfl, Eh14⟩ := hQ14
     · skip
       have N14 := Fr.app N8 (Fr.nil n0)
       refine jp_ st14 ?_
       refine sp_ (fun t_ k_ => XS.ifNo X14.here hx rfl (B_ dk115) rfl ((if0 _ _).trans (feq (by decide : ¬ ((1 : Int32) = (0 : Int32)))).1) k_) ?_
       show Go_ T14 (mkF mm_ 41 #[vr a] [])
       obtain ⟨T17, X17, e17, st17⟩ := getS2 X14 hx hZ13 hown13 (host := "") (Or.inl (w_ hw 138 rfl)) Via.refl Eh14 (G_S3.ext O16.2) (g := (mkF mm_ 41 #[vr a] [])) rfl (B_ dk116)
       refine sp_ st17 ?_
       show Go_ T17 (mkF mm_ 44 #[vr a] [(.ref w_2)])
       have K18 : Keep h0 h13 [] := (((K0.ext E1).ext E7).ext E13)
       obtain ⟨fs, hr, hrun, hended, hEnd⟩ := X17.leaveW hS13 (by rw [e17]; exact hk13) (v := some (.ref w_2)) (rN Bd.returns)
       refine ⟨_, _, ?_, hrun, hended, _, _, rfl, ?_, own_IB_mono (own_IB_warm I13 X17.warmed) (by intro t_ h_; first | exact h_ | exact List.mem_cons_of_mem _ h_ | (revert t_ h_; decide)), own_endMono hEnd (by decide) (by decide)⟩
       · jvm_step X17.here [X17.here.top, hx, (B_ dk117), X17.method', Bd.returns, Value.isRef, FieldType.isReference]
         first | (intro acts; rw [hr _ acts rfl rfl rfl]) | rw [hr _ _ rfl rfl rfl]
         exact Steps.refl _
       · show QrmEx3 Z a t cs al tl w_0 w_1 w_2 w_3 h0 n0 (some (.ref w_2)) T17.heap _
         rw [e17]
         exact ⟨(.ref w_2), rfl, N14, K18, ⟨fun q_ => absurd (hq14.symm.trans q_) (by decide), fun q_ => absurd (hq14.symm.trans q_) (by decide), fun _ => rfl, fun q_ => absurd (hq14.symm.trans q_) (by decide), fun q0_ q1_ q2_ q3_ => absurd hq14 q2_⟩⟩
     · skip
       have N14 := Fr.app N8 (Fr.nil n0)
       refine jp_ st14 ?_
       refine sp_ (fun t_ k_ => XS.ifYes X14.here hx rfl (pc0 := 38) (pc' := 45) rfl (B_ dk115) rfl ((if0 _ _).trans (teq (by decide : (0 : Int32) = (0 : Int32))).1) (by decide) (by decide) k_) ?_
       show Go_ T14 (mkF mm_ 45 #[vr a] [])
       refine sp_ (fun t_ k_ => XS.aloadN X14.here hx rfl (B_ dk118) rfl rfl k_) ?_
       show Go_ T14 (mkF mm_ 46 #[vr a] [(.ref a)])
       refine sp_ (ldcAgain (s := ss_) (vm0 := T13.vm) X14 hx hZ13 hown13 (w_ hw 115 rfl) (Lit.stays (s := ss_) (vm0 := ss_.vm) hLt0 hS13.1) (g := (mkF mm_ 46 #[vr a] [(.ref a)])) rfl (B_ dk119)) ?_
       show Go_ T14 (mkF mm_ 48 #[vr a] [(.ref al), (.ref a)])
       have f21 : own_Str Z h13 al tl [(111 : Int32), (116 : Int32), (104 : Int32), (101 : Int32), (114 : Int32)] := (((pr1.ext E1).ext E7).ext E13)
       obtain ⟨_, T20, Lc20, X20, hQ20, st20⟩ := own_cV X14 hx hZ13 hown13 (w_ hw 110 rfl) (w_ hw 99 rfl) (notFace_of_selects (args := #[]) (mvT hZ13 (w_ hw 101 rfl))) (w_ hw 101 rfl) (w_ hw 100 rfl) (by decide) (own_eqS (W := 0) hZ13 hw f15 f21 (G_cs.ext O16.2) G_cs0 (by decide) (by decide)) f15.1 (g := (mkF mm_ 48 #[vr a] [(.ref al), (.ref a)])) rfl hml.symm (argsL := [(.ref al)]) (rest := []) (lenOf pd_5 rfl) rfl (Nat.le_of_eq rfl) (B_ dk120) rfl Eh14 (by decide) (by decide)
       obtain ⟨⟨rfl, hq20⟩ | ⟨rfl, hq20⟩, rfl, Eh20⟩ := hQ20
       · skip
         have N20 := Fr.app N14 (Fr.nil n0)
         refine jp_ st20 ?_
         refine sp_ (fun t_ k_ => XS.ifNo X20.here hx rfl (B_ dk121) rfl ((if0 _ _).trans (feq (by decide : ¬ ((1 : Int32) = (0 : Int32)))).1) k_) ?_
         show Go_ T20 (mkF mm_ 54 #[vr a] [])
         obtain ⟨T22, X22, e22, st22⟩ := getS2 X20 hx hZ13 hown13 (host := "") (Or.inl (w_ hw 139 rfl)) Via.refl Eh20 (G_S4.ext O16.2) (g := (mkF mm_ 54 #[vr a] [])) rfl (B_ dk122)
         refine sp_ st22 ?_
         show Go_ T22 (mkF mm_ 57 #[vr a] [(.ref w_3)])
         have K23 : Keep h0 h13 [] := (((K0.ext E1).ext E7).ext E13)
         obtain ⟨fs, hr, hrun, hended, hEnd⟩ := X22.leaveW hS13 (by rw [e22]; exact hk13) (v := some (.ref w_3)) (rN Bd.returns)
         refine ⟨_, _, ?_, hrun, hended, _, _, rfl, ?_, own_IB_mono (own_IB_warm I13 X22.warmed) (by intro t_ h_; first | exact h_ | exact List.mem_cons_of_mem _ h_ | (revert t_ h_; decide)), own_endMono hEnd (by decide) (by decide)⟩
         · jvm_step X22.here [X22.here.top, hx, (B_ dk123), X22.method', Bd.returns, Value.isRef, FieldType.isReference]
           first | (intro acts; rw [hr _ acts rfl rfl rfl]) | rw [hr _ _ rfl rfl rfl]
           exact Steps.refl _
         · show QrmEx3 Z a t cs al tl w_0 w_1 w_2 w_3 h0 n0 (some (.ref w_3)) T22.heap _
           rw [e22]
           exact ⟨(.ref w_3), rfl, N20, K23, ⟨fun q_ => absurd (hq20.symm.trans q_) (by decide), fun q_ => absurd (hq20.symm.trans q_) (by decide), fun q_ => absurd (hq20.symm.trans q_) (by decide), fun _ => rfl, fun q0_ q1_ q2_ q3_ => absurd hq20 q3_⟩⟩
       · skip
         have N20 := Fr.app N14 (Fr.nil n0)
         refine jp_ st20 ?_
         refine sp_ (fun t_ k_ => XS.ifYes X20.here hx rfl (pc0 := 51) (pc' := 58) rfl (B_ dk121) rfl ((if0 _ _).trans (teq (by decide : (0 : Int32) = (0 : Int32))).1) (by decide) (by decide) k_) ?_
         show Go_ T20 (mkF mm_ 58 #[vr a] [])
         refine sp_ (fun t_ k_ => XS.aconstNull X20.here hx rfl (B_ dk124) k_) ?_
         show Go_ T20 (mkF mm_ 59 #[vr a] [.null])
         have K24 : Keep h0 h13 [] := (((K0.ext E1).ext E7).ext E13)
         obtain ⟨fs, hr, hrun, hended, hEnd⟩ := X20.leaveW hS13 (by rw [Eh20]; exact hk13) (v := some .null) (rN Bd.returns)
         refine ⟨_, _, ?_, hrun, hended, _, _, rfl, ?_, own_IB_mono (own_IB_warm I13 X20.warmed) (by intro t_ h_; first | exact h_ | exact List.mem_cons_of_mem _ h_ | (revert t_ h_; decide)), own_endMono hEnd (by decide) (by decide)⟩
         · jvm_step X20.here [X20.here.top, hx, (B_ dk125), X20.method', Bd.returns, Value.isRef, FieldType.isReference]
           first | (intro acts; rw [hr _ acts rfl rfl rfl]) | rw [hr _ _ rfl rfl rfl]
           exact Steps.refl _
         · show QrmEx3 Z a t cs al tl w_0 w_1 w_2 w_3 h0 n0 (some .null) T20.heap _
           rw [Eh20]
           exact ⟨.null, rfl, N20, K24, ⟨fun q_ => absurd q_ hq2, fun q_ => absurd q_ hq8, fun q_ => absurd q_ hq14, fun q_ => absurd q_ hq20, fun _ _ _ _ => rfl⟩⟩
theorem dk126 : decode J10 0 = .ok (.iload_n 1, 1) := by decide +kernel
theorem dk127 : decode J10 1 = .ok (.iload_n 2, 1) := by decide +kernel
theorem dk128 : decode J10 2 = .ok (.if_icmp .ne 7, 3) := by decide +kernel
theorem dk129 : decode J10 5 = .ok (.iload_n 3, 1) := by decide +kernel
theorem dk130 : decode J10 6 = .ok (.goto 8, 3) := by decide +kernel
theorem dk131 : decode J10 14 = .ok (.ireturn, 1) := by decide +kernel
theorem dk132 : decode J10 9 = .ok (.aload_n 0, 1) := by decide +kernel
theorem dk133 : decode J10 10 = .ok (.iload_n 1, 1) := by decide +kernel
theorem dk134 : decode J10 11 = .ok (.invokevirtual 68, 3) := by decide +kernel
theorem pd_6 : parseMethodDescriptor "(I)C" = some ⟨[.int], some .char⟩ := by decide +kernel
theorem ef_rmAt (mm_ : MethodId) (w : Addr) (i : Int32) (po : Int32) (d : Int32) : entryFrame mm_ #[(.ref w), (.int i), (.int po), (.int d)] 4 = (mkF mm_ 0 #[vr w, vi i, vi po, vi d] []) := by first | (simp [entryFrame, mkF, argsToLocals, Value.category]; done) | rfl
def QrmAt (Z : State) (w : Addr) (i : Int32) (po : Int32) (d : Int32) (t : Addr) (cs : List Int32) (ni : Nat) (h0 : Heap) (n0 : Nat) (vv_ : Option Value) (hh_ : Heap) (LL_ : List Loc) : Prop := ∃ (v : Int32), (vv_ = some (.int v)) ∧ (LL_ = []) ∧ (hh_ = h0) ∧ (¬ v < (0 : Int32) ∧ ¬ (255 : Int32) < v)
theorem rmAt (l : Launch) (Z : State) (a0 : Array Value) (hw : own_Hw a0 Z) (ws : List Jvm.Cond) (w : Addr) (i : Int32) (po : Int32) (d : Int32) (t : Addr) (cs : List Int32) (ni : Nat) {zc : Int32} {fm : Value} {w_0 : Addr} {w_1 : Addr} {w_2 : Addr} {w_3 : Addr} {wV : Addr} {kV : ClassId} {s_0 : Addr} {t_0 : Addr} {s_1 : Addr} {t_1 : Addr} {s_2 : Addr} {t_2 : Addr} {s_3 : Addr} {t_3 : Addr} (h0 : Heap) (n0 : Nat) (O0 : Old Z n0 h0) (G_ : own_St Z zc fm w_0 w_1 w_2 w_3 wV kV s_0 t_0 s_1 t_1 s_2 t_2 s_3 t_3) (pr0 : own_Str Z h0 w t cs) (sg_d : ¬ d < (0 : Int32) ∧ ¬ (255 : Int32) < d) (hni : i = Int32.ofNat ni) (hlt : ni < cs.length) :
 MetFree l (⟨sc1, "at", "(Ljava/lang/String;IIC)C"⟩ : MethodName) (head1 (Jvm.Cond.code (⟨sc1, "at", "(Ljava/lang/String;IIC)C"⟩ : MethodName) J10 4 (some .char) :: ws) (rm_ 4 0 0 53)) (fun aa_ UU_ => aa_ = #[(.ref w), (.int i), (.int po), (.int d)] ∧ Z.Warmed39 UU_.vm ∧ UU_.heap = h0) (fun _ _ _ _ _ => True) (fun _ UU_ oo_ UV_ => ∃ vv_ LL_, oo_ = .returned vv_ ∧ QrmAt Z w i po d t cs ni h0 n0 vv_ UV_.heap LL_ ∧ FrameEnd UU_ oo_ UV_ LL_ (rm_ 4 0 0 53).cells (rm_ 4 0 0 53).slots) := by
 refine MetFree.of_bodySF (plainFor_of_name pn_com_example_vestwright_vestwright_census_ReasonOfPinLaw) hisR ?_
 intro pp_ ee_ ss_ mm_ args_ bb_ me_ cc_ s₁ Bd hml0 hP hK
 obtain ⟨rfl, hZ, hh⟩ := hP
 have hx := Bd.exec
 have hby := Bd.bytes; have B_ {q_ : Nat} {r_ : _} (h_ : decode _ q_ = r_) := hb hby h_
 have hml : cc_.maxLocals = 4 := hml0
 have hown : ss_.vm.findClass sc1 = some mm_.cls := findClass_of_methodNamed Bd.named
 have hnm := (name_of_methodNamed Bd.named Bd.method).1
 have X0 : Stand pp_ l ee_ (rm_ 4 0 0 53) ss_ mm_ #[(.ref w), (.int i), (.int po), (.int d)] bb_ me_ cc_ s₁ [] 0 0 := Stand.of_body Bd
 have e0 : s₁.heap = h0 := by rw [← hh, Bd.state]; rfl
 have N0 := Fr.nil n0
 show own_Go pp_ ee_ bb_ _ s₁ (entryFrame mm_ #[(.ref w), (.int i), (.int po), (.int d)] 4)
 refine own_cast (ef_rmAt mm_ w i po d) ?_
 have Z0 : n0 ≤ h0.size := by have q := O0.2.1; rw [O0.1] at q; exact q
 have K0 : Keep h0 h0 [] := Keep.refl _ _
 obtain ⟨G_cs, G_cs0, G_fm, G_fr, G_S1, G_S2, G_S3, G_S4, G_S5, G_E6, G_E7, G_E8, G_E9, G_E10, G_V11, G_F12, G_T13, G_F17, G_T18, G_F22, G_T23, G_F27, G_T28, G_cw, G_h_com_example_vestwright_vestwright_census_ReasonOfPinLaw_7, G_h_com_example_vestwright_vestwright_census_ReasonOfPinLaw_9, G_h_com_example_vestwright_vestwright_census_ReasonOfPinLaw_11, G_h_com_example_vestwright_vestwright_census_ReasonOfPinLaw_13, G_h_java_lang_String_7⟩ := id G_
 show Go_ s₁ (mkF mm_ 0 #[vr w, vi i, vi po, vi d] [])
 refine sp_ (fun t_ k_ => XS.iloadN X0.here hx rfl (B_ dk126) rfl  (XS.iloadN X0.here hx rfl (B_ dk127) rfl  k_)) ?_
 show Go_ s₁ (mkF mm_ 2 #[vr w, vi i, vi po, vi d] [(.int po), (.int i)])
 by_cases hc2_1 : i = po
 · skip
   refine sp_ (fun t_ k_ => XS.icmpNo X0.here hx rfl (B_ dk128) rfl (teq hc2_1).2 k_) ?_
   show Go_ s₁ (mkF mm_ 5 #[vr w, vi i, vi po, vi d] [])
   refine sp_ (fun t_ k_ => XS.iloadN X0.here hx rfl (B_ dk129) rfl  (XS.goto X0.here hx rfl (pc0 := 6) (pc' := 14) rfl (B_ dk130) (by decide) (by decide) k_)) ?_
   show Go_ s₁ (mkF mm_ 14 #[vr w, vi i, vi po, vi d] [(.int d)])
   obtain ⟨fs, hr, hrun, hended, hW, hsame⟩ := X0.leave (v := some (.int (nar .char d))) (rN Bd.returns)
   refine ⟨_, _, ?_, hrun, hended, _, _, rfl, ?_, ⟨_, rfl⟩, hW, hsame.mono (by decide) (by decide)⟩
   · exact retN X0 hx (t := .char) Bd.returns (by simp) (B_ dk131) hr
   · show QrmAt Z w i po d t cs ni h0 n0 (some (.int (nar .char d))) s₁.heap _
     rw [e0]
     exact ⟨d, (by rw [own_narLit _ (own_sgc sg_d).1 (own_sgc sg_d).2]), rfl, rfl, sg_d⟩
 · skip
   refine sp_ (fun t_ k_ => XS.icmpYes X0.here hx rfl (pc0 := 2) (pc' := 9) rfl (B_ dk128) rfl (feq hc2_1).2 (by decide) (by decide) k_) ?_
   show Go_ s₁ (mkF mm_ 9 #[vr w, vi i, vi po, vi d] [])
   refine sp_ (fun t_ k_ => XS.aloadN X0.here hx rfl (B_ dk132) rfl rfl (XS.iloadN X0.here hx rfl (B_ dk133) rfl  k_)) ?_
   show Go_ s₁ (mkF mm_ 11 #[vr w, vi i, vi po, vi d] [(.int i), (.ref w)])
   obtain ⟨_, T2, Lc2, X2, hQ2, st2⟩ := own_cV X0 hx hZ hown (w_ hw 31 rfl) (w_ hw 32 rfl) (notFace_of_selects (args := #[]) (mvT hZ (w_ hw 34 rfl))) (w_ hw 34 rfl) (w_ hw 33 rfl) (by decide) (own_chS (W := 0) hZ hw pr0 (G_cs.ext O0.2) G_cs0 (G_fm.ext O0.2) G_fr (i := ni) hlt (j := i) hni (by decide) (by decide)) pr0.1 (g := (mkF mm_ 11 #[vr w, vi i, vi po, vi d] [(.int i), (.ref w)])) rfl hml.symm (argsL := [(.int i)]) (rest := []) (lenOf pd_6 rfl) rfl (Nat.le_of_eq rfl) (B_ dk134) rfl e0 (by decide) (by decide)
   obtain ⟨rfl, rfl, Eh2⟩ := hQ2
   have N2 := Fr.app N0 (Fr.nil n0)
   refine jp_ st2 ?_
   show Go_ T2 (mkF mm_ 14 #[vr w, vi i, vi po, vi d] [(.int (cs.getD ni 0))])
   obtain ⟨fs, hr, hrun, hended, hW, hsame⟩ := X2.leave (v := some (.int (nar .char (cs.getD ni 0)))) (rN Bd.returns)
   refine ⟨_, _, ?_, hrun, hended, _, _, rfl, ?_, ⟨_, rfl⟩, hW, hsame.mono (by decide) (by decide)⟩
   · exact retN X2 hx (t := .char) Bd.returns (by simp) (B_ dk131) hr
   · show QrmAt Z w i po d t cs ni h0 n0 (some (.int (nar .char (cs.getD ni 0)))) T2.heap _
     rw [Eh2]
     exact ⟨(cs.getD ni 0), (by rw [own_narLit _ (own_sgc ((own_Str.sgD pr0 hlt))).1 (own_sgc ((own_Str.sgD pr0 hlt))).2]), rfl, rfl, (own_Str.sgD pr0 hlt)⟩
theorem dk135 : decode J11 0 = .ok (.aload_n 0, 1) := by decide +kernel
theorem dk136 : decode J11 1 = .ok (.invokevirtual 24, 3) := by decide +kernel
theorem pd_7 : parseMethodDescriptor "()I" = some ⟨[], some .int⟩ := by decide +kernel
theorem dk137 : decode J11 4 = .ok (.iconst 5, 1) := by decide +kernel
theorem dk138 : decode J11 5 = .ok (.if_icmp .ne 64, 3) := by decide +kernel
theorem dk139 : decode J11 8 = .ok (.new 25, 3) := by decide +kernel
theorem dk140 : decode J11 11 = .ok (.dup, 1) := by decide +kernel
theorem dk141 : decode J11 12 = .ok (.iconst 5, 1) := by decide +kernel
theorem dk142 : decode J11 13 = .ok (.newarray .char, 2) := by decide +kernel
theorem dk143 : decode J11 15 = .ok (.dup, 1) := by decide +kernel
theorem dk144 : decode J11 16 = .ok (.iconst 0, 1) := by decide +kernel
theorem dk145 : decode J11 17 = .ok (.aload_n 0, 1) := by decide +kernel
theorem dk146 : decode J11 18 = .ok (.iconst 0, 1) := by decide +kernel
theorem dk147 : decode J11 19 = .ok (.iload_n 1, 1) := by decide +kernel
theorem dk148 : decode J11 20 = .ok (.iload_n 2, 1) := by decide +kernel
theorem dk149 : decode J11 21 = .ok (.invokestatic 72, 3) := by decide +kernel
theorem pd_8 : parseMethodDescriptor "(Ljava/lang/String;IIC)C" = some ⟨[(.object "java/lang/String"), .int, .int, .char], some .char⟩ := by decide +kernel
theorem dk150 : decode J11 24 = .ok (.castore, 1) := by decide +kernel
theorem dk151 : decode J11 25 = .ok (.dup, 1) := by decide +kernel
theorem dk152 : decode J11 26 = .ok (.iconst 1, 1) := by decide +kernel
theorem dk153 : decode J11 27 = .ok (.aload_n 0, 1) := by decide +kernel
theorem dk154 : decode J11 28 = .ok (.iconst 1, 1) := by decide +kernel
theorem dk155 : decode J11 29 = .ok (.iload_n 1, 1) := by decide +kernel
theorem dk156 : decode J11 30 = .ok (.iload_n 2, 1) := by decide +kernel
theorem dk157 : decode J11 31 = .ok (.invokestatic 72, 3) := by decide +kernel
theorem dk158 : decode J11 34 = .ok (.castore, 1) := by decide +kernel
theorem dk159 : decode J11 35 = .ok (.dup, 1) := by decide +kernel
theorem dk160 : decode J11 36 = .ok (.iconst 2, 1) := by decide +kernel
theorem dk161 : decode J11 37 = .ok (.aload_n 0, 1) := by decide +kernel
theorem dk162 : decode J11 38 = .ok (.iconst 2, 1) := by decide +kernel
theorem dk163 : decode J11 39 = .ok (.iload_n 1, 1) := by decide +kernel
theorem dk164 : decode J11 40 = .ok (.iload_n 2, 1) := by decide +kernel
theorem dk165 : decode J11 41 = .ok (.invokestatic 72, 3) := by decide +kernel
theorem dk166 : decode J11 44 = .ok (.castore, 1) := by decide +kernel
theorem dk167 : decode J11 45 = .ok (.dup, 1) := by decide +kernel
theorem dk168 : decode J11 46 = .ok (.iconst 3, 1) := by decide +kernel
theorem dk169 : decode J11 47 = .ok (.aload_n 0, 1) := by decide +kernel
theorem dk170 : decode J11 48 = .ok (.iconst 3, 1) := by decide +kernel
theorem dk171 : decode J11 49 = .ok (.iload_n 1, 1) := by decide +kernel
theorem dk172 : decode J11 50 = .ok (.iload_n 2, 1) := by decide +kernel
theorem dk173 : decode J11 51 = .ok (.invokestatic 72, 3) := by decide +kernel
theorem dk174 : decode J11 54 = .ok (.castore, 1) := by decide +kernel
theorem dk175 : decode J11 55 = .ok (.dup, 1) := by decide +kernel
theorem dk176 : decode J11 56 = .ok (.iconst 4, 1) := by decide +kernel
theorem dk177 : decode J11 57 = .ok (.aload_n 0, 1) := by decide +kernel
theorem dk178 : decode J11 58 = .ok (.iconst 4, 1) := by decide +kernel
theorem dk179 : decode J11 59 = .ok (.iload_n 1, 1) := by decide +kernel
theorem dk180 : decode J11 60 = .ok (.iload_n 2, 1) := by decide +kernel
theorem dk181 : decode J11 61 = .ok (.invokestatic 72, 3) := by decide +kernel
theorem dk182 : decode J11 64 = .ok (.castore, 1) := by decide +kernel
theorem dk183 : decode J11 65 = .ok (.invokespecial 76, 3) := by decide +kernel
theorem pd_9 : parseMethodDescriptor "([C)V" = some ⟨[(.array .char)], none⟩ := by decide +kernel
theorem dk184 : decode J11 68 = .ok (.areturn, 1) := by decide +kernel
theorem ef_rmCp5 (mm_ : MethodId) (w : Addr) (po : Int32) (d : Int32) : entryFrame mm_ #[(.ref w), (.int po), (.int d)] 3 = (mkF mm_ 0 #[vr w, vi po, vi d] []) := by first | (simp [entryFrame, mkF, argsToLocals, Value.category]; done) | rfl
def QrmCp5 (Z : State) (w : Addr) (po : Int32) (d : Int32) (t : Addr) (c0 : Int32) (c1 : Int32) (c2 : Int32) (c3 : Int32) (c4 : Int32) (h0 : Heap) (n0 : Nat) (vv_ : Option Value) (hh_ : Heap) (LL_ : List Loc) : Prop := ∃ (r : Addr), ∃ (u : Addr), ∃ (ds : List Int32), (vv_ = some (.ref r)) ∧ (Fr n0 LL_) ∧ (Keep h0 hh_ []) ∧ (h0.size ≤ r) ∧ (own_Str Z hh_ r u ds)
theorem rmCp5 (l : Launch) (Z : State) (a0 : Array Value) (hw : own_Hw a0 Z) (ws : List Jvm.Cond) (w : Addr) (po : Int32) (d : Int32) (t : Addr) (c0 : Int32) (c1 : Int32) (c2 : Int32) (c3 : Int32) (c4 : Int32) {zc : Int32} {fm : Value} {w_0 : Addr} {w_1 : Addr} {w_2 : Addr} {w_3 : Addr} {wV : Addr} {kV : ClassId} {s_0 : Addr} {t_0 : Addr} {s_1 : Addr} {t_1 : Addr} {s_2 : Addr} {t_2 : Addr} {s_3 : Addr} {t_3 : Addr} (h0 : Heap) (n0 : Nat) (O0 : Old Z n0 h0) (G_ : own_St Z zc fm w_0 w_1 w_2 w_3 wV kV s_0 t_0 s_1 t_1 s_2 t_2 s_3 t_3) (pr0 : own_Str Z h0 w t [c0, c1, c2, c3, c4]) (sg_d : ¬ d < (0 : Int32) ∧ ¬ (255 : Int32) < d) :
 MetFree l ym3 (head1 (Jvm.Cond.code ym3 J11 3 (some (.object sc0)) :: ws) (rm_ 5 3 14 73)) (fun aa_ UU_ => aa_ = #[(.ref w), (.int po), (.int d)] ∧ Z.Warmed39 UU_.vm ∧ UU_.heap = h0) (fun _ _ _ _ _ => True) (fun _ UU_ oo_ UV_ => ∃ vv_ LL_, oo_ = .returned vv_ ∧ QrmCp5 Z w po d t c0 c1 c2 c3 c4 h0 n0 vv_ UV_.heap LL_ ∧ FrameEnd UU_ oo_ UV_ LL_ (rm_ 5 3 14 73).cells (rm_ 5 3 14 73).slots) := by
 refine MetFree.of_bodySF (plainFor_of_name pn_com_example_vestwright_vestwright_census_ReasonOfPinLaw) hisR ?_
 intro pp_ ee_ ss_ mm_ args_ bb_ me_ cc_ s₁ Bd hml0 hP hK
 obtain ⟨rfl, hZ, hh⟩ := hP
 have hx := Bd.exec
 have hby := Bd.bytes; have B_ {q_ : Nat} {r_ : _} (h_ : decode _ q_ = r_) := hb hby h_
 have hml : cc_.maxLocals = 3 := hml0
 have hown : ss_.vm.findClass sc1 = some mm_.cls := findClass_of_methodNamed Bd.named
 have hnm := (name_of_methodNamed Bd.named Bd.method).1
 have X0 : Stand pp_ l ee_ (rm_ 5 3 14 73) ss_ mm_ #[(.ref w), (.int po), (.int d)] bb_ me_ cc_ s₁ [] 0 0 := Stand.of_body Bd
 have e0 : s₁.heap = h0 := by rw [← hh, Bd.state]; rfl
 have N0 := Fr.nil n0
 show own_Go pp_ ee_ bb_ _ s₁ (entryFrame mm_ #[(.ref w), (.int po), (.int d)] 3)
 refine own_cast (ef_rmCp5 mm_ w po d) ?_
 have Z0 : n0 ≤ h0.size := by have q := O0.2.1; rw [O0.1] at q; exact q
 have K0 : Keep h0 h0 [] := Keep.refl _ _
 obtain ⟨G_cs, G_cs0, G_fm, G_fr, G_S1, G_S2, G_S3, G_S4, G_S5, G_E6, G_E7, G_E8, G_E9, G_E10, G_V11, G_F12, G_T13, G_F17, G_T18, G_F22, G_T23, G_F27, G_T28, G_cw, G_h_com_example_vestwright_vestwright_census_ReasonOfPinLaw_7, G_h_com_example_vestwright_vestwright_census_ReasonOfPinLaw_9, G_h_com_example_vestwright_vestwright_census_ReasonOfPinLaw_11, G_h_com_example_vestwright_vestwright_census_ReasonOfPinLaw_13, G_h_java_lang_String_7⟩ := id G_
 show Go_ s₁ (mkF mm_ 0 #[vr w, vi po, vi d] [])
 refine sp_ (fun t_ k_ => XS.aloadN X0.here hx rfl (B_ dk135) rfl rfl k_) ?_
 show Go_ s₁ (mkF mm_ 1 #[vr w, vi po, vi d] [(.ref w)])
 obtain ⟨_, T1, Lc1, X1, hQ1, st1⟩ := own_cV X0 hx hZ hown (w_ hw 13 rfl) (w_ hw 14 rfl) (notFace_of_selects (args := #[]) (mvT hZ (w_ hw 16 rfl))) (w_ hw 16 rfl) (w_ hw 15 rfl) (by decide) (own_lenS (W := 0) hZ hw pr0 (G_cs.ext O0.2) G_cs0 (by decide) (by decide)) pr0.1 (g := (mkF mm_ 1 #[vr w, vi po, vi d] [(.ref w)])) rfl hml.symm (argsL := []) (rest := []) (lenOf pd_7 rfl) rfl (Nat.le_of_eq rfl) (B_ dk136) rfl e0 (by decide) (by decide)
 obtain ⟨rfl, rfl, Eh1⟩ := hQ1
 have N1 := Fr.app N0 (Fr.nil n0)
 refine jp_ st1 ?_
 show Go_ T1 (mkF mm_ 4 #[vr w, vi po, vi d] [(.int 5)])
 refine sp_ (fun t_ k_ => XS.iconst X1.here hx rfl (B_ dk137) k_) ?_
 show Go_ T1 (mkF mm_ 5 #[vr w, vi po, vi d] [(.int 5), (.int 5)])
 refine sp_ (fun t_ k_ => XS.icmpNo X1.here hx rfl (B_ dk138) rfl (teq (by decide : (5 : Int32) = (5 : Int32))).2 k_) ?_
 show Go_ T1 (mkF mm_ 8 #[vr w, vi po, vi d] [])
 obtain ⟨T2, h2, X2, e2, E2, A2, D2, -, st2⟩ := newO X1 hx hZ hown (w_ hw 26 rfl) (w_ hw 2 rfl) (w_ hw 1 rfl) Eh1 (g := (mkF mm_ 8 #[vr w, vi po, vi d] [])) rfl (B_ dk139) (by decide) (by decide)
 obtain ⟨b2, q2⟩ : ∃ z, z = h0.size := ⟨_, rfl⟩
 rw [← q2] at A2 D2 st2
 have lo_b2 : h0.size ≤ b2 := Nat.le_trans K0.1 (Nat.le_of_eq q2.symm)
 have g_b2 : n0 ≤ b2 := Nat.le_trans Z0 lo_b2
 refine sp_ st2 ?_
 have F2_value : Fld Z h2 b2 sc0 "value" "[B" .null := D2 (Or.inr (w_ hw 4 rfl)) (ty := (.array .byte)) (by decide)
 have F2_coder : Fld Z h2 b2 sc0 "coder" "B" (.int 0) := D2 (Or.inr (w_ hw 5 rfl)) (ty := .byte) (by decide)
 show Go_ T2 (mkF mm_ 11 #[vr w, vi po, vi d] [(.ref b2)])
 refine sp_ (fun t_ k_ => XS.dup X2.here hx rfl (B_ dk140) rfl rfl (XS.iconst X2.here hx rfl (B_ dk141) k_)) ?_
 show Go_ T2 (mkF mm_ 13 #[vr w, vi po, vi d] [(.int 5), (.ref b2), (.ref b2)])
 obtain ⟨T3, h3, k3, X3, e3, E3, A3, st3⟩ := newP X2 hx hZ (w_ hw 27 rfl) e2 (g := (mkF mm_ 13 #[vr w, vi po, vi d] [(.int 5), (.ref b2), (.ref b2)])) rfl (B_ dk142) rfl (by decide) (cap := 5) (by decide) (by decide) (by decide) (by decide)
 obtain ⟨b3, q3⟩ : ∃ z, z = h2.size := ⟨_, rfl⟩
 rw [← q3] at A3 st3
 have K4 : Keep h0 h2 [] := (K0.ext E2)
 have lo_b3 : h0.size ≤ b3 := Nat.le_trans K4.1 (Nat.le_of_eq q3.symm)
 have g_b3 : n0 ≤ b3 := Nat.le_trans Z0 lo_b3
 refine sp_ st3 ?_
 have V3 : Arv Z h3 b3 k3 .char (5 : Int32) [(.int 0), (.int 0), (.int 0), (.int 0), (.int 0)] (.int 0) := (Arv.new A3 (by decide)).pad (pad_rep [] (.int 0) 5)
 show Go_ T3 (mkF mm_ 15 #[vr w, vi po, vi d] [(.ref b3), (.ref b2), (.ref b2)])
 refine sp_ (fun t_ k_ => XS.dup X3.here hx rfl (B_ dk143) rfl rfl (XS.iconst X3.here hx rfl (B_ dk144) (XS.aloadN X3.here hx rfl (B_ dk145) rfl rfl (XS.iconst X3.here hx rfl (B_ dk146) (XS.iloadN X3.here hx rfl (B_ dk147) rfl  (XS.iloadN X3.here hx rfl (B_ dk148) rfl  k_)))))) ?_
 show Go_ T3 (mkF mm_ 21 #[vr w, vi po, vi d] [(.int d), (.int po), (.int 0), (.ref w), (.int 0), (.ref b3), (.ref b3), (.ref b2), (.ref b2)])
 have f6 : own_Str Z h3 w t [c0, c1, c2, c3, c4] := ((pr0.ext E2).ext E3)
 have O7 : Old Z n0 h3 := ((O0.ext E2).ext E3)
 obtain ⟨_, T5, Lc5, X5, hQ5, st5⟩ := own_cS X3 hx hZ hown (w_ hw 28 rfl) (w_ hw 29 rfl) (w_ hw 11 rfl) (w_ hw 30 rfl) (by decide) (backOf (W := 5) (rmAt l Z a0 hw [] w (0 : Int32) po d t [c0, c1, c2, c3, c4] 0 h3 n0 O7 G_ f6 (sg_d) rfl (Nat.le_of_ble_eq_true rfl)) hZ (w_ hw 30 rfl) (w_ hw 11 rfl) (by decide) (by decide)) (g := (mkF mm_ 21 #[vr w, vi po, vi d] [(.int d), (.int po), (.int 0), (.ref w), (.int 0), (.ref b3), (.ref b3), (.ref b2), (.ref b2)])) rfl hml.symm (argsL := [(.ref w), (.int 0), (.int po), (.int d)]) (rest := [(.int 0), (.ref b3), (.ref b3), (.ref b2), (.ref b2)]) (lenOf pd_8 rfl) rfl (Nat.le_of_eq rfl) (B_ dk149) rfl e3 (by decide) (by decide)
 obtain ⟨v_5, rfl, rfl, Eh5, r5_0⟩ := hQ5
 have N5 := Fr.app N1 (Fr.nil n0)
 refine jp_ st5 ?_
 show Go_ T5 (mkF mm_ 24 #[vr w, vi po, vi d] [(.int v_5), (.int 0), (.ref b3), (.ref b3), (.ref b2), (.ref b2)])
 obtain ⟨cl8, Ar8, q8, S8, M8, H8, G8⟩ := id V3
 have hin8 : ¬ ((0 : Int32) < 0 ∨ cl8.slots.size ≤ ((0 : Int32)).toNatClampNeg) := inb_of S8 ⟨by decide, by decide⟩
 obtain ⟨T8, h8, X8, e8, W8, st8⟩ := stC X5 hx hZ Eh5 Ar8 (j := (0 : Int32)) hin8 (g := (mkF mm_ 24 #[vr w, vi po, vi d] [(.int v_5), (.int 0), (.ref b3), (.ref b3), (.ref b2), (.ref b2)])) rfl rfl (B_ dk150)
 have V8 : Arv Z h8 b3 k3 .char (5 : Int32) [(.int v_5), (.int 0), (.int 0), (.int 0), (.int 0)] (.int 0) := by
  have q := Arv.set Ar8 q8 S8 M8 H8 G8 (fits_nar_char _) W8 0 rfl (Nat.le_of_ble_eq_true rfl)
  rw [own_narLit _ (own_sgc r5_0).1 (own_sgc r5_0).2] at q
  exact q
 have N8 := Fr.snoc X8 N5 g_b3
 refine sp_ st8 ?_
 show Go_ T8 (mkF mm_ 25 #[vr w, vi po, vi d] [(.ref b3), (.ref b2), (.ref b2)])
 refine sp_ (fun t_ k_ => XS.dup X8.here hx rfl (B_ dk151) rfl rfl (XS.iconst X8.here hx rfl (B_ dk152) (XS.aloadN X8.here hx rfl (B_ dk153) rfl rfl (XS.iconst X8.here hx rfl (B_ dk154) (XS.iloadN X8.here hx rfl (B_ dk155) rfl  (XS.iloadN X8.here hx rfl (B_ dk156) rfl  k_)))))) ?_
 show Go_ T8 (mkF mm_ 31 #[vr w, vi po, vi d] [(.int d), (.int po), (.int 1), (.ref w), (.int 1), (.ref b3), (.ref b3), (.ref b2), (.ref b2)])
 have f10 : own_Str Z h8 w t [c0, c1, c2, c3, c4] := (f6.keep (Keep.of_wr W8) (ninS (Nat.ne_of_lt (Nat.lt_of_lt_of_le (pr0.ext E2).lt (Nat.le_of_eq q3.symm))) nin0) (ninS (Nat.ne_of_lt (Nat.lt_of_lt_of_le (pr0.ext E2).ltT (Nat.le_of_eq q3.symm))) nin0))
 have O11 : Old Z n0 h8 := (O7.wr W8 g_b3)
 obtain ⟨_, T9, Lc9, X9, hQ9, st9⟩ := own_cS X8 hx hZ hown (w_ hw 28 rfl) (w_ hw 29 rfl) (w_ hw 11 rfl) (w_ hw 30 rfl) (by decide) (backOf (W := 5) (rmAt l Z a0 hw [] w (1 : Int32) po d t [c0, c1, c2, c3, c4] 1 h8 n0 O11 G_ f10 (sg_d) rfl (Nat.le_of_ble_eq_true rfl)) hZ (w_ hw 30 rfl) (w_ hw 11 rfl) (by decide) (by decide)) (g := (mkF mm_ 31 #[vr w, vi po, vi d] [(.int d), (.int po), (.int 1), (.ref w), (.int 1), (.ref b3), (.ref b3), (.ref b2), (.ref b2)])) rfl hml.symm (argsL := [(.ref w), (.int 1), (.int po), (.int d)]) (rest := [(.int 1), (.ref b3), (.ref b3), (.ref b2), (.ref b2)]) (lenOf pd_8 rfl) rfl (Nat.le_of_eq rfl) (B_ dk157) rfl e8 (by decide) (by decide)
 obtain ⟨v_9, rfl, rfl, Eh9, r9_0⟩ := hQ9
 have N9 := Fr.app N8 (Fr.nil n0)
 refine jp_ st9 ?_
 show Go_ T9 (mkF mm_ 34 #[vr w, vi po, vi d] [(.int v_9), (.int 1), (.ref b3), (.ref b3), (.ref b2), (.ref b2)])
 obtain ⟨cl12, Ar12, q12, S12, M12, H12, G12⟩ := id V8
 have hin12 : ¬ ((1 : Int32) < 0 ∨ cl12.slots.size ≤ ((1 : Int32)).toNatClampNeg) := inb_of S12 ⟨by decide, by decide⟩
 obtain ⟨T12, h12, X12, e12, W12, st12⟩ := stC X9 hx hZ Eh9 Ar12 (j := (1 : Int32)) hin12 (g := (mkF mm_ 34 #[vr w, vi po, vi d] [(.int v_9), (.int 1), (.ref b3), (.ref b3), (.ref b2), (.ref b2)])) rfl rfl (B_ dk158)
 have V12 : Arv Z h12 b3 k3 .char (5 : Int32) [(.int v_5), (.int v_9), (.int 0), (.int 0), (.int 0)] (.int 0) := by
  have q := Arv.set Ar12 q12 S12 M12 H12 G12 (fits_nar_char _) W12 1 rfl (Nat.le_of_ble_eq_true rfl)
  rw [own_narLit _ (own_sgc r9_0).1 (own_sgc r9_0).2] at q
  exact q
 have N12 := Fr.snoc X12 N9 g_b3
 refine sp_ st12 ?_
 show Go_ T12 (mkF mm_ 35 #[vr w, vi po, vi d] [(.ref b3), (.ref b2), (.ref b2)])
 refine sp_ (fun t_ k_ => XS.dup X12.here hx rfl (B_ dk159) rfl rfl (XS.iconst X12.here hx rfl (B_ dk160) (XS.aloadN X12.here hx rfl (B_ dk161) rfl rfl (XS.iconst X12.here hx rfl (B_ dk162) (XS.iloadN X12.here hx rfl (B_ dk163) rfl  (XS.iloadN X12.here hx rfl (B_ dk164) rfl  k_)))))) ?_
 show Go_ T12 (mkF mm_ 41 #[vr w, vi po, vi d] [(.int d), (.int po), (.int 2), (.ref w), (.int 2), (.ref b3), (.ref b3), (.ref b2), (.ref b2)])
 have f14 : own_Str Z h12 w t [c0, c1, c2, c3, c4] := (f10.keep (Keep.of_wr W12) (ninS (Nat.ne_of_lt (Nat.lt_of_lt_of_le (pr0.ext E2).lt (Nat.le_of_eq q3.symm))) nin0) (ninS (Nat.ne_of_lt (Nat.lt_of_lt_of_le (pr0.ext E2).ltT (Nat.le_of_eq q3.symm))) nin0))
 have O15 : Old Z n0 h12 := (O11.wr W12 g_b3)
 obtain ⟨_, T13, Lc13, X13, hQ13, st13⟩ := own_cS X12 hx hZ hown (w_ hw 28 rfl) (w_ hw 29 rfl) (w_ hw 11 rfl) (w_ hw 30 rfl) (by decide) (backOf (W := 5) (rmAt l Z a0 hw [] w (2 : Int32) po d t [c0, c1, c2, c3, c4] 2 h12 n0 O15 G_ f14 (sg_d) rfl (Nat.le_of_ble_eq_true rfl)) hZ (w_ hw 30 rfl) (w_ hw 11 rfl) (by decide) (by decide)) (g := (mkF mm_ 41 #[vr w, vi po, vi d] [(.int d), (.int po), (.int 2), (.ref w), (.int 2), (.ref b3), (.ref b3), (.ref b2), (.ref b2)])) rfl hml.symm (argsL := [(.ref w), (.int 2), (.int po), (.int d)]) (rest := [(.int 2), (.ref b3), (.ref b3), (.ref b2), (.ref b2)]) (lenOf pd_8 rfl) rfl (Nat.le_of_eq rfl) (B_ dk165) rfl e12 (by decide) (by decide)
 obtain ⟨v_13, rfl, rfl, Eh13, r13_0⟩ := hQ13
 have N13 := Fr.app N12 (Fr.nil n0)
 refine jp_ st13 ?_
 show Go_ T13 (mkF mm_ 44 #[vr w, vi po, vi d] [(.int v_13), (.int 2), (.ref b3), (.ref b3), (.ref b2), (.ref b2)])
 obtain ⟨cl16, Ar16, q16, S16, M16, H16, G16⟩ := id V12
 have hin16 : ¬ ((2 : Int32) < 0 ∨ cl16.slots.size ≤ ((2 : Int32)).toNatClampNeg) := inb_of S16 ⟨by decide, by decide⟩
 obtain ⟨T16, h16, X16, e16, W16, st16⟩ := stC X13 hx hZ Eh13 Ar16 (j := (2 : Int32)) hin16 (g := (mkF mm_ 44 #[vr w, vi po, vi d] [(.int v_13), (.int 2), (.ref b3), (.ref b3), (.ref b2), (.ref b2)])) rfl rfl (B_ dk166)
 have V16 : Arv Z h16 b3 k3 .char (5 : Int32) [(.int v_5), (.int v_9), (.int v_13), (.int 0), (.int 0)] (.int 0) := by
  have q := Arv.set Ar16 q16 S16 M16 H16 G16 (fits_nar_char _) W16 2 rfl (Nat.le_of_ble_eq_true rfl)
  rw [own_narLit _ (own_sgc r13_0).1 (own_sgc r13_0).2] at q
  exact q
 have N16 := Fr.snoc X16 N13 g_b3
 refine sp_ st16 ?_
 show Go_ T16 (mkF mm_ 45 #[vr w, vi po, vi d] [(.ref b3), (.ref b2), (.ref b2)])
 refine sp_ (fun t_ k_ => XS.dup X16.here hx rfl (B_ dk167) rfl rfl (XS.iconst X16.here hx rfl (B_ dk168) (XS.aloadN X16.here hx rfl (B_ dk169) rfl rfl (XS.iconst X16.here hx rfl (B_ dk170) (XS.iloadN X16.here hx rfl (B_ dk171) rfl  (XS.iloadN X16.here hx rfl (B_ dk172) rfl  k_)))))) ?_
 show Go_ T16 (mkF mm_ 51 #[vr w, vi po, vi d] [(.int d), (.int po), (.int 3), (.ref w), (.int 3), (.ref b3), (.ref b3), (.ref b2), (.ref b2)])
 have f18 : own_Str Z h16 w t [c0, c1, c2, c3, c4] := (f14.keep (Keep.of_wr W16) (ninS (Nat.ne_of_lt (Nat.lt_of_lt_of_le (pr0.ext E2).lt (Nat.le_of_eq q3.symm))) nin0) (ninS (Nat.ne_of_lt (Nat.lt_of_lt_of_le (pr0.ext E2).ltT (Nat.le_of_eq q3.symm))) nin0))
 have O19 : Old Z n0 h16 := (O15.wr W16 g_b3)
 obtain ⟨_, T17, Lc17, X17, hQ17, st17⟩ := own_cS X16 hx hZ hown (w_ hw 28 rfl) (w_ hw 29 rfl) (w_ hw 11 rfl) (w_ hw 30 rfl) (by decide) (backOf (W := 5) (rmAt l Z a0 hw [] w (3 : Int32) po d t [c0, c1, c2, c3, c4] 3 h16 n0 O19 G_ f18 (sg_d) rfl (Nat.le_of_ble_eq_true rfl)) hZ (w_ hw 30 rfl) (w_ hw 11 rfl) (by decide) (by decide)) (g := (mkF mm_ 51 #[vr w, vi po, vi d] [(.int d), (.int po), (.int 3), (.ref w), (.int 3), (.ref b3), (.ref b3), (.ref b2), (.ref b2)])) rfl hml.symm (argsL := [(.ref w), (.int 3), (.int po), (.int d)]) (rest := [(.int 3), (.ref b3), (.ref b3), (.ref b2), (.ref b2)]) (lenOf pd_8 rfl) rfl (Nat.le_of_eq rfl) (B_ dk173) rfl e16 (by decide) (by decide)
 obtain ⟨v_17, rfl, rfl, Eh17, r17_0⟩ := hQ17
 have N17 := Fr.app N16 (Fr.nil n0)
 refine jp_ st17 ?_
 show Go_ T17 (mkF mm_ 54 #[vr w, vi po, vi d] [(.int v_17), (.int 3), (.ref b3), (.ref b3), (.ref b2), (.ref b2)])
 obtain ⟨cl20, Ar20, q20, S20, M20, H20, G20⟩ := id V16
 have hin20 : ¬ ((3 : Int32) < 0 ∨ cl20.slots.size ≤ ((3 : Int32)).toNatClampNeg) := inb_of S20 ⟨by decide, by decide⟩
 obtain ⟨T20, h20, X20, e20, W20, st20⟩ := stC X17 hx hZ Eh17 Ar20 (j := (3 : Int32)) hin20 (g := (mkF mm_ 54 #[vr w, vi po, vi d] [(.int v_17), (.int 3), (.ref b3), (.ref b3), (.ref b2), (.ref b2)])) rfl rfl (B_ dk174)
 have V20 : Arv Z h20 b3 k3 .char (5 : Int32) [(.int v_5), (.int v_9), (.int v_13), (.int v_17), (.int 0)] (.int 0) := by
  have q := Arv.set Ar20 q20 S20 M20 H20 G20 (fits_nar_char _) W20 3 rfl (Nat.le_of_ble_eq_true rfl)
  rw [own_narLit _ (own_sgc r17_0).1 (own_sgc r17_0).2] at q
  exact q
 have N20 := Fr.snoc X20 N17 g_b3
 refine sp_ st20 ?_
 show Go_ T20 (mkF mm_ 55 #[vr w, vi po, vi d] [(.ref b3), (.ref b2), (.ref b2)])
 refine sp_ (fun t_ k_ => XS.dup X20.here hx rfl (B_ dk175) rfl rfl (XS.iconst X20.here hx rfl (B_ dk176) (XS.aloadN X20.here hx rfl (B_ dk177) rfl rfl (XS.iconst X20.here hx rfl (B_ dk178) (XS.iloadN X20.here hx rfl (B_ dk179) rfl  (XS.iloadN X20.here hx rfl (B_ dk180) rfl  k_)))))) ?_
 show Go_ T20 (mkF mm_ 61 #[vr w, vi po, vi d] [(.int d), (.int po), (.int 4), (.ref w), (.int 4), (.ref b3), (.ref b3), (.ref b2), (.ref b2)])
 have f22 : own_Str Z h20 w t [c0, c1, c2, c3, c4] := (f18.keep (Keep.of_wr W20) (ninS (Nat.ne_of_lt (Nat.lt_of_lt_of_le (pr0.ext E2).lt (Nat.le_of_eq q3.symm))) nin0) (ninS (Nat.ne_of_lt (Nat.lt_of_lt_of_le (pr0.ext E2).ltT (Nat.le_of_eq q3.symm))) nin0))
 have O23 : Old Z n0 h20 := (O19.wr W20 g_b3)
 obtain ⟨_, T21, Lc21, X21, hQ21, st21⟩ := own_cS X20 hx hZ hown (w_ hw 28 rfl) (w_ hw 29 rfl) (w_ hw 11 rfl) (w_ hw 30 rfl) (by decide) (backOf (W := 5) (rmAt l Z a0 hw [] w (4 : Int32) po d t [c0, c1, c2, c3, c4] 4 h20 n0 O23 G_ f22 (sg_d) rfl (Nat.le_of_ble_eq_true rfl)) hZ (w_ hw 30 rfl) (w_ hw 11 rfl) (by decide) (by decide)) (g := (mkF mm_ 61 #[vr w, vi po, vi d] [(.int d), (.int po), (.int 4), (.ref w), (.int 4), (.ref b3), (.ref b3), (.ref b2), (.ref b2)])) rfl hml.symm (argsL := [(.ref w), (.int 4), (.int po), (.int d)]) (rest := [(.int 4), (.ref b3), (.ref b3), (.ref b2), (.ref b2)]) (lenOf pd_8 rfl) rfl (Nat.le_of_eq rfl) (B_ dk181) rfl e20 (by decide) (by decide)
 obtain ⟨v_21, rfl, rfl, Eh21, r21_0⟩ := hQ21
 have N21 := Fr.app N20 (Fr.nil n0)
 refine jp_ st21 ?_
 show Go_ T21 (mkF mm_ 64 #[vr w, vi po, vi d] [(.int v_21), (.int 4), (.ref b3), (.ref b3), (.ref b2), (.ref b2)])
 obtain ⟨cl24, Ar24, q24, S24, M24, H24, G24⟩ := id V20
 have hin24 : ¬ ((4 : Int32) < 0 ∨ cl24.slots.size ≤ ((4 : Int32)).toNatClampNeg) := inb_of S24 ⟨by decide, by decide⟩
 obtain ⟨T24, h24, X24, e24, W24, st24⟩ := stC X21 hx hZ Eh21 Ar24 (j := (4 : Int32)) hin24 (g := (mkF mm_ 64 #[vr w, vi po, vi d] [(.int v_21), (.int 4), (.ref b3), (.ref b3), (.ref b2), (.ref b2)])) rfl rfl (B_ dk182)
 have V24 : Arv Z h24 b3 k3 .char (5 : Int32) [(.int v_5), (.int v_9), (.int v_13), (.int v_17), (.int v_21)] (.int 0) := by
  have q := Arv.set Ar24 q24 S24 M24 H24 G24 (fits_nar_char _) W24 4 rfl (Nat.le_of_ble_eq_true rfl)
  rw [own_narLit _ (own_sgc r21_0).1 (own_sgc r21_0).2] at q
  exact q
 have N24 := Fr.snoc X24 N21 g_b3
 refine sp_ st24 ?_
 show Go_ T24 (mkF mm_ 65 #[vr w, vi po, vi d] [(.ref b3), (.ref b2), (.ref b2)])
 have hp26 : ∀ ch_ ∈ ([v_5, v_9, v_13, v_17, v_21] : List Int32), ¬ ch_ < 0 ∧ ¬ (255 : Int32) < ch_ := by
  intro ch_ hc
  simp only [List.mem_cons, List.not_mem_nil, or_false] at hc
  rcases hc with rfl | rfl | rfl | rfl | rfl
  · exact r5_0
  · exact r9_0
  · exact r13_0
  · exact r17_0
  · exact r21_0
 have f27 : Exa Z h24 b2 sc0 := ((((((A2.ext E3).wr W8).wr W12).wr W16).wr W20).wr W24)
 have f28 : Fld Z h24 b2 sc0 "value" "[B" .null := ((((((F2_value.ext E3).other W8 (Or.inl (Nat.ne_of_lt (Nat.lt_of_lt_of_le A2.lt (Nat.le_of_eq q3.symm))))).other W12 (Or.inl (Nat.ne_of_lt (Nat.lt_of_lt_of_le A2.lt (Nat.le_of_eq q3.symm))))).other W16 (Or.inl (Nat.ne_of_lt (Nat.lt_of_lt_of_le A2.lt (Nat.le_of_eq q3.symm))))).other W20 (Or.inl (Nat.ne_of_lt (Nat.lt_of_lt_of_le A2.lt (Nat.le_of_eq q3.symm))))).other W24 (Or.inl (Nat.ne_of_lt (Nat.lt_of_lt_of_le A2.lt (Nat.le_of_eq q3.symm)))))
 have f29 : Fld Z h24 b2 sc0 "coder" "B" (.int 0) := ((((((F2_coder.ext E3).other W8 (Or.inl (Nat.ne_of_lt (Nat.lt_of_lt_of_le A2.lt (Nat.le_of_eq q3.symm))))).other W12 (Or.inl (Nat.ne_of_lt (Nat.lt_of_lt_of_le A2.lt (Nat.le_of_eq q3.symm))))).other W16 (Or.inl (Nat.ne_of_lt (Nat.lt_of_lt_of_le A2.lt (Nat.le_of_eq q3.symm))))).other W20 (Or.inl (Nat.ne_of_lt (Nat.lt_of_lt_of_le A2.lt (Nat.le_of_eq q3.symm))))).other W24 (Or.inl (Nat.ne_of_lt (Nat.lt_of_lt_of_le A2.lt (Nat.le_of_eq q3.symm)))))
 have O30 : Old Z n0 h24 := (O23.wr W24 g_b3)
 have K31 : Keep h0 h24 [] := ((((((K4.ext E3).wr W8 (Or.inr lo_b3)).wr W12 (Or.inr lo_b3)).wr W16 (Or.inr lo_b3)).wr W20 (Or.inr lo_b3)).wr W24 (Or.inr lo_b3))
 obtain ⟨_, T25, Lc25, X25, hQ25, st25⟩ := own_cI X24 hx hZ rfl hown (w_ hw 53 rfl) (w_ hw 54 rfl) (w_ hw 55 rfl) (by decide) (own_newS (W := 1) hZ hw (cs := [v_5, v_9, v_13, v_17, v_21]) (n := 5) g_b2 (Nat.le_trans Z0 K31.1) f27 f28 f29 V24 (G_cs.ext O30.2) G_cs0 rfl rfl rfl (by decide) (by decide) hp26 (by decide) (by decide)) (g := (mkF mm_ 65 #[vr w, vi po, vi d] [(.ref b3), (.ref b2), (.ref b2)])) rfl hml.symm (a := b2) (argsL := [(.ref b3)]) (rest := [(.ref b2)]) (lenOf pd_9 rfl) rfl (Nat.le_of_eq rfl) (B_ dk183) rfl e24 (by decide) (by decide)
 obtain ⟨t25, rfl, Nq25, Kc25, lo25, Fs25⟩ := hQ25
 have N25 := Fr.app N24 Nq25
 have lo_t25 : h0.size ≤ t25 := Nat.le_trans K31.1 lo25
 have g_t25 : n0 ≤ t25 := Nat.le_trans Z0 lo_t25
 refine jp_ st25 ?_
 show Go_ T25 (mkF mm_ 68 #[vr w, vi po, vi d] [(.ref b2)])
 have K32 : Keep h0 T25.heap [] := (K31.trans Kc25 (allS (Or.inr lo_b2) all0))
 obtain ⟨fs, hr, hrun, hended, hW, hsame⟩ := X25.leave (v := some (.ref b2)) (rN Bd.returns)
 refine ⟨_, _, ?_, hrun, hended, _, _, rfl, ?_, ⟨_, rfl⟩, hW, hsame.mono (by decide) (by decide)⟩
 · jvm_step X25.here [X25.here.top, hx, (B_ dk184), X25.method', Bd.returns, Value.isRef, FieldType.isReference]
   first | (intro acts; rw [hr _ acts rfl rfl rfl]) | rw [hr _ _ rfl rfl rfl]
   exact Steps.refl _
 · show QrmCp5 Z w po d t c0 c1 c2 c3 c4 h0 n0 (some (.ref b2)) T25.heap _
   exact ⟨b2, t25, [v_5, v_9, v_13, v_17, v_21], rfl, N25, K32, lo_b2, Fs25⟩
theorem dk185 : decode J12 0 = .ok (.aload_n 0, 1) := by decide +kernel
theorem dk186 : decode J12 1 = .ok (.invokevirtual 24, 3) := by decide +kernel
theorem dk187 : decode J12 4 = .ok (.iconst 5, 1) := by decide +kernel
theorem dk188 : decode J12 5 = .ok (.if_icmp .ne 59, 3) := by decide +kernel
theorem dk189 : decode J12 8 = .ok (.new 25, 3) := by decide +kernel
theorem dk190 : decode J12 11 = .ok (.dup, 1) := by decide +kernel
theorem dk191 : decode J12 12 = .ok (.bipush 6, 2) := by decide +kernel
theorem dk192 : decode J12 14 = .ok (.newarray .char, 2) := by decide +kernel
theorem dk193 : decode J12 16 = .ok (.dup, 1) := by decide +kernel
theorem dk194 : decode J12 17 = .ok (.iconst 0, 1) := by decide +kernel
theorem dk195 : decode J12 18 = .ok (.aload_n 0, 1) := by decide +kernel
theorem dk196 : decode J12 19 = .ok (.iconst 0, 1) := by decide +kernel
theorem dk197 : decode J12 20 = .ok (.invokevirtual 68, 3) := by decide +kernel
theorem dk198 : decode J12 23 = .ok (.castore, 1) := by decide +kernel
theorem dk199 : decode J12 24 = .ok (.dup, 1) := by decide +kernel
theorem dk200 : decode J12 25 = .ok (.iconst 1, 1) := by decide +kernel
theorem dk201 : decode J12 26 = .ok (.aload_n 0, 1) := by decide +kernel
theorem dk202 : decode J12 27 = .ok (.iconst 1, 1) := by decide +kernel
theorem dk203 : decode J12 28 = .ok (.invokevirtual 68, 3) := by decide +kernel
theorem dk204 : decode J12 31 = .ok (.castore, 1) := by decide +kernel
theorem dk205 : decode J12 32 = .ok (.dup, 1) := by decide +kernel
theorem dk206 : decode J12 33 = .ok (.iconst 2, 1) := by decide +kernel
theorem dk207 : decode J12 34 = .ok (.aload_n 0, 1) := by decide +kernel
theorem dk208 : decode J12 35 = .ok (.iconst 2, 1) := by decide +kernel
theorem dk209 : decode J12 36 = .ok (.invokevirtual 68, 3) := by decide +kernel
theorem dk210 : decode J12 39 = .ok (.castore, 1) := by decide +kernel
theorem dk211 : decode J12 40 = .ok (.dup, 1) := by decide +kernel
theorem dk212 : decode J12 41 = .ok (.iconst 3, 1) := by decide +kernel
theorem dk213 : decode J12 42 = .ok (.aload_n 0, 1) := by decide +kernel
theorem dk214 : decode J12 43 = .ok (.iconst 3, 1) := by decide +kernel
theorem dk215 : decode J12 44 = .ok (.invokevirtual 68, 3) := by decide +kernel
theorem dk216 : decode J12 47 = .ok (.castore, 1) := by decide +kernel
theorem dk217 : decode J12 48 = .ok (.dup, 1) := by decide +kernel
theorem dk218 : decode J12 49 = .ok (.iconst 4, 1) := by decide +kernel
theorem dk219 : decode J12 50 = .ok (.aload_n 0, 1) := by decide +kernel
theorem dk220 : decode J12 51 = .ok (.iconst 4, 1) := by decide +kernel
theorem dk221 : decode J12 52 = .ok (.invokevirtual 68, 3) := by decide +kernel
theorem dk222 : decode J12 55 = .ok (.castore, 1) := by decide +kernel
theorem dk223 : decode J12 56 = .ok (.dup, 1) := by decide +kernel
theorem dk224 : decode J12 57 = .ok (.iconst 5, 1) := by decide +kernel
theorem dk225 : decode J12 58 = .ok (.iload_n 1, 1) := by decide +kernel
theorem dk226 : decode J12 59 = .ok (.castore, 1) := by decide +kernel
theorem dk227 : decode J12 60 = .ok (.invokespecial 76, 3) := by decide +kernel
theorem dk228 : decode J12 63 = .ok (.areturn, 1) := by decide +kernel
theorem ef_rmLo5 (mm_ : MethodId) (w : Addr) (d : Int32) : entryFrame mm_ #[(.ref w), (.int d)] 2 = (mkF mm_ 0 #[vr w, vi d] []) := by first | (simp [entryFrame, mkF, argsToLocals, Value.category]; done) | rfl
def QrmLo5 (Z : State) (w : Addr) (d : Int32) (t : Addr) (c0 : Int32) (c1 : Int32) (c2 : Int32) (c3 : Int32) (c4 : Int32) (h0 : Heap) (n0 : Nat) (vv_ : Option Value) (hh_ : Heap) (LL_ : List Loc) : Prop := ∃ (r : Addr), ∃ (u : Addr), ∃ (ds : List Int32), (vv_ = some (.ref r)) ∧ (Fr n0 LL_) ∧ (Keep h0 hh_ []) ∧ (h0.size ≤ r) ∧ (own_Str Z hh_ r u ds)
theorem rmLo5 (l : Launch) (Z : State) (a0 : Array Value) (hw : own_Hw a0 Z) (ws : List Jvm.Cond) (w : Addr) (d : Int32) (t : Addr) (c0 : Int32) (c1 : Int32) (c2 : Int32) (c3 : Int32) (c4 : Int32) {zc : Int32} {fm : Value} {w_0 : Addr} {w_1 : Addr} {w_2 : Addr} {w_3 : Addr} {wV : Addr} {kV : ClassId} {s_0 : Addr} {t_0 : Addr} {s_1 : Addr} {t_1 : Addr} {s_2 : Addr} {t_2 : Addr} {s_3 : Addr} {t_3 : Addr} (h0 : Heap) (n0 : Nat) (O0 : Old Z n0 h0) (G_ : own_St Z zc fm w_0 w_1 w_2 w_3 wV kV s_0 t_0 s_1 t_1 s_2 t_2 s_3 t_3) (pr0 : own_Str Z h0 w t [c0, c1, c2, c3, c4]) (sg_d : ¬ d < (0 : Int32) ∧ ¬ (255 : Int32) < d) :
 MetFree l ym4 (head1 (Jvm.Cond.code ym4 J12 2 (some (.object sc0)) :: ws) (rm_ 4 3 16 66)) (fun aa_ UU_ => aa_ = #[(.ref w), (.int d)] ∧ Z.Warmed39 UU_.vm ∧ UU_.heap = h0) (fun _ _ _ _ _ => True) (fun _ UU_ oo_ UV_ => ∃ vv_ LL_, oo_ = .returned vv_ ∧ QrmLo5 Z w d t c0 c1 c2 c3 c4 h0 n0 vv_ UV_.heap LL_ ∧ FrameEnd UU_ oo_ UV_ LL_ (rm_ 4 3 16 66).cells (rm_ 4 3 16 66).slots) := by
 refine MetFree.of_bodySF (plainFor_of_name pn_com_example_vestwright_vestwright_census_ReasonOfPinLaw) hisR ?_
 intro pp_ ee_ ss_ mm_ args_ bb_ me_ cc_ s₁ Bd hml0 hP hK
 obtain ⟨rfl, hZ, hh⟩ := hP
 have hx := Bd.exec
 have hby := Bd.bytes; have B_ {q_ : Nat} {r_ : _} (h_ : decode _ q_ = r_) := hb hby h_
 have hml : cc_.maxLocals = 2 := hml0
 have hown : ss_.vm.findClass sc1 = some mm_.cls := findClass_of_methodNamed Bd.named
 have hnm := (name_of_methodNamed Bd.named Bd.method).1
 have X0 : Stand pp_ l ee_ (rm_ 4 3 16 66) ss_ mm_ #[(.ref w), (.int d)] bb_ me_ cc_ s₁ [] 0 0 := Stand.of_body Bd
 have e0 : s₁.heap = h0 := by rw [← hh, Bd.state]; rfl
 have N0 := Fr.nil n0
 show own_Go pp_ ee_ bb_ _ s₁ (entryFrame mm_ #[(.ref w), (.int d)] 2)
 refine own_cast (ef_rmLo5 mm_ w d) ?_
 have Z0 : n0 ≤ h0.size := by have q := O0.2.1; rw [O0.1] at q; exact q
 have K0 : Keep h0 h0 [] := Keep.refl _ _
 obtain ⟨G_cs, G_cs0, G_fm, G_fr, G_S1, G_S2, G_S3, G_S4, G_S5, G_E6, G_E7, G_E8, G_E9, G_E10, G_V11, G_F12, G_T13, G_F17, G_T18, G_F22, G_T23, G_F27, G_T28, G_cw, G_h_com_example_vestwright_vestwright_census_ReasonOfPinLaw_7, G_h_com_example_vestwright_vestwright_census_ReasonOfPinLaw_9, G_h_com_example_vestwright_vestwright_census_ReasonOfPinLaw_11, G_h_com_example_vestwright_vestwright_census_ReasonOfPinLaw_13, G_h_java_lang_String_7⟩ := id G_
 show Go_ s₁ (mkF mm_ 0 #[vr w, vi d] [])
 refine sp_ (fun t_ k_ => XS.aloadN X0.here hx rfl (B_ dk185) rfl rfl k_) ?_
 show Go_ s₁ (mkF mm_ 1 #[vr w, vi d] [(.ref w)])
 obtain ⟨_, T1, Lc1, X1, hQ1, st1⟩ := own_cV X0 hx hZ hown (w_ hw 13 rfl) (w_ hw 14 rfl) (notFace_of_selects (args := #[]) (mvT hZ (w_ hw 16 rfl))) (w_ hw 16 rfl) (w_ hw 15 rfl) (by decide) (own_lenS (W := 0) hZ hw pr0 (G_cs.ext O0.2) G_cs0 (by decide) (by decide)) pr0.1 (g := (mkF mm_ 1 #[vr w, vi d] [(.ref w)])) rfl hml.symm (argsL := []) (rest := []) (lenOf pd_7 rfl) rfl (Nat.le_of_eq rfl) (B_ dk186) rfl e0 (by decide) (by decide)
 obtain ⟨rfl, rfl, Eh1⟩ := hQ1
 have N1 := Fr.app N0 (Fr.nil n0)
 refine jp_ st1 ?_
 show Go_ T1 (mkF mm_ 4 #[vr w, vi d] [(.int 5)])
 refine sp_ (fun t_ k_ => XS.iconst X1.here hx rfl (B_ dk187) k_) ?_
 show Go_ T1 (mkF mm_ 5 #[vr w, vi d] [(.int 5), (.int 5)])
 refine sp_ (fun t_ k_ => XS.icmpNo X1.here hx rfl (B_ dk188) rfl (teq (by decide : (5 : Int32) = (5 : Int32))).2 k_) ?_
 show Go_ T1 (mkF mm_ 8 #[vr w, vi d] [])
 obtain ⟨T2, h2, X2, e2, E2, A2, D2, -, st2⟩ := newO X1 hx hZ hown (w_ hw 26 rfl) (w_ hw 2 rfl) (w_ hw 1 rfl) Eh1 (g := (mkF mm_ 8 #[vr w, vi d] [])) rfl (B_ dk189) (by decide) (by decide)
 obtain ⟨b2, q2⟩ : ∃ z, z = h0.size := ⟨_, rfl⟩
 rw [← q2] at A2 D2 st2
 have lo_b2 : h0.size ≤ b2 := Nat.le_trans K0.1 (Nat.le_of_eq q2.symm)
 have g_b2 : n0 ≤ b2 := Nat.le_trans Z0 lo_b2
 refine sp_ st2 ?_
 have F2_value : Fld Z h2 b2 sc0 "value" "[B" .null := D2 (Or.inr (w_ hw 4 rfl)) (ty := (.array .byte)) (by decide)
 have F2_coder : Fld Z h2 b2 sc0 "coder" "B" (.int 0) := D2 (Or.inr (w_ hw 5 rfl)) (ty := .byte) (by decide)
 show Go_ T2 (mkF mm_ 11 #[vr w, vi d] [(.ref b2)])
 refine sp_ (fun t_ k_ => XS.dup X2.here hx rfl (B_ dk190) rfl rfl (XS.bipush X2.here hx rfl (B_ dk191) k_)) ?_
 show Go_ T2 (mkF mm_ 14 #[vr w, vi d] [(.int 6), (.ref b2), (.ref b2)])
 obtain ⟨T3, h3, k3, X3, e3, E3, A3, st3⟩ := newP X2 hx hZ (w_ hw 27 rfl) e2 (g := (mkF mm_ 14 #[vr w, vi d] [(.int 6), (.ref b2), (.ref b2)])) rfl (B_ dk192) rfl (by decide) (cap := 6) (by decide) (by decide) (by decide) (by decide)
 obtain ⟨b3, q3⟩ : ∃ z, z = h2.size := ⟨_, rfl⟩
 rw [← q3] at A3 st3
 have K4 : Keep h0 h2 [] := (K0.ext E2)
 have lo_b3 : h0.size ≤ b3 := Nat.le_trans K4.1 (Nat.le_of_eq q3.symm)
 have g_b3 : n0 ≤ b3 := Nat.le_trans Z0 lo_b3
 refine sp_ st3 ?_
 have V3 : Arv Z h3 b3 k3 .char (6 : Int32) [(.int 0), (.int 0), (.int 0), (.int 0), (.int 0), (.int 0)] (.int 0) := (Arv.new A3 (by decide)).pad (pad_rep [] (.int 0) 6)
 show Go_ T3 (mkF mm_ 16 #[vr w, vi d] [(.ref b3), (.ref b2), (.ref b2)])
 refine sp_ (fun t_ k_ => XS.dup X3.here hx rfl (B_ dk193) rfl rfl (XS.iconst X3.here hx rfl (B_ dk194) (XS.aloadN X3.here hx rfl (B_ dk195) rfl rfl (XS.iconst X3.here hx rfl (B_ dk196) k_)))) ?_
 show Go_ T3 (mkF mm_ 20 #[vr w, vi d] [(.int 0), (.ref w), (.int 0), (.ref b3), (.ref b3), (.ref b2), (.ref b2)])
 have f6 : own_Str Z h3 w t [c0, c1, c2, c3, c4] := ((pr0.ext E2).ext E3)
 have O7 : Old Z n0 h3 := ((O0.ext E2).ext E3)
 obtain ⟨_, T5, Lc5, X5, hQ5, st5⟩ := own_cV X3 hx hZ hown (w_ hw 31 rfl) (w_ hw 32 rfl) (notFace_of_selects (args := #[]) (mvT hZ (w_ hw 34 rfl))) (w_ hw 34 rfl) (w_ hw 33 rfl) (by decide) (own_chS (W := 5) hZ hw f6 (G_cs.ext O7.2) G_cs0 (G_fm.ext O7.2) G_fr (i := 0) (Nat.le_of_ble_eq_true rfl) (j := (0 : Int32)) rfl (by decide) (by decide)) f6.1 (g := (mkF mm_ 20 #[vr w, vi d] [(.int 0), (.ref w), (.int 0), (.ref b3), (.ref b3), (.ref b2), (.ref b2)])) rfl hml.symm (argsL := [(.int 0)]) (rest := [(.int 0), (.ref b3), (.ref b3), (.ref b2), (.ref b2)]) (lenOf pd_6 rfl) rfl (Nat.le_of_eq rfl) (B_ dk197) rfl e3 (by decide) (by decide)
 obtain ⟨rfl, rfl, Eh5⟩ := hQ5
 have N5 := Fr.app N1 (Fr.nil n0)
 refine jp_ st5 ?_
 show Go_ T5 (mkF mm_ 23 #[vr w, vi d] [(.int c0), (.int 0), (.ref b3), (.ref b3), (.ref b2), (.ref b2)])
 obtain ⟨cl8, Ar8, q8, S8, M8, H8, G8⟩ := id V3
 have hin8 : ¬ ((0 : Int32) < 0 ∨ cl8.slots.size ≤ ((0 : Int32)).toNatClampNeg) := inb_of S8 ⟨by decide, by decide⟩
 obtain ⟨T8, h8, X8, e8, W8, st8⟩ := stC X5 hx hZ Eh5 Ar8 (j := (0 : Int32)) hin8 (g := (mkF mm_ 23 #[vr w, vi d] [(.int c0), (.int 0), (.ref b3), (.ref b3), (.ref b2), (.ref b2)])) rfl rfl (B_ dk198)
 have V8 : Arv Z h8 b3 k3 .char (6 : Int32) [(.int c0), (.int 0), (.int 0), (.int 0), (.int 0), (.int 0)] (.int 0) := by
  have q := Arv.set Ar8 q8 S8 M8 H8 G8 (fits_nar_char _) W8 0 rfl (Nat.le_of_ble_eq_true rfl)
  rw [own_narLit _ (own_sgc ((f6.2.2.2.2.1 _ (List.mem_of_getElem? (i := 0) rfl)))).1 (own_sgc ((f6.2.2.2.2.1 _ (List.mem_of_getElem? (i := 0) rfl)))).2] at q
  exact q
 have N8 := Fr.snoc X8 N5 g_b3
 refine sp_ st8 ?_
 show Go_ T8 (mkF mm_ 24 #[vr w, vi d] [(.ref b3), (.ref b2), (.ref b2)])
 refine sp_ (fun t_ k_ => XS.dup X8.here hx rfl (B_ dk199) rfl rfl (XS.iconst X8.here hx rfl (B_ dk200) (XS.aloadN X8.here hx rfl (B_ dk201) rfl rfl (XS.iconst X8.here hx rfl (B_ dk202) k_)))) ?_
 show Go_ T8 (mkF mm_ 28 #[vr w, vi d] [(.int 1), (.ref w), (.int 1), (.ref b3), (.ref b3), (.ref b2), (.ref b2)])
 have f10 : own_Str Z h8 w t [c0, c1, c2, c3, c4] := (f6.keep (Keep.of_wr W8) (ninS (Nat.ne_of_lt (Nat.lt_of_lt_of_le (pr0.ext E2).lt (Nat.le_of_eq q3.symm))) nin0) (ninS (Nat.ne_of_lt (Nat.lt_of_lt_of_le (pr0.ext E2).ltT (Nat.le_of_eq q3.symm))) nin0))
 have O11 : Old Z n0 h8 := (O7.wr W8 g_b3)
 obtain ⟨_, T9, Lc9, X9, hQ9, st9⟩ := own_cV X8 hx hZ hown (w_ hw 31 rfl) (w_ hw 32 rfl) (notFace_of_selects (args := #[]) (mvT hZ (w_ hw 34 rfl))) (w_ hw 34 rfl) (w_ hw 33 rfl) (by decide) (own_chS (W := 5) hZ hw f10 (G_cs.ext O11.2) G_cs0 (G_fm.ext O11.2) G_fr (i := 1) (Nat.le_of_ble_eq_true rfl) (j := (1 : Int32)) rfl (by decide) (by decide)) f10.1 (g := (mkF mm_ 28 #[vr w, vi d] [(.int 1), (.ref w), (.int 1), (.ref b3), (.ref b3), (.ref b2), (.ref b2)])) rfl hml.symm (argsL := [(.int 1)]) (rest := [(.int 1), (.ref b3), (.ref b3), (.ref b2), (.ref b2)]) (lenOf pd_6 rfl) rfl (Nat.le_of_eq rfl) (B_ dk203) rfl e8 (by decide) (by decide)
 obtain ⟨rfl, rfl, Eh9⟩ := hQ9
 have N9 := Fr.app N8 (Fr.nil n0)
 refine jp_ st9 ?_
 show Go_ T9 (mkF mm_ 31 #[vr w, vi d] [(.int c1), (.int 1), (.ref b3), (.ref b3), (.ref b2), (.ref b2)])
 obtain ⟨cl12, Ar12, q12, S12, M12, H12, G12⟩ := id V8
 have hin12 : ¬ ((1 : Int32) < 0 ∨ cl12.slots.size ≤ ((1 : Int32)).toNatClampNeg) := inb_of S12 ⟨by decide, by decide⟩
 obtain ⟨T12, h12, X12, e12, W12, st12⟩ := stC X9 hx hZ Eh9 Ar12 (j := (1 : Int32)) hin12 (g := (mkF mm_ 31 #[vr w, vi d] [(.int c1), (.int 1), (.ref b3), (.ref b3), (.ref b2), (.ref b2)])) rfl rfl (B_ dk204)
 have V12 : Arv Z h12 b3 k3 .char (6 : Int32) [(.int c0), (.int c1), (.int 0), (.int 0), (.int 0), (.int 0)] (.int 0) := by
  have q := Arv.set Ar12 q12 S12 M12 H12 G12 (fits_nar_char _) W12 1 rfl (Nat.le_of_ble_eq_true rfl)
  rw [own_narLit _ (own_sgc ((f10.2.2.2.2.1 _ (List.mem_of_getElem? (i := 1) rfl)))).1 (own_sgc ((f10.2.2.2.2.1 _ (List.mem_of_getElem? (i := 1) rfl)))).2] at q
  exact q
 have N12 := Fr.snoc X12 N9 g_b3
 refine sp_ st12 ?_
 show Go_ T12 (mkF mm_ 32 #[vr w, vi d] [(.ref b3), (.ref b2), (.ref b2)])
 refine sp_ (fun t_ k_ => XS.dup X12.here hx rfl (B_ dk205) rfl rfl (XS.iconst X12.here hx rfl (B_ dk206) (XS.aloadN X12.here hx rfl (B_ dk207) rfl rfl (XS.iconst X12.here hx rfl (B_ dk208) k_)))) ?_
 show Go_ T12 (mkF mm_ 36 #[vr w, vi d] [(.int 2), (.ref w), (.int 2), (.ref b3), (.ref b3), (.ref b2), (.ref b2)])
 have f14 : own_Str Z h12 w t [c0, c1, c2, c3, c4] := (f10.keep (Keep.of_wr W12) (ninS (Nat.ne_of_lt (Nat.lt_of_lt_of_le (pr0.ext E2).lt (Nat.le_of_eq q3.symm))) nin0) (ninS (Nat.ne_of_lt (Nat.lt_of_lt_of_le (pr0.ext E2).ltT (Nat.le_of_eq q3.symm))) nin0))
 have O15 : Old Z n0 h12 := (O11.wr W12 g_b3)
 obtain ⟨_, T13, Lc13, X13, hQ13, st13⟩ := own_cV X12 hx hZ hown (w_ hw 31 rfl) (w_ hw 32 rfl) (notFace_of_selects (args := #[]) (mvT hZ (w_ hw 34 rfl))) (w_ hw 34 rfl) (w_ hw 33 rfl) (by decide) (own_chS (W := 5) hZ hw f14 (G_cs.ext O15.2) G_cs0 (G_fm.ext O15.2) G_fr (i := 2) (Nat.le_of_ble_eq_true rfl) (j := (2 : Int32)) rfl (by decide) (by decide)) f14.1 (g := (mkF mm_ 36 #[vr w, vi d] [(.int 2), (.ref w), (.int 2), (.ref b3), (.ref b3), (.ref b2), (.ref b2)])) rfl hml.symm (argsL := [(.int 2)]) (rest := [(.int 2), (.ref b3), (.ref b3), (.ref b2), (.ref b2)]) (lenOf pd_6 rfl) rfl (Nat.le_of_eq rfl) (B_ dk209) rfl e12 (by decide) (by decide)
 obtain ⟨rfl, rfl, Eh13⟩ := hQ13
 have N13 := Fr.app N12 (Fr.nil n0)
 refine jp_ st13 ?_
 show Go_ T13 (mkF mm_ 39 #[vr w, vi d] [(.int c2), (.int 2), (.ref b3), (.ref b3), (.ref b2), (.ref b2)])
 obtain ⟨cl16, Ar16, q16, S16, M16, H16, G16⟩ := id V12
 have hin16 : ¬ ((2 : Int32) < 0 ∨ cl16.slots.size ≤ ((2 : Int32)).toNatClampNeg) := inb_of S16 ⟨by decide, by decide⟩
 obtain ⟨T16, h16, X16, e16, W16, st16⟩ := stC X13 hx hZ Eh13 Ar16 (j := (2 : Int32)) hin16 (g := (mkF mm_ 39 #[vr w, vi d] [(.int c2), (.int 2), (.ref b3), (.ref b3), (.ref b2), (.ref b2)])) rfl rfl (B_ dk210)
 have V16 : Arv Z h16 b3 k3 .char (6 : Int32) [(.int c0), (.int c1), (.int c2), (.int 0), (.int 0), (.int 0)] (.int 0) := by
  have q := Arv.set Ar16 q16 S16 M16 H16 G16 (fits_nar_char _) W16 2 rfl (Nat.le_of_ble_eq_true rfl)
  rw [own_narLit _ (own_sgc ((f14.2.2.2.2.1 _ (List.mem_of_getElem? (i := 2) rfl)))).1 (own_sgc ((f14.2.2.2.2.1 _ (List.mem_of_getElem? (i := 2) rfl)))).2] at q
  exact q
 have N16 := Fr.snoc X16 N13 g_b3
 refine sp_ st16 ?_
 show Go_ T16 (mkF mm_ 40 #[vr w, vi d] [(.ref b3), (.ref b2), (.ref b2)])
 refine sp_ (fun t_ k_ => XS.dup X16.here hx rfl (B_ dk211) rfl rfl (XS.iconst X16.here hx rfl (B_ dk212) (XS.aloadN X16.here hx rfl (B_ dk213) rfl rfl (XS.iconst X16.here hx rfl (B_ dk214) k_)))) ?_
 show Go_ T16 (mkF mm_ 44 #[vr w, vi d] [(.int 3), (.ref w), (.int 3), (.ref b3), (.ref b3), (.ref b2), (.ref b2)])
 have f18 : own_Str Z h16 w t [c0, c1, c2, c3, c4] := (f14.keep (Keep.of_wr W16) (ninS (Nat.ne_of_lt (Nat.lt_of_lt_of_le (pr0.ext E2).lt (Nat.le_of_eq q3.symm))) nin0) (ninS (Nat.ne_of_lt (Nat.lt_of_lt_of_le (pr0.ext E2).ltT (Nat.le_of_eq q3.symm))) nin0))
 have O19 : Old Z n0 h16 := (O15.wr W16 g_b3)
 obtain ⟨_, T17, Lc17, X17, hQ17, st17⟩ := own_cV X16 hx hZ hown (w_ hw 31 rfl) (w_ hw 32 rfl) (notFace_of_selects (args := #[]) (mvT hZ (w_ hw 34 rfl))) (w_ hw 34 rfl) (w_ hw 33 rfl) (by decide) (own_chS (W := 5) hZ hw f18 (G_cs.ext O19.2) G_cs0 (G_fm.ext O19.2) G_fr (i := 3) (Nat.le_of_ble_eq_true rfl) (j := (3 : Int32)) rfl (by decide) (by decide)) f18.1 (g := (mkF mm_ 44 #[vr w, vi d] [(.int 3), (.ref w), (.int 3), (.ref b3), (.ref b3), (.ref b2), (.ref b2)])) rfl hml.symm (argsL := [(.int 3)]) (rest := [(.int 3), (.ref b3), (.ref b3), (.ref b2), (.ref b2)]) (lenOf pd_6 rfl) rfl (Nat.le_of_eq rfl) (B_ dk215) rfl e16 (by decide) (by decide)
 obtain ⟨rfl, rfl, Eh17⟩ := hQ17
 have N17 := Fr.app N16 (Fr.nil n0)
 refine jp_ st17 ?_
 show Go_ T17 (mkF mm_ 47 #[vr w, vi d] [(.int c3), (.int 3), (.ref b3), (.ref b3), (.ref b2), (.ref b2)])
 obtain ⟨cl20, Ar20, q20, S20, M20, H20, G20⟩ := id V16
 have hin20 : ¬ ((3 : Int32) < 0 ∨ cl20.slots.size ≤ ((3 : Int32)).toNatClampNeg) := inb_of S20 ⟨by decide, by decide⟩
 obtain ⟨T20, h20, X20, e20, W20, st20⟩ := stC X17 hx hZ Eh17 Ar20 (j := (3 : Int32)) hin20 (g := (mkF mm_ 47 #[vr w, vi d] [(.int c3), (.int 3), (.ref b3), (.ref b3), (.ref b2), (.ref b2)])) rfl rfl (B_ dk216)
 have V20 : Arv Z h20 b3 k3 .char (6 : Int32) [(.int c0), (.int c1), (.int c2), (.int c3), (.int 0), (.int 0)] (.int 0) := by
  have q := Arv.set Ar20 q20 S20 M20 H20 G20 (fits_nar_char _) W20 3 rfl (Nat.le_of_ble_eq_true rfl)
  rw [own_narLit _ (own_sgc ((f18.2.2.2.2.1 _ (List.mem_of_getElem? (i := 3) rfl)))).1 (own_sgc ((f18.2.2.2.2.1 _ (List.mem_of_getElem? (i := 3) rfl)))).2] at q
  exact q
 have N20 := Fr.snoc X20 N17 g_b3
 refine sp_ st20 ?_
 show Go_ T20 (mkF mm_ 48 #[vr w, vi d] [(.ref b3), (.ref b2), (.ref b2)])
 refine sp_ (fun t_ k_ => XS.dup X20.here hx rfl (B_ dk217) rfl rfl (XS.iconst X20.here hx rfl (B_ dk218) (XS.aloadN X20.here hx rfl (B_ dk219) rfl rfl (XS.iconst X20.here hx rfl (B_ dk220) k_)))) ?_
 show Go_ T20 (mkF mm_ 52 #[vr w, vi d] [(.int 4), (.ref w), (.int 4), (.ref b3), (.ref b3), (.ref b2), (.ref b2)])
 have f22 : own_Str Z h20 w t [c0, c1, c2, c3, c4] := (f18.keep (Keep.of_wr W20) (ninS (Nat.ne_of_lt (Nat.lt_of_lt_of_le (pr0.ext E2).lt (Nat.le_of_eq q3.symm))) nin0) (ninS (Nat.ne_of_lt (Nat.lt_of_lt_of_le (pr0.ext E2).ltT (Nat.le_of_eq q3.symm))) nin0))
 have O23 : Old Z n0 h20 := (O19.wr W20 g_b3)
 obtain ⟨_, T21, Lc21, X21, hQ21, st21⟩ := own_cV X20 hx hZ hown (w_ hw 31 rfl) (w_ hw 32 rfl) (notFace_of_selects (args := #[]) (mvT hZ (w_ hw 34 rfl))) (w_ hw 34 rfl) (w_ hw 33 rfl) (by decide) (own_chS (W := 5) hZ hw f22 (G_cs.ext O23.2) G_cs0 (G_fm.ext O23.2) G_fr (i := 4) (Nat.le_of_ble_eq_true rfl) (j := (4 : Int32)) rfl (by decide) (by decide)) f22.1 (g := (mkF mm_ 52 #[vr w, vi d] [(.int 4), (.ref w), (.int 4), (.ref b3), (.ref b3), (.ref b2), (.ref b2)])) rfl hml.symm (argsL := [(.int 4)]) (rest := [(.int 4), (.ref b3), (.ref b3), (.ref b2), (.ref b2)]) (lenOf pd_6 rfl) rfl (Nat.le_of_eq rfl) (B_ dk221) rfl e20 (by decide) (by decide)
 obtain ⟨rfl, rfl, Eh21⟩ := hQ21
 have N21 := Fr.app N20 (Fr.nil n0)
 refine jp_ st21 ?_
 show Go_ T21 (mkF mm_ 55 #[vr w, vi d] [(.int c4), (.int 4), (.ref b3), (.ref b3), (.ref b2), (.ref b2)])
 obtain ⟨cl24, Ar24, q24, S24, M24, H24, G24⟩ := id V20
 have hin24 : ¬ ((4 : Int32) < 0 ∨ cl24.slots.size ≤ ((4 : Int32)).toNatClampNeg) := inb_of S24 ⟨by decide, by decide⟩
 obtain ⟨T24, h24, X24, e24, W24, st24⟩ := stC X21 hx hZ Eh21 Ar24 (j := (4 : Int32)) hin24 (g := (mkF mm_ 55 #[vr w, vi d] [(.int c4), (.int 4), (.ref b3), (.ref b3), (.ref b2), (.ref b2)])) rfl rfl (B_ dk222)
 have V24 : Arv Z h24 b3 k3 .char (6 : Int32) [(.int c0), (.int c1), (.int c2), (.int c3), (.int c4), (.int 0)] (.int 0) := by
  have q := Arv.set Ar24 q24 S24 M24 H24 G24 (fits_nar_char _) W24 4 rfl (Nat.le_of_ble_eq_true rfl)
  rw [own_narLit _ (own_sgc ((f22.2.2.2.2.1 _ (List.mem_of_getElem? (i := 4) rfl)))).1 (own_sgc ((f22.2.2.2.2.1 _ (List.mem_of_getElem? (i := 4) rfl)))).2] at q
  exact q
 have N24 := Fr.snoc X24 N21 g_b3
 refine sp_ st24 ?_
 show Go_ T24 (mkF mm_ 56 #[vr w, vi d] [(.ref b3), (.ref b2), (.ref b2)])
 refine sp_ (fun t_ k_ => XS.dup X24.here hx rfl (B_ dk223) rfl rfl (XS.iconst X24.here hx rfl (B_ dk224) (XS.iloadN X24.here hx rfl (B_ dk225) rfl  k_))) ?_
 show Go_ T24 (mkF mm_ 59 #[vr w, vi d] [(.int d), (.int 5), (.ref b3), (.ref b3), (.ref b2), (.ref b2)])
 obtain ⟨cl25, Ar25, q25, S25, M25, H25, G25⟩ := id V24
 have hin25 : ¬ ((5 : Int32) < 0 ∨ cl25.slots.size ≤ ((5 : Int32)).toNatClampNeg) := inb_of S25 ⟨by decide, by decide⟩
 obtain ⟨T25, h25, X25, e25, W25, st25⟩ := stC X24 hx hZ e24 Ar25 (j := (5 : Int32)) hin25 (g := (mkF mm_ 59 #[vr w, vi d] [(.int d), (.int 5), (.ref b3), (.ref b3), (.ref b2), (.ref b2)])) rfl rfl (B_ dk226)
 have V25 : Arv Z h25 b3 k3 .char (6 : Int32) [(.int c0), (.int c1), (.int c2), (.int c3), (.int c4), (.int d)] (.int 0) := by
  have q := Arv.set Ar25 q25 S25 M25 H25 G25 (fits_nar_char _) W25 5 rfl (Nat.le_of_ble_eq_true rfl)
  rw [own_narLit _ (own_sgc sg_d).1 (own_sgc sg_d).2] at q
  exact q
 have N25 := Fr.snoc X25 N24 g_b3
 refine sp_ st25 ?_
 show Go_ T25 (mkF mm_ 60 #[vr w, vi d] [(.ref b3), (.ref b2), (.ref b2)])
 have hp27 : ∀ ch_ ∈ ([c0, c1, c2, c3, c4, d] : List Int32), ¬ ch_ < 0 ∧ ¬ (255 : Int32) < ch_ := by
  intro ch_ hc
  simp only [List.mem_cons, List.not_mem_nil, or_false] at hc
  rcases hc with rfl | rfl | rfl | rfl | rfl | rfl
  · exact (f22.2.2.2.2.1 _ (List.mem_of_getElem? (i := 0) rfl))
  · exact (f22.2.2.2.2.1 _ (List.mem_of_getElem? (i := 1) rfl))
  · exact (f22.2.2.2.2.1 _ (List.mem_of_getElem? (i := 2) rfl))
  · exact (f22.2.2.2.2.1 _ (List.mem_of_getElem? (i := 3) rfl))
  · exact (f22.2.2.2.2.1 _ (List.mem_of_getElem? (i := 4) rfl))
  · exact sg_d
 have f28 : Exa Z h25 b2 sc0 := (((((((A2.ext E3).wr W8).wr W12).wr W16).wr W20).wr W24).wr W25)
 have f29 : Fld Z h25 b2 sc0 "value" "[B" .null := (((((((F2_value.ext E3).other W8 (Or.inl (Nat.ne_of_lt (Nat.lt_of_lt_of_le A2.lt (Nat.le_of_eq q3.symm))))).other W12 (Or.inl (Nat.ne_of_lt (Nat.lt_of_lt_of_le A2.lt (Nat.le_of_eq q3.symm))))).other W16 (Or.inl (Nat.ne_of_lt (Nat.lt_of_lt_of_le A2.lt (Nat.le_of_eq q3.symm))))).other W20 (Or.inl (Nat.ne_of_lt (Nat.lt_of_lt_of_le A2.lt (Nat.le_of_eq q3.symm))))).other W24 (Or.inl (Nat.ne_of_lt (Nat.lt_of_lt_of_le A2.lt (Nat.le_of_eq q3.symm))))).other W25 (Or.inl (Nat.ne_of_lt (Nat.lt_of_lt_of_le A2.lt (Nat.le_of_eq q3.symm)))))
 have f30 : Fld Z h25 b2 sc0 "coder" "B" (.int 0) := (((((((F2_coder.ext E3).other W8 (Or.inl (Nat.ne_of_lt (Nat.lt_of_lt_of_le A2.lt (Nat.le_of_eq q3.symm))))).other W12 (Or.inl (Nat.ne_of_lt (Nat.lt_of_lt_of_le A2.lt (Nat.le_of_eq q3.symm))))).other W16 (Or.inl (Nat.ne_of_lt (Nat.lt_of_lt_of_le A2.lt (Nat.le_of_eq q3.symm))))).other W20 (Or.inl (Nat.ne_of_lt (Nat.lt_of_lt_of_le A2.lt (Nat.le_of_eq q3.symm))))).other W24 (Or.inl (Nat.ne_of_lt (Nat.lt_of_lt_of_le A2.lt (Nat.le_of_eq q3.symm))))).other W25 (Or.inl (Nat.ne_of_lt (Nat.lt_of_lt_of_le A2.lt (Nat.le_of_eq q3.symm)))))
 have O31 : Old Z n0 h25 := ((O23.wr W24 g_b3).wr W25 g_b3)
 have K32 : Keep h0 h25 [] := (((((((K4.ext E3).wr W8 (Or.inr lo_b3)).wr W12 (Or.inr lo_b3)).wr W16 (Or.inr lo_b3)).wr W20 (Or.inr lo_b3)).wr W24 (Or.inr lo_b3)).wr W25 (Or.inr lo_b3))
 obtain ⟨_, T26, Lc26, X26, hQ26, st26⟩ := own_cI X25 hx hZ rfl hown (w_ hw 53 rfl) (w_ hw 54 rfl) (w_ hw 55 rfl) (by decide) (own_newS (W := 1) hZ hw (cs := [c0, c1, c2, c3, c4, d]) (n := 6) g_b2 (Nat.le_trans Z0 K32.1) f28 f29 f30 V25 (G_cs.ext O31.2) G_cs0 rfl rfl rfl (by decide) (by decide) hp27 (by decide) (by decide)) (g := (mkF mm_ 60 #[vr w, vi d] [(.ref b3), (.ref b2), (.ref b2)])) rfl hml.symm (a := b2) (argsL := [(.ref b3)]) (rest := [(.ref b2)]) (lenOf pd_9 rfl) rfl (Nat.le_of_eq rfl) (B_ dk227) rfl e25 (by decide) (by decide)
 obtain ⟨t26, rfl, Nq26, Kc26, lo26, Fs26⟩ := hQ26
 have N26 := Fr.app N25 Nq26
 have lo_t26 : h0.size ≤ t26 := Nat.le_trans K32.1 lo26
 have g_t26 : n0 ≤ t26 := Nat.le_trans Z0 lo_t26
 refine jp_ st26 ?_
 show Go_ T26 (mkF mm_ 63 #[vr w, vi d] [(.ref b2)])
 have K33 : Keep h0 T26.heap [] := (K32.trans Kc26 (allS (Or.inr lo_b2) all0))
 obtain ⟨fs, hr, hrun, hended, hW, hsame⟩ := X26.leave (v := some (.ref b2)) (rN Bd.returns)
 refine ⟨_, _, ?_, hrun, hended, _, _, rfl, ?_, ⟨_, rfl⟩, hW, hsame.mono (by decide) (by decide)⟩
 · jvm_step X26.here [X26.here.top, hx, (B_ dk228), X26.method', Bd.returns, Value.isRef, FieldType.isReference]
   first | (intro acts; rw [hr _ acts rfl rfl rfl]) | rw [hr _ _ rfl rfl rfl]
   exact Steps.refl _
 · show QrmLo5 Z w d t c0 c1 c2 c3 c4 h0 n0 (some (.ref b2)) T26.heap _
   exact ⟨b2, t26, [c0, c1, c2, c3, c4, d], rfl, N26, K33, lo_b2, Fs26⟩
theorem dk229 : decode J13 0 = .ok (.aload_n 0, 1) := by decide +kernel
theorem dk230 : decode J13 1 = .ok (.invokevirtual 24, 3) := by decide +kernel
theorem dk231 : decode J13 4 = .ok (.iconst 5, 1) := by decide +kernel
theorem dk232 : decode J13 5 = .ok (.if_icmp .ne 46, 3) := by decide +kernel
theorem dk233 : decode J13 8 = .ok (.new 25, 3) := by decide +kernel
theorem dk234 : decode J13 11 = .ok (.dup, 1) := by decide +kernel
theorem dk235 : decode J13 12 = .ok (.iconst 4, 1) := by decide +kernel
theorem dk236 : decode J13 13 = .ok (.newarray .char, 2) := by decide +kernel
theorem dk237 : decode J13 15 = .ok (.dup, 1) := by decide +kernel
theorem dk238 : decode J13 16 = .ok (.iconst 0, 1) := by decide +kernel
theorem dk239 : decode J13 17 = .ok (.aload_n 0, 1) := by decide +kernel
theorem dk240 : decode J13 18 = .ok (.iconst 0, 1) := by decide +kernel
theorem dk241 : decode J13 19 = .ok (.invokevirtual 68, 3) := by decide +kernel
theorem dk242 : decode J13 22 = .ok (.castore, 1) := by decide +kernel
theorem dk243 : decode J13 23 = .ok (.dup, 1) := by decide +kernel
theorem dk244 : decode J13 24 = .ok (.iconst 1, 1) := by decide +kernel
theorem dk245 : decode J13 25 = .ok (.aload_n 0, 1) := by decide +kernel
theorem dk246 : decode J13 26 = .ok (.iconst 1, 1) := by decide +kernel
theorem dk247 : decode J13 27 = .ok (.invokevirtual 68, 3) := by decide +kernel
theorem dk248 : decode J13 30 = .ok (.castore, 1) := by decide +kernel
theorem dk249 : decode J13 31 = .ok (.dup, 1) := by decide +kernel
theorem dk250 : decode J13 32 = .ok (.iconst 2, 1) := by decide +kernel
theorem dk251 : decode J13 33 = .ok (.aload_n 0, 1) := by decide +kernel
theorem dk252 : decode J13 34 = .ok (.iconst 2, 1) := by decide +kernel
theorem dk253 : decode J13 35 = .ok (.invokevirtual 68, 3) := by decide +kernel
theorem dk254 : decode J13 38 = .ok (.castore, 1) := by decide +kernel
theorem dk255 : decode J13 39 = .ok (.dup, 1) := by decide +kernel
theorem dk256 : decode J13 40 = .ok (.iconst 3, 1) := by decide +kernel
theorem dk257 : decode J13 41 = .ok (.aload_n 0, 1) := by decide +kernel
theorem dk258 : decode J13 42 = .ok (.iconst 3, 1) := by decide +kernel
theorem dk259 : decode J13 43 = .ok (.invokevirtual 68, 3) := by decide +kernel
theorem dk260 : decode J13 46 = .ok (.castore, 1) := by decide +kernel
theorem dk261 : decode J13 47 = .ok (.invokespecial 76, 3) := by decide +kernel
theorem dk262 : decode J13 50 = .ok (.areturn, 1) := by decide +kernel
theorem ef_rmSh5 (mm_ : MethodId) (w : Addr) : entryFrame mm_ #[(.ref w)] 1 = (mkF mm_ 0 #[vr w] []) := by first | (simp [entryFrame, mkF, argsToLocals, Value.category]; done) | rfl
def QrmSh5 (Z : State) (w : Addr) (t : Addr) (c0 : Int32) (c1 : Int32) (c2 : Int32) (c3 : Int32) (c4 : Int32) (h0 : Heap) (n0 : Nat) (vv_ : Option Value) (hh_ : Heap) (LL_ : List Loc) : Prop := ∃ (r : Addr), ∃ (u : Addr), ∃ (ds : List Int32), (vv_ = some (.ref r)) ∧ (Fr n0 LL_) ∧ (Keep h0 hh_ []) ∧ (h0.size ≤ r) ∧ (own_Str Z hh_ r u ds)
theorem rmSh5 (l : Launch) (Z : State) (a0 : Array Value) (hw : own_Hw a0 Z) (ws : List Jvm.Cond) (w : Addr) (t : Addr) (c0 : Int32) (c1 : Int32) (c2 : Int32) (c3 : Int32) (c4 : Int32) {zc : Int32} {fm : Value} {w_0 : Addr} {w_1 : Addr} {w_2 : Addr} {w_3 : Addr} {wV : Addr} {kV : ClassId} {s_0 : Addr} {t_0 : Addr} {s_1 : Addr} {t_1 : Addr} {s_2 : Addr} {t_2 : Addr} {s_3 : Addr} {t_3 : Addr} (h0 : Heap) (n0 : Nat) (O0 : Old Z n0 h0) (G_ : own_St Z zc fm w_0 w_1 w_2 w_3 wV kV s_0 t_0 s_1 t_1 s_2 t_2 s_3 t_3) (pr0 : own_Str Z h0 w t [c0, c1, c2, c3, c4]) :
 MetFree l ym5 (head1 (Jvm.Cond.code ym5 J13 1 (some (.object sc0)) :: ws) (rm_ 4 3 12 66)) (fun aa_ UU_ => aa_ = #[(.ref w)] ∧ Z.Warmed39 UU_.vm ∧ UU_.heap = h0) (fun _ _ _ _ _ => True) (fun _ UU_ oo_ UV_ => ∃ vv_ LL_, oo_ = .returned vv_ ∧ QrmSh5 Z w t c0 c1 c2 c3 c4 h0 n0 vv_ UV_.heap LL_ ∧ FrameEnd UU_ oo_ UV_ LL_ (rm_ 4 3 12 66).cells (rm_ 4 3 12 66).slots) := by
 refine MetFree.of_bodySF (plainFor_of_name pn_com_example_vestwright_vestwright_census_ReasonOfPinLaw) hisR ?_
 intro pp_ ee_ ss_ mm_ args_ bb_ me_ cc_ s₁ Bd hml0 hP hK
 obtain ⟨rfl, hZ, hh⟩ := hP
 have hx := Bd.exec
 have hby := Bd.bytes; have B_ {q_ : Nat} {r_ : _} (h_ : decode _ q_ = r_) := hb hby h_
 have hml : cc_.maxLocals = 1 := hml0
 have hown : ss_.vm.findClass sc1 = some mm_.cls := findClass_of_methodNamed Bd.named
 have hnm := (name_of_methodNamed Bd.named Bd.method).1
 have X0 : Stand pp_ l ee_ (rm_ 4 3 12 66) ss_ mm_ #[(.ref w)] bb_ me_ cc_ s₁ [] 0 0 := Stand.of_body Bd
 have e0 : s₁.heap = h0 := by rw [← hh, Bd.state]; rfl
 have N0 := Fr.nil n0
 show own_Go pp_ ee_ bb_ _ s₁ (entryFrame mm_ #[(.ref w)] 1)
 refine own_cast (ef_rmSh5 mm_ w) ?_
 have Z0 : n0 ≤ h0.size := by have q := O0.2.1; rw [O0.1] at q; exact q
 have K0 : Keep h0 h0 [] := Keep.refl _ _
 obtain ⟨G_cs, G_cs0, G_fm, G_fr, G_S1, G_S2, G_S3, G_S4, G_S5, G_E6, G_E7, G_E8, G_E9, G_E10, G_V11, G_F12, G_T13, G_F17, G_T18, G_F22, G_T23, G_F27, G_T28, G_cw, G_h_com_example_vestwright_vestwright_census_ReasonOfPinLaw_7, G_h_com_example_vestwright_vestwright_census_ReasonOfPinLaw_9, G_h_com_example_vestwright_vestwright_census_ReasonOfPinLaw_11, G_h_com_example_vestwright_vestwright_census_ReasonOfPinLaw_13, G_h_java_lang_String_7⟩ := id G_
 show Go_ s₁ (mkF mm_ 0 #[vr w] [])
 refine sp_ (fun t_ k_ => XS.aloadN X0.here hx rfl (B_ dk229) rfl rfl k_) ?_
 show Go_ s₁ (mkF mm_ 1 #[vr w] [(.ref w)])
 obtain ⟨_, T1, Lc1, X1, hQ1, st1⟩ := own_cV X0 hx hZ hown (w_ hw 13 rfl) (w_ hw 14 rfl) (notFace_of_selects (args := #[]) (mvT hZ (w_ hw 16 rfl))) (w_ hw 16 rfl) (w_ hw 15 rfl) (by decide) (own_lenS (W := 0) hZ hw pr0 (G_cs.ext O0.2) G_cs0 (by decide) (by decide)) pr0.1 (g := (mkF mm_ 1 #[vr w] [(.ref w)])) rfl hml.symm (argsL := []) (rest := []) (lenOf pd_7 rfl) rfl (Nat.le_of_eq rfl) (B_ dk230) rfl e0 (by decide) (by decide)
 obtain ⟨rfl, rfl, Eh1⟩ := hQ1
 have N1 := Fr.app N0 (Fr.nil n0)
 refine jp_ st1 ?_
 show Go_ T1 (mkF mm_ 4 #[vr w] [(.int 5)])
 refine sp_ (fun t_ k_ => XS.iconst X1.here hx rfl (B_ dk231) k_) ?_
 show Go_ T1 (mkF mm_ 5 #[vr w] [(.int 5), (.int 5)])
 refine sp_ (fun t_ k_ => XS.icmpNo X1.here hx rfl (B_ dk232) rfl (teq (by decide : (5 : Int32) = (5 : Int32))).2 k_) ?_
 show Go_ T1 (mkF mm_ 8 #[vr w] [])
 obtain ⟨T2, h2, X2, e2, E2, A2, D2, -, st2⟩ := newO X1 hx hZ hown (w_ hw 26 rfl) (w_ hw 2 rfl) (w_ hw 1 rfl) Eh1 (g := (mkF mm_ 8 #[vr w] [])) rfl (B_ dk233) (by decide) (by decide)
 obtain ⟨b2, q2⟩ : ∃ z, z = h0.size := ⟨_, rfl⟩
 rw [← q2] at A2 D2 st2
 have lo_b2 : h0.size ≤ b2 := Nat.le_trans K0.1 (Nat.le_of_eq q2.symm)
 have g_b2 : n0 ≤ b2 := Nat.le_trans Z0 lo_b2
 refine sp_ st2 ?_
 have F2_value : Fld Z h2 b2 sc0 "value" "[B" .null := D2 (Or.inr (w_ hw 4 rfl)) (ty := (.array .byte)) (by decide)
 have F2_coder : Fld Z h2 b2 sc0 "coder" "B" (.int 0) := D2 (Or.inr (w_ hw 5 rfl)) (ty := .byte) (by decide)
 show Go_ T2 (mkF mm_ 11 #[vr w] [(.ref b2)])
 refine sp_ (fun t_ k_ => XS.dup X2.here hx rfl (B_ dk234) rfl rfl (XS.iconst X2.here hx rfl (B_ dk235) k_)) ?_
 show Go_ T2 (mkF mm_ 13 #[vr w] [(.int 4), (.ref b2), (.ref b2)])
 obtain ⟨T3, h3, k3, X3, e3, E3, A3, st3⟩ := newP X2 hx hZ (w_ hw 27 rfl) e2 (g := (mkF mm_ 13 #[vr w] [(.int 4), (.ref b2), (.ref b2)])) rfl (B_ dk236) rfl (by decide) (cap := 4) (by decide) (by decide) (by decide) (by decide)
 obtain ⟨b3, q3⟩ : ∃ z, z = h2.size := ⟨_, rfl⟩
 rw [← q3] at A3 st3
 have K4 : Keep h0 h2 [] := (K0.ext E2)
 have lo_b3 : h0.size ≤ b3 := Nat.le_trans K4.1 (Nat.le_of_eq q3.symm)
 have g_b3 : n0 ≤ b3 := Nat.le_trans Z0 lo_b3
 refine sp_ st3 ?_
 have V3 : Arv Z h3 b3 k3 .char (4 : Int32) [(.int 0), (.int 0), (.int 0), (.int 0)] (.int 0) := (Arv.new A3 (by decide)).pad (pad_rep [] (.int 0) 4)
 show Go_ T3 (mkF mm_ 15 #[vr w] [(.ref b3), (.ref b2), (.ref b2)])
 refine sp_ (fun t_ k_ => XS.dup X3.here hx rfl (B_ dk237) rfl rfl (XS.iconst X3.here hx rfl (B_ dk238) (XS.aloadN X3.here hx rfl (B_ dk239) rfl rfl (XS.iconst X3.here hx rfl (B_ dk240) k_)))) ?_
 show Go_ T3 (mkF mm_ 19 #[vr w] [(.int 0), (.ref w), (.int 0), (.ref b3), (.ref b3), (.ref b2), (.ref b2)])
 have f6 : own_Str Z h3 w t [c0, c1, c2, c3, c4] := ((pr0.ext E2).ext E3)
 have O7 : Old Z n0 h3 := ((O0.ext E2).ext E3)
 obtain ⟨_, T5, Lc5, X5, hQ5, st5⟩ := own_cV X3 hx hZ hown (w_ hw 31 rfl) (w_ hw 32 rfl) (notFace_of_selects (args := #[]) (mvT hZ (w_ hw 34 rfl))) (w_ hw 34 rfl) (w_ hw 33 rfl) (by decide) (own_chS (W := 5) hZ hw f6 (G_cs.ext O7.2) G_cs0 (G_fm.ext O7.2) G_fr (i := 0) (Nat.le_of_ble_eq_true rfl) (j := (0 : Int32)) rfl (by decide) (by decide)) f6.1 (g := (mkF mm_ 19 #[vr w] [(.int 0), (.ref w), (.int 0), (.ref b3), (.ref b3), (.ref b2), (.ref b2)])) rfl hml.symm (argsL := [(.int 0)]) (rest := [(.int 0), (.ref b3), (.ref b3), (.ref b2), (.ref b2)]) (lenOf pd_6 rfl) rfl (Nat.le_of_eq rfl) (B_ dk241) rfl e3 (by decide) (by decide)
 obtain ⟨rfl, rfl, Eh5⟩ := hQ5
 have N5 := Fr.app N1 (Fr.nil n0)
 refine jp_ st5 ?_
 show Go_ T5 (mkF mm_ 22 #[vr w] [(.int c0), (.int 0), (.ref b3), (.ref b3), (.ref b2), (.ref b2)])
 obtain ⟨cl8, Ar8, q8, S8, M8, H8, G8⟩ := id V3
 have hin8 : ¬ ((0 : Int32) < 0 ∨ cl8.slots.size ≤ ((0 : Int32)).toNatClampNeg) := inb_of S8 ⟨by decide, by decide⟩
 obtain ⟨T8, h8, X8, e8, W8, st8⟩ := stC X5 hx hZ Eh5 Ar8 (j := (0 : Int32)) hin8 (g := (mkF mm_ 22 #[vr w] [(.int c0), (.int 0), (.ref b3), (.ref b3), (.ref b2), (.ref b2)])) rfl rfl (B_ dk242)
 have V8 : Arv Z h8 b3 k3 .char (4 : Int32) [(.int c0), (.int 0), (.int 0), (.int 0)] (.int 0) := by
  have q := Arv.set Ar8 q8 S8 M8 H8 G8 (fits_nar_char _) W8 0 rfl (Nat.le_of_ble_eq_true rfl)
  rw [own_narLit _ (own_sgc ((f6.2.2.2.2.1 _ (List.mem_of_getElem? (i := 0) rfl)))).1 (own_sgc ((f6.2.2.2.2.1 _ (List.mem_of_getElem? (i := 0) rfl)))).2] at q
  exact q
 have N8 := Fr.snoc X8 N5 g_b3
 refine sp_ st8 ?_
 show Go_ T8 (mkF mm_ 23 #[vr w] [(.ref b3), (.ref b2), (.ref b2)])
 refine sp_ (fun t_ k_ => XS.dup X8.here hx rfl (B_ dk243) rfl rfl (XS.iconst X8.here hx rfl (B_ dk244) (XS.aloadN X8.here hx rfl (B_ dk245) rfl rfl (XS.iconst X8.here hx rfl (B_ dk246) k_)))) ?_
 show Go_ T8 (mkF mm_ 27 #[vr w] [(.int 1), (.ref w), (.int 1), (.ref b3), (.ref b3), (.ref b2), (.ref b2)])
 have f10 : own_Str Z h8 w t [c0, c1, c2, c3, c4] := (f6.keep (Keep.of_wr W8) (ninS (Nat.ne_of_lt (Nat.lt_of_lt_of_le (pr0.ext E2).lt (Nat.le_of_eq q3.symm))) nin0) (ninS (Nat.ne_of_lt (Nat.lt_of_lt_of_le (pr0.ext E2).ltT (Nat.le_of_eq q3.symm))) nin0))
 have O11 : Old Z n0 h8 := (O7.wr W8 g_b3)
 obtain ⟨_, T9, Lc9, X9, hQ9, st9⟩ := own_cV X8 hx hZ hown (w_ hw 31 rfl) (w_ hw 32 rfl) (notFace_of_selects (args := #[]) (mvT hZ (w_ hw 34 rfl))) (w_ hw 34 rfl) (w_ hw 33 rfl) (by decide) (own_chS (W := 5) hZ hw f10 (G_cs.ext O11.2) G_cs0 (G_fm.ext O11.2) G_fr (i := 1) (Nat.le_of_ble_eq_true rfl) (j := (1 : Int32)) rfl (by decide) (by decide)) f10.1 (g := (mkF mm_ 27 #[vr w] [(.int 1), (.ref w), (.int 1), (.ref b3), (.ref b3), (.ref b2), (.ref b2)])) rfl hml.symm (argsL := [(.int 1)]) (rest := [(.int 1), (.ref b3), (.ref b3), (.ref b2), (.ref b2)]) (lenOf pd_6 rfl) rfl (Nat.le_of_eq rfl) (B_ dk247) rfl e8 (by decide) (by decide)
 obtain ⟨rfl, rfl, Eh9⟩ := hQ9
 have N9 := Fr.app N8 (Fr.nil n0)
 refine jp_ st9 ?_
 show Go_ T9 (mkF mm_ 30 #[vr w] [(.int c1), (.int 1), (.ref b3), (.ref b3), (.ref b2), (.ref b2)])
 obtain ⟨cl12, Ar12, q12, S12, M12, H12, G12⟩ := id V8
 have hin12 : ¬ ((1 : Int32) < 0 ∨ cl12.slots.size ≤ ((1 : Int32)).toNatClampNeg) := inb_of S12 ⟨by decide, by decide⟩
 obtain ⟨T12, h12, X12, e12, W12, st12⟩ := stC X9 hx hZ Eh9 Ar12 (j := (1 : Int32)) hin12 (g := (mkF mm_ 30 #[vr w] [(.int c1), (.int 1), (.ref b3), (.ref b3), (.ref b2), (.ref b2)])) rfl rfl (B_ dk248)
 have V12 : Arv Z h12 b3 k3 .char (4 : Int32) [(.int c0), (.int c1), (.int 0), (.int 0)] (.int 0) := by
  have q := Arv.set Ar12 q12 S12 M12 H12 G12 (fits_nar_char _) W12 1 rfl (Nat.le_of_ble_eq_true rfl)
  rw [own_narLit _ (own_sgc ((f10.2.2.2.2.1 _ (List.mem_of_getElem? (i := 1) rfl)))).1 (own_sgc ((f10.2.2.2.2.1 _ (List.mem_of_getElem? (i := 1) rfl)))).2] at q
  exact q
 have N12 := Fr.snoc X12 N9 g_b3
 refine sp_ st12 ?_
 show Go_ T12 (mkF mm_ 31 #[vr w] [(.ref b3), (.ref b2), (.ref b2)])
 refine sp_ (fun t_ k_ => XS.dup X12.here hx rfl (B_ dk249) rfl rfl (XS.iconst X12.here hx rfl (B_ dk250) (XS.aloadN X12.here hx rfl (B_ dk251) rfl rfl (XS.iconst X12.here hx rfl (B_ dk252) k_)))) ?_
 show Go_ T12 (mkF mm_ 35 #[vr w] [(.int 2), (.ref w), (.int 2), (.ref b3), (.ref b3), (.ref b2), (.ref b2)])
 have f14 : own_Str Z h12 w t [c0, c1, c2, c3, c4] := (f10.keep (Keep.of_wr W12) (ninS (Nat.ne_of_lt (Nat.lt_of_lt_of_le (pr0.ext E2).lt (Nat.le_of_eq q3.symm))) nin0) (ninS (Nat.ne_of_lt (Nat.lt_of_lt_of_le (pr0.ext E2).ltT (Nat.le_of_eq q3.symm))) nin0))
 have O15 : Old Z n0 h12 := (O11.wr W12 g_b3)
 obtain ⟨_, T13, Lc13, X13, hQ13, st13⟩ := own_cV X12 hx hZ hown (w_ hw 31 rfl) (w_ hw 32 rfl) (notFace_of_selects (args := #[]) (mvT hZ (w_ hw 34 rfl))) (w_ hw 34 rfl) (w_ hw 33 rfl) (by decide) (own_chS (W := 5) hZ hw f14 (G_cs.ext O15.2) G_cs0 (G_fm.ext O15.2) G_fr (i := 2) (Nat.le_of_ble_eq_true rfl) (j := (2 : Int32)) rfl (by decide) (by decide)) f14.1 (g := (mkF mm_ 35 #[vr w] [(.int 2), (.ref w), (.int 2), (.ref b3), (.ref b3), (.ref b2), (.ref b2)])) rfl hml.symm (argsL := [(.int 2)]) (rest := [(.int 2), (.ref b3), (.ref b3), (.ref b2), (.ref b2)]) (lenOf pd_6 rfl) rfl (Nat.le_of_eq rfl) (B_ dk253) rfl e12 (by decide) (by decide)
 obtain ⟨rfl, rfl, Eh13⟩ := hQ13
 have N13 := Fr.app N12 (Fr.nil n0)
 refine jp_ st13 ?_
 show Go_ T13 (mkF mm_ 38 #[vr w] [(.int c2), (.int 2), (.ref b3), (.ref b3), (.ref b2), (.ref b2)])
 obtain ⟨cl16, Ar16, q16, S16, M16, H16, G16⟩ := id V12
 have hin16 : ¬ ((2 : Int32) < 0 ∨ cl16.slots.size ≤ ((2 : Int32)).toNatClampNeg) := inb_of S16 ⟨by decide, by decide⟩
 obtain ⟨T16, h16, X16, e16, W16, st16⟩ := stC X13 hx hZ Eh13 Ar16 (j := (2 : Int32)) hin16 (g := (mkF mm_ 38 #[vr w] [(.int c2), (.int 2), (.ref b3), (.ref b3), (.ref b2), (.ref b2)])) rfl rfl (B_ dk254)
 have V16 : Arv Z h16 b3 k3 .char (4 : Int32) [(.int c0), (.int c1), (.int c2), (.int 0)] (.int 0) := by
  have q := Arv.set Ar16 q16 S16 M16 H16 G16 (fits_nar_char _) W16 2 rfl (Nat.le_of_ble_eq_true rfl)
  rw [own_narLit _ (own_sgc ((f14.2.2.2.2.1 _ (List.mem_of_getElem? (i := 2) rfl)))).1 (own_sgc ((f14.2.2.2.2.1 _ (List.mem_of_getElem? (i := 2) rfl)))).2] at q
  exact q
 have N16 := Fr.snoc X16 N13 g_b3
 refine sp_ st16 ?_
 show Go_ T16 (mkF mm_ 39 #[vr w] [(.ref b3), (.ref b2), (.ref b2)])
 refine sp_ (fun t_ k_ => XS.dup X16.here hx rfl (B_ dk255) rfl rfl (XS.iconst X16.here hx rfl (B_ dk256) (XS.aloadN X16.here hx rfl (B_ dk257) rfl rfl (XS.iconst X16.here hx rfl (B_ dk258) k_)))) ?_
 show Go_ T16 (mkF mm_ 43 #[vr w] [(.int 3), (.ref w), (.int 3), (.ref b3), (.ref b3), (.ref b2), (.ref b2)])
 have f18 : own_Str Z h16 w t [c0, c1, c2, c3, c4] := (f14.keep (Keep.of_wr W16) (ninS (Nat.ne_of_lt (Nat.lt_of_lt_of_le (pr0.ext E2).lt (Nat.le_of_eq q3.symm))) nin0) (ninS (Nat.ne_of_lt (Nat.lt_of_lt_of_le (pr0.ext E2).ltT (Nat.le_of_eq q3.symm))) nin0))
 have O19 : Old Z n0 h16 := (O15.wr W16 g_b3)
 obtain ⟨_, T17, Lc17, X17, hQ17, st17⟩ := own_cV X16 hx hZ hown (w_ hw 31 rfl) (w_ hw 32 rfl) (notFace_of_selects (args := #[]) (mvT hZ (w_ hw 34 rfl))) (w_ hw 34 rfl) (w_ hw 33 rfl) (by decide) (own_chS (W := 5) hZ hw f18 (G_cs.ext O19.2) G_cs0 (G_fm.ext O19.2) G_fr (i := 3) (Nat.le_of_ble_eq_true rfl) (j := (3 : Int32)) rfl (by decide) (by decide)) f18.1 (g := (mkF mm_ 43 #[vr w] [(.int 3), (.ref w), (.int 3), (.ref b3), (.ref b3), (.ref b2), (.ref b2)])) rfl hml.symm (argsL := [(.int 3)]) (rest := [(.int 3), (.ref b3), (.ref b3), (.ref b2), (.ref b2)]) (lenOf pd_6 rfl) rfl (Nat.le_of_eq rfl) (B_ dk259) rfl e16 (by decide) (by decide)
 obtain ⟨rfl, rfl, Eh17⟩ := hQ17
 have N17 := Fr.app N16 (Fr.nil n0)
 refine jp_ st17 ?_
 show Go_ T17 (mkF mm_ 46 #[vr w] [(.int c3), (.int 3), (.ref b3), (.ref b3), (.ref b2), (.ref b2)])
 obtain ⟨cl20, Ar20, q20, S20, M20, H20, G20⟩ := id V16
 have hin20 : ¬ ((3 : Int32) < 0 ∨ cl20.slots.size ≤ ((3 : Int32)).toNatClampNeg) := inb_of S20 ⟨by decide, by decide⟩
 obtain ⟨T20, h20, X20, e20, W20, st20⟩ := stC X17 hx hZ Eh17 Ar20 (j := (3 : Int32)) hin20 (g := (mkF mm_ 46 #[vr w] [(.int c3), (.int 3), (.ref b3), (.ref b3), (.ref b2), (.ref b2)])) rfl rfl (B_ dk260)
 have V20 : Arv Z h20 b3 k3 .char (4 : Int32) [(.int c0), (.int c1), (.int c2), (.int c3)] (.int 0) := by
  have q := Arv.set Ar20 q20 S20 M20 H20 G20 (fits_nar_char _) W20 3 rfl (Nat.le_of_ble_eq_true rfl)
  rw [own_narLit _ (own_sgc ((f18.2.2.2.2.1 _ (List.mem_of_getElem? (i := 3) rfl)))).1 (own_sgc ((f18.2.2.2.2.1 _ (List.mem_of_getElem? (i := 3) rfl)))).2] at q
  exact q
 have N20 := Fr.snoc X20 N17 g_b3
 refine sp_ st20 ?_
 show Go_ T20 (mkF mm_ 47 #[vr w] [(.ref b3), (.ref b2), (.ref b2)])
 have hp22 : ∀ ch_ ∈ ([c0, c1, c2, c3] : List Int32), ¬ ch_ < 0 ∧ ¬ (255 : Int32) < ch_ := by
  intro ch_ hc
  simp only [List.mem_cons, List.not_mem_nil, or_false] at hc
  rcases hc with rfl | rfl | rfl | rfl
  · exact (f18.2.2.2.2.1 _ (List.mem_of_getElem? (i := 0) rfl))
  · exact (f18.2.2.2.2.1 _ (List.mem_of_getElem? (i := 1) rfl))
  · exact (f18.2.2.2.2.1 _ (List.mem_of_getElem? (i := 2) rfl))
  · exact (f18.2.2.2.2.1 _ (List.mem_of_getElem? (i := 3) rfl))
 have f23 : Exa Z h20 b2 sc0 := (((((A2.ext E3).wr W8).wr W12).wr W16).wr W20)
 have f24 : Fld Z h20 b2 sc0 "value" "[B" .null := (((((F2_value.ext E3).other W8 (Or.inl (Nat.ne_of_lt (Nat.lt_of_lt_of_le A2.lt (Nat.le_of_eq q3.symm))))).other W12 (Or.inl (Nat.ne_of_lt (Nat.lt_of_lt_of_le A2.lt (Nat.le_of_eq q3.symm))))).other W16 (Or.inl (Nat.ne_of_lt (Nat.lt_of_lt_of_le A2.lt (Nat.le_of_eq q3.symm))))).other W20 (Or.inl (Nat.ne_of_lt (Nat.lt_of_lt_of_le A2.lt (Nat.le_of_eq q3.symm)))))
 have f25 : Fld Z h20 b2 sc0 "coder" "B" (.int 0) := (((((F2_coder.ext E3).other W8 (Or.inl (Nat.ne_of_lt (Nat.lt_of_lt_of_le A2.lt (Nat.le_of_eq q3.symm))))).other W12 (Or.inl (Nat.ne_of_lt (Nat.lt_of_lt_of_le A2.lt (Nat.le_of_eq q3.symm))))).other W16 (Or.inl (Nat.ne_of_lt (Nat.lt_of_lt_of_le A2.lt (Nat.le_of_eq q3.symm))))).other W20 (Or.inl (Nat.ne_of_lt (Nat.lt_of_lt_of_le A2.lt (Nat.le_of_eq q3.symm)))))
 have O26 : Old Z n0 h20 := (O19.wr W20 g_b3)
 have K27 : Keep h0 h20 [] := (((((K4.ext E3).wr W8 (Or.inr lo_b3)).wr W12 (Or.inr lo_b3)).wr W16 (Or.inr lo_b3)).wr W20 (Or.inr lo_b3))
 obtain ⟨_, T21, Lc21, X21, hQ21, st21⟩ := own_cI X20 hx hZ rfl hown (w_ hw 53 rfl) (w_ hw 54 rfl) (w_ hw 55 rfl) (by decide) (own_newS (W := 1) hZ hw (cs := [c0, c1, c2, c3]) (n := 4) g_b2 (Nat.le_trans Z0 K27.1) f23 f24 f25 V20 (G_cs.ext O26.2) G_cs0 rfl rfl rfl (by decide) (by decide) hp22 (by decide) (by decide)) (g := (mkF mm_ 47 #[vr w] [(.ref b3), (.ref b2), (.ref b2)])) rfl hml.symm (a := b2) (argsL := [(.ref b3)]) (rest := [(.ref b2)]) (lenOf pd_9 rfl) rfl (Nat.le_of_eq rfl) (B_ dk261) rfl e20 (by decide) (by decide)
 obtain ⟨t21, rfl, Nq21, Kc21, lo21, Fs21⟩ := hQ21
 have N21 := Fr.app N20 Nq21
 have lo_t21 : h0.size ≤ t21 := Nat.le_trans K27.1 lo21
 have g_t21 : n0 ≤ t21 := Nat.le_trans Z0 lo_t21
 refine jp_ st21 ?_
 show Go_ T21 (mkF mm_ 50 #[vr w] [(.ref b2)])
 have K28 : Keep h0 T21.heap [] := (K27.trans Kc21 (allS (Or.inr lo_b2) all0))
 obtain ⟨fs, hr, hrun, hended, hW, hsame⟩ := X21.leave (v := some (.ref b2)) (rN Bd.returns)
 refine ⟨_, _, ?_, hrun, hended, _, _, rfl, ?_, ⟨_, rfl⟩, hW, hsame.mono (by decide) (by decide)⟩
 · jvm_step X21.here [X21.here.top, hx, (B_ dk262), X21.method', Bd.returns, Value.isRef, FieldType.isReference]
   first | (intro acts; rw [hr _ acts rfl rfl rfl]) | rw [hr _ _ rfl rfl rfl]
   exact Steps.refl _
 · show QrmSh5 Z w t c0 c1 c2 c3 c4 h0 n0 (some (.ref b2)) T21.heap _
   exact ⟨b2, t21, [c0, c1, c2, c3], rfl, N21, K28, lo_b2, Fs21⟩
theorem dk263 : decode J11 69 = .ok (.new 25, 3) := by decide +kernel
theorem dk264 : decode J11 72 = .ok (.dup, 1) := by decide +kernel
theorem dk265 : decode J11 73 = .ok (.bipush 10, 2) := by decide +kernel
theorem dk266 : decode J11 75 = .ok (.newarray .char, 2) := by decide +kernel
theorem dk267 : decode J11 77 = .ok (.dup, 1) := by decide +kernel
theorem dk268 : decode J11 78 = .ok (.iconst 0, 1) := by decide +kernel
theorem dk269 : decode J11 79 = .ok (.aload_n 0, 1) := by decide +kernel
theorem dk270 : decode J11 80 = .ok (.iconst 0, 1) := by decide +kernel
theorem dk271 : decode J11 81 = .ok (.iload_n 1, 1) := by decide +kernel
theorem dk272 : decode J11 82 = .ok (.iload_n 2, 1) := by decide +kernel
theorem dk273 : decode J11 83 = .ok (.invokestatic 72, 3) := by decide +kernel
theorem dk274 : decode J11 86 = .ok (.castore, 1) := by decide +kernel
theorem dk275 : decode J11 87 = .ok (.dup, 1) := by decide +kernel
theorem dk276 : decode J11 88 = .ok (.iconst 1, 1) := by decide +kernel
theorem dk277 : decode J11 89 = .ok (.aload_n 0, 1) := by decide +kernel
theorem dk278 : decode J11 90 = .ok (.iconst 1, 1) := by decide +kernel
theorem dk279 : decode J11 91 = .ok (.iload_n 1, 1) := by decide +kernel
theorem dk280 : decode J11 92 = .ok (.iload_n 2, 1) := by decide +kernel
theorem dk281 : decode J11 93 = .ok (.invokestatic 72, 3) := by decide +kernel
theorem dk282 : decode J11 96 = .ok (.castore, 1) := by decide +kernel
theorem dk283 : decode J11 97 = .ok (.dup, 1) := by decide +kernel
theorem dk284 : decode J11 98 = .ok (.iconst 2, 1) := by decide +kernel
theorem dk285 : decode J11 99 = .ok (.aload_n 0, 1) := by decide +kernel
theorem dk286 : decode J11 100 = .ok (.iconst 2, 1) := by decide +kernel
theorem dk287 : decode J11 101 = .ok (.iload_n 1, 1) := by decide +kernel
theorem dk288 : decode J11 102 = .ok (.iload_n 2, 1) := by decide +kernel
theorem dk289 : decode J11 103 = .ok (.invokestatic 72, 3) := by decide +kernel
theorem dk290 : decode J11 106 = .ok (.castore, 1) := by decide +kernel
theorem dk291 : decode J11 107 = .ok (.dup, 1) := by decide +kernel
theorem dk292 : decode J11 108 = .ok (.iconst 3, 1) := by decide +kernel
theorem dk293 : decode J11 109 = .ok (.aload_n 0, 1) := by decide +kernel
theorem dk294 : decode J11 110 = .ok (.iconst 3, 1) := by decide +kernel
theorem dk295 : decode J11 111 = .ok (.iload_n 1, 1) := by decide +kernel
theorem dk296 : decode J11 112 = .ok (.iload_n 2, 1) := by decide +kernel
theorem dk297 : decode J11 113 = .ok (.invokestatic 72, 3) := by decide +kernel
theorem dk298 : decode J11 116 = .ok (.castore, 1) := by decide +kernel
theorem dk299 : decode J11 117 = .ok (.dup, 1) := by decide +kernel
theorem dk300 : decode J11 118 = .ok (.iconst 4, 1) := by decide +kernel
theorem dk301 : decode J11 119 = .ok (.aload_n 0, 1) := by decide +kernel
theorem dk302 : decode J11 120 = .ok (.iconst 4, 1) := by decide +kernel
theorem dk303 : decode J11 121 = .ok (.iload_n 1, 1) := by decide +kernel
theorem dk304 : decode J11 122 = .ok (.iload_n 2, 1) := by decide +kernel
theorem dk305 : decode J11 123 = .ok (.invokestatic 72, 3) := by decide +kernel
theorem dk306 : decode J11 126 = .ok (.castore, 1) := by decide +kernel
theorem dk307 : decode J11 127 = .ok (.dup, 1) := by decide +kernel
theorem dk308 : decode J11 128 = .ok (.iconst 5, 1) := by decide +kernel
theorem dk309 : decode J11 129 = .ok (.aload_n 0, 1) := by decide +kernel
theorem dk310 : decode J11 130 = .ok (.iconst 5, 1) := by decide +kernel
theorem dk311 : decode J11 131 = .ok (.iload_n 1, 1) := by decide +kernel
theorem dk312 : decode J11 132 = .ok (.iload_n 2, 1) := by decide +kernel
theorem dk313 : decode J11 133 = .ok (.invokestatic 72, 3) := by decide +kernel
theorem dk314 : decode J11 136 = .ok (.castore, 1) := by decide +kernel
theorem dk315 : decode J11 137 = .ok (.dup, 1) := by decide +kernel
theorem dk316 : decode J11 138 = .ok (.bipush 6, 2) := by decide +kernel
theorem dk317 : decode J11 140 = .ok (.aload_n 0, 1) := by decide +kernel
theorem dk318 : decode J11 141 = .ok (.bipush 6, 2) := by decide +kernel
theorem dk319 : decode J11 143 = .ok (.iload_n 1, 1) := by decide +kernel
theorem dk320 : decode J11 144 = .ok (.iload_n 2, 1) := by decide +kernel
theorem dk321 : decode J11 145 = .ok (.invokestatic 72, 3) := by decide +kernel
theorem dk322 : decode J11 148 = .ok (.castore, 1) := by decide +kernel
theorem dk323 : decode J11 149 = .ok (.dup, 1) := by decide +kernel
theorem dk324 : decode J11 150 = .ok (.bipush 7, 2) := by decide +kernel
theorem dk325 : decode J11 152 = .ok (.aload_n 0, 1) := by decide +kernel
theorem dk326 : decode J11 153 = .ok (.bipush 7, 2) := by decide +kernel
theorem dk327 : decode J11 155 = .ok (.iload_n 1, 1) := by decide +kernel
theorem dk328 : decode J11 156 = .ok (.iload_n 2, 1) := by decide +kernel
theorem dk329 : decode J11 157 = .ok (.invokestatic 72, 3) := by decide +kernel
theorem dk330 : decode J11 160 = .ok (.castore, 1) := by decide +kernel
theorem dk331 : decode J11 161 = .ok (.dup, 1) := by decide +kernel
theorem dk332 : decode J11 162 = .ok (.bipush 8, 2) := by decide +kernel
theorem dk333 : decode J11 164 = .ok (.aload_n 0, 1) := by decide +kernel
theorem dk334 : decode J11 165 = .ok (.bipush 8, 2) := by decide +kernel
theorem dk335 : decode J11 167 = .ok (.iload_n 1, 1) := by decide +kernel
theorem dk336 : decode J11 168 = .ok (.iload_n 2, 1) := by decide +kernel
theorem dk337 : decode J11 169 = .ok (.invokestatic 72, 3) := by decide +kernel
theorem dk338 : decode J11 172 = .ok (.castore, 1) := by decide +kernel
theorem dk339 : decode J11 173 = .ok (.dup, 1) := by decide +kernel
theorem dk340 : decode J11 174 = .ok (.bipush 9, 2) := by decide +kernel
theorem dk341 : decode J11 176 = .ok (.aload_n 0, 1) := by decide +kernel
theorem dk342 : decode J11 177 = .ok (.bipush 9, 2) := by decide +kernel
theorem dk343 : decode J11 179 = .ok (.iload_n 1, 1) := by decide +kernel
theorem dk344 : decode J11 180 = .ok (.iload_n 2, 1) := by decide +kernel
theorem dk345 : decode J11 181 = .ok (.invokestatic 72, 3) := by decide +kernel
theorem dk346 : decode J11 184 = .ok (.castore, 1) := by decide +kernel
theorem dk347 : decode J11 185 = .ok (.invokespecial 76, 3) := by decide +kernel
theorem dk348 : decode J11 188 = .ok (.areturn, 1) := by decide +kernel
theorem ef_rmCp10 (mm_ : MethodId) (w : Addr) (po : Int32) (d : Int32) : entryFrame mm_ #[(.ref w), (.int po), (.int d)] 3 = (mkF mm_ 0 #[vr w, vi po, vi d] []) := by first | (simp [entryFrame, mkF, argsToLocals, Value.category]; done) | rfl
def QrmCp10 (Z : State) (w : Addr) (po : Int32) (d : Int32) (t : Addr) (c0 : Int32) (c1 : Int32) (c2 : Int32) (c3 : Int32) (c4 : Int32) (c5 : Int32) (c6 : Int32) (c7 : Int32) (c8 : Int32) (c9 : Int32) (h0 : Heap) (n0 : Nat) (vv_ : Option Value) (hh_ : Heap) (LL_ : List Loc) : Prop := ∃ (r : Addr), ∃ (u : Addr), ∃ (ds : List Int32), (vv_ = some (.ref r)) ∧ (Fr n0 LL_) ∧ (Keep h0 hh_ []) ∧ (h0.size ≤ r) ∧ (own_Str Z hh_ r u ds)
theorem rmCp10 (l : Launch) (Z : State) (a0 : Array Value) (hw : own_Hw a0 Z) (ws : List Jvm.Cond) (w : Addr) (po : Int32) (d : Int32) (t : Addr) (c0 : Int32) (c1 : Int32) (c2 : Int32) (c3 : Int32) (c4 : Int32) (c5 : Int32) (c6 : Int32) (c7 : Int32) (c8 : Int32) (c9 : Int32) {zc : Int32} {fm : Value} {w_0 : Addr} {w_1 : Addr} {w_2 : Addr} {w_3 : Addr} {wV : Addr} {kV : ClassId} {s_0 : Addr} {t_0 : Addr} {s_1 : Addr} {t_1 : Addr} {s_2 : Addr} {t_2 : Addr} {s_3 : Addr} {t_3 : Addr} (h0 : Heap) (n0 : Nat) (O0 : Old Z n0 h0) (G_ : own_St Z zc fm w_0 w_1 w_2 w_3 wV kV s_0 t_0 s_1 t_1 s_2 t_2 s_3 t_3) (pr0 : own_Str Z h0 w t [c0, c1, c2, c3, c4, c5, c6, c7, c8, c9]) (sg_d : ¬ d < (0 : Int32) ∧ ¬ (255 : Int32) < d) :
 MetFree l ym3 (head1 (Jvm.Cond.code ym3 J11 3 (some (.object sc0)) :: ws) (rm_ 5 3 24 73)) (fun aa_ UU_ => aa_ = #[(.ref w), (.int po), (.int d)] ∧ Z.Warmed39 UU_.vm ∧ UU_.heap = h0) (fun _ _ _ _ _ => True) (fun _ UU_ oo_ UV_ => ∃ vv_ LL_, oo_ = .returned vv_ ∧ QrmCp10 Z w po d t c0 c1 c2 c3 c4 c5 c6 c7 c8 c9 h0 n0 vv_ UV_.heap LL_ ∧ FrameEnd UU_ oo_ UV_ LL_ (rm_ 5 3 24 73).cells (rm_ 5 3 24 73).slots) := by
 refine MetFree.of_bodySF (plainFor_of_name pn_com_example_vestwright_vestwright_census_ReasonOfPinLaw) hisR ?_
 intro pp_ ee_ ss_ mm_ args_ bb_ me_ cc_ s₁ Bd hml0 hP hK
 obtain ⟨rfl, hZ, hh⟩ := hP
 have hx := Bd.exec
 have hby := Bd.bytes; have B_ {q_ : Nat} {r_ : _} (h_ : decode _ q_ = r_) := hb hby h_
 have hml : cc_.maxLocals = 3 := hml0
 have hown : ss_.vm.findClass sc1 = some mm_.cls := findClass_of_methodNamed Bd.named
 have hnm := (name_of_methodNamed Bd.named Bd.method).1
 have X0 : Stand pp_ l ee_ (rm_ 5 3 24 73) ss_ mm_ #[(.ref w), (.int po), (.int d)] bb_ me_ cc_ s₁ [] 0 0 := Stand.of_body Bd
 have e0 : s₁.heap = h0 := by rw [← hh, Bd.state]; rfl
 have N0 := Fr.nil n0
 show own_Go pp_ ee_ bb_ _ s₁ (entryFrame mm_ #[(.ref w), (.int po), (.int d)] 3)
 refine own_cast (ef_rmCp10 mm_ w po d) ?_
 have Z0 : n0 ≤ h0.size := by have q := O0.2.1; rw [O0.1] at q; exact q
 have K0 : Keep h0 h0 [] := Keep.refl _ _
 obtain ⟨G_cs, G_cs0, G_fm, G_fr, G_S1, G_S2, G_S3, G_S4, G_S5, G_E6, G_E7, G_E8, G_E9, G_E10, G_V11, G_F12, G_T13, G_F17, G_T18, G_F22, G_T23, G_F27, G_T28, G_cw, G_h_com_example_vestwright_vestwright_census_ReasonOfPinLaw_7, G_h_com_example_vestwright_vestwright_census_ReasonOfPinLaw_9, G_h_com_example_vestwright_vestwright_census_ReasonOfPinLaw_11, G_h_com_example_vestwright_vestwright_census_ReasonOfPinLaw_13, G_h_java_lang_String_7⟩ := id G_
 show Go_ s₁ (mkF mm_ 0 #[vr w, vi po, vi d] [])
 refine sp_ (fun t_ k_ => XS.aloadN X0.here hx rfl (B_ dk135) rfl rfl k_) ?_
 show Go_ s₁ (mkF mm_ 1 #[vr w, vi po, vi d] [(.ref w)])
 obtain ⟨_, T1, Lc1, X1, hQ1, st1⟩ := own_cV X0 hx hZ hown (w_ hw 13 rfl) (w_ hw 14 rfl) (notFace_of_selects (args := #[]) (mvT hZ (w_ hw 16 rfl))) (w_ hw 16 rfl) (w_ hw 15 rfl) (by decide) (own_lenS (W := 0) hZ hw pr0 (G_cs.ext O0.2) G_cs0 (by decide) (by decide)) pr0.1 (g := (mkF mm_ 1 #[vr w, vi po, vi d] [(.ref w)])) rfl hml.symm (argsL := []) (rest := []) (lenOf pd_7 rfl) rfl (Nat.le_of_eq rfl) (B_ dk136) rfl e0 (by decide) (by decide)
 obtain ⟨rfl, rfl, Eh1⟩ := hQ1
 have N1 := Fr.app N0 (Fr.nil n0)
 refine jp_ st1 ?_
 show Go_ T1 (mkF mm_ 4 #[vr w, vi po, vi d] [(.int 10)])
 refine sp_ (fun t_ k_ => XS.iconst X1.here hx rfl (B_ dk137) k_) ?_
 show Go_ T1 (mkF mm_ 5 #[vr w, vi po, vi d] [(.int 5), (.int 10)])
 refine sp_ (fun t_ k_ => XS.icmpYes X1.here hx rfl (pc0 := 5) (pc' := 69) rfl (B_ dk138) rfl (feq (by decide : ¬ ((10 : Int32) = (5 : Int32)))).2 (by decide) (by decide) k_) ?_
 show Go_ T1 (mkF mm_ 69 #[vr w, vi po, vi d] [])
 obtain ⟨T2, h2, X2, e2, E2, A2, D2, -, st2⟩ := newO X1 hx hZ hown (w_ hw 26 rfl) (w_ hw 2 rfl) (w_ hw 1 rfl) Eh1 (g := (mkF mm_ 69 #[vr w, vi po, vi d] [])) rfl (B_ dk263) (by decide) (by decide)
 obtain ⟨b2, q2⟩ : ∃ z, z = h0.size := ⟨_, rfl⟩
 rw [← q2] at A2 D2 st2
 have lo_b2 : h0.size ≤ b2 := Nat.le_trans K0.1 (Nat.le_of_eq q2.symm)
 have g_b2 : n0 ≤ b2 := Nat.le_trans Z0 lo_b2
 refine sp_ st2 ?_
 have F2_value : Fld Z h2 b2 sc0 "value" "[B" .null := D2 (Or.inr (w_ hw 4 rfl)) (ty := (.array .byte)) (by decide)
 have F2_coder : Fld Z h2 b2 sc0 "coder" "B" (.int 0) := D2 (Or.inr (w_ hw 5 rfl)) (ty := .byte) (by decide)
 show Go_ T2 (mkF mm_ 72 #[vr w, vi po, vi d] [(.ref b2)])
 refine sp_ (fun t_ k_ => XS.dup X2.here hx rfl (B_ dk264) rfl rfl (XS.bipush X2.here hx rfl (B_ dk265) k_)) ?_
 show Go_ T2 (mkF mm_ 75 #[vr w, vi po, vi d] [(.int 10), (.ref b2), (.ref b2)])
 obtain ⟨T3, h3, k3, X3, e3, E3, A3, st3⟩ := newP X2 hx hZ (w_ hw 27 rfl) e2 (g := (mkF mm_ 75 #[vr w, vi po, vi d] [(.int 10), (.ref b2), (.ref b2)])) rfl (B_ dk266) rfl (by decide) (cap := 10) (by decide) (by decide) (by decide) (by decide)
 obtain ⟨b3, q3⟩ : ∃ z, z = h2.size := ⟨_, rfl⟩
 rw [← q3] at A3 st3
 have K4 : Keep h0 h2 [] := (K0.ext E2)
 have lo_b3 : h0.size ≤ b3 := Nat.le_trans K4.1 (Nat.le_of_eq q3.symm)
 have g_b3 : n0 ≤ b3 := Nat.le_trans Z0 lo_b3
 refine sp_ st3 ?_
 have V3 : Arv Z h3 b3 k3 .char (10 : Int32) [(.int 0), (.int 0), (.int 0), (.int 0), (.int 0), (.int 0), (.int 0), (.int 0), (.int 0), (.int 0)] (.int 0) := (Arv.new A3 (by decide)).pad (pad_rep [] (.int 0) 10)
 show Go_ T3 (mkF mm_ 77 #[vr w, vi po, vi d] [(.ref b3), (.ref b2), (.ref b2)])
 refine sp_ (fun t_ k_ => XS.dup X3.here hx rfl (B_ dk267) rfl rfl (XS.iconst X3.here hx rfl (B_ dk268) (XS.aloadN X3.here hx rfl (B_ dk269) rfl rfl (XS.iconst X3.here hx rfl (B_ dk270) (XS.iloadN X3.here hx rfl (B_ dk271) rfl  (XS.iloadN X3.here hx rfl (B_ dk272) rfl  k_)))))) ?_
 show Go_ T3 (mkF mm_ 83 #[vr w, vi po, vi d] [(.int d), (.int po), (.int 0), (.ref w), (.int 0), (.ref b3), (.ref b3), (.ref b2), (.ref b2)])
 have f6 : own_Str Z h3 w t [c0, c1, c2, c3, c4, c5, c6, c7, c8, c9] := ((pr0.ext E2).ext E3)
 have O7 : Old Z n0 h3 := ((O0.ext E2).ext E3)
 obtain ⟨_, T5, Lc5, X5, hQ5, st5⟩ := own_cS X3 hx hZ hown (w_ hw 28 rfl) (w_ hw 29 rfl) (w_ hw 11 rfl) (w_ hw 30 rfl) (by decide) (backOf (W := 5) (rmAt l Z a0 hw [] w (0 : Int32) po d t [c0, c1, c2, c3, c4, c5, c6, c7, c8, c9] 0 h3 n0 O7 G_ f6 (sg_d) rfl (Nat.le_of_ble_eq_true rfl)) hZ (w_ hw 30 rfl) (w_ hw 11 rfl) (by decide) (by decide)) (g := (mkF mm_ 83 #[vr w, vi po, vi d] [(.int d), (.int po), (.int 0), (.ref w), (.int 0), (.ref b3), (.ref b3), (.ref b2), (.ref b2)])) rfl hml.symm (argsL := [(.ref w), (.int 0), (.int po), (.int d)]) (rest := [(.int 0), (.ref b3), (.ref b3), (.ref b2), (.ref b2)]) (lenOf pd_8 rfl) rfl (Nat.le_of_eq rfl) (B_ dk273) rfl e3 (by decide) (by decide)
 obtain ⟨v_5, rfl, rfl, Eh5, r5_0⟩ := hQ5
 have N5 := Fr.app N1 (Fr.nil n0)
 refine jp_ st5 ?_
 show Go_ T5 (mkF mm_ 86 #[vr w, vi po, vi d] [(.int v_5), (.int 0), (.ref b3), (.ref b3), (.ref b2), (.ref b2)])
 obtain ⟨cl8, Ar8, q8, S8, M8, H8, G8⟩ := id V3
 have hin8 : ¬ ((0 : Int32) < 0 ∨ cl8.slots.size ≤ ((0 : Int32)).toNatClampNeg) := inb_of S8 ⟨by decide, by decide⟩
 obtain ⟨T8, h8, X8, e8, W8, st8⟩ := stC X5 hx hZ Eh5 Ar8 (j := (0 : Int32)) hin8 (g := (mkF mm_ 86 #[vr w, vi po, vi d] [(.int v_5), (.int 0), (.ref b3), (.ref b3), (.ref b2), (.ref b2)])) rfl rfl (B_ dk274)
 have V8 : Arv Z h8 b3 k3 .char (10 : Int32) [(.int v_5), (.int 0), (.int 0), (.int 0), (.int 0), (.int 0), (.int 0), (.int 0), (.int 0), (.int 0)] (.int 0) := by
  have q := Arv.set Ar8 q8 S8 M8 H8 G8 (fits_nar_char _) W8 0 rfl (Nat.le_of_ble_eq_true rfl)
  rw [own_narLit _ (own_sgc r5_0).1 (own_sgc r5_0).2] at q
  exact q
 have N8 := Fr.snoc X8 N5 g_b3
 refine sp_ st8 ?_
 show Go_ T8 (mkF mm_ 87 #[vr w, vi po, vi d] [(.ref b3), (.ref b2), (.ref b2)])
 refine sp_ (fun t_ k_ => XS.dup X8.here hx rfl (B_ dk275) rfl rfl (XS.iconst X8.here hx rfl (B_ dk276) (XS.aloadN X8.here hx rfl (B_ dk277) rfl rfl (XS.iconst X8.here hx rfl (B_ dk278) (XS.iloadN X8.here hx rfl (B_ dk279) rfl  (XS.iloadN X8.here hx rfl (B_ dk280) rfl  k_)))))) ?_
 show Go_ T8 (mkF mm_ 93 #[vr w, vi po, vi d] [(.int d), (.int po), (.int 1), (.ref w), (.int 1), (.ref b3), (.ref b3), (.ref b2), (.ref b2)])
 have f10 : own_Str Z h8 w t [c0, c1, c2, c3, c4, c5, c6, c7, c8, c9] := (f6.keep (Keep.of_wr W8) (ninS (Nat.ne_of_lt (Nat.lt_of_lt_of_le (pr0.ext E2).lt (Nat.le_of_eq q3.symm))) nin0) (ninS (Nat.ne_of_lt (Nat.lt_of_lt_of_le (pr0.ext E2).ltT (Nat.le_of_eq q3.symm))) nin0))
 have O11 : Old Z n0 h8 := (O7.wr W8 g_b3)
 obtain ⟨_, T9, Lc9, X9, hQ9, st9⟩ := own_cS X8 hx hZ hown (w_ hw 28 rfl) (w_ hw 29 rfl) (w_ hw 11 rfl) (w_ hw 30 rfl) (by decide) (backOf (W := 5) (rmAt l Z a0 hw [] w (1 : Int32) po d t [c0, c1, c2, c3, c4, c5, c6, c7, c8, c9] 1 h8 n0 O11 G_ f10 (sg_d) rfl (Nat.le_of_ble_eq_true rfl)) hZ (w_ hw 30 rfl) (w_ hw 11 rfl) (by decide) (by decide)) (g := (mkF mm_ 93 #[vr w, vi po, vi d] [(.int d), (.int po), (.int 1), (.ref w), (.int 1), (.ref b3), (.ref b3), (.ref b2), (.ref b2)])) rfl hml.symm (argsL := [(.ref w), (.int 1), (.int po), (.int d)]) (rest := [(.int 1), (.ref b3), (.ref b3), (.ref b2), (.ref b2)]) (lenOf pd_8 rfl) rfl (Nat.le_of_eq rfl) (B_ dk281) rfl e8 (by decide) (by decide)
 obtain ⟨v_9, rfl, rfl, Eh9, r9_0⟩ := hQ9
 have N9 := Fr.app N8 (Fr.nil n0)
 refine jp_ st9 ?_
 show Go_ T9 (mkF mm_ 96 #[vr w, vi po, vi d] [(.int v_9), (.int 1), (.ref b3), (.ref b3), (.ref b2), (.ref b2)])
 obtain ⟨cl12, Ar12, q12, S12, M12, H12, G12⟩ := id V8
 have hin12 : ¬ ((1 : Int32) < 0 ∨ cl12.slots.size ≤ ((1 : Int32)).toNatClampNeg) := inb_of S12 ⟨by decide, by decide⟩
 obtain ⟨T12, h12, X12, e12, W12, st12⟩ := stC X9 hx hZ Eh9 Ar12 (j := (1 : Int32)) hin12 (g := (mkF mm_ 96 #[vr w, vi po, vi d] [(.int v_9), (.int 1), (.ref b3), (.ref b3), (.ref b2), (.ref b2)])) rfl rfl (B_ dk282)
 have V12 : Arv Z h12 b3 k3 .char (10 : Int32) [(.int v_5), (.int v_9), (.int 0), (.int 0), (.int 0), (.int 0), (.int 0), (.int 0), (.int 0), (.int 0)] (.int 0) := by
  have q := Arv.set Ar12 q12 S12 M12 H12 G12 (fits_nar_char _) W12 1 rfl (Nat.le_of_ble_eq_true rfl)
  rw [own_narLit _ (own_sgc r9_0).1 (own_sgc r9_0).2] at q
  exact q
 have N12 := Fr.snoc X12 N9 g_b3
 refine sp_ st12 ?_
 show Go_ T12 (mkF mm_ 97 #[vr w, vi po, vi d] [(.ref b3), (.ref b2), (.ref b2)])
 refine sp_ (fun t_ k_ => XS.dup X12.here hx rfl (B_ dk283) rfl rfl (XS.iconst X12.here hx rfl (B_ dk284) (XS.aloadN X12.here hx rfl (B_ dk285) rfl rfl (XS.iconst X12.here hx rfl (B_ dk286) (XS.iloadN X12.here hx rfl (B_ dk287) rfl  (XS.iloadN X12.here hx rfl (B_ dk288) rfl  k_)))))) ?_
 show Go_ T12 (mkF mm_ 103 #[vr w, vi po, vi d] [(.int d), (.int po), (.int 2), (.ref w), (.int 2), (.ref b3), (.ref b3), (.ref b2), (.ref b2)])
 have f14 : own_Str Z h12 w t [c0, c1, c2, c3, c4, c5, c6, c7, c8, c9] := (f10.keep (Keep.of_wr W12) (ninS (Nat.ne_of_lt (Nat.lt_of_lt_of_le (pr0.ext E2).lt (Nat.le_of_eq q3.symm))) nin0) (ninS (Nat.ne_of_lt (Nat.lt_of_lt_of_le (pr0.ext E2).ltT (Nat.le_of_eq q3.symm))) nin0))
 have O15 : Old Z n0 h12 := (O11.wr W12 g_b3)
 obtain ⟨_, T13, Lc13, X13, hQ13, st13⟩ := own_cS X12 hx hZ hown (w_ hw 28 rfl) (w_ hw 29 rfl) (w_ hw 11 rfl) (w_ hw 30 rfl) (by decide) (backOf (W := 5) (rmAt l Z a0 hw [] w (2 : Int32) po d t [c0, c1, c2, c3, c4, c5, c6, c7, c8, c9] 2 h12 n0 O15 G_ f14 (sg_d) rfl (Nat.le_of_ble_eq_true rfl)) hZ (w_ hw 30 rfl) (w_ hw 11 rfl) (by decide) (by decide)) (g := (mkF mm_ 103 #[vr w, vi po, vi d] [(.int d), (.int po), (.int 2), (.ref w), (.int 2), (.ref b3), (.ref b3), (.ref b2), (.ref b2)])) rfl hml.symm (argsL := [(.ref w), (.int 2), (.int po), (.int d)]) (rest := [(.int 2), (.ref b3), (.ref b3), (.ref b2), (.ref b2)]) (lenOf pd_8 rfl) rfl (Nat.le_of_eq rfl) (B_ dk289) rfl e12 (by decide) (by decide)
 obtain ⟨v_13, rfl, rfl, Eh13, r13_0⟩ := hQ13
 have N13 := Fr.app N12 (Fr.nil n0)
 refine jp_ st13 ?_
 show Go_ T13 (mkF mm_ 106 #[vr w, vi po, vi d] [(.int v_13), (.int 2), (.ref b3), (.ref b3), (.ref b2), (.ref b2)])
 obtain ⟨cl16, Ar16, q16, S16, M16, H16, G16⟩ := id V12
 have hin16 : ¬ ((2 : Int32) < 0 ∨ cl16.slots.size ≤ ((2 : Int32)).toNatClampNeg) := inb_of S16 ⟨by decide, by decide⟩
 obtain ⟨T16, h16, X16, e16, W16, st16⟩ := stC X13 hx hZ Eh13 Ar16 (j := (2 : Int32)) hin16 (g := (mkF mm_ 106 #[vr w, vi po, vi d] [(.int v_13), (.int 2), (.ref b3), (.ref b3), (.ref b2), (.ref b2)])) rfl rfl (B_ dk290)
 have V16 : Arv Z h16 b3 k3 .char (10 : Int32) [(.int v_5), (.int v_9), (.int v_13), (.int 0), (.int 0), (.int 0), (.int 0), (.int 0), (.int 0), (.int 0)] (.int 0) := by
  have q := Arv.set Ar16 q16 S16 M16 H16 G16 (fits_nar_char _) W16 2 rfl (Nat.le_of_ble_eq_true rfl)
  rw [own_narLit _ (own_sgc r13_0).1 (own_sgc r13_0).2] at q
  exact q
 have N16 := Fr.snoc X16 N13 g_b3
 refine sp_ st16 ?_
 show Go_ T16 (mkF mm_ 107 #[vr w, vi po, vi d] [(.ref b3), (.ref b2), (.ref b2)])
 refine sp_ (fun t_ k_ => XS.dup X16.here hx rfl (B_ dk291) rfl rfl (XS.iconst X16.here hx rfl (B_ dk292) (XS.aloadN X16.here hx rfl (B_ dk293) rfl rfl (XS.iconst X16.here hx rfl (B_ dk294) (XS.iloadN X16.here hx rfl (B_ dk295) rfl  (XS.iloadN X16.here hx rfl (B_ dk296) rfl  k_)))))) ?_
 show Go_ T16 (mkF mm_ 113 #[vr w, vi po, vi d] [(.int d), (.int po), (.int 3), (.ref w), (.int 3), (.ref b3), (.ref b3), (.ref b2), (.ref b2)])
 have f18 : own_Str Z h16 w t [c0, c1, c2, c3, c4, c5, c6, c7, c8, c9] := (f14.keep (Keep.of_wr W16) (ninS (Nat.ne_of_lt (Nat.lt_of_lt_of_le (pr0.ext E2).lt (Nat.le_of_eq q3.symm))) nin0) (ninS (Nat.ne_of_lt (Nat.lt_of_lt_of_le (pr0.ext E2).ltT (Nat.le_of_eq q3.symm))) nin0))
 have O19 : Old Z n0 h16 := (O15.wr W16 g_b3)
 obtain ⟨_, T17, Lc17, X17, hQ17, st17⟩ := own_cS X16 hx hZ hown (w_ hw 28 rfl) (w_ hw 29 rfl) (w_ hw 11 rfl) (w_ hw 30 rfl) (by decide) (backOf (W := 5) (rmAt l Z a0 hw [] w (3 : Int32) po d t [c0, c1, c2, c3, c4, c5, c6, c7, c8, c9] 3 h16 n0 O19 G_ f18 (sg_d) rfl (Nat.le_of_ble_eq_true rfl)) hZ (w_ hw 30 rfl) (w_ hw 11 rfl) (by decide) (by decide)) (g := (mkF mm_ 113 #[vr w, vi po, vi d] [(.int d), (.int po), (.int 3), (.ref w), (.int 3), (.ref b3), (.ref b3), (.ref b2), (.ref b2)])) rfl hml.symm (argsL := [(.ref w), (.int 3), (.int po), (.int d)]) (rest := [(.int 3), (.ref b3), (.ref b3), (.ref b2), (.ref b2)]) (lenOf pd_8 rfl) rfl (Nat.le_of_eq rfl) (B_ dk297) rfl e16 (by decide) (by decide)
 obtain ⟨v_17, rfl, rfl, Eh17, r17_0⟩ := hQ17
 have N17 := Fr.app N16 (Fr.nil n0)
 refine jp_ st17 ?_
 show Go_ T17 (mkF mm_ 116 #[vr w, vi po, vi d] [(.int v_17), (.int 3), (.ref b3), (.ref b3), (.ref b2), (.ref b2)])
 obtain ⟨cl20, Ar20, q20, S20, M20, H20, G20⟩ := id V16
 have hin20 : ¬ ((3 : Int32) < 0 ∨ cl20.slots.size ≤ ((3 : Int32)).toNatClampNeg) := inb_of S20 ⟨by decide, by decide⟩
 obtain ⟨T20, h20, X20, e20, W20, st20⟩ := stC X17 hx hZ Eh17 Ar20 (j := (3 : Int32)) hin20 (g := (mkF mm_ 116 #[vr w, vi po, vi d] [(.int v_17), (.int 3), (.ref b3), (.ref b3), (.ref b2), (.ref b2)])) rfl rfl (B_ dk298)
 have V20 : Arv Z h20 b3 k3 .char (10 : Int32) [(.int v_5), (.int v_9), (.int v_13), (.int v_17), (.int 0), (.int 0), (.int 0), (.int 0), (.int 0), (.int 0)] (.int 0) := by
  have q := Arv.set Ar20 q20 S20 M20 H20 G20 (fits_nar_char _) W20 3 rfl (Nat.le_of_ble_eq_true rfl)
  rw [own_narLit _ (own_sgc r17_0).1 (own_sgc r17_0).2] at q
  exact q
 have N20 := Fr.snoc X20 N17 g_b3
 refine sp_ st20 ?_
 show Go_ T20 (mkF mm_ 117 #[vr w, vi po, vi d] [(.ref b3), (.ref b2), (.ref b2)])
 refine sp_ (fun t_ k_ => XS.dup X20.here hx rfl (B_ dk299) rfl rfl (XS.iconst X20.here hx rfl (B_ dk300) (XS.aloadN X20.here hx rfl (B_ dk301) rfl rfl (XS.iconst X20.here hx rfl (B_ dk302) (XS.iloadN X20.here hx rfl (B_ dk303) rfl  (XS.iloadN X20.here hx rfl (B_ dk304) rfl  k_)))))) ?_
 show Go_ T20 (mkF mm_ 123 #[vr w, vi po, vi d] [(.int d), (.int po), (.int 4), (.ref w), (.int 4), (.ref b3), (.ref b3), (.ref b2), (.ref b2)])
 have f22 : own_Str Z h20 w t [c0, c1, c2, c3, c4, c5, c6, c7, c8, c9] := (f18.keep (Keep.of_wr W20) (ninS (Nat.ne_of_lt (Nat.lt_of_lt_of_le (pr0.ext E2).lt (Nat.le_of_eq q3.symm))) nin0) (ninS (Nat.ne_of_lt (Nat.lt_of_lt_of_le (pr0.ext E2).ltT (Nat.le_of_eq q3.symm))) nin0))
 have O23 : Old Z n0 h20 := (O19.wr W20 g_b3)
 obtain ⟨_, T21, Lc21, X21, hQ21, st21⟩ := own_cS X20 hx hZ hown (w_ hw 28 rfl) (w_ hw 29 rfl) (w_ hw 11 rfl) (w_ hw 30 rfl) (by decide) (backOf (W := 5) (rmAt l Z a0 hw [] w (4 : Int32) po d t [c0, c1, c2, c3, c4, c5, c6, c7, c8, c9] 4 h20 n0 O23 G_ f22 (sg_d) rfl (Nat.le_of_ble_eq_true rfl)) hZ (w_ hw 30 rfl) (w_ hw 11 rfl) (by decide) (by decide)) (g := (mkF mm_ 123 #[vr w, vi po, vi d] [(.int d), (.int po), (.int 4), (.ref w), (.int 4), (.ref b3), (.ref b3), (.ref b2), (.ref b2)])) rfl hml.symm (argsL := [(.ref w), (.int 4), (.int po), (.int d)]) (rest := [(.int 4), (.ref b3), (.ref b3), (.ref b2), (.ref b2)]) (lenOf pd_8 rfl) rfl (Nat.le_of_eq rfl) (B_ dk305) rfl e20 (by decide) (by decide)
 obtain ⟨v_21, rfl, rfl, Eh21, r21_0⟩ := hQ21
 have N21 := Fr.app N20 (Fr.nil n0)
 refine jp_ st21 ?_
 show Go_ T21 (mkF mm_ 126 #[vr w, vi po, vi d] [(.int v_21), (.int 4), (.ref b3), (.ref b3), (.ref b2), (.ref b2)])
 obtain ⟨cl24, Ar24, q24, S24, M24, H24, G24⟩ := id V20
 have hin24 : ¬ ((4 : Int32) < 0 ∨ cl24.slots.size ≤ ((4 : Int32)).toNatClampNeg) := inb_of S24 ⟨by decide, by decide⟩
 obtain ⟨T24, h24, X24, e24, W24, st24⟩ := stC X21 hx hZ Eh21 Ar24 (j := (4 : Int32)) hin24 (g := (mkF mm_ 126 #[vr w, vi po, vi d] [(.int v_21), (.int 4), (.ref b3), (.ref b3), (.ref b2), (.ref b2)])) rfl rfl (B_ dk306)
 have V24 : Arv Z h24 b3 k3 .char (10 : Int32) [(.int v_5), (.int v_9), (.int v_13), (.int v_17), (.int v_21), (.int 0), (.int 0), (.int 0), (.int 0), (.int 0)] (.int 0) := by
  have q := Arv.set Ar24 q24 S24 M24 H24 G24 (fits_nar_char _) W24 4 rfl (Nat.le_of_ble_eq_true rfl)
  rw [own_narLit _ (own_sgc r21_0).1 (own_sgc r21_0).2] at q
  exact q
 have N24 := Fr.snoc X24 N21 g_b3
 refine sp_ st24 ?_
 show Go_ T24 (mkF mm_ 127 #[vr w, vi po, vi d] [(.ref b3), (.ref b2), (.ref b2)])
 refine sp_ (fun t_ k_ => XS.dup X24.here hx rfl (B_ dk307) rfl rfl (XS.iconst X24.here hx rfl (B_ dk308) (XS.aloadN X24.here hx rfl (B_ dk309) rfl rfl (XS.iconst X24.here hx rfl (B_ dk310) (XS.iloadN X24.here hx rfl (B_ dk311) rfl  (XS.iloadN X24.here hx rfl (B_ dk312) rfl  k_)))))) ?_
 show Go_ T24 (mkF mm_ 133 #[vr w, vi po, vi d] [(.int d), (.int po), (.int 5), (.ref w), (.int 5), (.ref b3), (.ref b3), (.ref b2), (.ref b2)])
 have f26 : own_Str Z h24 w t [c0, c1, c2, c3, c4, c5, c6, c7, c8, c9] := (f22.keep (Keep.of_wr W24) (ninS (Nat.ne_of_lt (Nat.lt_of_lt_of_le (pr0.ext E2).lt (Nat.le_of_eq q3.symm))) nin0) (ninS (Nat.ne_of_lt (Nat.lt_of_lt_of_le (pr0.ext E2).ltT (Nat.le_of_eq q3.symm))) nin0))
 have O27 : Old Z n0 h24 := (O23.wr W24 g_b3)
 obtain ⟨_, T25, Lc25, X25, hQ25, st25⟩ := own_cS X24 hx hZ hown (w_ hw 28 rfl) (w_ hw 29 rfl) (w_ hw 11 rfl) (w_ hw 30 rfl) (by decide) (backOf (W := 5) (rmAt l Z a0 hw [] w (5 : Int32) po d t [c0, c1, c2, c3, c4, c5, c6, c7, c8, c9] 5 h24 n0 O27 G_ f26 (sg_d) rfl (Nat.le_of_ble_eq_true rfl)) hZ (w_ hw 30 rfl) (w_ hw 11 rfl) (by decide) (by decide)) (g := (mkF mm_ 133 #[vr w, vi po, vi d] [(.int d), (.int po), (.int 5), (.ref w), (.int 5), (.ref b3), (.ref b3), (.ref b2), (.ref b2)])) rfl hml.symm (argsL := [(.ref w), (.int 5), (.int po), (.int d)]) (rest := [(.int 5), (.ref b3), (.ref b3), (.ref b2), (.ref b2)]) (lenOf pd_8 rfl) rfl (Nat.le_of_eq rfl) (B_ dk313) rfl e24 (by decide) (by decide)
 obtain ⟨v_25, rfl, rfl, Eh25, r25_0⟩ := hQ25
 have N25 := Fr.app N24 (Fr.nil n0)
 refine jp_ st25 ?_
 show Go_ T25 (mkF mm_ 136 #[vr w, vi po, vi d] [(.int v_25), (.int 5), (.ref b3), (.ref b3), (.ref b2), (.ref b2)])
 obtain ⟨cl28, Ar28, q28, S28, M28, H28, G28⟩ := id V24
 have hin28 : ¬ ((5 : Int32) < 0 ∨ cl28.slots.size ≤ ((5 : Int32)).toNatClampNeg) := inb_of S28 ⟨by decide, by decide⟩
 obtain ⟨T28, h28, X28, e28, W28, st28⟩ := stC X25 hx hZ Eh25 Ar28 (j := (5 : Int32)) hin28 (g := (mkF mm_ 136 #[vr w, vi po, vi d] [(.int v_25), (.int 5), (.ref b3), (.ref b3), (.ref b2), (.ref b2)])) rfl rfl (B_ dk314)
 have V28 : Arv Z h28 b3 k3 .char (10 : Int32) [(.int v_5), (.int v_9), (.int v_13), (.int v_17), (.int v_21), (.int v_25), (.int 0), (.int 0), (.int 0), (.int 0)] (.int 0) := by
  have q := Arv.set Ar28 q28 S28 M28 H28 G28 (fits_nar_char _) W28 5 rfl (Nat.le_of_ble_eq_true rfl)
  rw [own_narLit _ (own_sgc r25_0).1 (own_sgc r25_0).2] at q
  exact q
 have N28 := Fr.snoc X28 N25 g_b3
 refine sp_ st28 ?_
 show Go_ T28 (mkF mm_ 137 #[vr w, vi po, vi d] [(.ref b3), (.ref b2), (.ref b2)])
 refine sp_ (fun t_ k_ => XS.dup X28.here hx rfl (B_ dk315) rfl rfl (XS.bipush X28.here hx rfl (B_ dk316) (XS.aloadN X28.here hx rfl (B_ dk317) rfl rfl (XS.bipush X28.here hx rfl (B_ dk318) (XS.iloadN X28.here hx rfl (B_ dk319) rfl  (XS.iloadN X28.here hx rfl (B_ dk320) rfl  k_)))))) ?_
 show Go_ T28 (mkF mm_ 145 #[vr w, vi po, vi d] [(.int d), (.int po), (.int 6), (.ref w), (.int 6), (.ref b3), (.ref b3), (.ref b2), (.ref b2)])
 have f30 : own_Str Z h28 w t [c0, c1, c2, c3, c4, c5, c6, c7, c8, c9] := (f26.keep (Keep.of_wr W28) (ninS (Nat.ne_of_lt (Nat.lt_of_lt_of_le (pr0.ext E2).lt (Nat.le_of_eq q3.symm))) nin0) (ninS (Nat.ne_of_lt (Nat.lt_of_lt_of_le (pr0.ext E2).ltT (Nat.le_of_eq q3.symm))) nin0))
 have O31 : Old Z n0 h28 := (O27.wr W28 g_b3)
 obtain ⟨_, T29, Lc29, X29, hQ29, st29⟩ := own_cS X28 hx hZ hown (w_ hw 28 rfl) (w_ hw 29 rfl) (w_ hw 11 rfl) (w_ hw 30 rfl) (by decide) (backOf (W := 5) (rmAt l Z a0 hw [] w (6 : Int32) po d t [c0, c1, c2, c3, c4, c5, c6, c7, c8, c9] 6 h28 n0 O31 G_ f30 (sg_d) rfl (Nat.le_of_ble_eq_true rfl)) hZ (w_ hw 30 rfl) (w_ hw 11 rfl) (by decide) (by decide)) (g := (mkF mm_ 145 #[vr w, vi po, vi d] [(.int d), (.int po), (.int 6), (.ref w), (.int 6), (.ref b3), (.ref b3), (.ref b2), (.ref b2)])) rfl hml.symm (argsL := [(.ref w), (.int 6), (.int po), (.int d)]) (rest := [(.int 6), (.ref b3), (.ref b3), (.ref b2), (.ref b2)]) (lenOf pd_8 rfl) rfl (Nat.le_of_eq rfl) (B_ dk321) rfl e28 (by decide) (by decide)
 obtain ⟨v_29, rfl, rfl, Eh29, r29_0⟩ := hQ29
 have N29 := Fr.app N28 (Fr.nil n0)
 refine jp_ st29 ?_
 show Go_ T29 (mkF mm_ 148 #[vr w, vi po, vi d] [(.int v_29), (.int 6), (.ref b3), (.ref b3), (.ref b2), (.ref b2)])
 obtain ⟨cl32, Ar32, q32, S32, M32, H32, G32⟩ := id V28
 have hin32 : ¬ ((6 : Int32) < 0 ∨ cl32.slots.size ≤ ((6 : Int32)).toNatClampNeg) := inb_of S32 ⟨by decide, by decide⟩
 obtain ⟨T32, h32, X32, e32, W32, st32⟩ := stC X29 hx hZ Eh29 Ar32 (j := (6 : Int32)) hin32 (g := (mkF mm_ 148 #[vr w, vi po, vi d] [(.int v_29), (.int 6), (.ref b3), (.ref b3), (.ref b2), (.ref b2)])) rfl rfl (B_ dk322)
 have V32 : Arv Z h32 b3 k3 .char (10 : Int32) [(.int v_5), (.int v_9), (.int v_13), (.int v_17), (.int v_21), (.int v_25), (.int v_29), (.int 0), (.int 0), (.int 0)] (.int 0) := by
  have q := Arv.set Ar32 q32 S32 M32 H32 G32 (fits_nar_char _) W32 6 rfl (Nat.le_of_ble_eq_true rfl)
  rw [own_narLit _ (own_sgc r29_0).1 (own_sgc r29_0).2] at q
  exact q
 have N32 := Fr.snoc X32 N29 g_b3
 refine sp_ st32 ?_
 show Go_ T32 (mkF mm_ 149 #[vr w, vi po, vi d] [(.ref b3), (.ref b2), (.ref b2)])
 refine sp_ (fun t_ k_ => XS.dup X32.here hx rfl (B_ dk323) rfl rfl (XS.bipush X32.here hx rfl (B_ dk324) (XS.aloadN X32.here hx rfl (B_ dk325) rfl rfl (XS.bipush X32.here hx rfl (B_ dk326) (XS.iloadN X32.here hx rfl (B_ dk327) rfl  (XS.iloadN X32.here hx rfl (B_ dk328) rfl  k_)))))) ?_
 show Go_ T32 (mkF mm_ 157 #[vr w, vi po, vi d] [(.int d), (.int po), (.int 7), (.ref w), (.int 7), (.ref b3), (.ref b3), (.ref b2), (.ref b2)])
 have f34 : own_Str Z h32 w t [c0, c1, c2, c3, c4, c5, c6, c7, c8, c9] := (f30.keep (Keep.of_wr W32) (ninS (Nat.ne_of_lt (Nat.lt_of_lt_of_le (pr0.ext E2).lt (Nat.le_of_eq q3.symm))) nin0) (ninS (Nat.ne_of_lt (Nat.lt_of_lt_of_le (pr0.ext E2).ltT (Nat.le_of_eq q3.symm))) nin0))
 have O35 : Old Z n0 h32 := (O31.wr W32 g_b3)
 obtain ⟨_, T33, Lc33, X33, hQ33, st33⟩ := own_cS X32 hx hZ hown (w_ hw 28 rfl) (w_ hw 29 rfl) (w_ hw 11 rfl) (w_ hw 30 rfl) (by decide) (backOf (W := 5) (rmAt l Z a0 hw [] w (7 : Int32) po d t [c0, c1, c2, c3, c4, c5, c6, c7, c8, c9] 7 h32 n0 O35 G_ f34 (sg_d) rfl (Nat.le_of_ble_eq_true rfl)) hZ (w_ hw 30 rfl) (w_ hw 11 rfl) (by decide) (by decide)) (g := (mkF mm_ 157 #[vr w, vi po, vi d] [(.int d), (.int po), (.int 7), (.ref w), (.int 7), (.ref b3), (.ref b3), (.ref b2), (.ref b2)])) rfl hml.symm (argsL := [(.ref w), (.int 7), (.int po), (.int d)]) (rest := [(.int 7), (.ref b3), (.ref b3), (.ref b2), (.ref b2)]) (lenOf pd_8 rfl) rfl (Nat.le_of_eq rfl) (B_ dk329) rfl e32 (by decide) (by decide)
 obtain ⟨v_33, rfl, rfl, Eh33, r33_0⟩ := hQ33
 have N33 := Fr.app N32 (Fr.nil n0)
 refine jp_ st33 ?_
 show Go_ T33 (mkF mm_ 160 #[vr w, vi po, vi d] [(.int v_33), (.int 7), (.ref b3), (.ref b3), (.ref b2), (.ref b2)])
 obtain ⟨cl36, Ar36, q36, S36, M36, H36, G36⟩ := id V32
 have hin36 : ¬ ((7 : Int32) < 0 ∨ cl36.slots.size ≤ ((7 : Int32)).toNatClampNeg) := inb_of S36 ⟨by decide, by decide⟩
 obtain ⟨T36, h36, X36, e36, W36, st36⟩ := stC X33 hx hZ Eh33 Ar36 (j := (7 : Int32)) hin36 (g := (mkF mm_ 160 #[vr w, vi po, vi d] [(.int v_33), (.int 7), (.ref b3), (.ref b3), (.ref b2), (.ref b2)])) rfl rfl (B_ dk330)
 have V36 : Arv Z h36 b3 k3 .char (10 : Int32) [(.int v_5), (.int v_9), (.int v_13), (.int v_17), (.int v_21), (.int v_25), (.int v_29), (.int v_33), (.int 0), (.int 0)] (.int 0) := by
  have q := Arv.set Ar36 q36 S36 M36 H36 G36 (fits_nar_char _) W36 7 rfl (Nat.le_of_ble_eq_true rfl)
  rw [own_narLit _ (own_sgc r33_0).1 (own_sgc r33_0).2] at q
  exact q
 have N36 := Fr.snoc X36 N33 g_b3
 refine sp_ st36 ?_
 show Go_ T36 (mkF mm_ 161 #[vr w, vi po, vi d] [(.ref b3), (.ref b2), (.ref b2)])
 refine sp_ (fun t_ k_ => XS.dup X36.here hx rfl (B_ dk331) rfl rfl (XS.bipush X36.here hx rfl (B_ dk332) (XS.aloadN X36.here hx rfl (B_ dk333) rfl rfl (XS.bipush X36.here hx rfl (B_ dk334) (XS.iloadN X36.here hx rfl (B_ dk335) rfl  (XS.iloadN X36.here hx rfl (B_ dk336) rfl  k_)))))) ?_
 show Go_ T36 (mkF mm_ 169 #[vr w, vi po, vi d] [(.int d), (.int po), (.int 8), (.ref w), (.int 8), (.ref b3), (.ref b3), (.ref b2), (.ref b2)])
 have f38 : own_Str Z h36 w t [c0, c1, c2, c3, c4, c5, c6, c7, c8, c9] := (f34.keep (Keep.of_wr W36) (ninS (Nat.ne_of_lt (Nat.lt_of_lt_of_le (pr0.ext E2).lt (Nat.le_of_eq q3.symm))) nin0) (ninS (Nat.ne_of_lt (Nat.lt_of_lt_of_le (pr0.ext E2).ltT (Nat.le_of_eq q3.symm))) nin0))
 have O39 : Old Z n0 h36 := (O35.wr W36 g_b3)
 obtain ⟨_, T37, Lc37, X37, hQ37, st37⟩ := own_cS X36 hx hZ hown (w_ hw 28 rfl) (w_ hw 29 rfl) (w_ hw 11 rfl) (w_ hw 30 rfl) (by decide) (backOf (W := 5) (rmAt l Z a0 hw [] w (8 : Int32) po d t [c0, c1, c2, c3, c4, c5, c6, c7, c8, c9] 8 h36 n0 O39 G_ f38 (sg_d) rfl (Nat.le_of_ble_eq_true rfl)) hZ (w_ hw 30 rfl) (w_ hw 11 rfl) (by decide) (by decide)) (g := (mkF mm_ 169 #[vr w, vi po, vi d] [(.int d), (.int po), (.int 8), (.ref w), (.int 8), (.ref b3), (.ref b3), (.ref b2), (.ref b2)])) rfl hml.symm (argsL := [(.ref w), (.int 8), (.int po), (.int d)]) (rest := [(.int 8), (.ref b3), (.ref b3), (.ref b2), (.ref b2)]) (lenOf pd_8 rfl) rfl (Nat.le_of_eq rfl) (B_ dk337) rfl e36 (by decide) (by decide)
 obtain ⟨v_37, rfl, rfl, Eh37, r37_0⟩ := hQ37
 have N37 := Fr.app N36 (Fr.nil n0)
 refine jp_ st37 ?_
 show Go_ T37 (mkF mm_ 172 #[vr w, vi po, vi d] [(.int v_37), (.int 8), (.ref b3), (.ref b3), (.ref b2), (.ref b2)])
 obtain ⟨cl40, Ar40, q40, S40, M40, H40, G40⟩ := id V36
 have hin40 : ¬ ((8 : Int32) < 0 ∨ cl40.slots.size ≤ ((8 : Int32)).toNatClampNeg) := inb_of S40 ⟨by decide, by decide⟩
 obtain ⟨T40, h40, X40, e40, W40, st40⟩ := stC X37 hx hZ Eh37 Ar40 (j := (8 : Int32)) hin40 (g := (mkF mm_ 172 #[vr w, vi po, vi d] [(.int v_37), (.int 8), (.ref b3), (.ref b3), (.ref b2), (.ref b2)])) rfl rfl (B_ dk338)
 have V40 : Arv Z h40 b3 k3 .char (10 : Int32) [(.int v_5), (.int v_9), (.int v_13), (.int v_17), (.int v_21), (.int v_25), (.int v_29), (.int v_33), (.int v_37), (.int 0)] (.int 0) := by
  have q := Arv.set Ar40 q40 S40 M40 H40 G40 (fits_nar_char _) W40 8 rfl (Nat.le_of_ble_eq_true rfl)
  rw [own_narLit _ (own_sgc r37_0).1 (own_sgc r37_0).2] at q
  exact q
 have N40 := Fr.snoc X40 N37 g_b3
 refine sp_ st40 ?_
 show Go_ T40 (mkF mm_ 173 #[vr w, vi po, vi d] [(.ref b3), (.ref b2), (.ref b2)])
 refine sp_ (fun t_ k_ => XS.dup X40.here hx rfl (B_ dk339) rfl rfl (XS.bipush X40.here hx rfl (B_ dk340) (XS.aloadN X40.here hx rfl (B_ dk341) rfl rfl (XS.bipush X40.here hx rfl (B_ dk342) (XS.iloadN X40.here hx rfl (B_ dk343) rfl  (XS.iloadN X40.here hx rfl (B_ dk344) rfl  k_)))))) ?_
 show Go_ T40 (mkF mm_ 181 #[vr w, vi po, vi d] [(.int d), (.int po), (.int 9), (.ref w), (.int 9), (.ref b3), (.ref b3), (.ref b2), (.ref b2)])
 have f42 : own_Str Z h40 w t [c0, c1, c2, c3, c4, c5, c6, c7, c8, c9] := (f38.keep (Keep.of_wr W40) (ninS (Nat.ne_of_lt (Nat.lt_of_lt_of_le (pr0.ext E2).lt (Nat.le_of_eq q3.symm))) nin0) (ninS (Nat.ne_of_lt (Nat.lt_of_lt_of_le (pr0.ext E2).ltT (Nat.le_of_eq q3.symm))) nin0))
 have O43 : Old Z n0 h40 := (O39.wr W40 g_b3)
 obtain ⟨_, T41, Lc41, X41, hQ41, st41⟩ := own_cS X40 hx hZ hown (w_ hw 28 rfl) (w_ hw 29 rfl) (w_ hw 11 rfl) (w_ hw 30 rfl) (by decide) (backOf (W := 5) (rmAt l Z a0 hw [] w (9 : Int32) po d t [c0, c1, c2, c3, c4, c5, c6, c7, c8, c9] 9 h40 n0 O43 G_ f42 (sg_d) rfl (Nat.le_of_ble_eq_true rfl)) hZ (w_ hw 30 rfl) (w_ hw 11 rfl) (by decide) (by decide)) (g := (mkF mm_ 181 #[vr w, vi po, vi d] [(.int d), (.int po), (.int 9), (.ref w), (.int 9), (.ref b3), (.ref b3), (.ref b2), (.ref b2)])) rfl hml.symm (argsL := [(.ref w), (.int 9), (.int po), (.int d)]) (rest := [(.int 9), (.ref b3), (.ref b3), (.ref b2), (.ref b2)]) (lenOf pd_8 rfl) rfl (Nat.le_of_eq rfl) (B_ dk345) rfl e40 (by decide) (by decide)
 obtain ⟨v_41, rfl, rfl, Eh41, r41_0⟩ := hQ41
 have N41 := Fr.app N40 (Fr.nil n0)
 refine jp_ st41 ?_
 show Go_ T41 (mkF mm_ 184 #[vr w, vi po, vi d] [(.int v_41), (.int 9), (.ref b3), (.ref b3), (.ref b2), (.ref b2)])
 obtain ⟨cl44, Ar44, q44, S44, M44, H44, G44⟩ := id V40
 have hin44 : ¬ ((9 : Int32) < 0 ∨ cl44.slots.size ≤ ((9 : Int32)).toNatClampNeg) := inb_of S44 ⟨by decide, by decide⟩
 obtain ⟨T44, h44, X44, e44, W44, st44⟩ := stC X41 hx hZ Eh41 Ar44 (j := (9 : Int32)) hin44 (g := (mkF mm_ 184 #[vr w, vi po, vi d] [(.int v_41), (.int 9), (.ref b3), (.ref b3), (.ref b2), (.ref b2)])) rfl rfl (B_ dk346)
 have V44 : Arv Z h44 b3 k3 .char (10 : Int32) [(.int v_5), (.int v_9), (.int v_13), (.int v_17), (.int v_21), (.int v_25), (.int v_29), (.int v_33), (.int v_37), (.int v_41)] (.int 0) := by
  have q := Arv.set Ar44 q44 S44 M44 H44 G44 (fits_nar_char _) W44 9 rfl (Nat.le_of_ble_eq_true rfl)
  rw [own_narLit _ (own_sgc r41_0).1 (own_sgc r41_0).2] at q
  exact q
 have N44 := Fr.snoc X44 N41 g_b3
 refine sp_ st44 ?_
 show Go_ T44 (mkF mm_ 185 #[vr w, vi po, vi d] [(.ref b3), (.ref b2), (.ref b2)])
 have hp46 : ∀ ch_ ∈ ([v_5, v_9, v_13, v_17, v_21, v_25, v_29, v_33, v_37, v_41] : List Int32), ¬ ch_ < 0 ∧ ¬ (255 : Int32) < ch_ := by
  intro ch_ hc
  simp only [List.mem_cons, List.not_mem_nil, or_false] at hc
  rcases hc with rfl | rfl | rfl | rfl | rfl | rfl | rfl | rfl | rfl | rfl
  · exact r5_0
  · exact r9_0
  · exact r13_0
  · exact r17_0
  · exact r21_0
  · exact r25_0
  · exact r29_0
  · exact r33_0
  · exact r37_0
  · exact r41_0
 have f47 : Exa Z h44 b2 sc0 := (((((((((((A2.ext E3).wr W8).wr W12).wr W16).wr W20).wr W24).wr W28).wr W32).wr W36).wr W40).wr W44)
 have f48 : Fld Z h44 b2 sc0 "value" "[B" .null := (((((((((((F2_value.ext E3).other W8 (Or.inl (Nat.ne_of_lt (Nat.lt_of_lt_of_le A2.lt (Nat.le_of_eq q3.symm))))).other W12 (Or.inl (Nat.ne_of_lt (Nat.lt_of_lt_of_le A2.lt (Nat.le_of_eq q3.symm))))).other W16 (Or.inl (Nat.ne_of_lt (Nat.lt_of_lt_of_le A2.lt (Nat.le_of_eq q3.symm))))).other W20 (Or.inl (Nat.ne_of_lt (Nat.lt_of_lt_of_le A2.lt (Nat.le_of_eq q3.symm))))).other W24 (Or.inl (Nat.ne_of_lt (Nat.lt_of_lt_of_le A2.lt (Nat.le_of_eq q3.symm))))).other W28 (Or.inl (Nat.ne_of_lt (Nat.lt_of_lt_of_le A2.lt (Nat.le_of_eq q3.symm))))).other W32 (Or.inl (Nat.ne_of_lt (Nat.lt_of_lt_of_le A2.lt (Nat.le_of_eq q3.symm))))).other W36 (Or.inl (Nat.ne_of_lt (Nat.lt_of_lt_of_le A2.lt (Nat.le_of_eq q3.symm))))).other W40 (Or.inl (Nat.ne_of_lt (Nat.lt_of_lt_of_le A2.lt (Nat.le_of_eq q3.symm))))).other W44 (Or.inl (Nat.ne_of_lt (Nat.lt_of_lt_of_le A2.lt (Nat.le_of_eq q3.symm)))))
 have f49 : Fld Z h44 b2 sc0 "coder" "B" (.int 0) := (((((((((((F2_coder.ext E3).other W8 (Or.inl (Nat.ne_of_lt (Nat.lt_of_lt_of_le A2.lt (Nat.le_of_eq q3.symm))))).other W12 (Or.inl (Nat.ne_of_lt (Nat.lt_of_lt_of_le A2.lt (Nat.le_of_eq q3.symm))))).other W16 (Or.inl (Nat.ne_of_lt (Nat.lt_of_lt_of_le A2.lt (Nat.le_of_eq q3.symm))))).other W20 (Or.inl (Nat.ne_of_lt (Nat.lt_of_lt_of_le A2.lt (Nat.le_of_eq q3.symm))))).other W24 (Or.inl (Nat.ne_of_lt (Nat.lt_of_lt_of_le A2.lt (Nat.le_of_eq q3.symm))))).other W28 (Or.inl (Nat.ne_of_lt (Nat.lt_of_lt_of_le A2.lt (Nat.le_of_eq q3.symm))))).other W32 (Or.inl (Nat.ne_of_lt (Nat.lt_of_lt_of_le A2.lt (Nat.le_of_eq q3.symm))))).other W36 (Or.inl (Nat.ne_of_lt (Nat.lt_of_lt_of_le A2.lt (Nat.le_of_eq q3.symm))))).other W40 (Or.inl (Nat.ne_of_lt (Nat.lt_of_lt_of_le A2.lt (Nat.le_of_eq q3.symm))))).other W44 (Or.inl (Nat.ne_of_lt (Nat.lt_of_lt_of_le A2.lt (Nat.le_of_eq q3.symm)))))
 have O50 : Old Z n0 h44 := (O43.wr W44 g_b3)
 have K51 : Keep h0 h44 [] := (((((((((((K4.ext E3).wr W8 (Or.inr lo_b3)).wr W12 (Or.inr lo_b3)).wr W16 (Or.inr lo_b3)).wr W20 (Or.inr lo_b3)).wr W24 (Or.inr lo_b3)).wr W28 (Or.inr lo_b3)).wr W32 (Or.inr lo_b3)).wr W36 (Or.inr lo_b3)).wr W40 (Or.inr lo_b3)).wr W44 (Or.inr lo_b3))
 obtain ⟨_, T45, Lc45, X45, hQ45, st45⟩ := own_cI X44 hx hZ rfl hown (w_ hw 53 rfl) (w_ hw 54 rfl) (w_ hw 55 rfl) (by decide) (own_newS (W := 1) hZ hw (cs := [v_5, v_9, v_13, v_17, v_21, v_25, v_29, v_33, v_37, v_41]) (n := 10) g_b2 (Nat.le_trans Z0 K51.1) f47 f48 f49 V44 (G_cs.ext O50.2) G_cs0 rfl rfl rfl (by decide) (by decide) hp46 (by decide) (by decide)) (g := (mkF mm_ 185 #[vr w, vi po, vi d] [(.ref b3), (.ref b2), (.ref b2)])) rfl hml.symm (a := b2) (argsL := [(.ref b3)]) (rest := [(.ref b2)]) (lenOf pd_9 rfl) rfl (Nat.le_of_eq rfl) (B_ dk347) rfl e44 (by decide) (by decide)
 obtain ⟨t45, rfl, Nq45, Kc45, lo45, Fs45⟩ := hQ45
 have N45 := Fr.app N44 Nq45
 have lo_t45 : h0.size ≤ t45 := Nat.le_trans K51.1 lo45
 have g_t45 : n0 ≤ t45 := Nat.le_trans Z0 lo_t45
 refine jp_ st45 ?_
 show Go_ T45 (mkF mm_ 188 #[vr w, vi po, vi d] [(.ref b2)])
 have K52 : Keep h0 T45.heap [] := (K51.trans Kc45 (allS (Or.inr lo_b2) all0))
 obtain ⟨fs, hr, hrun, hended, hW, hsame⟩ := X45.leave (v := some (.ref b2)) (rN Bd.returns)
 refine ⟨_, _, ?_, hrun, hended, _, _, rfl, ?_, ⟨_, rfl⟩, hW, hsame.mono (by decide) (by decide)⟩
 · jvm_step X45.here [X45.here.top, hx, (B_ dk348), X45.method', Bd.returns, Value.isRef, FieldType.isReference]
   first | (intro acts; rw [hr _ acts rfl rfl rfl]) | rw [hr _ _ rfl rfl rfl]
   exact Steps.refl _
 · show QrmCp10 Z w po d t c0 c1 c2 c3 c4 c5 c6 c7 c8 c9 h0 n0 (some (.ref b2)) T45.heap _
   exact ⟨b2, t45, [v_5, v_9, v_13, v_17, v_21, v_25, v_29, v_33, v_37, v_41], rfl, N45, K52, lo_b2, Fs45⟩
theorem dk349 : decode J12 64 = .ok (.new 25, 3) := by decide +kernel
theorem dk350 : decode J12 67 = .ok (.dup, 1) := by decide +kernel
theorem dk351 : decode J12 68 = .ok (.bipush 11, 2) := by decide +kernel
theorem dk352 : decode J12 70 = .ok (.newarray .char, 2) := by decide +kernel
theorem dk353 : decode J12 72 = .ok (.dup, 1) := by decide +kernel
theorem dk354 : decode J12 73 = .ok (.iconst 0, 1) := by decide +kernel
theorem dk355 : decode J12 74 = .ok (.aload_n 0, 1) := by decide +kernel
theorem dk356 : decode J12 75 = .ok (.iconst 0, 1) := by decide +kernel
theorem dk357 : decode J12 76 = .ok (.invokevirtual 68, 3) := by decide +kernel
theorem dk358 : decode J12 79 = .ok (.castore, 1) := by decide +kernel
theorem dk359 : decode J12 80 = .ok (.dup, 1) := by decide +kernel
theorem dk360 : decode J12 81 = .ok (.iconst 1, 1) := by decide +kernel
theorem dk361 : decode J12 82 = .ok (.aload_n 0, 1) := by decide +kernel
theorem dk362 : decode J12 83 = .ok (.iconst 1, 1) := by decide +kernel
theorem dk363 : decode J12 84 = .ok (.invokevirtual 68, 3) := by decide +kernel
theorem dk364 : decode J12 87 = .ok (.castore, 1) := by decide +kernel
theorem dk365 : decode J12 88 = .ok (.dup, 1) := by decide +kernel
theorem dk366 : decode J12 89 = .ok (.iconst 2, 1) := by decide +kernel
theorem dk367 : decode J12 90 = .ok (.aload_n 0, 1) := by decide +kernel
theorem dk368 : decode J12 91 = .ok (.iconst 2, 1) := by decide +kernel
theorem dk369 : decode J12 92 = .ok (.invokevirtual 68, 3) := by decide +kernel
theorem dk370 : decode J12 95 = .ok (.castore, 1) := by decide +kernel
theorem dk371 : decode J12 96 = .ok (.dup, 1) := by decide +kernel
theorem dk372 : decode J12 97 = .ok (.iconst 3, 1) := by decide +kernel
theorem dk373 : decode J12 98 = .ok (.aload_n 0, 1) := by decide +kernel
theorem dk374 : decode J12 99 = .ok (.iconst 3, 1) := by decide +kernel
theorem dk375 : decode J12 100 = .ok (.invokevirtual 68, 3) := by decide +kernel
theorem dk376 : decode J12 103 = .ok (.castore, 1) := by decide +kernel
theorem dk377 : decode J12 104 = .ok (.dup, 1) := by decide +kernel
theorem dk378 : decode J12 105 = .ok (.iconst 4, 1) := by decide +kernel
theorem dk379 : decode J12 106 = .ok (.aload_n 0, 1) := by decide +kernel
theorem dk380 : decode J12 107 = .ok (.iconst 4, 1) := by decide +kernel
theorem dk381 : decode J12 108 = .ok (.invokevirtual 68, 3) := by decide +kernel
theorem dk382 : decode J12 111 = .ok (.castore, 1) := by decide +kernel
theorem dk383 : decode J12 112 = .ok (.dup, 1) := by decide +kernel
theorem dk384 : decode J12 113 = .ok (.iconst 5, 1) := by decide +kernel
theorem dk385 : decode J12 114 = .ok (.aload_n 0, 1) := by decide +kernel
theorem dk386 : decode J12 115 = .ok (.iconst 5, 1) := by decide +kernel
theorem dk387 : decode J12 116 = .ok (.invokevirtual 68, 3) := by decide +kernel
theorem dk388 : decode J12 119 = .ok (.castore, 1) := by decide +kernel
theorem dk389 : decode J12 120 = .ok (.dup, 1) := by decide +kernel
theorem dk390 : decode J12 121 = .ok (.bipush 6, 2) := by decide +kernel
theorem dk391 : decode J12 123 = .ok (.aload_n 0, 1) := by decide +kernel
theorem dk392 : decode J12 124 = .ok (.bipush 6, 2) := by decide +kernel
theorem dk393 : decode J12 126 = .ok (.invokevirtual 68, 3) := by decide +kernel
theorem dk394 : decode J12 129 = .ok (.castore, 1) := by decide +kernel
theorem dk395 : decode J12 130 = .ok (.dup, 1) := by decide +kernel
theorem dk396 : decode J12 131 = .ok (.bipush 7, 2) := by decide +kernel
theorem dk397 : decode J12 133 = .ok (.aload_n 0, 1) := by decide +kernel
theorem dk398 : decode J12 134 = .ok (.bipush 7, 2) := by decide +kernel
theorem dk399 : decode J12 136 = .ok (.invokevirtual 68, 3) := by decide +kernel
theorem dk400 : decode J12 139 = .ok (.castore, 1) := by decide +kernel
theorem dk401 : decode J12 140 = .ok (.dup, 1) := by decide +kernel
theorem dk402 : decode J12 141 = .ok (.bipush 8, 2) := by decide +kernel
theorem dk403 : decode J12 143 = .ok (.aload_n 0, 1) := by decide +kernel
theorem dk404 : decode J12 144 = .ok (.bipush 8, 2) := by decide +kernel
theorem dk405 : decode J12 146 = .ok (.invokevirtual 68, 3) := by decide +kernel
theorem dk406 : decode J12 149 = .ok (.castore, 1) := by decide +kernel
theorem dk407 : decode J12 150 = .ok (.dup, 1) := by decide +kernel
theorem dk408 : decode J12 151 = .ok (.bipush 9, 2) := by decide +kernel
theorem dk409 : decode J12 153 = .ok (.aload_n 0, 1) := by decide +kernel
theorem dk410 : decode J12 154 = .ok (.bipush 9, 2) := by decide +kernel
theorem dk411 : decode J12 156 = .ok (.invokevirtual 68, 3) := by decide +kernel
theorem dk412 : decode J12 159 = .ok (.castore, 1) := by decide +kernel
theorem dk413 : decode J12 160 = .ok (.dup, 1) := by decide +kernel
theorem dk414 : decode J12 161 = .ok (.bipush 10, 2) := by decide +kernel
theorem dk415 : decode J12 163 = .ok (.iload_n 1, 1) := by decide +kernel
theorem dk416 : decode J12 164 = .ok (.castore, 1) := by decide +kernel
theorem dk417 : decode J12 165 = .ok (.invokespecial 76, 3) := by decide +kernel
theorem dk418 : decode J12 168 = .ok (.areturn, 1) := by decide +kernel
theorem ef_rmLo10 (mm_ : MethodId) (w : Addr) (d : Int32) : entryFrame mm_ #[(.ref w), (.int d)] 2 = (mkF mm_ 0 #[vr w, vi d] []) := by first | (simp [entryFrame, mkF, argsToLocals, Value.category]; done) | rfl
def QrmLo10 (Z : State) (w : Addr) (d : Int32) (t : Addr) (c0 : Int32) (c1 : Int32) (c2 : Int32) (c3 : Int32) (c4 : Int32) (c5 : Int32) (c6 : Int32) (c7 : Int32) (c8 : Int32) (c9 : Int32) (h0 : Heap) (n0 : Nat) (vv_ : Option Value) (hh_ : Heap) (LL_ : List Loc) : Prop := ∃ (r : Addr), ∃ (u : Addr), ∃ (ds : List Int32), (vv_ = some (.ref r)) ∧ (Fr n0 LL_) ∧ (Keep h0 hh_ []) ∧ (h0.size ≤ r) ∧ (own_Str Z hh_ r u ds)
theorem rmLo10 (l : Launch) (Z : State) (a0 : Array Value) (hw : own_Hw a0 Z) (ws : List Jvm.Cond) (w : Addr) (d : Int32) (t : Addr) (c0 : Int32) (c1 : Int32) (c2 : Int32) (c3 : Int32) (c4 : Int32) (c5 : Int32) (c6 : Int32) (c7 : Int32) (c8 : Int32) (c9 : Int32) {zc : Int32} {fm : Value} {w_0 : Addr} {w_1 : Addr} {w_2 : Addr} {w_3 : Addr} {wV : Addr} {kV : ClassId} {s_0 : Addr} {t_0 : Addr} {s_1 : Addr} {t_1 : Addr} {s_2 : Addr} {t_2 : Addr} {s_3 : Addr} {t_3 : Addr} (h0 : Heap) (n0 : Nat) (O0 : Old Z n0 h0) (G_ : own_St Z zc fm w_0 w_1 w_2 w_3 wV kV s_0 t_0 s_1 t_1 s_2 t_2 s_3 t_3) (pr0 : own_Str Z h0 w t [c0, c1, c2, c3, c4, c5, c6, c7, c8, c9]) (sg_d : ¬ d < (0 : Int32) ∧ ¬ (255 : Int32) < d) :
 MetFree l ym4 (head1 (Jvm.Cond.code ym4 J12 2 (some (.object sc0)) :: ws) (rm_ 4 3 26 66)) (fun aa_ UU_ => aa_ = #[(.ref w), (.int d)] ∧ Z.Warmed39 UU_.vm ∧ UU_.heap = h0) (fun _ _ _ _ _ => True) (fun _ UU_ oo_ UV_ => ∃ vv_ LL_, oo_ = .returned vv_ ∧ QrmLo10 Z w d t c0 c1 c2 c3 c4 c5 c6 c7 c8 c9 h0 n0 vv_ UV_.heap LL_ ∧ FrameEnd UU_ oo_ UV_ LL_ (rm_ 4 3 26 66).cells (rm_ 4 3 26 66).slots) := by
 refine MetFree.of_bodySF (plainFor_of_name pn_com_example_vestwright_vestwright_census_ReasonOfPinLaw) hisR ?_
 intro pp_ ee_ ss_ mm_ args_ bb_ me_ cc_ s₁ Bd hml0 hP hK
 obtain ⟨rfl, hZ, hh⟩ := hP
 have hx := Bd.exec
 have hby := Bd.bytes; have B_ {q_ : Nat} {r_ : _} (h_ : decode _ q_ = r_) := hb hby h_
 have hml : cc_.maxLocals = 2 := hml0
 have hown : ss_.vm.findClass sc1 = some mm_.cls := findClass_of_methodNamed Bd.named
 have hnm := (name_of_methodNamed Bd.named Bd.method).1
 have X0 : Stand pp_ l ee_ (rm_ 4 3 26 66) ss_ mm_ #[(.ref w), (.int d)] bb_ me_ cc_ s₁ [] 0 0 := Stand.of_body Bd
 have e0 : s₁.heap = h0 := by rw [← hh, Bd.state]; rfl
 have N0 := Fr.nil n0
 show own_Go pp_ ee_ bb_ _ s₁ (entryFrame mm_ #[(.ref w), (.int d)] 2)
 refine own_cast (ef_rmLo10 mm_ w d) ?_
 have Z0 : n0 ≤ h0.size := by have q := O0.2.1; rw [O0.1] at q; exact q
 have K0 : Keep h0 h0 [] := Keep.refl _ _
 obtain ⟨G_cs, G_cs0, G_fm, G_fr, G_S1, G_S2, G_S3, G_S4, G_S5, G_E6, G_E7, G_E8, G_E9, G_E10, G_V11, G_F12, G_T13, G_F17, G_T18, G_F22, G_T23, G_F27, G_T28, G_cw, G_h_com_example_vestwright_vestwright_census_ReasonOfPinLaw_7, G_h_com_example_vestwright_vestwright_census_ReasonOfPinLaw_9, G_h_com_example_vestwright_vestwright_census_ReasonOfPinLaw_11, G_h_com_example_vestwright_vestwright_census_ReasonOfPinLaw_13, G_h_java_lang_String_7⟩ := id G_
 show Go_ s₁ (mkF mm_ 0 #[vr w, vi d] [])
 refine sp_ (fun t_ k_ => XS.aloadN X0.here hx rfl (B_ dk185) rfl rfl k_) ?_
 show Go_ s₁ (mkF mm_ 1 #[vr w, vi d] [(.ref w)])
 obtain ⟨_, T1, Lc1, X1, hQ1, st1⟩ := own_cV X0 hx hZ hown (w_ hw 13 rfl) (w_ hw 14 rfl) (notFace_of_selects (args := #[]) (mvT hZ (w_ hw 16 rfl))) (w_ hw 16 rfl) (w_ hw 15 rfl) (by decide) (own_lenS (W := 0) hZ hw pr0 (G_cs.ext O0.2) G_cs0 (by decide) (by decide)) pr0.1 (g := (mkF mm_ 1 #[vr w, vi d] [(.ref w)])) rfl hml.symm (argsL := []) (rest := []) (lenOf pd_7 rfl) rfl (Nat.le_of_eq rfl) (B_ dk186) rfl e0 (by decide) (by decide)
 obtain ⟨rfl, rfl, Eh1⟩ := hQ1
 have N1 := Fr.app N0 (Fr.nil n0)
 refine jp_ st1 ?_
 show Go_ T1 (mkF mm_ 4 #[vr w, vi d] [(.int 10)])
 refine sp_ (fun t_ k_ => XS.iconst X1.here hx rfl (B_ dk187) k_) ?_
 show Go_ T1 (mkF mm_ 5 #[vr w, vi d] [(.int 5), (.int 10)])
 refine sp_ (fun t_ k_ => XS.icmpYes X1.here hx rfl (pc0 := 5) (pc' := 64) rfl (B_ dk188) rfl (feq (by decide : ¬ ((10 : Int32) = (5 : Int32)))).2 (by decide) (by decide) k_) ?_
 show Go_ T1 (mkF mm_ 64 #[vr w, vi d] [])
 obtain ⟨T2, h2, X2, e2, E2, A2, D2, -, st2⟩ := newO X1 hx hZ hown (w_ hw 26 rfl) (w_ hw 2 rfl) (w_ hw 1 rfl) Eh1 (g := (mkF mm_ 64 #[vr w, vi d] [])) rfl (B_ dk349) (by decide) (by decide)
 obtain ⟨b2, q2⟩ : ∃ z, z = h0.size := ⟨_, rfl⟩
 rw [← q2] at A2 D2 st2
 have lo_b2 : h0.size ≤ b2 := Nat.le_trans K0.1 (Nat.le_of_eq q2.symm)
 have g_b2 : n0 ≤ b2 := Nat.le_trans Z0 lo_b2
 refine sp_ st2 ?_
 have F2_value : Fld Z h2 b2 sc0 "value" "[B" .null := D2 (Or.inr (w_ hw 4 rfl)) (ty := (.array .byte)) (by decide)
 have F2_coder : Fld Z h2 b2 sc0 "coder" "B" (.int 0) := D2 (Or.inr (w_ hw 5 rfl)) (ty := .byte) (by decide)
 show Go_ T2 (mkF mm_ 67 #[vr w, vi d] [(.ref b2)])
 refine sp_ (fun t_ k_ => XS.dup X2.here hx rfl (B_ dk350) rfl rfl (XS.bipush X2.here hx rfl (B_ dk351) k_)) ?_
 show Go_ T2 (mkF mm_ 70 #[vr w, vi d] [(.int 11), (.ref b2), (.ref b2)])
 obtain ⟨T3, h3, k3, X3, e3, E3, A3, st3⟩ := newP X2 hx hZ (w_ hw 27 rfl) e2 (g := (mkF mm_ 70 #[vr w, vi d] [(.int 11), (.ref b2), (.ref b2)])) rfl (B_ dk352) rfl (by decide) (cap := 11) (by decide) (by decide) (by decide) (by decide)
 obtain ⟨b3, q3⟩ : ∃ z, z = h2.size := ⟨_, rfl⟩
 rw [← q3] at A3 st3
 have K4 : Keep h0 h2 [] := (K0.ext E2)
 have lo_b3 : h0.size ≤ b3 := Nat.le_trans K4.1 (Nat.le_of_eq q3.symm)
 have g_b3 : n0 ≤ b3 := Nat.le_trans Z0 lo_b3
 refine sp_ st3 ?_
 have V3 : Arv Z h3 b3 k3 .char (11 : Int32) [(.int 0), (.int 0), (.int 0), (.int 0), (.int 0), (.int 0), (.int 0), (.int 0), (.int 0), (.int 0), (.int 0)] (.int 0) := (Arv.new A3 (by decide)).pad (pad_rep [] (.int 0) 11)
 show Go_ T3 (mkF mm_ 72 #[vr w, vi d] [(.ref b3), (.ref b2), (.ref b2)])
 refine sp_ (fun t_ k_ => XS.dup X3.here hx rfl (B_ dk353) rfl rfl (XS.iconst X3.here hx rfl (B_ dk354) (XS.aloadN X3.here hx rfl (B_ dk355) rfl rfl (XS.iconst X3.here hx rfl (B_ dk356) k_)))) ?_
 show Go_ T3 (mkF mm_ 76 #[vr w, vi d] [(.int 0), (.ref w), (.int 0), (.ref b3), (.ref b3), (.ref b2), (.ref b2)])
 have f6 : own_Str Z h3 w t [c0, c1, c2, c3, c4, c5, c6, c7, c8, c9] := ((pr0.ext E2).ext E3)
 have O7 : Old Z n0 h3 := ((O0.ext E2).ext E3)
 obtain ⟨_, T5, Lc5, X5, hQ5, st5⟩ := own_cV X3 hx hZ hown (w_ hw 31 rfl) (w_ hw 32 rfl) (notFace_of_selects (args := #[]) (mvT hZ (w_ hw 34 rfl))) (w_ hw 34 rfl) (w_ hw 33 rfl) (by decide) (own_chS (W := 5) hZ hw f6 (G_cs.ext O7.2) G_cs0 (G_fm.ext O7.2) G_fr (i := 0) (Nat.le_of_ble_eq_true rfl) (j := (0 : Int32)) rfl (by decide) (by decide)) f6.1 (g := (mkF mm_ 76 #[vr w, vi d] [(.int 0), (.ref w), (.int 0), (.ref b3), (.ref b3), (.ref b2), (.ref b2)])) rfl hml.symm (argsL := [(.int 0)]) (rest := [(.int 0), (.ref b3), (.ref b3), (.ref b2), (.ref b2)]) (lenOf pd_6 rfl) rfl (Nat.le_of_eq rfl) (B_ dk357) rfl e3 (by decide) (by decide)
 obtain ⟨rfl, rfl, Eh5⟩ := hQ5
 have N5 := Fr.app N1 (Fr.nil n0)
 refine jp_ st5 ?_
 show Go_ T5 (mkF mm_ 79 #[vr w, vi d] [(.int c0), (.int 0), (.ref b3), (.ref b3), (.ref b2), (.ref b2)])
 obtain ⟨cl8, Ar8, q8, S8, M8, H8, G8⟩ := id V3
 have hin8 : ¬ ((0 : Int32) < 0 ∨ cl8.slots.size ≤ ((0 : Int32)).toNatClampNeg) := inb_of S8 ⟨by decide, by decide⟩
 obtain ⟨T8, h8, X8, e8, W8, st8⟩ := stC X5 hx hZ Eh5 Ar8 (j := (0 : Int32)) hin8 (g := (mkF mm_ 79 #[vr w, vi d] [(.int c0), (.int 0), (.ref b3), (.ref b3), (.ref b2), (.ref b2)])) rfl rfl (B_ dk358)
 have V8 : Arv Z h8 b3 k3 .char (11 : Int32) [(.int c0), (.int 0), (.int 0), (.int 0), (.int 0), (.int 0), (.int 0), (.int 0), (.int 0), (.int 0), (.int 0)] (.int 0) := by
  have q := Arv.set Ar8 q8 S8 M8 H8 G8 (fits_nar_char _) W8 0 rfl (Nat.le_of_ble_eq_true rfl)
  rw [own_narLit _ (own_sgc ((f6.2.2.2.2.1 _ (List.mem_of_getElem? (i := 0) rfl)))).1 (own_sgc ((f6.2.2.2.2.1 _ (List.mem_of_getElem? (i := 0) rfl)))).2] at q
  exact q
 have N8 := Fr.snoc X8 N5 g_b3
 refine sp_ st8 ?_
 show Go_ T8 (mkF mm_ 80 #[vr w, vi d] [(.ref b3), (.ref b2), (.ref b2)])
 refine sp_ (fun t_ k_ => XS.dup X8.here hx rfl (B_ dk359) rfl rfl (XS.iconst X8.here hx rfl (B_ dk360) (XS.aloadN X8.here hx rfl (B_ dk361) rfl rfl (XS.iconst X8.here hx rfl (B_ dk362) k_)))) ?_
 show Go_ T8 (mkF mm_ 84 #[vr w, vi d] [(.int 1), (.ref w), (.int 1), (.ref b3), (.ref b3), (.ref b2), (.ref b2)])
 have f10 : own_Str Z h8 w t [c0, c1, c2, c3, c4, c5, c6, c7, c8, c9] := (f6.keep (Keep.of_wr W8) (ninS (Nat.ne_of_lt (Nat.lt_of_lt_of_le (pr0.ext E2).lt (Nat.le_of_eq q3.symm))) nin0) (ninS (Nat.ne_of_lt (Nat.lt_of_lt_of_le (pr0.ext E2).ltT (Nat.le_of_eq q3.symm))) nin0))
 have O11 : Old Z n0 h8 := (O7.wr W8 g_b3)
 obtain ⟨_, T9, Lc9, X9, hQ9, st9⟩ := own_cV X8 hx hZ hown (w_ hw 31 rfl) (w_ hw 32 rfl) (notFace_of_selects (args := #[]) (mvT hZ (w_ hw 34 rfl))) (w_ hw 34 rfl) (w_ hw 33 rfl) (by decide) (own_chS (W := 5) hZ hw f10 (G_cs.ext O11.2) G_cs0 (G_fm.ext O11.2) G_fr (i := 1) (Nat.le_of_ble_eq_true rfl) (j := (1 : Int32)) rfl (by decide) (by decide)) f10.1 (g := (mkF mm_ 84 #[vr w, vi d] [(.int 1), (.ref w), (.int 1), (.ref b3), (.ref b3), (.ref b2), (.ref b2)])) rfl hml.symm (argsL := [(.int 1)]) (rest := [(.int 1), (.ref b3), (.ref b3), (.ref b2), (.ref b2)]) (lenOf pd_6 rfl) rfl (Nat.le_of_eq rfl) (B_ dk363) rfl e8 (by decide) (by decide)
 obtain ⟨rfl, rfl, Eh9⟩ := hQ9
 have N9 := Fr.app N8 (Fr.nil n0)
 refine jp_ st9 ?_
 show Go_ T9 (mkF mm_ 87 #[vr w, vi d] [(.int c1), (.int 1), (.ref b3), (.ref b3), (.ref b2), (.ref b2)])
 obtain ⟨cl12, Ar12, q12, S12, M12, H12, G12⟩ := id V8
 have hin12 : ¬ ((1 : Int32) < 0 ∨ cl12.slots.size ≤ ((1 : Int32)).toNatClampNeg) := inb_of S12 ⟨by decide, by decide⟩
 obtain ⟨T12, h12, X12, e12, W12, st12⟩ := stC X9 hx hZ Eh9 Ar12 (j := (1 : Int32)) hin12 (g := (mkF mm_ 87 #[vr w, vi d] [(.int c1), (.int 1), (.ref b3), (.ref b3), (.ref b2), (.ref b2)])) rfl rfl (B_ dk364)
 have V12 : Arv Z h12 b3 k3 .char (11 : Int32) [(.int c0), (.int c1), (.int 0), (.int 0), (.int 0), (.int 0), (.int 0), (.int 0), (.int 0), (.int 0), (.int 0)] (.int 0) := by
  have q := Arv.set Ar12 q12 S12 M12 H12 G12 (fits_nar_char _) W12 1 rfl (Nat.le_of_ble_eq_true rfl)
  rw [own_narLit _ (own_sgc ((f10.2.2.2.2.1 _ (List.mem_of_getElem? (i := 1) rfl)))).1 (own_sgc ((f10.2.2.2.2.1 _ (List.mem_of_getElem? (i := 1) rfl)))).2] at q
  exact q
 have N12 := Fr.snoc X12 N9 g_b3
 refine sp_ st12 ?_
 show Go_ T12 (mkF mm_ 88 #[vr w, vi d] [(.ref b3), (.ref b2), (.ref b2)])
 refine sp_ (fun t_ k_ => XS.dup X12.here hx rfl (B_ dk365) rfl rfl (XS.iconst X12.here hx rfl (B_ dk366) (XS.aloadN X12.here hx rfl (B_ dk367) rfl rfl (XS.iconst X12.here hx rfl (B_ dk368) k_)))) ?_
 show Go_ T12 (mkF mm_ 92 #[vr w, vi d] [(.int 2), (.ref w), (.int 2), (.ref b3), (.ref b3), (.ref b2), (.ref b2)])
 have f14 : own_Str Z h12 w t [c0, c1, c2, c3, c4, c5, c6, c7, c8, c9] := (f10.keep (Keep.of_wr W12) (ninS (Nat.ne_of_lt (Nat.lt_of_lt_of_le (pr0.ext E2).lt (Nat.le_of_eq q3.symm))) nin0) (ninS (Nat.ne_of_lt (Nat.lt_of_lt_of_le (pr0.ext E2).ltT (Nat.le_of_eq q3.symm))) nin0))
 have O15 : Old Z n0 h12 := (O11.wr W12 g_b3)
 obtain ⟨_, T13, Lc13, X13, hQ13, st13⟩ := own_cV X12 hx hZ hown (w_ hw 31 rfl) (w_ hw 32 rfl) (notFace_of_selects (args := #[]) (mvT hZ (w_ hw 34 rfl))) (w_ hw 34 rfl) (w_ hw 33 rfl) (by decide) (own_chS (W := 5) hZ hw f14 (G_cs.ext O15.2) G_cs0 (G_fm.ext O15.2) G_fr (i := 2) (Nat.le_of_ble_eq_true rfl) (j := (2 : Int32)) rfl (by decide) (by decide)) f14.1 (g := (mkF mm_ 92 #[vr w, vi d] [(.int 2), (.ref w), (.int 2), (.ref b3), (.ref b3), (.ref b2), (.ref b2)])) rfl hml.symm (argsL := [(.int 2)]) (rest := [(.int 2), (.ref b3), (.ref b3), (.ref b2), (.ref b2)]) (lenOf pd_6 rfl) rfl (Nat.le_of_eq rfl) (B_ dk369) rfl e12 (by decide) (by decide)
 obtain ⟨rfl, rfl, Eh13⟩ := hQ13
 have N13 := Fr.app N12 (Fr.nil n0)
 refine jp_ st13 ?_
 show Go_ T13 (mkF mm_ 95 #[vr w, vi d] [(.int c2), (.int 2), (.ref b3), (.ref b3), (.ref b2), (.ref b2)])
 obtain ⟨cl16, Ar16, q16, S16, M16, H16, G16⟩ := id V12
 have hin16 : ¬ ((2 : Int32) < 0 ∨ cl16.slots.size ≤ ((2 : Int32)).toNatClampNeg) := inb_of S16 ⟨by decide, by decide⟩
 obtain ⟨T16, h16, X16, e16, W16, st16⟩ := stC X13 hx hZ Eh13 Ar16 (j := (2 : Int32)) hin16 (g := (mkF mm_ 95 #[vr w, vi d] [(.int c2), (.int 2), (.ref b3), (.ref b3), (.ref b2), (.ref b2)])) rfl rfl (B_ dk370)
 have V16 : Arv Z h16 b3 k3 .char (11 : Int32) [(.int c0), (.int c1), (.int c2), (.int 0), (.int 0), (.int 0), (.int 0), (.int 0), (.int 0), (.int 0), (.int 0)] (.int 0) := by
  have q := Arv.set Ar16 q16 S16 M16 H16 G16 (fits_nar_char _) W16 2 rfl (Nat.le_of_ble_eq_true rfl)
  rw [own_narLit _ (own_sgc ((f14.2.2.2.2.1 _ (List.mem_of_getElem? (i := 2) rfl)))).1 (own_sgc ((f14.2.2.2.2.1 _ (List.mem_of_getElem? (i := 2) rfl)))).2] at q
  exact q
 have N16 := Fr.snoc X16 N13 g_b3
 refine sp_ st16 ?_
 show Go_ T16 (mkF mm_ 96 #[vr w, vi d] [(.ref b3), (.ref b2), (.ref b2)])
 refine sp_ (fun t_ k_ => XS.dup X16.here hx rfl (B_ dk371) rfl rfl (XS.iconst X16.here hx rfl (B_ dk372) (XS.aloadN X16.here hx rfl (B_ dk373) rfl rfl (XS.iconst X16.here hx rfl (B_ dk374) k_)))) ?_
 show Go_ T16 (mkF mm_ 100 #[vr w, vi d] [(.int 3), (.ref w), (.int 3), (.ref b3), (.ref b3), (.ref b2), (.ref b2)])
 have f18 : own_Str Z h16 w t [c0, c1, c2, c3, c4, c5, c6, c7, c8, c9] := (f14.keep (Keep.of_wr W16) (ninS (Nat.ne_of_lt (Nat.lt_of_lt_of_le (pr0.ext E2).lt (Nat.le_of_eq q3.symm))) nin0) (ninS (Nat.ne_of_lt (Nat.lt_of_lt_of_le (pr0.ext E2).ltT (Nat.le_of_eq q3.symm))) nin0))
 have O19 : Old Z n0 h16 := (O15.wr W16 g_b3)
 obtain ⟨_, T17, Lc17, X17, hQ17, st17⟩ := own_cV X16 hx hZ hown (w_ hw 31 rfl) (w_ hw 32 rfl) (notFace_of_selects (args := #[]) (mvT hZ (w_ hw 34 rfl))) (w_ hw 34 rfl) (w_ hw 33 rfl) (by decide) (own_chS (W := 5) hZ hw f18 (G_cs.ext O19.2) G_cs0 (G_fm.ext O19.2) G_fr (i := 3) (Nat.le_of_ble_eq_true rfl) (j := (3 : Int32)) rfl (by decide) (by decide)) f18.1 (g := (mkF mm_ 100 #[vr w, vi d] [(.int 3), (.ref w), (.int 3), (.ref b3), (.ref b3), (.ref b2), (.ref b2)])) rfl hml.symm (argsL := [(.int 3)]) (rest := [(.int 3), (.ref b3), (.ref b3), (.ref b2), (.ref b2)]) (lenOf pd_6 rfl) rfl (Nat.le_of_eq rfl) (B_ dk375) rfl e16 (by decide) (by decide)
 obtain ⟨rfl, rfl, Eh17⟩ := hQ17
 have N17 := Fr.app N16 (Fr.nil n0)
 refine jp_ st17 ?_
 show Go_ T17 (mkF mm_ 103 #[vr w, vi d] [(.int c3), (.int 3), (.ref b3), (.ref b3), (.ref b2), (.ref b2)])
 obtain ⟨cl20, Ar20, q20, S20, M20, H20, G20⟩ := id V16
 have hin20 : ¬ ((3 : Int32) < 0 ∨ cl20.slots.size ≤ ((3 : Int32)).toNatClampNeg) := inb_of S20 ⟨by decide, by decide⟩
 obtain ⟨T20, h20, X20, e20, W20, st20⟩ := stC X17 hx hZ Eh17 Ar20 (j := (3 : Int32)) hin20 (g := (mkF mm_ 103 #[vr w, vi d] [(.int c3), (.int 3), (.ref b3), (.ref b3), (.ref b2), (.ref b2)])) rfl rfl (B_ dk376)
 have V20 : Arv Z h20 b3 k3 .char (11 : Int32) [(.int c0), (.int c1), (.int c2), (.int c3), (.int 0), (.int 0), (.int 0), (.int 0), (.int 0), (.int 0), (.int 0)] (.int 0) := by
  have q := Arv.set Ar20 q20 S20 M20 H20 G20 (fits_nar_char _) W20 3 rfl (Nat.le_of_ble_eq_true rfl)
  rw [own_narLit _ (own_sgc ((f18.2.2.2.2.1 _ (List.mem_of_getElem? (i := 3) rfl)))).1 (own_sgc ((f18.2.2.2.2.1 _ (List.mem_of_getElem? (i := 3) rfl)))).2] at q
  exact q
 have N20 := Fr.snoc X20 N17 g_b3
 refine sp_ st20 ?_
 show Go_ T20 (mkF mm_ 104 #[vr w, vi d] [(.ref b3), (.ref b2), (.ref b2)])
 refine sp_ (fun t_ k_ => XS.dup X20.here hx rfl (B_ dk377) rfl rfl (XS.iconst X20.here hx rfl (B_ dk378) (XS.aloadN X20.here hx rfl (B_ dk379) rfl rfl (XS.iconst X20.here hx rfl (B_ dk380) k_)))) ?_
 show Go_ T20 (mkF mm_ 108 #[vr w, vi d] [(.int 4), (.ref w), (.int 4), (.ref b3), (.ref b3), (.ref b2), (.ref b2)])
 have f22 : own_Str Z h20 w t [c0, c1, c2, c3, c4, c5, c6, c7, c8, c9] := (f18.keep (Keep.of_wr W20) (ninS (Nat.ne_of_lt (Nat.lt_of_lt_of_le (pr0.ext E2).lt (Nat.le_of_eq q3.symm))) nin0) (ninS (Nat.ne_of_lt (Nat.lt_of_lt_of_le (pr0.ext E2).ltT (Nat.le_of_eq q3.symm))) nin0))
 have O23 : Old Z n0 h20 := (O19.wr W20 g_b3)
 obtain ⟨_, T21, Lc21, X21, hQ21, st21⟩ := own_cV X20 hx hZ hown (w_ hw 31 rfl) (w_ hw 32 rfl) (notFace_of_selects (args := #[]) (mvT hZ (w_ hw 34 rfl))) (w_ hw 34 rfl) (w_ hw 33 rfl) (by decide) (own_chS (W := 5) hZ hw f22 (G_cs.ext O23.2) G_cs0 (G_fm.ext O23.2) G_fr (i := 4) (Nat.le_of_ble_eq_true rfl) (j := (4 : Int32)) rfl (by decide) (by decide)) f22.1 (g := (mkF mm_ 108 #[vr w, vi d] [(.int 4), (.ref w), (.int 4), (.ref b3), (.ref b3), (.ref b2), (.ref b2)])) rfl hml.symm (argsL := [(.int 4)]) (rest := [(.int 4), (.ref b3), (.ref b3), (.ref b2), (.ref b2)]) (lenOf pd_6 rfl) rfl (Nat.le_of_eq rfl) (B_ dk381) rfl e20 (by decide) (by decide)
 obtain ⟨rfl, rfl, Eh21⟩ := hQ21
 have N21 := Fr.app N20 (Fr.nil n0)
 refine jp_ st21 ?_
 show Go_ T21 (mkF mm_ 111 #[vr w, vi d] [(.int c4), (.int 4), (.ref b3), (.ref b3), (.ref b2), (.ref b2)])
 obtain ⟨cl24, Ar24, q24, S24, M24, H24, G24⟩ := id V20
 have hin24 : ¬ ((4 : Int32) < 0 ∨ cl24.slots.size ≤ ((4 : Int32)).toNatClampNeg) := inb_of S24 ⟨by decide, by decide⟩
 obtain ⟨T24, h24, X24, e24, W24, st24⟩ := stC X21 hx hZ Eh21 Ar24 (j := (4 : Int32)) hin24 (g := (mkF mm_ 111 #[vr w, vi d] [(.int c4), (.int 4), (.ref b3), (.ref b3), (.ref b2), (.ref b2)])) rfl rfl (B_ dk382)
 have V24 : Arv Z h24 b3 k3 .char (11 : Int32) [(.int c0), (.int c1), (.int c2), (.int c3), (.int c4), (.int 0), (.int 0), (.int 0), (.int 0), (.int 0), (.int 0)] (.int 0) := by
  have q := Arv.set Ar24 q24 S24 M24 H24 G24 (fits_nar_char _) W24 4 rfl (Nat.le_of_ble_eq_true rfl)
  rw [own_narLit _ (own_sgc ((f22.2.2.2.2.1 _ (List.mem_of_getElem? (i := 4) rfl)))).1 (own_sgc ((f22.2.2.2.2.1 _ (List.mem_of_getElem? (i := 4) rfl)))).2] at q
  exact q
 have N24 := Fr.snoc X24 N21 g_b3
 refine sp_ st24 ?_
 show Go_ T24 (mkF mm_ 112 #[vr w, vi d] [(.ref b3), (.ref b2), (.ref b2)])
 refine sp_ (fun t_ k_ => XS.dup X24.here hx rfl (B_ dk383) rfl rfl (XS.iconst X24.here hx rfl (B_ dk384) (XS.aloadN X24.here hx rfl (B_ dk385) rfl rfl (XS.iconst X24.here hx rfl (B_ dk386) k_)))) ?_
 show Go_ T24 (mkF mm_ 116 #[vr w, vi d] [(.int 5), (.ref w), (.int 5), (.ref b3), (.ref b3), (.ref b2), (.ref b2)])
 have f26 : own_Str Z h24 w t [c0, c1, c2, c3, c4, c5, c6, c7, c8, c9] := (f22.keep (Keep.of_wr W24) (ninS (Nat.ne_of_lt (Nat.lt_of_lt_of_le (pr0.ext E2).lt (Nat.le_of_eq q3.symm))) nin0) (ninS (Nat.ne_of_lt (Nat.lt_of_lt_of_le (pr0.ext E2).ltT (Nat.le_of_eq q3.symm))) nin0))
 have O27 : Old Z n0 h24 := (O23.wr W24 g_b3)
 obtain ⟨_, T25, Lc25, X25, hQ25, st25⟩ := own_cV X24 hx hZ hown (w_ hw 31 rfl) (w_ hw 32 rfl) (notFace_of_selects (args := #[]) (mvT hZ (w_ hw 34 rfl))) (w_ hw 34 rfl) (w_ hw 33 rfl) (by decide) (own_chS (W := 5) hZ hw f26 (G_cs.ext O27.2) G_cs0 (G_fm.ext O27.2) G_fr (i := 5) (Nat.le_of_ble_eq_true rfl) (j := (5 : Int32)) rfl (by decide) (by decide)) f26.1 (g := (mkF mm_ 116 #[vr w, vi d] [(.int 5), (.ref w), (.int 5), (.ref b3), (.ref b3), (.ref b2), (.ref b2)])) rfl hml.symm (argsL := [(.int 5)]) (rest := [(.int 5), (.ref b3), (.ref b3), (.ref b2), (.ref b2)]) (lenOf pd_6 rfl) rfl (Nat.le_of_eq rfl) (B_ dk387) rfl e24 (by decide) (by decide)
 obtain ⟨rfl, rfl, Eh25⟩ := hQ25
 have N25 := Fr.app N24 (Fr.nil n0)
 refine jp_ st25 ?_
 show Go_ T25 (mkF mm_ 119 #[vr w, vi d] [(.int c5), (.int 5), (.ref b3), (.ref b3), (.ref b2), (.ref b2)])
 obtain ⟨cl28, Ar28, q28, S28, M28, H28, G28⟩ := id V24
 have hin28 : ¬ ((5 : Int32) < 0 ∨ cl28.slots.size ≤ ((5 : Int32)).toNatClampNeg) := inb_of S28 ⟨by decide, by decide⟩
 obtain ⟨T28, h28, X28, e28, W28, st28⟩ := stC X25 hx hZ Eh25 Ar28 (j := (5 : Int32)) hin28 (g := (mkF mm_ 119 #[vr w, vi d] [(.int c5), (.int 5), (.ref b3), (.ref b3), (.ref b2), (.ref b2)])) rfl rfl (B_ dk388)
 have V28 : Arv Z h28 b3 k3 .char (11 : Int32) [(.int c0), (.int c1), (.int c2), (.int c3), (.int c4), (.int c5), (.int 0), (.int 0), (.int 0), (.int 0), (.int 0)] (.int 0) := by
  have q := Arv.set Ar28 q28 S28 M28 H28 G28 (fits_nar_char _) W28 5 rfl (Nat.le_of_ble_eq_true rfl)
  rw [own_narLit _ (own_sgc ((f26.2.2.2.2.1 _ (List.mem_of_getElem? (i := 5) rfl)))).1 (own_sgc ((f26.2.2.2.2.1 _ (List.mem_of_getElem? (i := 5) rfl)))).2] at q
  exact q
 have N28 := Fr.snoc X28 N25 g_b3
 refine sp_ st28 ?_
 show Go_ T28 (mkF mm_ 120 #[vr w, vi d] [(.ref b3), (.ref b2), (.ref b2)])
 refine sp_ (fun t_ k_ => XS.dup X28.here hx rfl (B_ dk389) rfl rfl (XS.bipush X28.here hx rfl (B_ dk390) (XS.aloadN X28.here hx rfl (B_ dk391) rfl rfl (XS.bipush X28.here hx rfl (B_ dk392) k_)))) ?_
 show Go_ T28 (mkF mm_ 126 #[vr w, vi d] [(.int 6), (.ref w), (.int 6), (.ref b3), (.ref b3), (.ref b2), (.ref b2)])
 have f30 : own_Str Z h28 w t [c0, c1, c2, c3, c4, c5, c6, c7, c8, c9] := (f26.keep (Keep.of_wr W28) (ninS (Nat.ne_of_lt (Nat.lt_of_lt_of_le (pr0.ext E2).lt (Nat.le_of_eq q3.symm))) nin0) (ninS (Nat.ne_of_lt (Nat.lt_of_lt_of_le (pr0.ext E2).ltT (Nat.le_of_eq q3.symm))) nin0))
 have O31 : Old Z n0 h28 := (O27.wr W28 g_b3)
 obtain ⟨_, T29, Lc29, X29, hQ29, st29⟩ := own_cV X28 hx hZ hown (w_ hw 31 rfl) (w_ hw 32 rfl) (notFace_of_selects (args := #[]) (mvT hZ (w_ hw 34 rfl))) (w_ hw 34 rfl) (w_ hw 33 rfl) (by decide) (own_chS (W := 5) hZ hw f30 (G_cs.ext O31.2) G_cs0 (G_fm.ext O31.2) G_fr (i := 6) (Nat.le_of_ble_eq_true rfl) (j := (6 : Int32)) rfl (by decide) (by decide)) f30.1 (g := (mkF mm_ 126 #[vr w, vi d] [(.int 6), (.ref w), (.int 6), (.ref b3), (.ref b3), (.ref b2), (.ref b2)])) rfl hml.symm (argsL := [(.int 6)]) (rest := [(.int 6), (.ref b3), (.ref b3), (.ref b2), (.ref b2)]) (lenOf pd_6 rfl) rfl (Nat.le_of_eq rfl) (B_ dk393) rfl e28 (by decide) (by decide)
 obtain ⟨rfl, rfl, Eh29⟩ := hQ29
 have N29 := Fr.app N28 (Fr.nil n0)
 refine jp_ st29 ?_
 show Go_ T29 (mkF mm_ 129 #[vr w, vi d] [(.int c6), (.int 6), (.ref b3), (.ref b3), (.ref b2), (.ref b2)])
 obtain ⟨cl32, Ar32, q32, S32, M32, H32, G32⟩ := id V28
 have hin32 : ¬ ((6 : Int32) < 0 ∨ cl32.slots.size ≤ ((6 : Int32)).toNatClampNeg) := inb_of S32 ⟨by decide, by decide⟩
 obtain ⟨T32, h32, X32, e32, W32, st32⟩ := stC X29 hx hZ Eh29 Ar32 (j := (6 : Int32)) hin32 (g := (mkF mm_ 129 #[vr w, vi d] [(.int c6), (.int 6), (.ref b3), (.ref b3), (.ref b2), (.ref b2)])) rfl rfl (B_ dk394)
 have V32 : Arv Z h32 b3 k3 .char (11 : Int32) [(.int c0), (.int c1), (.int c2), (.int c3), (.int c4), (.int c5), (.int c6), (.int 0), (.int 0), (.int 0), (.int 0)] (.int 0) := by
  have q := Arv.set Ar32 q32 S32 M32 H32 G32 (fits_nar_char _) W32 6 rfl (Nat.le_of_ble_eq_true rfl)
  rw [own_narLit _ (own_sgc ((f30.2.2.2.2.1 _ (List.mem_of_getElem? (i := 6) rfl)))).1 (own_sgc ((f30.2.2.2.2.1 _ (List.mem_of_getElem? (i := 6) rfl)))).2] at q
  exact q
 have N32 := Fr.snoc X32 N29 g_b3
 refine sp_ st32 ?_
 show Go_ T32 (mkF mm_ 130 #[vr w, vi d] [(.ref b3), (.ref b2), (.ref b2)])
 refine sp_ (fun t_ k_ => XS.dup X32.here hx rfl (B_ dk395) rfl rfl (XS.bipush X32.here hx rfl (B_ dk396) (XS.aloadN X32.here hx rfl (B_ dk397) rfl rfl (XS.bipush X32.here hx rfl (B_ dk398) k_)))) ?_
 show Go_ T32 (mkF mm_ 136 #[vr w, vi d] [(.int 7), (.ref w), (.int 7), (.ref b3), (.ref b3), (.ref b2), (.ref b2)])
 have f34 : own_Str Z h32 w t [c0, c1, c2, c3, c4, c5, c6, c7, c8, c9] := (f30.keep (Keep.of_wr W32) (ninS (Nat.ne_of_lt (Nat.lt_of_lt_of_le (pr0.ext E2).lt (Nat.le_of_eq q3.symm))) nin0) (ninS (Nat.ne_of_lt (Nat.lt_of_lt_of_le (pr0.ext E2).ltT (Nat.le_of_eq q3.symm))) nin0))
 have O35 : Old Z n0 h32 := (O31.wr W32 g_b3)
 obtain ⟨_, T33, Lc33, X33, hQ33, st33⟩ := own_cV X32 hx hZ hown (w_ hw 31 rfl) (w_ hw 32 rfl) (notFace_of_selects (args := #[]) (mvT hZ (w_ hw 34 rfl))) (w_ hw 34 rfl) (w_ hw 33 rfl) (by decide) (own_chS (W := 5) hZ hw f34 (G_cs.ext O35.2) G_cs0 (G_fm.ext O35.2) G_fr (i := 7) (Nat.le_of_ble_eq_true rfl) (j := (7 : Int32)) rfl (by decide) (by decide)) f34.1 (g := (mkF mm_ 136 #[vr w, vi d] [(.int 7), (.ref w), (.int 7), (.ref b3), (.ref b3), (.ref b2), (.ref b2)])) rfl hml.symm (argsL := [(.int 7)]) (rest := [(.int 7), (.ref b3), (.ref b3), (.ref b2), (.ref b2)]) (lenOf pd_6 rfl) rfl (Nat.le_of_eq rfl) (B_ dk399) rfl e32 (by decide) (by decide)
 obtain ⟨rfl, rfl, Eh33⟩ := hQ33
 have N33 := Fr.app N32 (Fr.nil n0)
 refine jp_ st33 ?_
 show Go_ T33 (mkF mm_ 139 #[vr w, vi d] [(.int c7), (.int 7), (.ref b3), (.ref b3), (.ref b2), (.ref b2)])
 obtain ⟨cl36, Ar36, q36, S36, M36, H36, G36⟩ := id V32
 have hin36 : ¬ ((7 : Int32) < 0 ∨ cl36.slots.size ≤ ((7 : Int32)).toNatClampNeg) := inb_of S36 ⟨by decide, by decide⟩
 obtain ⟨T36, h36, X36, e36, W36, st36⟩ := stC X33 hx hZ Eh33 Ar36 (j := (7 : Int32)) hin36 (g := (mkF mm_ 139 #[vr w, vi d] [(.int c7), (.int 7), (.ref b3), (.ref b3), (.ref b2), (.ref b2)])) rfl rfl (B_ dk400)
 have V36 : Arv Z h36 b3 k3 .char (11 : Int32) [(.int c0), (.int c1), (.int c2), (.int c3), (.int c4), (.int c5), (.int c6), (.int c7), (.int 0), (.int 0), (.int 0)] (.int 0) := by
  have q := Arv.set Ar36 q36 S36 M36 H36 G36 (fits_nar_char _) W36 7 rfl (Nat.le_of_ble_eq_true rfl)
  rw [own_narLit _ (own_sgc ((f34.2.2.2.2.1 _ (List.mem_of_getElem? (i := 7) rfl)))).1 (own_sgc ((f34.2.2.2.2.1 _ (List.mem_of_getElem? (i := 7) rfl)))).2] at q
  exact q
 have N36 := Fr.snoc X36 N33 g_b3
 refine sp_ st36 ?_
 show Go_ T36 (mkF mm_ 140 #[vr w, vi d] [(.ref b3), (.ref b2), (.ref b2)])
 refine sp_ (fun t_ k_ => XS.dup X36.here hx rfl (B_ dk401) rfl rfl (XS.bipush X36.here hx rfl (B_ dk402) (XS.aloadN X36.here hx rfl (B_ dk403) rfl rfl (XS.bipush X36.here hx rfl (B_ dk404) k_)))) ?_
 show Go_ T36 (mkF mm_ 146 #[vr w, vi d] [(.int 8), (.ref w), (.int 8), (.ref b3), (.ref b3), (.ref b2), (.ref b2)])
 have f38 : own_Str Z h36 w t [c0, c1, c2, c3, c4, c5, c6, c7, c8, c9] := (f34.keep (Keep.of_wr W36) (ninS (Nat.ne_of_lt (Nat.lt_of_lt_of_le (pr0.ext E2).lt (Nat.le_of_eq q3.symm))) nin0) (ninS (Nat.ne_of_lt (Nat.lt_of_lt_of_le (pr0.ext E2).ltT (Nat.le_of_eq q3.symm))) nin0))
 have O39 : Old Z n0 h36 := (O35.wr W36 g_b3)
 obtain ⟨_, T37, Lc37, X37, hQ37, st37⟩ := own_cV X36 hx hZ hown (w_ hw 31 rfl) (w_ hw 32 rfl) (notFace_of_selects (args := #[]) (mvT hZ (w_ hw 34 rfl))) (w_ hw 34 rfl) (w_ hw 33 rfl) (by decide) (own_chS (W := 5) hZ hw f38 (G_cs.ext O39.2) G_cs0 (G_fm.ext O39.2) G_fr (i := 8) (Nat.le_of_ble_eq_true rfl) (j := (8 : Int32)) rfl (by decide) (by decide)) f38.1 (g := (mkF mm_ 146 #[vr w, vi d] [(.int 8), (.ref w), (.int 8), (.ref b3), (.ref b3), (.ref b2), (.ref b2)])) rfl hml.symm (argsL := [(.int 8)]) (rest := [(.int 8), (.ref b3), (.ref b3), (.ref b2), (.ref b2)]) (lenOf pd_6 rfl) rfl (Nat.le_of_eq rfl) (B_ dk405) rfl e36 (by decide) (by decide)
 obtain ⟨rfl, rfl, Eh37⟩ := hQ37
 have N37 := Fr.app N36 (Fr.nil n0)
 refine jp_ st37 ?_
 show Go_ T37 (mkF mm_ 149 #[vr w, vi d] [(.int c8), (.int 8), (.ref b3), (.ref b3), (.ref b2), (.ref b2)])
 obtain ⟨cl40, Ar40, q40, S40, M40, H40, G40⟩ := id V36
 have hin40 : ¬ ((8 : Int32) < 0 ∨ cl40.slots.size ≤ ((8 : Int32)).toNatClampNeg) := inb_of S40 ⟨by decide, by decide⟩
 obtain ⟨T40, h40, X40, e40, W40, st40⟩ := stC X37 hx hZ Eh37 Ar40 (j := (8 : Int32)) hin40 (g := (mkF mm_ 149 #[vr w, vi d] [(.int c8), (.int 8), (.ref b3), (.ref b3), (.ref b2), (.ref b2)])) rfl rfl (B_ dk406)
 have V40 : Arv Z h40 b3 k3 .char (11 : Int32) [(.int c0), (.int c1), (.int c2), (.int c3), (.int c4), (.int c5), (.int c6), (.int c7), (.int c8), (.int 0), (.int 0)] (.int 0) := by
  have q := Arv.set Ar40 q40 S40 M40 H40 G40 (fits_nar_char _) W40 8 rfl (Nat.le_of_ble_eq_true rfl)
  rw [own_narLit _ (own_sgc ((f38.2.2.2.2.1 _ (List.mem_of_getElem? (i := 8) rfl)))).1 (own_sgc ((f38.2.2.2.2.1 _ (List.mem_of_getElem? (i := 8) rfl)))).2] at q
  exact q
 have N40 := Fr.snoc X40 N37 g_b3
 refine sp_ st40 ?_
 show Go_ T40 (mkF mm_ 150 #[vr w, vi d] [(.ref b3), (.ref b2), (.ref b2)])
 refine sp_ (fun t_ k_ => XS.dup X40.here hx rfl (B_ dk407) rfl rfl (XS.bipush X40.here hx rfl (B_ dk408) (XS.aloadN X40.here hx rfl (B_ dk409) rfl rfl (XS.bipush X40.here hx rfl (B_ dk410) k_)))) ?_
 show Go_ T40 (mkF mm_ 156 #[vr w, vi d] [(.int 9), (.ref w), (.int 9), (.ref b3), (.ref b3), (.ref b2), (.ref b2)])
 have f42 : own_Str Z h40 w t [c0, c1, c2, c3, c4, c5, c6, c7, c8, c9] := (f38.keep (Keep.of_wr W40) (ninS (Nat.ne_of_lt (Nat.lt_of_lt_of_le (pr0.ext E2).lt (Nat.le_of_eq q3.symm))) nin0) (ninS (Nat.ne_of_lt (Nat.lt_of_lt_of_le (pr0.ext E2).ltT (Nat.le_of_eq q3.symm))) nin0))
 have O43 : Old Z n0 h40 := (O39.wr W40 g_b3)
 obtain ⟨_, T41, Lc41, X41, hQ41, st41⟩ := own_cV X40 hx hZ hown (w_ hw 31 rfl) (w_ hw 32 rfl) (notFace_of_selects (args := #[]) (mvT hZ (w_ hw 34 rfl))) (w_ hw 34 rfl) (w_ hw 33 rfl) (by decide) (own_chS (W := 5) hZ hw f42 (G_cs.ext O43.2) G_cs0 (G_fm.ext O43.2) G_fr (i := 9) (Nat.le_of_ble_eq_true rfl) (j := (9 : Int32)) rfl (by decide) (by decide)) f42.1 (g := (mkF mm_ 156 #[vr w, vi d] [(.int 9), (.ref w), (.int 9), (.ref b3), (.ref b3), (.ref b2), (.ref b2)])) rfl hml.symm (argsL := [(.int 9)]) (rest := [(.int 9), (.ref b3), (.ref b3), (.ref b2), (.ref b2)]) (lenOf pd_6 rfl) rfl (Nat.le_of_eq rfl) (B_ dk411) rfl e40 (by decide) (by decide)
 obtain ⟨rfl, rfl, Eh41⟩ := hQ41
 have N41 := Fr.app N40 (Fr.nil n0)
 refine jp_ st41 ?_
 show Go_ T41 (mkF mm_ 159 #[vr w, vi d] [(.int c9), (.int 9), (.ref b3), (.ref b3), (.ref b2), (.ref b2)])
 obtain ⟨cl44, Ar44, q44, S44, M44, H44, G44⟩ := id V40
 have hin44 : ¬ ((9 : Int32) < 0 ∨ cl44.slots.size ≤ ((9 : Int32)).toNatClampNeg) := inb_of S44 ⟨by decide, by decide⟩
 obtain ⟨T44, h44, X44, e44, W44, st44⟩ := stC X41 hx hZ Eh41 Ar44 (j := (9 : Int32)) hin44 (g := (mkF mm_ 159 #[vr w, vi d] [(.int c9), (.int 9), (.ref b3), (.ref b3), (.ref b2), (.ref b2)])) rfl rfl (B_ dk412)
 have V44 : Arv Z h44 b3 k3 .char (11 : Int32) [(.int c0), (.int c1), (.int c2), (.int c3), (.int c4), (.int c5), (.int c6), (.int c7), (.int c8), (.int c9), (.int 0)] (.int 0) := by
  have q := Arv.set Ar44 q44 S44 M44 H44 G44 (fits_nar_char _) W44 9 rfl (Nat.le_of_ble_eq_true rfl)
  rw [own_narLit _ (own_sgc ((f42.2.2.2.2.1 _ (List.mem_of_getElem? (i := 9) rfl)))).1 (own_sgc ((f42.2.2.2.2.1 _ (List.mem_of_getElem? (i := 9) rfl)))).2] at q
  exact q
 have N44 := Fr.snoc X44 N41 g_b3
 refine sp_ st44 ?_
 show Go_ T44 (mkF mm_ 160 #[vr w, vi d] [(.ref b3), (.ref b2), (.ref b2)])
 refine sp_ (fun t_ k_ => XS.dup X44.here hx rfl (B_ dk413) rfl rfl (XS.bipush X44.here hx rfl (B_ dk414) (XS.iloadN X44.here hx rfl (B_ dk415) rfl  k_))) ?_
 show Go_ T44 (mkF mm_ 164 #[vr w, vi d] [(.int d), (.int 10), (.ref b3), (.ref b3), (.ref b2), (.ref b2)])
 obtain ⟨cl45, Ar45, q45, S45, M45, H45, G45⟩ := id V44
 have hin45 : ¬ ((10 : Int32) < 0 ∨ cl45.slots.size ≤ ((10 : Int32)).toNatClampNeg) := inb_of S45 ⟨by decide, by decide⟩
 obtain ⟨T45, h45, X45, e45, W45, st45⟩ := stC X44 hx hZ e44 Ar45 (j := (10 : Int32)) hin45 (g := (mkF mm_ 164 #[vr w, vi d] [(.int d), (.int 10), (.ref b3), (.ref b3), (.ref b2), (.ref b2)])) rfl rfl (B_ dk416)
 have V45 : Arv Z h45 b3 k3 .char (11 : Int32) [(.int c0), (.int c1), (.int c2), (.int c3), (.int c4), (.int c5), (.int c6), (.int c7), (.int c8), (.int c9), (.int d)] (.int 0) := by
  have q := Arv.set Ar45 q45 S45 M45 H45 G45 (fits_nar_char _) W45 10 rfl (Nat.le_of_ble_eq_true rfl)
  rw [own_narLit _ (own_sgc sg_d).1 (own_sgc sg_d).2] at q
  exact q
 have N45 := Fr.snoc X45 N44 g_b3
 refine sp_ st45 ?_
 show Go_ T45 (mkF mm_ 165 #[vr w, vi d] [(.ref b3), (.ref b2), (.ref b2)])
 have hp47 : ∀ ch_ ∈ ([c0, c1, c2, c3, c4, c5, c6, c7, c8, c9, d] : List Int32), ¬ ch_ < 0 ∧ ¬ (255 : Int32) < ch_ := by
  intro ch_ hc
  simp only [List.mem_cons, List.not_mem_nil, or_false] at hc
  rcases hc with rfl | rfl | rfl | rfl | rfl | rfl | rfl | rfl | rfl | rfl | rfl
  · exact (f42.2.2.2.2.1 _ (List.mem_of_getElem? (i := 0) rfl))
  · exact (f42.2.2.2.2.1 _ (List.mem_of_getElem? (i := 1) rfl))
  · exact (f42.2.2.2.2.1 _ (List.mem_of_getElem? (i := 2) rfl))
  · exact (f42.2.2.2.2.1 _ (List.mem_of_getElem? (i := 3) rfl))
  · exact (f42.2.2.2.2.1 _ (List.mem_of_getElem? (i := 4) rfl))
  · exact (f42.2.2.2.2.1 _ (List.mem_of_getElem? (i := 5) rfl))
  · exact (f42.2.2.2.2.1 _ (List.mem_of_getElem? (i := 6) rfl))
  · exact (f42.2.2.2.2.1 _ (List.mem_of_getElem? (i := 7) rfl))
  · exact (f42.2.2.2.2.1 _ (List.mem_of_getElem? (i := 8) rfl))
  · exact (f42.2.2.2.2.1 _ (List.mem_of_getElem? (i := 9) rfl))
  · exact sg_d
 have f48 : Exa Z h45 b2 sc0 := ((((((((((((A2.ext E3).wr W8).wr W12).wr W16).wr W20).wr W24).wr W28).wr W32).wr W36).wr W40).wr W44).wr W45)
 have f49 : Fld Z h45 b2 sc0 "value" "[B" .null := ((((((((((((F2_value.ext E3).other W8 (Or.inl (Nat.ne_of_lt (Nat.lt_of_lt_of_le A2.lt (Nat.le_of_eq q3.symm))))).other W12 (Or.inl (Nat.ne_of_lt (Nat.lt_of_lt_of_le A2.lt (Nat.le_of_eq q3.symm))))).other W16 (Or.inl (Nat.ne_of_lt (Nat.lt_of_lt_of_le A2.lt (Nat.le_of_eq q3.symm))))).other W20 (Or.inl (Nat.ne_of_lt (Nat.lt_of_lt_of_le A2.lt (Nat.le_of_eq q3.symm))))).other W24 (Or.inl (Nat.ne_of_lt (Nat.lt_of_lt_of_le A2.lt (Nat.le_of_eq q3.symm))))).other W28 (Or.inl (Nat.ne_of_lt (Nat.lt_of_lt_of_le A2.lt (Nat.le_of_eq q3.symm))))).other W32 (Or.inl (Nat.ne_of_lt (Nat.lt_of_lt_of_le A2.lt (Nat.le_of_eq q3.symm))))).other W36 (Or.inl (Nat.ne_of_lt (Nat.lt_of_lt_of_le A2.lt (Nat.le_of_eq q3.symm))))).other W40 (Or.inl (Nat.ne_of_lt (Nat.lt_of_lt_of_le A2.lt (Nat.le_of_eq q3.symm))))).other W44 (Or.inl (Nat.ne_of_lt (Nat.lt_of_lt_of_le A2.lt (Nat.le_of_eq q3.symm))))).other W45 (Or.inl (Nat.ne_of_lt (Nat.lt_of_lt_of_le A2.lt (Nat.le_of_eq q3.symm)))))
 have f50 : Fld Z h45 b2 sc0 "coder" "B" (.int 0) := ((((((((((((F2_coder.ext E3).other W8 (Or.inl (Nat.ne_of_lt (Nat.lt_of_lt_of_le A2.lt (Nat.le_of_eq q3.symm))))).other W12 (Or.inl (Nat.ne_of_lt (Nat.lt_of_lt_of_le A2.lt (Nat.le_of_eq q3.symm))))).other W16 (Or.inl (Nat.ne_of_lt (Nat.lt_of_lt_of_le A2.lt (Nat.le_of_eq q3.symm))))).other W20 (Or.inl (Nat.ne_of_lt (Nat.lt_of_lt_of_le A2.lt (Nat.le_of_eq q3.symm))))).other W24 (Or.inl (Nat.ne_of_lt (Nat.lt_of_lt_of_le A2.lt (Nat.le_of_eq q3.symm))))).other W28 (Or.inl (Nat.ne_of_lt (Nat.lt_of_lt_of_le A2.lt (Nat.le_of_eq q3.symm))))).other W32 (Or.inl (Nat.ne_of_lt (Nat.lt_of_lt_of_le A2.lt (Nat.le_of_eq q3.symm))))).other W36 (Or.inl (Nat.ne_of_lt (Nat.lt_of_lt_of_le A2.lt (Nat.le_of_eq q3.symm))))).other W40 (Or.inl (Nat.ne_of_lt (Nat.lt_of_lt_of_le A2.lt (Nat.le_of_eq q3.symm))))).other W44 (Or.inl (Nat.ne_of_lt (Nat.lt_of_lt_of_le A2.lt (Nat.le_of_eq q3.symm))))).other W45 (Or.inl (Nat.ne_of_lt (Nat.lt_of_lt_of_le A2.lt (Nat.le_of_eq q3.symm)))))
 have O51 : Old Z n0 h45 := ((O43.wr W44 g_b3).wr W45 g_b3)
 have K52 : Keep h0 h45 [] := ((((((((((((K4.ext E3).wr W8 (Or.inr lo_b3)).wr W12 (Or.inr lo_b3)).wr W16 (Or.inr lo_b3)).wr W20 (Or.inr lo_b3)).wr W24 (Or.inr lo_b3)).wr W28 (Or.inr lo_b3)).wr W32 (Or.inr lo_b3)).wr W36 (Or.inr lo_b3)).wr W40 (Or.inr lo_b3)).wr W44 (Or.inr lo_b3)).wr W45 (Or.inr lo_b3))
 obtain ⟨_, T46, Lc46, X46, hQ46, st46⟩ := own_cI X45 hx hZ rfl hown (w_ hw 53 rfl) (w_ hw 54 rfl) (w_ hw 55 rfl) (by decide) (own_newS (W := 1) hZ hw (cs := [c0, c1, c2, c3, c4, c5, c6, c7, c8, c9, d]) (n := 11) g_b2 (Nat.le_trans Z0 K52.1) f48 f49 f50 V45 (G_cs.ext O51.2) G_cs0 rfl rfl rfl (by decide) (by decide) hp47 (by decide) (by decide)) (g := (mkF mm_ 165 #[vr w, vi d] [(.ref b3), (.ref b2), (.ref b2)])) rfl hml.symm (a := b2) (argsL := [(.ref b3)]) (rest := [(.ref b2)]) (lenOf pd_9 rfl) rfl (Nat.le_of_eq rfl) (B_ dk417) rfl e45 (by decide) (by decide)
 obtain ⟨t46, rfl, Nq46, Kc46, lo46, Fs46⟩ := hQ46
 have N46 := Fr.app N45 Nq46
 have lo_t46 : h0.size ≤ t46 := Nat.le_trans K52.1 lo46
 have g_t46 : n0 ≤ t46 := Nat.le_trans Z0 lo_t46
 refine jp_ st46 ?_
 show Go_ T46 (mkF mm_ 168 #[vr w, vi d] [(.ref b2)])
 have K53 : Keep h0 T46.heap [] := (K52.trans Kc46 (allS (Or.inr lo_b2) all0))
 obtain ⟨fs, hr, hrun, hended, hW, hsame⟩ := X46.leave (v := some (.ref b2)) (rN Bd.returns)
 refine ⟨_, _, ?_, hrun, hended, _, _, rfl, ?_, ⟨_, rfl⟩, hW, hsame.mono (by decide) (by decide)⟩
 · jvm_step X46.here [X46.here.top, hx, (B_ dk418), X46.method', Bd.returns, Value.isRef, FieldType.isReference]
   first | (intro acts; rw [hr _ acts rfl rfl rfl]) | rw [hr _ _ rfl rfl rfl]
   exact Steps.refl _
 · show QrmLo10 Z w d t c0 c1 c2 c3 c4 c5 c6 c7 c8 c9 h0 n0 (some (.ref b2)) T46.heap _
   exact ⟨b2, t46, [c0, c1, c2, c3, c4, c5, c6, c7, c8, c9, d], rfl, N46, K53, lo_b2, Fs46⟩
theorem dk419 : decode J13 51 = .ok (.new 25, 3) := by decide +kernel
theorem dk420 : decode J13 54 = .ok (.dup, 1) := by decide +kernel
theorem dk421 : decode J13 55 = .ok (.bipush 9, 2) := by decide +kernel
theorem dk422 : decode J13 57 = .ok (.newarray .char, 2) := by decide +kernel
theorem dk423 : decode J13 59 = .ok (.dup, 1) := by decide +kernel
theorem dk424 : decode J13 60 = .ok (.iconst 0, 1) := by decide +kernel
theorem dk425 : decode J13 61 = .ok (.aload_n 0, 1) := by decide +kernel
theorem dk426 : decode J13 62 = .ok (.iconst 0, 1) := by decide +kernel
theorem dk427 : decode J13 63 = .ok (.invokevirtual 68, 3) := by decide +kernel
theorem dk428 : decode J13 66 = .ok (.castore, 1) := by decide +kernel
theorem dk429 : decode J13 67 = .ok (.dup, 1) := by decide +kernel
theorem dk430 : decode J13 68 = .ok (.iconst 1, 1) := by decide +kernel
theorem dk431 : decode J13 69 = .ok (.aload_n 0, 1) := by decide +kernel
theorem dk432 : decode J13 70 = .ok (.iconst 1, 1) := by decide +kernel
theorem dk433 : decode J13 71 = .ok (.invokevirtual 68, 3) := by decide +kernel
theorem dk434 : decode J13 74 = .ok (.castore, 1) := by decide +kernel
theorem dk435 : decode J13 75 = .ok (.dup, 1) := by decide +kernel
theorem dk436 : decode J13 76 = .ok (.iconst 2, 1) := by decide +kernel
theorem dk437 : decode J13 77 = .ok (.aload_n 0, 1) := by decide +kernel
theorem dk438 : decode J13 78 = .ok (.iconst 2, 1) := by decide +kernel
theorem dk439 : decode J13 79 = .ok (.invokevirtual 68, 3) := by decide +kernel
theorem dk440 : decode J13 82 = .ok (.castore, 1) := by decide +kernel
theorem dk441 : decode J13 83 = .ok (.dup, 1) := by decide +kernel
theorem dk442 : decode J13 84 = .ok (.iconst 3, 1) := by decide +kernel
theorem dk443 : decode J13 85 = .ok (.aload_n 0, 1) := by decide +kernel
theorem dk444 : decode J13 86 = .ok (.iconst 3, 1) := by decide +kernel
theorem dk445 : decode J13 87 = .ok (.invokevirtual 68, 3) := by decide +kernel
theorem dk446 : decode J13 90 = .ok (.castore, 1) := by decide +kernel
theorem dk447 : decode J13 91 = .ok (.dup, 1) := by decide +kernel
theorem dk448 : decode J13 92 = .ok (.iconst 4, 1) := by decide +kernel
theorem dk449 : decode J13 93 = .ok (.aload_n 0, 1) := by decide +kernel
theorem dk450 : decode J13 94 = .ok (.iconst 4, 1) := by decide +kernel
theorem dk451 : decode J13 95 = .ok (.invokevirtual 68, 3) := by decide +kernel
theorem dk452 : decode J13 98 = .ok (.castore, 1) := by decide +kernel
theorem dk453 : decode J13 99 = .ok (.dup, 1) := by decide +kernel
theorem dk454 : decode J13 100 = .ok (.iconst 5, 1) := by decide +kernel
theorem dk455 : decode J13 101 = .ok (.aload_n 0, 1) := by decide +kernel
theorem dk456 : decode J13 102 = .ok (.iconst 5, 1) := by decide +kernel
theorem dk457 : decode J13 103 = .ok (.invokevirtual 68, 3) := by decide +kernel
theorem dk458 : decode J13 106 = .ok (.castore, 1) := by decide +kernel
theorem dk459 : decode J13 107 = .ok (.dup, 1) := by decide +kernel
theorem dk460 : decode J13 108 = .ok (.bipush 6, 2) := by decide +kernel
theorem dk461 : decode J13 110 = .ok (.aload_n 0, 1) := by decide +kernel
theorem dk462 : decode J13 111 = .ok (.bipush 6, 2) := by decide +kernel
theorem dk463 : decode J13 113 = .ok (.invokevirtual 68, 3) := by decide +kernel
theorem dk464 : decode J13 116 = .ok (.castore, 1) := by decide +kernel
theorem dk465 : decode J13 117 = .ok (.dup, 1) := by decide +kernel
theorem dk466 : decode J13 118 = .ok (.bipush 7, 2) := by decide +kernel
theorem dk467 : decode J13 120 = .ok (.aload_n 0, 1) := by decide +kernel
theorem dk468 : decode J13 121 = .ok (.bipush 7, 2) := by decide +kernel
theorem dk469 : decode J13 123 = .ok (.invokevirtual 68, 3) := by decide +kernel
theorem dk470 : decode J13 126 = .ok (.castore, 1) := by decide +kernel
theorem dk471 : decode J13 127 = .ok (.dup, 1) := by decide +kernel
theorem dk472 : decode J13 128 = .ok (.bipush 8, 2) := by decide +kernel
theorem dk473 : decode J13 130 = .ok (.aload_n 0, 1) := by decide +kernel
theorem dk474 : decode J13 131 = .ok (.bipush 8, 2) := by decide +kernel
theorem dk475 : decode J13 133 = .ok (.invokevirtual 68, 3) := by decide +kernel
theorem dk476 : decode J13 136 = .ok (.castore, 1) := by decide +kernel
theorem dk477 : decode J13 137 = .ok (.invokespecial 76, 3) := by decide +kernel
theorem dk478 : decode J13 140 = .ok (.areturn, 1) := by decide +kernel
theorem ef_rmSh10 (mm_ : MethodId) (w : Addr) : entryFrame mm_ #[(.ref w)] 1 = (mkF mm_ 0 #[vr w] []) := by first | (simp [entryFrame, mkF, argsToLocals, Value.category]; done) | rfl
def QrmSh10 (Z : State) (w : Addr) (t : Addr) (c0 : Int32) (c1 : Int32) (c2 : Int32) (c3 : Int32) (c4 : Int32) (c5 : Int32) (c6 : Int32) (c7 : Int32) (c8 : Int32) (c9 : Int32) (h0 : Heap) (n0 : Nat) (vv_ : Option Value) (hh_ : Heap) (LL_ : List Loc) : Prop := ∃ (r : Addr), ∃ (u : Addr), ∃ (ds : List Int32), (vv_ = some (.ref r)) ∧ (Fr n0 LL_) ∧ (Keep h0 hh_ []) ∧ (h0.size ≤ r) ∧ (own_Str Z hh_ r u ds)
theorem rmSh10 (l : Launch) (Z : State) (a0 : Array Value) (hw : own_Hw a0 Z) (ws : List Jvm.Cond) (w : Addr) (t : Addr) (c0 : Int32) (c1 : Int32) (c2 : Int32) (c3 : Int32) (c4 : Int32) (c5 : Int32) (c6 : Int32) (c7 : Int32) (c8 : Int32) (c9 : Int32) {zc : Int32} {fm : Value} {w_0 : Addr} {w_1 : Addr} {w_2 : Addr} {w_3 : Addr} {wV : Addr} {kV : ClassId} {s_0 : Addr} {t_0 : Addr} {s_1 : Addr} {t_1 : Addr} {s_2 : Addr} {t_2 : Addr} {s_3 : Addr} {t_3 : Addr} (h0 : Heap) (n0 : Nat) (O0 : Old Z n0 h0) (G_ : own_St Z zc fm w_0 w_1 w_2 w_3 wV kV s_0 t_0 s_1 t_1 s_2 t_2 s_3 t_3) (pr0 : own_Str Z h0 w t [c0, c1, c2, c3, c4, c5, c6, c7, c8, c9]) :
 MetFree l ym5 (head1 (Jvm.Cond.code ym5 J13 1 (some (.object sc0)) :: ws) (rm_ 4 3 22 66)) (fun aa_ UU_ => aa_ = #[(.ref w)] ∧ Z.Warmed39 UU_.vm ∧ UU_.heap = h0) (fun _ _ _ _ _ => True) (fun _ UU_ oo_ UV_ => ∃ vv_ LL_, oo_ = .returned vv_ ∧ QrmSh10 Z w t c0 c1 c2 c3 c4 c5 c6 c7 c8 c9 h0 n0 vv_ UV_.heap LL_ ∧ FrameEnd UU_ oo_ UV_ LL_ (rm_ 4 3 22 66).cells (rm_ 4 3 22 66).slots) := by
 refine MetFree.of_bodySF (plainFor_of_name pn_com_example_vestwright_vestwright_census_ReasonOfPinLaw) hisR ?_
 intro pp_ ee_ ss_ mm_ args_ bb_ me_ cc_ s₁ Bd hml0 hP hK
 obtain ⟨rfl, hZ, hh⟩ := hP
 have hx := Bd.exec
 have hby := Bd.bytes; have B_ {q_ : Nat} {r_ : _} (h_ : decode _ q_ = r_) := hb hby h_
 have hml : cc_.maxLocals = 1 := hml0
 have hown : ss_.vm.findClass sc1 = some mm_.cls := findClass_of_methodNamed Bd.named
 have hnm := (name_of_methodNamed Bd.named Bd.method).1
 have X0 : Stand pp_ l ee_ (rm_ 4 3 22 66) ss_ mm_ #[(.ref w)] bb_ me_ cc_ s₁ [] 0 0 := Stand.of_body Bd
 have e0 : s₁.heap = h0 := by rw [← hh, Bd.state]; rfl
 have N0 := Fr.nil n0
 show own_Go pp_ ee_ bb_ _ s₁ (entryFrame mm_ #[(.ref w)] 1)
 refine own_cast (ef_rmSh10 mm_ w) ?_
 have Z0 : n0 ≤ h0.size := by have q := O0.2.1; rw [O0.1] at q; exact q
 have K0 : Keep h0 h0 [] := Keep.refl _ _
 obtain ⟨G_cs, G_cs0, G_fm, G_fr, G_S1, G_S2, G_S3, G_S4, G_S5, G_E6, G_E7, G_E8, G_E9, G_E10, G_V11, G_F12, G_T13, G_F17, G_T18, G_F22, G_T23, G_F27, G_T28, G_cw, G_h_com_example_vestwright_vestwright_census_ReasonOfPinLaw_7, G_h_com_example_vestwright_vestwright_census_ReasonOfPinLaw_9, G_h_com_example_vestwright_vestwright_census_ReasonOfPinLaw_11, G_h_com_example_vestwright_vestwright_census_ReasonOfPinLaw_13, G_h_java_lang_String_7⟩ := id G_
 show Go_ s₁ (mkF mm_ 0 #[vr w] [])
 refine sp_ (fun t_ k_ => XS.aloadN X0.here hx rfl (B_ dk229) rfl rfl k_) ?_
 show Go_ s₁ (mkF mm_ 1 #[vr w] [(.ref w)])
 obtain ⟨_, T1, Lc1, X1, hQ1, st1⟩ := own_cV X0 hx hZ hown (w_ hw 13 rfl) (w_ hw 14 rfl) (notFace_of_selects (args := #[]) (mvT hZ (w_ hw 16 rfl))) (w_ hw 16 rfl) (w_ hw 15 rfl) (by decide) (own_lenS (W := 0) hZ hw pr0 (G_cs.ext O0.2) G_cs0 (by decide) (by decide)) pr0.1 (g := (mkF mm_ 1 #[vr w] [(.ref w)])) rfl hml.symm (argsL := []) (rest := []) (lenOf pd_7 rfl) rfl (Nat.le_of_eq rfl) (B_ dk230) rfl e0 (by decide) (by decide)
 obtain ⟨rfl, rfl, Eh1⟩ := hQ1
 have N1 := Fr.app N0 (Fr.nil n0)
 refine jp_ st1 ?_
 show Go_ T1 (mkF mm_ 4 #[vr w] [(.int 10)])
 refine sp_ (fun t_ k_ => XS.iconst X1.here hx rfl (B_ dk231) k_) ?_
 show Go_ T1 (mkF mm_ 5 #[vr w] [(.int 5), (.int 10)])
 refine sp_ (fun t_ k_ => XS.icmpYes X1.here hx rfl (pc0 := 5) (pc' := 51) rfl (B_ dk232) rfl (feq (by decide : ¬ ((10 : Int32) = (5 : Int32)))).2 (by decide) (by decide) k_) ?_
 show Go_ T1 (mkF mm_ 51 #[vr w] [])
 obtain ⟨T2, h2, X2, e2, E2, A2, D2, -, st2⟩ := newO X1 hx hZ hown (w_ hw 26 rfl) (w_ hw 2 rfl) (w_ hw 1 rfl) Eh1 (g := (mkF mm_ 51 #[vr w] [])) rfl (B_ dk419) (by decide) (by decide)
 obtain ⟨b2, q2⟩ : ∃ z, z = h0.size := ⟨_, rfl⟩
 rw [← q2] at A2 D2 st2
 have lo_b2 : h0.size ≤ b2 := Nat.le_trans K0.1 (Nat.le_of_eq q2.symm)
 have g_b2 : n0 ≤ b2 := Nat.le_trans Z0 lo_b2
 refine sp_ st2 ?_
 have F2_value : Fld Z h2 b2 sc0 "value" "[B" .null := D2 (Or.inr (w_ hw 4 rfl)) (ty := (.array .byte)) (by decide)
 have F2_coder : Fld Z h2 b2 sc0 "coder" "B" (.int 0) := D2 (Or.inr (w_ hw 5 rfl)) (ty := .byte) (by decide)
 show Go_ T2 (mkF mm_ 54 #[vr w] [(.ref b2)])
 refine sp_ (fun t_ k_ => XS.dup X2.here hx rfl (B_ dk420) rfl rfl (XS.bipush X2.here hx rfl (B_ dk421) k_)) ?_
 show Go_ T2 (mkF mm_ 57 #[vr w] [(.int 9), (.ref b2), (.ref b2)])
 obtain ⟨T3, h3, k3, X3, e3, E3, A3, st3⟩ := newP X2 hx hZ (w_ hw 27 rfl) e2 (g := (mkF mm_ 57 #[vr w] [(.int 9), (.ref b2), (.ref b2)])) rfl (B_ dk422) rfl (by decide) (cap := 9) (by decide) (by decide) (by decide) (by decide)
 obtain ⟨b3, q3⟩ : ∃ z, z = h2.size := ⟨_, rfl⟩
 rw [← q3] at A3 st3
 have K4 : Keep h0 h2 [] := (K0.ext E2)
 have lo_b3 : h0.size ≤ b3 := Nat.le_trans K4.1 (Nat.le_of_eq q3.symm)
 have g_b3 : n0 ≤ b3 := Nat.le_trans Z0 lo_b3
 refine sp_ st3 ?_
 have V3 : Arv Z h3 b3 k3 .char (9 : Int32) [(.int 0), (.int 0), (.int 0), (.int 0), (.int 0), (.int 0), (.int 0), (.int 0), (.int 0)] (.int 0) := (Arv.new A3 (by decide)).pad (pad_rep [] (.int 0) 9)
 show Go_ T3 (mkF mm_ 59 #[vr w] [(.ref b3), (.ref b2), (.ref b2)])
 refine sp_ (fun t_ k_ => XS.dup X3.here hx rfl (B_ dk423) rfl rfl (XS.iconst X3.here hx rfl (B_ dk424) (XS.aloadN X3.here hx rfl (B_ dk425) rfl rfl (XS.iconst X3.here hx rfl (B_ dk426) k_)))) ?_
 show Go_ T3 (mkF mm_ 63 #[vr w] [(.int 0), (.ref w), (.int 0), (.ref b3), (.ref b3), (.ref b2), (.ref b2)])
 have f6 : own_Str Z h3 w t [c0, c1, c2, c3, c4, c5, c6, c7, c8, c9] := ((pr0.ext E2).ext E3)
 have O7 : Old Z n0 h3 := ((O0.ext E2).ext E3)
 obtain ⟨_, T5, Lc5, X5, hQ5, st5⟩ := own_cV X3 hx hZ hown (w_ hw 31 rfl) (w_ hw 32 rfl) (notFace_of_selects (args := #[]) (mvT hZ (w_ hw 34 rfl))) (w_ hw 34 rfl) (w_ hw 33 rfl) (by decide) (own_chS (W := 5) hZ hw f6 (G_cs.ext O7.2) G_cs0 (G_fm.ext O7.2) G_fr (i := 0) (Nat.le_of_ble_eq_true rfl) (j := (0 : Int32)) rfl (by decide) (by decide)) f6.1 (g := (mkF mm_ 63 #[vr w] [(.int 0), (.ref w), (.int 0), (.ref b3), (.ref b3), (.ref b2), (.ref b2)])) rfl hml.symm (argsL := [(.int 0)]) (rest := [(.int 0), (.ref b3), (.ref b3), (.ref b2), (.ref b2)]) (lenOf pd_6 rfl) rfl (Nat.le_of_eq rfl) (B_ dk427) rfl e3 (by decide) (by decide)
 obtain ⟨rfl, rfl, Eh5⟩ := hQ5
 have N5 := Fr.app N1 (Fr.nil n0)
 refine jp_ st5 ?_
 show Go_ T5 (mkF mm_ 66 #[vr w] [(.int c0), (.int 0), (.ref b3), (.ref b3), (.ref b2), (.ref b2)])
 obtain ⟨cl8, Ar8, q8, S8, M8, H8, G8⟩ := id V3
 have hin8 : ¬ ((0 : Int32) < 0 ∨ cl8.slots.size ≤ ((0 : Int32)).toNatClampNeg) := inb_of S8 ⟨by decide, by decide⟩
 obtain ⟨T8, h8, X8, e8, W8, st8⟩ := stC X5 hx hZ Eh5 Ar8 (j := (0 : Int32)) hin8 (g := (mkF mm_ 66 #[vr w] [(.int c0), (.int 0), (.ref b3), (.ref b3), (.ref b2), (.ref b2)])) rfl rfl (B_ dk428)
 have V8 : Arv Z h8 b3 k3 .char (9 : Int32) [(.int c0), (.int 0), (.int 0), (.int 0), (.int 0), (.int 0), (.int 0), (.int 0), (.int 0)] (.int 0) := by
  have q := Arv.set Ar8 q8 S8 M8 H8 G8 (fits_nar_char _) W8 0 rfl (Nat.le_of_ble_eq_true rfl)
  rw [own_narLit _ (own_sgc ((f6.2.2.2.2.1 _ (List.mem_of_getElem? (i := 0) rfl)))).1 (own_sgc ((f6.2.2.2.2.1 _ (List.mem_of_getElem? (i := 0) rfl)))).2] at q
  exact q
 have N8 := Fr.snoc X8 N5 g_b3
 refine sp_ st8 ?_
 show Go_ T8 (mkF mm_ 67 #[vr w] [(.ref b3), (.ref b2), (.ref b2)])
 refine sp_ (fun t_ k_ => XS.dup X8.here hx rfl (B_ dk429) rfl rfl (XS.iconst X8.here hx rfl (B_ dk430) (XS.aloadN X8.here hx rfl (B_ dk431) rfl rfl (XS.iconst X8.here hx rfl (B_ dk432) k_)))) ?_
 show Go_ T8 (mkF mm_ 71 #[vr w] [(.int 1), (.ref w), (.int 1), (.ref b3), (.ref b3), (.ref b2), (.ref b2)])
 have f10 : own_Str Z h8 w t [c0, c1, c2, c3, c4, c5, c6, c7, c8, c9] := (f6.keep (Keep.of_wr W8) (ninS (Nat.ne_of_lt (Nat.lt_of_lt_of_le (pr0.ext E2).lt (Nat.le_of_eq q3.symm))) nin0) (ninS (Nat.ne_of_lt (Nat.lt_of_lt_of_le (pr0.ext E2).ltT (Nat.le_of_eq q3.symm))) nin0))
 have O11 : Old Z n0 h8 := (O7.wr W8 g_b3)
 obtain ⟨_, T9, Lc9, X9, hQ9, st9⟩ := own_cV X8 hx hZ hown (w_ hw 31 rfl) (w_ hw 32 rfl) (notFace_of_selects (args := #[]) (mvT hZ (w_ hw 34 rfl))) (w_ hw 34 rfl) (w_ hw 33 rfl) (by decide) (own_chS (W := 5) hZ hw f10 (G_cs.ext O11.2) G_cs0 (G_fm.ext O11.2) G_fr (i := 1) (Nat.le_of_ble_eq_true rfl) (j := (1 : Int32)) rfl (by decide) (by decide)) f10.1 (g := (mkF mm_ 71 #[vr w] [(.int 1), (.ref w), (.int 1), (.ref b3), (.ref b3), (.ref b2), (.ref b2)])) rfl hml.symm (argsL := [(.int 1)]) (rest := [(.int 1), (.ref b3), (.ref b3), (.ref b2), (.ref b2)]) (lenOf pd_6 rfl) rfl (Nat.le_of_eq rfl) (B_ dk433) rfl e8 (by decide) (by decide)
 obtain ⟨rfl, rfl, Eh9⟩ := hQ9
 have N9 := Fr.app N8 (Fr.nil n0)
 refine jp_ st9 ?_
 show Go_ T9 (mkF mm_ 74 #[vr w] [(.int c1), (.int 1), (.ref b3), (.ref b3), (.ref b2), (.ref b2)])
 obtain ⟨cl12, Ar12, q12, S12, M12, H12, G12⟩ := id V8
 have hin12 : ¬ ((1 : Int32) < 0 ∨ cl12.slots.size ≤ ((1 : Int32)).toNatClampNeg) := inb_of S12 ⟨by decide, by decide⟩
 obtain ⟨T12, h12, X12, e12, W12, st12⟩ := stC X9 hx hZ Eh9 Ar12 (j := (1 : Int32)) hin12 (g := (mkF mm_ 74 #[vr w] [(.int c1), (.int 1), (.ref b3), (.ref b3), (.ref b2), (.ref b2)])) rfl rfl (B_ dk434)
 have V12 : Arv Z h12 b3 k3 .char (9 : Int32) [(.int c0), (.int c1), (.int 0), (.int 0), (.int 0), (.int 0), (.int 0), (.int 0), (.int 0)] (.int 0) := by
  have q := Arv.set Ar12 q12 S12 M12 H12 G12 (fits_nar_char _) W12 1 rfl (Nat.le_of_ble_eq_true rfl)
  rw [own_narLit _ (own_sgc ((f10.2.2.2.2.1 _ (List.mem_of_getElem? (i := 1) rfl)))).1 (own_sgc ((f10.2.2.2.2.1 _ (List.mem_of_getElem? (i := 1) rfl)))).2] at q
  exact q
 have N12 := Fr.snoc X12 N9 g_b3
 refine sp_ st12 ?_
 show Go_ T12 (mkF mm_ 75 #[vr w] [(.ref b3), (.ref b2), (.ref b2)])
 refine sp_ (fun t_ k_ => XS.dup X12.here hx rfl (B_ dk435) rfl rfl (XS.iconst X12.here hx rfl (B_ dk436) (XS.aloadN X12.here hx rfl (B_ dk437) rfl rfl (XS.iconst X12.here hx rfl (B_ dk438) k_)))) ?_
 show Go_ T12 (mkF mm_ 79 #[vr w] [(.int 2), (.ref w), (.int 2), (.ref b3), (.ref b3), (.ref b2), (.ref b2)])
 have f14 : own_Str Z h12 w t [c0, c1, c2, c3, c4, c5, c6, c7, c8, c9] := (f10.keep (Keep.of_wr W12) (ninS (Nat.ne_of_lt (Nat.lt_of_lt_of_le (pr0.ext E2).lt (Nat.le_of_eq q3.symm))) nin0) (ninS (Nat.ne_of_lt (Nat.lt_of_lt_of_le (pr0.ext E2).ltT (Nat.le_of_eq q3.symm))) nin0))
 have O15 : Old Z n0 h12 := (O11.wr W12 g_b3)
 obtain ⟨_, T13, Lc13, X13, hQ13, st13⟩ := own_cV X12 hx hZ hown (w_ hw 31 rfl) (w_ hw 32 rfl) (notFace_of_selects (args := #[]) (mvT hZ (w_ hw 34 rfl))) (w_ hw 34 rfl) (w_ hw 33 rfl) (by decide) (own_chS (W := 5) hZ hw f14 (G_cs.ext O15.2) G_cs0 (G_fm.ext O15.2) G_fr (i := 2) (Nat.le_of_ble_eq_true rfl) (j := (2 : Int32)) rfl (by decide) (by decide)) f14.1 (g := (mkF mm_ 79 #[vr w] [(.int 2), (.ref w), (.int 2), (.ref b3), (.ref b3), (.ref b2), (.ref b2)])) rfl hml.symm (argsL := [(.int 2)]) (rest := [(.int 2), (.ref b3), (.ref b3), (.ref b2), (.ref b2)]) (lenOf pd_6 rfl) rfl (Nat.le_of_eq rfl) (B_ dk439) rfl e12 (by decide) (by decide)
 obtain ⟨rfl, rfl, Eh13⟩ := hQ13
 have N13 := Fr.app N12 (Fr.nil n0)
 refine jp_ st13 ?_
 show Go_ T13 (mkF mm_ 82 #[vr w] [(.int c2), (.int 2), (.ref b3), (.ref b3), (.ref b2), (.ref b2)])
 obtain ⟨cl16, Ar16, q16, S16, M16, H16, G16⟩ := id V12
 have hin16 : ¬ ((2 : Int32) < 0 ∨ cl16.slots.size ≤ ((2 : Int32)).toNatClampNeg) := inb_of S16 ⟨by decide, by decide⟩
 obtain ⟨T16, h16, X16, e16, W16, st16⟩ := stC X13 hx hZ Eh13 Ar16 (j := (2 : Int32)) hin16 (g := (mkF mm_ 82 #[vr w] [(.int c2), (.int 2), (.ref b3), (.ref b3), (.ref b2), (.ref b2)])) rfl rfl (B_ dk440)
 have V16 : Arv Z h16 b3 k3 .char (9 : Int32) [(.int c0), (.int c1), (.int c2), (.int 0), (.int 0), (.int 0), (.int 0), (.int 0), (.int 0)] (.int 0) := by
  have q := Arv.set Ar16 q16 S16 M16 H16 G16 (fits_nar_char _) W16 2 rfl (Nat.le_of_ble_eq_true rfl)
  rw [own_narLit _ (own_sgc ((f14.2.2.2.2.1 _ (List.mem_of_getElem? (i := 2) rfl)))).1 (own_sgc ((f14.2.2.2.2.1 _ (List.mem_of_getElem? (i := 2) rfl)))).2] at q
  exact q
 have N16 := Fr.snoc X16 N13 g_b3
 refine sp_ st16 ?_
 show Go_ T16 (mkF mm_ 83 #[vr w] [(.ref b3), (.ref b2), (.ref b2)])
 refine sp_ (fun t_ k_ => XS.dup X16.here hx rfl (B_ dk441) rfl rfl (XS.iconst X16.here hx rfl (B_ dk442) (XS.aloadN X16.here hx rfl (B_ dk443) rfl rfl (XS.iconst X16.here hx rfl (B_ dk444) k_)))) ?_
 show Go_ T16 (mkF mm_ 87 #[vr w] [(.int 3), (.ref w), (.int 3), (.ref b3), (.ref b3), (.ref b2), (.ref b2)])
 have f18 : own_Str Z h16 w t [c0, c1, c2, c3, c4, c5, c6, c7, c8, c9] := (f14.keep (Keep.of_wr W16) (ninS (Nat.ne_of_lt (Nat.lt_of_lt_of_le (pr0.ext E2).lt (Nat.le_of_eq q3.symm))) nin0) (ninS (Nat.ne_of_lt (Nat.lt_of_lt_of_le (pr0.ext E2).ltT (Nat.le_of_eq q3.symm))) nin0))
 have O19 : Old Z n0 h16 := (O15.wr W16 g_b3)
 obtain ⟨_, T17, Lc17, X17, hQ17, st17⟩ := own_cV X16 hx hZ hown (w_ hw 31 rfl) (w_ hw 32 rfl) (notFace_of_selects (args := #[]) (mvT hZ (w_ hw 34 rfl))) (w_ hw 34 rfl) (w_ hw 33 rfl) (by decide) (own_chS (W := 5) hZ hw f18 (G_cs.ext O19.2) G_cs0 (G_fm.ext O19.2) G_fr (i := 3) (Nat.le_of_ble_eq_true rfl) (j := (3 : Int32)) rfl (by decide) (by decide)) f18.1 (g := (mkF mm_ 87 #[vr w] [(.int 3), (.ref w), (.int 3), (.ref b3), (.ref b3), (.ref b2), (.ref b2)])) rfl hml.symm (argsL := [(.int 3)]) (rest := [(.int 3), (.ref b3), (.ref b3), (.ref b2), (.ref b2)]) (lenOf pd_6 rfl) rfl (Nat.le_of_eq rfl) (B_ dk445) rfl e16 (by decide) (by decide)
 obtain ⟨rfl, rfl, Eh17⟩ := hQ17
 have N17 := Fr.app N16 (Fr.nil n0)
 refine jp_ st17 ?_
 show Go_ T17 (mkF mm_ 90 #[vr w] [(.int c3), (.int 3), (.ref b3), (.ref b3), (.ref b2), (.ref b2)])
 obtain ⟨cl20, Ar20, q20, S20, M20, H20, G20⟩ := id V16
 have hin20 : ¬ ((3 : Int32) < 0 ∨ cl20.slots.size ≤ ((3 : Int32)).toNatClampNeg) := inb_of S20 ⟨by decide, by decide⟩
 obtain ⟨T20, h20, X20, e20, W20, st20⟩ := stC X17 hx hZ Eh17 Ar20 (j := (3 : Int32)) hin20 (g := (mkF mm_ 90 #[vr w] [(.int c3), (.int 3), (.ref b3), (.ref b3), (.ref b2), (.ref b2)])) rfl rfl (B_ dk446)
 have V20 : Arv Z h20 b3 k3 .char (9 : Int32) [(.int c0), (.int c1), (.int c2), (.int c3), (.int 0), (.int 0), (.int 0), (.int 0), (.int 0)] (.int 0) := by
  have q := Arv.set Ar20 q20 S20 M20 H20 G20 (fits_nar_char _) W20 3 rfl (Nat.le_of_ble_eq_true rfl)
  rw [own_narLit _ (own_sgc ((f18.2.2.2.2.1 _ (List.mem_of_getElem? (i := 3) rfl)))).1 (own_sgc ((f18.2.2.2.2.1 _ (List.mem_of_getElem? (i := 3) rfl)))).2] at q
  exact q
 have N20 := Fr.snoc X20 N17 g_b3
 refine sp_ st20 ?_
 show Go_ T20 (mkF mm_ 91 #[vr w] [(.ref b3), (.ref b2), (.ref b2)])
 refine sp_ (fun t_ k_ => XS.dup X20.here hx rfl (B_ dk447) rfl rfl (XS.iconst X20.here hx rfl (B_ dk448) (XS.aloadN X20.here hx rfl (B_ dk449) rfl rfl (XS.iconst X20.here hx rfl (B_ dk450) k_)))) ?_
 show Go_ T20 (mkF mm_ 95 #[vr w] [(.int 4), (.ref w), (.int 4), (.ref b3), (.ref b3), (.ref b2), (.ref b2)])
 have f22 : own_Str Z h20 w t [c0, c1, c2, c3, c4, c5, c6, c7, c8, c9] := (f18.keep (Keep.of_wr W20) (ninS (Nat.ne_of_lt (Nat.lt_of_lt_of_le (pr0.ext E2).lt (Nat.le_of_eq q3.symm))) nin0) (ninS (Nat.ne_of_lt (Nat.lt_of_lt_of_le (pr0.ext E2).ltT (Nat.le_of_eq q3.symm))) nin0))
 have O23 : Old Z n0 h20 := (O19.wr W20 g_b3)
 obtain ⟨_, T21, Lc21, X21, hQ21, st21⟩ := own_cV X20 hx hZ hown (w_ hw 31 rfl) (w_ hw 32 rfl) (notFace_of_selects (args := #[]) (mvT hZ (w_ hw 34 rfl))) (w_ hw 34 rfl) (w_ hw 33 rfl) (by decide) (own_chS (W := 5) hZ hw f22 (G_cs.ext O23.2) G_cs0 (G_fm.ext O23.2) G_fr (i := 4) (Nat.le_of_ble_eq_true rfl) (j := (4 : Int32)) rfl (by decide) (by decide)) f22.1 (g := (mkF mm_ 95 #[vr w] [(.int 4), (.ref w), (.int 4), (.ref b3), (.ref b3), (.ref b2), (.ref b2)])) rfl hml.symm (argsL := [(.int 4)]) (rest := [(.int 4), (.ref b3), (.ref b3), (.ref b2), (.ref b2)]) (lenOf pd_6 rfl) rfl (Nat.le_of_eq rfl) (B_ dk451) rfl e20 (by decide) (by decide)
 obtain ⟨rfl, rfl, Eh21⟩ := hQ21
 have N21 := Fr.app N20 (Fr.nil n0)
 refine jp_ st21 ?_
 show Go_ T21 (mkF mm_ 98 #[vr w] [(.int c4), (.int 4), (.ref b3), (.ref b3), (.ref b2), (.ref b2)])
 obtain ⟨cl24, Ar24, q24, S24, M24, H24, G24⟩ := id V20
 have hin24 : ¬ ((4 : Int32) < 0 ∨ cl24.slots.size ≤ ((4 : Int32)).toNatClampNeg) := inb_of S24 ⟨by decide, by decide⟩
 obtain ⟨T24, h24, X24, e24, W24, st24⟩ := stC X21 hx hZ Eh21 Ar24 (j := (4 : Int32)) hin24 (g := (mkF mm_ 98 #[vr w] [(.int c4), (.int 4), (.ref b3), (.ref b3), (.ref b2), (.ref b2)])) rfl rfl (B_ dk452)
 have V24 : Arv Z h24 b3 k3 .char (9 : Int32) [(.int c0), (.int c1), (.int c2), (.int c3), (.int c4), (.int 0), (.int 0), (.int 0), (.int 0)] (.int 0) := by
  have q := Arv.set Ar24 q24 S24 M24 H24 G24 (fits_nar_char _) W24 4 rfl (Nat.le_of_ble_eq_true rfl)
  rw [own_narLit _ (own_sgc ((f22.2.2.2.2.1 _ (List.mem_of_getElem? (i := 4) rfl)))).1 (own_sgc ((f22.2.2.2.2.1 _ (List.mem_of_getElem? (i := 4) rfl)))).2] at q
  exact q
 have N24 := Fr.snoc X24 N21 g_b3
 refine sp_ st24 ?_
 show Go_ T24 (mkF mm_ 99 #[vr w] [(.ref b3), (.ref b2), (.ref b2)])
 refine sp_ (fun t_ k_ => XS.dup X24.here hx rfl (B_ dk453) rfl rfl (XS.iconst X24.here hx rfl (B_ dk454) (XS.aloadN X24.here hx rfl (B_ dk455) rfl rfl (XS.iconst X24.here hx rfl (B_ dk456) k_)))) ?_
 show Go_ T24 (mkF mm_ 103 #[vr w] [(.int 5), (.ref w), (.int 5), (.ref b3), (.ref b3), (.ref b2), (.ref b2)])
 have f26 : own_Str Z h24 w t [c0, c1, c2, c3, c4, c5, c6, c7, c8, c9] := (f22.keep (Keep.of_wr W24) (ninS (Nat.ne_of_lt (Nat.lt_of_lt_of_le (pr0.ext E2).lt (Nat.le_of_eq q3.symm))) nin0) (ninS (Nat.ne_of_lt (Nat.lt_of_lt_of_le (pr0.ext E2).ltT (Nat.le_of_eq q3.symm))) nin0))
 have O27 : Old Z n0 h24 := (O23.wr W24 g_b3)
 obtain ⟨_, T25, Lc25, X25, hQ25, st25⟩ := own_cV X24 hx hZ hown (w_ hw 31 rfl) (w_ hw 32 rfl) (notFace_of_selects (args := #[]) (mvT hZ (w_ hw 34 rfl))) (w_ hw 34 rfl) (w_ hw 33 rfl) (by decide) (own_chS (W := 5) hZ hw f26 (G_cs.ext O27.2) G_cs0 (G_fm.ext O27.2) G_fr (i := 5) (Nat.le_of_ble_eq_true rfl) (j := (5 : Int32)) rfl (by decide) (by decide)) f26.1 (g := (mkF mm_ 103 #[vr w] [(.int 5), (.ref w), (.int 5), (.ref b3), (.ref b3), (.ref b2), (.ref b2)])) rfl hml.symm (argsL := [(.int 5)]) (rest := [(.int 5), (.ref b3), (.ref b3), (.ref b2), (.ref b2)]) (lenOf pd_6 rfl) rfl (Nat.le_of_eq rfl) (B_ dk457) rfl e24 (by decide) (by decide)
 obtain ⟨rfl, rfl, Eh25⟩ := hQ25
 have N25 := Fr.app N24 (Fr.nil n0)
 refine jp_ st25 ?_
 show Go_ T25 (mkF mm_ 106 #[vr w] [(.int c5), (.int 5), (.ref b3), (.ref b3), (.ref b2), (.ref b2)])
 obtain ⟨cl28, Ar28, q28, S28, M28, H28, G28⟩ := id V24
 have hin28 : ¬ ((5 : Int32) < 0 ∨ cl28.slots.size ≤ ((5 : Int32)).toNatClampNeg) := inb_of S28 ⟨by decide, by decide⟩
 obtain ⟨T28, h28, X28, e28, W28, st28⟩ := stC X25 hx hZ Eh25 Ar28 (j := (5 : Int32)) hin28 (g := (mkF mm_ 106 #[vr w] [(.int c5), (.int 5), (.ref b3), (.ref b3), (.ref b2), (.ref b2)])) rfl rfl (B_ dk458)
 have V28 : Arv Z h28 b3 k3 .char (9 : Int32) [(.int c0), (.int c1), (.int c2), (.int c3), (.int c4), (.int c5), (.int 0), (.int 0), (.int 0)] (.int 0) := by
  have q := Arv.set Ar28 q28 S28 M28 H28 G28 (fits_nar_char _) W28 5 rfl (Nat.le_of_ble_eq_true rfl)
  rw [own_narLit _ (own_sgc ((f26.2.2.2.2.1 _ (List.mem_of_getElem? (i := 5) rfl)))).1 (own_sgc ((f26.2.2.2.2.1 _ (List.mem_of_getElem? (i := 5) rfl)))).2] at q
  exact q
 have N28 := Fr.snoc X28 N25 g_b3
 refine sp_ st28 ?_
 show Go_ T28 (mkF mm_ 107 #[vr w] [(.ref b3), (.ref b2), (.ref b2)])
 refine sp_ (fun t_ k_ => XS.dup X28.here hx rfl (B_ dk459) rfl rfl (XS.bipush X28.here hx rfl (B_ dk460) (XS.aloadN X28.here hx rfl (B_ dk461) rfl rfl (XS.bipush X28.here hx rfl (B_ dk462) k_)))) ?_
 show Go_ T28 (mkF mm_ 113 #[vr w] [(.int 6), (.ref w), (.int 6), (.ref b3), (.ref b3), (.ref b2), (.ref b2)])
 have f30 : own_Str Z h28 w t [c0, c1, c2, c3, c4, c5, c6, c7, c8, c9] := (f26.keep (Keep.of_wr W28) (ninS (Nat.ne_of_lt (Nat.lt_of_lt_of_le (pr0.ext E2).lt (Nat.le_of_eq q3.symm))) nin0) (ninS (Nat.ne_of_lt (Nat.lt_of_lt_of_le (pr0.ext E2).ltT (Nat.le_of_eq q3.symm))) nin0))
 have O31 : Old Z n0 h28 := (O27.wr W28 g_b3)
 obtain ⟨_, T29, Lc29, X29, hQ29, st29⟩ := own_cV X28 hx hZ hown (w_ hw 31 rfl) (w_ hw 32 rfl) (notFace_of_selects (args := #[]) (mvT hZ (w_ hw 34 rfl))) (w_ hw 34 rfl) (w_ hw 33 rfl) (by decide) (own_chS (W := 5) hZ hw f30 (G_cs.ext O31.2) G_cs0 (G_fm.ext O31.2) G_fr (i := 6) (Nat.le_of_ble_eq_true rfl) (j := (6 : Int32)) rfl (by decide) (by decide)) f30.1 (g := (mkF mm_ 113 #[vr w] [(.int 6), (.ref w), (.int 6), (.ref b3), (.ref b3), (.ref b2), (.ref b2)])) rfl hml.symm (argsL := [(.int 6)]) (rest := [(.int 6), (.ref b3), (.ref b3), (.ref b2), (.ref b2)]) (lenOf pd_6 rfl) rfl (Nat.le_of_eq rfl) (B_ dk463) rfl e28 (by decide) (by decide)
 obtain ⟨rfl, rfl, Eh29⟩ := hQ29
 have N29 := Fr.app N28 (Fr.nil n0)
 refine jp_ st29 ?_
 show Go_ T29 (mkF mm_ 116 #[vr w] [(.int c6), (.int 6), (.ref b3), (.ref b3), (.ref b2), (.ref b2)])
 obtain ⟨cl32, Ar32, q32, S32, M32, H32, G32⟩ := id V28
 have hin32 : ¬ ((6 : Int32) < 0 ∨ cl32.slots.size ≤ ((6 : Int32)).toNatClampNeg) := inb_of S32 ⟨by decide, by decide⟩
 obtain ⟨T32, h32, X32, e32, W32, st32⟩ := stC X29 hx hZ Eh29 Ar32 (j := (6 : Int32)) hin32 (g := (mkF mm_ 116 #[vr w] [(.int c6), (.int 6), (.ref b3), (.ref b3), (.ref b2), (.ref b2)])) rfl rfl (B_ dk464)
 have V32 : Arv Z h32 b3 k3 .char (9 : Int32) [(.int c0), (.int c1), (.int c2), (.int c3), (.int c4), (.int c5), (.int c6), (.int 0), (.int 0)] (.int 0) := by
  have q := Arv.set Ar32 q32 S32 M32 H32 G32 (fits_nar_char _) W32 6 rfl (Nat.le_of_ble_eq_true rfl)
  rw [own_narLit _ (own_sgc ((f30.2.2.2.2.1 _ (List.mem_of_getElem? (i := 6) rfl)))).1 (own_sgc ((f30.2.2.2.2.1 _ (List.mem_of_getElem? (i := 6) rfl)))).2] at q
  exact q
 have N32 := Fr.snoc X32 N29 g_b3
 refine sp_ st32 ?_
 show Go_ T32 (mkF mm_ 117 #[vr w] [(.ref b3), (.ref b2), (.ref b2)])
 refine sp_ (fun t_ k_ => XS.dup X32.here hx rfl (B_ dk465) rfl rfl (XS.bipush X32.here hx rfl (B_ dk466) (XS.aloadN X32.here hx rfl (B_ dk467) rfl rfl (XS.bipush X32.here hx rfl (B_ dk468) k_)))) ?_
 show Go_ T32 (mkF mm_ 123 #[vr w] [(.int 7), (.ref w), (.int 7), (.ref b3), (.ref b3), (.ref b2), (.ref b2)])
 have f34 : own_Str Z h32 w t [c0, c1, c2, c3, c4, c5, c6, c7, c8, c9] := (f30.keep (Keep.of_wr W32) (ninS (Nat.ne_of_lt (Nat.lt_of_lt_of_le (pr0.ext E2).lt (Nat.le_of_eq q3.symm))) nin0) (ninS (Nat.ne_of_lt (Nat.lt_of_lt_of_le (pr0.ext E2).ltT (Nat.le_of_eq q3.symm))) nin0))
 have O35 : Old Z n0 h32 := (O31.wr W32 g_b3)
 obtain ⟨_, T33, Lc33, X33, hQ33, st33⟩ := own_cV X32 hx hZ hown (w_ hw 31 rfl) (w_ hw 32 rfl) (notFace_of_selects (args := #[]) (mvT hZ (w_ hw 34 rfl))) (w_ hw 34 rfl) (w_ hw 33 rfl) (by decide) (own_chS (W := 5) hZ hw f34 (G_cs.ext O35.2) G_cs0 (G_fm.ext O35.2) G_fr (i := 7) (Nat.le_of_ble_eq_true rfl) (j := (7 : Int32)) rfl (by decide) (by decide)) f34.1 (g := (mkF mm_ 123 #[vr w] [(.int 7), (.ref w), (.int 7), (.ref b3), (.ref b3), (.ref b2), (.ref b2)])) rfl hml.symm (argsL := [(.int 7)]) (rest := [(.int 7), (.ref b3), (.ref b3), (.ref b2), (.ref b2)]) (lenOf pd_6 rfl) rfl (Nat.le_of_eq rfl) (B_ dk469) rfl e32 (by decide) (by decide)
 obtain ⟨rfl, rfl, Eh33⟩ := hQ33
 have N33 := Fr.app N32 (Fr.nil n0)
 refine jp_ st33 ?_
 show Go_ T33 (mkF mm_ 126 #[vr w] [(.int c7), (.int 7), (.ref b3), (.ref b3), (.ref b2), (.ref b2)])
 obtain ⟨cl36, Ar36, q36, S36, M36, H36, G36⟩ := id V32
 have hin36 : ¬ ((7 : Int32) < 0 ∨ cl36.slots.size ≤ ((7 : Int32)).toNatClampNeg) := inb_of S36 ⟨by decide, by decide⟩
 obtain ⟨T36, h36, X36, e36, W36, st36⟩ := stC X33 hx hZ Eh33 Ar36 (j := (7 : Int32)) hin36 (g := (mkF mm_ 126 #[vr w] [(.int c7), (.int 7), (.ref b3), (.ref b3), (.ref b2), (.ref b2)])) rfl rfl (B_ dk470)
 have V36 : Arv Z h36 b3 k3 .char (9 : Int32) [(.int c0), (.int c1), (.int c2), (.int c3), (.int c4), (.int c5), (.int c6), (.int c7), (.int 0)] (.int 0) := by
  have q := Arv.set Ar36 q36 S36 M36 H36 G36 (fits_nar_char _) W36 7 rfl (Nat.le_of_ble_eq_true rfl)
  rw [own_narLit _ (own_sgc ((f34.2.2.2.2.1 _ (List.mem_of_getElem? (i := 7) rfl)))).1 (own_sgc ((f34.2.2.2.2.1 _ (List.mem_of_getElem? (i := 7) rfl)))).2] at q
  exact q
 have N36 := Fr.snoc X36 N33 g_b3
 refine sp_ st36 ?_
 show Go_ T36 (mkF mm_ 127 #[vr w] [(.ref b3), (.ref b2), (.ref b2)])
 refine sp_ (fun t_ k_ => XS.dup X36.here hx rfl (B_ dk471) rfl rfl (XS.bipush X36.here hx rfl (B_ dk472) (XS.aloadN X36.here hx rfl (B_ dk473) rfl rfl (XS.bipush X36.here hx rfl (B_ dk474) k_)))) ?_
 show Go_ T36 (mkF mm_ 133 #[vr w] [(.int 8), (.ref w), (.int 8), (.ref b3), (.ref b3), (.ref b2), (.ref b2)])
 have f38 : own_Str Z h36 w t [c0, c1, c2, c3, c4, c5, c6, c7, c8, c9] := (f34.keep (Keep.of_wr W36) (ninS (Nat.ne_of_lt (Nat.lt_of_lt_of_le (pr0.ext E2).lt (Nat.le_of_eq q3.symm))) nin0) (ninS (Nat.ne_of_lt (Nat.lt_of_lt_of_le (pr0.ext E2).ltT (Nat.le_of_eq q3.symm))) nin0))
 have O39 : Old Z n0 h36 := (O35.wr W36 g_b3)
 obtain ⟨_, T37, Lc37, X37, hQ37, st37⟩ := own_cV X36 hx hZ hown (w_ hw 31 rfl) (w_ hw 32 rfl) (notFace_of_selects (args := #[]) (mvT hZ (w_ hw 34 rfl))) (w_ hw 34 rfl) (w_ hw 33 rfl) (by decide) (own_chS (W := 5) hZ hw f38 (G_cs.ext O39.2) G_cs0 (G_fm.ext O39.2) G_fr (i := 8) (Nat.le_of_ble_eq_true rfl) (j := (8 : Int32)) rfl (by decide) (by decide)) f38.1 (g := (mkF mm_ 133 #[vr w] [(.int 8), (.ref w), (.int 8), (.ref b3), (.ref b3), (.ref b2), (.ref b2)])) rfl hml.symm (argsL := [(.int 8)]) (rest := [(.int 8), (.ref b3), (.ref b3), (.ref b2), (.ref b2)]) (lenOf pd_6 rfl) rfl (Nat.le_of_eq rfl) (B_ dk475) rfl e36 (by decide) (by decide)
 obtain ⟨rfl, rfl, Eh37⟩ := hQ37
 have N37 := Fr.app N36 (Fr.nil n0)
 refine jp_ st37 ?_
 show Go_ T37 (mkF mm_ 136 #[vr w] [(.int c8), (.int 8), (.ref b3), (.ref b3), (.ref b2), (.ref b2)])
 obtain ⟨cl40, Ar40, q40, S40, M40, H40, G40⟩ := id V36
 have hin40 : ¬ ((8 : Int32) < 0 ∨ cl40.slots.size ≤ ((8 : Int32)).toNatClampNeg) := inb_of S40 ⟨by decide, by decide⟩
 obtain ⟨T40, h40, X40, e40, W40, st40⟩ := stC X37 hx hZ Eh37 Ar40 (j := (8 : Int32)) hin40 (g := (mkF mm_ 136 #[vr w] [(.int c8), (.int 8), (.ref b3), (.ref b3), (.ref b2), (.ref b2)])) rfl rfl (B_ dk476)
 have V40 : Arv Z h40 b3 k3 .char (9 : Int32) [(.int c0), (.int c1), (.int c2), (.int c3), (.int c4), (.int c5), (.int c6), (.int c7), (.int c8)] (.int 0) := by
  have q := Arv.set Ar40 q40 S40 M40 H40 G40 (fits_nar_char _) W40 8 rfl (Nat.le_of_ble_eq_true rfl)
  rw [own_narLit _ (own_sgc ((f38.2.2.2.2.1 _ (List.mem_of_getElem? (i := 8) rfl)))).1 (own_sgc ((f38.2.2.2.2.1 _ (List.mem_of_getElem? (i := 8) rfl)))).2] at q
  exact q
 have N40 := Fr.snoc X40 N37 g_b3
 refine sp_ st40 ?_
 show Go_ T40 (mkF mm_ 137 #[vr w] [(.ref b3), (.ref b2), (.ref b2)])
 have hp42 : ∀ ch_ ∈ ([c0, c1, c2, c3, c4, c5, c6, c7, c8] : List Int32), ¬ ch_ < 0 ∧ ¬ (255 : Int32) < ch_ := by
  intro ch_ hc
  simp only [List.mem_cons, List.not_mem_nil, or_false] at hc
  rcases hc with rfl | rfl | rfl | rfl | rfl | rfl | rfl | rfl | rfl
  · exact (f38.2.2.2.2.1 _ (List.mem_of_getElem? (i := 0) rfl))
  · exact (f38.2.2.2.2.1 _ (List.mem_of_getElem? (i := 1) rfl))
  · exact (f38.2.2.2.2.1 _ (List.mem_of_getElem? (i := 2) rfl))
  · exact (f38.2.2.2.2.1 _ (List.mem_of_getElem? (i := 3) rfl))
  · exact (f38.2.2.2.2.1 _ (List.mem_of_getElem? (i := 4) rfl))
  · exact (f38.2.2.2.2.1 _ (List.mem_of_getElem? (i := 5) rfl))
  · exact (f38.2.2.2.2.1 _ (List.mem_of_getElem? (i := 6) rfl))
  · exact (f38.2.2.2.2.1 _ (List.mem_of_getElem? (i := 7) rfl))
  · exact (f38.2.2.2.2.1 _ (List.mem_of_getElem? (i := 8) rfl))
 have f43 : Exa Z h40 b2 sc0 := ((((((((((A2.ext E3).wr W8).wr W12).wr W16).wr W20).wr W24).wr W28).wr W32).wr W36).wr W40)
 have f44 : Fld Z h40 b2 sc0 "value" "[B" .null := ((((((((((F2_value.ext E3).other W8 (Or.inl (Nat.ne_of_lt (Nat.lt_of_lt_of_le A2.lt (Nat.le_of_eq q3.symm))))).other W12 (Or.inl (Nat.ne_of_lt (Nat.lt_of_lt_of_le A2.lt (Nat.le_of_eq q3.symm))))).other W16 (Or.inl (Nat.ne_of_lt (Nat.lt_of_lt_of_le A2.lt (Nat.le_of_eq q3.symm))))).other W20 (Or.inl (Nat.ne_of_lt (Nat.lt_of_lt_of_le A2.lt (Nat.le_of_eq q3.symm))))).other W24 (Or.inl (Nat.ne_of_lt (Nat.lt_of_lt_of_le A2.lt (Nat.le_of_eq q3.symm))))).other W28 (Or.inl (Nat.ne_of_lt (Nat.lt_of_lt_of_le A2.lt (Nat.le_of_eq q3.symm))))).other W32 (Or.inl (Nat.ne_of_lt (Nat.lt_of_lt_of_le A2.lt (Nat.le_of_eq q3.symm))))).other W36 (Or.inl (Nat.ne_of_lt (Nat.lt_of_lt_of_le A2.lt (Nat.le_of_eq q3.symm))))).other W40 (Or.inl (Nat.ne_of_lt (Nat.lt_of_lt_of_le A2.lt (Nat.le_of_eq q3.symm)))))
 have f45 : Fld Z h40 b2 sc0 "coder" "B" (.int 0) := ((((((((((F2_coder.ext E3).other W8 (Or.inl (Nat.ne_of_lt (Nat.lt_of_lt_of_le A2.lt (Nat.le_of_eq q3.symm))))).other W12 (Or.inl (Nat.ne_of_lt (Nat.lt_of_lt_of_le A2.lt (Nat.le_of_eq q3.symm))))).other W16 (Or.inl (Nat.ne_of_lt (Nat.lt_of_lt_of_le A2.lt (Nat.le_of_eq q3.symm))))).other W20 (Or.inl (Nat.ne_of_lt (Nat.lt_of_lt_of_le A2.lt (Nat.le_of_eq q3.symm))))).other W24 (Or.inl (Nat.ne_of_lt (Nat.lt_of_lt_of_le A2.lt (Nat.le_of_eq q3.symm))))).other W28 (Or.inl (Nat.ne_of_lt (Nat.lt_of_lt_of_le A2.lt (Nat.le_of_eq q3.symm))))).other W32 (Or.inl (Nat.ne_of_lt (Nat.lt_of_lt_of_le A2.lt (Nat.le_of_eq q3.symm))))).other W36 (Or.inl (Nat.ne_of_lt (Nat.lt_of_lt_of_le A2.lt (Nat.le_of_eq q3.symm))))).other W40 (Or.inl (Nat.ne_of_lt (Nat.lt_of_lt_of_le A2.lt (Nat.le_of_eq q3.symm)))))
 have O46 : Old Z n0 h40 := (O39.wr W40 g_b3)
 have K47 : Keep h0 h40 [] := ((((((((((K4.ext E3).wr W8 (Or.inr lo_b3)).wr W12 (Or.inr lo_b3)).wr W16 (Or.inr lo_b3)).wr W20 (Or.inr lo_b3)).wr W24 (Or.inr lo_b3)).wr W28 (Or.inr lo_b3)).wr W32 (Or.inr lo_b3)).wr W36 (Or.inr lo_b3)).wr W40 (Or.inr lo_b3))
 obtain ⟨_, T41, Lc41, X41, hQ41, st41⟩ := own_cI X40 hx hZ rfl hown (w_ hw 53 rfl) (w_ hw 54 rfl) (w_ hw 55 rfl) (by decide) (own_newS (W := 1) hZ hw (cs := [c0, c1, c2, c3, c4, c5, c6, c7, c8]) (n := 9) g_b2 (Nat.le_trans Z0 K47.1) f43 f44 f45 V40 (G_cs.ext O46.2) G_cs0 rfl rfl rfl (by decide) (by decide) hp42 (by decide) (by decide)) (g := (mkF mm_ 137 #[vr w] [(.ref b3), (.ref b2), (.ref b2)])) rfl hml.symm (a := b2) (argsL := [(.ref b3)]) (rest := [(.ref b2)]) (lenOf pd_9 rfl) rfl (Nat.le_of_eq rfl) (B_ dk477) rfl e40 (by decide) (by decide)
 obtain ⟨t41, rfl, Nq41, Kc41, lo41, Fs41⟩ := hQ41
 have N41 := Fr.app N40 Nq41
 have lo_t41 : h0.size ≤ t41 := Nat.le_trans K47.1 lo41
 have g_t41 : n0 ≤ t41 := Nat.le_trans Z0 lo_t41
 refine jp_ st41 ?_
 show Go_ T41 (mkF mm_ 140 #[vr w] [(.ref b2)])
 have K48 : Keep h0 T41.heap [] := (K47.trans Kc41 (allS (Or.inr lo_b2) all0))
 obtain ⟨fs, hr, hrun, hended, hW, hsame⟩ := X41.leave (v := some (.ref b2)) (rN Bd.returns)
 refine ⟨_, _, ?_, hrun, hended, _, _, rfl, ?_, ⟨_, rfl⟩, hW, hsame.mono (by decide) (by decide)⟩
 · jvm_step X41.here [X41.here.top, hx, (B_ dk478), X41.method', Bd.returns, Value.isRef, FieldType.isReference]
   first | (intro acts; rw [hr _ acts rfl rfl rfl]) | rw [hr _ _ rfl rfl rfl]
   exact Steps.refl _
 · show QrmSh10 Z w t c0 c1 c2 c3 c4 c5 c6 c7 c8 c9 h0 n0 (some (.ref b2)) T41.heap _
   exact ⟨b2, t41, [c0, c1, c2, c3, c4, c5, c6, c7, c8], rfl, N41, K48, lo_b2, Fs41⟩
theorem dk479 : decode J14 0 = .ok (.iload_n 0, 1) := by decide +kernel
theorem dk480 : decode J14 1 = .ok (.ifCond .ne 5, 3) := by decide +kernel
theorem dk481 : decode J14 4 = .ok (.aconst_null, 1) := by decide +kernel
theorem dk482 : decode J14 5 = .ok (.areturn, 1) := by decide +kernel
theorem ef_rmDn (mm_ : MethodId) (n : Int32) (q : Int64) : entryFrame mm_ #[(.int n), (.long q)] 3 = (mkF mm_ 0 #[vi n, .val (.long q), .second] []) := by first | (simp [entryFrame, mkF, argsToLocals, Value.category]; done) | rfl
def QrmDn (Z : State) (n : Int32) (q : Int64) (h0 : Heap) (n0 : Nat) (vv_ : Option Value) (hh_ : Heap) (LL_ : List Loc) : Prop := (vv_ = some .null) ∧ (LL_ = []) ∧ (hh_ = h0)
theorem rmDn (l : Launch) (Z : State) (a0 : Array Value) (hw : own_Hw a0 Z) (ws : List Jvm.Cond) (n : Int32) (q : Int64) (h0 : Heap) (n0 : Nat) (O0 : Old Z n0 h0) (hm : n = (0 : Int32)) :
 MetFree l ym1 (head1 (Jvm.Cond.code ym1 J14 3 (some (.object sc0)) :: ws) (rm_ 0 0 0 0)) (fun aa_ UU_ => aa_ = #[(.int n), (.long q)] ∧ Z.Warmed39 UU_.vm ∧ UU_.heap = h0) (fun _ _ _ _ _ => True) (fun _ UU_ oo_ UV_ => ∃ vv_ LL_, oo_ = .returned vv_ ∧ QrmDn Z n q h0 n0 vv_ UV_.heap LL_ ∧ FrameEnd UU_ oo_ UV_ LL_ (rm_ 0 0 0 0).cells (rm_ 0 0 0 0).slots) := by
 refine MetFree.of_bodySF (plainFor_of_name pn_com_example_vestwright_vestwright_census_ReasonOfPinLaw) hisR ?_
 intro pp_ ee_ ss_ mm_ args_ bb_ me_ cc_ s₁ Bd hml0 hP hK
 obtain ⟨rfl, hZ, hh⟩ := hP
 have hx := Bd.exec
 have hby := Bd.bytes; have B_ {q_ : Nat} {r_ : _} (h_ : decode _ q_ = r_) := hb hby h_
 have hml : cc_.maxLocals = 3 := hml0
 have hown : ss_.vm.findClass sc1 = some mm_.cls := findClass_of_methodNamed Bd.named
 have hnm := (name_of_methodNamed Bd.named Bd.method).1
 have X0 : Stand pp_ l ee_ (rm_ 0 0 0 0) ss_ mm_ #[(.int n), (.long q)] bb_ me_ cc_ s₁ [] 0 0 := Stand.of_body Bd
 have e0 : s₁.heap = h0 := by rw [← hh, Bd.state]; rfl
 have N0 := Fr.nil n0
 show own_Go pp_ ee_ bb_ _ s₁ (entryFrame mm_ #[(.int n), (.long q)] 3)
 refine own_cast (ef_rmDn mm_ n q) ?_
 have Z0 : n0 ≤ h0.size := by have q := O0.2.1; rw [O0.1] at q; exact q
 have K0 : Keep h0 h0 [] := Keep.refl _ _
 show Go_ s₁ (mkF mm_ 0 #[vi n, .val (.long q), .second] [])
 refine sp_ (fun t_ k_ => XS.iloadN X0.here hx rfl (B_ dk479) rfl  k_) ?_
 show Go_ s₁ (mkF mm_ 1 #[vi n, .val (.long q), .second] [(.int n)])
 refine sp_ (fun t_ k_ => XS.ifNo X0.here hx rfl (B_ dk480) rfl ((if0 _ _).trans (teq hm).2) k_) ?_
 show Go_ s₁ (mkF mm_ 4 #[vi n, .val (.long q), .second] [])
 refine sp_ (fun t_ k_ => XS.aconstNull X0.here hx rfl (B_ dk481) k_) ?_
 show Go_ s₁ (mkF mm_ 5 #[vi n, .val (.long q), .second] [.null])
 obtain ⟨fs, hr, hrun, hended, hW, hsame⟩ := X0.leave (v := some .null) (rN Bd.returns)
 refine ⟨_, _, ?_, hrun, hended, _, _, rfl, ?_, ⟨_, rfl⟩, hW, hsame.mono (by decide) (by decide)⟩
 · jvm_step X0.here [X0.here.top, hx, (B_ dk482), X0.method', Bd.returns, Value.isRef, FieldType.isReference]
   first | (intro acts; rw [hr _ acts rfl rfl rfl]) | rw [hr _ _ rfl rfl rfl]
   exact Steps.refl _
 · show QrmDn Z n q h0 n0 (some .null) s₁.heap _
   rw [e0]
   exact ⟨rfl, rfl, rfl⟩
theorem dk483 : decode J14 6 = .ok (.iload_n 0, 1) := by decide +kernel
theorem dk484 : decode J14 7 = .ok (.iconst 1, 1) := by decide +kernel
theorem dk485 : decode J14 8 = .ok (.if_icmp .ne 14, 3) := by decide +kernel
theorem dk486 : decode J14 11 = .ok (.new 25, 3) := by decide +kernel
theorem dk487 : decode J14 14 = .ok (.dup, 1) := by decide +kernel
theorem dk488 : decode J14 15 = .ok (.iconst 0, 1) := by decide +kernel
theorem dk489 : decode J14 16 = .ok (.newarray .char, 2) := by decide +kernel
theorem dk490 : decode J14 18 = .ok (.invokespecial 76, 3) := by decide +kernel
theorem dk491 : decode J14 21 = .ok (.areturn, 1) := by decide +kernel
theorem dk492 : decode J14 22 = .ok (.iload_n 0, 1) := by decide +kernel
theorem dk493 : decode J14 23 = .ok (.iconst 2, 1) := by decide +kernel
theorem dk494 : decode J14 24 = .ok (.if_icmp .ne 14, 3) := by decide +kernel
theorem dk495 : decode J14 27 = .ok (.lload_n 1, 1) := by decide +kernel
theorem dk496 : decode J14 28 = .ok (.ldc2_w 15, 3) := by decide +kernel
theorem dk497 : decode J14 31 = .ok (.land, 1) := by decide +kernel
theorem dk498 : decode J14 32 = .ok (.l2i, 1) := by decide +kernel
theorem dk499 : decode J14 33 = .ok (.i2c, 1) := by decide +kernel
theorem dk500 : decode J14 34 = .ok (.invokestatic 79, 3) := by decide +kernel
theorem pd_10 : parseMethodDescriptor "(C)Ljava/lang/String;" = some ⟨[.char], some (.object "java/lang/String")⟩ := by decide +kernel
theorem dk501 : decode J14 37 = .ok (.areturn, 1) := by decide +kernel
theorem dk502 : decode J14 38 = .ok (.new 25, 3) := by decide +kernel
theorem dk503 : decode J14 41 = .ok (.dup, 1) := by decide +kernel
theorem dk504 : decode J14 42 = .ok (.iconst 5, 1) := by decide +kernel
theorem dk505 : decode J14 43 = .ok (.newarray .char, 2) := by decide +kernel
theorem dk506 : decode J14 45 = .ok (.dup, 1) := by decide +kernel
theorem dk507 : decode J14 46 = .ok (.iconst 0, 1) := by decide +kernel
theorem dk508 : decode J14 47 = .ok (.lload_n 1, 1) := by decide +kernel
theorem dk509 : decode J14 48 = .ok (.ldc2_w 15, 3) := by decide +kernel
theorem dk510 : decode J14 51 = .ok (.land, 1) := by decide +kernel
theorem dk511 : decode J14 52 = .ok (.l2i, 1) := by decide +kernel
theorem dk512 : decode J14 53 = .ok (.i2c, 1) := by decide +kernel
theorem dk513 : decode J14 54 = .ok (.castore, 1) := by decide +kernel
theorem dk514 : decode J14 55 = .ok (.dup, 1) := by decide +kernel
theorem dk515 : decode J14 56 = .ok (.iconst 1, 1) := by decide +kernel
theorem dk516 : decode J14 57 = .ok (.lload_n 1, 1) := by decide +kernel
theorem dk517 : decode J14 58 = .ok (.bipush 8, 2) := by decide +kernel
theorem dk518 : decode J14 60 = .ok (.lushr, 1) := by decide +kernel
theorem dk519 : decode J14 61 = .ok (.ldc2_w 15, 3) := by decide +kernel
theorem dk520 : decode J14 64 = .ok (.land, 1) := by decide +kernel
theorem dk521 : decode J14 65 = .ok (.l2i, 1) := by decide +kernel
theorem dk522 : decode J14 66 = .ok (.i2c, 1) := by decide +kernel
theorem dk523 : decode J14 67 = .ok (.castore, 1) := by decide +kernel
theorem dk524 : decode J14 68 = .ok (.dup, 1) := by decide +kernel
theorem dk525 : decode J14 69 = .ok (.iconst 2, 1) := by decide +kernel
theorem dk526 : decode J14 70 = .ok (.lload_n 1, 1) := by decide +kernel
theorem dk527 : decode J14 71 = .ok (.bipush 16, 2) := by decide +kernel
theorem dk528 : decode J14 73 = .ok (.lushr, 1) := by decide +kernel
theorem dk529 : decode J14 74 = .ok (.ldc2_w 15, 3) := by decide +kernel
theorem dk530 : decode J14 77 = .ok (.land, 1) := by decide +kernel
theorem dk531 : decode J14 78 = .ok (.l2i, 1) := by decide +kernel
theorem dk532 : decode J14 79 = .ok (.i2c, 1) := by decide +kernel
theorem dk533 : decode J14 80 = .ok (.castore, 1) := by decide +kernel
theorem dk534 : decode J14 81 = .ok (.dup, 1) := by decide +kernel
theorem dk535 : decode J14 82 = .ok (.iconst 3, 1) := by decide +kernel
theorem dk536 : decode J14 83 = .ok (.lload_n 1, 1) := by decide +kernel
theorem dk537 : decode J14 84 = .ok (.bipush 24, 2) := by decide +kernel
theorem dk538 : decode J14 86 = .ok (.lushr, 1) := by decide +kernel
theorem dk539 : decode J14 87 = .ok (.ldc2_w 15, 3) := by decide +kernel
theorem dk540 : decode J14 90 = .ok (.land, 1) := by decide +kernel
theorem dk541 : decode J14 91 = .ok (.l2i, 1) := by decide +kernel
theorem dk542 : decode J14 92 = .ok (.i2c, 1) := by decide +kernel
theorem dk543 : decode J14 93 = .ok (.castore, 1) := by decide +kernel
theorem dk544 : decode J14 94 = .ok (.dup, 1) := by decide +kernel
theorem dk545 : decode J14 95 = .ok (.iconst 4, 1) := by decide +kernel
theorem dk546 : decode J14 96 = .ok (.lload_n 1, 1) := by decide +kernel
theorem dk547 : decode J14 97 = .ok (.bipush 32, 2) := by decide +kernel
theorem dk548 : decode J14 99 = .ok (.lushr, 1) := by decide +kernel
theorem dk549 : decode J14 100 = .ok (.ldc2_w 15, 3) := by decide +kernel
theorem dk550 : decode J14 103 = .ok (.land, 1) := by decide +kernel
theorem dk551 : decode J14 104 = .ok (.l2i, 1) := by decide +kernel
theorem dk552 : decode J14 105 = .ok (.i2c, 1) := by decide +kernel
theorem dk553 : decode J14 106 = .ok (.castore, 1) := by decide +kernel
theorem dk554 : decode J14 107 = .ok (.invokespecial 76, 3) := by decide +kernel
theorem dk555 : decode J14 110 = .ok (.areturn, 1) := by decide +kernel
theorem ef_rmDs (mm_ : MethodId) (n : Int32) (q : Int64) : entryFrame mm_ #[(.int n), (.long q)] 3 = (mkF mm_ 0 #[vi n, .val (.long q), .second] []) := by first | (simp [entryFrame, mkF, argsToLocals, Value.category]; done) | rfl
def QrmDs (Z : State) (n : Int32) (q : Int64) (tz : List String) (h0 : Heap) (n0 : Nat) (vv_ : Option Value) (hh_ : Heap) (LL_ : List Loc) : Prop := ∃ (r : Addr), ∃ (u : Addr), ∃ (ds : List Int32), (vv_ = some (.ref r)) ∧ (Fr n0 LL_) ∧ (Keep h0 hh_ []) ∧ (h0.size ≤ r) ∧ (own_Str Z hh_ r u ds)
theorem rmDs (l : Launch) (Z : State) (a0 : Array Value) (hw : own_Hw a0 Z) (ws : List Jvm.Cond) (n : Int32) (q : Int64) (tz : List String) {zc : Int32} {fm : Value} {w_0 : Addr} {w_1 : Addr} {w_2 : Addr} {w_3 : Addr} {wV : Addr} {kV : ClassId} {s_0 : Addr} {t_0 : Addr} {s_1 : Addr} {t_1 : Addr} {s_2 : Addr} {t_2 : Addr} {s_3 : Addr} {t_3 : Addr} (h0 : Heap) (n0 : Nat) (O0 : Old Z n0 h0) (G_ : own_St Z zc fm w_0 w_1 w_2 w_3 wV kV s_0 t_0 s_1 t_1 s_2 t_2 s_3 t_3) (hm : ¬ (n = (0 : Int32))) (hnz : "" ∉ tz) :
 MetFree l ym1 (head1 (Jvm.Cond.code ym1 J14 3 (some (.object sc0)) :: ws) (rm_ 4 4 14 66)) (fun aa_ UU_ => aa_ = #[(.int n), (.long q)] ∧ Z.Warmed39 UU_.vm ∧ UU_.heap = h0 ∧ (IB Z UU_.vm tz)) (fun _ _ _ _ _ => True) (fun _ UU_ oo_ UV_ => ∃ vv_ LL_, oo_ = .returned vv_ ∧ QrmDs Z n q tz h0 n0 vv_ UV_.heap LL_ ∧ IB Z UV_.vm ("" :: tz) ∧ ReturnedEndW UU_ oo_ UV_ LL_ (rm_ 4 4 14 66).cells (rm_ 4 4 14 66).slots) := by
 refine MetFree.of_bodySF (plainFor_of_name pn_com_example_vestwright_vestwright_census_ReasonOfPinLaw) hisR ?_
 intro pp_ ee_ ss_ mm_ args_ bb_ me_ cc_ s₁ Bd hml0 hP hK
 obtain ⟨rfl, hZ, hh, hI⟩ := hP
 have hx := Bd.exec
 have hby := Bd.bytes; have B_ {q_ : Nat} {r_ : _} (h_ : decode _ q_ = r_) := hb hby h_
 have hml : cc_.maxLocals = 3 := hml0
 have hown : ss_.vm.findClass sc1 = some mm_.cls := findClass_of_methodNamed Bd.named
 have hnm := (name_of_methodNamed Bd.named Bd.method).1
 have X0 : Stand pp_ l ee_ (rm_ 4 4 14 66) ss_ mm_ #[(.int n), (.long q)] bb_ me_ cc_ s₁ [] 0 0 := Stand.of_body Bd
 have e0 : s₁.heap = h0 := by rw [← hh, Bd.state]; rfl
 have N0 := Fr.nil n0
 have X0 : Stand pp_ l ee_ _ (ss_.setVm ss_.vm) mm_ _ bb_ me_ cc_ s₁ [] 0 0 := X0
 have hZ : Z.Warmed39 (ss_.setVm ss_.vm).vm := hZ
 have hown : (ss_.setVm ss_.vm).vm.findClass sc1 = some mm_.cls := hown
 have hS0 : ss_.Since ss_.vm 0 := (State.WarmedH.refl ss_).since 0
 have hkeep_ : ∀ (b : Addr) (cl : Cell), Z.heap[b]? = some cl → ss_.heap[b]? = some cl := by rw [hh]; exact O0.2.2
 have own_atoms_ : ∀ a ∈ Bundle.stringAtoms, a.before a0 Z = true := fun d hd => hw d ((by decide +kernel : ∀ d ∈ Bundle.stringAtoms, d ∈ tables_1) d hd)
 show own_Go pp_ ee_ bb_ _ s₁ (entryFrame mm_ #[(.int n), (.long q)] 3)
 refine own_cast (ef_rmDs mm_ n q) ?_
 have Z0 : n0 ≤ h0.size := by have q := O0.2.1; rw [O0.1] at q; exact q
 have K0 : Keep h0 h0 [] := Keep.refl _ _
 obtain ⟨G_cs, G_cs0, G_fm, G_fr, G_S1, G_S2, G_S3, G_S4, G_S5, G_E6, G_E7, G_E8, G_E9, G_E10, G_V11, G_F12, G_T13, G_F17, G_T18, G_F22, G_T23, G_F27, G_T28, G_cw, G_h_com_example_vestwright_vestwright_census_ReasonOfPinLaw_7, G_h_com_example_vestwright_vestwright_census_ReasonOfPinLaw_9, G_h_com_example_vestwright_vestwright_census_ReasonOfPinLaw_11, G_h_com_example_vestwright_vestwright_census_ReasonOfPinLaw_13, G_h_java_lang_String_7⟩ := id G_
 have own_cw_ : Jvm.Lit.compactW.before a0 Z = true := G_cw
 show Go_ s₁ (mkF mm_ 0 #[vi n, .val (.long q), .second] [])
 refine sp_ (fun t_ k_ => XS.iloadN X0.here hx rfl (B_ dk479) rfl  k_) ?_
 show Go_ s₁ (mkF mm_ 1 #[vi n, .val (.long q), .second] [(.int n)])
 refine sp_ (fun t_ k_ => XS.ifYes X0.here hx rfl (pc0 := 1) (pc' := 6) rfl (B_ dk480) rfl ((if0 _ _).trans (feq hm).2) (by decide) (by decide) k_) ?_
 show Go_ s₁ (mkF mm_ 6 #[vi n, .val (.long q), .second] [])
 refine sp_ (fun t_ k_ => XS.iloadN X0.here hx rfl (B_ dk483) rfl  (XS.iconst X0.here hx rfl (B_ dk484) k_)) ?_
 show Go_ s₁ (mkF mm_ 8 #[vi n, .val (.long q), .second] [(.int 1), (.int n)])
 by_cases hc8_1 : n = (1 : Int32)
 · skip
   refine sp_ (fun t_ k_ => XS.icmpNo X0.here hx rfl (B_ dk485) rfl (teq hc8_1).2 k_) ?_
   show Go_ s₁ (mkF mm_ 11 #[vi n, .val (.long q), .second] [])
   obtain ⟨T2, h2, X2, e2, E2, A2, D2, -, st2⟩ := newO X0 hx hZ hown (w_ hw 26 rfl) (w_ hw 2 rfl) (w_ hw 1 rfl) e0 (g := (mkF mm_ 11 #[vi n, .val (.long q), .second] [])) rfl (B_ dk486) (by decide) (by decide)
   obtain ⟨b2, q2⟩ : ∃ z, z = h0.size := ⟨_, rfl⟩
   rw [← q2] at A2 D2 st2
   have lo_b2 : h0.size ≤ b2 := Nat.le_trans K0.1 (Nat.le_of_eq q2.symm)
   have g_b2 : n0 ≤ b2 := Nat.le_trans Z0 lo_b2
   refine sp_ st2 ?_
   have F2_value : Fld Z h2 b2 sc0 "value" "[B" .null := D2 (Or.inr (w_ hw 4 rfl)) (ty := (.array .byte)) (by decide)
   have F2_coder : Fld Z h2 b2 sc0 "coder" "B" (.int 0) := D2 (Or.inr (w_ hw 5 rfl)) (ty := .byte) (by decide)
   show Go_ T2 (mkF mm_ 14 #[vi n, .val (.long q), .second] [(.ref b2)])
   refine sp_ (fun t_ k_ => XS.dup X2.here hx rfl (B_ dk487) rfl rfl (XS.iconst X2.here hx rfl (B_ dk488) k_)) ?_
   show Go_ T2 (mkF mm_ 16 #[vi n, .val (.long q), .second] [(.int 0), (.ref b2), (.ref b2)])
   obtain ⟨T3, h3, k3, X3, e3, E3, A3, st3⟩ := newP X2 hx hZ (w_ hw 27 rfl) e2 (g := (mkF mm_ 16 #[vi n, .val (.long q), .second] [(.int 0), (.ref b2), (.ref b2)])) rfl (B_ dk489) rfl (by decide) (cap := 0) (by decide) (by decide) (by decide) (by decide)
   obtain ⟨b3, q3⟩ : ∃ z, z = h2.size := ⟨_, rfl⟩
   rw [← q3] at A3 st3
   have K4 : Keep h0 h2 [] := (K0.ext E2)
   have lo_b3 : h0.size ≤ b3 := Nat.le_trans K4.1 (Nat.le_of_eq q3.symm)
   have g_b3 : n0 ≤ b3 := Nat.le_trans Z0 lo_b3
   refine sp_ st3 ?_
   have V3 : Arv Z h3 b3 k3 .char (0 : Int32) [] (.int 0) := (Arv.new A3 (by decide)).pad (pad_rep [] (.int 0) 0)
   show Go_ T3 (mkF mm_ 18 #[vi n, .val (.long q), .second] [(.ref b3), (.ref b2), (.ref b2)])
   have f6 : Exa Z h3 b2 sc0 := (A2.ext E3)
   have f7 : Fld Z h3 b2 sc0 "value" "[B" .null := (F2_value.ext E3)
   have f8 : Fld Z h3 b2 sc0 "coder" "B" (.int 0) := (F2_coder.ext E3)
   have O9 : Old Z n0 h3 := ((O0.ext E2).ext E3)
   obtain ⟨_, _, ⟨T5, Lx5, kx5, nx5⟩, -, X5, hS5, hG5, ⟨Lc5, hQ5, l5, y5, z5⟩, st5⟩ := X3.specialBackS hx (y := ym7) rfl hown (mvT hZ (w_ hw 53 rfl)) (mvT hZ (w_ hw 54 rfl)) (mvT hZ (w_ hw 55 rfl)) (by decide) (own_backI (J := fun q_ => IB Z q_ tz) (J' := fun q_ => IB Z q_ ("" :: tz)) (W := 1) (rmI1 l Z a0 hw [] b2 b3 k3 (.int 0) tz h3 n0 O9 G_ f6 f7 f8 g_b2 hnz V3) hZ (w_ hw 55 rfl) (w_ hw 1 rfl) (by decide) (by decide)) (g := (mkF mm_ 18 #[vi n, .val (.long q), .second] [(.ref b3), (.ref b2), (.ref b2)])) rfl hml.symm (Steps.refl _) (a := b2) (argsL := [(.ref b3)]) (rest := [(.ref b2)]) (lenOf pd_9 rfl) rfl (Nat.le_of_eq rfl) (B_ dk490) (fun vm_ hvm_ => ⟨rfl, e3, (by decide : 2 + 2 ≤ _), (by decide : 4 + 4 ≤ _), own_IB_mono (own_IB_warm hI hvm_) (by intro t_ h_; first | exact h_ | exact List.mem_cons_of_mem _ h_ | (revert t_ h_; decide))⟩)
   dsimp only [Pt.U, Pt.locs, Pt.cells, Pt.slots] at X5 l5 y5 z5 st5 hQ5 hS5 hG5
   subst l5 y5 z5
   obtain ⟨X5, hS5, hZ5, hown5⟩ := rebS (n1 := h3.size) hS0 (Nat.le_trans (Nat.le_trans (Nat.zero_le _) E2.1) E3.1) X5 hS5 (by rw [← e3]; exact hG5) hZ hown
   obtain ⟨hQ5, hIq5⟩ := hQ5
   obtain ⟨t_5, rfl, Nq5, Kc5, r5_0⟩ := hQ5
   have N5 := Fr.app N0 Nq5
   refine jp_ st5 ?_
   show Go_ T5 (mkF mm_ 21 #[vi n, .val (.long q), .second] [(.ref b2)])
   have K10 : Keep h0 T5.heap [] := ((K4.ext E3).trans Kc5 (allS (Or.inr lo_b2) all0))
   obtain ⟨fs, hr, hrun, hended, hEnd⟩ := X5.leaveW hS5 (Nat.le_refl _) (v := some (.ref b2)) (rN Bd.returns)
   refine ⟨_, _, ?_, hrun, hended, _, _, rfl, ?_, own_IB_mono (own_IB_warm hIq5 X5.warmed) (by intro t_ h_; first | exact h_ | exact List.mem_cons_of_mem _ h_ | (revert t_ h_; decide)), own_endMono hEnd (by decide) (by decide)⟩
   · jvm_step X5.here [X5.here.top, hx, (B_ dk491), X5.method', Bd.returns, Value.isRef, FieldType.isReference]
     first | (intro acts; rw [hr _ acts rfl rfl rfl]) | rw [hr _ _ rfl rfl rfl]
     exact Steps.refl _
   · show QrmDs Z n q tz h0 n0 (some (.ref b2)) T5.heap _
     exact ⟨b2, t_5, [], rfl, N5, K10, lo_b2, r5_0⟩
 · skip
   refine sp_ (fun t_ k_ => XS.icmpYes X0.here hx rfl (pc0 := 8) (pc' := 22) rfl (B_ dk485) rfl (feq hc8_1).2 (by decide) (by decide) k_) ?_
   show Go_ s₁ (mkF mm_ 22 #[vi n, .val (.long q), .second] [])
   refine sp_ (fun t_ k_ => XS.iloadN X0.here hx rfl (B_ dk492) rfl  (XS.iconst X0.here hx rfl (B_ dk493) k_)) ?_
   show Go_ s₁ (mkF mm_ 24 #[vi n, .val (.long q), .second] [(.int 2), (.int n)])
   by_cases hc24_11 : n = (2 : Int32)
   · skip
     refine sp_ (fun t_ k_ => XS.icmpNo X0.here hx rfl (B_ dk494) rfl (teq hc24_11).2 k_) ?_
     show Go_ s₁ (mkF mm_ 27 #[vi n, .val (.long q), .second] [])
     refine sp_ (fun t_ k_ => XS.lloadN X0.here hx rfl (B_ dk495) rfl  k_) ?_
     show Go_ s₁ (mkF mm_ 28 #[vi n, .val (.long q), .second] [(.long q)])
     refine sp_ (fun t_ k_ => X0.ldc2Long hx hown (mvT hZ (w_ hw 8 rfl)) (g := (mkF mm_ 28 #[vi n, .val (.long q), .second] [(.long q)])) rfl (B_ dk496) t_ k_) ?_
     show Go_ s₁ (mkF mm_ 31 #[vi n, .val (.long q), .second] [(.long (255 : Int64)), (.long q)])
     refine sp_ (fun t_ k_ => XS.land X0.here hx rfl (B_ dk497) rfl (XS.l2i X0.here hx rfl (B_ dk498) rfl k_)) ?_
     show Go_ s₁ (mkF mm_ 33 #[vi n, .val (.long q), .second] [(.int ((q &&& (255 : Int64)).toInt32))])
     refine sp_ (fun t_ k_ => XS.i2c X0.here hx rfl (B_ dk499) rfl (by rw [own_i2cL]; exact k_)) ?_
     show Go_ s₁ (mkF mm_ 34 #[vi n, .val (.long q), .second] [(.int ((q &&& (255 : Int64)).toInt32))])
     obtain ⟨_, T12, Lc12, X12, hQ12, st12⟩ := own_cS X0 hx hZ hown (w_ hw 119 rfl) (w_ hw 120 rfl) (w_ hw 1 rfl) (w_ hw 121 rfl) (by decide) (backOf (W := 0) (rmVC l Z a0 hw [] ((q &&& (255 : Int64)).toInt32) h0 n0 O0 G_ (own_sgL _)) hZ (w_ hw 121 rfl) (w_ hw 1 rfl) (by decide) (by decide)) (g := (mkF mm_ 34 #[vi n, .val (.long q), .second] [(.int ((q &&& (255 : Int64)).toInt32))])) rfl hml.symm (argsL := [(.int ((q &&& (255 : Int64)).toInt32))]) (rest := []) (lenOf pd_10 rfl) rfl (Nat.le_of_eq rfl) (B_ dk500) rfl e0 (by decide) (by decide)
     obtain ⟨r_12, t_12, rfl, Nq12, Kc12, r12_0, r12_1⟩ := hQ12
     have N12 := Fr.app N0 Nq12
     have lo_r_12 : h0.size ≤ r_12 := Nat.le_trans K0.1 r12_0
     have g_r_12 : n0 ≤ r_12 := Nat.le_trans Z0 lo_r_12
     refine jp_ st12 ?_
     show Go_ T12 (mkF mm_ 37 #[vi n, .val (.long q), .second] [(.ref r_12)])
     have K13 : Keep h0 T12.heap [] := (K0.trans Kc12 all0)
     obtain ⟨fs, hr, hrun, hended, hEnd⟩ := X12.leaveW hS0 (Nat.le_trans (Nat.zero_le _) Kc12.1) (v := some (.ref r_12)) (rN Bd.returns)
     refine ⟨_, _, ?_, hrun, hended, _, _, rfl, ?_, own_IB_mono (own_IB_warm hI X12.warmed) (by intro t_ h_; first | exact h_ | exact List.mem_cons_of_mem _ h_ | (revert t_ h_; decide)), own_endMono hEnd (by decide) (by decide)⟩
     · jvm_step X12.here [X12.here.top, hx, (B_ dk501), X12.method', Bd.returns, Value.isRef, FieldType.isReference]
       first | (intro acts; rw [hr _ acts rfl rfl rfl]) | rw [hr _ _ rfl rfl rfl]
       exact Steps.refl _
     · show QrmDs Z n q tz h0 n0 (some (.ref r_12)) T12.heap _
       exact ⟨r_12, t_12, [((q &&& (255 : Int64)).toInt32)], rfl, N12, K13, lo_r_12, r12_1⟩
   · skip
     refine sp_ (fun t_ k_ => XS.icmpYes X0.here hx rfl (pc0 := 24) (pc' := 38) rfl (B_ dk494) rfl (feq hc24_11).2 (by decide) (by decide) k_) ?_
     show Go_ s₁ (mkF mm_ 38 #[vi n, .val (.long q), .second] [])
     obtain ⟨T14, h14, X14, e14, E14, A14, D14, -, st14⟩ := newO X0 hx hZ hown (w_ hw 26 rfl) (w_ hw 2 rfl) (w_ hw 1 rfl) e0 (g := (mkF mm_ 38 #[vi n, .val (.long q), .second] [])) rfl (B_ dk502) (by decide) (by decide)
     obtain ⟨b14, q14⟩ : ∃ z, z = h0.size := ⟨_, rfl⟩
     rw [← q14] at A14 D14 st14
     have lo_b14 : h0.size ≤ b14 := Nat.le_trans K0.1 (Nat.le_of_eq q14.symm)
     have g_b14 : n0 ≤ b14 := Nat.le_trans Z0 lo_b14
     refine sp_ st14 ?_
     have F14_value : Fld Z h14 b14 sc0 "value" "[B" .null := D14 (Or.inr (w_ hw 4 rfl)) (ty := (.array .byte)) (by decide)
     have F14_coder : Fld Z h14 b14 sc0 "coder" "B" (.int 0) := D14 (Or.inr (w_ hw 5 rfl)) (ty := .byte) (by decide)
     show Go_ T14 (mkF mm_ 41 #[vi n, .val (.long q), .second] [(.ref b14)])
     refine sp_ (fun t_ k_ => XS.dup X14.here hx rfl (B_ dk503) rfl rfl (XS.iconst X14.here hx rfl (B_ dk504) k_)) ?_
     show Go_ T14 (mkF mm_ 43 #[vi n, .val (.long q), .second] [(.int 5), (.ref b14), (.ref b14)])
     obtain ⟨T15, h15, k15, X15, e15, E15, A15, st15⟩ := newP X14 hx hZ (w_ hw 27 rfl) e14 (g := (mkF mm_ 43 #[vi n, .val (.long q), .second] [(.int 5), (.ref b14), (.ref b14)])) rfl (B_ dk505) rfl (by decide) (cap := 5) (by decide) (by decide) (by decide) (by decide)
     obtain ⟨b15, q15⟩ : ∃ z, z = h14.size := ⟨_, rfl⟩
     rw [← q15] at A15 st15
     have K16 : Keep h0 h14 [] := (K0.ext E14)
     have lo_b15 : h0.size ≤ b15 := Nat.le_trans K16.1 (Nat.le_of_eq q15.symm)
     have g_b15 : n0 ≤ b15 := Nat.le_trans Z0 lo_b15
     refine sp_ st15 ?_
     have V15 : Arv Z h15 b15 k15 .char (5 : Int32) [(.int 0), (.int 0), (.int 0), (.int 0), (.int 0)] (.int 0) := (Arv.new A15 (by decide)).pad (pad_rep [] (.int 0) 5)
     show Go_ T15 (mkF mm_ 45 #[vi n, .val (.long q), .second] [(.ref b15), (.ref b14), (.ref b14)])
     refine sp_ (fun t_ k_ => XS.dup X15.here hx rfl (B_ dk506) rfl rfl (XS.iconst X15.here hx rfl (B_ dk507) (XS.lloadN X15.here hx rfl (B_ dk508) rfl  k_))) ?_
     show Go_ T15 (mkF mm_ 48 #[vi n, .val (.long q), .second] [(.long q), (.int 0), (.ref b15), (.ref b15), (.ref b14), (.ref b14)])
     refine sp_ (fun t_ k_ => X15.ldc2Long hx hown (mvT hZ (w_ hw 8 rfl)) (g := (mkF mm_ 48 #[vi n, .val (.long q), .second] [(.long q), (.int 0), (.ref b15), (.ref b15), (.ref b14), (.ref b14)])) rfl (B_ dk509) t_ k_) ?_
     show Go_ T15 (mkF mm_ 51 #[vi n, .val (.long q), .second] [(.long (255 : Int64)), (.long q), (.int 0), (.ref b15), (.ref b15), (.ref b14), (.ref b14)])
     refine sp_ (fun t_ k_ => XS.land X15.here hx rfl (B_ dk510) rfl (XS.l2i X15.here hx rfl (B_ dk511) rfl k_)) ?_
     show Go_ T15 (mkF mm_ 53 #[vi n, .val (.long q), .second] [(.int ((q &&& (255 : Int64)).toInt32)), (.int 0), (.ref b15), (.ref b15), (.ref b14), (.ref b14)])
     refine sp_ (fun t_ k_ => XS.i2c X15.here hx rfl (B_ dk512) rfl (by rw [own_i2cL]; exact k_)) ?_
     show Go_ T15 (mkF mm_ 54 #[vi n, .val (.long q), .second] [(.int ((q &&& (255 : Int64)).toInt32)), (.int 0), (.ref b15), (.ref b15), (.ref b14), (.ref b14)])
     obtain ⟨cl17, Ar17, q17, S17, M17, H17, G17⟩ := id V15
     have hin17 : ¬ ((0 : Int32) < 0 ∨ cl17.slots.size ≤ ((0 : Int32)).toNatClampNeg) := inb_of S17 ⟨by decide, by decide⟩
     obtain ⟨T17, h17, X17, e17, W17, st17⟩ := stC X15 hx hZ e15 Ar17 (j := (0 : Int32)) hin17 (g := (mkF mm_ 54 #[vi n, .val (.long q), .second] [(.int ((q &&& (255 : Int64)).toInt32)), (.int 0), (.ref b15), (.ref b15), (.ref b14), (.ref b14)])) rfl rfl (B_ dk513)
     have V17 : Arv Z h17 b15 k15 .char (5 : Int32) [(.int ((q &&& (255 : Int64)).toInt32)), (.int 0), (.int 0), (.int 0), (.int 0)] (.int 0) := by
      have q := Arv.set Ar17 q17 S17 M17 H17 G17 (fits_nar_char _) W17 0 rfl (Nat.le_of_ble_eq_true rfl)
      rw [own_narL] at q
      exact q
     have N17 := Fr.snoc X17 N0 g_b15
     refine sp_ st17 ?_
     show Go_ T17 (mkF mm_ 55 #[vi n, .val (.long q), .second] [(.ref b15), (.ref b14), (.ref b14)])
     refine sp_ (fun t_ k_ => XS.dup X17.here hx rfl (B_ dk514) rfl rfl (XS.iconst X17.here hx rfl (B_ dk515) (XS.lloadN X17.here hx rfl (B_ dk516) rfl  (XS.bipush X17.here hx rfl (B_ dk517) (XS.lushr X17.here hx rfl (B_ dk518) rfl k_))))) ?_
     show Go_ T17 (mkF mm_ 61 #[vi n, .val (.long q), .second] [(.long ((q.toUInt64 >>> ((8 : Int32) &&& 0x3f).toInt64.toUInt64).toInt64)), (.int 1), (.ref b15), (.ref b15), (.ref b14), (.ref b14)])
     refine sp_ (fun t_ k_ => X17.ldc2Long hx hown (mvT hZ (w_ hw 8 rfl)) (g := (mkF mm_ 61 #[vi n, .val (.long q), .second] [(.long ((q.toUInt64 >>> ((8 : Int32) &&& 0x3f).toInt64.toUInt64).toInt64)), (.int 1), (.ref b15), (.ref b15), (.ref b14), (.ref b14)])) rfl (B_ dk519) t_ k_) ?_
     show Go_ T17 (mkF mm_ 64 #[vi n, .val (.long q), .second] [(.long (255 : Int64)), (.long ((q.toUInt64 >>> ((8 : Int32) &&& 0x3f).toInt64.toUInt64).toInt64)), (.int 1), (.ref b15), (.ref b15), (.ref b14), (.ref b14)])
     refine sp_ (fun t_ k_ => XS.land X17.here hx rfl (B_ dk520) rfl (XS.l2i X17.here hx rfl (B_ dk521) rfl k_)) ?_
     show Go_ T17 (mkF mm_ 66 #[vi n, .val (.long q), .second] [(.int ((((q.toUInt64 >>> ((8 : Int32) &&& 0x3f).toInt64.toUInt64).toInt64) &&& (255 : Int64)).toInt32)), (.int 1), (.ref b15), (.ref b15), (.ref b14), (.ref b14)])
     refine sp_ (fun t_ k_ => XS.i2c X17.here hx rfl (B_ dk522) rfl (by rw [own_i2cL]; exact k_)) ?_
     show Go_ T17 (mkF mm_ 67 #[vi n, .val (.long q), .second] [(.int ((((q.toUInt64 >>> ((8 : Int32) &&& 0x3f).toInt64.toUInt64).toInt64) &&& (255 : Int64)).toInt32)), (.int 1), (.ref b15), (.ref b15), (.ref b14), (.ref b14)])
     obtain ⟨cl18, Ar18, q18, S18, M18, H18, G18⟩ := id V17
     have hin18 : ¬ ((1 : Int32) < 0 ∨ cl18.slots.size ≤ ((1 : Int32)).toNatClampNeg) := inb_of S18 ⟨by decide, by decide⟩
     obtain ⟨T18, h18, X18, e18, W18, st18⟩ := stC X17 hx hZ e17 Ar18 (j := (1 : Int32)) hin18 (g := (mkF mm_ 67 #[vi n, .val (.long q), .second] [(.int ((((q.toUInt64 >>> ((8 : Int32) &&& 0x3f).toInt64.toUInt64).toInt64) &&& (255 : Int64)).toInt32)), (.int 1), (.ref b15), (.ref b15), (.ref b14), (.ref b14)])) rfl rfl (B_ dk523)
     have V18 : Arv Z h18 b15 k15 .char (5 : Int32) [(.int ((q &&& (255 : Int64)).toInt32)), (.int ((((q.toUInt64 >>> ((8 : Int32) &&& 0x3f).toInt64.toUInt64).toInt64) &&& (255 : Int64)).toInt32)), (.int 0), (.int 0), (.int 0)] (.int 0) := by
      have q := Arv.set Ar18 q18 S18 M18 H18 G18 (fits_nar_char _) W18 1 rfl (Nat.le_of_ble_eq_true rfl)
      rw [own_narL] at q
      exact q
     have N18 := Fr.snoc X18 N17 g_b15
     refine sp_ st18 ?_
     show Go_ T18 (mkF mm_ 68 #[vi n, .val (.long q), .second] [(.ref b15), (.ref b14), (.ref b14)])
     refine sp_ (fun t_ k_ => XS.dup X18.here hx rfl (B_ dk524) rfl rfl (XS.iconst X18.here hx rfl (B_ dk525) (XS.lloadN X18.here hx rfl (B_ dk526) rfl  (XS.bipush X18.here hx rfl (B_ dk527) (XS.lushr X18.here hx rfl (B_ dk528) rfl k_))))) ?_
     show Go_ T18 (mkF mm_ 74 #[vi n, .val (.long q), .second] [(.long ((q.toUInt64 >>> ((16 : Int32) &&& 0x3f).toInt64.toUInt64).toInt64)), (.int 2), (.ref b15), (.ref b15), (.ref b14), (.ref b14)])
     refine sp_ (fun t_ k_ => X18.ldc2Long hx hown (mvT hZ (w_ hw 8 rfl)) (g := (mkF mm_ 74 #[vi n, .val (.long q), .second] [(.long ((q.toUInt64 >>> ((16 : Int32) &&& 0x3f).toInt64.toUInt64).toInt64)), (.int 2), (.ref b15), (.ref b15), (.ref b14), (.ref b14)])) rfl (B_ dk529) t_ k_) ?_
     show Go_ T18 (mkF mm_ 77 #[vi n, .val (.long q), .second] [(.long (255 : Int64)), (.long ((q.toUInt64 >>> ((16 : Int32) &&& 0x3f).toInt64.toUInt64).toInt64)), (.int 2), (.ref b15), (.ref b15), (.ref b14), (.ref b14)])
     refine sp_ (fun t_ k_ => XS.land X18.here hx rfl (B_ dk530) rfl (XS.l2i X18.here hx rfl (B_ dk531) rfl k_)) ?_
     show Go_ T18 (mkF mm_ 79 #[vi n, .val (.long q), .second] [(.int ((((q.toUInt64 >>> ((16 : Int32) &&& 0x3f).toInt64.toUInt64).toInt64) &&& (255 : Int64)).toInt32)), (.int 2), (.ref b15), (.ref b15), (.ref b14), (.ref b14)])
     refine sp_ (fun t_ k_ => XS.i2c X18.here hx rfl (B_ dk532) rfl (by rw [own_i2cL]; exact k_)) ?_
     show Go_ T18 (mkF mm_ 80 #[vi n, .val (.long q), .second] [(.int ((((q.toUInt64 >>> ((16 : Int32) &&& 0x3f).toInt64.toUInt64).toInt64) &&& (255 : Int64)).toInt32)), (.int 2), (.ref b15), (.ref b15), (.ref b14), (.ref b14)])
     obtain ⟨cl19, Ar19, q19, S19, M19, H19, G19⟩ := id V18
     have hin19 : ¬ ((2 : Int32) < 0 ∨ cl19.slots.size ≤ ((2 : Int32)).toNatClampNeg) := inb_of S19 ⟨by decide, by decide⟩
     obtain ⟨T19, h19, X19, e19, W19, st19⟩ := stC X18 hx hZ e18 Ar19 (j := (2 : Int32)) hin19 (g := (mkF mm_ 80 #[vi n, .val (.long q), .second] [(.int ((((q.toUInt64 >>> ((16 : Int32) &&& 0x3f).toInt64.toUInt64).toInt64) &&& (255 : Int64)).toInt32)), (.int 2), (.ref b15), (.ref b15), (.ref b14), (.ref b14)])) rfl rfl (B_ dk533)
     have V19 : Arv Z h19 b15 k15 .char (5 : Int32) [(.int ((q &&& (255 : Int64)).toInt32)), (.int ((((q.toUInt64 >>> ((8 : Int32) &&& 0x3f).toInt64.toUInt64).toInt64) &&& (255 : Int64)).toInt32)), (.int ((((q.toUInt64 >>> ((16 : Int32) &&& 0x3f).toInt64.toUInt64).toInt64) &&& (255 : Int64)).toInt32)), (.int 0), (.int 0)] (.int 0) := by
      have q := Arv.set Ar19 q19 S19 M19 H19 G19 (fits_nar_char _) W19 2 rfl (Nat.le_of_ble_eq_true rfl)
      rw [own_narL] at q
      exact q
     have N19 := Fr.snoc X19 N18 g_b15
     refine sp_ st19 ?_
     show Go_ T19 (mkF mm_ 81 #[vi n, .val (.long q), .second] [(.ref b15), (.ref b14), (.ref b14)])
     refine sp_ (fun t_ k_ => XS.dup X19.here hx rfl (B_ dk534) rfl rfl (XS.iconst X19.here hx rfl (B_ dk535) (XS.lloadN X19.here hx rfl (B_ dk536) rfl  (XS.bipush X19.here hx rfl (B_ dk537) (XS.lushr X19.here hx rfl (B_ dk538) rfl k_))))) ?_
     show Go_ T19 (mkF mm_ 87 #[vi n, .val (.long q), .second] [(.long ((q.toUInt64 >>> ((24 : Int32) &&& 0x3f).toInt64.toUInt64).toInt64)), (.int 3), (.ref b15), (.ref b15), (.ref b14), (.ref b14)])
     refine sp_ (fun t_ k_ => X19.ldc2Long hx hown (mvT hZ (w_ hw 8 rfl)) (g := (mkF mm_ 87 #[vi n, .val (.long q), .second] [(.long ((q.toUInt64 >>> ((24 : Int32) &&& 0x3f).toInt64.toUInt64).toInt64)), (.int 3), (.ref b15), (.ref b15), (.ref b14), (.ref b14)])) rfl (B_ dk539) t_ k_) ?_
     show Go_ T19 (mkF mm_ 90 #[vi n, .val (.long q), .second] [(.long (255 : Int64)), (.long ((q.toUInt64 >>> ((24 : Int32) &&& 0x3f).toInt64.toUInt64).toInt64)), (.int 3), (.ref b15), (.ref b15), (.ref b14), (.ref b14)])
     refine sp_ (fun t_ k_ => XS.land X19.here hx rfl (B_ dk540) rfl (XS.l2i X19.here hx rfl (B_ dk541) rfl k_)) ?_
     show Go_ T19 (mkF mm_ 92 #[vi n, .val (.long q), .second] [(.int ((((q.toUInt64 >>> ((24 : Int32) &&& 0x3f).toInt64.toUInt64).toInt64) &&& (255 : Int64)).toInt32)), (.int 3), (.ref b15), (.ref b15), (.ref b14), (.ref b14)])
     refine sp_ (fun t_ k_ => XS.i2c X19.here hx rfl (B_ dk542) rfl (by rw [own_i2cL]; exact k_)) ?_
     show Go_ T19 (mkF mm_ 93 #[vi n, .val (.long q), .second] [(.int ((((q.toUInt64 >>> ((24 : Int32) &&& 0x3f).toInt64.toUInt64).toInt64) &&& (255 : Int64)).toInt32)), (.int 3), (.ref b15), (.ref b15), (.ref b14), (.ref b14)])
     obtain ⟨cl20, Ar20, q20, S20, M20, H20, G20⟩ := id V19
     have hin20 : ¬ ((3 : Int32) < 0 ∨ cl20.slots.size ≤ ((3 : Int32)).toNatClampNeg) := inb_of S20 ⟨by decide, by decide⟩
     obtain ⟨T20, h20, X20, e20, W20, st20⟩ := stC X19 hx hZ e19 Ar20 (j := (3 : Int32)) hin20 (g := (mkF mm_ 93 #[vi n, .val (.long q), .second] [(.int ((((q.toUInt64 >>> ((24 : Int32) &&& 0x3f).toInt64.toUInt64).toInt64) &&& (255 : Int64)).toInt32)), (.int 3), (.ref b15), (.ref b15), (.ref b14), (.ref b14)])) rfl rfl (B_ dk543)
     have V20 : Arv Z h20 b15 k15 .char (5 : Int32) [(.int ((q &&& (255 : Int64)).toInt32)), (.int ((((q.toUInt64 >>> ((8 : Int32) &&& 0x3f).toInt64.toUInt64).toInt64) &&& (255 : Int64)).toInt32)), (.int ((((q.toUInt64 >>> ((16 : Int32) &&& 0x3f).toInt64.toUInt64).toInt64) &&& (255 : Int64)).toInt32)), (.int ((((q.toUInt64 >>> ((24 : Int32) &&& 0x3f).toInt64.toUInt64).toInt64) &&& (255 : Int64)).toInt32)), (.int 0)] (.int 0) := by
      have q := Arv.set Ar20 q20 S20 M20 H20 G20 (fits_nar_char _) W20 3 rfl (Nat.le_of_ble_eq_true rfl)
      rw [own_narL] at q
      exact q
     have N20 := Fr.snoc X20 N19 g_b15
     refine sp_ st20 ?_
     show Go_ T20 (mkF mm_ 94 #[vi n, .val (.long q), .second] [(.ref b15), (.ref b14), (.ref b14)])
     refine sp_ (fun t_ k_ => XS.dup X20.here hx rfl (B_ dk544) rfl rfl (XS.iconst X20.here hx rfl (B_ dk545) (XS.lloadN X20.here hx rfl (B_ dk546) rfl  (XS.bipush X20.here hx rfl (B_ dk547) (XS.lushr X20.here hx rfl (B_ dk548) rfl k_))))) ?_
     show Go_ T20 (mkF mm_ 100 #[vi n, .val (.long q), .second] [(.long ((q.toUInt64 >>> ((32 : Int32) &&& 0x3f).toInt64.toUInt64).toInt64)), (.int 4), (.ref b15), (.ref b15), (.ref b14), (.ref b14)])
     refine sp_ (fun t_ k_ => X20.ldc2Long hx hown (mvT hZ (w_ hw 8 rfl)) (g := (mkF mm_ 100 #[vi n, .val (.long q), .second] [(.long ((q.toUInt64 >>> ((32 : Int32) &&& 0x3f).toInt64.toUInt64).toInt64)), (.int 4), (.ref b15), (.ref b15), (.ref b14), (.ref b14)])) rfl (B_ dk549) t_ k_) ?_
     show Go_ T20 (mkF mm_ 103 #[vi n, .val (.long q), .second] [(.long (255 : Int64)), (.long ((q.toUInt64 >>> ((32 : Int32) &&& 0x3f).toInt64.toUInt64).toInt64)), (.int 4), (.ref b15), (.ref b15), (.ref b14), (.ref b14)])
     refine sp_ (fun t_ k_ => XS.land X20.here hx rfl (B_ dk550) rfl (XS.l2i X20.here hx rfl (B_ dk551) rfl k_)) ?_
     show Go_ T20 (mkF mm_ 105 #[vi n, .val (.long q), .second] [(.int ((((q.toUInt64 >>> ((32 : Int32) &&& 0x3f).toInt64.toUInt64).toInt64) &&& (255 : Int64)).toInt32)), (.int 4), (.ref b15), (.ref b15), (.ref b14), (.ref b14)])
     refine sp_ (fun t_ k_ => XS.i2c X20.here hx rfl (B_ dk552) rfl (by rw [own_i2cL]; exact k_)) ?_
     show Go_ T20 (mkF mm_ 106 #[vi n, .val (.long q), .second] [(.int ((((q.toUInt64 >>> ((32 : Int32) &&& 0x3f).toInt64.toUInt64).toInt64) &&& (255 : Int64)).toInt32)), (.int 4), (.ref b15), (.ref b15), (.ref b14), (.ref b14)])
     obtain ⟨cl21, Ar21, q21, S21, M21, H21, G21⟩ := id V20
     have hin21 : ¬ ((4 : Int32) < 0 ∨ cl21.slots.size ≤ ((4 : Int32)).toNatClampNeg) := inb_of S21 ⟨by decide, by decide⟩
     obtain ⟨T21, h21, X21, e21, W21, st21⟩ := stC X20 hx hZ e20 Ar21 (j := (4 : Int32)) hin21 (g := (mkF mm_ 106 #[vi n, .val (.long q), .second] [(.int ((((q.toUInt64 >>> ((32 : Int32) &&& 0x3f).toInt64.toUInt64).toInt64) &&& (255 : Int64)).toInt32)), (.int 4), (.ref b15), (.ref b15), (.ref b14), (.ref b14)])) rfl rfl (B_ dk553)
     have V21 : Arv Z h21 b15 k15 .char (5 : Int32) [(.int ((q &&& (255 : Int64)).toInt32)), (.int ((((q.toUInt64 >>> ((8 : Int32) &&& 0x3f).toInt64.toUInt64).toInt64) &&& (255 : Int64)).toInt32)), (.int ((((q.toUInt64 >>> ((16 : Int32) &&& 0x3f).toInt64.toUInt64).toInt64) &&& (255 : Int64)).toInt32)), (.int ((((q.toUInt64 >>> ((24 : Int32) &&& 0x3f).toInt64.toUInt64).toInt64) &&& (255 : Int64)).toInt32)), (.int ((((q.toUInt64 >>> ((32 : Int32) &&& 0x3f).toInt64.toUInt64).toInt64) &&& (255 : Int64)).toInt32))] (.int 0) := by
      have q := Arv.set Ar21 q21 S21 M21 H21 G21 (fits_nar_char _) W21 4 rfl (Nat.le_of_ble_eq_true rfl)
      rw [own_narL] at q
      exact q
     have N21 := Fr.snoc X21 N20 g_b15
     refine sp_ st21 ?_
     show Go_ T21 (mkF mm_ 107 #[vi n, .val (.long q), .second] [(.ref b15), (.ref b14), (.ref b14)])
     have hp23 : ∀ ch_ ∈ ([((q &&& (255 : Int64)).toInt32), ((((q.toUInt64 >>> ((8 : Int32) &&& 0x3f).toInt64.toUInt64).toInt64) &&& (255 : Int64)).toInt32), ((((q.toUInt64 >>> ((16 : Int32) &&& 0x3f).toInt64.toUInt64).toInt64) &&& (255 : Int64)).toInt32), ((((q.toUInt64 >>> ((24 : Int32) &&& 0x3f).toInt64.toUInt64).toInt64) &&& (255 : Int64)).toInt32), ((((q.toUInt64 >>> ((32 : Int32) &&& 0x3f).toInt64.toUInt64).toInt64) &&& (255 : Int64)).toInt32)] : List Int32), ¬ ch_ < 0 ∧ ¬ (255 : Int32) < ch_ := by
      intro ch_ hc
      simp only [List.mem_cons, List.not_mem_nil, or_false] at hc
      rcases hc with rfl | rfl | rfl | rfl | rfl
      · exact own_sgL _
      · exact own_sgL _
      · exact own_sgL _
      · exact own_sgL _
      · exact own_sgL _
     have f24 : Exa Z h21 b14 sc0 := ((((((A14.ext E15).wr W17).wr W18).wr W19).wr W20).wr W21)
     have f25 : Fld Z h21 b14 sc0 "value" "[B" .null := ((((((F14_value.ext E15).other W17 (Or.inl (Nat.ne_of_lt (Nat.lt_of_lt_of_le A14.lt (Nat.le_of_eq q15.symm))))).other W18 (Or.inl (Nat.ne_of_lt (Nat.lt_of_lt_of_le A14.lt (Nat.le_of_eq q15.symm))))).other W19 (Or.inl (Nat.ne_of_lt (Nat.lt_of_lt_of_le A14.lt (Nat.le_of_eq q15.symm))))).other W20 (Or.inl (Nat.ne_of_lt (Nat.lt_of_lt_of_le A14.lt (Nat.le_of_eq q15.symm))))).other W21 (Or.inl (Nat.ne_of_lt (Nat.lt_of_lt_of_le A14.lt (Nat.le_of_eq q15.symm)))))
     have f26 : Fld Z h21 b14 sc0 "coder" "B" (.int 0) := ((((((F14_coder.ext E15).other W17 (Or.inl (Nat.ne_of_lt (Nat.lt_of_lt_of_le A14.lt (Nat.le_of_eq q15.symm))))).other W18 (Or.inl (Nat.ne_of_lt (Nat.lt_of_lt_of_le A14.lt (Nat.le_of_eq q15.symm))))).other W19 (Or.inl (Nat.ne_of_lt (Nat.lt_of_lt_of_le A14.lt (Nat.le_of_eq q15.symm))))).other W20 (Or.inl (Nat.ne_of_lt (Nat.lt_of_lt_of_le A14.lt (Nat.le_of_eq q15.symm))))).other W21 (Or.inl (Nat.ne_of_lt (Nat.lt_of_lt_of_le A14.lt (Nat.le_of_eq q15.symm)))))
     have O27 : Old Z n0 h21 := (((((((O0.ext E14).ext E15).wr W17 g_b15).wr W18 g_b15).wr W19 g_b15).wr W20 g_b15).wr W21 g_b15)
     have K28 : Keep h0 h21 [] := ((((((K16.ext E15).wr W17 (Or.inr lo_b15)).wr W18 (Or.inr lo_b15)).wr W19 (Or.inr lo_b15)).wr W20 (Or.inr lo_b15)).wr W21 (Or.inr lo_b15))
     obtain ⟨_, T22, Lc22, X22, hQ22, st22⟩ := own_cI X21 hx hZ rfl hown (w_ hw 53 rfl) (w_ hw 54 rfl) (w_ hw 55 rfl) (by decide) (own_newS (W := 1) hZ hw (cs := [((q &&& (255 : Int64)).toInt32), ((((q.toUInt64 >>> ((8 : Int32) &&& 0x3f).toInt64.toUInt64).toInt64) &&& (255 : Int64)).toInt32), ((((q.toUInt64 >>> ((16 : Int32) &&& 0x3f).toInt64.toUInt64).toInt64) &&& (255 : Int64)).toInt32), ((((q.toUInt64 >>> ((24 : Int32) &&& 0x3f).toInt64.toUInt64).toInt64) &&& (255 : Int64)).toInt32), ((((q.toUInt64 >>> ((32 : Int32) &&& 0x3f).toInt64.toUInt64).toInt64) &&& (255 : Int64)).toInt32)]) (n := 5) g_b14 (Nat.le_trans Z0 K28.1) f24 f25 f26 V21 (G_cs.ext O27.2) G_cs0 rfl rfl rfl (by decide) (by decide) hp23 (by decide) (by decide)) (g := (mkF mm_ 107 #[vi n, .val (.long q), .second] [(.ref b15), (.ref b14), (.ref b14)])) rfl hml.symm (a := b14) (argsL := [(.ref b15)]) (rest := [(.ref b14)]) (lenOf pd_9 rfl) rfl (Nat.le_of_eq rfl) (B_ dk554) rfl e21 (by decide) (by decide)
     obtain ⟨t22, rfl, Nq22, Kc22, lo22, Fs22⟩ := hQ22
     have N22 := Fr.app N21 Nq22
     have lo_t22 : h0.size ≤ t22 := Nat.le_trans K28.1 lo22
     have g_t22 : n0 ≤ t22 := Nat.le_trans Z0 lo_t22
     refine jp_ st22 ?_
     show Go_ T22 (mkF mm_ 110 #[vi n, .val (.long q), .second] [(.ref b14)])
     have K29 : Keep h0 T22.heap [] := (K28.trans Kc22 (allS (Or.inr lo_b14) all0))
     obtain ⟨fs, hr, hrun, hended, hEnd⟩ := X22.leaveW hS0 (Nat.le_trans (Nat.le_trans (Nat.le_trans (Nat.le_trans (Nat.le_trans (Nat.le_trans (Nat.le_trans (Nat.le_trans (Nat.zero_le _) E14.1) E15.1) (Keep.of_wr W17).1) (Keep.of_wr W18).1) (Keep.of_wr W19).1) (Keep.of_wr W20).1) (Keep.of_wr W21).1) Kc22.1) (v := some (.ref b14)) (rN Bd.returns)
     refine ⟨_, _, ?_, hrun, hended, _, _, rfl, ?_, own_IB_mono (own_IB_warm hI X22.warmed) (by intro t_ h_; first | exact h_ | exact List.mem_cons_of_mem _ h_ | (revert t_ h_; decide)), own_endMono hEnd (by decide) (by decide)⟩
     · jvm_step X22.here [X22.here.top, hx, (B_ dk555), X22.method', Bd.returns, Value.isRef, FieldType.isReference]
       first | (intro acts; rw [hr _ acts rfl rfl rfl]) | rw [hr _ _ rfl rfl rfl]
       exact Steps.refl _
     · show QrmDs Z n q tz h0 n0 (some (.ref b14)) T22.heap _
       exact ⟨b14, t22, [((q &&& (255 : Int64)).toInt32), ((((q.toUInt64 >>> ((8 : Int32) &&& 0x3f).toInt64.toUInt64).toInt64) &&& (255 : Int64)).toInt32), ((((q.toUInt64 >>> ((16 : Int32) &&& 0x3f).toInt64.toUInt64).toInt64) &&& (255 : Int64)).toInt32), ((((q.toUInt64 >>> ((24 : Int32) &&& 0x3f).toInt64.toUInt64).toInt64) &&& (255 : Int64)).toInt32), ((((q.toUInt64 >>> ((32 : Int32) &&& 0x3f).toInt64.toUInt64).toInt64) &&& (255 : Int64)).toInt32)], rfl, N22, K29, lo_b14, Fs22⟩
theorem pd_11 : parseMethodDescriptor "(Ljava/lang/String;)Lcom/example/vestwright/vestwright/census/Separation$Reason;" = some ⟨[(.object "java/lang/String")], some (.object "com/example/vestwright/vestwright/census/Separation$Reason")⟩ := by decide +kernel
theorem pd_12 : parseMethodDescriptor "(Ljava/lang/String;IC)Ljava/lang/String;" = some ⟨[(.object "java/lang/String"), .int, .char], some (.object "java/lang/String")⟩ := by decide +kernel
theorem pd_13 : parseMethodDescriptor "(Ljava/lang/String;C)Ljava/lang/String;" = some ⟨[(.object "java/lang/String"), .char], some (.object "java/lang/String")⟩ := by decide +kernel
theorem pd_14 : parseMethodDescriptor "(Ljava/lang/String;)Ljava/lang/String;" = some ⟨[(.object "java/lang/String")], some (.object "java/lang/String")⟩ := by decide +kernel
theorem pd_15 : parseMethodDescriptor "(IJ)Ljava/lang/String;" = some ⟨[.int, .long], some (.object "java/lang/String")⟩ := by decide +kernel
theorem ef_rm0 (mm_ : MethodId) (p1 : Int32) (p2 : Int32) (q3 : Int64) : entryFrame mm_ #[(.int p1), (.int p2), (.long q3)] maxLocals = (mkF mm_ 0 #[vi p1, vi p2, .val (.long q3), .second, un, un, un, un, un, un] []) := by first | (simp [entryFrame, mkF, argsToLocals, Value.category, maxLocals]; done) | rfl
def Qrm0 (Z : State) (p1 : Int32) (p2 : Int32) (q3 : Int64) (h0 : Heap) (n0 : Nat) (vv_ : Option Value) (hh_ : Heap) (LL_ : List Loc) : Prop := (vv_ = some (.int 1)) ∧ (Fr n0 LL_) ∧ (Keep h0 hh_ [])
theorem rm0 (l : Launch) (Z : State) (a0 : Array Value) (hw : own_Hw a0 Z) (ws : List Jvm.Cond) (p1 : Int32) (p2 : Int32) (q3 : Int64) {zc : Int32} {fm : Value} {w_0 : Addr} {w_1 : Addr} {w_2 : Addr} {w_3 : Addr} {wV : Addr} {kV : ClassId} {s_0 : Addr} {t_0 : Addr} {s_1 : Addr} {t_1 : Addr} {s_2 : Addr} {t_2 : Addr} {s_3 : Addr} {t_3 : Addr} (h0 : Heap) (n0 : Nat) (O0 : Old Z n0 h0) (G_ : own_St Z zc fm w_0 w_1 w_2 w_3 wV kV s_0 t_0 s_1 t_1 s_2 t_2 s_3 t_3) (hn0 : h0.size = n0) :
 MetFree l x (head1 (Jvm.Cond.code x code maxLocals ret :: ws) room_1) (fun aa_ UU_ => aa_ = #[(.int p1), (.int p2), (.long q3)] ∧ Z.Warmed39 UU_.vm ∧ UU_.heap = h0 ∧ (IB Z UU_.vm [])) (fun _ _ _ _ _ => True) (fun _ UU_ oo_ UV_ => ∃ vv_ LL_, oo_ = .returned vv_ ∧ Qrm0 Z p1 p2 q3 h0 n0 vv_ UV_.heap LL_ ∧ IB Z UV_.vm ["death", "disability", "retirement", "other", ""] ∧ ReturnedEndW UU_ oo_ UV_ LL_ room_1.cells room_1.slots) := by
 refine MetFree.of_bodySF (plainFor_of_name pn_com_example_vestwright_vestwright_census_ReasonOfPinLaw) hisR ?_
 intro pp_ ee_ ss_ mm_ args_ bb_ me_ cc_ s₁ Bd hml0 hP hK
 obtain ⟨rfl, hZ, hh, hI⟩ := hP
 have hx := Bd.exec
 have hby := Bd.bytes; have B_ {q_ : Nat} {r_ : _} (h_ : decode _ q_ = r_) := hb hby h_
 have hml : cc_.maxLocals = 10 := hml0
 have hown : ss_.vm.findClass sc1 = some mm_.cls := findClass_of_methodNamed Bd.named
 have hnm := (name_of_methodNamed Bd.named Bd.method).1
 have X0 : Stand pp_ l ee_ room_1 ss_ mm_ #[(.int p1), (.int p2), (.long q3)] bb_ me_ cc_ s₁ [] 0 0 := Stand.of_body Bd
 have e0 : s₁.heap = h0 := by rw [← hh, Bd.state]; rfl
 have N0 := Fr.nil n0
 have X0 : Stand pp_ l ee_ _ (ss_.setVm ss_.vm) mm_ _ bb_ me_ cc_ s₁ [] 0 0 := X0
 have hZ : Z.Warmed39 (ss_.setVm ss_.vm).vm := hZ
 have hown : (ss_.setVm ss_.vm).vm.findClass sc1 = some mm_.cls := hown
 have hS0 : ss_.Since ss_.vm 0 := (State.WarmedH.refl ss_).since 0
 have hkeep_ : ∀ (b : Addr) (cl : Cell), Z.heap[b]? = some cl → ss_.heap[b]? = some cl := by rw [hh]; exact O0.2.2
 have own_atoms_ : ∀ a ∈ Bundle.stringAtoms, a.before a0 Z = true := fun d hd => hw d ((by decide +kernel : ∀ d ∈ Bundle.stringAtoms, d ∈ tables_1) d hd)
 show own_Go pp_ ee_ bb_ _ s₁ (entryFrame mm_ #[(.int p1), (.int p2), (.long q3)] maxLocals)
 refine own_cast (ef_rm0 mm_ p1 p2 q3) ?_
 have Z0 : n0 ≤ h0.size := by have q := O0.2.1; rw [O0.1] at q; exact q
 have K0 : Keep h0 h0 [] := Keep.refl _ _
 obtain ⟨G_cs, G_cs0, G_fm, G_fr, G_S1, G_S2, G_S3, G_S4, G_S5, G_E6, G_E7, G_E8, G_E9, G_E10, G_V11, G_F12, G_T13, G_F17, G_T18, G_F22, G_T23, G_F27, G_T28, G_cw, G_h_com_example_vestwright_vestwright_census_ReasonOfPinLaw_7, G_h_com_example_vestwright_vestwright_census_ReasonOfPinLaw_9, G_h_com_example_vestwright_vestwright_census_ReasonOfPinLaw_11, G_h_com_example_vestwright_vestwright_census_ReasonOfPinLaw_13, G_h_java_lang_String_7⟩ := id G_
 have own_cw_ : Jvm.Lit.compactW.before a0 Z = true := G_cw
 have seg_t0n : ∀ (Ts_ : State) (locs_ : List Loc) (hs_ : Heap) (ki : Int32) (mo : Int32) (dc : Int32) (al : Addr) (tl : Addr) (vms_ : Vm) (ks_ : Nat) (Xs_ : Stand pp_ l ee_ room_1 (ss_.setVm vms_) mm_ #[(.int p1), (.int p2), (.long q3)] bb_ me_ cc_ Ts_ locs_ 16 2600) (es_ : Ts_.heap = hs_) (Ns_ : Fr n0 locs_) (Ks_ : Keep h0 hs_ []) (Os_ : Old Z n0 hs_) (hSs_ : ss_.Since vms_ ks_) (hks_ : ks_ ≤ hs_.size) (hZs_ : Z.Warmed39 (ss_.setVm vms_).vm) (howns_ : (ss_.setVm vms_).vm.findClass sc1 = some mm_.cls) (Is_ : IB Z vms_ ["death", ""]) (Lts0_ : Lit (ss_.setVm vms_) sc1 7 al) (sp0_ : own_Str Z hs_ al tl [(100 : Int32), (101 : Int32), (97 : Int32), (116 : Int32), (104 : Int32)]), own_Go pp_ ee_ bb_ (fun s₂ oo_ => s₂.status = .running ∧ Ended s₂ bb_ oo_ ∧ (∃ vv_ LL_, oo_ = .returned vv_ ∧ Qrm0 Z p1 p2 q3 h0 n0 vv_ s₂.heap LL_ ∧ IB Z s₂.vm ["death", "disability", "retirement", "other", ""] ∧ ReturnedEndW ss_ oo_ s₂ LL_ room_1.cells room_1.slots)) Ts_ (mkF mm_ 148 #[vi p1, vi p2, .val (.long q3), .second, vi ki, vi mo, vr al, vi dc, .val .null, un] []) := by
  intro Ts_ locs_ hs_ ki mo dc al tl vms_ ks_ Xs_ es_ Ns_ Ks_ Os_ hSs_ hks_ hZs_ howns_ Is_ Lts0_ sp0_
  show Go_ Ts_ (mkF mm_ 148 #[vi p1, vi p2, .val (.long q3), .second, vi ki, vi mo, vr al, vi dc, .val .null, un] [])
  refine sp_ (fun t_ k_ => XS.aload Xs_.here hx rfl (B_ at_148) rfl rfl k_) ?_
  show Go_ Ts_ (mkF mm_ 150 #[vi p1, vi p2, .val (.long q3), .second, vi ki, vi mo, vr al, vi dc, .val .null, un] [.null])
  obtain ⟨_, T1, Lc1, X1, hQ1, st1⟩ := own_cS Xs_ hx hZs_ howns_ (w_ hw 73 rfl) (w_ hw 74 rfl) (w_ hw 75 rfl) (w_ hw 76 rfl) (by decide) (backOf (W := 0) (rmOfN l Z a0 hw []  hs_ n0 Os_ G_ ) hZs_ (w_ hw 76 rfl) (w_ hw 75 rfl) (by decide) (by decide)) (g := (mkF mm_ 150 #[vi p1, vi p2, .val (.long q3), .second, vi ki, vi mo, vr al, vi dc, .val .null, un] [.null])) rfl hml.symm (argsL := [.null]) (rest := []) (lenOf pd_11 rfl) rfl (Nat.le_of_eq rfl) (B_ at_150) rfl es_ (by decide) (by decide)
  obtain ⟨rfl, Nq1, Kc1⟩ := hQ1
  have N1 := Fr.app Ns_ Nq1
  refine jp_ st1 ?_
  show Go_ T1 (mkF mm_ 153 #[vi p1, vi p2, .val (.long q3), .second, vi ki, vi mo, vr al, vi dc, .val .null, un] [.null])
  refine sp_ (fun t_ k_ => XS.astore X1.here hx rfl (B_ at_153) rfl rfl (l' := #[vi p1, vi p2, .val (.long q3), .second, vi ki, vi mo, vr al, vi dc, .val .null, .val .null]) rfl (XS.aload X1.here hx rfl (B_ at_155) rfl rfl (XS.aload X1.here hx rfl (B_ at_157) rfl rfl k_))) ?_
  show Go_ T1 (mkF mm_ 159 #[vi p1, vi p2, .val (.long q3), .second, vi ki, vi mo, vr al, vi dc, .val .null, .val .null] [.null, .null])
  have O3 : Old Z n0 T1.heap := (Os_.keep Kc1 all0)
  obtain ⟨_, T2, Lc2, X2, hQ2, st2⟩ := own_cS X1 hx hZs_ howns_ (w_ hw 107 rfl) (w_ hw 108 rfl) (w_ hw 11 rfl) (w_ hw 109 rfl) (by decide) (backOf (W := 1) (rmExN l Z a0 hw []  T1.heap n0 O3 ) hZs_ (w_ hw 109 rfl) (w_ hw 11 rfl) (by decide) (by decide)) (g := (mkF mm_ 159 #[vi p1, vi p2, .val (.long q3), .second, vi ki, vi mo, vr al, vi dc, .val .null, .val .null] [.null, .null])) rfl hml.symm (argsL := [.null]) (rest := [.null]) (lenOf pd_11 rfl) rfl (Nat.le_of_eq rfl) (B_ at_159) rfl rfl (by decide) (by decide)
  obtain ⟨rfl, rfl, Eh2⟩ := hQ2
  have N2 := Fr.app N1 (Fr.nil n0)
  refine jp_ st2 ?_
  show Go_ T2 (mkF mm_ 162 #[vi p1, vi p2, .val (.long q3), .second, vi ki, vi mo, vr al, vi dc, .val .null, .val .null] [.null, .null])
  refine sp_ (fun t_ k_ => Jvm.RoadKit.acmp (g := (mkF mm_ 162 #[vi p1, vi p2, .val (.long q3), .second, vi ki, vi mo, vr al, vi dc, .val .null, .val .null] [.null, .null])) X2 hx rfl rfl rfl (pc0 := 162) (pc' := 165) (same := true) rfl (B_ at_162) rfl (decide_eq_true rfl) (by decide) (by decide) (XS.iconst X2.here hx rfl (B_ at_165) (XS.goto X2.here hx rfl (pc0 := 166) (pc' := 170) rfl (B_ at_166) (by decide) (by decide) k_))) ?_
  show Go_ T2 (mkF mm_ 170 #[vi p1, vi p2, .val (.long q3), .second, vi ki, vi mo, vr al, vi dc, .val .null, .val .null] [(.int 1)])
  have K4 : Keep h0 T1.heap [] := (Ks_.trans Kc1 all0)
  obtain ⟨fs, hr, hrun, hended, hEnd⟩ := X2.leaveW hSs_ (by rw [Eh2]; exact (Nat.le_trans hks_ Kc1.1)) (v := some (.int 1)) (rN Bd.returns)
  refine ⟨_, _, ?_, hrun, hended, _, _, rfl, ?_, own_IB_mono (own_IB_warm Is_ X2.warmed) (by intro t_ h_; first | exact h_ | exact List.mem_cons_of_mem _ h_ | (revert t_ h_; decide)), own_endMono hEnd (by decide) (by decide)⟩
  · exact retN X2 hx (t := .boolean) Bd.returns (by simp) (B_ at_170) hr
  · show Qrm0 Z p1 p2 q3 h0 n0 (some (.int 1)) T2.heap _
    rw [Eh2]
    exact ⟨rfl, N2, K4⟩
 have seg_t0s : ∀ (Ts_ : State) (locs_ : List Loc) (hs_ : Heap) (ki : Int32) (mo : Int32) (dc : Int32) (al : Addr) (tl : Addr) (inp : Addr) (ti : Addr) (cs : List Int32) (vms_ : Vm) (ks_ : Nat) (Xs_ : Stand pp_ l ee_ room_1 (ss_.setVm vms_) mm_ #[(.int p1), (.int p2), (.long q3)] bb_ me_ cc_ Ts_ locs_ 16 2600) (es_ : Ts_.heap = hs_) (Ns_ : Fr n0 locs_) (Ks_ : Keep h0 hs_ []) (Os_ : Old Z n0 hs_) (hSs_ : ss_.Since vms_ ks_) (hks_ : ks_ ≤ hs_.size) (hZs_ : Z.Warmed39 (ss_.setVm vms_).vm) (howns_ : (ss_.setVm vms_).vm.findClass sc1 = some mm_.cls) (Is_ : IB Z vms_ ["death", ""]) (Lts0_ : Lit (ss_.setVm vms_) sc1 7 al) (sp0_ : own_Str Z hs_ al tl [(100 : Int32), (101 : Int32), (97 : Int32), (116 : Int32), (104 : Int32)]) (sp1_ : own_Str Z hs_ inp ti cs), own_Go pp_ ee_ bb_ (fun s₂ oo_ => s₂.status = .running ∧ Ended s₂ bb_ oo_ ∧ (∃ vv_ LL_, oo_ = .returned vv_ ∧ Qrm0 Z p1 p2 q3 h0 n0 vv_ s₂.heap LL_ ∧ IB Z s₂.vm ["death", "disability", "retirement", "other", ""] ∧ ReturnedEndW ss_ oo_ s₂ LL_ room_1.cells room_1.slots)) Ts_ (mkF mm_ 148 #[vi p1, vi p2, .val (.long q3), .second, vi ki, vi mo, vr al, vi dc, vr inp, un] []) := by
  intro Ts_ locs_ hs_ ki mo dc al tl inp ti cs vms_ ks_ Xs_ es_ Ns_ Ks_ Os_ hSs_ hks_ hZs_ howns_ Is_ Lts0_ sp0_ sp1_
  show Go_ Ts_ (mkF mm_ 148 #[vi p1, vi p2, .val (.long q3), .second, vi ki, vi mo, vr al, vi dc, vr inp, un] [])
  by_cases hw0 : cs = [(100 : Int32), (101 : Int32), (97 : Int32), (116 : Int32), (104 : Int32)]
  · skip
    refine sp_ (fun t_ k_ => XS.aload Xs_.here hx rfl (B_ at_148) rfl rfl k_) ?_
    show Go_ Ts_ (mkF mm_ 150 #[vi p1, vi p2, .val (.long q3), .second, vi ki, vi mo, vr al, vi dc, vr inp, un] [(.ref inp)])
    obtain ⟨_, T5, Lc5, X5, hQ5, st5⟩ := own_cS Xs_ hx hZs_ howns_ (w_ hw 73 rfl) (w_ hw 74 rfl) (w_ hw 75 rfl) (w_ hw 76 rfl) (by decide) (backOf (W := 0) (rmOf l Z a0 hw [] inp ti [(100 : Int32), (101 : Int32), (97 : Int32), (116 : Int32), (104 : Int32)] hs_ n0 Os_ G_ (sp1_.cast hw0)) hZs_ (w_ hw 76 rfl) (w_ hw 75 rfl) (by decide) (by decide)) (g := (mkF mm_ 150 #[vi p1, vi p2, .val (.long q3), .second, vi ki, vi mo, vr al, vi dc, vr inp, un] [(.ref inp)])) rfl hml.symm (argsL := [(.ref inp)]) (rest := []) (lenOf pd_11 rfl) rfl (Nat.le_of_eq rfl) (B_ at_150) rfl es_ (by decide) (by decide)
    obtain ⟨v_5, rfl, Nq5, Kc5, r5_0⟩ := hQ5
    have N5 := Fr.app Ns_ Nq5
    refine jp_ st5 ?_
    obtain rfl : v_5 = .ref w_0 := r5_0.1 rfl
    show Go_ T5 (mkF mm_ 153 #[vi p1, vi p2, .val (.long q3), .second, vi ki, vi mo, vr al, vi dc, vr inp, un] [(.ref w_0)])
    refine sp_ (fun t_ k_ => XS.astore X5.here hx rfl (B_ at_153) rfl rfl (l' := #[vi p1, vi p2, .val (.long q3), .second, vi ki, vi mo, vr al, vi dc, vr inp, vr w_0]) rfl (XS.aload X5.here hx rfl (B_ at_155) rfl rfl (XS.aload X5.here hx rfl (B_ at_157) rfl rfl k_))) ?_
    show Go_ T5 (mkF mm_ 159 #[vi p1, vi p2, .val (.long q3), .second, vi ki, vi mo, vr al, vi dc, vr inp, vr w_0] [(.ref inp), (.ref w_0)])
    have f7 : own_Str Z T5.heap inp ti [(100 : Int32), (101 : Int32), (97 : Int32), (116 : Int32), (104 : Int32)] := ((sp1_.cast hw0).keep Kc5 nin0 nin0)
    have f8 : own_Str Z T5.heap al tl [(100 : Int32), (101 : Int32), (97 : Int32), (116 : Int32), (104 : Int32)] := (sp0_.keep Kc5 nin0 nin0)
    have O9 : Old Z n0 T5.heap := (Os_.keep Kc5 all0)
    obtain ⟨_, _, ⟨T6, Lx6, kx6, nx6⟩, -, X6, hS6, hG6, ⟨Lc6, hQ6, l6, y6, z6⟩, st6⟩ := Jvm.RoadKit.callSS X5 hx (y := ym0) howns_ (mvT hZs_ (w_ hw 107 rfl)) (mvT hZs_ (w_ hw 108 rfl)) (mvT hZs_ (w_ hw 11 rfl)) (mvT hZs_ (w_ hw 109 rfl)) (by decide) (own_backI (J := fun q_ => IB Z q_ ["death", ""] ∧ Lit (Z.setVm q_) sc1 7 al) (J' := fun q_ => IB Z q_ ["death", "disability", "retirement", "other", ""]) (W := 1) (rmEx0 l Z a0 hw [] inp ti [(100 : Int32), (101 : Int32), (97 : Int32), (116 : Int32), (104 : Int32)] al tl T5.heap n0 O9 G_ f7 f8) hZs_ (w_ hw 109 rfl) (w_ hw 11 rfl) (by decide) (by decide)) (g := (mkF mm_ 159 #[vi p1, vi p2, .val (.long q3), .second, vi ki, vi mo, vr al, vi dc, vr inp, vr w_0] [(.ref inp), (.ref w_0)])) rfl hml.symm (argsL := [(.ref inp)]) (rest := [(.ref w_0)]) (lenOf pd_11 rfl) rfl (Nat.le_of_eq rfl) (B_ at_159) (fun vm_ hvm_ => ⟨rfl, rfl, (by decide : 17 + 6 ≤ _), (by decide : 2604 + 112 ≤ _), ⟨own_IB_mono (own_IB_warm Is_ hvm_) (by intro t_ h_; first | exact h_ | exact List.mem_cons_of_mem _ h_ | (revert t_ h_; decide)), Lit.stays Lts0_ hvm_.wide⟩⟩)
    dsimp only [Pt.U, Pt.locs, Pt.cells, Pt.slots] at X6 l6 y6 z6 st6 hQ6 hS6 hG6
    subst l6 y6 z6
    have Lk10 := Lit.stays Lts0_ hS6.1
    obtain ⟨X6, hS6, hZ6, hown6⟩ := rebS (n1 := T5.heap.size) hSs_ (Nat.le_trans hks_ Kc5.1) X6 hS6 hG6 hZs_ howns_
    obtain ⟨hQ6, hIq6⟩ := hQ6
    obtain ⟨v_6, rfl, Nq6, Kc6, r6_0⟩ := hQ6
    have N6 := Fr.app N5 Nq6
    refine jp_ st6 ?_
    obtain rfl : v_6 = .ref w_0 := r6_0.1 rfl
    show Go_ T6 (mkF mm_ 162 #[vi p1, vi p2, .val (.long q3), .second, vi ki, vi mo, vr al, vi dc, vr inp, vr w_0] [(.ref w_0), (.ref w_0)])
    refine sp_ (fun t_ k_ => Jvm.RoadKit.acmp (g := (mkF mm_ 162 #[vi p1, vi p2, .val (.long q3), .second, vi ki, vi mo, vr al, vi dc, vr inp, vr w_0] [(.ref w_0), (.ref w_0)])) X6 hx rfl rfl rfl (pc0 := 162) (pc' := 165) (same := true) rfl (B_ at_162) rfl (decide_eq_true rfl) (by decide) (by decide) (XS.iconst X6.here hx rfl (B_ at_165) (XS.goto X6.here hx rfl (pc0 := 166) (pc' := 170) rfl (B_ at_166) (by decide) (by decide) k_))) ?_
    show Go_ T6 (mkF mm_ 170 #[vi p1, vi p2, .val (.long q3), .second, vi ki, vi mo, vr al, vi dc, vr inp, vr w_0] [(.int 1)])
    have K11 : Keep h0 T6.heap [] := ((Ks_.trans Kc5 all0).trans Kc6 all0)
    obtain ⟨fs, hr, hrun, hended, hEnd⟩ := X6.leaveW hS6 (Nat.le_refl _) (v := some (.int 1)) (rN Bd.returns)
    refine ⟨_, _, ?_, hrun, hended, _, _, rfl, ?_, own_IB_mono (own_IB_warm hIq6 X6.warmed) (by intro t_ h_; first | exact h_ | exact List.mem_cons_of_mem _ h_ | (revert t_ h_; decide)), own_endMono hEnd (by decide) (by decide)⟩
    · exact retN X6 hx (t := .boolean) Bd.returns (by simp) (B_ at_170) hr
    · show Qrm0 Z p1 p2 q3 h0 n0 (some (.int 1)) T6.heap _
      exact ⟨rfl, N6, K11⟩
  · skip
    by_cases hw1 : cs = [(100 : Int32), (105 : Int32), (115 : Int32), (97 : Int32), (98 : Int32), (105 : Int32), (108 : Int32), (105 : Int32), (116 : Int32), (121 : Int32)]
    · skip
      refine sp_ (fun t_ k_ => XS.aload Xs_.here hx rfl (B_ at_148) rfl rfl k_) ?_
      show Go_ Ts_ (mkF mm_ 150 #[vi p1, vi p2, .val (.long q3), .second, vi ki, vi mo, vr al, vi dc, vr inp, un] [(.ref inp)])
      obtain ⟨_, T12, Lc12, X12, hQ12, st12⟩ := own_cS Xs_ hx hZs_ howns_ (w_ hw 73 rfl) (w_ hw 74 rfl) (w_ hw 75 rfl) (w_ hw 76 rfl) (by decide) (backOf (W := 0) (rmOf l Z a0 hw [] inp ti [(100 : Int32), (105 : Int32), (115 : Int32), (97 : Int32), (98 : Int32), (105 : Int32), (108 : Int32), (105 : Int32), (116 : Int32), (121 : Int32)] hs_ n0 Os_ G_ (sp1_.cast hw1)) hZs_ (w_ hw 76 rfl) (w_ hw 75 rfl) (by decide) (by decide)) (g := (mkF mm_ 150 #[vi p1, vi p2, .val (.long q3), .second, vi ki, vi mo, vr al, vi dc, vr inp, un] [(.ref inp)])) rfl hml.symm (argsL := [(.ref inp)]) (rest := []) (lenOf pd_11 rfl) rfl (Nat.le_of_eq rfl) (B_ at_150) rfl es_ (by decide) (by decide)
      obtain ⟨v_12, rfl, Nq12, Kc12, r12_0⟩ := hQ12
      have N12 := Fr.app Ns_ Nq12
      refine jp_ st12 ?_
      obtain rfl : v_12 = .ref w_1 := r12_0.2.1 rfl
      show Go_ T12 (mkF mm_ 153 #[vi p1, vi p2, .val (.long q3), .second, vi ki, vi mo, vr al, vi dc, vr inp, un] [(.ref w_1)])
      refine sp_ (fun t_ k_ => XS.astore X12.here hx rfl (B_ at_153) rfl rfl (l' := #[vi p1, vi p2, .val (.long q3), .second, vi ki, vi mo, vr al, vi dc, vr inp, vr w_1]) rfl (XS.aload X12.here hx rfl (B_ at_155) rfl rfl (XS.aload X12.here hx rfl (B_ at_157) rfl rfl k_))) ?_
      show Go_ T12 (mkF mm_ 159 #[vi p1, vi p2, .val (.long q3), .second, vi ki, vi mo, vr al, vi dc, vr inp, vr w_1] [(.ref inp), (.ref w_1)])
      have f14 : own_Str Z T12.heap inp ti [(100 : Int32), (105 : Int32), (115 : Int32), (97 : Int32), (98 : Int32), (105 : Int32), (108 : Int32), (105 : Int32), (116 : Int32), (121 : Int32)] := ((sp1_.cast hw1).keep Kc12 nin0 nin0)
      have f15 : own_Str Z T12.heap al tl [(100 : Int32), (101 : Int32), (97 : Int32), (116 : Int32), (104 : Int32)] := (sp0_.keep Kc12 nin0 nin0)
      have O16 : Old Z n0 T12.heap := (Os_.keep Kc12 all0)
      obtain ⟨_, _, ⟨T13, Lx13, kx13, nx13⟩, -, X13, hS13, hG13, ⟨Lc13, hQ13, l13, y13, z13⟩, st13⟩ := Jvm.RoadKit.callSS X12 hx (y := ym0) howns_ (mvT hZs_ (w_ hw 107 rfl)) (mvT hZs_ (w_ hw 108 rfl)) (mvT hZs_ (w_ hw 11 rfl)) (mvT hZs_ (w_ hw 109 rfl)) (by decide) (own_backI (J := fun q_ => IB Z q_ ["death", ""] ∧ Lit (Z.setVm q_) sc1 7 al) (J' := fun q_ => IB Z q_ ["death", "disability", "retirement", "other", ""]) (W := 1) (rmEx0 l Z a0 hw [] inp ti [(100 : Int32), (105 : Int32), (115 : Int32), (97 : Int32), (98 : Int32), (105 : Int32), (108 : Int32), (105 : Int32), (116 : Int32), (121 : Int32)] al tl T12.heap n0 O16 G_ f14 f15) hZs_ (w_ hw 109 rfl) (w_ hw 11 rfl) (by decide) (by decide)) (g := (mkF mm_ 159 #[vi p1, vi p2, .val (.long q3), .second, vi ki, vi mo, vr al, vi dc, vr inp, vr w_1] [(.ref inp), (.ref w_1)])) rfl hml.symm (argsL := [(.ref inp)]) (rest := [(.ref w_1)]) (lenOf pd_11 rfl) rfl (Nat.le_of_eq rfl) (B_ at_159) (fun vm_ hvm_ => ⟨rfl, rfl, (by decide : 17 + 6 ≤ _), (by decide : 2604 + 112 ≤ _), ⟨own_IB_mono (own_IB_warm Is_ hvm_) (by intro t_ h_; first | exact h_ | exact List.mem_cons_of_mem _ h_ | (revert t_ h_; decide)), Lit.stays Lts0_ hvm_.wide⟩⟩)
      dsimp only [Pt.U, Pt.locs, Pt.cells, Pt.slots] at X13 l13 y13 z13 st13 hQ13 hS13 hG13
      subst l13 y13 z13
      have Lk17 := Lit.stays Lts0_ hS13.1
      obtain ⟨X13, hS13, hZ13, hown13⟩ := rebS (n1 := T12.heap.size) hSs_ (Nat.le_trans hks_ Kc12.1) X13 hS13 hG13 hZs_ howns_
      obtain ⟨hQ13, hIq13⟩ := hQ13
      obtain ⟨v_13, rfl, Nq13, Kc13, r13_0⟩ := hQ13
      have N13 := Fr.app N12 Nq13
      refine jp_ st13 ?_
      obtain rfl : v_13 = .ref w_1 := r13_0.2.1 rfl
      show Go_ T13 (mkF mm_ 162 #[vi p1, vi p2, .val (.long q3), .second, vi ki, vi mo, vr al, vi dc, vr inp, vr w_1] [(.ref w_1), (.ref w_1)])
      refine sp_ (fun t_ k_ => Jvm.RoadKit.acmp (g := (mkF mm_ 162 #[vi p1, vi p2, .val (.long q3), .second, vi ki, vi mo, vr al, vi dc, vr inp, vr w_1] [(.ref w_1), (.ref w_1)])) X13 hx rfl rfl rfl (pc0 := 162) (pc' := 165) (same := true) rfl (B_ at_162) rfl (decide_eq_true rfl) (by decide) (by decide) (XS.iconst X13.here hx rfl (B_ at_165) (XS.goto X13.here hx rfl (pc0 := 166) (pc' := 170) rfl (B_ at_166) (by decide) (by decide) k_))) ?_
      show Go_ T13 (mkF mm_ 170 #[vi p1, vi p2, .val (.long q3), .second, vi ki, vi mo, vr al, vi dc, vr inp, vr w_1] [(.int 1)])
      have K18 : Keep h0 T13.heap [] := ((Ks_.trans Kc12 all0).trans Kc13 all0)
      obtain ⟨fs, hr, hrun, hended, hEnd⟩ := X13.leaveW hS13 (Nat.le_refl _) (v := some (.int 1)) (rN Bd.returns)
      refine ⟨_, _, ?_, hrun, hended, _, _, rfl, ?_, own_IB_mono (own_IB_warm hIq13 X13.warmed) (by intro t_ h_; first | exact h_ | exact List.mem_cons_of_mem _ h_ | (revert t_ h_; decide)), own_endMono hEnd (by decide) (by decide)⟩
      · exact retN X13 hx (t := .boolean) Bd.returns (by simp) (B_ at_170) hr
      · show Qrm0 Z p1 p2 q3 h0 n0 (some (.int 1)) T13.heap _
        exact ⟨rfl, N13, K18⟩
    · skip
      by_cases hw2 : cs = [(114 : Int32), (101 : Int32), (116 : Int32), (105 : Int32), (114 : Int32), (101 : Int32), (109 : Int32), (101 : Int32), (110 : Int32), (116 : Int32)]
      · skip
        refine sp_ (fun t_ k_ => XS.aload Xs_.here hx rfl (B_ at_148) rfl rfl k_) ?_
        show Go_ Ts_ (mkF mm_ 150 #[vi p1, vi p2, .val (.long q3), .second, vi ki, vi mo, vr al, vi dc, vr inp, un] [(.ref inp)])
        obtain ⟨_, T19, Lc19, X19, hQ19, st19⟩ := own_cS Xs_ hx hZs_ howns_ (w_ hw 73 rfl) (w_ hw 74 rfl) (w_ hw 75 rfl) (w_ hw 76 rfl) (by decide) (backOf (W := 0) (rmOf l Z a0 hw [] inp ti [(114 : Int32), (101 : Int32), (116 : Int32), (105 : Int32), (114 : Int32), (101 : Int32), (109 : Int32), (101 : Int32), (110 : Int32), (116 : Int32)] hs_ n0 Os_ G_ (sp1_.cast hw2)) hZs_ (w_ hw 76 rfl) (w_ hw 75 rfl) (by decide) (by decide)) (g := (mkF mm_ 150 #[vi p1, vi p2, .val (.long q3), .second, vi ki, vi mo, vr al, vi dc, vr inp, un] [(.ref inp)])) rfl hml.symm (argsL := [(.ref inp)]) (rest := []) (lenOf pd_11 rfl) rfl (Nat.le_of_eq rfl) (B_ at_150) rfl es_ (by decide) (by decide)
        obtain ⟨v_19, rfl, Nq19, Kc19, r19_0⟩ := hQ19
        have N19 := Fr.app Ns_ Nq19
        refine jp_ st19 ?_
        obtain rfl : v_19 = .ref w_2 := r19_0.2.2.1 rfl
        show Go_ T19 (mkF mm_ 153 #[vi p1, vi p2, .val (.long q3), .second, vi ki, vi mo, vr al, vi dc, vr inp, un] [(.ref w_2)])
        refine sp_ (fun t_ k_ => XS.astore X19.here hx rfl (B_ at_153) rfl rfl (l' := #[vi p1, vi p2, .val (.long q3), .second, vi ki, vi mo, vr al, vi dc, vr inp, vr w_2]) rfl (XS.aload X19.here hx rfl (B_ at_155) rfl rfl (XS.aload X19.here hx rfl (B_ at_157) rfl rfl k_))) ?_
        show Go_ T19 (mkF mm_ 159 #[vi p1, vi p2, .val (.long q3), .second, vi ki, vi mo, vr al, vi dc, vr inp, vr w_2] [(.ref inp), (.ref w_2)])
        have f21 : own_Str Z T19.heap inp ti [(114 : Int32), (101 : Int32), (116 : Int32), (105 : Int32), (114 : Int32), (101 : Int32), (109 : Int32), (101 : Int32), (110 : Int32), (116 : Int32)] := ((sp1_.cast hw2).keep Kc19 nin0 nin0)
        have f22 : own_Str Z T19.heap al tl [(100 : Int32), (101 : Int32), (97 : Int32), (116 : Int32), (104 : Int32)] := (sp0_.keep Kc19 nin0 nin0)
        have O23 : Old Z n0 T19.heap := (Os_.keep Kc19 all0)
        obtain ⟨_, _, ⟨T20, Lx20, kx20, nx20⟩, -, X20, hS20, hG20, ⟨Lc20, hQ20, l20, y20, z20⟩, st20⟩ := Jvm.RoadKit.callSS X19 hx (y := ym0) howns_ (mvT hZs_ (w_ hw 107 rfl)) (mvT hZs_ (w_ hw 108 rfl)) (mvT hZs_ (w_ hw 11 rfl)) (mvT hZs_ (w_ hw 109 rfl)) (by decide) (own_backI (J := fun q_ => IB Z q_ ["death", ""] ∧ Lit (Z.setVm q_) sc1 7 al) (J' := fun q_ => IB Z q_ ["death", "disability", "retirement", "other", ""]) (W := 1) (rmEx0 l Z a0 hw [] inp ti [(114 : Int32), (101 : Int32), (116 : Int32), (105 : Int32), (114 : Int32), (101 : Int32), (109 : Int32), (101 : Int32), (110 : Int32), (116 : Int32)] al tl T19.heap n0 O23 G_ f21 f22) hZs_ (w_ hw 109 rfl) (w_ hw 11 rfl) (by decide) (by decide)) (g := (mkF mm_ 159 #[vi p1, vi p2, .val (.long q3), .second, vi ki, vi mo, vr al, vi dc, vr inp, vr w_2] [(.ref inp), (.ref w_2)])) rfl hml.symm (argsL := [(.ref inp)]) (rest := [(.ref w_2)]) (lenOf pd_11 rfl) rfl (Nat.le_of_eq rfl) (B_ at_159) (fun vm_ hvm_ => ⟨rfl, rfl, (by decide : 17 + 6 ≤ _), (by decide : 2604 + 112 ≤ _), ⟨own_IB_mono (own_IB_warm Is_ hvm_) (by intro t_ h_; first | exact h_ | exact List.mem_cons_of_mem _ h_ | (revert t_ h_; decide)), Lit.stays Lts0_ hvm_.wide⟩⟩)
        dsimp only [Pt.U, Pt.locs, Pt.cells, Pt.slots] at X20 l20 y20 z20 st20 hQ20 hS20 hG20
        subst l20 y20 z20
        have Lk24 := Lit.stays Lts0_ hS20.1
        obtain ⟨X20, hS20, hZ20, hown20⟩ := rebS (n1 := T19.heap.size) hSs_ (Nat.le_trans hks_ Kc19.1) X20 hS20 hG20 hZs_ howns_
        obtain ⟨hQ20, hIq20⟩ := hQ20
        obtain ⟨v_20, rfl, Nq20, Kc20, r20_0⟩ := hQ20
        have N20 := Fr.app N19 Nq20
        refine jp_ st20 ?_
        obtain rfl : v_20 = .ref w_2 := r20_0.2.2.1 rfl
        show Go_ T20 (mkF mm_ 162 #[vi p1, vi p2, .val (.long q3), .second, vi ki, vi mo, vr al, vi dc, vr inp, vr w_2] [(.ref w_2), (.ref w_2)])
        refine sp_ (fun t_ k_ => Jvm.RoadKit.acmp (g := (mkF mm_ 162 #[vi p1, vi p2, .val (.long q3), .second, vi ki, vi mo, vr al, vi dc, vr inp, vr w_2] [(.ref w_2), (.ref w_2)])) X20 hx rfl rfl rfl (pc0 := 162) (pc' := 165) (same := true) rfl (B_ at_162) rfl (decide_eq_true rfl) (by decide) (by decide) (XS.iconst X20.here hx rfl (B_ at_165) (XS.goto X20.here hx rfl (pc0 := 166) (pc' := 170) rfl (B_ at_166) (by decide) (by decide) k_))) ?_
        show Go_ T20 (mkF mm_ 170 #[vi p1, vi p2, .val (.long q3), .second, vi ki, vi mo, vr al, vi dc, vr inp, vr w_2] [(.int 1)])
        have K25 : Keep h0 T20.heap [] := ((Ks_.trans Kc19 all0).trans Kc20 all0)
        obtain ⟨fs, hr, hrun, hended, hEnd⟩ := X20.leaveW hS20 (Nat.le_refl _) (v := some (.int 1)) (rN Bd.returns)
        refine ⟨_, _, ?_, hrun, hended, _, _, rfl, ?_, own_IB_mono (own_IB_warm hIq20 X20.warmed) (by intro t_ h_; first | exact h_ | exact List.mem_cons_of_mem _ h_ | (revert t_ h_; decide)), own_endMono hEnd (by decide) (by decide)⟩
        · exact retN X20 hx (t := .boolean) Bd.returns (by simp) (B_ at_170) hr
        · show Qrm0 Z p1 p2 q3 h0 n0 (some (.int 1)) T20.heap _
          exact ⟨rfl, N20, K25⟩
      · skip
        by_cases hw3 : cs = [(111 : Int32), (116 : Int32), (104 : Int32), (101 : Int32), (114 : Int32)]
        · skip
          refine sp_ (fun t_ k_ => XS.aload Xs_.here hx rfl (B_ at_148) rfl rfl k_) ?_
          show Go_ Ts_ (mkF mm_ 150 #[vi p1, vi p2, .val (.long q3), .second, vi ki, vi mo, vr al, vi dc, vr inp, un] [(.ref inp)])
          obtain ⟨_, T26, Lc26, X26, hQ26, st26⟩ := own_cS Xs_ hx hZs_ howns_ (w_ hw 73 rfl) (w_ hw 74 rfl) (w_ hw 75 rfl) (w_ hw 76 rfl) (by decide) (backOf (W := 0) (rmOf l Z a0 hw [] inp ti [(111 : Int32), (116 : Int32), (104 : Int32), (101 : Int32), (114 : Int32)] hs_ n0 Os_ G_ (sp1_.cast hw3)) hZs_ (w_ hw 76 rfl) (w_ hw 75 rfl) (by decide) (by decide)) (g := (mkF mm_ 150 #[vi p1, vi p2, .val (.long q3), .second, vi ki, vi mo, vr al, vi dc, vr inp, un] [(.ref inp)])) rfl hml.symm (argsL := [(.ref inp)]) (rest := []) (lenOf pd_11 rfl) rfl (Nat.le_of_eq rfl) (B_ at_150) rfl es_ (by decide) (by decide)
          obtain ⟨v_26, rfl, Nq26, Kc26, r26_0⟩ := hQ26
          have N26 := Fr.app Ns_ Nq26
          refine jp_ st26 ?_
          obtain rfl : v_26 = .ref w_3 := r26_0.2.2.2.1 rfl
          show Go_ T26 (mkF mm_ 153 #[vi p1, vi p2, .val (.long q3), .second, vi ki, vi mo, vr al, vi dc, vr inp, un] [(.ref w_3)])
          refine sp_ (fun t_ k_ => XS.astore X26.here hx rfl (B_ at_153) rfl rfl (l' := #[vi p1, vi p2, .val (.long q3), .second, vi ki, vi mo, vr al, vi dc, vr inp, vr w_3]) rfl (XS.aload X26.here hx rfl (B_ at_155) rfl rfl (XS.aload X26.here hx rfl (B_ at_157) rfl rfl k_))) ?_
          show Go_ T26 (mkF mm_ 159 #[vi p1, vi p2, .val (.long q3), .second, vi ki, vi mo, vr al, vi dc, vr inp, vr w_3] [(.ref inp), (.ref w_3)])
          have f28 : own_Str Z T26.heap inp ti [(111 : Int32), (116 : Int32), (104 : Int32), (101 : Int32), (114 : Int32)] := ((sp1_.cast hw3).keep Kc26 nin0 nin0)
          have f29 : own_Str Z T26.heap al tl [(100 : Int32), (101 : Int32), (97 : Int32), (116 : Int32), (104 : Int32)] := (sp0_.keep Kc26 nin0 nin0)
          have O30 : Old Z n0 T26.heap := (Os_.keep Kc26 all0)
          obtain ⟨_, _, ⟨T27, Lx27, kx27, nx27⟩, -, X27, hS27, hG27, ⟨Lc27, hQ27, l27, y27, z27⟩, st27⟩ := Jvm.RoadKit.callSS X26 hx (y := ym0) howns_ (mvT hZs_ (w_ hw 107 rfl)) (mvT hZs_ (w_ hw 108 rfl)) (mvT hZs_ (w_ hw 11 rfl)) (mvT hZs_ (w_ hw 109 rfl)) (by decide) (own_backI (J := fun q_ => IB Z q_ ["death", ""] ∧ Lit (Z.setVm q_) sc1 7 al) (J' := fun q_ => IB Z q_ ["death", "disability", "retirement", "other", ""]) (W := 1) (rmEx0 l Z a0 hw [] inp ti [(111 : Int32), (116 : Int32), (104 : Int32), (101 : Int32), (114 : Int32)] al tl T26.heap n0 O30 G_ f28 f29) hZs_ (w_ hw 109 rfl) (w_ hw 11 rfl) (by decide) (by decide)) (g := (mkF mm_ 159 #[vi p1, vi p2, .val (.long q3), .second, vi ki, vi mo, vr al, vi dc, vr inp, vr w_3] [(.ref inp), (.ref w_3)])) rfl hml.symm (argsL := [(.ref inp)]) (rest := [(.ref w_3)]) (lenOf pd_11 rfl) rfl (Nat.le_of_eq rfl) (B_ at_159) (fun vm_ hvm_ => ⟨rfl, rfl, (by decide : 17 + 6 ≤ _), (by decide : 2604 + 112 ≤ _), ⟨own_IB_mono (own_IB_warm Is_ hvm_) (by intro t_ h_; first | exact h_ | exact List.mem_cons_of_mem _ h_ | (revert t_ h_; decide)), Lit.stays Lts0_ hvm_.wide⟩⟩)
          dsimp only [Pt.U, Pt.locs, Pt.cells, Pt.slots] at X27 l27 y27 z27 st27 hQ27 hS27 hG27
          subst l27 y27 z27
          have Lk31 := Lit.stays Lts0_ hS27.1
          obtain ⟨X27, hS27, hZ27, hown27⟩ := rebS (n1 := T26.heap.size) hSs_ (Nat.le_trans hks_ Kc26.1) X27 hS27 hG27 hZs_ howns_
          obtain ⟨hQ27, hIq27⟩ := hQ27
          obtain ⟨v_27, rfl, Nq27, Kc27, r27_0⟩ := hQ27
          have N27 := Fr.app N26 Nq27
          refine jp_ st27 ?_
          obtain rfl : v_27 = .ref w_3 := r27_0.2.2.2.1 rfl
          show Go_ T27 (mkF mm_ 162 #[vi p1, vi p2, .val (.long q3), .second, vi ki, vi mo, vr al, vi dc, vr inp, vr w_3] [(.ref w_3), (.ref w_3)])
          refine sp_ (fun t_ k_ => Jvm.RoadKit.acmp (g := (mkF mm_ 162 #[vi p1, vi p2, .val (.long q3), .second, vi ki, vi mo, vr al, vi dc, vr inp, vr w_3] [(.ref w_3), (.ref w_3)])) X27 hx rfl rfl rfl (pc0 := 162) (pc' := 165) (same := true) rfl (B_ at_162) rfl (decide_eq_true rfl) (by decide) (by decide) (XS.iconst X27.here hx rfl (B_ at_165) (XS.goto X27.here hx rfl (pc0 := 166) (pc' := 170) rfl (B_ at_166) (by decide) (by decide) k_))) ?_
          show Go_ T27 (mkF mm_ 170 #[vi p1, vi p2, .val (.long q3), .second, vi ki, vi mo, vr al, vi dc, vr inp, vr w_3] [(.int 1)])
          have K32 : Keep h0 T27.heap [] := ((Ks_.trans Kc26 all0).trans Kc27 all0)
          obtain ⟨fs, hr, hrun, hended, hEnd⟩ := X27.leaveW hS27 (Nat.le_refl _) (v := some (.int 1)) (rN Bd.returns)
          refine ⟨_, _, ?_, hrun, hended, _, _, rfl, ?_, own_IB_mono (own_IB_warm hIq27 X27.warmed) (by intro t_ h_; first | exact h_ | exact List.mem_cons_of_mem _ h_ | (revert t_ h_; decide)), own_endMono hEnd (by decide) (by decide)⟩
          · exact retN X27 hx (t := .boolean) Bd.returns (by simp) (B_ at_170) hr
          · show Qrm0 Z p1 p2 q3 h0 n0 (some (.int 1)) T27.heap _
            exact ⟨rfl, N27, K32⟩
        · skip
          refine sp_ (fun t_ k_ => XS.aload Xs_.here hx rfl (B_ at_148) rfl rfl k_) ?_
          show Go_ Ts_ (mkF mm_ 150 #[vi p1, vi p2, .val (.long q3), .second, vi ki, vi mo, vr al, vi dc, vr inp, un] [(.ref inp)])
          obtain ⟨_, T33, Lc33, X33, hQ33, st33⟩ := own_cS Xs_ hx hZs_ howns_ (w_ hw 73 rfl) (w_ hw 74 rfl) (w_ hw 75 rfl) (w_ hw 76 rfl) (by decide) (backOf (W := 0) (rmOf l Z a0 hw [] inp ti cs hs_ n0 Os_ G_ sp1_) hZs_ (w_ hw 76 rfl) (w_ hw 75 rfl) (by decide) (by decide)) (g := (mkF mm_ 150 #[vi p1, vi p2, .val (.long q3), .second, vi ki, vi mo, vr al, vi dc, vr inp, un] [(.ref inp)])) rfl hml.symm (argsL := [(.ref inp)]) (rest := []) (lenOf pd_11 rfl) rfl (Nat.le_of_eq rfl) (B_ at_150) rfl es_ (by decide) (by decide)
          obtain ⟨v_33, rfl, Nq33, Kc33, r33_0⟩ := hQ33
          have N33 := Fr.app Ns_ Nq33
          refine jp_ st33 ?_
          obtain rfl : v_33 = .null := r33_0.2.2.2.2 hw0 hw1 hw2 hw3
          show Go_ T33 (mkF mm_ 153 #[vi p1, vi p2, .val (.long q3), .second, vi ki, vi mo, vr al, vi dc, vr inp, un] [.null])
          refine sp_ (fun t_ k_ => XS.astore X33.here hx rfl (B_ at_153) rfl rfl (l' := #[vi p1, vi p2, .val (.long q3), .second, vi ki, vi mo, vr al, vi dc, vr inp, .val .null]) rfl (XS.aload X33.here hx rfl (B_ at_155) rfl rfl (XS.aload X33.here hx rfl (B_ at_157) rfl rfl k_))) ?_
          show Go_ T33 (mkF mm_ 159 #[vi p1, vi p2, .val (.long q3), .second, vi ki, vi mo, vr al, vi dc, vr inp, .val .null] [(.ref inp), .null])
          have f35 : own_Str Z T33.heap inp ti cs := (sp1_.keep Kc33 nin0 nin0)
          have f36 : own_Str Z T33.heap al tl [(100 : Int32), (101 : Int32), (97 : Int32), (116 : Int32), (104 : Int32)] := (sp0_.keep Kc33 nin0 nin0)
          have O37 : Old Z n0 T33.heap := (Os_.keep Kc33 all0)
          obtain ⟨_, _, ⟨T34, Lx34, kx34, nx34⟩, -, X34, hS34, hG34, ⟨Lc34, hQ34, l34, y34, z34⟩, st34⟩ := Jvm.RoadKit.callSS X33 hx (y := ym0) howns_ (mvT hZs_ (w_ hw 107 rfl)) (mvT hZs_ (w_ hw 108 rfl)) (mvT hZs_ (w_ hw 11 rfl)) (mvT hZs_ (w_ hw 109 rfl)) (by decide) (own_backI (J := fun q_ => IB Z q_ ["death", ""] ∧ Lit (Z.setVm q_) sc1 7 al) (J' := fun q_ => IB Z q_ ["death", "disability", "retirement", "other", ""]) (W := 1) (rmEx0 l Z a0 hw [] inp ti cs al tl T33.heap n0 O37 G_ f35 f36) hZs_ (w_ hw 109 rfl) (w_ hw 11 rfl) (by decide) (by decide)) (g := (mkF mm_ 159 #[vi p1, vi p2, .val (.long q3), .second, vi ki, vi mo, vr al, vi dc, vr inp, .val .null] [(.ref inp), .null])) rfl hml.symm (argsL := [(.ref inp)]) (rest := [.null]) (lenOf pd_11 rfl) rfl (Nat.le_of_eq rfl) (B_ at_159) (fun vm_ hvm_ => ⟨rfl, rfl, (by decide : 17 + 6 ≤ _), (by decide : 2604 + 112 ≤ _), ⟨own_IB_mono (own_IB_warm Is_ hvm_) (by intro t_ h_; first | exact h_ | exact List.mem_cons_of_mem _ h_ | (revert t_ h_; decide)), Lit.stays Lts0_ hvm_.wide⟩⟩)
          dsimp only [Pt.U, Pt.locs, Pt.cells, Pt.slots] at X34 l34 y34 z34 st34 hQ34 hS34 hG34
          subst l34 y34 z34
          have Lk38 := Lit.stays Lts0_ hS34.1
          obtain ⟨X34, hS34, hZ34, hown34⟩ := rebS (n1 := T33.heap.size) hSs_ (Nat.le_trans hks_ Kc33.1) X34 hS34 hG34 hZs_ howns_
          obtain ⟨hQ34, hIq34⟩ := hQ34
          obtain ⟨v_34, rfl, Nq34, Kc34, r34_0⟩ := hQ34
          have N34 := Fr.app N33 Nq34
          refine jp_ st34 ?_
          obtain rfl : v_34 = .null := r34_0.2.2.2.2 hw0 hw1 hw2 hw3
          show Go_ T34 (mkF mm_ 162 #[vi p1, vi p2, .val (.long q3), .second, vi ki, vi mo, vr al, vi dc, vr inp, .val .null] [.null, .null])
          refine sp_ (fun t_ k_ => Jvm.RoadKit.acmp (g := (mkF mm_ 162 #[vi p1, vi p2, .val (.long q3), .second, vi ki, vi mo, vr al, vi dc, vr inp, .val .null] [.null, .null])) X34 hx rfl rfl rfl (pc0 := 162) (pc' := 165) (same := true) rfl (B_ at_162) rfl (decide_eq_true rfl) (by decide) (by decide) (XS.iconst X34.here hx rfl (B_ at_165) (XS.goto X34.here hx rfl (pc0 := 166) (pc' := 170) rfl (B_ at_166) (by decide) (by decide) k_))) ?_
          show Go_ T34 (mkF mm_ 170 #[vi p1, vi p2, .val (.long q3), .second, vi ki, vi mo, vr al, vi dc, vr inp, .val .null] [(.int 1)])
          have K39 : Keep h0 T34.heap [] := ((Ks_.trans Kc33 all0).trans Kc34 all0)
          obtain ⟨fs, hr, hrun, hended, hEnd⟩ := X34.leaveW hS34 (Nat.le_refl _) (v := some (.int 1)) (rN Bd.returns)
          refine ⟨_, _, ?_, hrun, hended, _, _, rfl, ?_, own_IB_mono (own_IB_warm hIq34 X34.warmed) (by intro t_ h_; first | exact h_ | exact List.mem_cons_of_mem _ h_ | (revert t_ h_; decide)), own_endMono hEnd (by decide) (by decide)⟩
          · exact retN X34 hx (t := .boolean) Bd.returns (by simp) (B_ at_170) hr
          · show Qrm0 Z p1 p2 q3 h0 n0 (some (.int 1)) T34.heap _
            exact ⟨rfl, N34, K39⟩
 have seg_t1n : ∀ (Ts_ : State) (locs_ : List Loc) (hs_ : Heap) (ki : Int32) (mo : Int32) (dc : Int32) (al : Addr) (tl : Addr) (vms_ : Vm) (ks_ : Nat) (Xs_ : Stand pp_ l ee_ room_1 (ss_.setVm vms_) mm_ #[(.int p1), (.int p2), (.long q3)] bb_ me_ cc_ Ts_ locs_ 16 2600) (es_ : Ts_.heap = hs_) (Ns_ : Fr n0 locs_) (Ks_ : Keep h0 hs_ []) (Os_ : Old Z n0 hs_) (hSs_ : ss_.Since vms_ ks_) (hks_ : ks_ ≤ hs_.size) (hZs_ : Z.Warmed39 (ss_.setVm vms_).vm) (howns_ : (ss_.setVm vms_).vm.findClass sc1 = some mm_.cls) (Is_ : IB Z vms_ ["disability", ""]) (Lts0_ : Lit (ss_.setVm vms_) sc1 9 al) (sp0_ : own_Str Z hs_ al tl [(100 : Int32), (105 : Int32), (115 : Int32), (97 : Int32), (98 : Int32), (105 : Int32), (108 : Int32), (105 : Int32), (116 : Int32), (121 : Int32)]), own_Go pp_ ee_ bb_ (fun s₂ oo_ => s₂.status = .running ∧ Ended s₂ bb_ oo_ ∧ (∃ vv_ LL_, oo_ = .returned vv_ ∧ Qrm0 Z p1 p2 q3 h0 n0 vv_ s₂.heap LL_ ∧ IB Z s₂.vm ["death", "disability", "retirement", "other", ""] ∧ ReturnedEndW ss_ oo_ s₂ LL_ room_1.cells room_1.slots)) Ts_ (mkF mm_ 148 #[vi p1, vi p2, .val (.long q3), .second, vi ki, vi mo, vr al, vi dc, .val .null, un] []) := by
  intro Ts_ locs_ hs_ ki mo dc al tl vms_ ks_ Xs_ es_ Ns_ Ks_ Os_ hSs_ hks_ hZs_ howns_ Is_ Lts0_ sp0_
  show Go_ Ts_ (mkF mm_ 148 #[vi p1, vi p2, .val (.long q3), .second, vi ki, vi mo, vr al, vi dc, .val .null, un] [])
  refine sp_ (fun t_ k_ => XS.aload Xs_.here hx rfl (B_ at_148) rfl rfl k_) ?_
  show Go_ Ts_ (mkF mm_ 150 #[vi p1, vi p2, .val (.long q3), .second, vi ki, vi mo, vr al, vi dc, .val .null, un] [.null])
  obtain ⟨_, T40, Lc40, X40, hQ40, st40⟩ := own_cS Xs_ hx hZs_ howns_ (w_ hw 73 rfl) (w_ hw 74 rfl) (w_ hw 75 rfl) (w_ hw 76 rfl) (by decide) (backOf (W := 0) (rmOfN l Z a0 hw []  hs_ n0 Os_ G_ ) hZs_ (w_ hw 76 rfl) (w_ hw 75 rfl) (by decide) (by decide)) (g := (mkF mm_ 150 #[vi p1, vi p2, .val (.long q3), .second, vi ki, vi mo, vr al, vi dc, .val .null, un] [.null])) rfl hml.symm (argsL := [.null]) (rest := []) (lenOf pd_11 rfl) rfl (Nat.le_of_eq rfl) (B_ at_150) rfl es_ (by decide) (by decide)
  obtain ⟨rfl, Nq40, Kc40⟩ := hQ40
  have N40 := Fr.app Ns_ Nq40
  refine jp_ st40 ?_
  show Go_ T40 (mkF mm_ 153 #[vi p1, vi p2, .val (.long q3), .second, vi ki, vi mo, vr al, vi dc, .val .null, un] [.null])
  refine sp_ (fun t_ k_ => XS.astore X40.here hx rfl (B_ at_153) rfl rfl (l' := #[vi p1, vi p2, .val (.long q3), .second, vi ki, vi mo, vr al, vi dc, .val .null, .val .null]) rfl (XS.aload X40.here hx rfl (B_ at_155) rfl rfl (XS.aload X40.here hx rfl (B_ at_157) rfl rfl k_))) ?_
  show Go_ T40 (mkF mm_ 159 #[vi p1, vi p2, .val (.long q3), .second, vi ki, vi mo, vr al, vi dc, .val .null, .val .null] [.null, .null])
  have O42 : Old Z n0 T40.heap := (Os_.keep Kc40 all0)
  obtain ⟨_, T41, Lc41, X41, hQ41, st41⟩ := own_cS X40 hx hZs_ howns_ (w_ hw 107 rfl) (w_ hw 108 rfl) (w_ hw 11 rfl) (w_ hw 109 rfl) (by decide) (backOf (W := 1) (rmExN l Z a0 hw []  T40.heap n0 O42 ) hZs_ (w_ hw 109 rfl) (w_ hw 11 rfl) (by decide) (by decide)) (g := (mkF mm_ 159 #[vi p1, vi p2, .val (.long q3), .second, vi ki, vi mo, vr al, vi dc, .val .null, .val .null] [.null, .null])) rfl hml.symm (argsL := [.null]) (rest := [.null]) (lenOf pd_11 rfl) rfl (Nat.le_of_eq rfl) (B_ at_159) rfl rfl (by decide) (by decide)
  obtain ⟨rfl, rfl, Eh41⟩ := hQ41
  have N41 := Fr.app N40 (Fr.nil n0)
  refine jp_ st41 ?_
  show Go_ T41 (mkF mm_ 162 #[vi p1, vi p2, .val (.long q3), .second, vi ki, vi mo, vr al, vi dc, .val .null, .val .null] [.null, .null])
  refine sp_ (fun t_ k_ => Jvm.RoadKit.acmp (g := (mkF mm_ 162 #[vi p1, vi p2, .val (.long q3), .second, vi ki, vi mo, vr al, vi dc, .val .null, .val .null] [.null, .null])) X41 hx rfl rfl rfl (pc0 := 162) (pc' := 165) (same := true) rfl (B_ at_162) rfl (decide_eq_true rfl) (by decide) (by decide) (XS.iconst X41.here hx rfl (B_ at_165) (XS.goto X41.here hx rfl (pc0 := 166) (pc' := 170) rfl (B_ at_166) (by decide) (by decide) k_))) ?_
  show Go_ T41 (mkF mm_ 170 #[vi p1, vi p2, .val (.long q3), .second, vi ki, vi mo, vr al, vi dc, .val .null, .val .null] [(.int 1)])
  have K43 : Keep h0 T40.heap [] := (Ks_.trans Kc40 all0)
  obtain ⟨fs, hr, hrun, hended, hEnd⟩ := X41.leaveW hSs_ (by rw [Eh41]; exact (Nat.le_trans hks_ Kc40.1)) (v := some (.int 1)) (rN Bd.returns)
  refine ⟨_, _, ?_, hrun, hended, _, _, rfl, ?_, own_IB_mono (own_IB_warm Is_ X41.warmed) (by intro t_ h_; first | exact h_ | exact List.mem_cons_of_mem _ h_ | (revert t_ h_; decide)), own_endMono hEnd (by decide) (by decide)⟩
  · exact retN X41 hx (t := .boolean) Bd.returns (by simp) (B_ at_170) hr
  · show Qrm0 Z p1 p2 q3 h0 n0 (some (.int 1)) T41.heap _
    rw [Eh41]
    exact ⟨rfl, N41, K43⟩
 have seg_t1s : ∀ (Ts_ : State) (locs_ : List Loc) (hs_ : Heap) (ki : Int32) (mo : Int32) (dc : Int32) (al : Addr) (tl : Addr) (inp : Addr) (ti : Addr) (cs : List Int32) (vms_ : Vm) (ks_ : Nat) (Xs_ : Stand pp_ l ee_ room_1 (ss_.setVm vms_) mm_ #[(.int p1), (.int p2), (.long q3)] bb_ me_ cc_ Ts_ locs_ 16 2600) (es_ : Ts_.heap = hs_) (Ns_ : Fr n0 locs_) (Ks_ : Keep h0 hs_ []) (Os_ : Old Z n0 hs_) (hSs_ : ss_.Since vms_ ks_) (hks_ : ks_ ≤ hs_.size) (hZs_ : Z.Warmed39 (ss_.setVm vms_).vm) (howns_ : (ss_.setVm vms_).vm.findClass sc1 = some mm_.cls) (Is_ : IB Z vms_ ["disability", ""]) (Lts0_ : Lit (ss_.setVm vms_) sc1 9 al) (sp0_ : own_Str Z hs_ al tl [(100 : Int32), (105 : Int32), (115 : Int32), (97 : Int32), (98 : Int32), (105 : Int32), (108 : Int32), (105 : Int32), (116 : Int32), (121 : Int32)]) (sp1_ : own_Str Z hs_ inp ti cs), own_Go pp_ ee_ bb_ (fun s₂ oo_ => s₂.status = .running ∧ Ended s₂ bb_ oo_ ∧ (∃ vv_ LL_, oo_ = .returned vv_ ∧ Qrm0 Z p1 p2 q3 h0 n0 vv_ s₂.heap LL_ ∧ IB Z s₂.vm ["death", "disability", "retirement", "other", ""] ∧ ReturnedEndW ss_ oo_ s₂ LL_ room_1.cells room_1.slots)) Ts_ (mkF mm_ 148 #[vi p1, vi p2, .val (.long q3), .second, vi ki, vi mo, vr al, vi dc, vr inp, un] []) := by
  intro Ts_ locs_ hs_ ki mo dc al tl inp ti cs vms_ ks_ Xs_ es_ Ns_ Ks_ Os_ hSs_ hks_ hZs_ howns_ Is_ Lts0_ sp0_ sp1_
  show Go_ Ts_ (mkF mm_ 148 #[vi p1, vi p2, .val (.long q3), .second, vi ki, vi mo, vr al, vi dc, vr inp, un] [])
  by_cases hw0 : cs = [(100 : Int32), (101 : Int32), (97 : Int32), (116 : Int32), (104 : Int32)]
  · skip
    refine sp_ (fun t_ k_ => XS.aload Xs_.here hx rfl (B_ at_148) rfl rfl k_) ?_
    show Go_ Ts_ (mkF mm_ 150 #[vi p1, vi p2, .val (.long q3), .second, vi ki, vi mo, vr al, vi dc, vr inp, un] [(.ref inp)])
    obtain ⟨_, T44, Lc44, X44, hQ44, st44⟩ := own_cS Xs_ hx hZs_ howns_ (w_ hw 73 rfl) (w_ hw 74 rfl) (w_ hw 75 rfl) (w_ hw 76 rfl) (by decide) (backOf (W := 0) (rmOf l Z a0 hw [] inp ti [(100 : Int32), (101 : Int32), (97 : Int32), (116 : Int32), (104 : Int32)] hs_ n0 Os_ G_ (sp1_.cast hw0)) hZs_ (w_ hw 76 rfl) (w_ hw 75 rfl) (by decide) (by decide)) (g := (mkF mm_ 150 #[vi p1, vi p2, .val (.long q3), .second, vi ki, vi mo, vr al, vi dc, vr inp, un] [(.ref inp)])) rfl hml.symm (argsL := [(.ref inp)]) (rest := []) (lenOf pd_11 rfl) rfl (Nat.le_of_eq rfl) (B_ at_150) rfl es_ (by decide) (by decide)
    obtain ⟨v_44, rfl, Nq44, Kc44, r44_0⟩ := hQ44
    have N44 := Fr.app Ns_ Nq44
    refine jp_ st44 ?_
    obtain rfl : v_44 = .ref w_0 := r44_0.1 rfl
    show Go_ T44 (mkF mm_ 153 #[vi p1, vi p2, .val (.long q3), .second, vi ki, vi mo, vr al, vi dc, vr inp, un] [(.ref w_0)])
    refine sp_ (fun t_ k_ => XS.astore X44.here hx rfl (B_ at_153) rfl rfl (l' := #[vi p1, vi p2, .val (.long q3), .second, vi ki, vi mo, vr al, vi dc, vr inp, vr w_0]) rfl (XS.aload X44.here hx rfl (B_ at_155) rfl rfl (XS.aload X44.here hx rfl (B_ at_157) rfl rfl k_))) ?_
    show Go_ T44 (mkF mm_ 159 #[vi p1, vi p2, .val (.long q3), .second, vi ki, vi mo, vr al, vi dc, vr inp, vr w_0] [(.ref inp), (.ref w_0)])
    have f46 : own_Str Z T44.heap inp ti [(100 : Int32), (101 : Int32), (97 : Int32), (116 : Int32), (104 : Int32)] := ((sp1_.cast hw0).keep Kc44 nin0 nin0)
    have f47 : own_Str Z T44.heap al tl [(100 : Int32), (105 : Int32), (115 : Int32), (97 : Int32), (98 : Int32), (105 : Int32), (108 : Int32), (105 : Int32), (116 : Int32), (121 : Int32)] := (sp0_.keep Kc44 nin0 nin0)
    have O48 : Old Z n0 T44.heap := (Os_.keep Kc44 all0)
    obtain ⟨_, _, ⟨T45, Lx45, kx45, nx45⟩, -, X45, hS45, hG45, ⟨Lc45, hQ45, l45, y45, z45⟩, st45⟩ := Jvm.RoadKit.callSS X44 hx (y := ym0) howns_ (mvT hZs_ (w_ hw 107 rfl)) (mvT hZs_ (w_ hw 108 rfl)) (mvT hZs_ (w_ hw 11 rfl)) (mvT hZs_ (w_ hw 109 rfl)) (by decide) (own_backI (J := fun q_ => IB Z q_ ["disability", ""] ∧ Lit (Z.setVm q_) sc1 9 al) (J' := fun q_ => IB Z q_ ["death", "disability", "retirement", "other", ""]) (W := 1) (rmEx1 l Z a0 hw [] inp ti [(100 : Int32), (101 : Int32), (97 : Int32), (116 : Int32), (104 : Int32)] al tl T44.heap n0 O48 G_ f46 f47) hZs_ (w_ hw 109 rfl) (w_ hw 11 rfl) (by decide) (by decide)) (g := (mkF mm_ 159 #[vi p1, vi p2, .val (.long q3), .second, vi ki, vi mo, vr al, vi dc, vr inp, vr w_0] [(.ref inp), (.ref w_0)])) rfl hml.symm (argsL := [(.ref inp)]) (rest := [(.ref w_0)]) (lenOf pd_11 rfl) rfl (Nat.le_of_eq rfl) (B_ at_159) (fun vm_ hvm_ => ⟨rfl, rfl, (by decide : 17 + 6 ≤ _), (by decide : 2604 + 92 ≤ _), ⟨own_IB_mono (own_IB_warm Is_ hvm_) (by intro t_ h_; first | exact h_ | exact List.mem_cons_of_mem _ h_ | (revert t_ h_; decide)), Lit.stays Lts0_ hvm_.wide⟩⟩)
    dsimp only [Pt.U, Pt.locs, Pt.cells, Pt.slots] at X45 l45 y45 z45 st45 hQ45 hS45 hG45
    subst l45 y45 z45
    have Lk49 := Lit.stays Lts0_ hS45.1
    obtain ⟨X45, hS45, hZ45, hown45⟩ := rebS (n1 := T44.heap.size) hSs_ (Nat.le_trans hks_ Kc44.1) X45 hS45 hG45 hZs_ howns_
    obtain ⟨hQ45, hIq45⟩ := hQ45
    obtain ⟨v_45, rfl, Nq45, Kc45, r45_0⟩ := hQ45
    have N45 := Fr.app N44 Nq45
    refine jp_ st45 ?_
    obtain rfl : v_45 = .ref w_0 := r45_0.1 rfl
    show Go_ T45 (mkF mm_ 162 #[vi p1, vi p2, .val (.long q3), .second, vi ki, vi mo, vr al, vi dc, vr inp, vr w_0] [(.ref w_0), (.ref w_0)])
    refine sp_ (fun t_ k_ => Jvm.RoadKit.acmp (g := (mkF mm_ 162 #[vi p1, vi p2, .val (.long q3), .second, vi ki, vi mo, vr al, vi dc, vr inp, vr w_0] [(.ref w_0), (.ref w_0)])) X45 hx rfl rfl rfl (pc0 := 162) (pc' := 165) (same := true) rfl (B_ at_162) rfl (decide_eq_true rfl) (by decide) (by decide) (XS.iconst X45.here hx rfl (B_ at_165) (XS.goto X45.here hx rfl (pc0 := 166) (pc' := 170) rfl (B_ at_166) (by decide) (by decide) k_))) ?_
    show Go_ T45 (mkF mm_ 170 #[vi p1, vi p2, .val (.long q3), .second, vi ki, vi mo, vr al, vi dc, vr inp, vr w_0] [(.int 1)])
    have K50 : Keep h0 T45.heap [] := ((Ks_.trans Kc44 all0).trans Kc45 all0)
    obtain ⟨fs, hr, hrun, hended, hEnd⟩ := X45.leaveW hS45 (Nat.le_refl _) (v := some (.int 1)) (rN Bd.returns)
    refine ⟨_, _, ?_, hrun, hended, _, _, rfl, ?_, own_IB_mono (own_IB_warm hIq45 X45.warmed) (by intro t_ h_; first | exact h_ | exact List.mem_cons_of_mem _ h_ | (revert t_ h_; decide)), own_endMono hEnd (by decide) (by decide)⟩
    · exact retN X45 hx (t := .boolean) Bd.returns (by simp) (B_ at_170) hr
    · show Qrm0 Z p1 p2 q3 h0 n0 (some (.int 1)) T45.heap _
      exact ⟨rfl, N45, K50⟩
  · skip
    by_cases hw1 : cs = [(100 : Int32), (105 : Int32), (115 : Int32), (97 : Int32), (98 : Int32), (105 : Int32), (108 : Int32), (105 : Int32), (116 : Int32), (121 : Int32)]
    · skip
      refine sp_ (fun t_ k_ => XS.aload Xs_.here hx rfl (B_ at_148) rfl rfl k_) ?_
      show Go_ Ts_ (mkF mm_ 150 #[vi p1, vi p2, .val (.long q3), .second, vi ki, vi mo, vr al, vi dc, vr inp, un] [(.ref inp)])
      obtain ⟨_, T51, Lc51, X51, hQ51, st51⟩ := own_cS Xs_ hx hZs_ howns_ (w_ hw 73 rfl) (w_ hw 74 rfl) (w_ hw 75 rfl) (w_ hw 76 rfl) (by decide) (backOf (W := 0) (rmOf l Z a0 hw [] inp ti [(100 : Int32), (105 : Int32), (115 : Int32), (97 : Int32), (98 : Int32), (105 : Int32), (108 : Int32), (105 : Int32), (116 : Int32), (121 : Int32)] hs_ n0 Os_ G_ (sp1_.cast hw1)) hZs_ (w_ hw 76 rfl) (w_ hw 75 rfl) (by decide) (by decide)) (g := (mkF mm_ 150 #[vi p1, vi p2, .val (.long q3), .second, vi ki, vi mo, vr al, vi dc, vr inp, un] [(.ref inp)])) rfl hml.symm (argsL := [(.ref inp)]) (rest := []) (lenOf pd_11 rfl) rfl (Nat.le_of_eq rfl) (B_ at_150) rfl es_ (by decide) (by decide)
      obtain ⟨v_51, rfl, Nq51, Kc51, r51_0⟩ := hQ51
      have N51 := Fr.app Ns_ Nq51
      refine jp_ st51 ?_
      obtain rfl : v_51 = .ref w_1 := r51_0.2.1 rfl
      show Go_ T51 (mkF mm_ 153 #[vi p1, vi p2, .val (.long q3), .second, vi ki, vi mo, vr al, vi dc, vr inp, un] [(.ref w_1)])
      refine sp_ (fun t_ k_ => XS.astore X51.here hx rfl (B_ at_153) rfl rfl (l' := #[vi p1, vi p2, .val (.long q3), .second, vi ki, vi mo, vr al, vi dc, vr inp, vr w_1]) rfl (XS.aload X51.here hx rfl (B_ at_155) rfl rfl (XS.aload X51.here hx rfl (B_ at_157) rfl rfl k_))) ?_
      show Go_ T51 (mkF mm_ 159 #[vi p1, vi p2, .val (.long q3), .second, vi ki, vi mo, vr al, vi dc, vr inp, vr w_1] [(.ref inp), (.ref w_1)])
      have f53 : own_Str Z T51.heap inp ti [(100 : Int32), (105 : Int32), (115 : Int32), (97 : Int32), (98 : Int32), (105 : Int32), (108 : Int32), (105 : Int32), (116 : Int32), (121 : Int32)] := ((sp1_.cast hw1).keep Kc51 nin0 nin0)
      have f54 : own_Str Z T51.heap al tl [(100 : Int32), (105 : Int32), (115 : Int32), (97 : Int32), (98 : Int32), (105 : Int32), (108 : Int32), (105 : Int32), (116 : Int32), (121 : Int32)] := (sp0_.keep Kc51 nin0 nin0)
      have O55 : Old Z n0 T51.heap := (Os_.keep Kc51 all0)
      obtain ⟨_, _, ⟨T52, Lx52, kx52, nx52⟩, -, X52, hS52, hG52, ⟨Lc52, hQ52, l52, y52, z52⟩, st52⟩ := Jvm.RoadKit.callSS X51 hx (y := ym0) howns_ (mvT hZs_ (w_ hw 107 rfl)) (mvT hZs_ (w_ hw 108 rfl)) (mvT hZs_ (w_ hw 11 rfl)) (mvT hZs_ (w_ hw 109 rfl)) (by decide) (own_backI (J := fun q_ => IB Z q_ ["disability", ""] ∧ Lit (Z.setVm q_) sc1 9 al) (J' := fun q_ => IB Z q_ ["death", "disability", "retirement", "other", ""]) (W := 1) (rmEx1 l Z a0 hw [] inp ti [(100 : Int32), (105 : Int32), (115 : Int32), (97 : Int32), (98 : Int32), (105 : Int32), (108 : Int32), (105 : Int32), (116 : Int32), (121 : Int32)] al tl T51.heap n0 O55 G_ f53 f54) hZs_ (w_ hw 109 rfl) (w_ hw 11 rfl) (by decide) (by decide)) (g := (mkF mm_ 159 #[vi p1, vi p2, .val (.long q3), .second, vi ki, vi mo, vr al, vi dc, vr inp, vr w_1] [(.ref inp), (.ref w_1)])) rfl hml.symm (argsL := [(.ref inp)]) (rest := [(.ref w_1)]) (lenOf pd_11 rfl) rfl (Nat.le_of_eq rfl) (B_ at_159) (fun vm_ hvm_ => ⟨rfl, rfl, (by decide : 17 + 6 ≤ _), (by decide : 2604 + 92 ≤ _), ⟨own_IB_mono (own_IB_warm Is_ hvm_) (by intro t_ h_; first | exact h_ | exact List.mem_cons_of_mem _ h_ | (revert t_ h_; decide)), Lit.stays Lts0_ hvm_.wide⟩⟩)
      dsimp only [Pt.U, Pt.locs, Pt.cells, Pt.slots] at X52 l52 y52 z52 st52 hQ52 hS52 hG52
      subst l52 y52 z52
      have Lk56 := Lit.stays Lts0_ hS52.1
      obtain ⟨X52, hS52, hZ52, hown52⟩ := rebS (n1 := T51.heap.size) hSs_ (Nat.le_trans hks_ Kc51.1) X52 hS52 hG52 hZs_ howns_
      obtain ⟨hQ52, hIq52⟩ := hQ52
      obtain ⟨v_52, rfl, Nq52, Kc52, r52_0⟩ := hQ52
      have N52 := Fr.app N51 Nq52
      refine jp_ st52 ?_
      obtain rfl : v_52 = .ref w_1 := r52_0.2.1 rfl
      show Go_ T52 (mkF mm_ 162 #[vi p1, vi p2, .val (.long q3), .second, vi ki, vi mo, vr al, vi dc, vr inp, vr w_1] [(.ref w_1), (.ref w_1)])
      refine sp_ (fun t_ k_ => Jvm.RoadKit.acmp (g := (mkF mm_ 162 #[vi p1, vi p2, .val (.long q3), .second, vi ki, vi mo, vr al, vi dc, vr inp, vr w_1] [(.ref w_1), (.ref w_1)])) X52 hx rfl rfl rfl (pc0 := 162) (pc' := 165) (same := true) rfl (B_ at_162) rfl (decide_eq_true rfl) (by decide) (by decide) (XS.iconst X52.here hx rfl (B_ at_165) (XS.goto X52.here hx rfl (pc0 := 166) (pc' := 170) rfl (B_ at_166) (by decide) (by decide) k_))) ?_
      show Go_ T52 (mkF mm_ 170 #[vi p1, vi p2, .val (.long q3), .second, vi ki, vi mo, vr al, vi dc, vr inp, vr w_1] [(.int 1)])
      have K57 : Keep h0 T52.heap [] := ((Ks_.trans Kc51 all0).trans Kc52 all0)
      obtain ⟨fs, hr, hrun, hended, hEnd⟩ := X52.leaveW hS52 (Nat.le_refl _) (v := some (.int 1)) (rN Bd.returns)
      refine ⟨_, _, ?_, hrun, hended, _, _, rfl, ?_, own_IB_mono (own_IB_warm hIq52 X52.warmed) (by intro t_ h_; first | exact h_ | exact List.mem_cons_of_mem _ h_ | (revert t_ h_; decide)), own_endMono hEnd (by decide) (by decide)⟩
      · exact retN X52 hx (t := .boolean) Bd.returns (by simp) (B_ at_170) hr
      · show Qrm0 Z p1 p2 q3 h0 n0 (some (.int 1)) T52.heap _
        exact ⟨rfl, N52, K57⟩
    · skip
      by_cases hw2 : cs = [(114 : Int32), (101 : Int32), (116 : Int32), (105 : Int32), (114 : Int32), (101 : Int32), (109 : Int32), (101 : Int32), (110 : Int32), (116 : Int32)]
      · skip
        refine sp_ (fun t_ k_ => XS.aload Xs_.here hx rfl (B_ at_148) rfl rfl k_) ?_
        show Go_ Ts_ (mkF mm_ 150 #[vi p1, vi p2, .val (.long q3), .second, vi ki, vi mo, vr al, vi dc, vr inp, un] [(.ref inp)])
        obtain ⟨_, T58, Lc58, X58, hQ58, st58⟩ := own_cS Xs_ hx hZs_ howns_ (w_ hw 73 rfl) (w_ hw 74 rfl) (w_ hw 75 rfl) (w_ hw 76 rfl) (by decide) (backOf (W := 0) (rmOf l Z a0 hw [] inp ti [(114 : Int32), (101 : Int32), (116 : Int32), (105 : Int32), (114 : Int32), (101 : Int32), (109 : Int32), (101 : Int32), (110 : Int32), (116 : Int32)] hs_ n0 Os_ G_ (sp1_.cast hw2)) hZs_ (w_ hw 76 rfl) (w_ hw 75 rfl) (by decide) (by decide)) (g := (mkF mm_ 150 #[vi p1, vi p2, .val (.long q3), .second, vi ki, vi mo, vr al, vi dc, vr inp, un] [(.ref inp)])) rfl hml.symm (argsL := [(.ref inp)]) (rest := []) (lenOf pd_11 rfl) rfl (Nat.le_of_eq rfl) (B_ at_150) rfl es_ (by decide) (by decide)
        obtain ⟨v_58, rfl, Nq58, Kc58, r58_0⟩ := hQ58
        have N58 := Fr.app Ns_ Nq58
        refine jp_ st58 ?_
        obtain rfl : v_58 = .ref w_2 := r58_0.2.2.1 rfl
        show Go_ T58 (mkF mm_ 153 #[vi p1, vi p2, .val (.long q3), .second, vi ki, vi mo, vr al, vi dc, vr inp, un] [(.ref w_2)])
        refine sp_ (fun t_ k_ => XS.astore X58.here hx rfl (B_ at_153) rfl rfl (l' := #[vi p1, vi p2, .val (.long q3), .second, vi ki, vi mo, vr al, vi dc, vr inp, vr w_2]) rfl (XS.aload X58.here hx rfl (B_ at_155) rfl rfl (XS.aload X58.here hx rfl (B_ at_157) rfl rfl k_))) ?_
        show Go_ T58 (mkF mm_ 159 #[vi p1, vi p2, .val (.long q3), .second, vi ki, vi mo, vr al, vi dc, vr inp, vr w_2] [(.ref inp), (.ref w_2)])
        have f60 : own_Str Z T58.heap inp ti [(114 : Int32), (101 : Int32), (116 : Int32), (105 : Int32), (114 : Int32), (101 : Int32), (109 : Int32), (101 : Int32), (110 : Int32), (116 : Int32)] := ((sp1_.cast hw2).keep Kc58 nin0 nin0)
        have f61 : own_Str Z T58.heap al tl [(100 : Int32), (105 : Int32), (115 : Int32), (97 : Int32), (98 : Int32), (105 : Int32), (108 : Int32), (105 : Int32), (116 : Int32), (121 : Int32)] := (sp0_.keep Kc58 nin0 nin0)
        have O62 : Old Z n0 T58.heap := (Os_.keep Kc58 all0)
        obtain ⟨_, _, ⟨T59, Lx59, kx59, nx59⟩, -, X59, hS59, hG59, ⟨Lc59, hQ59, l59, y59, z59⟩, st59⟩ := Jvm.RoadKit.callSS X58 hx (y := ym0) howns_ (mvT hZs_ (w_ hw 107 rfl)) (mvT hZs_ (w_ hw 108 rfl)) (mvT hZs_ (w_ hw 11 rfl)) (mvT hZs_ (w_ hw 109 rfl)) (by decide) (own_backI (J := fun q_ => IB Z q_ ["disability", ""] ∧ Lit (Z.setVm q_) sc1 9 al) (J' := fun q_ => IB Z q_ ["death", "disability", "retirement", "other", ""]) (W := 1) (rmEx1 l Z a0 hw [] inp ti [(114 : Int32), (101 : Int32), (116 : Int32), (105 : Int32), (114 : Int32), (101 : Int32), (109 : Int32), (101 : Int32), (110 : Int32), (116 : Int32)] al tl T58.heap n0 O62 G_ f60 f61) hZs_ (w_ hw 109 rfl) (w_ hw 11 rfl) (by decide) (by decide)) (g := (mkF mm_ 159 #[vi p1, vi p2, .val (.long q3), .second, vi ki, vi mo, vr al, vi dc, vr inp, vr w_2] [(.ref inp), (.ref w_2)])) rfl hml.symm (argsL := [(.ref inp)]) (rest := [(.ref w_2)]) (lenOf pd_11 rfl) rfl (Nat.le_of_eq rfl) (B_ at_159) (fun vm_ hvm_ => ⟨rfl, rfl, (by decide : 17 + 6 ≤ _), (by decide : 2604 + 92 ≤ _), ⟨own_IB_mono (own_IB_warm Is_ hvm_) (by intro t_ h_; first | exact h_ | exact List.mem_cons_of_mem _ h_ | (revert t_ h_; decide)), Lit.stays Lts0_ hvm_.wide⟩⟩)
        dsimp only [Pt.U, Pt.locs, Pt.cells, Pt.slots] at X59 l59 y59 z59 st59 hQ59 hS59 hG59
        subst l59 y59 z59
        have Lk63 := Lit.stays Lts0_ hS59.1
        obtain ⟨X59, hS59, hZ59, hown59⟩ := rebS (n1 := T58.heap.size) hSs_ (Nat.le_trans hks_ Kc58.1) X59 hS59 hG59 hZs_ howns_
        obtain ⟨hQ59, hIq59⟩ := hQ59
        obtain ⟨v_59, rfl, Nq59, Kc59, r59_0⟩ := hQ59
        have N59 := Fr.app N58 Nq59
        refine jp_ st59 ?_
        obtain rfl : v_59 = .ref w_2 := r59_0.2.2.1 rfl
        show Go_ T59 (mkF mm_ 162 #[vi p1, vi p2, .val (.long q3), .second, vi ki, vi mo, vr al, vi dc, vr inp, vr w_2] [(.ref w_2), (.ref w_2)])
        refine sp_ (fun t_ k_ => Jvm.RoadKit.acmp (g := (mkF mm_ 162 #[vi p1, vi p2, .val (.long q3), .second, vi ki, vi mo, vr al, vi dc, vr inp, vr w_2] [(.ref w_2), (.ref w_2)])) X59 hx rfl rfl rfl (pc0 := 162) (pc' := 165) (same := true) rfl (B_ at_162) rfl (decide_eq_true rfl) (by decide) (by decide) (XS.iconst X59.here hx rfl (B_ at_165) (XS.goto X59.here hx rfl (pc0 := 166) (pc' := 170) rfl (B_ at_166) (by decide) (by decide) k_))) ?_
        show Go_ T59 (mkF mm_ 170 #[vi p1, vi p2, .val (.long q3), .second, vi ki, vi mo, vr al, vi dc, vr inp, vr w_2] [(.int 1)])
        have K64 : Keep h0 T59.heap [] := ((Ks_.trans Kc58 all0).trans Kc59 all0)
        obtain ⟨fs, hr, hrun, hended, hEnd⟩ := X59.leaveW hS59 (Nat.le_refl _) (v := some (.int 1)) (rN Bd.returns)
        refine ⟨_, _, ?_, hrun, hended, _, _, rfl, ?_, own_IB_mono (own_IB_warm hIq59 X59.warmed) (by intro t_ h_; first | exact h_ | exact List.mem_cons_of_mem _ h_ | (revert t_ h_; decide)), own_endMono hEnd (by decide) (by decide)⟩
        · exact retN X59 hx (t := .boolean) Bd.returns (by simp) (B_ at_170) hr
        · show Qrm0 Z p1 p2 q3 h0 n0 (some (.int 1)) T59.heap _
          exact ⟨rfl, N59, K64⟩
      · skip
        by_cases hw3 : cs = [(111 : Int32), (116 : Int32), (104 : Int32), (101 : Int32), (114 : Int32)]
        · skip
          refine sp_ (fun t_ k_ => XS.aload Xs_.here hx rfl (B_ at_148) rfl rfl k_) ?_
          show Go_ Ts_ (mkF mm_ 150 #[vi p1, vi p2, .val (.long q3), .second, vi ki, vi mo, vr al, vi dc, vr inp, un] [(.ref inp)])
          obtain ⟨_, T65, Lc65, X65, hQ65, st65⟩ := own_cS Xs_ hx hZs_ howns_ (w_ hw 73 rfl) (w_ hw 74 rfl) (w_ hw 75 rfl) (w_ hw 76 rfl) (by decide) (backOf (W := 0) (rmOf l Z a0 hw [] inp ti [(111 : Int32), (116 : Int32), (104 : Int32), (101 : Int32), (114 : Int32)] hs_ n0 Os_ G_ (sp1_.cast hw3)) hZs_ (w_ hw 76 rfl) (w_ hw 75 rfl) (by decide) (by decide)) (g := (mkF mm_ 150 #[vi p1, vi p2, .val (.long q3), .second, vi ki, vi mo, vr al, vi dc, vr inp, un] [(.ref inp)])) rfl hml.symm (argsL := [(.ref inp)]) (rest := []) (lenOf pd_11 rfl) rfl (Nat.le_of_eq rfl) (B_ at_150) rfl es_ (by decide) (by decide)
          obtain ⟨v_65, rfl, Nq65, Kc65, r65_0⟩ := hQ65
          have N65 := Fr.app Ns_ Nq65
          refine jp_ st65 ?_
          obtain rfl : v_65 = .ref w_3 := r65_0.2.2.2.1 rfl
          show Go_ T65 (mkF mm_ 153 #[vi p1, vi p2, .val (.long q3), .second, vi ki, vi mo, vr al, vi dc, vr inp, un] [(.ref w_3)])
          refine sp_ (fun t_ k_ => XS.astore X65.here hx rfl (B_ at_153) rfl rfl (l' := #[vi p1, vi p2, .val (.long q3), .second, vi ki, vi mo, vr al, vi dc, vr inp, vr w_3]) rfl (XS.aload X65.here hx rfl (B_ at_155) rfl rfl (XS.aload X65.here hx rfl (B_ at_157) rfl rfl k_))) ?_
          show Go_ T65 (mkF mm_ 159 #[vi p1, vi p2, .val (.long q3), .second, vi ki, vi mo, vr al, vi dc, vr inp, vr w_3] [(.ref inp), (.ref w_3)])
          have f67 : own_Str Z T65.heap inp ti [(111 : Int32), (116 : Int32), (104 : Int32), (101 : Int32), (114 : Int32)] := ((sp1_.cast hw3).keep Kc65 nin0 nin0)
          have f68 : own_Str Z T65.heap al tl [(100 : Int32), (105 : Int32), (115 : Int32), (97 : Int32), (98 : Int32), (105 : Int32), (108 : Int32), (105 : Int32), (116 : Int32), (121 : Int32)] := (sp0_.keep Kc65 nin0 nin0)
          have O69 : Old Z n0 T65.heap := (Os_.keep Kc65 all0)
          obtain ⟨_, _, ⟨T66, Lx66, kx66, nx66⟩, -, X66, hS66, hG66, ⟨Lc66, hQ66, l66, y66, z66⟩, st66⟩ := Jvm.RoadKit.callSS X65 hx (y := ym0) howns_ (mvT hZs_ (w_ hw 107 rfl)) (mvT hZs_ (w_ hw 108 rfl)) (mvT hZs_ (w_ hw 11 rfl)) (mvT hZs_ (w_ hw 109 rfl)) (by decide) (own_backI (J := fun q_ => IB Z q_ ["disability", ""] ∧ Lit (Z.setVm q_) sc1 9 al) (J' := fun q_ => IB Z q_ ["death", "disability", "retirement", "other", ""]) (W := 1) (rmEx1 l Z a0 hw [] inp ti [(111 : Int32), (116 : Int32), (104 : Int32), (101 : Int32), (114 : Int32)] al tl T65.heap n0 O69 G_ f67 f68) hZs_ (w_ hw 109 rfl) (w_ hw 11 rfl) (by decide) (by decide)) (g := (mkF mm_ 159 #[vi p1, vi p2, .val (.long q3), .second, vi ki, vi mo, vr al, vi dc, vr inp, vr w_3] [(.ref inp), (.ref w_3)])) rfl hml.symm (argsL := [(.ref inp)]) (rest := [(.ref w_3)]) (lenOf pd_11 rfl) rfl (Nat.le_of_eq rfl) (B_ at_159) (fun vm_ hvm_ => ⟨rfl, rfl, (by decide : 17 + 6 ≤ _), (by decide : 2604 + 92 ≤ _), ⟨own_IB_mono (own_IB_warm Is_ hvm_) (by intro t_ h_; first | exact h_ | exact List.mem_cons_of_mem _ h_ | (revert t_ h_; decide)), Lit.stays Lts0_ hvm_.wide⟩⟩)
          dsimp only [Pt.U, Pt.locs, Pt.cells, Pt.slots] at X66 l66 y66 z66 st66 hQ66 hS66 hG66
          subst l66 y66 z66
          have Lk70 := Lit.stays Lts0_ hS66.1
          obtain ⟨X66, hS66, hZ66, hown66⟩ := rebS (n1 := T65.heap.size) hSs_ (Nat.le_trans hks_ Kc65.1) X66 hS66 hG66 hZs_ howns_
          obtain ⟨hQ66, hIq66⟩ := hQ66
          obtain ⟨v_66, rfl, Nq66, Kc66, r66_0⟩ := hQ66
          have N66 := Fr.app N65 Nq66
          refine jp_ st66 ?_
          obtain rfl : v_66 = .ref w_3 := r66_0.2.2.2.1 rfl
          show Go_ T66 (mkF mm_ 162 #[vi p1, vi p2, .val (.long q3), .second, vi ki, vi mo, vr al, vi dc, vr inp, vr w_3] [(.ref w_3), (.ref w_3)])
          refine sp_ (fun t_ k_ => Jvm.RoadKit.acmp (g := (mkF mm_ 162 #[vi p1, vi p2, .val (.long q3), .second, vi ki, vi mo, vr al, vi dc, vr inp, vr w_3] [(.ref w_3), (.ref w_3)])) X66 hx rfl rfl rfl (pc0 := 162) (pc' := 165) (same := true) rfl (B_ at_162) rfl (decide_eq_true rfl) (by decide) (by decide) (XS.iconst X66.here hx rfl (B_ at_165) (XS.goto X66.here hx rfl (pc0 := 166) (pc' := 170) rfl (B_ at_166) (by decide) (by decide) k_))) ?_
          show Go_ T66 (mkF mm_ 170 #[vi p1, vi p2, .val (.long q3), .second, vi ki, vi mo, vr al, vi dc, vr inp, vr w_3] [(.int 1)])
          have K71 : Keep h0 T66.heap [] := ((Ks_.trans Kc65 all0).trans Kc66 all0)
          obtain ⟨fs, hr, hrun, hended, hEnd⟩ := X66.leaveW hS66 (Nat.le_refl _) (v := some (.int 1)) (rN Bd.returns)
          refine ⟨_, _, ?_, hrun, hended, _, _, rfl, ?_, own_IB_mono (own_IB_warm hIq66 X66.warmed) (by intro t_ h_; first | exact h_ | exact List.mem_cons_of_mem _ h_ | (revert t_ h_; decide)), own_endMono hEnd (by decide) (by decide)⟩
          · exact retN X66 hx (t := .boolean) Bd.returns (by simp) (B_ at_170) hr
          · show Qrm0 Z p1 p2 q3 h0 n0 (some (.int 1)) T66.heap _
            exact ⟨rfl, N66, K71⟩
        · skip
          refine sp_ (fun t_ k_ => XS.aload Xs_.here hx rfl (B_ at_148) rfl rfl k_) ?_
          show Go_ Ts_ (mkF mm_ 150 #[vi p1, vi p2, .val (.long q3), .second, vi ki, vi mo, vr al, vi dc, vr inp, un] [(.ref inp)])
          obtain ⟨_, T72, Lc72, X72, hQ72, st72⟩ := own_cS Xs_ hx hZs_ howns_ (w_ hw 73 rfl) (w_ hw 74 rfl) (w_ hw 75 rfl) (w_ hw 76 rfl) (by decide) (backOf (W := 0) (rmOf l Z a0 hw [] inp ti cs hs_ n0 Os_ G_ sp1_) hZs_ (w_ hw 76 rfl) (w_ hw 75 rfl) (by decide) (by decide)) (g := (mkF mm_ 150 #[vi p1, vi p2, .val (.long q3), .second, vi ki, vi mo, vr al, vi dc, vr inp, un] [(.ref inp)])) rfl hml.symm (argsL := [(.ref inp)]) (rest := []) (lenOf pd_11 rfl) rfl (Nat.le_of_eq rfl) (B_ at_150) rfl es_ (by decide) (by decide)
          obtain ⟨v_72, rfl, Nq72, Kc72, r72_0⟩ := hQ72
          have N72 := Fr.app Ns_ Nq72
          refine jp_ st72 ?_
          obtain rfl : v_72 = .null := r72_0.2.2.2.2 hw0 hw1 hw2 hw3
          show Go_ T72 (mkF mm_ 153 #[vi p1, vi p2, .val (.long q3), .second, vi ki, vi mo, vr al, vi dc, vr inp, un] [.null])
          refine sp_ (fun t_ k_ => XS.astore X72.here hx rfl (B_ at_153) rfl rfl (l' := #[vi p1, vi p2, .val (.long q3), .second, vi ki, vi mo, vr al, vi dc, vr inp, .val .null]) rfl (XS.aload X72.here hx rfl (B_ at_155) rfl rfl (XS.aload X72.here hx rfl (B_ at_157) rfl rfl k_))) ?_
          show Go_ T72 (mkF mm_ 159 #[vi p1, vi p2, .val (.long q3), .second, vi ki, vi mo, vr al, vi dc, vr inp, .val .null] [(.ref inp), .null])
          have f74 : own_Str Z T72.heap inp ti cs := (sp1_.keep Kc72 nin0 nin0)
          have f75 : own_Str Z T72.heap al tl [(100 : Int32), (105 : Int32), (115 : Int32), (97 : Int32), (98 : Int32), (105 : Int32), (108 : Int32), (105 : Int32), (116 : Int32), (121 : Int32)] := (sp0_.keep Kc72 nin0 nin0)
          have O76 : Old Z n0 T72.heap := (Os_.keep Kc72 all0)
          obtain ⟨_, _, ⟨T73, Lx73, kx73, nx73⟩, -, X73, hS73, hG73, ⟨Lc73, hQ73, l73, y73, z73⟩, st73⟩ := Jvm.RoadKit.callSS X72 hx (y := ym0) howns_ (mvT hZs_ (w_ hw 107 rfl)) (mvT hZs_ (w_ hw 108 rfl)) (mvT hZs_ (w_ hw 11 rfl)) (mvT hZs_ (w_ hw 109 rfl)) (by decide) (own_backI (J := fun q_ => IB Z q_ ["disability", ""] ∧ Lit (Z.setVm q_) sc1 9 al) (J' := fun q_ => IB Z q_ ["death", "disability", "retirement", "other", ""]) (W := 1) (rmEx1 l Z a0 hw [] inp ti cs al tl T72.heap n0 O76 G_ f74 f75) hZs_ (w_ hw 109 rfl) (w_ hw 11 rfl) (by decide) (by decide)) (g := (mkF mm_ 159 #[vi p1, vi p2, .val (.long q3), .second, vi ki, vi mo, vr al, vi dc, vr inp, .val .null] [(.ref inp), .null])) rfl hml.symm (argsL := [(.ref inp)]) (rest := [.null]) (lenOf pd_11 rfl) rfl (Nat.le_of_eq rfl) (B_ at_159) (fun vm_ hvm_ => ⟨rfl, rfl, (by decide : 17 + 6 ≤ _), (by decide : 2604 + 92 ≤ _), ⟨own_IB_mono (own_IB_warm Is_ hvm_) (by intro t_ h_; first | exact h_ | exact List.mem_cons_of_mem _ h_ | (revert t_ h_; decide)), Lit.stays Lts0_ hvm_.wide⟩⟩)
          dsimp only [Pt.U, Pt.locs, Pt.cells, Pt.slots] at X73 l73 y73 z73 st73 hQ73 hS73 hG73
          subst l73 y73 z73
          have Lk77 := Lit.stays Lts0_ hS73.1
          obtain ⟨X73, hS73, hZ73, hown73⟩ := rebS (n1 := T72.heap.size) hSs_ (Nat.le_trans hks_ Kc72.1) X73 hS73 hG73 hZs_ howns_
          obtain ⟨hQ73, hIq73⟩ := hQ73
          obtain ⟨v_73, rfl, Nq73, Kc73, r73_0⟩ := hQ73
          have N73 := Fr.app N72 Nq73
          refine jp_ st73 ?_
          obtain rfl : v_73 = .null := r73_0.2.2.2.2 hw0 hw1 hw2 hw3
          show Go_ T73 (mkF mm_ 162 #[vi p1, vi p2, .val (.long q3), .second, vi ki, vi mo, vr al, vi dc, vr inp, .val .null] [.null, .null])
          refine sp_ (fun t_ k_ => Jvm.RoadKit.acmp (g := (mkF mm_ 162 #[vi p1, vi p2, .val (.long q3), .second, vi ki, vi mo, vr al, vi dc, vr inp, .val .null] [.null, .null])) X73 hx rfl rfl rfl (pc0 := 162) (pc' := 165) (same := true) rfl (B_ at_162) rfl (decide_eq_true rfl) (by decide) (by decide) (XS.iconst X73.here hx rfl (B_ at_165) (XS.goto X73.here hx rfl (pc0 := 166) (pc' := 170) rfl (B_ at_166) (by decide) (by decide) k_))) ?_
          show Go_ T73 (mkF mm_ 170 #[vi p1, vi p2, .val (.long q3), .second, vi ki, vi mo, vr al, vi dc, vr inp, .val .null] [(.int 1)])
          have K78 : Keep h0 T73.heap [] := ((Ks_.trans Kc72 all0).trans Kc73 all0)
          obtain ⟨fs, hr, hrun, hended, hEnd⟩ := X73.leaveW hS73 (Nat.le_refl _) (v := some (.int 1)) (rN Bd.returns)
          refine ⟨_, _, ?_, hrun, hended, _, _, rfl, ?_, own_IB_mono (own_IB_warm hIq73 X73.warmed) (by intro t_ h_; first | exact h_ | exact List.mem_cons_of_mem _ h_ | (revert t_ h_; decide)), own_endMono hEnd (by decide) (by decide)⟩
          · exact retN X73 hx (t := .boolean) Bd.returns (by simp) (B_ at_170) hr
          · show Qrm0 Z p1 p2 q3 h0 n0 (some (.int 1)) T73.heap _
            exact ⟨rfl, N73, K78⟩
 have seg_t2n : ∀ (Ts_ : State) (locs_ : List Loc) (hs_ : Heap) (ki : Int32) (mo : Int32) (dc : Int32) (al : Addr) (tl : Addr) (vms_ : Vm) (ks_ : Nat) (Xs_ : Stand pp_ l ee_ room_1 (ss_.setVm vms_) mm_ #[(.int p1), (.int p2), (.long q3)] bb_ me_ cc_ Ts_ locs_ 16 2600) (es_ : Ts_.heap = hs_) (Ns_ : Fr n0 locs_) (Ks_ : Keep h0 hs_ []) (Os_ : Old Z n0 hs_) (hSs_ : ss_.Since vms_ ks_) (hks_ : ks_ ≤ hs_.size) (hZs_ : Z.Warmed39 (ss_.setVm vms_).vm) (howns_ : (ss_.setVm vms_).vm.findClass sc1 = some mm_.cls) (Is_ : IB Z vms_ ["retirement", ""]) (Lts0_ : Lit (ss_.setVm vms_) sc1 11 al) (sp0_ : own_Str Z hs_ al tl [(114 : Int32), (101 : Int32), (116 : Int32), (105 : Int32), (114 : Int32), (101 : Int32), (109 : Int32), (101 : Int32), (110 : Int32), (116 : Int32)]), own_Go pp_ ee_ bb_ (fun s₂ oo_ => s₂.status = .running ∧ Ended s₂ bb_ oo_ ∧ (∃ vv_ LL_, oo_ = .returned vv_ ∧ Qrm0 Z p1 p2 q3 h0 n0 vv_ s₂.heap LL_ ∧ IB Z s₂.vm ["death", "disability", "retirement", "other", ""] ∧ ReturnedEndW ss_ oo_ s₂ LL_ room_1.cells room_1.slots)) Ts_ (mkF mm_ 148 #[vi p1, vi p2, .val (.long q3), .second, vi ki, vi mo, vr al, vi dc, .val .null, un] []) := by
  intro Ts_ locs_ hs_ ki mo dc al tl vms_ ks_ Xs_ es_ Ns_ Ks_ Os_ hSs_ hks_ hZs_ howns_ Is_ Lts0_ sp0_
  show Go_ Ts_ (mkF mm_ 148 #[vi p1, vi p2, .val (.long q3), .second, vi ki, vi mo, vr al, vi dc, .val .null, un] [])
  refine sp_ (fun t_ k_ => XS.aload Xs_.here hx rfl (B_ at_148) rfl rfl k_) ?_
  show Go_ Ts_ (mkF mm_ 150 #[vi p1, vi p2, .val (.long q3), .second, vi ki, vi mo, vr al, vi dc, .val .null, un] [.null])
  obtain ⟨_, T79, Lc79, X79, hQ79, st79⟩ := own_cS Xs_ hx hZs_ howns_ (w_ hw 73 rfl) (w_ hw 74 rfl) (w_ hw 75 rfl) (w_ hw 76 rfl) (by decide) (backOf (W := 0) (rmOfN l Z a0 hw []  hs_ n0 Os_ G_ ) hZs_ (w_ hw 76 rfl) (w_ hw 75 rfl) (by decide) (by decide)) (g := (mkF mm_ 150 #[vi p1, vi p2, .val (.long q3), .second, vi ki, vi mo, vr al, vi dc, .val .null, un] [.null])) rfl hml.symm (argsL := [.null]) (rest := []) (lenOf pd_11 rfl) rfl (Nat.le_of_eq rfl) (B_ at_150) rfl es_ (by decide) (by decide)
  obtain ⟨rfl, Nq79, Kc79⟩ := hQ79
  have N79 := Fr.app Ns_ Nq79
  refine jp_ st79 ?_
  show Go_ T79 (mkF mm_ 153 #[vi p1, vi p2, .val (.long q3), .second, vi ki, vi mo, vr al, vi dc, .val .null, un] [.null])
  refine sp_ (fun t_ k_ => XS.astore X79.here hx rfl (B_ at_153) rfl rfl (l' := #[vi p1, vi p2, .val (.long q3), .second, vi ki, vi mo, vr al, vi dc, .val .null, .val .null]) rfl (XS.aload X79.here hx rfl (B_ at_155) rfl rfl (XS.aload X79.here hx rfl (B_ at_157) rfl rfl k_))) ?_
  show Go_ T79 (mkF mm_ 159 #[vi p1, vi p2, .val (.long q3), .second, vi ki, vi mo, vr al, vi dc, .val .null, .val .null] [.null, .null])
  have O81 : Old Z n0 T79.heap := (Os_.keep Kc79 all0)
  obtain ⟨_, T80, Lc80, X80, hQ80, st80⟩ := own_cS X79 hx hZs_ howns_ (w_ hw 107 rfl) (w_ hw 108 rfl) (w_ hw 11 rfl) (w_ hw 109 rfl) (by decide) (backOf (W := 1) (rmExN l Z a0 hw []  T79.heap n0 O81 ) hZs_ (w_ hw 109 rfl) (w_ hw 11 rfl) (by decide) (by decide)) (g := (mkF mm_ 159 #[vi p1, vi p2, .val (.long q3), .second, vi ki, vi mo, vr al, vi dc, .val .null, .val .null] [.null, .null])) rfl hml.symm (argsL := [.null]) (rest := [.null]) (lenOf pd_11 rfl) rfl (Nat.le_of_eq rfl) (B_ at_159) rfl rfl (by decide) (by decide)
  obtain ⟨rfl, rfl, Eh80⟩ := hQ80
  have N80 := Fr.app N79 (Fr.nil n0)
  refine jp_ st80 ?_
  show Go_ T80 (mkF mm_ 162 #[vi p1, vi p2, .val (.long q3), .second, vi ki, vi mo, vr al, vi dc, .val .null, .val .null] [.null, .null])
  refine sp_ (fun t_ k_ => Jvm.RoadKit.acmp (g := (mkF mm_ 162 #[vi p1, vi p2, .val (.long q3), .second, vi ki, vi mo, vr al, vi dc, .val .null, .val .null] [.null, .null])) X80 hx rfl rfl rfl (pc0 := 162) (pc' := 165) (same := true) rfl (B_ at_162) rfl (decide_eq_true rfl) (by decide) (by decide) (XS.iconst X80.here hx rfl (B_ at_165) (XS.goto X80.here hx rfl (pc0 := 166) (pc' := 170) rfl (B_ at_166) (by decide) (by decide) k_))) ?_
  show Go_ T80 (mkF mm_ 170 #[vi p1, vi p2, .val (.long q3), .second, vi ki, vi mo, vr al, vi dc, .val .null, .val .null] [(.int 1)])
  have K82 : Keep h0 T79.heap [] := (Ks_.trans Kc79 all0)
  obtain ⟨fs, hr, hrun, hended, hEnd⟩ := X80.leaveW hSs_ (by rw [Eh80]; exact (Nat.le_trans hks_ Kc79.1)) (v := some (.int 1)) (rN Bd.returns)
  refine ⟨_, _, ?_, hrun, hended, _, _, rfl, ?_, own_IB_mono (own_IB_warm Is_ X80.warmed) (by intro t_ h_; first | exact h_ | exact List.mem_cons_of_mem _ h_ | (revert t_ h_; decide)), own_endMono hEnd (by decide) (by decide)⟩
  · exact retN X80 hx (t := .boolean) Bd.returns (by simp) (B_ at_170) hr
  · show Qrm0 Z p1 p2 q3 h0 n0 (some (.int 1)) T80.heap _
    rw [Eh80]
    exact ⟨rfl, N80, K82⟩
 have seg_t2s : ∀ (Ts_ : State) (locs_ : List Loc) (hs_ : Heap) (ki : Int32) (mo : Int32) (dc : Int32) (al : Addr) (tl : Addr) (inp : Addr) (ti : Addr) (cs : List Int32) (vms_ : Vm) (ks_ : Nat) (Xs_ : Stand pp_ l ee_ room_1 (ss_.setVm vms_) mm_ #[(.int p1), (.int p2), (.long q3)] bb_ me_ cc_ Ts_ locs_ 16 2600) (es_ : Ts_.heap = hs_) (Ns_ : Fr n0 locs_) (Ks_ : Keep h0 hs_ []) (Os_ : Old Z n0 hs_) (hSs_ : ss_.Since vms_ ks_) (hks_ : ks_ ≤ hs_.size) (hZs_ : Z.Warmed39 (ss_.setVm vms_).vm) (howns_ : (ss_.setVm vms_).vm.findClass sc1 = some mm_.cls) (Is_ : IB Z vms_ ["retirement", ""]) (Lts0_ : Lit (ss_.setVm vms_) sc1 11 al) (sp0_ : own_Str Z hs_ al tl [(114 : Int32), (101 : Int32), (116 : Int32), (105 : Int32), (114 : Int32), (101 : Int32), (109 : Int32), (101 : Int32), (110 : Int32), (116 : Int32)]) (sp1_ : own_Str Z hs_ inp ti cs), own_Go pp_ ee_ bb_ (fun s₂ oo_ => s₂.status = .running ∧ Ended s₂ bb_ oo_ ∧ (∃ vv_ LL_, oo_ = .returned vv_ ∧ Qrm0 Z p1 p2 q3 h0 n0 vv_ s₂.heap LL_ ∧ IB Z s₂.vm ["death", "disability", "retirement", "other", ""] ∧ ReturnedEndW ss_ oo_ s₂ LL_ room_1.cells room_1.slots)) Ts_ (mkF mm_ 148 #[vi p1, vi p2, .val (.long q3), .second, vi ki, vi mo, vr al, vi dc, vr inp, un] []) := by
  intro Ts_ locs_ hs_ ki mo dc al tl inp ti cs vms_ ks_ Xs_ es_ Ns_ Ks_ Os_ hSs_ hks_ hZs_ howns_ Is_ Lts0_ sp0_ sp1_
  show Go_ Ts_ (mkF mm_ 148 #[vi p1, vi p2, .val (.long q3), .second, vi ki, vi mo, vr al, vi dc, vr inp, un] [])
  by_cases hw0 : cs = [(100 : Int32), (101 : Int32), (97 : Int32), (116 : Int32), (104 : Int32)]
  · skip
    refine sp_ (fun t_ k_ => XS.aload Xs_.here hx rfl (B_ at_148) rfl rfl k_) ?_
    show Go_ Ts_ (mkF mm_ 150 #[vi p1, vi p2, .val (.long q3), .second, vi ki, vi mo, vr al, vi dc, vr inp, un] [(.ref inp)])
    obtain ⟨_, T83, Lc83, X83, hQ83, st83⟩ := own_cS Xs_ hx hZs_ howns_ (w_ hw 73 rfl) (w_ hw 74 rfl) (w_ hw 75 rfl) (w_ hw 76 rfl) (by decide) (backOf (W := 0) (rmOf l Z a0 hw [] inp ti [(100 : Int32), (101 : Int32), (97 : Int32), (116 : Int32), (104 : Int32)] hs_ n0 Os_ G_ (sp1_.cast hw0)) hZs_ (w_ hw 76 rfl) (w_ hw 75 rfl) (by decide) (by decide)) (g := (mkF mm_ 150 #[vi p1, vi p2, .val (.long q3), .second, vi ki, vi mo, vr al, vi dc, vr inp, un] [(.ref inp)])) rfl hml.symm (argsL := [(.ref inp)]) (rest := []) (lenOf pd_11 rfl) rfl (Nat.le_of_eq rfl) (B_ at_150) rfl es_ (by decide) (by decide)
    obtain ⟨v_83, rfl, Nq83, Kc83, r83_0⟩ := hQ83
    have N83 := Fr.app Ns_ Nq83
    refine jp_ st83 ?_
    obtain rfl : v_83 = .ref w_0 := r83_0.1 rfl
    show Go_ T83 (mkF mm_ 153 #[vi p1, vi p2, .val (.long q3), .second, vi ki, vi mo, vr al, vi dc, vr inp, un] [(.ref w_0)])
    refine sp_ (fun t_ k_ => XS.astore X83.here hx rfl (B_ at_153) rfl rfl (l' := #[vi p1, vi p2, .val (.long q3), .second, vi ki, vi mo, vr al, vi dc, vr inp, vr w_0]) rfl (XS.aload X83.here hx rfl (B_ at_155) rfl rfl (XS.aload X83.here hx rfl (B_ at_157) rfl rfl k_))) ?_
    show Go_ T83 (mkF mm_ 159 #[vi p1, vi p2, .val (.long q3), .second, vi ki, vi mo, vr al, vi dc, vr inp, vr w_0] [(.ref inp), (.ref w_0)])
    have f85 : own_Str Z T83.heap inp ti [(100 : Int32), (101 : Int32), (97 : Int32), (116 : Int32), (104 : Int32)] := ((sp1_.cast hw0).keep Kc83 nin0 nin0)
    have f86 : own_Str Z T83.heap al tl [(114 : Int32), (101 : Int32), (116 : Int32), (105 : Int32), (114 : Int32), (101 : Int32), (109 : Int32), (101 : Int32), (110 : Int32), (116 : Int32)] := (sp0_.keep Kc83 nin0 nin0)
    have O87 : Old Z n0 T83.heap := (Os_.keep Kc83 all0)
    obtain ⟨_, _, ⟨T84, Lx84, kx84, nx84⟩, -, X84, hS84, hG84, ⟨Lc84, hQ84, l84, y84, z84⟩, st84⟩ := Jvm.RoadKit.callSS X83 hx (y := ym0) howns_ (mvT hZs_ (w_ hw 107 rfl)) (mvT hZs_ (w_ hw 108 rfl)) (mvT hZs_ (w_ hw 11 rfl)) (mvT hZs_ (w_ hw 109 rfl)) (by decide) (own_backI (J := fun q_ => IB Z q_ ["retirement", ""] ∧ Lit (Z.setVm q_) sc1 11 al) (J' := fun q_ => IB Z q_ ["death", "disability", "retirement", "other", ""]) (W := 1) (rmEx2 l Z a0 hw [] inp ti [(100 : Int32), (101 : Int32), (97 : Int32), (116 : Int32), (104 : Int32)] al tl T83.heap n0 O87 G_ f85 f86) hZs_ (w_ hw 109 rfl) (w_ hw 11 rfl) (by decide) (by decide)) (g := (mkF mm_ 159 #[vi p1, vi p2, .val (.long q3), .second, vi ki, vi mo, vr al, vi dc, vr inp, vr w_0] [(.ref inp), (.ref w_0)])) rfl hml.symm (argsL := [(.ref inp)]) (rest := [(.ref w_0)]) (lenOf pd_11 rfl) rfl (Nat.le_of_eq rfl) (B_ at_159) (fun vm_ hvm_ => ⟨rfl, rfl, (by decide : 17 + 6 ≤ _), (by decide : 2604 + 92 ≤ _), ⟨own_IB_mono (own_IB_warm Is_ hvm_) (by intro t_ h_; first | exact h_ | exact List.mem_cons_of_mem _ h_ | (revert t_ h_; decide)), Lit.stays Lts0_ hvm_.wide⟩⟩)
    dsimp only [Pt.U, Pt.locs, Pt.cells, Pt.slots] at X84 l84 y84 z84 st84 hQ84 hS84 hG84
    subst l84 y84 z84
    have Lk88 := Lit.stays Lts0_ hS84.1
    obtain ⟨X84, hS84, hZ84, hown84⟩ := rebS (n1 := T83.heap.size) hSs_ (Nat.le_trans hks_ Kc83.1) X84 hS84 hG84 hZs_ howns_
    obtain ⟨hQ84, hIq84⟩ := hQ84
    obtain ⟨v_84, rfl, Nq84, Kc84, r84_0⟩ := hQ84
    have N84 := Fr.app N83 Nq84
    refine jp_ st84 ?_
    obtain rfl : v_84 = .ref w_0 := r84_0.1 rfl
    show Go_ T84 (mkF mm_ 162 #[vi p1, vi p2, .val (.long q3), .second, vi ki, vi mo, vr al, vi dc, vr inp, vr w_0] [(.ref w_0), (.ref w_0)])
    refine sp_ (fun t_ k_ => Jvm.RoadKit.acmp (g := (mkF mm_ 162 #[vi p1, vi p2, .val (.long q3), .second, vi ki, vi mo, vr al, vi dc, vr inp, vr w_0] [(.ref w_0), (.ref w_0)])) X84 hx rfl rfl rfl (pc0 := 162) (pc' := 165) (same := true) rfl (B_ at_162) rfl (decide_eq_true rfl) (by decide) (by decide) (XS.iconst X84.here hx rfl (B_ at_165) (XS.goto X84.here hx rfl (pc0 := 166) (pc' := 170) rfl (B_ at_166) (by decide) (by decide) k_))) ?_
    show Go_ T84 (mkF mm_ 170 #[vi p1, vi p2, .val (.long q3), .second, vi ki, vi mo, vr al, vi dc, vr inp, vr w_0] [(.int 1)])
    have K89 : Keep h0 T84.heap [] := ((Ks_.trans Kc83 all0).trans Kc84 all0)
    obtain ⟨fs, hr, hrun, hended, hEnd⟩ := X84.leaveW hS84 (Nat.le_refl _) (v := some (.int 1)) (rN Bd.returns)
    refine ⟨_, _, ?_, hrun, hended, _, _, rfl, ?_, own_IB_mono (own_IB_warm hIq84 X84.warmed) (by intro t_ h_; first | exact h_ | exact List.mem_cons_of_mem _ h_ | (revert t_ h_; decide)), own_endMono hEnd (by decide) (by decide)⟩
    · exact retN X84 hx (t := .boolean) Bd.returns (by simp) (B_ at_170) hr
    · show Qrm0 Z p1 p2 q3 h0 n0 (some (.int 1)) T84.heap _
      exact ⟨rfl, N84, K89⟩
  · skip
    by_cases hw1 : cs = [(100 : Int32), (105 : Int32), (115 : Int32), (97 : Int32), (98 : Int32), (105 : Int32), (108 : Int32), (105 : Int32), (116 : Int32), (121 : Int32)]
    · skip
      refine sp_ (fun t_ k_ => XS.aload Xs_.here hx rfl (B_ at_148) rfl rfl k_) ?_
      show Go_ Ts_ (mkF mm_ 150 #[vi p1, vi p2, .val (.long q3), .second, vi ki, vi mo, vr al, vi dc, vr inp, un] [(.ref inp)])
      obtain ⟨_, T90, Lc90, X90, hQ90, st90⟩ := own_cS Xs_ hx hZs_ howns_ (w_ hw 73 rfl) (w_ hw 74 rfl) (w_ hw 75 rfl) (w_ hw 76 rfl) (by decide) (backOf (W := 0) (rmOf l Z a0 hw [] inp ti [(100 : Int32), (105 : Int32), (115 : Int32), (97 : Int32), (98 : Int32), (105 : Int32), (108 : Int32), (105 : Int32), (116 : Int32), (121 : Int32)] hs_ n0 Os_ G_ (sp1_.cast hw1)) hZs_ (w_ hw 76 rfl) (w_ hw 75 rfl) (by decide) (by decide)) (g := (mkF mm_ 150 #[vi p1, vi p2, .val (.long q3), .second, vi ki, vi mo, vr al, vi dc, vr inp, un] [(.ref inp)])) rfl hml.symm (argsL := [(.ref inp)]) (rest := []) (lenOf pd_11 rfl) rfl (Nat.le_of_eq rfl) (B_ at_150) rfl es_ (by decide) (by decide)
      obtain ⟨v_90, rfl, Nq90, Kc90, r90_0⟩ := hQ90
      have N90 := Fr.app Ns_ Nq90
      refine jp_ st90 ?_
      obtain rfl : v_90 = .ref w_1 := r90_0.2.1 rfl
      show Go_ T90 (mkF mm_ 153 #[vi p1, vi p2, .val (.long q3), .second, vi ki, vi mo, vr al, vi dc, vr inp, un] [(.ref w_1)])
      refine sp_ (fun t_ k_ => XS.astore X90.here hx rfl (B_ at_153) rfl rfl (l' := #[vi p1, vi p2, .val (.long q3), .second, vi ki, vi mo, vr al, vi dc, vr inp, vr w_1]) rfl (XS.aload X90.here hx rfl (B_ at_155) rfl rfl (XS.aload X90.here hx rfl (B_ at_157) rfl rfl k_))) ?_
      show Go_ T90 (mkF mm_ 159 #[vi p1, vi p2, .val (.long q3), .second, vi ki, vi mo, vr al, vi dc, vr inp, vr w_1] [(.ref inp), (.ref w_1)])
      have f92 : own_Str Z T90.heap inp ti [(100 : Int32), (105 : Int32), (115 : Int32), (97 : Int32), (98 : Int32), (105 : Int32), (108 : Int32), (105 : Int32), (116 : Int32), (121 : Int32)] := ((sp1_.cast hw1).keep Kc90 nin0 nin0)
      have f93 : own_Str Z T90.heap al tl [(114 : Int32), (101 : Int32), (116 : Int32), (105 : Int32), (114 : Int32), (101 : Int32), (109 : Int32), (101 : Int32), (110 : Int32), (116 : Int32)] := (sp0_.keep Kc90 nin0 nin0)
      have O94 : Old Z n0 T90.heap := (Os_.keep Kc90 all0)
      obtain ⟨_, _, ⟨T91, Lx91, kx91, nx91⟩, -, X91, hS91, hG91, ⟨Lc91, hQ91, l91, y91, z91⟩, st91⟩ := Jvm.RoadKit.callSS X90 hx (y := ym0) howns_ (mvT hZs_ (w_ hw 107 rfl)) (mvT hZs_ (w_ hw 108 rfl)) (mvT hZs_ (w_ hw 11 rfl)) (mvT hZs_ (w_ hw 109 rfl)) (by decide) (own_backI (J := fun q_ => IB Z q_ ["retirement", ""] ∧ Lit (Z.setVm q_) sc1 11 al) (J' := fun q_ => IB Z q_ ["death", "disability", "retirement", "other", ""]) (W := 1) (rmEx2 l Z a0 hw [] inp ti [(100 : Int32), (105 : Int32), (115 : Int32), (97 : Int32), (98 : Int32), (105 : Int32), (108 : Int32), (105 : Int32), (116 : Int32), (121 : Int32)] al tl T90.heap n0 O94 G_ f92 f93) hZs_ (w_ hw 109 rfl) (w_ hw 11 rfl) (by decide) (by decide)) (g := (mkF mm_ 159 #[vi p1, vi p2, .val (.long q3), .second, vi ki, vi mo, vr al, vi dc, vr inp, vr w_1] [(.ref inp), (.ref w_1)])) rfl hml.symm (argsL := [(.ref inp)]) (rest := [(.ref w_1)]) (lenOf pd_11 rfl) rfl (Nat.le_of_eq rfl) (B_ at_159) (fun vm_ hvm_ => ⟨rfl, rfl, (by decide : 17 + 6 ≤ _), (by decide : 2604 + 92 ≤ _), ⟨own_IB_mono (own_IB_warm Is_ hvm_) (by intro t_ h_; first | exact h_ | exact List.mem_cons_of_mem _ h_ | (revert t_ h_; decide)), Lit.stays Lts0_ hvm_.wide⟩⟩)
      dsimp only [Pt.U, Pt.locs, Pt.cells, Pt.slots] at X91 l91 y91 z91 st91 hQ91 hS91 hG91
      subst l91 y91 z91
      have Lk95 := Lit.stays Lts0_ hS91.1
      obtain ⟨X91, hS91, hZ91, hown91⟩ := rebS (n1 := T90.heap.size) hSs_ (Nat.le_trans hks_ Kc90.1) X91 hS91 hG91 hZs_ howns_
      obtain ⟨hQ91, hIq91⟩ := hQ91
      obtain ⟨v_91, rfl, Nq91, Kc91, r91_0⟩ := hQ91
      have N91 := Fr.app N90 Nq91
      refine jp_ st91 ?_
      obtain rfl : v_91 = .ref w_1 := r91_0.2.1 rfl
      show Go_ T91 (mkF mm_ 162 #[vi p1, vi p2, .val (.long q3), .second, vi ki, vi mo, vr al, vi dc, vr inp, vr w_1] [(.ref w_1), (.ref w_1)])
      refine sp_ (fun t_ k_ => Jvm.RoadKit.acmp (g := (mkF mm_ 162 #[vi p1, vi p2, .val (.long q3), .second, vi ki, vi mo, vr al, vi dc, vr inp, vr w_1] [(.ref w_1), (.ref w_1)])) X91 hx rfl rfl rfl (pc0 := 162) (pc' := 165) (same := true) rfl (B_ at_162) rfl (decide_eq_true rfl) (by decide) (by decide) (XS.iconst X91.here hx rfl (B_ at_165) (XS.goto X91.here hx rfl (pc0 := 166) (pc' := 170) rfl (B_ at_166) (by decide) (by decide) k_))) ?_
      show Go_ T91 (mkF mm_ 170 #[vi p1, vi p2, .val (.long q3), .second, vi ki, vi mo, vr al, vi dc, vr inp, vr w_1] [(.int 1)])
      have K96 : Keep h0 T91.heap [] := ((Ks_.trans Kc90 all0).trans Kc91 all0)
      obtain ⟨fs, hr, hrun, hended, hEnd⟩ := X91.leaveW hS91 (Nat.le_refl _) (v := some (.int 1)) (rN Bd.returns)
      refine ⟨_, _, ?_, hrun, hended, _, _, rfl, ?_, own_IB_mono (own_IB_warm hIq91 X91.warmed) (by intro t_ h_; first | exact h_ | exact List.mem_cons_of_mem _ h_ | (revert t_ h_; decide)), own_endMono hEnd (by decide) (by decide)⟩
      · exact retN X91 hx (t := .boolean) Bd.returns (by simp) (B_ at_170) hr
      · show Qrm0 Z p1 p2 q3 h0 n0 (some (.int 1)) T91.heap _
        exact ⟨rfl, N91, K96⟩
    · skip
      by_cases hw2 : cs = [(114 : Int32), (101 : Int32), (116 : Int32), (105 : Int32), (114 : Int32), (101 : Int32), (109 : Int32), (101 : Int32), (110 : Int32), (116 : Int32)]
      · skip
        refine sp_ (fun t_ k_ => XS.aload Xs_.here hx rfl (B_ at_148) rfl rfl k_) ?_
        show Go_ Ts_ (mkF mm_ 150 #[vi p1, vi p2, .val (.long q3), .second, vi ki, vi mo, vr al, vi dc, vr inp, un] [(.ref inp)])
        obtain ⟨_, T97, Lc97, X97, hQ97, st97⟩ := own_cS Xs_ hx hZs_ howns_ (w_ hw 73 rfl) (w_ hw 74 rfl) (w_ hw 75 rfl) (w_ hw 76 rfl) (by decide) (backOf (W := 0) (rmOf l Z a0 hw [] inp ti [(114 : Int32), (101 : Int32), (116 : Int32), (105 : Int32), (114 : Int32), (101 : Int32), (109 : Int32), (101 : Int32), (110 : Int32), (116 : Int32)] hs_ n0 Os_ G_ (sp1_.cast hw2)) hZs_ (w_ hw 76 rfl) (w_ hw 75 rfl) (by decide) (by decide)) (g := (mkF mm_ 150 #[vi p1, vi p2, .val (.long q3), .second, vi ki, vi mo, vr al, vi dc, vr inp, un] [(.ref inp)])) rfl hml.symm (argsL := [(.ref inp)]) (rest := []) (lenOf pd_11 rfl) rfl (Nat.le_of_eq rfl) (B_ at_150) rfl es_ (by decide) (by decide)
        obtain ⟨v_97, rfl, Nq97, Kc97, r97_0⟩ := hQ97
        have N97 := Fr.app Ns_ Nq97
        refine jp_ st97 ?_
        obtain rfl : v_97 = .ref w_2 := r97_0.2.2.1 rfl
        show Go_ T97 (mkF mm_ 153 #[vi p1, vi p2, .val (.long q3), .second, vi ki, vi mo, vr al, vi dc, vr inp, un] [(.ref w_2)])
        refine sp_ (fun t_ k_ => XS.astore X97.here hx rfl (B_ at_153) rfl rfl (l' := #[vi p1, vi p2, .val (.long q3), .second, vi ki, vi mo, vr al, vi dc, vr inp, vr w_2]) rfl (XS.aload X97.here hx rfl (B_ at_155) rfl rfl (XS.aload X97.here hx rfl (B_ at_157) rfl rfl k_))) ?_
        show Go_ T97 (mkF mm_ 159 #[vi p1, vi p2, .val (.long q3), .second, vi ki, vi mo, vr al, vi dc, vr inp, vr w_2] [(.ref inp), (.ref w_2)])
        have f99 : own_Str Z T97.heap inp ti [(114 : Int32), (101 : Int32), (116 : Int32), (105 : Int32), (114 : Int32), (101 : Int32), (109 : Int32), (101 : Int32), (110 : Int32), (116 : Int32)] := ((sp1_.cast hw2).keep Kc97 nin0 nin0)
        have f100 : own_Str Z T97.heap al tl [(114 : Int32), (101 : Int32), (116 : Int32), (105 : Int32), (114 : Int32), (101 : Int32), (109 : Int32), (101 : Int32), (110 : Int32), (116 : Int32)] := (sp0_.keep Kc97 nin0 nin0)
        have O101 : Old Z n0 T97.heap := (Os_.keep Kc97 all0)
        obtain ⟨_, _, ⟨T98, Lx98, kx98, nx98⟩, -, X98, hS98, hG98, ⟨Lc98, hQ98, l98, y98, z98⟩, st98⟩ := Jvm.RoadKit.callSS X97 hx (y := ym0) howns_ (mvT hZs_ (w_ hw 107 rfl)) (mvT hZs_ (w_ hw 108 rfl)) (mvT hZs_ (w_ hw 11 rfl)) (mvT hZs_ (w_ hw 109 rfl)) (by decide) (own_backI (J := fun q_ => IB Z q_ ["retirement", ""] ∧ Lit (Z.setVm q_) sc1 11 al) (J' := fun q_ => IB Z q_ ["death", "disability", "retirement", "other", ""]) (W := 1) (rmEx2 l Z a0 hw [] inp ti [(114 : Int32), (101 : Int32), (116 : Int32), (105 : Int32), (114 : Int32), (101 : Int32), (109 : Int32), (101 : Int32), (110 : Int32), (116 : Int32)] al tl T97.heap n0 O101 G_ f99 f100) hZs_ (w_ hw 109 rfl) (w_ hw 11 rfl) (by decide) (by decide)) (g := (mkF mm_ 159 #[vi p1, vi p2, .val (.long q3), .second, vi ki, vi mo, vr al, vi dc, vr inp, vr w_2] [(.ref inp), (.ref w_2)])) rfl hml.symm (argsL := [(.ref inp)]) (rest := [(.ref w_2)]) (lenOf pd_11 rfl) rfl (Nat.le_of_eq rfl) (B_ at_159) (fun vm_ hvm_ => ⟨rfl, rfl, (by decide : 17 + 6 ≤ _), (by decide : 2604 + 92 ≤ _), ⟨own_IB_mono (own_IB_warm Is_ hvm_) (by intro t_ h_; first | exact h_ | exact List.mem_cons_of_mem _ h_ | (revert t_ h_; decide)), Lit.stays Lts0_ hvm_.wide⟩⟩)
        dsimp only [Pt.U, Pt.locs, Pt.cells, Pt.slots] at X98 l98 y98 z98 st98 hQ98 hS98 hG98
        subst l98 y98 z98
        have Lk102 := Lit.stays Lts0_ hS98.1
        obtain ⟨X98, hS98, hZ98, hown98⟩ := rebS (n1 := T97.heap.size) hSs_ (Nat.le_trans hks_ Kc97.1) X98 hS98 hG98 hZs_ howns_
        obtain ⟨hQ98, hIq98⟩ := hQ98
        obtain ⟨v_98, rfl, Nq98, Kc98, r98_0⟩ := hQ98
        have N98 := Fr.app N97 Nq98
        refine jp_ st98 ?_
        obtain rfl : v_98 = .ref w_2 := r98_0.2.2.1 rfl
        show Go_ T98 (mkF mm_ 162 #[vi p1, vi p2, .val (.long q3), .second, vi ki, vi mo, vr al, vi dc, vr inp, vr w_2] [(.ref w_2), (.ref w_2)])
        refine sp_ (fun t_ k_ => Jvm.RoadKit.acmp (g := (mkF mm_ 162 #[vi p1, vi p2, .val (.long q3), .second, vi ki, vi mo, vr al, vi dc, vr inp, vr w_2] [(.ref w_2), (.ref w_2)])) X98 hx rfl rfl rfl (pc0 := 162) (pc' := 165) (same := true) rfl (B_ at_162) rfl (decide_eq_true rfl) (by decide) (by decide) (XS.iconst X98.here hx rfl (B_ at_165) (XS.goto X98.here hx rfl (pc0 := 166) (pc' := 170) rfl (B_ at_166) (by decide) (by decide) k_))) ?_
        show Go_ T98 (mkF mm_ 170 #[vi p1, vi p2, .val (.long q3), .second, vi ki, vi mo, vr al, vi dc, vr inp, vr w_2] [(.int 1)])
        have K103 : Keep h0 T98.heap [] := ((Ks_.trans Kc97 all0).trans Kc98 all0)
        obtain ⟨fs, hr, hrun, hended, hEnd⟩ := X98.leaveW hS98 (Nat.le_refl _) (v := some (.int 1)) (rN Bd.returns)
        refine ⟨_, _, ?_, hrun, hended, _, _, rfl, ?_, own_IB_mono (own_IB_warm hIq98 X98.warmed) (by intro t_ h_; first | exact h_ | exact List.mem_cons_of_mem _ h_ | (revert t_ h_; decide)), own_endMono hEnd (by decide) (by decide)⟩
        · exact retN X98 hx (t := .boolean) Bd.returns (by simp) (B_ at_170) hr
        · show Qrm0 Z p1 p2 q3 h0 n0 (some (.int 1)) T98.heap _
          exact ⟨rfl, N98, K103⟩
      · skip
        by_cases hw3 : cs = [(111 : Int32), (116 : Int32), (104 : Int32), (101 : Int32), (114 : Int32)]
        · skip
          refine sp_ (fun t_ k_ => XS.aload Xs_.here hx rfl (B_ at_148) rfl rfl k_) ?_
          show Go_ Ts_ (mkF mm_ 150 #[vi p1, vi p2, .val (.long q3), .second, vi ki, vi mo, vr al, vi dc, vr inp, un] [(.ref inp)])
          obtain ⟨_, T104, Lc104, X104, hQ104, st104⟩ := own_cS Xs_ hx hZs_ howns_ (w_ hw 73 rfl) (w_ hw 74 rfl) (w_ hw 75 rfl) (w_ hw 76 rfl) (by decide) (backOf (W := 0) (rmOf l Z a0 hw [] inp ti [(111 : Int32), (116 : Int32), (104 : Int32), (101 : Int32), (114 : Int32)] hs_ n0 Os_ G_ (sp1_.cast hw3)) hZs_ (w_ hw 76 rfl) (w_ hw 75 rfl) (by decide) (by decide)) (g := (mkF mm_ 150 #[vi p1, vi p2, .val (.long q3), .second, vi ki, vi mo, vr al, vi dc, vr inp, un] [(.ref inp)])) rfl hml.symm (argsL := [(.ref inp)]) (rest := []) (lenOf pd_11 rfl) rfl (Nat.le_of_eq rfl) (B_ at_150) rfl es_ (by decide) (by decide)
          obtain ⟨v_104, rfl, Nq104, Kc104, r104_0⟩ := hQ104
          have N104 := Fr.app Ns_ Nq104
          refine jp_ st104 ?_
          obtain rfl : v_104 = .ref w_3 := r104_0.2.2.2.1 rfl
          show Go_ T104 (mkF mm_ 153 #[vi p1, vi p2, .val (.long q3), .second, vi ki, vi mo, vr al, vi dc, vr inp, un] [(.ref w_3)])
          refine sp_ (fun t_ k_ => XS.astore X104.here hx rfl (B_ at_153) rfl rfl (l' := #[vi p1, vi p2, .val (.long q3), .second, vi ki, vi mo, vr al, vi dc, vr inp, vr w_3]) rfl (XS.aload X104.here hx rfl (B_ at_155) rfl rfl (XS.aload X104.here hx rfl (B_ at_157) rfl rfl k_))) ?_
          show Go_ T104 (mkF mm_ 159 #[vi p1, vi p2, .val (.long q3), .second, vi ki, vi mo, vr al, vi dc, vr inp, vr w_3] [(.ref inp), (.ref w_3)])
          have f106 : own_Str Z T104.heap inp ti [(111 : Int32), (116 : Int32), (104 : Int32), (101 : Int32), (114 : Int32)] := ((sp1_.cast hw3).keep Kc104 nin0 nin0)
          have f107 : own_Str Z T104.heap al tl [(114 : Int32), (101 : Int32), (116 : Int32), (105 : Int32), (114 : Int32), (101 : Int32), (109 : Int32), (101 : Int32), (110 : Int32), (116 : Int32)] := (sp0_.keep Kc104 nin0 nin0)
          have O108 : Old Z n0 T104.heap := (Os_.keep Kc104 all0)
          obtain ⟨_, _, ⟨T105, Lx105, kx105, nx105⟩, -, X105, hS105, hG105, ⟨Lc105, hQ105, l105, y105, z105⟩, st105⟩ := Jvm.RoadKit.callSS X104 hx (y := ym0) howns_ (mvT hZs_ (w_ hw 107 rfl)) (mvT hZs_ (w_ hw 108 rfl)) (mvT hZs_ (w_ hw 11 rfl)) (mvT hZs_ (w_ hw 109 rfl)) (by decide) (own_backI (J := fun q_ => IB Z q_ ["retirement", ""] ∧ Lit (Z.setVm q_) sc1 11 al) (J' := fun q_ => IB Z q_ ["death", "disability", "retirement", "other", ""]) (W := 1) (rmEx2 l Z a0 hw [] inp ti [(111 : Int32), (116 : Int32), (104 : Int32), (101 : Int32), (114 : Int32)] al tl T104.heap n0 O108 G_ f106 f107) hZs_ (w_ hw 109 rfl) (w_ hw 11 rfl) (by decide) (by decide)) (g := (mkF mm_ 159 #[vi p1, vi p2, .val (.long q3), .second, vi ki, vi mo, vr al, vi dc, vr inp, vr w_3] [(.ref inp), (.ref w_3)])) rfl hml.symm (argsL := [(.ref inp)]) (rest := [(.ref w_3)]) (lenOf pd_11 rfl) rfl (Nat.le_of_eq rfl) (B_ at_159) (fun vm_ hvm_ => ⟨rfl, rfl, (by decide : 17 + 6 ≤ _), (by decide : 2604 + 92 ≤ _), ⟨own_IB_mono (own_IB_warm Is_ hvm_) (by intro t_ h_; first | exact h_ | exact List.mem_cons_of_mem _ h_ | (revert t_ h_; decide)), Lit.stays Lts0_ hvm_.wide⟩⟩)
          dsimp only [Pt.U, Pt.locs, Pt.cells, Pt.slots] at X105 l105 y105 z105 st105 hQ105 hS105 hG105
          subst l105 y105 z105
          have Lk109 := Lit.stays Lts0_ hS105.1
          obtain ⟨X105, hS105, hZ105, hown105⟩ := rebS (n1 := T104.heap.size) hSs_ (Nat.le_trans hks_ Kc104.1) X105 hS105 hG105 hZs_ howns_
          obtain ⟨hQ105, hIq105⟩ := hQ105
          obtain ⟨v_105, rfl, Nq105, Kc105, r105_0⟩ := hQ105
          have N105 := Fr.app N104 Nq105
          refine jp_ st105 ?_
          obtain rfl : v_105 = .ref w_3 := r105_0.2.2.2.1 rfl
          show Go_ T105 (mkF mm_ 162 #[vi p1, vi p2, .val (.long q3), .second, vi ki, vi mo, vr al, vi dc, vr inp, vr w_3] [(.ref w_3), (.ref w_3)])
          refine sp_ (fun t_ k_ => Jvm.RoadKit.acmp (g := (mkF mm_ 162 #[vi p1, vi p2, .val (.long q3), .second, vi ki, vi mo, vr al, vi dc, vr inp, vr w_3] [(.ref w_3), (.ref w_3)])) X105 hx rfl rfl rfl (pc0 := 162) (pc' := 165) (same := true) rfl (B_ at_162) rfl (decide_eq_true rfl) (by decide) (by decide) (XS.iconst X105.here hx rfl (B_ at_165) (XS.goto X105.here hx rfl (pc0 := 166) (pc' := 170) rfl (B_ at_166) (by decide) (by decide) k_))) ?_
          show Go_ T105 (mkF mm_ 170 #[vi p1, vi p2, .val (.long q3), .second, vi ki, vi mo, vr al, vi dc, vr inp, vr w_3] [(.int 1)])
          have K110 : Keep h0 T105.heap [] := ((Ks_.trans Kc104 all0).trans Kc105 all0)
          obtain ⟨fs, hr, hrun, hended, hEnd⟩ := X105.leaveW hS105 (Nat.le_refl _) (v := some (.int 1)) (rN Bd.returns)
          refine ⟨_, _, ?_, hrun, hended, _, _, rfl, ?_, own_IB_mono (own_IB_warm hIq105 X105.warmed) (by intro t_ h_; first | exact h_ | exact List.mem_cons_of_mem _ h_ | (revert t_ h_; decide)), own_endMono hEnd (by decide) (by decide)⟩
          · exact retN X105 hx (t := .boolean) Bd.returns (by simp) (B_ at_170) hr
          · show Qrm0 Z p1 p2 q3 h0 n0 (some (.int 1)) T105.heap _
            exact ⟨rfl, N105, K110⟩
        · skip
          refine sp_ (fun t_ k_ => XS.aload Xs_.here hx rfl (B_ at_148) rfl rfl k_) ?_
          show Go_ Ts_ (mkF mm_ 150 #[vi p1, vi p2, .val (.long q3), .second, vi ki, vi mo, vr al, vi dc, vr inp, un] [(.ref inp)])
          obtain ⟨_, T111, Lc111, X111, hQ111, st111⟩ := own_cS Xs_ hx hZs_ howns_ (w_ hw 73 rfl) (w_ hw 74 rfl) (w_ hw 75 rfl) (w_ hw 76 rfl) (by decide) (backOf (W := 0) (rmOf l Z a0 hw [] inp ti cs hs_ n0 Os_ G_ sp1_) hZs_ (w_ hw 76 rfl) (w_ hw 75 rfl) (by decide) (by decide)) (g := (mkF mm_ 150 #[vi p1, vi p2, .val (.long q3), .second, vi ki, vi mo, vr al, vi dc, vr inp, un] [(.ref inp)])) rfl hml.symm (argsL := [(.ref inp)]) (rest := []) (lenOf pd_11 rfl) rfl (Nat.le_of_eq rfl) (B_ at_150) rfl es_ (by decide) (by decide)
          obtain ⟨v_111, rfl, Nq111, Kc111, r111_0⟩ := hQ111
          have N111 := Fr.app Ns_ Nq111
          refine jp_ st111 ?_
          obtain rfl : v_111 = .null := r111_0.2.2.2.2 hw0 hw1 hw2 hw3
          show Go_ T111 (mkF mm_ 153 #[vi p1, vi p2, .val (.long q3), .second, vi ki, vi mo, vr al, vi dc, vr inp, un] [.null])
          refine sp_ (fun t_ k_ => XS.astore X111.here hx rfl (B_ at_153) rfl rfl (l' := #[vi p1, vi p2, .val (.long q3), .second, vi ki, vi mo, vr al, vi dc, vr inp, .val .null]) rfl (XS.aload X111.here hx rfl (B_ at_155) rfl rfl (XS.aload X111.here hx rfl (B_ at_157) rfl rfl k_))) ?_
          show Go_ T111 (mkF mm_ 159 #[vi p1, vi p2, .val (.long q3), .second, vi ki, vi mo, vr al, vi dc, vr inp, .val .null] [(.ref inp), .null])
          have f113 : own_Str Z T111.heap inp ti cs := (sp1_.keep Kc111 nin0 nin0)
          have f114 : own_Str Z T111.heap al tl [(114 : Int32), (101 : Int32), (116 : Int32), (105 : Int32), (114 : Int32), (101 : Int32), (109 : Int32), (101 : Int32), (110 : Int32), (116 : Int32)] := (sp0_.keep Kc111 nin0 nin0)
          have O115 : Old Z n0 T111.heap := (Os_.keep Kc111 all0)
          obtain ⟨_, _, ⟨T112, Lx112, kx112, nx112⟩, -, X112, hS112, hG112, ⟨Lc112, hQ112, l112, y112, z112⟩, st112⟩ := Jvm.RoadKit.callSS X111 hx (y := ym0) howns_ (mvT hZs_ (w_ hw 107 rfl)) (mvT hZs_ (w_ hw 108 rfl)) (mvT hZs_ (w_ hw 11 rfl)) (mvT hZs_ (w_ hw 109 rfl)) (by decide) (own_backI (J := fun q_ => IB Z q_ ["retirement", ""] ∧ Lit (Z.setVm q_) sc1 11 al) (J' := fun q_ => IB Z q_ ["death", "disability", "retirement", "other", ""]) (W := 1) (rmEx2 l Z a0 hw [] inp ti cs al tl T111.heap n0 O115 G_ f113 f114) hZs_ (w_ hw 109 rfl) (w_ hw 11 rfl) (by decide) (by decide)) (g := (mkF mm_ 159 #[vi p1, vi p2, .val (.long q3), .second, vi ki, vi mo, vr al, vi dc, vr inp, .val .null] [(.ref inp), .null])) rfl hml.symm (argsL := [(.ref inp)]) (rest := [.null]) (lenOf pd_11 rfl) rfl (Nat.le_of_eq rfl) (B_ at_159) (fun vm_ hvm_ => ⟨rfl, rfl, (by decide : 17 + 6 ≤ _), (by decide : 2604 + 92 ≤ _), ⟨own_IB_mono (own_IB_warm Is_ hvm_) (by intro t_ h_; first | exact h_ | exact List.mem_cons_of_mem _ h_ | (revert t_ h_; decide)), Lit.stays Lts0_ hvm_.wide⟩⟩)
          dsimp only [Pt.U, Pt.locs, Pt.cells, Pt.slots] at X112 l112 y112 z112 st112 hQ112 hS112 hG112
          subst l112 y112 z112
          have Lk116 := Lit.stays Lts0_ hS112.1
          obtain ⟨X112, hS112, hZ112, hown112⟩ := rebS (n1 := T111.heap.size) hSs_ (Nat.le_trans hks_ Kc111.1) X112 hS112 hG112 hZs_ howns_
          obtain ⟨hQ112, hIq112⟩ := hQ112
          obtain ⟨v_112, rfl, Nq112, Kc112, r112_0⟩ := hQ112
          have N112 := Fr.app N111 Nq112
          refine jp_ st112 ?_
          obtain rfl : v_112 = .null := r112_0.2.2.2.2 hw0 hw1 hw2 hw3
          show Go_ T112 (mkF mm_ 162 #[vi p1, vi p2, .val (.long q3), .second, vi ki, vi mo, vr al, vi dc, vr inp, .val .null] [.null, .null])
          refine sp_ (fun t_ k_ => Jvm.RoadKit.acmp (g := (mkF mm_ 162 #[vi p1, vi p2, .val (.long q3), .second, vi ki, vi mo, vr al, vi dc, vr inp, .val .null] [.null, .null])) X112 hx rfl rfl rfl (pc0 := 162) (pc' := 165) (same := true) rfl (B_ at_162) rfl (decide_eq_true rfl) (by decide) (by decide) (XS.iconst X112.here hx rfl (B_ at_165) (XS.goto X112.here hx rfl (pc0 := 166) (pc' := 170) rfl (B_ at_166) (by decide) (by decide) k_))) ?_
          show Go_ T112 (mkF mm_ 170 #[vi p1, vi p2, .val (.long q3), .second, vi ki, vi mo, vr al, vi dc, vr inp, .val .null] [(.int 1)])
          have K117 : Keep h0 T112.heap [] := ((Ks_.trans Kc111 all0).trans Kc112 all0)
          obtain ⟨fs, hr, hrun, hended, hEnd⟩ := X112.leaveW hS112 (Nat.le_refl _) (v := some (.int 1)) (rN Bd.returns)
          refine ⟨_, _, ?_, hrun, hended, _, _, rfl, ?_, own_IB_mono (own_IB_warm hIq112 X112.warmed) (by intro t_ h_; first | exact h_ | exact List.mem_cons_of_mem _ h_ | (revert t_ h_; decide)), own_endMono hEnd (by decide) (by decide)⟩
          · exact retN X112 hx (t := .boolean) Bd.returns (by simp) (B_ at_170) hr
          · show Qrm0 Z p1 p2 q3 h0 n0 (some (.int 1)) T112.heap _
            exact ⟨rfl, N112, K117⟩
 have seg_t3n : ∀ (Ts_ : State) (locs_ : List Loc) (hs_ : Heap) (ki : Int32) (mo : Int32) (dc : Int32) (al : Addr) (tl : Addr) (vms_ : Vm) (ks_ : Nat) (Xs_ : Stand pp_ l ee_ room_1 (ss_.setVm vms_) mm_ #[(.int p1), (.int p2), (.long q3)] bb_ me_ cc_ Ts_ locs_ 16 2600) (es_ : Ts_.heap = hs_) (Ns_ : Fr n0 locs_) (Ks_ : Keep h0 hs_ []) (Os_ : Old Z n0 hs_) (hSs_ : ss_.Since vms_ ks_) (hks_ : ks_ ≤ hs_.size) (hZs_ : Z.Warmed39 (ss_.setVm vms_).vm) (howns_ : (ss_.setVm vms_).vm.findClass sc1 = some mm_.cls) (Is_ : IB Z vms_ ["other", ""]) (Lts0_ : Lit (ss_.setVm vms_) sc1 13 al) (sp0_ : own_Str Z hs_ al tl [(111 : Int32), (116 : Int32), (104 : Int32), (101 : Int32), (114 : Int32)]), own_Go pp_ ee_ bb_ (fun s₂ oo_ => s₂.status = .running ∧ Ended s₂ bb_ oo_ ∧ (∃ vv_ LL_, oo_ = .returned vv_ ∧ Qrm0 Z p1 p2 q3 h0 n0 vv_ s₂.heap LL_ ∧ IB Z s₂.vm ["death", "disability", "retirement", "other", ""] ∧ ReturnedEndW ss_ oo_ s₂ LL_ room_1.cells room_1.slots)) Ts_ (mkF mm_ 148 #[vi p1, vi p2, .val (.long q3), .second, vi ki, vi mo, vr al, vi dc, .val .null, un] []) := by
  intro Ts_ locs_ hs_ ki mo dc al tl vms_ ks_ Xs_ es_ Ns_ Ks_ Os_ hSs_ hks_ hZs_ howns_ Is_ Lts0_ sp0_
  show Go_ Ts_ (mkF mm_ 148 #[vi p1, vi p2, .val (.long q3), .second, vi ki, vi mo, vr al, vi dc, .val .null, un] [])
  refine sp_ (fun t_ k_ => XS.aload Xs_.here hx rfl (B_ at_148) rfl rfl k_) ?_
  show Go_ Ts_ (mkF mm_ 150 #[vi p1, vi p2, .val (.long q3), .second, vi ki, vi mo, vr al, vi dc, .val .null, un] [.null])
  obtain ⟨_, T118, Lc118, X118, hQ118, st118⟩ := own_cS Xs_ hx hZs_ howns_ (w_ hw 73 rfl) (w_ hw 74 rfl) (w_ hw 75 rfl) (w_ hw 76 rfl) (by decide) (backOf (W := 0) (rmOfN l Z a0 hw []  hs_ n0 Os_ G_ ) hZs_ (w_ hw 76 rfl) (w_ hw 75 rfl) (by decide) (by decide)) (g := (mkF mm_ 150 #[vi p1, vi p2, .val (.long q3), .second, vi ki, vi mo, vr al, vi dc, .val .null, un] [.null])) rfl hml.symm (argsL := [.null]) (rest := []) (lenOf pd_11 rfl) rfl (Nat.le_of_eq rfl) (B_ at_150) rfl es_ (by decide) (by decide)
  obtain ⟨rfl, Nq118, Kc118⟩ := hQ118
  have N118 := Fr.app Ns_ Nq118
  refine jp_ st118 ?_
  show Go_ T118 (mkF mm_ 153 #[vi p1, vi p2, .val (.long q3), .second, vi ki, vi mo, vr al, vi dc, .val .null, un] [.null])
  refine sp_ (fun t_ k_ => XS.astore X118.here hx rfl (B_ at_153) rfl rfl (l' := #[vi p1, vi p2, .val (.long q3), .second, vi ki, vi mo, vr al, vi dc, .val .null, .val .null]) rfl (XS.aload X118.here hx rfl (B_ at_155) rfl rfl (XS.aload X118.here hx rfl (B_ at_157) rfl rfl k_))) ?_
  show Go_ T118 (mkF mm_ 159 #[vi p1, vi p2, .val (.long q3), .second, vi ki, vi mo, vr al, vi dc, .val .null, .val .null] [.null, .null])
  have O120 : Old Z n0 T118.heap := (Os_.keep Kc118 all0)
  obtain ⟨_, T119, Lc119, X119, hQ119, st119⟩ := own_cS X118 hx hZs_ howns_ (w_ hw 107 rfl) (w_ hw 108 rfl) (w_ hw 11 rfl) (w_ hw 109 rfl) (by decide) (backOf (W := 1) (rmExN l Z a0 hw []  T118.heap n0 O120 ) hZs_ (w_ hw 109 rfl) (w_ hw 11 rfl) (by decide) (by decide)) (g := (mkF mm_ 159 #[vi p1, vi p2, .val (.long q3), .second, vi ki, vi mo, vr al, vi dc, .val .null, .val .null] [.null, .null])) rfl hml.symm (argsL := [.null]) (rest := [.null]) (lenOf pd_11 rfl) rfl (Nat.le_of_eq rfl) (B_ at_159) rfl rfl (by decide) (by decide)
  obtain ⟨rfl, rfl, Eh119⟩ := hQ119
  have N119 := Fr.app N118 (Fr.nil n0)
  refine jp_ st119 ?_
  show Go_ T119 (mkF mm_ 162 #[vi p1, vi p2, .val (.long q3), .second, vi ki, vi mo, vr al, vi dc, .val .null, .val .null] [.null, .null])
  refine sp_ (fun t_ k_ => Jvm.RoadKit.acmp (g := (mkF mm_ 162 #[vi p1, vi p2, .val (.long q3), .second, vi ki, vi mo, vr al, vi dc, .val .null, .val .null] [.null, .null])) X119 hx rfl rfl rfl (pc0 := 162) (pc' := 165) (same := true) rfl (B_ at_162) rfl (decide_eq_true rfl) (by decide) (by decide) (XS.iconst X119.here hx rfl (B_ at_165) (XS.goto X119.here hx rfl (pc0 := 166) (pc' := 170) rfl (B_ at_166) (by decide) (by decide) k_))) ?_
  show Go_ T119 (mkF mm_ 170 #[vi p1, vi p2, .val (.long q3), .second, vi ki, vi mo, vr al, vi dc, .val .null, .val .null] [(.int 1)])
  have K121 : Keep h0 T118.heap [] := (Ks_.trans Kc118 all0)
  obtain ⟨fs, hr, hrun, hended, hEnd⟩ := X119.leaveW hSs_ (by rw [Eh119]; exact (Nat.le_trans hks_ Kc118.1)) (v := some (.int 1)) (rN Bd.returns)
  refine ⟨_, _, ?_, hrun, hended, _, _, rfl, ?_, own_IB_mono (own_IB_warm Is_ X119.warmed) (by intro t_ h_; first | exact h_ | exact List.mem_cons_of_mem _ h_ | (revert t_ h_; decide)), own_endMono hEnd (by decide) (by decide)⟩
  · exact retN X119 hx (t := .boolean) Bd.returns (by simp) (B_ at_170) hr
  · show Qrm0 Z p1 p2 q3 h0 n0 (some (.int 1)) T119.heap _
    rw [Eh119]
    exact ⟨rfl, N119, K121⟩
 have seg_t3s : ∀ (Ts_ : State) (locs_ : List Loc) (hs_ : Heap) (ki : Int32) (mo : Int32) (dc : Int32) (al : Addr) (tl : Addr) (inp : Addr) (ti : Addr) (cs : List Int32) (vms_ : Vm) (ks_ : Nat) (Xs_ : Stand pp_ l ee_ room_1 (ss_.setVm vms_) mm_ #[(.int p1), (.int p2), (.long q3)] bb_ me_ cc_ Ts_ locs_ 16 2600) (es_ : Ts_.heap = hs_) (Ns_ : Fr n0 locs_) (Ks_ : Keep h0 hs_ []) (Os_ : Old Z n0 hs_) (hSs_ : ss_.Since vms_ ks_) (hks_ : ks_ ≤ hs_.size) (hZs_ : Z.Warmed39 (ss_.setVm vms_).vm) (howns_ : (ss_.setVm vms_).vm.findClass sc1 = some mm_.cls) (Is_ : IB Z vms_ ["other", ""]) (Lts0_ : Lit (ss_.setVm vms_) sc1 13 al) (sp0_ : own_Str Z hs_ al tl [(111 : Int32), (116 : Int32), (104 : Int32), (101 : Int32), (114 : Int32)]) (sp1_ : own_Str Z hs_ inp ti cs), own_Go pp_ ee_ bb_ (fun s₂ oo_ => s₂.status = .running ∧ Ended s₂ bb_ oo_ ∧ (∃ vv_ LL_, oo_ = .returned vv_ ∧ Qrm0 Z p1 p2 q3 h0 n0 vv_ s₂.heap LL_ ∧ IB Z s₂.vm ["death", "disability", "retirement", "other", ""] ∧ ReturnedEndW ss_ oo_ s₂ LL_ room_1.cells room_1.slots)) Ts_ (mkF mm_ 148 #[vi p1, vi p2, .val (.long q3), .second, vi ki, vi mo, vr al, vi dc, vr inp, un] []) := by
  intro Ts_ locs_ hs_ ki mo dc al tl inp ti cs vms_ ks_ Xs_ es_ Ns_ Ks_ Os_ hSs_ hks_ hZs_ howns_ Is_ Lts0_ sp0_ sp1_
  show Go_ Ts_ (mkF mm_ 148 #[vi p1, vi p2, .val (.long q3), .second, vi ki, vi mo, vr al, vi dc, vr inp, un] [])
  by_cases hw0 : cs = [(100 : Int32), (101 : Int32), (97 : Int32), (116 : Int32), (104 : Int32)]
  · skip
    refine sp_ (fun t_ k_ => XS.aload Xs_.here hx rfl (B_ at_148) rfl rfl k_) ?_
    show Go_ Ts_ (mkF mm_ 150 #[vi p1, vi p2, .val (.long q3), .second, vi ki, vi mo, vr al, vi dc, vr inp, un] [(.ref inp)])
    obtain ⟨_, T122, Lc122, X122, hQ122, st122⟩ := own_cS Xs_ hx hZs_ howns_ (w_ hw 73 rfl) (w_ hw 74 rfl) (w_ hw 75 rfl) (w_ hw 76 rfl) (by decide) (backOf (W := 0) (rmOf l Z a0 hw [] inp ti [(100 : Int32), (101 : Int32), (97 : Int32), (116 : Int32), (104 : Int32)] hs_ n0 Os_ G_ (sp1_.cast hw0)) hZs_ (w_ hw 76 rfl) (w_ hw 75 rfl) (by decide) (by decide)) (g := (mkF mm_ 150 #[vi p1, vi p2, .val (.long q3), .second, vi ki, vi mo, vr al, vi dc, vr inp, un] [(.ref inp)])) rfl hml.symm (argsL := [(.ref inp)]) (rest := []) (lenOf pd_11 rfl) rfl (Nat.le_of_eq rfl) (B_ at_150) rfl es_ (by decide) (by decide)
    obtain ⟨v_122, rfl, Nq122, Kc122, r122_0⟩ := hQ122
    have N122 := Fr.app Ns_ Nq122
    refine jp_ st122 ?_
    obtain rfl : v_122 = .ref w_0 := r122_0.1 rfl
    show Go_ T122 (mkF mm_ 153 #[vi p1, vi p2, .val (.long q3), .second, vi ki, vi mo, vr al, vi dc, vr inp, un] [(.ref w_0)])
    refine sp_ (fun t_ k_ => XS.astore X122.here hx rfl (B_ at_153) rfl rfl (l' := #[vi p1, vi p2, .val (.long q3), .second, vi ki, vi mo, vr al, vi dc, vr inp, vr w_0]) rfl (XS.aload X122.here hx rfl (B_ at_155) rfl rfl (XS.aload X122.here hx rfl (B_ at_157) rfl rfl k_))) ?_
    show Go_ T122 (mkF mm_ 159 #[vi p1, vi p2, .val (.long q3), .second, vi ki, vi mo, vr al, vi dc, vr inp, vr w_0] [(.ref inp), (.ref w_0)])
    have f124 : own_Str Z T122.heap inp ti [(100 : Int32), (101 : Int32), (97 : Int32), (116 : Int32), (104 : Int32)] := ((sp1_.cast hw0).keep Kc122 nin0 nin0)
    have f125 : own_Str Z T122.heap al tl [(111 : Int32), (116 : Int32), (104 : Int32), (101 : Int32), (114 : Int32)] := (sp0_.keep Kc122 nin0 nin0)
    have O126 : Old Z n0 T122.heap := (Os_.keep Kc122 all0)
    obtain ⟨_, _, ⟨T123, Lx123, kx123, nx123⟩, -, X123, hS123, hG123, ⟨Lc123, hQ123, l123, y123, z123⟩, st123⟩ := Jvm.RoadKit.callSS X122 hx (y := ym0) howns_ (mvT hZs_ (w_ hw 107 rfl)) (mvT hZs_ (w_ hw 108 rfl)) (mvT hZs_ (w_ hw 11 rfl)) (mvT hZs_ (w_ hw 109 rfl)) (by decide) (own_backI (J := fun q_ => IB Z q_ ["other", ""] ∧ Lit (Z.setVm q_) sc1 13 al) (J' := fun q_ => IB Z q_ ["death", "disability", "retirement", "other", ""]) (W := 1) (rmEx3 l Z a0 hw [] inp ti [(100 : Int32), (101 : Int32), (97 : Int32), (116 : Int32), (104 : Int32)] al tl T122.heap n0 O126 G_ f124 f125) hZs_ (w_ hw 109 rfl) (w_ hw 11 rfl) (by decide) (by decide)) (g := (mkF mm_ 159 #[vi p1, vi p2, .val (.long q3), .second, vi ki, vi mo, vr al, vi dc, vr inp, vr w_0] [(.ref inp), (.ref w_0)])) rfl hml.symm (argsL := [(.ref inp)]) (rest := [(.ref w_0)]) (lenOf pd_11 rfl) rfl (Nat.le_of_eq rfl) (B_ at_159) (fun vm_ hvm_ => ⟨rfl, rfl, (by decide : 17 + 6 ≤ _), (by decide : 2604 + 112 ≤ _), ⟨own_IB_mono (own_IB_warm Is_ hvm_) (by intro t_ h_; first | exact h_ | exact List.mem_cons_of_mem _ h_ | (revert t_ h_; decide)), Lit.stays Lts0_ hvm_.wide⟩⟩)
    dsimp only [Pt.U, Pt.locs, Pt.cells, Pt.slots] at X123 l123 y123 z123 st123 hQ123 hS123 hG123
    subst l123 y123 z123
    have Lk127 := Lit.stays Lts0_ hS123.1
    obtain ⟨X123, hS123, hZ123, hown123⟩ := rebS (n1 := T122.heap.size) hSs_ (Nat.le_trans hks_ Kc122.1) X123 hS123 hG123 hZs_ howns_
    obtain ⟨hQ123, hIq123⟩ := hQ123
    obtain ⟨v_123, rfl, Nq123, Kc123, r123_0⟩ := hQ123
    have N123 := Fr.app N122 Nq123
    refine jp_ st123 ?_
    obtain rfl : v_123 = .ref w_0 := r123_0.1 rfl
    show Go_ T123 (mkF mm_ 162 #[vi p1, vi p2, .val (.long q3), .second, vi ki, vi mo, vr al, vi dc, vr inp, vr w_0] [(.ref w_0), (.ref w_0)])
    refine sp_ (fun t_ k_ => Jvm.RoadKit.acmp (g := (mkF mm_ 162 #[vi p1, vi p2, .val (.long q3), .second, vi ki, vi mo, vr al, vi dc, vr inp, vr w_0] [(.ref w_0), (.ref w_0)])) X123 hx rfl rfl rfl (pc0 := 162) (pc' := 165) (same := true) rfl (B_ at_162) rfl (decide_eq_true rfl) (by decide) (by decide) (XS.iconst X123.here hx rfl (B_ at_165) (XS.goto X123.here hx rfl (pc0 := 166) (pc' := 170) rfl (B_ at_166) (by decide) (by decide) k_))) ?_
    show Go_ T123 (mkF mm_ 170 #[vi p1, vi p2, .val (.long q3), .second, vi ki, vi mo, vr al, vi dc, vr inp, vr w_0] [(.int 1)])
    have K128 : Keep h0 T123.heap [] := ((Ks_.trans Kc122 all0).trans Kc123 all0)
    obtain ⟨fs, hr, hrun, hended, hEnd⟩ := X123.leaveW hS123 (Nat.le_refl _) (v := some (.int 1)) (rN Bd.returns)
    refine ⟨_, _, ?_, hrun, hended, _, _, rfl, ?_, own_IB_mono (own_IB_warm hIq123 X123.warmed) (by intro t_ h_; first | exact h_ | exact List.mem_cons_of_mem _ h_ | (revert t_ h_; decide)), own_endMono hEnd (by decide) (by decide)⟩
    · exact retN X123 hx (t := .boolean) Bd.returns (by simp) (B_ at_170) hr
    · show Qrm0 Z p1 p2 q3 h0 n0 (some (.int 1)) T123.heap _
      exact ⟨rfl, N123, K128⟩
  · skip
    by_cases hw1 : cs = [(100 : Int32), (105 : Int32), (115 : Int32), (97 : Int32), (98 : Int32), (105 : Int32), (108 : Int32), (105 : Int32), (116 : Int32), (121 : Int32)]
    · skip
      refine sp_ (fun t_ k_ => XS.aload Xs_.here hx rfl (B_ at_148) rfl rfl k_) ?_
      show Go_ Ts_ (mkF mm_ 150 #[vi p1, vi p2, .val (.long q3), .second, vi ki, vi mo, vr al, vi dc, vr inp, un] [(.ref inp)])
      obtain ⟨_, T129, Lc129, X129, hQ129, st129⟩ := own_cS Xs_ hx hZs_ howns_ (w_ hw 73 rfl) (w_ hw 74 rfl) (w_ hw 75 rfl) (w_ hw 76 rfl) (by decide) (backOf (W := 0) (rmOf l Z a0 hw [] inp ti [(100 : Int32), (105 : Int32), (115 : Int32), (97 : Int32), (98 : Int32), (105 : Int32), (108 : Int32), (105 : Int32), (116 : Int32), (121 : Int32)] hs_ n0 Os_ G_ (sp1_.cast hw1)) hZs_ (w_ hw 76 rfl) (w_ hw 75 rfl) (by decide) (by decide)) (g := (mkF mm_ 150 #[vi p1, vi p2, .val (.long q3), .second, vi ki, vi mo, vr al, vi dc, vr inp, un] [(.ref inp)])) rfl hml.symm (argsL := [(.ref inp)]) (rest := []) (lenOf pd_11 rfl) rfl (Nat.le_of_eq rfl) (B_ at_150) rfl es_ (by decide) (by decide)
      obtain ⟨v_129, rfl, Nq129, Kc129, r129_0⟩ := hQ129
      have N129 := Fr.app Ns_ Nq129
      refine jp_ st129 ?_
      obtain rfl : v_129 = .ref w_1 := r129_0.2.1 rfl
      show Go_ T129 (mkF mm_ 153 #[vi p1, vi p2, .val (.long q3), .second, vi ki, vi mo, vr al, vi dc, vr inp, un] [(.ref w_1)])
      refine sp_ (fun t_ k_ => XS.astore X129.here hx rfl (B_ at_153) rfl rfl (l' := #[vi p1, vi p2, .val (.long q3), .second, vi ki, vi mo, vr al, vi dc, vr inp, vr w_1]) rfl (XS.aload X129.here hx rfl (B_ at_155) rfl rfl (XS.aload X129.here hx rfl (B_ at_157) rfl rfl k_))) ?_
      show Go_ T129 (mkF mm_ 159 #[vi p1, vi p2, .val (.long q3), .second, vi ki, vi mo, vr al, vi dc, vr inp, vr w_1] [(.ref inp), (.ref w_1)])
      have f131 : own_Str Z T129.heap inp ti [(100 : Int32), (105 : Int32), (115 : Int32), (97 : Int32), (98 : Int32), (105 : Int32), (108 : Int32), (105 : Int32), (116 : Int32), (121 : Int32)] := ((sp1_.cast hw1).keep Kc129 nin0 nin0)
      have f132 : own_Str Z T129.heap al tl [(111 : Int32), (116 : Int32), (104 : Int32), (101 : Int32), (114 : Int32)] := (sp0_.keep Kc129 nin0 nin0)
      have O133 : Old Z n0 T129.heap := (Os_.keep Kc129 all0)
      obtain ⟨_, _, ⟨T130, Lx130, kx130, nx130⟩, -, X130, hS130, hG130, ⟨Lc130, hQ130, l130, y130, z130⟩, st130⟩ := Jvm.RoadKit.callSS X129 hx (y := ym0) howns_ (mvT hZs_ (w_ hw 107 rfl)) (mvT hZs_ (w_ hw 108 rfl)) (mvT hZs_ (w_ hw 11 rfl)) (mvT hZs_ (w_ hw 109 rfl)) (by decide) (own_backI (J := fun q_ => IB Z q_ ["other", ""] ∧ Lit (Z.setVm q_) sc1 13 al) (J' := fun q_ => IB Z q_ ["death", "disability", "retirement", "other", ""]) (W := 1) (rmEx3 l Z a0 hw [] inp ti [(100 : Int32), (105 : Int32), (115 : Int32), (97 : Int32), (98 : Int32), (105 : Int32), (108 : Int32), (105 : Int32), (116 : Int32), (121 : Int32)] al tl T129.heap n0 O133 G_ f131 f132) hZs_ (w_ hw 109 rfl) (w_ hw 11 rfl) (by decide) (by decide)) (g := (mkF mm_ 159 #[vi p1, vi p2, .val (.long q3), .second, vi ki, vi mo, vr al, vi dc, vr inp, vr w_1] [(.ref inp), (.ref w_1)])) rfl hml.symm (argsL := [(.ref inp)]) (rest := [(.ref w_1)]) (lenOf pd_11 rfl) rfl (Nat.le_of_eq rfl) (B_ at_159) (fun vm_ hvm_ => ⟨rfl, rfl, (by decide : 17 + 6 ≤ _), (by decide : 2604 + 112 ≤ _), ⟨own_IB_mono (own_IB_warm Is_ hvm_) (by intro t_ h_; first | exact h_ | exact List.mem_cons_of_mem _ h_ | (revert t_ h_; decide)), Lit.stays Lts0_ hvm_.wide⟩⟩)
      dsimp only [Pt.U, Pt.locs, Pt.cells, Pt.slots] at X130 l130 y130 z130 st130 hQ130 hS130 hG130
      subst l130 y130 z130
      have Lk134 := Lit.stays Lts0_ hS130.1
      obtain ⟨X130, hS130, hZ130, hown130⟩ := rebS (n1 := T129.heap.size) hSs_ (Nat.le_trans hks_ Kc129.1) X130 hS130 hG130 hZs_ howns_
      obtain ⟨hQ130, hIq130⟩ := hQ130
      obtain ⟨v_130, rfl, Nq130, Kc130, r130_0⟩ := hQ130
      have N130 := Fr.app N129 Nq130
      refine jp_ st130 ?_
      obtain rfl : v_130 = .ref w_1 := r130_0.2.1 rfl
      show Go_ T130 (mkF mm_ 162 #[vi p1, vi p2, .val (.long q3), .second, vi ki, vi mo, vr al, vi dc, vr inp, vr w_1] [(.ref w_1), (.ref w_1)])
      refine sp_ (fun t_ k_ => Jvm.RoadKit.acmp (g := (mkF mm_ 162 #[vi p1, vi p2, .val (.long q3), .second, vi ki, vi mo, vr al, vi dc, vr inp, vr w_1] [(.ref w_1), (.ref w_1)])) X130 hx rfl rfl rfl (pc0 := 162) (pc' := 165) (same := true) rfl (B_ at_162) rfl (decide_eq_true rfl) (by decide) (by decide) (XS.iconst X130.here hx rfl (B_ at_165) (XS.goto X130.here hx rfl (pc0 := 166) (pc' := 170) rfl (B_ at_166) (by decide) (by decide) k_))) ?_
      show Go_ T130 (mkF mm_ 170 #[vi p1, vi p2, .val (.long q3), .second, vi ki, vi mo, vr al, vi dc, vr inp, vr w_1] [(.int 1)])
      have K135 : Keep h0 T130.heap [] := ((Ks_.trans Kc129 all0).trans Kc130 all0)
      obtain ⟨fs, hr, hrun, hended, hEnd⟩ := X130.leaveW hS130 (Nat.le_refl _) (v := some (.int 1)) (rN Bd.returns)
      refine ⟨_, _, ?_, hrun, hended, _, _, rfl, ?_, own_IB_mono (own_IB_warm hIq130 X130.warmed) (by intro t_ h_; first | exact h_ | exact List.mem_cons_of_mem _ h_ | (revert t_ h_; decide)), own_endMono hEnd (by decide) (by decide)⟩
      · exact retN X130 hx (t := .boolean) Bd.returns (by simp) (B_ at_170) hr
      · show Qrm0 Z p1 p2 q3 h0 n0 (some (.int 1)) T130.heap _
        exact ⟨rfl, N130, K135⟩
    · skip
      by_cases hw2 : cs = [(114 : Int32), (101 : Int32), (116 : Int32), (105 : Int32), (114 : Int32), (101 : Int32), (109 : Int32), (101 : Int32), (110 : Int32), (116 : Int32)]
      · skip
        refine sp_ (fun t_ k_ => XS.aload Xs_.here hx rfl (B_ at_148) rfl rfl k_) ?_
        show Go_ Ts_ (mkF mm_ 150 #[vi p1, vi p2, .val (.long q3), .second, vi ki, vi mo, vr al, vi dc, vr inp, un] [(.ref inp)])
        obtain ⟨_, T136, Lc136, X136, hQ136, st136⟩ := own_cS Xs_ hx hZs_ howns_ (w_ hw 73 rfl) (w_ hw 74 rfl) (w_ hw 75 rfl) (w_ hw 76 rfl) (by decide) (backOf (W := 0) (rmOf l Z a0 hw [] inp ti [(114 : Int32), (101 : Int32), (116 : Int32), (105 : Int32), (114 : Int32), (101 : Int32), (109 : Int32), (101 : Int32), (110 : Int32), (116 : Int32)] hs_ n0 Os_ G_ (sp1_.cast hw2)) hZs_ (w_ hw 76 rfl) (w_ hw 75 rfl) (by decide) (by decide)) (g := (mkF mm_ 150 #[vi p1, vi p2, .val (.long q3), .second, vi ki, vi mo, vr al, vi dc, vr inp, un] [(.ref inp)])) rfl hml.symm (argsL := [(.ref inp)]) (rest := []) (lenOf pd_11 rfl) rfl (Nat.le_of_eq rfl) (B_ at_150) rfl es_ (by decide) (by decide)
        obtain ⟨v_136, rfl, Nq136, Kc136, r136_0⟩ := hQ136
        have N136 := Fr.app Ns_ Nq136
        refine jp_ st136 ?_
        obtain rfl : v_136 = .ref w_2 := r136_0.2.2.1 rfl
        show Go_ T136 (mkF mm_ 153 #[vi p1, vi p2, .val (.long q3), .second, vi ki, vi mo, vr al, vi dc, vr inp, un] [(.ref w_2)])
        refine sp_ (fun t_ k_ => XS.astore X136.here hx rfl (B_ at_153) rfl rfl (l' := #[vi p1, vi p2, .val (.long q3), .second, vi ki, vi mo, vr al, vi dc, vr inp, vr w_2]) rfl (XS.aload X136.here hx rfl (B_ at_155) rfl rfl (XS.aload X136.here hx rfl (B_ at_157) rfl rfl k_))) ?_
        show Go_ T136 (mkF mm_ 159 #[vi p1, vi p2, .val (.long q3), .second, vi ki, vi mo, vr al, vi dc, vr inp, vr w_2] [(.ref inp), (.ref w_2)])
        have f138 : own_Str Z T136.heap inp ti [(114 : Int32), (101 : Int32), (116 : Int32), (105 : Int32), (114 : Int32), (101 : Int32), (109 : Int32), (101 : Int32), (110 : Int32), (116 : Int32)] := ((sp1_.cast hw2).keep Kc136 nin0 nin0)
        have f139 : own_Str Z T136.heap al tl [(111 : Int32), (116 : Int32), (104 : Int32), (101 : Int32), (114 : Int32)] := (sp0_.keep Kc136 nin0 nin0)
        have O140 : Old Z n0 T136.heap := (Os_.keep Kc136 all0)
        obtain ⟨_, _, ⟨T137, Lx137, kx137, nx137⟩, -, X137, hS137, hG137, ⟨Lc137, hQ137, l137, y137, z137⟩, st137⟩ := Jvm.RoadKit.callSS X136 hx (y := ym0) howns_ (mvT hZs_ (w_ hw 107 rfl)) (mvT hZs_ (w_ hw 108 rfl)) (mvT hZs_ (w_ hw 11 rfl)) (mvT hZs_ (w_ hw 109 rfl)) (by decide) (own_backI (J := fun q_ => IB Z q_ ["other", ""] ∧ Lit (Z.setVm q_) sc1 13 al) (J' := fun q_ => IB Z q_ ["death", "disability", "retirement", "other", ""]) (W := 1) (rmEx3 l Z a0 hw [] inp ti [(114 : Int32), (101 : Int32), (116 : Int32), (105 : Int32), (114 : Int32), (101 : Int32), (109 : Int32), (101 : Int32), (110 : Int32), (116 : Int32)] al tl T136.heap n0 O140 G_ f138 f139) hZs_ (w_ hw 109 rfl) (w_ hw 11 rfl) (by decide) (by decide)) (g := (mkF mm_ 159 #[vi p1, vi p2, .val (.long q3), .second, vi ki, vi mo, vr al, vi dc, vr inp, vr w_2] [(.ref inp), (.ref w_2)])) rfl hml.symm (argsL := [(.ref inp)]) (rest := [(.ref w_2)]) (lenOf pd_11 rfl) rfl (Nat.le_of_eq rfl) (B_ at_159) (fun vm_ hvm_ => ⟨rfl, rfl, (by decide : 17 + 6 ≤ _), (by decide : 2604 + 112 ≤ _), ⟨own_IB_mono (own_IB_warm Is_ hvm_) (by intro t_ h_; first | exact h_ | exact List.mem_cons_of_mem _ h_ | (revert t_ h_; decide)), Lit.stays Lts0_ hvm_.wide⟩⟩)
        dsimp only [Pt.U, Pt.locs, Pt.cells, Pt.slots] at X137 l137 y137 z137 st137 hQ137 hS137 hG137
        subst l137 y137 z137
        have Lk141 := Lit.stays Lts0_ hS137.1
        obtain ⟨X137, hS137, hZ137, hown137⟩ := rebS (n1 := T136.heap.size) hSs_ (Nat.le_trans hks_ Kc136.1) X137 hS137 hG137 hZs_ howns_
        obtain ⟨hQ137, hIq137⟩ := hQ137
        obtain ⟨v_137, rfl, Nq137, Kc137, r137_0⟩ := hQ137
        have N137 := Fr.app N136 Nq137
        refine jp_ st137 ?_
        obtain rfl : v_137 = .ref w_2 := r137_0.2.2.1 rfl
        show Go_ T137 (mkF mm_ 162 #[vi p1, vi p2, .val (.long q3), .second, vi ki, vi mo, vr al, vi dc, vr inp, vr w_2] [(.ref w_2), (.ref w_2)])
        refine sp_ (fun t_ k_ => Jvm.RoadKit.acmp (g := (mkF mm_ 162 #[vi p1, vi p2, .val (.long q3), .second, vi ki, vi mo, vr al, vi dc, vr inp, vr w_2] [(.ref w_2), (.ref w_2)])) X137 hx rfl rfl rfl (pc0 := 162) (pc' := 165) (same := true) rfl (B_ at_162) rfl (decide_eq_true rfl) (by decide) (by decide) (XS.iconst X137.here hx rfl (B_ at_165) (XS.goto X137.here hx rfl (pc0 := 166) (pc' := 170) rfl (B_ at_166) (by decide) (by decide) k_))) ?_
        show Go_ T137 (mkF mm_ 170 #[vi p1, vi p2, .val (.long q3), .second, vi ki, vi mo, vr al, vi dc, vr inp, vr w_2] [(.int 1)])
        have K142 : Keep h0 T137.heap [] := ((Ks_.trans Kc136 all0).trans Kc137 all0)
        obtain ⟨fs, hr, hrun, hended, hEnd⟩ := X137.leaveW hS137 (Nat.le_refl _) (v := some (.int 1)) (rN Bd.returns)
        refine ⟨_, _, ?_, hrun, hended, _, _, rfl, ?_, own_IB_mono (own_IB_warm hIq137 X137.warmed) (by intro t_ h_; first | exact h_ | exact List.mem_cons_of_mem _ h_ | (revert t_ h_; decide)), own_endMono hEnd (by decide) (by decide)⟩
        · exact retN X137 hx (t := .boolean) Bd.returns (by simp) (B_ at_170) hr
        · show Qrm0 Z p1 p2 q3 h0 n0 (some (.int 1)) T137.heap _
          exact ⟨rfl, N137, K142⟩
      · skip
        by_cases hw3 : cs = [(111 : Int32), (116 : Int32), (104 : Int32), (101 : Int32), (114 : Int32)]
        · skip
          refine sp_ (fun t_ k_ => XS.aload Xs_.here hx rfl (B_ at_148) rfl rfl k_) ?_
          show Go_ Ts_ (mkF mm_ 150 #[vi p1, vi p2, .val (.long q3), .second, vi ki, vi mo, vr al, vi dc, vr inp, un] [(.ref inp)])
          obtain ⟨_, T143, Lc143, X143, hQ143, st143⟩ := own_cS Xs_ hx hZs_ howns_ (w_ hw 73 rfl) (w_ hw 74 rfl) (w_ hw 75 rfl) (w_ hw 76 rfl) (by decide) (backOf (W := 0) (rmOf l Z a0 hw [] inp ti [(111 : Int32), (116 : Int32), (104 : Int32), (101 : Int32), (114 : Int32)] hs_ n0 Os_ G_ (sp1_.cast hw3)) hZs_ (w_ hw 76 rfl) (w_ hw 75 rfl) (by decide) (by decide)) (g := (mkF mm_ 150 #[vi p1, vi p2, .val (.long q3), .second, vi ki, vi mo, vr al, vi dc, vr inp, un] [(.ref inp)])) rfl hml.symm (argsL := [(.ref inp)]) (rest := []) (lenOf pd_11 rfl) rfl (Nat.le_of_eq rfl) (B_ at_150) rfl es_ (by decide) (by decide)
          obtain ⟨v_143, rfl, Nq143, Kc143, r143_0⟩ := hQ143
          have N143 := Fr.app Ns_ Nq143
          refine jp_ st143 ?_
          obtain rfl : v_143 = .ref w_3 := r143_0.2.2.2.1 rfl
          show Go_ T143 (mkF mm_ 153 #[vi p1, vi p2, .val (.long q3), .second, vi ki, vi mo, vr al, vi dc, vr inp, un] [(.ref w_3)])
          refine sp_ (fun t_ k_ => XS.astore X143.here hx rfl (B_ at_153) rfl rfl (l' := #[vi p1, vi p2, .val (.long q3), .second, vi ki, vi mo, vr al, vi dc, vr inp, vr w_3]) rfl (XS.aload X143.here hx rfl (B_ at_155) rfl rfl (XS.aload X143.here hx rfl (B_ at_157) rfl rfl k_))) ?_
          show Go_ T143 (mkF mm_ 159 #[vi p1, vi p2, .val (.long q3), .second, vi ki, vi mo, vr al, vi dc, vr inp, vr w_3] [(.ref inp), (.ref w_3)])
          have f145 : own_Str Z T143.heap inp ti [(111 : Int32), (116 : Int32), (104 : Int32), (101 : Int32), (114 : Int32)] := ((sp1_.cast hw3).keep Kc143 nin0 nin0)
          have f146 : own_Str Z T143.heap al tl [(111 : Int32), (116 : Int32), (104 : Int32), (101 : Int32), (114 : Int32)] := (sp0_.keep Kc143 nin0 nin0)
          have O147 : Old Z n0 T143.heap := (Os_.keep Kc143 all0)
          obtain ⟨_, _, ⟨T144, Lx144, kx144, nx144⟩, -, X144, hS144, hG144, ⟨Lc144, hQ144, l144, y144, z144⟩, st144⟩ := Jvm.RoadKit.callSS X143 hx (y := ym0) howns_ (mvT hZs_ (w_ hw 107 rfl)) (mvT hZs_ (w_ hw 108 rfl)) (mvT hZs_ (w_ hw 11 rfl)) (mvT hZs_ (w_ hw 109 rfl)) (by decide) (own_backI (J := fun q_ => IB Z q_ ["other", ""] ∧ Lit (Z.setVm q_) sc1 13 al) (J' := fun q_ => IB Z q_ ["death", "disability", "retirement", "other", ""]) (W := 1) (rmEx3 l Z a0 hw [] inp ti [(111 : Int32), (116 : Int32), (104 : Int32), (101 : Int32), (114 : Int32)] al tl T143.heap n0 O147 G_ f145 f146) hZs_ (w_ hw 109 rfl) (w_ hw 11 rfl) (by decide) (by decide)) (g := (mkF mm_ 159 #[vi p1, vi p2, .val (.long q3), .second, vi ki, vi mo, vr al, vi dc, vr inp, vr w_3] [(.ref inp), (.ref w_3)])) rfl hml.symm (argsL := [(.ref inp)]) (rest := [(.ref w_3)]) (lenOf pd_11 rfl) rfl (Nat.le_of_eq rfl) (B_ at_159) (fun vm_ hvm_ => ⟨rfl, rfl, (by decide : 17 + 6 ≤ _), (by decide : 2604 + 112 ≤ _), ⟨own_IB_mono (own_IB_warm Is_ hvm_) (by intro t_ h_; first | exact h_ | exact List.mem_cons_of_mem _ h_ | (revert t_ h_; decide)), Lit.stays Lts0_ hvm_.wide⟩⟩)
          dsimp only [Pt.U, Pt.locs, Pt.cells, Pt.slots] at X144 l144 y144 z144 st144 hQ144 hS144 hG144
          subst l144 y144 z144
          have Lk148 := Lit.stays Lts0_ hS144.1
          obtain ⟨X144, hS144, hZ144, hown144⟩ := rebS (n1 := T143.heap.size) hSs_ (Nat.le_trans hks_ Kc143.1) X144 hS144 hG144 hZs_ howns_
          obtain ⟨hQ144, hIq144⟩ := hQ144
          obtain ⟨v_144, rfl, Nq144, Kc144, r144_0⟩ := hQ144
          have N144 := Fr.app N143 Nq144
          refine jp_ st144 ?_
          obtain rfl : v_144 = .ref w_3 := r144_0.2.2.2.1 rfl
          show Go_ T144 (mkF mm_ 162 #[vi p1, vi p2, .val (.long q3), .second, vi ki, vi mo, vr al, vi dc, vr inp, vr w_3] [(.ref w_3), (.ref w_3)])
          refine sp_ (fun t_ k_ => Jvm.RoadKit.acmp (g := (mkF mm_ 162 #[vi p1, vi p2, .val (.long q3), .second, vi ki, vi mo, vr al, vi dc, vr inp, vr w_3] [(.ref w_3), (.ref w_3)])) X144 hx rfl rfl rfl (pc0 := 162) (pc' := 165) (same := true) rfl (B_ at_162) rfl (decide_eq_true rfl) (by decide) (by decide) (XS.iconst X144.here hx rfl (B_ at_165) (XS.goto X144.here hx rfl (pc0 := 166) (pc' := 170) rfl (B_ at_166) (by decide) (by decide) k_))) ?_
          show Go_ T144 (mkF mm_ 170 #[vi p1, vi p2, .val (.long q3), .second, vi ki, vi mo, vr al, vi dc, vr inp, vr w_3] [(.int 1)])
          have K149 : Keep h0 T144.heap [] := ((Ks_.trans Kc143 all0).trans Kc144 all0)
          obtain ⟨fs, hr, hrun, hended, hEnd⟩ := X144.leaveW hS144 (Nat.le_refl _) (v := some (.int 1)) (rN Bd.returns)
          refine ⟨_, _, ?_, hrun, hended, _, _, rfl, ?_, own_IB_mono (own_IB_warm hIq144 X144.warmed) (by intro t_ h_; first | exact h_ | exact List.mem_cons_of_mem _ h_ | (revert t_ h_; decide)), own_endMono hEnd (by decide) (by decide)⟩
          · exact retN X144 hx (t := .boolean) Bd.returns (by simp) (B_ at_170) hr
          · show Qrm0 Z p1 p2 q3 h0 n0 (some (.int 1)) T144.heap _
            exact ⟨rfl, N144, K149⟩
        · skip
          refine sp_ (fun t_ k_ => XS.aload Xs_.here hx rfl (B_ at_148) rfl rfl k_) ?_
          show Go_ Ts_ (mkF mm_ 150 #[vi p1, vi p2, .val (.long q3), .second, vi ki, vi mo, vr al, vi dc, vr inp, un] [(.ref inp)])
          obtain ⟨_, T150, Lc150, X150, hQ150, st150⟩ := own_cS Xs_ hx hZs_ howns_ (w_ hw 73 rfl) (w_ hw 74 rfl) (w_ hw 75 rfl) (w_ hw 76 rfl) (by decide) (backOf (W := 0) (rmOf l Z a0 hw [] inp ti cs hs_ n0 Os_ G_ sp1_) hZs_ (w_ hw 76 rfl) (w_ hw 75 rfl) (by decide) (by decide)) (g := (mkF mm_ 150 #[vi p1, vi p2, .val (.long q3), .second, vi ki, vi mo, vr al, vi dc, vr inp, un] [(.ref inp)])) rfl hml.symm (argsL := [(.ref inp)]) (rest := []) (lenOf pd_11 rfl) rfl (Nat.le_of_eq rfl) (B_ at_150) rfl es_ (by decide) (by decide)
          obtain ⟨v_150, rfl, Nq150, Kc150, r150_0⟩ := hQ150
          have N150 := Fr.app Ns_ Nq150
          refine jp_ st150 ?_
          obtain rfl : v_150 = .null := r150_0.2.2.2.2 hw0 hw1 hw2 hw3
          show Go_ T150 (mkF mm_ 153 #[vi p1, vi p2, .val (.long q3), .second, vi ki, vi mo, vr al, vi dc, vr inp, un] [.null])
          refine sp_ (fun t_ k_ => XS.astore X150.here hx rfl (B_ at_153) rfl rfl (l' := #[vi p1, vi p2, .val (.long q3), .second, vi ki, vi mo, vr al, vi dc, vr inp, .val .null]) rfl (XS.aload X150.here hx rfl (B_ at_155) rfl rfl (XS.aload X150.here hx rfl (B_ at_157) rfl rfl k_))) ?_
          show Go_ T150 (mkF mm_ 159 #[vi p1, vi p2, .val (.long q3), .second, vi ki, vi mo, vr al, vi dc, vr inp, .val .null] [(.ref inp), .null])
          have f152 : own_Str Z T150.heap inp ti cs := (sp1_.keep Kc150 nin0 nin0)
          have f153 : own_Str Z T150.heap al tl [(111 : Int32), (116 : Int32), (104 : Int32), (101 : Int32), (114 : Int32)] := (sp0_.keep Kc150 nin0 nin0)
          have O154 : Old Z n0 T150.heap := (Os_.keep Kc150 all0)
          obtain ⟨_, _, ⟨T151, Lx151, kx151, nx151⟩, -, X151, hS151, hG151, ⟨Lc151, hQ151, l151, y151, z151⟩, st151⟩ := Jvm.RoadKit.callSS X150 hx (y := ym0) howns_ (mvT hZs_ (w_ hw 107 rfl)) (mvT hZs_ (w_ hw 108 rfl)) (mvT hZs_ (w_ hw 11 rfl)) (mvT hZs_ (w_ hw 109 rfl)) (by decide) (own_backI (J := fun q_ => IB Z q_ ["other", ""] ∧ Lit (Z.setVm q_) sc1 13 al) (J' := fun q_ => IB Z q_ ["death", "disability", "retirement", "other", ""]) (W := 1) (rmEx3 l Z a0 hw [] inp ti cs al tl T150.heap n0 O154 G_ f152 f153) hZs_ (w_ hw 109 rfl) (w_ hw 11 rfl) (by decide) (by decide)) (g := (mkF mm_ 159 #[vi p1, vi p2, .val (.long q3), .second, vi ki, vi mo, vr al, vi dc, vr inp, .val .null] [(.ref inp), .null])) rfl hml.symm (argsL := [(.ref inp)]) (rest := [.null]) (lenOf pd_11 rfl) rfl (Nat.le_of_eq rfl) (B_ at_159) (fun vm_ hvm_ => ⟨rfl, rfl, (by decide : 17 + 6 ≤ _), (by decide : 2604 + 112 ≤ _), ⟨own_IB_mono (own_IB_warm Is_ hvm_) (by intro t_ h_; first | exact h_ | exact List.mem_cons_of_mem _ h_ | (revert t_ h_; decide)), Lit.stays Lts0_ hvm_.wide⟩⟩)
          dsimp only [Pt.U, Pt.locs, Pt.cells, Pt.slots] at X151 l151 y151 z151 st151 hQ151 hS151 hG151
          subst l151 y151 z151
          have Lk155 := Lit.stays Lts0_ hS151.1
          obtain ⟨X151, hS151, hZ151, hown151⟩ := rebS (n1 := T150.heap.size) hSs_ (Nat.le_trans hks_ Kc150.1) X151 hS151 hG151 hZs_ howns_
          obtain ⟨hQ151, hIq151⟩ := hQ151
          obtain ⟨v_151, rfl, Nq151, Kc151, r151_0⟩ := hQ151
          have N151 := Fr.app N150 Nq151
          refine jp_ st151 ?_
          obtain rfl : v_151 = .null := r151_0.2.2.2.2 hw0 hw1 hw2 hw3
          show Go_ T151 (mkF mm_ 162 #[vi p1, vi p2, .val (.long q3), .second, vi ki, vi mo, vr al, vi dc, vr inp, .val .null] [.null, .null])
          refine sp_ (fun t_ k_ => Jvm.RoadKit.acmp (g := (mkF mm_ 162 #[vi p1, vi p2, .val (.long q3), .second, vi ki, vi mo, vr al, vi dc, vr inp, .val .null] [.null, .null])) X151 hx rfl rfl rfl (pc0 := 162) (pc' := 165) (same := true) rfl (B_ at_162) rfl (decide_eq_true rfl) (by decide) (by decide) (XS.iconst X151.here hx rfl (B_ at_165) (XS.goto X151.here hx rfl (pc0 := 166) (pc' := 170) rfl (B_ at_166) (by decide) (by decide) k_))) ?_
          show Go_ T151 (mkF mm_ 170 #[vi p1, vi p2, .val (.long q3), .second, vi ki, vi mo, vr al, vi dc, vr inp, .val .null] [(.int 1)])
          have K156 : Keep h0 T151.heap [] := ((Ks_.trans Kc150 all0).trans Kc151 all0)
          obtain ⟨fs, hr, hrun, hended, hEnd⟩ := X151.leaveW hS151 (Nat.le_refl _) (v := some (.int 1)) (rN Bd.returns)
          refine ⟨_, _, ?_, hrun, hended, _, _, rfl, ?_, own_IB_mono (own_IB_warm hIq151 X151.warmed) (by intro t_ h_; first | exact h_ | exact List.mem_cons_of_mem _ h_ | (revert t_ h_; decide)), own_endMono hEnd (by decide) (by decide)⟩
          · exact retN X151 hx (t := .boolean) Bd.returns (by simp) (B_ at_170) hr
          · show Qrm0 Z p1 p2 q3 h0 n0 (some (.int 1)) T151.heap _
            exact ⟨rfl, N151, K156⟩
 show Go_ s₁ (mkF mm_ 0 #[vi p1, vi p2, .val (.long q3), .second, un, un, un, un, un, un] [])
 refine sp_ (fun t_ k_ => XS.iloadN X0.here hx rfl (B_ at_0) rfl  (XS.iconst X0.here hx rfl (B_ at_1) (XS.iand X0.here hx rfl (B_ at_2) rfl (XS.istore X0.here hx rfl (B_ at_3) rfl (l' := #[vi p1, vi p2, .val (.long q3), .second, vi (p1 &&& (3 : Int32)), un, un, un, un, un]) rfl (XS.iloadN X0.here hx rfl (B_ at_5) rfl  (XS.iconst X0.here hx rfl (B_ at_6) (XS.iushr X0.here hx rfl (B_ at_7) rfl (XS.iconst X0.here hx rfl (B_ at_8) (XS.iand X0.here hx rfl (B_ at_9) rfl (XS.istore X0.here hx rfl (B_ at_10) rfl (l' := #[vi p1, vi p2, .val (.long q3), .second, vi (p1 &&& (3 : Int32)), vi (((p1.toUInt32 >>> ((2 : Int32) &&& 31).toUInt32).toInt32) &&& (3 : Int32)), un, un, un, un]) rfl (XS.iload X0.here hx rfl (B_ at_12) rfl  k_))))))))))) ?_
 show Go_ s₁ (mkF mm_ 14 #[vi p1, vi p2, .val (.long q3), .second, vi (p1 &&& (3 : Int32)), vi (((p1.toUInt32 >>> ((2 : Int32) &&& 31).toUInt32).toInt32) &&& (3 : Int32)), un, un, un, un] [(.int (p1 &&& (3 : Int32)))])
 by_cases hc14_157 : (p1 &&& (3 : Int32)) = (0 : Int32)
 · skip
   refine sp_ (fun t_ k_ => XS.ifNo X0.here hx rfl (B_ at_14) rfl ((if0 _ _).trans (teq hc14_157).2) k_) ?_
   show Go_ s₁ (mkF mm_ 17 #[vi p1, vi p2, .val (.long q3), .second, vi (p1 &&& (3 : Int32)), vi (((p1.toUInt32 >>> ((2 : Int32) &&& 31).toUInt32).toInt32) &&& (3 : Int32)), un, un, un, un] [])
   obtain ⟨a158, T158, h158, k158, t158, kb158, X158, e158, E158, hS158, hk158, hZ158, hown158, Ex158, Fc158, Fv158, V158, -, -, I158, L158, st158⟩ := ldcSVL (s := ss_) (vm0 := ss_.vm) X0 hx hZ hown (w_ hw 0 rfl) own_atoms_ e0 hS0 (Nat.zero_le _) (by rw [hh, hn0]; exact N0) hkeep_ hI (by first | assumption | decide) (G_h_com_example_vestwright_vestwright_census_ReasonOfPinLaw_7) own_cw_ (vs := [(.int 100), (.int 101), (.int 97), (.int 116), (.int 104)]) (z := (5 : Int32)) ⟨by decide, rfl⟩ (by decide) (by decide) (g := (mkF mm_ 17 #[vi p1, vi p2, .val (.long q3), .second, vi (p1 &&& (3 : Int32)), vi (((p1.toUInt32 >>> ((2 : Int32) &&& 31).toUInt32).toInt32) &&& (3 : Int32)), un, un, un, un] [])) rfl (B_ at_17) (n := 20) (by decide) (by decide) (by decide) (by decide)
   have Ls158 : own_Str Z h158 a158 t158 [(100 : Int32), (101 : Int32), (97 : Int32), (116 : Int32), (104 : Int32)] := ⟨Ex158, Fc158, Fv158, ⟨kb158, V158⟩, by decide, by decide⟩
   refine sp_ st158 ?_
   show Go_ T158 (mkF mm_ 19 #[vi p1, vi p2, .val (.long q3), .second, vi (p1 &&& (3 : Int32)), vi (((p1.toUInt32 >>> ((2 : Int32) &&& 31).toUInt32).toInt32) &&& (3 : Int32)), un, un, un, un] [(.ref a158)])
   refine sp_ (fun t_ k_ => XS.goto X158.here hx rfl (pc0 := 19) (pc' := 46) rfl (B_ at_19) (by decide) (by decide) (XS.astore X158.here hx rfl (B_ at_46) rfl rfl (l' := #[vi p1, vi p2, .val (.long q3), .second, vi (p1 &&& (3 : Int32)), vi (((p1.toUInt32 >>> ((2 : Int32) &&& 31).toUInt32).toInt32) &&& (3 : Int32)), vr a158, un, un, un]) rfl (XS.lloadN X158.here hx rfl (B_ at_48) rfl  k_))) ?_
   show Go_ T158 (mkF mm_ 49 #[vi p1, vi p2, .val (.long q3), .second, vi (p1 &&& (3 : Int32)), vi (((p1.toUInt32 >>> ((2 : Int32) &&& 31).toUInt32).toInt32) &&& (3 : Int32)), vr a158, un, un, un] [(.long q3)])
   refine sp_ (fun t_ k_ => X158.ldc2Long hx hown158 (mvT hZ158 (w_ hw 8 rfl)) (g := (mkF mm_ 49 #[vi p1, vi p2, .val (.long q3), .second, vi (p1 &&& (3 : Int32)), vi (((p1.toUInt32 >>> ((2 : Int32) &&& 31).toUInt32).toInt32) &&& (3 : Int32)), vr a158, un, un, un] [(.long q3)])) rfl (B_ at_49) t_ k_) ?_
   show Go_ T158 (mkF mm_ 52 #[vi p1, vi p2, .val (.long q3), .second, vi (p1 &&& (3 : Int32)), vi (((p1.toUInt32 >>> ((2 : Int32) &&& 31).toUInt32).toInt32) &&& (3 : Int32)), vr a158, un, un, un] [(.long (255 : Int64)), (.long q3)])
   refine sp_ (fun t_ k_ => XS.land X158.here hx rfl (B_ at_52) rfl (XS.l2i X158.here hx rfl (B_ at_53) rfl k_)) ?_
   show Go_ T158 (mkF mm_ 54 #[vi p1, vi p2, .val (.long q3), .second, vi (p1 &&& (3 : Int32)), vi (((p1.toUInt32 >>> ((2 : Int32) &&& 31).toUInt32).toInt32) &&& (3 : Int32)), vr a158, un, un, un] [(.int ((q3 &&& (255 : Int64)).toInt32))])
   refine sp_ (fun t_ k_ => XS.i2c X158.here hx rfl (B_ at_54) rfl (by rw [own_i2cL]; exact (XS.istore X158.here hx rfl (B_ at_55) rfl (l' := #[vi p1, vi p2, .val (.long q3), .second, vi (p1 &&& (3 : Int32)), vi (((p1.toUInt32 >>> ((2 : Int32) &&& 31).toUInt32).toInt32) &&& (3 : Int32)), vr a158, vi ((q3 &&& (255 : Int64)).toInt32), un, un]) rfl (XS.iload X158.here hx rfl (B_ at_57) rfl  k_)))) ?_
   show Go_ T158 (mkF mm_ 59 #[vi p1, vi p2, .val (.long q3), .second, vi (p1 &&& (3 : Int32)), vi (((p1.toUInt32 >>> ((2 : Int32) &&& 31).toUInt32).toInt32) &&& (3 : Int32)), vr a158, vi ((q3 &&& (255 : Int64)).toInt32), un, un] [(.int (((p1.toUInt32 >>> ((2 : Int32) &&& 31).toUInt32).toInt32) &&& (3 : Int32)))])
   by_cases hc59_159 : (((p1.toUInt32 >>> ((2 : Int32) &&& 31).toUInt32).toInt32) &&& (3 : Int32)) = (0 : Int32)
   · skip
     refine sp_ (fun t_ k_ => XS.ifNo X158.here hx rfl (B_ at_59) rfl ((if0 _ _).trans (teq hc59_159).2) k_) ?_
     show Go_ T158 (mkF mm_ 62 #[vi p1, vi p2, .val (.long q3), .second, vi (p1 &&& (3 : Int32)), vi (((p1.toUInt32 >>> ((2 : Int32) &&& 31).toUInt32).toInt32) &&& (3 : Int32)), vr a158, vi ((q3 &&& (255 : Int64)).toInt32), un, un] [])
     refine sp_ (fun t_ k_ => XS.aload X158.here hx rfl (B_ at_62) rfl rfl (XS.iconst X158.here hx rfl (B_ at_64) (XS.iload X158.here hx rfl (B_ at_65) rfl  k_))) ?_
     show Go_ T158 (mkF mm_ 67 #[vi p1, vi p2, .val (.long q3), .second, vi (p1 &&& (3 : Int32)), vi (((p1.toUInt32 >>> ((2 : Int32) &&& 31).toUInt32).toInt32) &&& (3 : Int32)), vr a158, vi ((q3 &&& (255 : Int64)).toInt32), un, un] [(.int ((q3 &&& (255 : Int64)).toInt32)), (.int (-1)), (.ref a158)])
     have O161 : Old Z n0 h158 := (O0.ext E158)
     obtain ⟨_, T160, Lc160, X160, hQ160, st160⟩ := own_cS X158 hx hZ158 hown158 (w_ hw 9 rfl) (w_ hw 10 rfl) (w_ hw 11 rfl) (w_ hw 12 rfl) (by decide) (backOf (W := 0) (rmCp5 l Z a0 hw [] a158 (-1 : Int32) ((q3 &&& (255 : Int64)).toInt32) t158 (100 : Int32) (101 : Int32) (97 : Int32) (116 : Int32) (104 : Int32) h158 n0 O161 G_ Ls158 (own_sgL _)) hZ158 (w_ hw 12 rfl) (w_ hw 11 rfl) (by decide) (by decide)) (g := (mkF mm_ 67 #[vi p1, vi p2, .val (.long q3), .second, vi (p1 &&& (3 : Int32)), vi (((p1.toUInt32 >>> ((2 : Int32) &&& 31).toUInt32).toInt32) &&& (3 : Int32)), vr a158, vi ((q3 &&& (255 : Int64)).toInt32), un, un] [(.int ((q3 &&& (255 : Int64)).toInt32)), (.int (-1)), (.ref a158)])) rfl hml.symm (argsL := [(.ref a158), (.int (-1)), (.int ((q3 &&& (255 : Int64)).toInt32))]) (rest := []) (lenOf pd_12 rfl) rfl (Nat.le_of_eq rfl) (B_ at_67) rfl e158 (by decide) (by decide)
     obtain ⟨r_160, u_160, ds_160, rfl, Nq160, Kc160, r160_0, r160_1⟩ := hQ160
     have N160 := Fr.app N0 Nq160
     have K162 : Keep h0 h158 [] := (K0.ext E158)
     have lo_r_160 : h0.size ≤ r_160 := Nat.le_trans K162.1 r160_0
     have g_r_160 : n0 ≤ r_160 := Nat.le_trans Z0 lo_r_160
     refine jp_ st160 ?_
     show Go_ T160 (mkF mm_ 70 #[vi p1, vi p2, .val (.long q3), .second, vi (p1 &&& (3 : Int32)), vi (((p1.toUInt32 >>> ((2 : Int32) &&& 31).toUInt32).toInt32) &&& (3 : Int32)), vr a158, vi ((q3 &&& (255 : Int64)).toInt32), un, un] [(.ref r_160)])
     refine sp_ (fun t_ k_ => XS.astore X160.here hx rfl (B_ at_70) rfl rfl (l' := #[vi p1, vi p2, .val (.long q3), .second, vi (p1 &&& (3 : Int32)), vi (((p1.toUInt32 >>> ((2 : Int32) &&& 31).toUInt32).toInt32) &&& (3 : Int32)), vr a158, vi ((q3 &&& (255 : Int64)).toInt32), vr r_160, un]) rfl (XS.goto X160.here hx rfl (pc0 := 72) (pc' := 148) rfl (B_ at_72) (by decide) (by decide) k_)) ?_
     have f163 : own_Str Z T160.heap a158 t158 [(100 : Int32), (101 : Int32), (97 : Int32), (116 : Int32), (104 : Int32)] := (Ls158.keep Kc160 nin0 nin0)
     have K164 : Keep h0 T160.heap [] := (K162.trans Kc160 all0)
     have O165 : Old Z n0 T160.heap := (O161.keep Kc160 all0)
     exact seg_t0s _ _ _ (p1 &&& (3 : Int32)) (((p1.toUInt32 >>> ((2 : Int32) &&& 31).toUInt32).toInt32) &&& (3 : Int32)) ((q3 &&& (255 : Int64)).toInt32) a158 t158 r_160 u_160 ds_160 _ _ (X160.more (by decide) (by decide)) rfl N160 K164 O165 hS158 (Nat.le_trans hk158 Kc160.1) hZ158 hown158 (own_IB_mono I158 (by intro t_ h_; first | exact h_ | exact List.mem_cons_of_mem _ h_ | (revert t_ h_; decide))) L158 f163 r160_1
   · skip
     refine sp_ (fun t_ k_ => XS.ifYes X158.here hx rfl (pc0 := 59) (pc' := 75) rfl (B_ at_59) rfl ((if0 _ _).trans (feq hc59_159).2) (by decide) (by decide) k_) ?_
     show Go_ T158 (mkF mm_ 75 #[vi p1, vi p2, .val (.long q3), .second, vi (p1 &&& (3 : Int32)), vi (((p1.toUInt32 >>> ((2 : Int32) &&& 31).toUInt32).toInt32) &&& (3 : Int32)), vr a158, vi ((q3 &&& (255 : Int64)).toInt32), un, un] [])
     refine sp_ (fun t_ k_ => XS.iload X158.here hx rfl (B_ at_75) rfl  (XS.iconst X158.here hx rfl (B_ at_77) k_)) ?_
     show Go_ T158 (mkF mm_ 78 #[vi p1, vi p2, .val (.long q3), .second, vi (p1 &&& (3 : Int32)), vi (((p1.toUInt32 >>> ((2 : Int32) &&& 31).toUInt32).toInt32) &&& (3 : Int32)), vr a158, vi ((q3 &&& (255 : Int64)).toInt32), un, un] [(.int 1), (.int (((p1.toUInt32 >>> ((2 : Int32) &&& 31).toUInt32).toInt32) &&& (3 : Int32)))])
     by_cases hc78_166 : (((p1.toUInt32 >>> ((2 : Int32) &&& 31).toUInt32).toInt32) &&& (3 : Int32)) = (1 : Int32)
     · skip
       refine sp_ (fun t_ k_ => XS.icmpNo X158.here hx rfl (B_ at_78) rfl (teq hc78_166).2 k_) ?_
       show Go_ T158 (mkF mm_ 81 #[vi p1, vi p2, .val (.long q3), .second, vi (p1 &&& (3 : Int32)), vi (((p1.toUInt32 >>> ((2 : Int32) &&& 31).toUInt32).toInt32) &&& (3 : Int32)), vr a158, vi ((q3 &&& (255 : Int64)).toInt32), un, un] [])
       refine sp_ (fun t_ k_ => XS.aload X158.here hx rfl (B_ at_81) rfl rfl (XS.iloadN X158.here hx rfl (B_ at_83) rfl  k_)) ?_
       show Go_ T158 (mkF mm_ 84 #[vi p1, vi p2, .val (.long q3), .second, vi (p1 &&& (3 : Int32)), vi (((p1.toUInt32 >>> ((2 : Int32) &&& 31).toUInt32).toInt32) &&& (3 : Int32)), vr a158, vi ((q3 &&& (255 : Int64)).toInt32), un, un] [(.int p2), (.ref a158)])
       refine sp_ (fun t_ k_ => X158.ldcInt hx hown158 (mvT hZ158 (w_ hw 117 rfl)) (g := (mkF mm_ 84 #[vi p1, vi p2, .val (.long q3), .second, vi (p1 &&& (3 : Int32)), vi (((p1.toUInt32 >>> ((2 : Int32) &&& 31).toUInt32).toInt32) &&& (3 : Int32)), vr a158, vi ((q3 &&& (255 : Int64)).toInt32), un, un] [(.int p2), (.ref a158)])) rfl (B_ at_84) t_ k_) ?_
       show Go_ T158 (mkF mm_ 86 #[vi p1, vi p2, .val (.long q3), .second, vi (p1 &&& (3 : Int32)), vi (((p1.toUInt32 >>> ((2 : Int32) &&& 31).toUInt32).toInt32) &&& (3 : Int32)), vr a158, vi ((q3 &&& (255 : Int64)).toInt32), un, un] [(.int 2147483647), (.int p2), (.ref a158)])
       refine sp_ (fun t_ k_ => XS.iand X158.here hx rfl (B_ at_86) rfl (XS.aload X158.here hx rfl (B_ at_87) rfl rfl k_)) ?_
       show Go_ T158 (mkF mm_ 89 #[vi p1, vi p2, .val (.long q3), .second, vi (p1 &&& (3 : Int32)), vi (((p1.toUInt32 >>> ((2 : Int32) &&& 31).toUInt32).toInt32) &&& (3 : Int32)), vr a158, vi ((q3 &&& (255 : Int64)).toInt32), un, un] [(.ref a158), (.int (p2 &&& (2147483647 : Int32))), (.ref a158)])
       have O168 : Old Z n0 h158 := (O0.ext E158)
       obtain ⟨_, T167, Lc167, X167, hQ167, st167⟩ := own_cV X158 hx hZ158 hown158 (w_ hw 13 rfl) (w_ hw 14 rfl) (notFace_of_selects (args := #[]) (mvT hZ158 (w_ hw 16 rfl))) (w_ hw 16 rfl) (w_ hw 15 rfl) (by decide) (own_lenS (W := 2) hZ158 hw Ls158 (G_cs.ext O168.2) G_cs0 (by decide) (by decide)) Ex158 (g := (mkF mm_ 89 #[vi p1, vi p2, .val (.long q3), .second, vi (p1 &&& (3 : Int32)), vi (((p1.toUInt32 >>> ((2 : Int32) &&& 31).toUInt32).toInt32) &&& (3 : Int32)), vr a158, vi ((q3 &&& (255 : Int64)).toInt32), un, un] [(.ref a158), (.int (p2 &&& (2147483647 : Int32))), (.ref a158)])) rfl hml.symm (argsL := []) (rest := [(.int (p2 &&& (2147483647 : Int32))), (.ref a158)]) (lenOf pd_7 rfl) rfl (Nat.le_of_eq rfl) (B_ at_89) rfl e158 (by decide) (by decide)
       obtain ⟨rfl, rfl, Eh167⟩ := hQ167
       have N167 := Fr.app N0 (Fr.nil n0)
       refine jp_ st167 ?_
       show Go_ T167 (mkF mm_ 92 #[vi p1, vi p2, .val (.long q3), .second, vi (p1 &&& (3 : Int32)), vi (((p1.toUInt32 >>> ((2 : Int32) &&& 31).toUInt32).toInt32) &&& (3 : Int32)), vr a158, vi ((q3 &&& (255 : Int64)).toInt32), un, un] [(.int 5), (.int (p2 &&& (2147483647 : Int32))), (.ref a158)])
       refine sp_ (fun t_ k_ => iremM (g := (mkF mm_ 92 #[vi p1, vi p2, .val (.long q3), .second, vi (p1 &&& (3 : Int32)), vi (((p1.toUInt32 >>> ((2 : Int32) &&& 31).toUInt32).toInt32) &&& (3 : Int32)), vr a158, vi ((q3 &&& (255 : Int64)).toInt32), un, un] [(.int 5), (.int (p2 &&& (2147483647 : Int32))), (.ref a158)])) X167 hx rfl (B_ at_92) rfl (by decide) (XS.iload X167.here hx rfl (B_ at_93) rfl  k_)) ?_
       show Go_ T167 (mkF mm_ 95 #[vi p1, vi p2, .val (.long q3), .second, vi (p1 &&& (3 : Int32)), vi (((p1.toUInt32 >>> ((2 : Int32) &&& 31).toUInt32).toInt32) &&& (3 : Int32)), vr a158, vi ((q3 &&& (255 : Int64)).toInt32), un, un] [(.int ((q3 &&& (255 : Int64)).toInt32)), (.int ((p2 &&& (2147483647 : Int32)) % (5 : Int32))), (.ref a158)])
       obtain ⟨_, T169, Lc169, X169, hQ169, st169⟩ := own_cS X167 hx hZ158 hown158 (w_ hw 9 rfl) (w_ hw 10 rfl) (w_ hw 11 rfl) (w_ hw 12 rfl) (by decide) (backOf (W := 0) (rmCp5 l Z a0 hw [] a158 ((p2 &&& (2147483647 : Int32)) % (5 : Int32)) ((q3 &&& (255 : Int64)).toInt32) t158 (100 : Int32) (101 : Int32) (97 : Int32) (116 : Int32) (104 : Int32) h158 n0 O168 G_ Ls158 (own_sgL _)) hZ158 (w_ hw 12 rfl) (w_ hw 11 rfl) (by decide) (by decide)) (g := (mkF mm_ 95 #[vi p1, vi p2, .val (.long q3), .second, vi (p1 &&& (3 : Int32)), vi (((p1.toUInt32 >>> ((2 : Int32) &&& 31).toUInt32).toInt32) &&& (3 : Int32)), vr a158, vi ((q3 &&& (255 : Int64)).toInt32), un, un] [(.int ((q3 &&& (255 : Int64)).toInt32)), (.int ((p2 &&& (2147483647 : Int32)) % (5 : Int32))), (.ref a158)])) rfl hml.symm (argsL := [(.ref a158), (.int ((p2 &&& (2147483647 : Int32)) % (5 : Int32))), (.int ((q3 &&& (255 : Int64)).toInt32))]) (rest := []) (lenOf pd_12 rfl) rfl (Nat.le_of_eq rfl) (B_ at_95) rfl Eh167 (by decide) (by decide)
       obtain ⟨r_169, u_169, ds_169, rfl, Nq169, Kc169, r169_0, r169_1⟩ := hQ169
       have N169 := Fr.app N167 Nq169
       have K170 : Keep h0 h158 [] := (K0.ext E158)
       have lo_r_169 : h0.size ≤ r_169 := Nat.le_trans K170.1 r169_0
       have g_r_169 : n0 ≤ r_169 := Nat.le_trans Z0 lo_r_169
       refine jp_ st169 ?_
       show Go_ T169 (mkF mm_ 98 #[vi p1, vi p2, .val (.long q3), .second, vi (p1 &&& (3 : Int32)), vi (((p1.toUInt32 >>> ((2 : Int32) &&& 31).toUInt32).toInt32) &&& (3 : Int32)), vr a158, vi ((q3 &&& (255 : Int64)).toInt32), un, un] [(.ref r_169)])
       refine sp_ (fun t_ k_ => XS.astore X169.here hx rfl (B_ at_98) rfl rfl (l' := #[vi p1, vi p2, .val (.long q3), .second, vi (p1 &&& (3 : Int32)), vi (((p1.toUInt32 >>> ((2 : Int32) &&& 31).toUInt32).toInt32) &&& (3 : Int32)), vr a158, vi ((q3 &&& (255 : Int64)).toInt32), vr r_169, un]) rfl (XS.goto X169.here hx rfl (pc0 := 100) (pc' := 148) rfl (B_ at_100) (by decide) (by decide) k_)) ?_
       have f171 : own_Str Z T169.heap a158 t158 [(100 : Int32), (101 : Int32), (97 : Int32), (116 : Int32), (104 : Int32)] := (Ls158.keep Kc169 nin0 nin0)
       have K172 : Keep h0 T169.heap [] := (K170.trans Kc169 all0)
       have O173 : Old Z n0 T169.heap := (O168.keep Kc169 all0)
       exact seg_t0s _ _ _ (p1 &&& (3 : Int32)) (((p1.toUInt32 >>> ((2 : Int32) &&& 31).toUInt32).toInt32) &&& (3 : Int32)) ((q3 &&& (255 : Int64)).toInt32) a158 t158 r_169 u_169 ds_169 _ _ (X169.more (by decide) (by decide)) rfl N169 K172 O173 hS158 (Nat.le_trans hk158 Kc169.1) hZ158 hown158 (own_IB_mono I158 (by intro t_ h_; first | exact h_ | exact List.mem_cons_of_mem _ h_ | (revert t_ h_; decide))) L158 f171 r169_1
     · skip
       refine sp_ (fun t_ k_ => XS.icmpYes X158.here hx rfl (pc0 := 78) (pc' := 103) rfl (B_ at_78) rfl (feq hc78_166).2 (by decide) (by decide) k_) ?_
       show Go_ T158 (mkF mm_ 103 #[vi p1, vi p2, .val (.long q3), .second, vi (p1 &&& (3 : Int32)), vi (((p1.toUInt32 >>> ((2 : Int32) &&& 31).toUInt32).toInt32) &&& (3 : Int32)), vr a158, vi ((q3 &&& (255 : Int64)).toInt32), un, un] [])
       refine sp_ (fun t_ k_ => XS.iload X158.here hx rfl (B_ at_103) rfl  (XS.iconst X158.here hx rfl (B_ at_105) k_)) ?_
       show Go_ T158 (mkF mm_ 106 #[vi p1, vi p2, .val (.long q3), .second, vi (p1 &&& (3 : Int32)), vi (((p1.toUInt32 >>> ((2 : Int32) &&& 31).toUInt32).toInt32) &&& (3 : Int32)), vr a158, vi ((q3 &&& (255 : Int64)).toInt32), un, un] [(.int 2), (.int (((p1.toUInt32 >>> ((2 : Int32) &&& 31).toUInt32).toInt32) &&& (3 : Int32)))])
       by_cases hc106_174 : (((p1.toUInt32 >>> ((2 : Int32) &&& 31).toUInt32).toInt32) &&& (3 : Int32)) = (2 : Int32)
       · skip
         refine sp_ (fun t_ k_ => XS.icmpNo X158.here hx rfl (B_ at_106) rfl (teq hc106_174).2 k_) ?_
         show Go_ T158 (mkF mm_ 109 #[vi p1, vi p2, .val (.long q3), .second, vi (p1 &&& (3 : Int32)), vi (((p1.toUInt32 >>> ((2 : Int32) &&& 31).toUInt32).toInt32) &&& (3 : Int32)), vr a158, vi ((q3 &&& (255 : Int64)).toInt32), un, un] [])
         refine sp_ (fun t_ k_ => XS.iloadN X158.here hx rfl (B_ at_109) rfl  (XS.iconst X158.here hx rfl (B_ at_110) (XS.iushr X158.here hx rfl (B_ at_111) rfl (XS.iconst X158.here hx rfl (B_ at_112) (XS.iand X158.here hx rfl (B_ at_113) rfl k_))))) ?_
         show Go_ T158 (mkF mm_ 114 #[vi p1, vi p2, .val (.long q3), .second, vi (p1 &&& (3 : Int32)), vi (((p1.toUInt32 >>> ((2 : Int32) &&& 31).toUInt32).toInt32) &&& (3 : Int32)), vr a158, vi ((q3 &&& (255 : Int64)).toInt32), un, un] [(.int (((p1.toUInt32 >>> ((4 : Int32) &&& 31).toUInt32).toInt32) &&& (1 : Int32)))])
         by_cases hc114_175 : (((p1.toUInt32 >>> ((4 : Int32) &&& 31).toUInt32).toInt32) &&& (1 : Int32)) = (0 : Int32)
         · skip
           refine sp_ (fun t_ k_ => XS.ifNo X158.here hx rfl (B_ at_114) rfl ((if0 _ _).trans (teq hc114_175).2) k_) ?_
           show Go_ T158 (mkF mm_ 117 #[vi p1, vi p2, .val (.long q3), .second, vi (p1 &&& (3 : Int32)), vi (((p1.toUInt32 >>> ((2 : Int32) &&& 31).toUInt32).toInt32) &&& (3 : Int32)), vr a158, vi ((q3 &&& (255 : Int64)).toInt32), un, un] [])
           refine sp_ (fun t_ k_ => XS.aload X158.here hx rfl (B_ at_117) rfl rfl (XS.iload X158.here hx rfl (B_ at_119) rfl  k_)) ?_
           show Go_ T158 (mkF mm_ 121 #[vi p1, vi p2, .val (.long q3), .second, vi (p1 &&& (3 : Int32)), vi (((p1.toUInt32 >>> ((2 : Int32) &&& 31).toUInt32).toInt32) &&& (3 : Int32)), vr a158, vi ((q3 &&& (255 : Int64)).toInt32), un, un] [(.int ((q3 &&& (255 : Int64)).toInt32)), (.ref a158)])
           have O177 : Old Z n0 h158 := (O0.ext E158)
           obtain ⟨_, T176, Lc176, X176, hQ176, st176⟩ := own_cS X158 hx hZ158 hown158 (w_ hw 131 rfl) (w_ hw 132 rfl) (w_ hw 11 rfl) (w_ hw 133 rfl) (by decide) (backOf (W := 0) (rmLo5 l Z a0 hw [] a158 ((q3 &&& (255 : Int64)).toInt32) t158 (100 : Int32) (101 : Int32) (97 : Int32) (116 : Int32) (104 : Int32) h158 n0 O177 G_ Ls158 (own_sgL _)) hZ158 (w_ hw 133 rfl) (w_ hw 11 rfl) (by decide) (by decide)) (g := (mkF mm_ 121 #[vi p1, vi p2, .val (.long q3), .second, vi (p1 &&& (3 : Int32)), vi (((p1.toUInt32 >>> ((2 : Int32) &&& 31).toUInt32).toInt32) &&& (3 : Int32)), vr a158, vi ((q3 &&& (255 : Int64)).toInt32), un, un] [(.int ((q3 &&& (255 : Int64)).toInt32)), (.ref a158)])) rfl hml.symm (argsL := [(.ref a158), (.int ((q3 &&& (255 : Int64)).toInt32))]) (rest := []) (lenOf pd_13 rfl) rfl (Nat.le_of_eq rfl) (B_ at_121) rfl e158 (by decide) (by decide)
           obtain ⟨r_176, u_176, ds_176, rfl, Nq176, Kc176, r176_0, r176_1⟩ := hQ176
           have N176 := Fr.app N0 Nq176
           have K178 : Keep h0 h158 [] := (K0.ext E158)
           have lo_r_176 : h0.size ≤ r_176 := Nat.le_trans K178.1 r176_0
           have g_r_176 : n0 ≤ r_176 := Nat.le_trans Z0 lo_r_176
           refine jp_ st176 ?_
           show Go_ T176 (mkF mm_ 124 #[vi p1, vi p2, .val (.long q3), .second, vi (p1 &&& (3 : Int32)), vi (((p1.toUInt32 >>> ((2 : Int32) &&& 31).toUInt32).toInt32) &&& (3 : Int32)), vr a158, vi ((q3 &&& (255 : Int64)).toInt32), un, un] [(.ref r_176)])
           refine sp_ (fun t_ k_ => XS.goto X176.here hx rfl (pc0 := 124) (pc' := 132) rfl (B_ at_124) (by decide) (by decide) (XS.astore X176.here hx rfl (B_ at_132) rfl rfl (l' := #[vi p1, vi p2, .val (.long q3), .second, vi (p1 &&& (3 : Int32)), vi (((p1.toUInt32 >>> ((2 : Int32) &&& 31).toUInt32).toInt32) &&& (3 : Int32)), vr a158, vi ((q3 &&& (255 : Int64)).toInt32), vr r_176, un]) rfl (XS.goto X176.here hx rfl (pc0 := 134) (pc' := 148) rfl (B_ at_134) (by decide) (by decide) k_))) ?_
           have f179 : own_Str Z T176.heap a158 t158 [(100 : Int32), (101 : Int32), (97 : Int32), (116 : Int32), (104 : Int32)] := (Ls158.keep Kc176 nin0 nin0)
           have K180 : Keep h0 T176.heap [] := (K178.trans Kc176 all0)
           have O181 : Old Z n0 T176.heap := (O177.keep Kc176 all0)
           exact seg_t0s _ _ _ (p1 &&& (3 : Int32)) (((p1.toUInt32 >>> ((2 : Int32) &&& 31).toUInt32).toInt32) &&& (3 : Int32)) ((q3 &&& (255 : Int64)).toInt32) a158 t158 r_176 u_176 ds_176 _ _ (X176.more (by decide) (by decide)) rfl N176 K180 O181 hS158 (Nat.le_trans hk158 Kc176.1) hZ158 hown158 (own_IB_mono I158 (by intro t_ h_; first | exact h_ | exact List.mem_cons_of_mem _ h_ | (revert t_ h_; decide))) L158 f179 r176_1
         · skip
           refine sp_ (fun t_ k_ => XS.ifYes X158.here hx rfl (pc0 := 114) (pc' := 127) rfl (B_ at_114) rfl ((if0 _ _).trans (feq hc114_175).2) (by decide) (by decide) k_) ?_
           show Go_ T158 (mkF mm_ 127 #[vi p1, vi p2, .val (.long q3), .second, vi (p1 &&& (3 : Int32)), vi (((p1.toUInt32 >>> ((2 : Int32) &&& 31).toUInt32).toInt32) &&& (3 : Int32)), vr a158, vi ((q3 &&& (255 : Int64)).toInt32), un, un] [])
           refine sp_ (fun t_ k_ => XS.aload X158.here hx rfl (B_ at_127) rfl rfl k_) ?_
           show Go_ T158 (mkF mm_ 129 #[vi p1, vi p2, .val (.long q3), .second, vi (p1 &&& (3 : Int32)), vi (((p1.toUInt32 >>> ((2 : Int32) &&& 31).toUInt32).toInt32) &&& (3 : Int32)), vr a158, vi ((q3 &&& (255 : Int64)).toInt32), un, un] [(.ref a158)])
           have O183 : Old Z n0 h158 := (O0.ext E158)
           obtain ⟨_, T182, Lc182, X182, hQ182, st182⟩ := own_cS X158 hx hZ158 hown158 (w_ hw 134 rfl) (w_ hw 135 rfl) (w_ hw 11 rfl) (w_ hw 136 rfl) (by decide) (backOf (W := 0) (rmSh5 l Z a0 hw [] a158 t158 (100 : Int32) (101 : Int32) (97 : Int32) (116 : Int32) (104 : Int32) h158 n0 O183 G_ Ls158) hZ158 (w_ hw 136 rfl) (w_ hw 11 rfl) (by decide) (by decide)) (g := (mkF mm_ 129 #[vi p1, vi p2, .val (.long q3), .second, vi (p1 &&& (3 : Int32)), vi (((p1.toUInt32 >>> ((2 : Int32) &&& 31).toUInt32).toInt32) &&& (3 : Int32)), vr a158, vi ((q3 &&& (255 : Int64)).toInt32), un, un] [(.ref a158)])) rfl hml.symm (argsL := [(.ref a158)]) (rest := []) (lenOf pd_14 rfl) rfl (Nat.le_of_eq rfl) (B_ at_129) rfl e158 (by decide) (by decide)
           obtain ⟨r_182, u_182, ds_182, rfl, Nq182, Kc182, r182_0, r182_1⟩ := hQ182
           have N182 := Fr.app N0 Nq182
           have K184 : Keep h0 h158 [] := (K0.ext E158)
           have lo_r_182 : h0.size ≤ r_182 := Nat.le_trans K184.1 r182_0
           have g_r_182 : n0 ≤ r_182 := Nat.le_trans Z0 lo_r_182
           refine jp_ st182 ?_
           show Go_ T182 (mkF mm_ 132 #[vi p1, vi p2, .val (.long q3), .second, vi (p1 &&& (3 : Int32)), vi (((p1.toUInt32 >>> ((2 : Int32) &&& 31).toUInt32).toInt32) &&& (3 : Int32)), vr a158, vi ((q3 &&& (255 : Int64)).toInt32), un, un] [(.ref r_182)])
           refine sp_ (fun t_ k_ => XS.astore X182.here hx rfl (B_ at_132) rfl rfl (l' := #[vi p1, vi p2, .val (.long q3), .second, vi (p1 &&& (3 : Int32)), vi (((p1.toUInt32 >>> ((2 : Int32) &&& 31).toUInt32).toInt32) &&& (3 : Int32)), vr a158, vi ((q3 &&& (255 : Int64)).toInt32), vr r_182, un]) rfl (XS.goto X182.here hx rfl (pc0 := 134) (pc' := 148) rfl (B_ at_134) (by decide) (by decide) k_)) ?_
           have f185 : own_Str Z T182.heap a158 t158 [(100 : Int32), (101 : Int32), (97 : Int32), (116 : Int32), (104 : Int32)] := (Ls158.keep Kc182 nin0 nin0)
           have K186 : Keep h0 T182.heap [] := (K184.trans Kc182 all0)
           have O187 : Old Z n0 T182.heap := (O183.keep Kc182 all0)
           exact seg_t0s _ _ _ (p1 &&& (3 : Int32)) (((p1.toUInt32 >>> ((2 : Int32) &&& 31).toUInt32).toInt32) &&& (3 : Int32)) ((q3 &&& (255 : Int64)).toInt32) a158 t158 r_182 u_182 ds_182 _ _ (X182.more (by decide) (by decide)) rfl N182 K186 O187 hS158 (Nat.le_trans hk158 Kc182.1) hZ158 hown158 (own_IB_mono I158 (by intro t_ h_; first | exact h_ | exact List.mem_cons_of_mem _ h_ | (revert t_ h_; decide))) L158 f185 r182_1
       · skip
         refine sp_ (fun t_ k_ => XS.icmpYes X158.here hx rfl (pc0 := 106) (pc' := 137) rfl (B_ at_106) rfl (feq hc106_174).2 (by decide) (by decide) k_) ?_
         show Go_ T158 (mkF mm_ 137 #[vi p1, vi p2, .val (.long q3), .second, vi (p1 &&& (3 : Int32)), vi (((p1.toUInt32 >>> ((2 : Int32) &&& 31).toUInt32).toInt32) &&& (3 : Int32)), vr a158, vi ((q3 &&& (255 : Int64)).toInt32), un, un] [])
         refine sp_ (fun t_ k_ => XS.iloadN X158.here hx rfl (B_ at_137) rfl  (XS.iconst X158.here hx rfl (B_ at_138) (XS.iushr X158.here hx rfl (B_ at_139) rfl (XS.iconst X158.here hx rfl (B_ at_140) (XS.iand X158.here hx rfl (B_ at_141) rfl (XS.lloadN X158.here hx rfl (B_ at_142) rfl  k_)))))) ?_
         show Go_ T158 (mkF mm_ 143 #[vi p1, vi p2, .val (.long q3), .second, vi (p1 &&& (3 : Int32)), vi (((p1.toUInt32 >>> ((2 : Int32) &&& 31).toUInt32).toInt32) &&& (3 : Int32)), vr a158, vi ((q3 &&& (255 : Int64)).toInt32), un, un] [(.long q3), (.int (((p1.toUInt32 >>> ((4 : Int32) &&& 31).toUInt32).toInt32) &&& (3 : Int32)))])
         by_cases hd188 : (((p1.toUInt32 >>> ((4 : Int32) &&& 31).toUInt32).toInt32) &&& (3 : Int32)) = (0 : Int32)
         · skip
           have O190 : Old Z n0 h158 := (O0.ext E158)
           obtain ⟨_, T189, Lc189, X189, hQ189, st189⟩ := own_cS X158 hx hZ158 hown158 (w_ hw 112 rfl) (w_ hw 113 rfl) (w_ hw 11 rfl) (w_ hw 114 rfl) (by decide) (backOf (W := 0) (rmDn l Z a0 hw [] (((p1.toUInt32 >>> ((4 : Int32) &&& 31).toUInt32).toInt32) &&& (3 : Int32)) q3 h158 n0 O190 hd188) hZ158 (w_ hw 114 rfl) (w_ hw 11 rfl) (by decide) (by decide)) (g := (mkF mm_ 143 #[vi p1, vi p2, .val (.long q3), .second, vi (p1 &&& (3 : Int32)), vi (((p1.toUInt32 >>> ((2 : Int32) &&& 31).toUInt32).toInt32) &&& (3 : Int32)), vr a158, vi ((q3 &&& (255 : Int64)).toInt32), un, un] [(.long q3), (.int (((p1.toUInt32 >>> ((4 : Int32) &&& 31).toUInt32).toInt32) &&& (3 : Int32)))])) rfl hml.symm (argsL := [(.int (((p1.toUInt32 >>> ((4 : Int32) &&& 31).toUInt32).toInt32) &&& (3 : Int32))), (.long q3)]) (rest := []) (lenOf pd_15 rfl) rfl (Nat.le_of_eq rfl) (B_ at_143) rfl e158 (by decide) (by decide)
           obtain ⟨rfl, rfl, Eh189⟩ := hQ189
           have N189 := Fr.app N0 (Fr.nil n0)
           refine jp_ st189 ?_
           show Go_ T189 (mkF mm_ 146 #[vi p1, vi p2, .val (.long q3), .second, vi (p1 &&& (3 : Int32)), vi (((p1.toUInt32 >>> ((2 : Int32) &&& 31).toUInt32).toInt32) &&& (3 : Int32)), vr a158, vi ((q3 &&& (255 : Int64)).toInt32), un, un] [.null])
           refine sp_ (fun t_ k_ => XS.astore X189.here hx rfl (B_ at_146) rfl rfl (l' := #[vi p1, vi p2, .val (.long q3), .second, vi (p1 &&& (3 : Int32)), vi (((p1.toUInt32 >>> ((2 : Int32) &&& 31).toUInt32).toInt32) &&& (3 : Int32)), vr a158, vi ((q3 &&& (255 : Int64)).toInt32), .val .null, un]) rfl k_) ?_
           have K191 : Keep h0 h158 [] := (K0.ext E158)
           exact seg_t0n _ _ _ (p1 &&& (3 : Int32)) (((p1.toUInt32 >>> ((2 : Int32) &&& 31).toUInt32).toInt32) &&& (3 : Int32)) ((q3 &&& (255 : Int64)).toInt32) a158 t158 _ _ (X189.more (by decide) (by decide)) Eh189 N189 K191 O190 hS158 hk158 hZ158 hown158 (own_IB_mono I158 (by intro t_ h_; first | exact h_ | exact List.mem_cons_of_mem _ h_ | (revert t_ h_; decide))) L158 Ls158
         · skip
           have O193 : Old Z n0 h158 := (O0.ext E158)
           obtain ⟨_, _, ⟨T192, Lx192, kx192, nx192⟩, -, X192, hS192, hG192, ⟨Lc192, hQ192, l192, y192, z192⟩, st192⟩ := Jvm.RoadKit.callSS X158 hx (y := ym1) hown158 (mvT hZ158 (w_ hw 112 rfl)) (mvT hZ158 (w_ hw 113 rfl)) (mvT hZ158 (w_ hw 11 rfl)) (mvT hZ158 (w_ hw 114 rfl)) (by decide) (own_backI (J := fun q_ => IB Z q_ ("death" :: [])) (J' := fun q_ => IB Z q_ ("" :: ("death" :: []))) (W := 0) (rmDs l Z a0 hw [] (((p1.toUInt32 >>> ((4 : Int32) &&& 31).toUInt32).toInt32) &&& (3 : Int32)) q3 ("death" :: []) h158 n0 O193 G_ hd188 (by first | assumption | rfl | decide | (simp; done))) hZ158 (w_ hw 114 rfl) (w_ hw 11 rfl) (by decide) (by decide)) (g := (mkF mm_ 143 #[vi p1, vi p2, .val (.long q3), .second, vi (p1 &&& (3 : Int32)), vi (((p1.toUInt32 >>> ((2 : Int32) &&& 31).toUInt32).toInt32) &&& (3 : Int32)), vr a158, vi ((q3 &&& (255 : Int64)).toInt32), un, un] [(.long q3), (.int (((p1.toUInt32 >>> ((4 : Int32) &&& 31).toUInt32).toInt32) &&& (3 : Int32)))])) rfl hml.symm (argsL := [(.int (((p1.toUInt32 >>> ((4 : Int32) &&& 31).toUInt32).toInt32) &&& (3 : Int32))), (.long q3)]) (rest := []) (lenOf pd_15 rfl) rfl (Nat.le_of_eq rfl) (B_ at_143) (fun vm_ hvm_ => ⟨rfl, e158, (by decide : 2 + 4 ≤ _), (by decide : 24 + 14 ≤ _), own_IB_mono (own_IB_warm I158 hvm_) (by intro t_ h_; first | exact h_ | exact List.mem_cons_of_mem _ h_ | (revert t_ h_; decide))⟩)
           dsimp only [Pt.U, Pt.locs, Pt.cells, Pt.slots] at X192 l192 y192 z192 st192 hQ192 hS192 hG192
           subst l192 y192 z192
           have Lk194 := Lit.stays L158 hS192.1
           obtain ⟨X192, hS192, hZ192, hown192⟩ := rebS (n1 := h158.size) hS158 hk158 X192 hS192 (by rw [← e158]; exact hG192) hZ158 hown158
           obtain ⟨hQ192, hIq192⟩ := hQ192
           obtain ⟨r_192, u_192, ds_192, rfl, Nq192, Kc192, r192_0, r192_1⟩ := hQ192
           have N192 := Fr.app N0 Nq192
           have K195 : Keep h0 h158 [] := (K0.ext E158)
           have lo_r_192 : h0.size ≤ r_192 := Nat.le_trans K195.1 r192_0
           have g_r_192 : n0 ≤ r_192 := Nat.le_trans Z0 lo_r_192
           refine jp_ st192 ?_
           show Go_ T192 (mkF mm_ 146 #[vi p1, vi p2, .val (.long q3), .second, vi (p1 &&& (3 : Int32)), vi (((p1.toUInt32 >>> ((2 : Int32) &&& 31).toUInt32).toInt32) &&& (3 : Int32)), vr a158, vi ((q3 &&& (255 : Int64)).toInt32), un, un] [(.ref r_192)])
           refine sp_ (fun t_ k_ => XS.astore X192.here hx rfl (B_ at_146) rfl rfl (l' := #[vi p1, vi p2, .val (.long q3), .second, vi (p1 &&& (3 : Int32)), vi (((p1.toUInt32 >>> ((2 : Int32) &&& 31).toUInt32).toInt32) &&& (3 : Int32)), vr a158, vi ((q3 &&& (255 : Int64)).toInt32), vr r_192, un]) rfl k_) ?_
           have f196 : own_Str Z T192.heap a158 t158 [(100 : Int32), (101 : Int32), (97 : Int32), (116 : Int32), (104 : Int32)] := (Ls158.keep Kc192 nin0 nin0)
           have K197 : Keep h0 T192.heap [] := (K195.trans Kc192 all0)
           have O198 : Old Z n0 T192.heap := (O193.keep Kc192 all0)
           exact seg_t0s _ _ _ (p1 &&& (3 : Int32)) (((p1.toUInt32 >>> ((2 : Int32) &&& 31).toUInt32).toInt32) &&& (3 : Int32)) ((q3 &&& (255 : Int64)).toInt32) a158 t158 r_192 u_192 ds_192 _ _ (X192.more (by decide) (by decide)) rfl N192 K197 O198 hS192 (Nat.le_refl _) hZ192 hown192 (own_IB_mono hIq192 (by intro t_ h_; first | exact h_ | exact List.mem_cons_of_mem _ h_ | (revert t_ h_; decide))) Lk194 f196 r192_1
 · skip
   refine sp_ (fun t_ k_ => XS.ifYes X0.here hx rfl (pc0 := 14) (pc' := 22) rfl (B_ at_14) rfl ((if0 _ _).trans (feq hc14_157).2) (by decide) (by decide) k_) ?_
   show Go_ s₁ (mkF mm_ 22 #[vi p1, vi p2, .val (.long q3), .second, vi (p1 &&& (3 : Int32)), vi (((p1.toUInt32 >>> ((2 : Int32) &&& 31).toUInt32).toInt32) &&& (3 : Int32)), un, un, un, un] [])
   refine sp_ (fun t_ k_ => XS.iload X0.here hx rfl (B_ at_22) rfl  (XS.iconst X0.here hx rfl (B_ at_24) k_)) ?_
   show Go_ s₁ (mkF mm_ 25 #[vi p1, vi p2, .val (.long q3), .second, vi (p1 &&& (3 : Int32)), vi (((p1.toUInt32 >>> ((2 : Int32) &&& 31).toUInt32).toInt32) &&& (3 : Int32)), un, un, un, un] [(.int 1), (.int (p1 &&& (3 : Int32)))])
   by_cases hc25_199 : (p1 &&& (3 : Int32)) = (1 : Int32)
   · skip
     refine sp_ (fun t_ k_ => XS.icmpNo X0.here hx rfl (B_ at_25) rfl (teq hc25_199).2 k_) ?_
     show Go_ s₁ (mkF mm_ 28 #[vi p1, vi p2, .val (.long q3), .second, vi (p1 &&& (3 : Int32)), vi (((p1.toUInt32 >>> ((2 : Int32) &&& 31).toUInt32).toInt32) &&& (3 : Int32)), un, un, un, un] [])
     obtain ⟨a200, T200, h200, k200, t200, kb200, X200, e200, E200, hS200, hk200, hZ200, hown200, Ex200, Fc200, Fv200, V200, -, -, I200, L200, st200⟩ := ldcSVL (s := ss_) (vm0 := ss_.vm) X0 hx hZ hown (w_ hw 118 rfl) own_atoms_ e0 hS0 (Nat.zero_le _) (by rw [hh, hn0]; exact N0) hkeep_ hI (by first | assumption | decide) (G_h_com_example_vestwright_vestwright_census_ReasonOfPinLaw_9) own_cw_ (vs := [(.int 100), (.int 105), (.int 115), (.int 97), (.int 98), (.int 105), (.int 108), (.int 105), (.int 116), (.int 121)]) (z := (10 : Int32)) ⟨by decide, rfl⟩ (by decide) (by decide) (g := (mkF mm_ 28 #[vi p1, vi p2, .val (.long q3), .second, vi (p1 &&& (3 : Int32)), vi (((p1.toUInt32 >>> ((2 : Int32) &&& 31).toUInt32).toInt32) &&& (3 : Int32)), un, un, un, un] [])) rfl (B_ at_28) (n := 40) (by decide) (by decide) (by decide) (by decide)
     have Ls200 : own_Str Z h200 a200 t200 [(100 : Int32), (105 : Int32), (115 : Int32), (97 : Int32), (98 : Int32), (105 : Int32), (108 : Int32), (105 : Int32), (116 : Int32), (121 : Int32)] := ⟨Ex200, Fc200, Fv200, ⟨kb200, V200⟩, by decide, by decide⟩
     refine sp_ st200 ?_
     show Go_ T200 (mkF mm_ 30 #[vi p1, vi p2, .val (.long q3), .second, vi (p1 &&& (3 : Int32)), vi (((p1.toUInt32 >>> ((2 : Int32) &&& 31).toUInt32).toInt32) &&& (3 : Int32)), un, un, un, un] [(.ref a200)])
     refine sp_ (fun t_ k_ => XS.goto X200.here hx rfl (pc0 := 30) (pc' := 46) rfl (B_ at_30) (by decide) (by decide) (XS.astore X200.here hx rfl (B_ at_46) rfl rfl (l' := #[vi p1, vi p2, .val (.long q3), .second, vi (p1 &&& (3 : Int32)), vi (((p1.toUInt32 >>> ((2 : Int32) &&& 31).toUInt32).toInt32) &&& (3 : Int32)), vr a200, un, un, un]) rfl (XS.lloadN X200.here hx rfl (B_ at_48) rfl  k_))) ?_
     show Go_ T200 (mkF mm_ 49 #[vi p1, vi p2, .val (.long q3), .second, vi (p1 &&& (3 : Int32)), vi (((p1.toUInt32 >>> ((2 : Int32) &&& 31).toUInt32).toInt32) &&& (3 : Int32)), vr a200, un, un, un] [(.long q3)])
     refine sp_ (fun t_ k_ => X200.ldc2Long hx hown200 (mvT hZ200 (w_ hw 8 rfl)) (g := (mkF mm_ 49 #[vi p1, vi p2, .val (.long q3), .second, vi (p1 &&& (3 : Int32)), vi (((p1.toUInt32 >>> ((2 : Int32) &&& 31).toUInt32).toInt32) &&& (3 : Int32)), vr a200, un, un, un] [(.long q3)])) rfl (B_ at_49) t_ k_) ?_
     show Go_ T200 (mkF mm_ 52 #[vi p1, vi p2, .val (.long q3), .second, vi (p1 &&& (3 : Int32)), vi (((p1.toUInt32 >>> ((2 : Int32) &&& 31).toUInt32).toInt32) &&& (3 : Int32)), vr a200, un, un, un] [(.long (255 : Int64)), (.long q3)])
     refine sp_ (fun t_ k_ => XS.land X200.here hx rfl (B_ at_52) rfl (XS.l2i X200.here hx rfl (B_ at_53) rfl k_)) ?_
     show Go_ T200 (mkF mm_ 54 #[vi p1, vi p2, .val (.long q3), .second, vi (p1 &&& (3 : Int32)), vi (((p1.toUInt32 >>> ((2 : Int32) &&& 31).toUInt32).toInt32) &&& (3 : Int32)), vr a200, un, un, un] [(.int ((q3 &&& (255 : Int64)).toInt32))])
     refine sp_ (fun t_ k_ => XS.i2c X200.here hx rfl (B_ at_54) rfl (by rw [own_i2cL]; exact (XS.istore X200.here hx rfl (B_ at_55) rfl (l' := #[vi p1, vi p2, .val (.long q3), .second, vi (p1 &&& (3 : Int32)), vi (((p1.toUInt32 >>> ((2 : Int32) &&& 31).toUInt32).toInt32) &&& (3 : Int32)), vr a200, vi ((q3 &&& (255 : Int64)).toInt32), un, un]) rfl (XS.iload X200.here hx rfl (B_ at_57) rfl  k_)))) ?_
     show Go_ T200 (mkF mm_ 59 #[vi p1, vi p2, .val (.long q3), .second, vi (p1 &&& (3 : Int32)), vi (((p1.toUInt32 >>> ((2 : Int32) &&& 31).toUInt32).toInt32) &&& (3 : Int32)), vr a200, vi ((q3 &&& (255 : Int64)).toInt32), un, un] [(.int (((p1.toUInt32 >>> ((2 : Int32) &&& 31).toUInt32).toInt32) &&& (3 : Int32)))])
     by_cases hc59_201 : (((p1.toUInt32 >>> ((2 : Int32) &&& 31).toUInt32).toInt32) &&& (3 : Int32)) = (0 : Int32)
     · skip
       refine sp_ (fun t_ k_ => XS.ifNo X200.here hx rfl (B_ at_59) rfl ((if0 _ _).trans (teq hc59_201).2) k_) ?_
       show Go_ T200 (mkF mm_ 62 #[vi p1, vi p2, .val (.long q3), .second, vi (p1 &&& (3 : Int32)), vi (((p1.toUInt32 >>> ((2 : Int32) &&& 31).toUInt32).toInt32) &&& (3 : Int32)), vr a200, vi ((q3 &&& (255 : Int64)).toInt32), un, un] [])
       refine sp_ (fun t_ k_ => XS.aload X200.here hx rfl (B_ at_62) rfl rfl (XS.iconst X200.here hx rfl (B_ at_64) (XS.iload X200.here hx rfl (B_ at_65) rfl  k_))) ?_
       show Go_ T200 (mkF mm_ 67 #[vi p1, vi p2, .val (.long q3), .second, vi (p1 &&& (3 : Int32)), vi (((p1.toUInt32 >>> ((2 : Int32) &&& 31).toUInt32).toInt32) &&& (3 : Int32)), vr a200, vi ((q3 &&& (255 : Int64)).toInt32), un, un] [(.int ((q3 &&& (255 : Int64)).toInt32)), (.int (-1)), (.ref a200)])
       have O203 : Old Z n0 h200 := (O0.ext E200)
       obtain ⟨_, T202, Lc202, X202, hQ202, st202⟩ := own_cS X200 hx hZ200 hown200 (w_ hw 9 rfl) (w_ hw 10 rfl) (w_ hw 11 rfl) (w_ hw 12 rfl) (by decide) (backOf (W := 0) (rmCp10 l Z a0 hw [] a200 (-1 : Int32) ((q3 &&& (255 : Int64)).toInt32) t200 (100 : Int32) (105 : Int32) (115 : Int32) (97 : Int32) (98 : Int32) (105 : Int32) (108 : Int32) (105 : Int32) (116 : Int32) (121 : Int32) h200 n0 O203 G_ Ls200 (own_sgL _)) hZ200 (w_ hw 12 rfl) (w_ hw 11 rfl) (by decide) (by decide)) (g := (mkF mm_ 67 #[vi p1, vi p2, .val (.long q3), .second, vi (p1 &&& (3 : Int32)), vi (((p1.toUInt32 >>> ((2 : Int32) &&& 31).toUInt32).toInt32) &&& (3 : Int32)), vr a200, vi ((q3 &&& (255 : Int64)).toInt32), un, un] [(.int ((q3 &&& (255 : Int64)).toInt32)), (.int (-1)), (.ref a200)])) rfl hml.symm (argsL := [(.ref a200), (.int (-1)), (.int ((q3 &&& (255 : Int64)).toInt32))]) (rest := []) (lenOf pd_12 rfl) rfl (Nat.le_of_eq rfl) (B_ at_67) rfl e200 (by decide) (by decide)
       obtain ⟨r_202, u_202, ds_202, rfl, Nq202, Kc202, r202_0, r202_1⟩ := hQ202
       have N202 := Fr.app N0 Nq202
       have K204 : Keep h0 h200 [] := (K0.ext E200)
       have lo_r_202 : h0.size ≤ r_202 := Nat.le_trans K204.1 r202_0
       have g_r_202 : n0 ≤ r_202 := Nat.le_trans Z0 lo_r_202
       refine jp_ st202 ?_
       show Go_ T202 (mkF mm_ 70 #[vi p1, vi p2, .val (.long q3), .second, vi (p1 &&& (3 : Int32)), vi (((p1.toUInt32 >>> ((2 : Int32) &&& 31).toUInt32).toInt32) &&& (3 : Int32)), vr a200, vi ((q3 &&& (255 : Int64)).toInt32), un, un] [(.ref r_202)])
       refine sp_ (fun t_ k_ => XS.astore X202.here hx rfl (B_ at_70) rfl rfl (l' := #[vi p1, vi p2, .val (.long q3), .second, vi (p1 &&& (3 : Int32)), vi (((p1.toUInt32 >>> ((2 : Int32) &&& 31).toUInt32).toInt32) &&& (3 : Int32)), vr a200, vi ((q3 &&& (255 : Int64)).toInt32), vr r_202, un]) rfl (XS.goto X202.here hx rfl (pc0 := 72) (pc' := 148) rfl (B_ at_72) (by decide) (by decide) k_)) ?_
       have f205 : own_Str Z T202.heap a200 t200 [(100 : Int32), (105 : Int32), (115 : Int32), (97 : Int32), (98 : Int32), (105 : Int32), (108 : Int32), (105 : Int32), (116 : Int32), (121 : Int32)] := (Ls200.keep Kc202 nin0 nin0)
       have K206 : Keep h0 T202.heap [] := (K204.trans Kc202 all0)
       have O207 : Old Z n0 T202.heap := (O203.keep Kc202 all0)
       exact seg_t1s _ _ _ (p1 &&& (3 : Int32)) (((p1.toUInt32 >>> ((2 : Int32) &&& 31).toUInt32).toInt32) &&& (3 : Int32)) ((q3 &&& (255 : Int64)).toInt32) a200 t200 r_202 u_202 ds_202 _ _ (X202.more (by decide) (by decide)) rfl N202 K206 O207 hS200 (Nat.le_trans hk200 Kc202.1) hZ200 hown200 (own_IB_mono I200 (by intro t_ h_; first | exact h_ | exact List.mem_cons_of_mem _ h_ | (revert t_ h_; decide))) L200 f205 r202_1
     · skip
       refine sp_ (fun t_ k_ => XS.ifYes X200.here hx rfl (pc0 := 59) (pc' := 75) rfl (B_ at_59) rfl ((if0 _ _).trans (feq hc59_201).2) (by decide) (by decide) k_) ?_
       show Go_ T200 (mkF mm_ 75 #[vi p1, vi p2, .val (.long q3), .second, vi (p1 &&& (3 : Int32)), vi (((p1.toUInt32 >>> ((2 : Int32) &&& 31).toUInt32).toInt32) &&& (3 : Int32)), vr a200, vi ((q3 &&& (255 : Int64)).toInt32), un, un] [])
       refine sp_ (fun t_ k_ => XS.iload X200.here hx rfl (B_ at_75) rfl  (XS.iconst X200.here hx rfl (B_ at_77) k_)) ?_
       show Go_ T200 (mkF mm_ 78 #[vi p1, vi p2, .val (.long q3), .second, vi (p1 &&& (3 : Int32)), vi (((p1.toUInt32 >>> ((2 : Int32) &&& 31).toUInt32).toInt32) &&& (3 : Int32)), vr a200, vi ((q3 &&& (255 : Int64)).toInt32), un, un] [(.int 1), (.int (((p1.toUInt32 >>> ((2 : Int32) &&& 31).toUInt32).toInt32) &&& (3 : Int32)))])
       by_cases hc78_208 : (((p1.toUInt32 >>> ((2 : Int32) &&& 31).toUInt32).toInt32) &&& (3 : Int32)) = (1 : Int32)
       · skip
         refine sp_ (fun t_ k_ => XS.icmpNo X200.here hx rfl (B_ at_78) rfl (teq hc78_208).2 k_) ?_
         show Go_ T200 (mkF mm_ 81 #[vi p1, vi p2, .val (.long q3), .second, vi (p1 &&& (3 : Int32)), vi (((p1.toUInt32 >>> ((2 : Int32) &&& 31).toUInt32).toInt32) &&& (3 : Int32)), vr a200, vi ((q3 &&& (255 : Int64)).toInt32), un, un] [])
         refine sp_ (fun t_ k_ => XS.aload X200.here hx rfl (B_ at_81) rfl rfl (XS.iloadN X200.here hx rfl (B_ at_83) rfl  k_)) ?_
         show Go_ T200 (mkF mm_ 84 #[vi p1, vi p2, .val (.long q3), .second, vi (p1 &&& (3 : Int32)), vi (((p1.toUInt32 >>> ((2 : Int32) &&& 31).toUInt32).toInt32) &&& (3 : Int32)), vr a200, vi ((q3 &&& (255 : Int64)).toInt32), un, un] [(.int p2), (.ref a200)])
         refine sp_ (fun t_ k_ => X200.ldcInt hx hown200 (mvT hZ200 (w_ hw 117 rfl)) (g := (mkF mm_ 84 #[vi p1, vi p2, .val (.long q3), .second, vi (p1 &&& (3 : Int32)), vi (((p1.toUInt32 >>> ((2 : Int32) &&& 31).toUInt32).toInt32) &&& (3 : Int32)), vr a200, vi ((q3 &&& (255 : Int64)).toInt32), un, un] [(.int p2), (.ref a200)])) rfl (B_ at_84) t_ k_) ?_
         show Go_ T200 (mkF mm_ 86 #[vi p1, vi p2, .val (.long q3), .second, vi (p1 &&& (3 : Int32)), vi (((p1.toUInt32 >>> ((2 : Int32) &&& 31).toUInt32).toInt32) &&& (3 : Int32)), vr a200, vi ((q3 &&& (255 : Int64)).toInt32), un, un] [(.int 2147483647), (.int p2), (.ref a200)])
         refine sp_ (fun t_ k_ => XS.iand X200.here hx rfl (B_ at_86) rfl (XS.aload X200.here hx rfl (B_ at_87) rfl rfl k_)) ?_
         show Go_ T200 (mkF mm_ 89 #[vi p1, vi p2, .val (.long q3), .second, vi (p1 &&& (3 : Int32)), vi (((p1.toUInt32 >>> ((2 : Int32) &&& 31).toUInt32).toInt32) &&& (3 : Int32)), vr a200, vi ((q3 &&& (255 : Int64)).toInt32), un, un] [(.ref a200), (.int (p2 &&& (2147483647 : Int32))), (.ref a200)])
         have O210 : Old Z n0 h200 := (O0.ext E200)
         obtain ⟨_, T209, Lc209, X209, hQ209, st209⟩ := own_cV X200 hx hZ200 hown200 (w_ hw 13 rfl) (w_ hw 14 rfl) (notFace_of_selects (args := #[]) (mvT hZ200 (w_ hw 16 rfl))) (w_ hw 16 rfl) (w_ hw 15 rfl) (by decide) (own_lenS (W := 2) hZ200 hw Ls200 (G_cs.ext O210.2) G_cs0 (by decide) (by decide)) Ex200 (g := (mkF mm_ 89 #[vi p1, vi p2, .val (.long q3), .second, vi (p1 &&& (3 : Int32)), vi (((p1.toUInt32 >>> ((2 : Int32) &&& 31).toUInt32).toInt32) &&& (3 : Int32)), vr a200, vi ((q3 &&& (255 : Int64)).toInt32), un, un] [(.ref a200), (.int (p2 &&& (2147483647 : Int32))), (.ref a200)])) rfl hml.symm (argsL := []) (rest := [(.int (p2 &&& (2147483647 : Int32))), (.ref a200)]) (lenOf pd_7 rfl) rfl (Nat.le_of_eq rfl) (B_ at_89) rfl e200 (by decide) (by decide)
         obtain ⟨rfl, rfl, Eh209⟩ := hQ209
         have N209 := Fr.app N0 (Fr.nil n0)
         refine jp_ st209 ?_
         show Go_ T209 (mkF mm_ 92 #[vi p1, vi p2, .val (.long q3), .second, vi (p1 &&& (3 : Int32)), vi (((p1.toUInt32 >>> ((2 : Int32) &&& 31).toUInt32).toInt32) &&& (3 : Int32)), vr a200, vi ((q3 &&& (255 : Int64)).toInt32), un, un] [(.int 10), (.int (p2 &&& (2147483647 : Int32))), (.ref a200)])
         refine sp_ (fun t_ k_ => iremM (g := (mkF mm_ 92 #[vi p1, vi p2, .val (.long q3), .second, vi (p1 &&& (3 : Int32)), vi (((p1.toUInt32 >>> ((2 : Int32) &&& 31).toUInt32).toInt32) &&& (3 : Int32)), vr a200, vi ((q3 &&& (255 : Int64)).toInt32), un, un] [(.int 10), (.int (p2 &&& (2147483647 : Int32))), (.ref a200)])) X209 hx rfl (B_ at_92) rfl (by decide) (XS.iload X209.here hx rfl (B_ at_93) rfl  k_)) ?_
         show Go_ T209 (mkF mm_ 95 #[vi p1, vi p2, .val (.long q3), .second, vi (p1 &&& (3 : Int32)), vi (((p1.toUInt32 >>> ((2 : Int32) &&& 31).toUInt32).toInt32) &&& (3 : Int32)), vr a200, vi ((q3 &&& (255 : Int64)).toInt32), un, un] [(.int ((q3 &&& (255 : Int64)).toInt32)), (.int ((p2 &&& (2147483647 : Int32)) % (10 : Int32))), (.ref a200)])
         obtain ⟨_, T211, Lc211, X211, hQ211, st211⟩ := own_cS X209 hx hZ200 hown200 (w_ hw 9 rfl) (w_ hw 10 rfl) (w_ hw 11 rfl) (w_ hw 12 rfl) (by decide) (backOf (W := 0) (rmCp10 l Z a0 hw [] a200 ((p2 &&& (2147483647 : Int32)) % (10 : Int32)) ((q3 &&& (255 : Int64)).toInt32) t200 (100 : Int32) (105 : Int32) (115 : Int32) (97 : Int32) (98 : Int32) (105 : Int32) (108 : Int32) (105 : Int32) (116 : Int32) (121 : Int32) h200 n0 O210 G_ Ls200 (own_sgL _)) hZ200 (w_ hw 12 rfl) (w_ hw 11 rfl) (by decide) (by decide)) (g := (mkF mm_ 95 #[vi p1, vi p2, .val (.long q3), .second, vi (p1 &&& (3 : Int32)), vi (((p1.toUInt32 >>> ((2 : Int32) &&& 31).toUInt32).toInt32) &&& (3 : Int32)), vr a200, vi ((q3 &&& (255 : Int64)).toInt32), un, un] [(.int ((q3 &&& (255 : Int64)).toInt32)), (.int ((p2 &&& (2147483647 : Int32)) % (10 : Int32))), (.ref a200)])) rfl hml.symm (argsL := [(.ref a200), (.int ((p2 &&& (2147483647 : Int32)) % (10 : Int32))), (.int ((q3 &&& (255 : Int64)).toInt32))]) (rest := []) (lenOf pd_12 rfl) rfl (Nat.le_of_eq rfl) (B_ at_95) rfl Eh209 (by decide) (by decide)
         obtain ⟨r_211, u_211, ds_211, rfl, Nq211, Kc211, r211_0, r211_1⟩ := hQ211
         have N211 := Fr.app N209 Nq211
         have K212 : Keep h0 h200 [] := (K0.ext E200)
         have lo_r_211 : h0.size ≤ r_211 := Nat.le_trans K212.1 r211_0
         have g_r_211 : n0 ≤ r_211 := Nat.le_trans Z0 lo_r_211
         refine jp_ st211 ?_
         show Go_ T211 (mkF mm_ 98 #[vi p1, vi p2, .val (.long q3), .second, vi (p1 &&& (3 : Int32)), vi (((p1.toUInt32 >>> ((2 : Int32) &&& 31).toUInt32).toInt32) &&& (3 : Int32)), vr a200, vi ((q3 &&& (255 : Int64)).toInt32), un, un] [(.ref r_211)])
         refine sp_ (fun t_ k_ => XS.astore X211.here hx rfl (B_ at_98) rfl rfl (l' := #[vi p1, vi p2, .val (.long q3), .second, vi (p1 &&& (3 : Int32)), vi (((p1.toUInt32 >>> ((2 : Int32) &&& 31).toUInt32).toInt32) &&& (3 : Int32)), vr a200, vi ((q3 &&& (255 : Int64)).toInt32), vr r_211, un]) rfl (XS.goto X211.here hx rfl (pc0 := 100) (pc' := 148) rfl (B_ at_100) (by decide) (by decide) k_)) ?_
         have f213 : own_Str Z T211.heap a200 t200 [(100 : Int32), (105 : Int32), (115 : Int32), (97 : Int32), (98 : Int32), (105 : Int32), (108 : Int32), (105 : Int32), (116 : Int32), (121 : Int32)] := (Ls200.keep Kc211 nin0 nin0)
         have K214 : Keep h0 T211.heap [] := (K212.trans Kc211 all0)
         have O215 : Old Z n0 T211.heap := (O210.keep Kc211 all0)
         exact seg_t1s _ _ _ (p1 &&& (3 : Int32)) (((p1.toUInt32 >>> ((2 : Int32) &&& 31).toUInt32).toInt32) &&& (3 : Int32)) ((q3 &&& (255 : Int64)).toInt32) a200 t200 r_211 u_211 ds_211 _ _ (X211.more (by decide) (by decide)) rfl N211 K214 O215 hS200 (Nat.le_trans hk200 Kc211.1) hZ200 hown200 (own_IB_mono I200 (by intro t_ h_; first | exact h_ | exact List.mem_cons_of_mem _ h_ | (revert t_ h_; decide))) L200 f213 r211_1
       · skip
         refine sp_ (fun t_ k_ => XS.icmpYes X200.here hx rfl (pc0 := 78) (pc' := 103) rfl (B_ at_78) rfl (feq hc78_208).2 (by decide) (by decide) k_) ?_
         show Go_ T200 (mkF mm_ 103 #[vi p1, vi p2, .val (.long q3), .second, vi (p1 &&& (3 : Int32)), vi (((p1.toUInt32 >>> ((2 : Int32) &&& 31).toUInt32).toInt32) &&& (3 : Int32)), vr a200, vi ((q3 &&& (255 : Int64)).toInt32), un, un] [])
         refine sp_ (fun t_ k_ => XS.iload X200.here hx rfl (B_ at_103) rfl  (XS.iconst X200.here hx rfl (B_ at_105) k_)) ?_
         show Go_ T200 (mkF mm_ 106 #[vi p1, vi p2, .val (.long q3), .second, vi (p1 &&& (3 : Int32)), vi (((p1.toUInt32 >>> ((2 : Int32) &&& 31).toUInt32).toInt32) &&& (3 : Int32)), vr a200, vi ((q3 &&& (255 : Int64)).toInt32), un, un] [(.int 2), (.int (((p1.toUInt32 >>> ((2 : Int32) &&& 31).toUInt32).toInt32) &&& (3 : Int32)))])
         by_cases hc106_216 : (((p1.toUInt32 >>> ((2 : Int32) &&& 31).toUInt32).toInt32) &&& (3 : Int32)) = (2 : Int32)
         · skip
           refine sp_ (fun t_ k_ => XS.icmpNo X200.here hx rfl (B_ at_106) rfl (teq hc106_216).2 k_) ?_
           show Go_ T200 (mkF mm_ 109 #[vi p1, vi p2, .val (.long q3), .second, vi (p1 &&& (3 : Int32)), vi (((p1.toUInt32 >>> ((2 : Int32) &&& 31).toUInt32).toInt32) &&& (3 : Int32)), vr a200, vi ((q3 &&& (255 : Int64)).toInt32), un, un] [])
           refine sp_ (fun t_ k_ => XS.iloadN X200.here hx rfl (B_ at_109) rfl  (XS.iconst X200.here hx rfl (B_ at_110) (XS.iushr X200.here hx rfl (B_ at_111) rfl (XS.iconst X200.here hx rfl (B_ at_112) (XS.iand X200.here hx rfl (B_ at_113) rfl k_))))) ?_
           show Go_ T200 (mkF mm_ 114 #[vi p1, vi p2, .val (.long q3), .second, vi (p1 &&& (3 : Int32)), vi (((p1.toUInt32 >>> ((2 : Int32) &&& 31).toUInt32).toInt32) &&& (3 : Int32)), vr a200, vi ((q3 &&& (255 : Int64)).toInt32), un, un] [(.int (((p1.toUInt32 >>> ((4 : Int32) &&& 31).toUInt32).toInt32) &&& (1 : Int32)))])
           by_cases hc114_217 : (((p1.toUInt32 >>> ((4 : Int32) &&& 31).toUInt32).toInt32) &&& (1 : Int32)) = (0 : Int32)
           · skip
             refine sp_ (fun t_ k_ => XS.ifNo X200.here hx rfl (B_ at_114) rfl ((if0 _ _).trans (teq hc114_217).2) k_) ?_
             show Go_ T200 (mkF mm_ 117 #[vi p1, vi p2, .val (.long q3), .second, vi (p1 &&& (3 : Int32)), vi (((p1.toUInt32 >>> ((2 : Int32) &&& 31).toUInt32).toInt32) &&& (3 : Int32)), vr a200, vi ((q3 &&& (255 : Int64)).toInt32), un, un] [])
             refine sp_ (fun t_ k_ => XS.aload X200.here hx rfl (B_ at_117) rfl rfl (XS.iload X200.here hx rfl (B_ at_119) rfl  k_)) ?_
             show Go_ T200 (mkF mm_ 121 #[vi p1, vi p2, .val (.long q3), .second, vi (p1 &&& (3 : Int32)), vi (((p1.toUInt32 >>> ((2 : Int32) &&& 31).toUInt32).toInt32) &&& (3 : Int32)), vr a200, vi ((q3 &&& (255 : Int64)).toInt32), un, un] [(.int ((q3 &&& (255 : Int64)).toInt32)), (.ref a200)])
             have O219 : Old Z n0 h200 := (O0.ext E200)
             obtain ⟨_, T218, Lc218, X218, hQ218, st218⟩ := own_cS X200 hx hZ200 hown200 (w_ hw 131 rfl) (w_ hw 132 rfl) (w_ hw 11 rfl) (w_ hw 133 rfl) (by decide) (backOf (W := 0) (rmLo10 l Z a0 hw [] a200 ((q3 &&& (255 : Int64)).toInt32) t200 (100 : Int32) (105 : Int32) (115 : Int32) (97 : Int32) (98 : Int32) (105 : Int32) (108 : Int32) (105 : Int32) (116 : Int32) (121 : Int32) h200 n0 O219 G_ Ls200 (own_sgL _)) hZ200 (w_ hw 133 rfl) (w_ hw 11 rfl) (by decide) (by decide)) (g := (mkF mm_ 121 #[vi p1, vi p2, .val (.long q3), .second, vi (p1 &&& (3 : Int32)), vi (((p1.toUInt32 >>> ((2 : Int32) &&& 31).toUInt32).toInt32) &&& (3 : Int32)), vr a200, vi ((q3 &&& (255 : Int64)).toInt32), un, un] [(.int ((q3 &&& (255 : Int64)).toInt32)), (.ref a200)])) rfl hml.symm (argsL := [(.ref a200), (.int ((q3 &&& (255 : Int64)).toInt32))]) (rest := []) (lenOf pd_13 rfl) rfl (Nat.le_of_eq rfl) (B_ at_121) rfl e200 (by decide) (by decide)
             obtain ⟨r_218, u_218, ds_218, rfl, Nq218, Kc218, r218_0, r218_1⟩ := hQ218
             have N218 := Fr.app N0 Nq218
             have K220 : Keep h0 h200 [] := (K0.ext E200)
             have lo_r_218 : h0.size ≤ r_218 := Nat.le_trans K220.1 r218_0
             have g_r_218 : n0 ≤ r_218 := Nat.le_trans Z0 lo_r_218
             refine jp_ st218 ?_
             show Go_ T218 (mkF mm_ 124 #[vi p1, vi p2, .val (.long q3), .second, vi (p1 &&& (3 : Int32)), vi (((p1.toUInt32 >>> ((2 : Int32) &&& 31).toUInt32).toInt32) &&& (3 : Int32)), vr a200, vi ((q3 &&& (255 : Int64)).toInt32), un, un] [(.ref r_218)])
             refine sp_ (fun t_ k_ => XS.goto X218.here hx rfl (pc0 := 124) (pc' := 132) rfl (B_ at_124) (by decide) (by decide) (XS.astore X218.here hx rfl (B_ at_132) rfl rfl (l' := #[vi p1, vi p2, .val (.long q3), .second, vi (p1 &&& (3 : Int32)), vi (((p1.toUInt32 >>> ((2 : Int32) &&& 31).toUInt32).toInt32) &&& (3 : Int32)), vr a200, vi ((q3 &&& (255 : Int64)).toInt32), vr r_218, un]) rfl (XS.goto X218.here hx rfl (pc0 := 134) (pc' := 148) rfl (B_ at_134) (by decide) (by decide) k_))) ?_
             have f221 : own_Str Z T218.heap a200 t200 [(100 : Int32), (105 : Int32), (115 : Int32), (97 : Int32), (98 : Int32), (105 : Int32), (108 : Int32), (105 : Int32), (116 : Int32), (121 : Int32)] := (Ls200.keep Kc218 nin0 nin0)
             have K222 : Keep h0 T218.heap [] := (K220.trans Kc218 all0)
             have O223 : Old Z n0 T218.heap := (O219.keep Kc218 all0)
             exact seg_t1s _ _ _ (p1 &&& (3 : Int32)) (((p1.toUInt32 >>> ((2 : Int32) &&& 31).toUInt32).toInt32) &&& (3 : Int32)) ((q3 &&& (255 : Int64)).toInt32) a200 t200 r_218 u_218 ds_218 _ _ (X218.more (by decide) (by decide)) rfl N218 K222 O223 hS200 (Nat.le_trans hk200 Kc218.1) hZ200 hown200 (own_IB_mono I200 (by intro t_ h_; first | exact h_ | exact List.mem_cons_of_mem _ h_ | (revert t_ h_; decide))) L200 f221 r218_1
           · skip
             refine sp_ (fun t_ k_ => XS.ifYes X200.here hx rfl (pc0 := 114) (pc' := 127) rfl (B_ at_114) rfl ((if0 _ _).trans (feq hc114_217).2) (by decide) (by decide) k_) ?_
             show Go_ T200 (mkF mm_ 127 #[vi p1, vi p2, .val (.long q3), .second, vi (p1 &&& (3 : Int32)), vi (((p1.toUInt32 >>> ((2 : Int32) &&& 31).toUInt32).toInt32) &&& (3 : Int32)), vr a200, vi ((q3 &&& (255 : Int64)).toInt32), un, un] [])
             refine sp_ (fun t_ k_ => XS.aload X200.here hx rfl (B_ at_127) rfl rfl k_) ?_
             show Go_ T200 (mkF mm_ 129 #[vi p1, vi p2, .val (.long q3), .second, vi (p1 &&& (3 : Int32)), vi (((p1.toUInt32 >>> ((2 : Int32) &&& 31).toUInt32).toInt32) &&& (3 : Int32)), vr a200, vi ((q3 &&& (255 : Int64)).toInt32), un, un] [(.ref a200)])
             have O225 : Old Z n0 h200 := (O0.ext E200)
             obtain ⟨_, T224, Lc224, X224, hQ224, st224⟩ := own_cS X200 hx hZ200 hown200 (w_ hw 134 rfl) (w_ hw 135 rfl) (w_ hw 11 rfl) (w_ hw 136 rfl) (by decide) (backOf (W := 0) (rmSh10 l Z a0 hw [] a200 t200 (100 : Int32) (105 : Int32) (115 : Int32) (97 : Int32) (98 : Int32) (105 : Int32) (108 : Int32) (105 : Int32) (116 : Int32) (121 : Int32) h200 n0 O225 G_ Ls200) hZ200 (w_ hw 136 rfl) (w_ hw 11 rfl) (by decide) (by decide)) (g := (mkF mm_ 129 #[vi p1, vi p2, .val (.long q3), .second, vi (p1 &&& (3 : Int32)), vi (((p1.toUInt32 >>> ((2 : Int32) &&& 31).toUInt32).toInt32) &&& (3 : Int32)), vr a200, vi ((q3 &&& (255 : Int64)).toInt32), un, un] [(.ref a200)])) rfl hml.symm (argsL := [(.ref a200)]) (rest := []) (lenOf pd_14 rfl) rfl (Nat.le_of_eq rfl) (B_ at_129) rfl e200 (by decide) (by decide)
             obtain ⟨r_224, u_224, ds_224, rfl, Nq224, Kc224, r224_0, r224_1⟩ := hQ224
             have N224 := Fr.app N0 Nq224
             have K226 : Keep h0 h200 [] := (K0.ext E200)
             have lo_r_224 : h0.size ≤ r_224 := Nat.le_trans K226.1 r224_0
             have g_r_224 : n0 ≤ r_224 := Nat.le_trans Z0 lo_r_224
             refine jp_ st224 ?_
             show Go_ T224 (mkF mm_ 132 #[vi p1, vi p2, .val (.long q3), .second, vi (p1 &&& (3 : Int32)), vi (((p1.toUInt32 >>> ((2 : Int32) &&& 31).toUInt32).toInt32) &&& (3 : Int32)), vr a200, vi ((q3 &&& (255 : Int64)).toInt32), un, un] [(.ref r_224)])
             refine sp_ (fun t_ k_ => XS.astore X224.here hx rfl (B_ at_132) rfl rfl (l' := #[vi p1, vi p2, .val (.long q3), .second, vi (p1 &&& (3 : Int32)), vi (((p1.toUInt32 >>> ((2 : Int32) &&& 31).toUInt32).toInt32) &&& (3 : Int32)), vr a200, vi ((q3 &&& (255 : Int64)).toInt32), vr r_224, un]) rfl (XS.goto X224.here hx rfl (pc0 := 134) (pc' := 148) rfl (B_ at_134) (by decide) (by decide) k_)) ?_
             have f227 : own_Str Z T224.heap a200 t200 [(100 : Int32), (105 : Int32), (115 : Int32), (97 : Int32), (98 : Int32), (105 : Int32), (108 : Int32), (105 : Int32), (116 : Int32), (121 : Int32)] := (Ls200.keep Kc224 nin0 nin0)
             have K228 : Keep h0 T224.heap [] := (K226.trans Kc224 all0)
             have O229 : Old Z n0 T224.heap := (O225.keep Kc224 all0)
             exact seg_t1s _ _ _ (p1 &&& (3 : Int32)) (((p1.toUInt32 >>> ((2 : Int32) &&& 31).toUInt32).toInt32) &&& (3 : Int32)) ((q3 &&& (255 : Int64)).toInt32) a200 t200 r_224 u_224 ds_224 _ _ (X224.more (by decide) (by decide)) rfl N224 K228 O229 hS200 (Nat.le_trans hk200 Kc224.1) hZ200 hown200 (own_IB_mono I200 (by intro t_ h_; first | exact h_ | exact List.mem_cons_of_mem _ h_ | (revert t_ h_; decide))) L200 f227 r224_1
         · skip
           refine sp_ (fun t_ k_ => XS.icmpYes X200.here hx rfl (pc0 := 106) (pc' := 137) rfl (B_ at_106) rfl (feq hc106_216).2 (by decide) (by decide) k_) ?_
           show Go_ T200 (mkF mm_ 137 #[vi p1, vi p2, .val (.long q3), .second, vi (p1 &&& (3 : Int32)), vi (((p1.toUInt32 >>> ((2 : Int32) &&& 31).toUInt32).toInt32) &&& (3 : Int32)), vr a200, vi ((q3 &&& (255 : Int64)).toInt32), un, un] [])
           refine sp_ (fun t_ k_ => XS.iloadN X200.here hx rfl (B_ at_137) rfl  (XS.iconst X200.here hx rfl (B_ at_138) (XS.iushr X200.here hx rfl (B_ at_139) rfl (XS.iconst X200.here hx rfl (B_ at_140) (XS.iand X200.here hx rfl (B_ at_141) rfl (XS.lloadN X200.here hx rfl (B_ at_142) rfl  k_)))))) ?_
           show Go_ T200 (mkF mm_ 143 #[vi p1, vi p2, .val (.long q3), .second, vi (p1 &&& (3 : Int32)), vi (((p1.toUInt32 >>> ((2 : Int32) &&& 31).toUInt32).toInt32) &&& (3 : Int32)), vr a200, vi ((q3 &&& (255 : Int64)).toInt32), un, un] [(.long q3), (.int (((p1.toUInt32 >>> ((4 : Int32) &&& 31).toUInt32).toInt32) &&& (3 : Int32)))])
           by_cases hd230 : (((p1.toUInt32 >>> ((4 : Int32) &&& 31).toUInt32).toInt32) &&& (3 : Int32)) = (0 : Int32)
           · skip
             have O232 : Old Z n0 h200 := (O0.ext E200)
             obtain ⟨_, T231, Lc231, X231, hQ231, st231⟩ := own_cS X200 hx hZ200 hown200 (w_ hw 112 rfl) (w_ hw 113 rfl) (w_ hw 11 rfl) (w_ hw 114 rfl) (by decide) (backOf (W := 0) (rmDn l Z a0 hw [] (((p1.toUInt32 >>> ((4 : Int32) &&& 31).toUInt32).toInt32) &&& (3 : Int32)) q3 h200 n0 O232 hd230) hZ200 (w_ hw 114 rfl) (w_ hw 11 rfl) (by decide) (by decide)) (g := (mkF mm_ 143 #[vi p1, vi p2, .val (.long q3), .second, vi (p1 &&& (3 : Int32)), vi (((p1.toUInt32 >>> ((2 : Int32) &&& 31).toUInt32).toInt32) &&& (3 : Int32)), vr a200, vi ((q3 &&& (255 : Int64)).toInt32), un, un] [(.long q3), (.int (((p1.toUInt32 >>> ((4 : Int32) &&& 31).toUInt32).toInt32) &&& (3 : Int32)))])) rfl hml.symm (argsL := [(.int (((p1.toUInt32 >>> ((4 : Int32) &&& 31).toUInt32).toInt32) &&& (3 : Int32))), (.long q3)]) (rest := []) (lenOf pd_15 rfl) rfl (Nat.le_of_eq rfl) (B_ at_143) rfl e200 (by decide) (by decide)
             obtain ⟨rfl, rfl, Eh231⟩ := hQ231
             have N231 := Fr.app N0 (Fr.nil n0)
             refine jp_ st231 ?_
             show Go_ T231 (mkF mm_ 146 #[vi p1, vi p2, .val (.long q3), .second, vi (p1 &&& (3 : Int32)), vi (((p1.toUInt32 >>> ((2 : Int32) &&& 31).toUInt32).toInt32) &&& (3 : Int32)), vr a200, vi ((q3 &&& (255 : Int64)).toInt32), un, un] [.null])
             refine sp_ (fun t_ k_ => XS.astore X231.here hx rfl (B_ at_146) rfl rfl (l' := #[vi p1, vi p2, .val (.long q3), .second, vi (p1 &&& (3 : Int32)), vi (((p1.toUInt32 >>> ((2 : Int32) &&& 31).toUInt32).toInt32) &&& (3 : Int32)), vr a200, vi ((q3 &&& (255 : Int64)).toInt32), .val .null, un]) rfl k_) ?_
             have K233 : Keep h0 h200 [] := (K0.ext E200)
             exact seg_t1n _ _ _ (p1 &&& (3 : Int32)) (((p1.toUInt32 >>> ((2 : Int32) &&& 31).toUInt32).toInt32) &&& (3 : Int32)) ((q3 &&& (255 : Int64)).toInt32) a200 t200 _ _ (X231.more (by decide) (by decide)) Eh231 N231 K233 O232 hS200 hk200 hZ200 hown200 (own_IB_mono I200 (by intro t_ h_; first | exact h_ | exact List.mem_cons_of_mem _ h_ | (revert t_ h_; decide))) L200 Ls200
           · skip
             have O235 : Old Z n0 h200 := (O0.ext E200)
             obtain ⟨_, _, ⟨T234, Lx234, kx234, nx234⟩, -, X234, hS234, hG234, ⟨Lc234, hQ234, l234, y234, z234⟩, st234⟩ := Jvm.RoadKit.callSS X200 hx (y := ym1) hown200 (mvT hZ200 (w_ hw 112 rfl)) (mvT hZ200 (w_ hw 113 rfl)) (mvT hZ200 (w_ hw 11 rfl)) (mvT hZ200 (w_ hw 114 rfl)) (by decide) (own_backI (J := fun q_ => IB Z q_ ("disability" :: [])) (J' := fun q_ => IB Z q_ ("" :: ("disability" :: []))) (W := 0) (rmDs l Z a0 hw [] (((p1.toUInt32 >>> ((4 : Int32) &&& 31).toUInt32).toInt32) &&& (3 : Int32)) q3 ("disability" :: []) h200 n0 O235 G_ hd230 (by first | assumption | rfl | decide | (simp; done))) hZ200 (w_ hw 114 rfl) (w_ hw 11 rfl) (by decide) (by decide)) (g := (mkF mm_ 143 #[vi p1, vi p2, .val (.long q3), .second, vi (p1 &&& (3 : Int32)), vi (((p1.toUInt32 >>> ((2 : Int32) &&& 31).toUInt32).toInt32) &&& (3 : Int32)), vr a200, vi ((q3 &&& (255 : Int64)).toInt32), un, un] [(.long q3), (.int (((p1.toUInt32 >>> ((4 : Int32) &&& 31).toUInt32).toInt32) &&& (3 : Int32)))])) rfl hml.symm (argsL := [(.int (((p1.toUInt32 >>> ((4 : Int32) &&& 31).toUInt32).toInt32) &&& (3 : Int32))), (.long q3)]) (rest := []) (lenOf pd_15 rfl) rfl (Nat.le_of_eq rfl) (B_ at_143) (fun vm_ hvm_ => ⟨rfl, e200, (by decide : 2 + 4 ≤ _), (by decide : 44 + 14 ≤ _), own_IB_mono (own_IB_warm I200 hvm_) (by intro t_ h_; first | exact h_ | exact List.mem_cons_of_mem _ h_ | (revert t_ h_; decide))⟩)
             dsimp only [Pt.U, Pt.locs, Pt.cells, Pt.slots] at X234 l234 y234 z234 st234 hQ234 hS234 hG234
             subst l234 y234 z234
             have Lk236 := Lit.stays L200 hS234.1
             obtain ⟨X234, hS234, hZ234, hown234⟩ := rebS (n1 := h200.size) hS200 hk200 X234 hS234 (by rw [← e200]; exact hG234) hZ200 hown200
             obtain ⟨hQ234, hIq234⟩ := hQ234
             obtain ⟨r_234, u_234, ds_234, rfl, Nq234, Kc234, r234_0, r234_1⟩ := hQ234
             have N234 := Fr.app N0 Nq234
             have K237 : Keep h0 h200 [] := (K0.ext E200)
             have lo_r_234 : h0.size ≤ r_234 := Nat.le_trans K237.1 r234_0
             have g_r_234 : n0 ≤ r_234 := Nat.le_trans Z0 lo_r_234
             refine jp_ st234 ?_
             show Go_ T234 (mkF mm_ 146 #[vi p1, vi p2, .val (.long q3), .second, vi (p1 &&& (3 : Int32)), vi (((p1.toUInt32 >>> ((2 : Int32) &&& 31).toUInt32).toInt32) &&& (3 : Int32)), vr a200, vi ((q3 &&& (255 : Int64)).toInt32), un, un] [(.ref r_234)])
             refine sp_ (fun t_ k_ => XS.astore X234.here hx rfl (B_ at_146) rfl rfl (l' := #[vi p1, vi p2, .val (.long q3), .second, vi (p1 &&& (3 : Int32)), vi (((p1.toUInt32 >>> ((2 : Int32) &&& 31).toUInt32).toInt32) &&& (3 : Int32)), vr a200, vi ((q3 &&& (255 : Int64)).toInt32), vr r_234, un]) rfl k_) ?_
             have f238 : own_Str Z T234.heap a200 t200 [(100 : Int32), (105 : Int32), (115 : Int32), (97 : Int32), (98 : Int32), (105 : Int32), (108 : Int32), (105 : Int32), (116 : Int32), (121 : Int32)] := (Ls200.keep Kc234 nin0 nin0)
             have K239 : Keep h0 T234.heap [] := (K237.trans Kc234 all0)
             have O240 : Old Z n0 T234.heap := (O235.keep Kc234 all0)
             exact seg_t1s _ _ _ (p1 &&& (3 : Int32)) (((p1.toUInt32 >>> ((2 : Int32) &&& 31).toUInt32).toInt32) &&& (3 : Int32)) ((q3 &&& (255 : Int64)).toInt32) a200 t200 r_234 u_234 ds_234 _ _ (X234.more (by decide) (by decide)) rfl N234 K239 O240 hS234 (Nat.le_refl _) hZ234 hown234 (own_IB_mono hIq234 (by intro t_ h_; first | exact h_ | exact List.mem_cons_of_mem _ h_ | (revert t_ h_; decide))) Lk236 f238 r234_1
   · skip
     refine sp_ (fun t_ k_ => XS.icmpYes X0.here hx rfl (pc0 := 25) (pc' := 33) rfl (B_ at_25) rfl (feq hc25_199).2 (by decide) (by decide) k_) ?_
     show Go_ s₁ (mkF mm_ 33 #[vi p1, vi p2, .val (.long q3), .second, vi (p1 &&& (3 : Int32)), vi (((p1.toUInt32 >>> ((2 : Int32) &&& 31).toUInt32).toInt32) &&& (3 : Int32)), un, un, un, un] [])
     refine sp_ (fun t_ k_ => XS.iload X0.here hx rfl (B_ at_33) rfl  (XS.iconst X0.here hx rfl (B_ at_35) k_)) ?_
     show Go_ s₁ (mkF mm_ 36 #[vi p1, vi p2, .val (.long q3), .second, vi (p1 &&& (3 : Int32)), vi (((p1.toUInt32 >>> ((2 : Int32) &&& 31).toUInt32).toInt32) &&& (3 : Int32)), un, un, un, un] [(.int 2), (.int (p1 &&& (3 : Int32)))])
     by_cases hc36_241 : (p1 &&& (3 : Int32)) = (2 : Int32)
     · skip
       refine sp_ (fun t_ k_ => XS.icmpNo X0.here hx rfl (B_ at_36) rfl (teq hc36_241).2 k_) ?_
       show Go_ s₁ (mkF mm_ 39 #[vi p1, vi p2, .val (.long q3), .second, vi (p1 &&& (3 : Int32)), vi (((p1.toUInt32 >>> ((2 : Int32) &&& 31).toUInt32).toInt32) &&& (3 : Int32)), un, un, un, un] [])
       obtain ⟨a242, T242, h242, k242, t242, kb242, X242, e242, E242, hS242, hk242, hZ242, hown242, Ex242, Fc242, Fv242, V242, -, -, I242, L242, st242⟩ := ldcSVL (s := ss_) (vm0 := ss_.vm) X0 hx hZ hown (w_ hw 116 rfl) own_atoms_ e0 hS0 (Nat.zero_le _) (by rw [hh, hn0]; exact N0) hkeep_ hI (by first | assumption | decide) (G_h_com_example_vestwright_vestwright_census_ReasonOfPinLaw_11) own_cw_ (vs := [(.int 114), (.int 101), (.int 116), (.int 105), (.int 114), (.int 101), (.int 109), (.int 101), (.int 110), (.int 116)]) (z := (10 : Int32)) ⟨by decide, rfl⟩ (by decide) (by decide) (g := (mkF mm_ 39 #[vi p1, vi p2, .val (.long q3), .second, vi (p1 &&& (3 : Int32)), vi (((p1.toUInt32 >>> ((2 : Int32) &&& 31).toUInt32).toInt32) &&& (3 : Int32)), un, un, un, un] [])) rfl (B_ at_39) (n := 40) (by decide) (by decide) (by decide) (by decide)
       have Ls242 : own_Str Z h242 a242 t242 [(114 : Int32), (101 : Int32), (116 : Int32), (105 : Int32), (114 : Int32), (101 : Int32), (109 : Int32), (101 : Int32), (110 : Int32), (116 : Int32)] := ⟨Ex242, Fc242, Fv242, ⟨kb242, V242⟩, by decide, by decide⟩
       refine sp_ st242 ?_
       show Go_ T242 (mkF mm_ 41 #[vi p1, vi p2, .val (.long q3), .second, vi (p1 &&& (3 : Int32)), vi (((p1.toUInt32 >>> ((2 : Int32) &&& 31).toUInt32).toInt32) &&& (3 : Int32)), un, un, un, un] [(.ref a242)])
       refine sp_ (fun t_ k_ => XS.goto X242.here hx rfl (pc0 := 41) (pc' := 46) rfl (B_ at_41) (by decide) (by decide) (XS.astore X242.here hx rfl (B_ at_46) rfl rfl (l' := #[vi p1, vi p2, .val (.long q3), .second, vi (p1 &&& (3 : Int32)), vi (((p1.toUInt32 >>> ((2 : Int32) &&& 31).toUInt32).toInt32) &&& (3 : Int32)), vr a242, un, un, un]) rfl (XS.lloadN X242.here hx rfl (B_ at_48) rfl  k_))) ?_
       show Go_ T242 (mkF mm_ 49 #[vi p1, vi p2, .val (.long q3), .second, vi (p1 &&& (3 : Int32)), vi (((p1.toUInt32 >>> ((2 : Int32) &&& 31).toUInt32).toInt32) &&& (3 : Int32)), vr a242, un, un, un] [(.long q3)])
       refine sp_ (fun t_ k_ => X242.ldc2Long hx hown242 (mvT hZ242 (w_ hw 8 rfl)) (g := (mkF mm_ 49 #[vi p1, vi p2, .val (.long q3), .second, vi (p1 &&& (3 : Int32)), vi (((p1.toUInt32 >>> ((2 : Int32) &&& 31).toUInt32).toInt32) &&& (3 : Int32)), vr a242, un, un, un] [(.long q3)])) rfl (B_ at_49) t_ k_) ?_
       show Go_ T242 (mkF mm_ 52 #[vi p1, vi p2, .val (.long q3), .second, vi (p1 &&& (3 : Int32)), vi (((p1.toUInt32 >>> ((2 : Int32) &&& 31).toUInt32).toInt32) &&& (3 : Int32)), vr a242, un, un, un] [(.long (255 : Int64)), (.long q3)])
       refine sp_ (fun t_ k_ => XS.land X242.here hx rfl (B_ at_52) rfl (XS.l2i X242.here hx rfl (B_ at_53) rfl k_)) ?_
       show Go_ T242 (mkF mm_ 54 #[vi p1, vi p2, .val (.long q3), .second, vi (p1 &&& (3 : Int32)), vi (((p1.toUInt32 >>> ((2 : Int32) &&& 31).toUInt32).toInt32) &&& (3 : Int32)), vr a242, un, un, un] [(.int ((q3 &&& (255 : Int64)).toInt32))])
       refine sp_ (fun t_ k_ => XS.i2c X242.here hx rfl (B_ at_54) rfl (by rw [own_i2cL]; exact (XS.istore X242.here hx rfl (B_ at_55) rfl (l' := #[vi p1, vi p2, .val (.long q3), .second, vi (p1 &&& (3 : Int32)), vi (((p1.toUInt32 >>> ((2 : Int32) &&& 31).toUInt32).toInt32) &&& (3 : Int32)), vr a242, vi ((q3 &&& (255 : Int64)).toInt32), un, un]) rfl (XS.iload X242.here hx rfl (B_ at_57) rfl  k_)))) ?_
       show Go_ T242 (mkF mm_ 59 #[vi p1, vi p2, .val (.long q3), .second, vi (p1 &&& (3 : Int32)), vi (((p1.toUInt32 >>> ((2 : Int32) &&& 31).toUInt32).toInt32) &&& (3 : Int32)), vr a242, vi ((q3 &&& (255 : Int64)).toInt32), un, un] [(.int (((p1.toUInt32 >>> ((2 : Int32) &&& 31).toUInt32).toInt32) &&& (3 : Int32)))])
       by_cases hc59_243 : (((p1.toUInt32 >>> ((2 : Int32) &&& 31).toUInt32).toInt32) &&& (3 : Int32)) = (0 : Int32)
       · skip
         refine sp_ (fun t_ k_ => XS.ifNo X242.here hx rfl (B_ at_59) rfl ((if0 _ _).trans (teq hc59_243).2) k_) ?_
         show Go_ T242 (mkF mm_ 62 #[vi p1, vi p2, .val (.long q3), .second, vi (p1 &&& (3 : Int32)), vi (((p1.toUInt32 >>> ((2 : Int32) &&& 31).toUInt32).toInt32) &&& (3 : Int32)), vr a242, vi ((q3 &&& (255 : Int64)).toInt32), un, un] [])
         refine sp_ (fun t_ k_ => XS.aload X242.here hx rfl (B_ at_62) rfl rfl (XS.iconst X242.here hx rfl (B_ at_64) (XS.iload X242.here hx rfl (B_ at_65) rfl  k_))) ?_
         show Go_ T242 (mkF mm_ 67 #[vi p1, vi p2, .val (.long q3), .second, vi (p1 &&& (3 : Int32)), vi (((p1.toUInt32 >>> ((2 : Int32) &&& 31).toUInt32).toInt32) &&& (3 : Int32)), vr a242, vi ((q3 &&& (255 : Int64)).toInt32), un, un] [(.int ((q3 &&& (255 : Int64)).toInt32)), (.int (-1)), (.ref a242)])
         have O245 : Old Z n0 h242 := (O0.ext E242)
         obtain ⟨_, T244, Lc244, X244, hQ244, st244⟩ := own_cS X242 hx hZ242 hown242 (w_ hw 9 rfl) (w_ hw 10 rfl) (w_ hw 11 rfl) (w_ hw 12 rfl) (by decide) (backOf (W := 0) (rmCp10 l Z a0 hw [] a242 (-1 : Int32) ((q3 &&& (255 : Int64)).toInt32) t242 (114 : Int32) (101 : Int32) (116 : Int32) (105 : Int32) (114 : Int32) (101 : Int32) (109 : Int32) (101 : Int32) (110 : Int32) (116 : Int32) h242 n0 O245 G_ Ls242 (own_sgL _)) hZ242 (w_ hw 12 rfl) (w_ hw 11 rfl) (by decide) (by decide)) (g := (mkF mm_ 67 #[vi p1, vi p2, .val (.long q3), .second, vi (p1 &&& (3 : Int32)), vi (((p1.toUInt32 >>> ((2 : Int32) &&& 31).toUInt32).toInt32) &&& (3 : Int32)), vr a242, vi ((q3 &&& (255 : Int64)).toInt32), un, un] [(.int ((q3 &&& (255 : Int64)).toInt32)), (.int (-1)), (.ref a242)])) rfl hml.symm (argsL := [(.ref a242), (.int (-1)), (.int ((q3 &&& (255 : Int64)).toInt32))]) (rest := []) (lenOf pd_12 rfl) rfl (Nat.le_of_eq rfl) (B_ at_67) rfl e242 (by decide) (by decide)
         obtain ⟨r_244, u_244, ds_244, rfl, Nq244, Kc244, r244_0, r244_1⟩ := hQ244
         have N244 := Fr.app N0 Nq244
         have K246 : Keep h0 h242 [] := (K0.ext E242)
         have lo_r_244 : h0.size ≤ r_244 := Nat.le_trans K246.1 r244_0
         have g_r_244 : n0 ≤ r_244 := Nat.le_trans Z0 lo_r_244
         refine jp_ st244 ?_
         show Go_ T244 (mkF mm_ 70 #[vi p1, vi p2, .val (.long q3), .second, vi (p1 &&& (3 : Int32)), vi (((p1.toUInt32 >>> ((2 : Int32) &&& 31).toUInt32).toInt32) &&& (3 : Int32)), vr a242, vi ((q3 &&& (255 : Int64)).toInt32), un, un] [(.ref r_244)])
         refine sp_ (fun t_ k_ => XS.astore X244.here hx rfl (B_ at_70) rfl rfl (l' := #[vi p1, vi p2, .val (.long q3), .second, vi (p1 &&& (3 : Int32)), vi (((p1.toUInt32 >>> ((2 : Int32) &&& 31).toUInt32).toInt32) &&& (3 : Int32)), vr a242, vi ((q3 &&& (255 : Int64)).toInt32), vr r_244, un]) rfl (XS.goto X244.here hx rfl (pc0 := 72) (pc' := 148) rfl (B_ at_72) (by decide) (by decide) k_)) ?_
         have f247 : own_Str Z T244.heap a242 t242 [(114 : Int32), (101 : Int32), (116 : Int32), (105 : Int32), (114 : Int32), (101 : Int32), (109 : Int32), (101 : Int32), (110 : Int32), (116 : Int32)] := (Ls242.keep Kc244 nin0 nin0)
         have K248 : Keep h0 T244.heap [] := (K246.trans Kc244 all0)
         have O249 : Old Z n0 T244.heap := (O245.keep Kc244 all0)
         exact seg_t2s _ _ _ (p1 &&& (3 : Int32)) (((p1.toUInt32 >>> ((2 : Int32) &&& 31).toUInt32).toInt32) &&& (3 : Int32)) ((q3 &&& (255 : Int64)).toInt32) a242 t242 r_244 u_244 ds_244 _ _ (X244.more (by decide) (by decide)) rfl N244 K248 O249 hS242 (Nat.le_trans hk242 Kc244.1) hZ242 hown242 (own_IB_mono I242 (by intro t_ h_; first | exact h_ | exact List.mem_cons_of_mem _ h_ | (revert t_ h_; decide))) L242 f247 r244_1
       · skip
         refine sp_ (fun t_ k_ => XS.ifYes X242.here hx rfl (pc0 := 59) (pc' := 75) rfl (B_ at_59) rfl ((if0 _ _).trans (feq hc59_243).2) (by decide) (by decide) k_) ?_
         show Go_ T242 (mkF mm_ 75 #[vi p1, vi p2, .val (.long q3), .second, vi (p1 &&& (3 : Int32)), vi (((p1.toUInt32 >>> ((2 : Int32) &&& 31).toUInt32).toInt32) &&& (3 : Int32)), vr a242, vi ((q3 &&& (255 : Int64)).toInt32), un, un] [])
         refine sp_ (fun t_ k_ => XS.iload X242.here hx rfl (B_ at_75) rfl  (XS.iconst X242.here hx rfl (B_ at_77) k_)) ?_
         show Go_ T242 (mkF mm_ 78 #[vi p1, vi p2, .val (.long q3), .second, vi (p1 &&& (3 : Int32)), vi (((p1.toUInt32 >>> ((2 : Int32) &&& 31).toUInt32).toInt32) &&& (3 : Int32)), vr a242, vi ((q3 &&& (255 : Int64)).toInt32), un, un] [(.int 1), (.int (((p1.toUInt32 >>> ((2 : Int32) &&& 31).toUInt32).toInt32) &&& (3 : Int32)))])
         by_cases hc78_250 : (((p1.toUInt32 >>> ((2 : Int32) &&& 31).toUInt32).toInt32) &&& (3 : Int32)) = (1 : Int32)
         · skip
           refine sp_ (fun t_ k_ => XS.icmpNo X242.here hx rfl (B_ at_78) rfl (teq hc78_250).2 k_) ?_
           show Go_ T242 (mkF mm_ 81 #[vi p1, vi p2, .val (.long q3), .second, vi (p1 &&& (3 : Int32)), vi (((p1.toUInt32 >>> ((2 : Int32) &&& 31).toUInt32).toInt32) &&& (3 : Int32)), vr a242, vi ((q3 &&& (255 : Int64)).toInt32), un, un] [])
           refine sp_ (fun t_ k_ => XS.aload X242.here hx rfl (B_ at_81) rfl rfl (XS.iloadN X242.here hx rfl (B_ at_83) rfl  k_)) ?_
           show Go_ T242 (mkF mm_ 84 #[vi p1, vi p2, .val (.long q3), .second, vi (p1 &&& (3 : Int32)), vi (((p1.toUInt32 >>> ((2 : Int32) &&& 31).toUInt32).toInt32) &&& (3 : Int32)), vr a242, vi ((q3 &&& (255 : Int64)).toInt32), un, un] [(.int p2), (.ref a242)])
           refine sp_ (fun t_ k_ => X242.ldcInt hx hown242 (mvT hZ242 (w_ hw 117 rfl)) (g := (mkF mm_ 84 #[vi p1, vi p2, .val (.long q3), .second, vi (p1 &&& (3 : Int32)), vi (((p1.toUInt32 >>> ((2 : Int32) &&& 31).toUInt32).toInt32) &&& (3 : Int32)), vr a242, vi ((q3 &&& (255 : Int64)).toInt32), un, un] [(.int p2), (.ref a242)])) rfl (B_ at_84) t_ k_) ?_
           show Go_ T242 (mkF mm_ 86 #[vi p1, vi p2, .val (.long q3), .second, vi (p1 &&& (3 : Int32)), vi (((p1.toUInt32 >>> ((2 : Int32) &&& 31).toUInt32).toInt32) &&& (3 : Int32)), vr a242, vi ((q3 &&& (255 : Int64)).toInt32), un, un] [(.int 2147483647), (.int p2), (.ref a242)])
           refine sp_ (fun t_ k_ => XS.iand X242.here hx rfl (B_ at_86) rfl (XS.aload X242.here hx rfl (B_ at_87) rfl rfl k_)) ?_
           show Go_ T242 (mkF mm_ 89 #[vi p1, vi p2, .val (.long q3), .second, vi (p1 &&& (3 : Int32)), vi (((p1.toUInt32 >>> ((2 : Int32) &&& 31).toUInt32).toInt32) &&& (3 : Int32)), vr a242, vi ((q3 &&& (255 : Int64)).toInt32), un, un] [(.ref a242), (.int (p2 &&& (2147483647 : Int32))), (.ref a242)])
           have O252 : Old Z n0 h242 := (O0.ext E242)
           obtain ⟨_, T251, Lc251, X251, hQ251, st251⟩ := own_cV X242 hx hZ242 hown242 (w_ hw 13 rfl) (w_ hw 14 rfl) (notFace_of_selects (args := #[]) (mvT hZ242 (w_ hw 16 rfl))) (w_ hw 16 rfl) (w_ hw 15 rfl) (by decide) (own_lenS (W := 2) hZ242 hw Ls242 (G_cs.ext O252.2) G_cs0 (by decide) (by decide)) Ex242 (g := (mkF mm_ 89 #[vi p1, vi p2, .val (.long q3), .second, vi (p1 &&& (3 : Int32)), vi (((p1.toUInt32 >>> ((2 : Int32) &&& 31).toUInt32).toInt32) &&& (3 : Int32)), vr a242, vi ((q3 &&& (255 : Int64)).toInt32), un, un] [(.ref a242), (.int (p2 &&& (2147483647 : Int32))), (.ref a242)])) rfl hml.symm (argsL := []) (rest := [(.int (p2 &&& (2147483647 : Int32))), (.ref a242)]) (lenOf pd_7 rfl) rfl (Nat.le_of_eq rfl) (B_ at_89) rfl e242 (by decide) (by decide)
           obtain ⟨rfl, rfl, Eh251⟩ := hQ251
           have N251 := Fr.app N0 (Fr.nil n0)
           refine jp_ st251 ?_
           show Go_ T251 (mkF mm_ 92 #[vi p1, vi p2, .val (.long q3), .second, vi (p1 &&& (3 : Int32)), vi (((p1.toUInt32 >>> ((2 : Int32) &&& 31).toUInt32).toInt32) &&& (3 : Int32)), vr a242, vi ((q3 &&& (255 : Int64)).toInt32), un, un] [(.int 10), (.int (p2 &&& (2147483647 : Int32))), (.ref a242)])
           refine sp_ (fun t_ k_ => iremM (g := (mkF mm_ 92 #[vi p1, vi p2, .val (.long q3), .second, vi (p1 &&& (3 : Int32)), vi (((p1.toUInt32 >>> ((2 : Int32) &&& 31).toUInt32).toInt32) &&& (3 : Int32)), vr a242, vi ((q3 &&& (255 : Int64)).toInt32), un, un] [(.int 10), (.int (p2 &&& (2147483647 : Int32))), (.ref a242)])) X251 hx rfl (B_ at_92) rfl (by decide) (XS.iload X251.here hx rfl (B_ at_93) rfl  k_)) ?_
           show Go_ T251 (mkF mm_ 95 #[vi p1, vi p2, .val (.long q3), .second, vi (p1 &&& (3 : Int32)), vi (((p1.toUInt32 >>> ((2 : Int32) &&& 31).toUInt32).toInt32) &&& (3 : Int32)), vr a242, vi ((q3 &&& (255 : Int64)).toInt32), un, un] [(.int ((q3 &&& (255 : Int64)).toInt32)), (.int ((p2 &&& (2147483647 : Int32)) % (10 : Int32))), (.ref a242)])
           obtain ⟨_, T253, Lc253, X253, hQ253, st253⟩ := own_cS X251 hx hZ242 hown242 (w_ hw 9 rfl) (w_ hw 10 rfl) (w_ hw 11 rfl) (w_ hw 12 rfl) (by decide) (backOf (W := 0) (rmCp10 l Z a0 hw [] a242 ((p2 &&& (2147483647 : Int32)) % (10 : Int32)) ((q3 &&& (255 : Int64)).toInt32) t242 (114 : Int32) (101 : Int32) (116 : Int32) (105 : Int32) (114 : Int32) (101 : Int32) (109 : Int32) (101 : Int32) (110 : Int32) (116 : Int32) h242 n0 O252 G_ Ls242 (own_sgL _)) hZ242 (w_ hw 12 rfl) (w_ hw 11 rfl) (by decide) (by decide)) (g := (mkF mm_ 95 #[vi p1, vi p2, .val (.long q3), .second, vi (p1 &&& (3 : Int32)), vi (((p1.toUInt32 >>> ((2 : Int32) &&& 31).toUInt32).toInt32) &&& (3 : Int32)), vr a242, vi ((q3 &&& (255 : Int64)).toInt32), un, un] [(.int ((q3 &&& (255 : Int64)).toInt32)), (.int ((p2 &&& (2147483647 : Int32)) % (10 : Int32))), (.ref a242)])) rfl hml.symm (argsL := [(.ref a242), (.int ((p2 &&& (2147483647 : Int32)) % (10 : Int32))), (.int ((q3 &&& (255 : Int64)).toInt32))]) (rest := []) (lenOf pd_12 rfl) rfl (Nat.le_of_eq rfl) (B_ at_95) rfl Eh251 (by decide) (by decide)
           obtain ⟨r_253, u_253, ds_253, rfl, Nq253, Kc253, r253_0, r253_1⟩ := hQ253
           have N253 := Fr.app N251 Nq253
           have K254 : Keep h0 h242 [] := (K0.ext E242)
           have lo_r_253 : h0.size ≤ r_253 := Nat.le_trans K254.1 r253_0
           have g_r_253 : n0 ≤ r_253 := Nat.le_trans Z0 lo_r_253
           refine jp_ st253 ?_
           show Go_ T253 (mkF mm_ 98 #[vi p1, vi p2, .val (.long q3), .second, vi (p1 &&& (3 : Int32)), vi (((p1.toUInt32 >>> ((2 : Int32) &&& 31).toUInt32).toInt32) &&& (3 : Int32)), vr a242, vi ((q3 &&& (255 : Int64)).toInt32), un, un] [(.ref r_253)])
           refine sp_ (fun t_ k_ => XS.astore X253.here hx rfl (B_ at_98) rfl rfl (l' := #[vi p1, vi p2, .val (.long q3), .second, vi (p1 &&& (3 : Int32)), vi (((p1.toUInt32 >>> ((2 : Int32) &&& 31).toUInt32).toInt32) &&& (3 : Int32)), vr a242, vi ((q3 &&& (255 : Int64)).toInt32), vr r_253, un]) rfl (XS.goto X253.here hx rfl (pc0 := 100) (pc' := 148) rfl (B_ at_100) (by decide) (by decide) k_)) ?_
           have f255 : own_Str Z T253.heap a242 t242 [(114 : Int32), (101 : Int32), (116 : Int32), (105 : Int32), (114 : Int32), (101 : Int32), (109 : Int32), (101 : Int32), (110 : Int32), (116 : Int32)] := (Ls242.keep Kc253 nin0 nin0)
           have K256 : Keep h0 T253.heap [] := (K254.trans Kc253 all0)
           have O257 : Old Z n0 T253.heap := (O252.keep Kc253 all0)
           exact seg_t2s _ _ _ (p1 &&& (3 : Int32)) (((p1.toUInt32 >>> ((2 : Int32) &&& 31).toUInt32).toInt32) &&& (3 : Int32)) ((q3 &&& (255 : Int64)).toInt32) a242 t242 r_253 u_253 ds_253 _ _ (X253.more (by decide) (by decide)) rfl N253 K256 O257 hS242 (Nat.le_trans hk242 Kc253.1) hZ242 hown242 (own_IB_mono I242 (by intro t_ h_; first | exact h_ | exact List.mem_cons_of_mem _ h_ | (revert t_ h_; decide))) L242 f255 r253_1
         · skip
           refine sp_ (fun t_ k_ => XS.icmpYes X242.here hx rfl (pc0 := 78) (pc' := 103) rfl (B_ at_78) rfl (feq hc78_250).2 (by decide) (by decide) k_) ?_
           show Go_ T242 (mkF mm_ 103 #[vi p1, vi p2, .val (.long q3), .second, vi (p1 &&& (3 : Int32)), vi (((p1.toUInt32 >>> ((2 : Int32) &&& 31).toUInt32).toInt32) &&& (3 : Int32)), vr a242, vi ((q3 &&& (255 : Int64)).toInt32), un, un] [])
           refine sp_ (fun t_ k_ => XS.iload X242.here hx rfl (B_ at_103) rfl  (XS.iconst X242.here hx rfl (B_ at_105) k_)) ?_
           show Go_ T242 (mkF mm_ 106 #[vi p1, vi p2, .val (.long q3), .second, vi (p1 &&& (3 : Int32)), vi (((p1.toUInt32 >>> ((2 : Int32) &&& 31).toUInt32).toInt32) &&& (3 : Int32)), vr a242, vi ((q3 &&& (255 : Int64)).toInt32), un, un] [(.int 2), (.int (((p1.toUInt32 >>> ((2 : Int32) &&& 31).toUInt32).toInt32) &&& (3 : Int32)))])
           by_cases hc106_258 : (((p1.toUInt32 >>> ((2 : Int32) &&& 31).toUInt32).toInt32) &&& (3 : Int32)) = (2 : Int32)
           · skip
             refine sp_ (fun t_ k_ => XS.icmpNo X242.here hx rfl (B_ at_106) rfl (teq hc106_258).2 k_) ?_
             show Go_ T242 (mkF mm_ 109 #[vi p1, vi p2, .val (.long q3), .second, vi (p1 &&& (3 : Int32)), vi (((p1.toUInt32 >>> ((2 : Int32) &&& 31).toUInt32).toInt32) &&& (3 : Int32)), vr a242, vi ((q3 &&& (255 : Int64)).toInt32), un, un] [])
             refine sp_ (fun t_ k_ => XS.iloadN X242.here hx rfl (B_ at_109) rfl  (XS.iconst X242.here hx rfl (B_ at_110) (XS.iushr X242.here hx rfl (B_ at_111) rfl (XS.iconst X242.here hx rfl (B_ at_112) (XS.iand X242.here hx rfl (B_ at_113) rfl k_))))) ?_
             show Go_ T242 (mkF mm_ 114 #[vi p1, vi p2, .val (.long q3), .second, vi (p1 &&& (3 : Int32)), vi (((p1.toUInt32 >>> ((2 : Int32) &&& 31).toUInt32).toInt32) &&& (3 : Int32)), vr a242, vi ((q3 &&& (255 : Int64)).toInt32), un, un] [(.int (((p1.toUInt32 >>> ((4 : Int32) &&& 31).toUInt32).toInt32) &&& (1 : Int32)))])
             by_cases hc114_259 : (((p1.toUInt32 >>> ((4 : Int32) &&& 31).toUInt32).toInt32) &&& (1 : Int32)) = (0 : Int32)
             · skip
               refine sp_ (fun t_ k_ => XS.ifNo X242.here hx rfl (B_ at_114) rfl ((if0 _ _).trans (teq hc114_259).2) k_) ?_
               show Go_ T242 (mkF mm_ 117 #[vi p1, vi p2, .val (.long q3), .second, vi (p1 &&& (3 : Int32)), vi (((p1.toUInt32 >>> ((2 : Int32) &&& 31).toUInt32).toInt32) &&& (3 : Int32)), vr a242, vi ((q3 &&& (255 : Int64)).toInt32), un, un] [])
               refine sp_ (fun t_ k_ => XS.aload X242.here hx rfl (B_ at_117) rfl rfl (XS.iload X242.here hx rfl (B_ at_119) rfl  k_)) ?_
               show Go_ T242 (mkF mm_ 121 #[vi p1, vi p2, .val (.long q3), .second, vi (p1 &&& (3 : Int32)), vi (((p1.toUInt32 >>> ((2 : Int32) &&& 31).toUInt32).toInt32) &&& (3 : Int32)), vr a242, vi ((q3 &&& (255 : Int64)).toInt32), un, un] [(.int ((q3 &&& (255 : Int64)).toInt32)), (.ref a242)])
               have O261 : Old Z n0 h242 := (O0.ext E242)
               obtain ⟨_, T260, Lc260, X260, hQ260, st260⟩ := own_cS X242 hx hZ242 hown242 (w_ hw 131 rfl) (w_ hw 132 rfl) (w_ hw 11 rfl) (w_ hw 133 rfl) (by decide) (backOf (W := 0) (rmLo10 l Z a0 hw [] a242 ((q3 &&& (255 : Int64)).toInt32) t242 (114 : Int32) (101 : Int32) (116 : Int32) (105 : Int32) (114 : Int32) (101 : Int32) (109 : Int32) (101 : Int32) (110 : Int32) (116 : Int32) h242 n0 O261 G_ Ls242 (own_sgL _)) hZ242 (w_ hw 133 rfl) (w_ hw 11 rfl) (by decide) (by decide)) (g := (mkF mm_ 121 #[vi p1, vi p2, .val (.long q3), .second, vi (p1 &&& (3 : Int32)), vi (((p1.toUInt32 >>> ((2 : Int32) &&& 31).toUInt32).toInt32) &&& (3 : Int32)), vr a242, vi ((q3 &&& (255 : Int64)).toInt32), un, un] [(.int ((q3 &&& (255 : Int64)).toInt32)), (.ref a242)])) rfl hml.symm (argsL := [(.ref a242), (.int ((q3 &&& (255 : Int64)).toInt32))]) (rest := []) (lenOf pd_13 rfl) rfl (Nat.le_of_eq rfl) (B_ at_121) rfl e242 (by decide) (by decide)
               obtain ⟨r_260, u_260, ds_260, rfl, Nq260, Kc260, r260_0, r260_1⟩ := hQ260
               have N260 := Fr.app N0 Nq260
               have K262 : Keep h0 h242 [] := (K0.ext E242)
               have lo_r_260 : h0.size ≤ r_260 := Nat.le_trans K262.1 r260_0
               have g_r_260 : n0 ≤ r_260 := Nat.le_trans Z0 lo_r_260
               refine jp_ st260 ?_
               show Go_ T260 (mkF mm_ 124 #[vi p1, vi p2, .val (.long q3), .second, vi (p1 &&& (3 : Int32)), vi (((p1.toUInt32 >>> ((2 : Int32) &&& 31).toUInt32).toInt32) &&& (3 : Int32)), vr a242, vi ((q3 &&& (255 : Int64)).toInt32), un, un] [(.ref r_260)])
               refine sp_ (fun t_ k_ => XS.goto X260.here hx rfl (pc0 := 124) (pc' := 132) rfl (B_ at_124) (by decide) (by decide) (XS.astore X260.here hx rfl (B_ at_132) rfl rfl (l' := #[vi p1, vi p2, .val (.long q3), .second, vi (p1 &&& (3 : Int32)), vi (((p1.toUInt32 >>> ((2 : Int32) &&& 31).toUInt32).toInt32) &&& (3 : Int32)), vr a242, vi ((q3 &&& (255 : Int64)).toInt32), vr r_260, un]) rfl (XS.goto X260.here hx rfl (pc0 := 134) (pc' := 148) rfl (B_ at_134) (by decide) (by decide) k_))) ?_
               have f263 : own_Str Z T260.heap a242 t242 [(114 : Int32), (101 : Int32), (116 : Int32), (105 : Int32), (114 : Int32), (101 : Int32), (109 : Int32), (101 : Int32), (110 : Int32), (116 : Int32)] := (Ls242.keep Kc260 nin0 nin0)
               have K264 : Keep h0 T260.heap [] := (K262.trans Kc260 all0)
               have O265 : Old Z n0 T260.heap := (O261.keep Kc260 all0)
               exact seg_t2s _ _ _ (p1 &&& (3 : Int32)) (((p1.toUInt32 >>> ((2 : Int32) &&& 31).toUInt32).toInt32) &&& (3 : Int32)) ((q3 &&& (255 : Int64)).toInt32) a242 t242 r_260 u_260 ds_260 _ _ (X260.more (by decide) (by decide)) rfl N260 K264 O265 hS242 (Nat.le_trans hk242 Kc260.1) hZ242 hown242 (own_IB_mono I242 (by intro t_ h_; first | exact h_ | exact List.mem_cons_of_mem _ h_ | (revert t_ h_; decide))) L242 f263 r260_1
             · skip
               refine sp_ (fun t_ k_ => XS.ifYes X242.here hx rfl (pc0 := 114) (pc' := 127) rfl (B_ at_114) rfl ((if0 _ _).trans (feq hc114_259).2) (by decide) (by decide) k_) ?_
               show Go_ T242 (mkF mm_ 127 #[vi p1, vi p2, .val (.long q3), .second, vi (p1 &&& (3 : Int32)), vi (((p1.toUInt32 >>> ((2 : Int32) &&& 31).toUInt32).toInt32) &&& (3 : Int32)), vr a242, vi ((q3 &&& (255 : Int64)).toInt32), un, un] [])
               refine sp_ (fun t_ k_ => XS.aload X242.here hx rfl (B_ at_127) rfl rfl k_) ?_
               show Go_ T242 (mkF mm_ 129 #[vi p1, vi p2, .val (.long q3), .second, vi (p1 &&& (3 : Int32)), vi (((p1.toUInt32 >>> ((2 : Int32) &&& 31).toUInt32).toInt32) &&& (3 : Int32)), vr a242, vi ((q3 &&& (255 : Int64)).toInt32), un, un] [(.ref a242)])
               have O267 : Old Z n0 h242 := (O0.ext E242)
               obtain ⟨_, T266, Lc266, X266, hQ266, st266⟩ := own_cS X242 hx hZ242 hown242 (w_ hw 134 rfl) (w_ hw 135 rfl) (w_ hw 11 rfl) (w_ hw 136 rfl) (by decide) (backOf (W := 0) (rmSh10 l Z a0 hw [] a242 t242 (114 : Int32) (101 : Int32) (116 : Int32) (105 : Int32) (114 : Int32) (101 : Int32) (109 : Int32) (101 : Int32) (110 : Int32) (116 : Int32) h242 n0 O267 G_ Ls242) hZ242 (w_ hw 136 rfl) (w_ hw 11 rfl) (by decide) (by decide)) (g := (mkF mm_ 129 #[vi p1, vi p2, .val (.long q3), .second, vi (p1 &&& (3 : Int32)), vi (((p1.toUInt32 >>> ((2 : Int32) &&& 31).toUInt32).toInt32) &&& (3 : Int32)), vr a242, vi ((q3 &&& (255 : Int64)).toInt32), un, un] [(.ref a242)])) rfl hml.symm (argsL := [(.ref a242)]) (rest := []) (lenOf pd_14 rfl) rfl (Nat.le_of_eq rfl) (B_ at_129) rfl e242 (by decide) (by decide)
               obtain ⟨r_266, u_266, ds_266, rfl, Nq266, Kc266, r266_0, r266_1⟩ := hQ266
               have N266 := Fr.app N0 Nq266
               have K268 : Keep h0 h242 [] := (K0.ext E242)
               have lo_r_266 : h0.size ≤ r_266 := Nat.le_trans K268.1 r266_0
               have g_r_266 : n0 ≤ r_266 := Nat.le_trans Z0 lo_r_266
               refine jp_ st266 ?_
               show Go_ T266 (mkF mm_ 132 #[vi p1, vi p2, .val (.long q3), .second, vi (p1 &&& (3 : Int32)), vi (((p1.toUInt32 >>> ((2 : Int32) &&& 31).toUInt32).toInt32) &&& (3 : Int32)), vr a242, vi ((q3 &&& (255 : Int64)).toInt32), un, un] [(.ref r_266)])
               refine sp_ (fun t_ k_ => XS.astore X266.here hx rfl (B_ at_132) rfl rfl (l' := #[vi p1, vi p2, .val (.long q3), .second, vi (p1 &&& (3 : Int32)), vi (((p1.toUInt32 >>> ((2 : Int32) &&& 31).toUInt32).toInt32) &&& (3 : Int32)), vr a242, vi ((q3 &&& (255 : Int64)).toInt32), vr r_266, un]) rfl (XS.goto X266.here hx rfl (pc0 := 134) (pc' := 148) rfl (B_ at_134) (by decide) (by decide) k_)) ?_
               have f269 : own_Str Z T266.heap a242 t242 [(114 : Int32), (101 : Int32), (116 : Int32), (105 : Int32), (114 : Int32), (101 : Int32), (109 : Int32), (101 : Int32), (110 : Int32), (116 : Int32)] := (Ls242.keep Kc266 nin0 nin0)
               have K270 : Keep h0 T266.heap [] := (K268.trans Kc266 all0)
               have O271 : Old Z n0 T266.heap := (O267.keep Kc266 all0)
               exact seg_t2s _ _ _ (p1 &&& (3 : Int32)) (((p1.toUInt32 >>> ((2 : Int32) &&& 31).toUInt32).toInt32) &&& (3 : Int32)) ((q3 &&& (255 : Int64)).toInt32) a242 t242 r_266 u_266 ds_266 _ _ (X266.more (by decide) (by decide)) rfl N266 K270 O271 hS242 (Nat.le_trans hk242 Kc266.1) hZ242 hown242 (own_IB_mono I242 (by intro t_ h_; first | exact h_ | exact List.mem_cons_of_mem _ h_ | (revert t_ h_; decide))) L242 f269 r266_1
           · skip
             refine sp_ (fun t_ k_ => XS.icmpYes X242.here hx rfl (pc0 := 106) (pc' := 137) rfl (B_ at_106) rfl (feq hc106_258).2 (by decide) (by decide) k_) ?_
             show Go_ T242 (mkF mm_ 137 #[vi p1, vi p2, .val (.long q3), .second, vi (p1 &&& (3 : Int32)), vi (((p1.toUInt32 >>> ((2 : Int32) &&& 31).toUInt32).toInt32) &&& (3 : Int32)), vr a242, vi ((q3 &&& (255 : Int64)).toInt32), un, un] [])
             refine sp_ (fun t_ k_ => XS.iloadN X242.here hx rfl (B_ at_137) rfl  (XS.iconst X242.here hx rfl (B_ at_138) (XS.iushr X242.here hx rfl (B_ at_139) rfl (XS.iconst X242.here hx rfl (B_ at_140) (XS.iand X242.here hx rfl (B_ at_141) rfl (XS.lloadN X242.here hx rfl (B_ at_142) rfl  k_)))))) ?_
             show Go_ T242 (mkF mm_ 143 #[vi p1, vi p2, .val (.long q3), .second, vi (p1 &&& (3 : Int32)), vi (((p1.toUInt32 >>> ((2 : Int32) &&& 31).toUInt32).toInt32) &&& (3 : Int32)), vr a242, vi ((q3 &&& (255 : Int64)).toInt32), un, un] [(.long q3), (.int (((p1.toUInt32 >>> ((4 : Int32) &&& 31).toUInt32).toInt32) &&& (3 : Int32)))])
             by_cases hd272 : (((p1.toUInt32 >>> ((4 : Int32) &&& 31).toUInt32).toInt32) &&& (3 : Int32)) = (0 : Int32)
             · skip
               have O274 : Old Z n0 h242 := (O0.ext E242)
               obtain ⟨_, T273, Lc273, X273, hQ273, st273⟩ := own_cS X242 hx hZ242 hown242 (w_ hw 112 rfl) (w_ hw 113 rfl) (w_ hw 11 rfl) (w_ hw 114 rfl) (by decide) (backOf (W := 0) (rmDn l Z a0 hw [] (((p1.toUInt32 >>> ((4 : Int32) &&& 31).toUInt32).toInt32) &&& (3 : Int32)) q3 h242 n0 O274 hd272) hZ242 (w_ hw 114 rfl) (w_ hw 11 rfl) (by decide) (by decide)) (g := (mkF mm_ 143 #[vi p1, vi p2, .val (.long q3), .second, vi (p1 &&& (3 : Int32)), vi (((p1.toUInt32 >>> ((2 : Int32) &&& 31).toUInt32).toInt32) &&& (3 : Int32)), vr a242, vi ((q3 &&& (255 : Int64)).toInt32), un, un] [(.long q3), (.int (((p1.toUInt32 >>> ((4 : Int32) &&& 31).toUInt32).toInt32) &&& (3 : Int32)))])) rfl hml.symm (argsL := [(.int (((p1.toUInt32 >>> ((4 : Int32) &&& 31).toUInt32).toInt32) &&& (3 : Int32))), (.long q3)]) (rest := []) (lenOf pd_15 rfl) rfl (Nat.le_of_eq rfl) (B_ at_143) rfl e242 (by decide) (by decide)
               obtain ⟨rfl, rfl, Eh273⟩ := hQ273
               have N273 := Fr.app N0 (Fr.nil n0)
               refine jp_ st273 ?_
               show Go_ T273 (mkF mm_ 146 #[vi p1, vi p2, .val (.long q3), .second, vi (p1 &&& (3 : Int32)), vi (((p1.toUInt32 >>> ((2 : Int32) &&& 31).toUInt32).toInt32) &&& (3 : Int32)), vr a242, vi ((q3 &&& (255 : Int64)).toInt32), un, un] [.null])
               refine sp_ (fun t_ k_ => XS.astore X273.here hx rfl (B_ at_146) rfl rfl (l' := #[vi p1, vi p2, .val (.long q3), .second, vi (p1 &&& (3 : Int32)), vi (((p1.toUInt32 >>> ((2 : Int32) &&& 31).toUInt32).toInt32) &&& (3 : Int32)), vr a242, vi ((q3 &&& (255 : Int64)).toInt32), .val .null, un]) rfl k_) ?_
               have K275 : Keep h0 h242 [] := (K0.ext E242)
               exact seg_t2n _ _ _ (p1 &&& (3 : Int32)) (((p1.toUInt32 >>> ((2 : Int32) &&& 31).toUInt32).toInt32) &&& (3 : Int32)) ((q3 &&& (255 : Int64)).toInt32) a242 t242 _ _ (X273.more (by decide) (by decide)) Eh273 N273 K275 O274 hS242 hk242 hZ242 hown242 (own_IB_mono I242 (by intro t_ h_; first | exact h_ | exact List.mem_cons_of_mem _ h_ | (revert t_ h_; decide))) L242 Ls242
             · skip
               have O277 : Old Z n0 h242 := (O0.ext E242)
               obtain ⟨_, _, ⟨T276, Lx276, kx276, nx276⟩, -, X276, hS276, hG276, ⟨Lc276, hQ276, l276, y276, z276⟩, st276⟩ := Jvm.RoadKit.callSS X242 hx (y := ym1) hown242 (mvT hZ242 (w_ hw 112 rfl)) (mvT hZ242 (w_ hw 113 rfl)) (mvT hZ242 (w_ hw 11 rfl)) (mvT hZ242 (w_ hw 114 rfl)) (by decide) (own_backI (J := fun q_ => IB Z q_ ("retirement" :: [])) (J' := fun q_ => IB Z q_ ("" :: ("retirement" :: []))) (W := 0) (rmDs l Z a0 hw [] (((p1.toUInt32 >>> ((4 : Int32) &&& 31).toUInt32).toInt32) &&& (3 : Int32)) q3 ("retirement" :: []) h242 n0 O277 G_ hd272 (by first | assumption | rfl | decide | (simp; done))) hZ242 (w_ hw 114 rfl) (w_ hw 11 rfl) (by decide) (by decide)) (g := (mkF mm_ 143 #[vi p1, vi p2, .val (.long q3), .second, vi (p1 &&& (3 : Int32)), vi (((p1.toUInt32 >>> ((2 : Int32) &&& 31).toUInt32).toInt32) &&& (3 : Int32)), vr a242, vi ((q3 &&& (255 : Int64)).toInt32), un, un] [(.long q3), (.int (((p1.toUInt32 >>> ((4 : Int32) &&& 31).toUInt32).toInt32) &&& (3 : Int32)))])) rfl hml.symm (argsL := [(.int (((p1.toUInt32 >>> ((4 : Int32) &&& 31).toUInt32).toInt32) &&& (3 : Int32))), (.long q3)]) (rest := []) (lenOf pd_15 rfl) rfl (Nat.le_of_eq rfl) (B_ at_143) (fun vm_ hvm_ => ⟨rfl, e242, (by decide : 2 + 4 ≤ _), (by decide : 44 + 14 ≤ _), own_IB_mono (own_IB_warm I242 hvm_) (by intro t_ h_; first | exact h_ | exact List.mem_cons_of_mem _ h_ | (revert t_ h_; decide))⟩)
               dsimp only [Pt.U, Pt.locs, Pt.cells, Pt.slots] at X276 l276 y276 z276 st276 hQ276 hS276 hG276
               subst l276 y276 z276
               have Lk278 := Lit.stays L242 hS276.1
               obtain ⟨X276, hS276, hZ276, hown276⟩ := rebS (n1 := h242.size) hS242 hk242 X276 hS276 (by rw [← e242]; exact hG276) hZ242 hown242
               obtain ⟨hQ276, hIq276⟩ := hQ276
               obtain ⟨r_276, u_276, ds_276, rfl, Nq276, Kc276, r276_0, r276_1⟩ := hQ276
               have N276 := Fr.app N0 Nq276
               have K279 : Keep h0 h242 [] := (K0.ext E242)
               have lo_r_276 : h0.size ≤ r_276 := Nat.le_trans K279.1 r276_0
               have g_r_276 : n0 ≤ r_276 := Nat.le_trans Z0 lo_r_276
               refine jp_ st276 ?_
               show Go_ T276 (mkF mm_ 146 #[vi p1, vi p2, .val (.long q3), .second, vi (p1 &&& (3 : Int32)), vi (((p1.toUInt32 >>> ((2 : Int32) &&& 31).toUInt32).toInt32) &&& (3 : Int32)), vr a242, vi ((q3 &&& (255 : Int64)).toInt32), un, un] [(.ref r_276)])
               refine sp_ (fun t_ k_ => XS.astore X276.here hx rfl (B_ at_146) rfl rfl (l' := #[vi p1, vi p2, .val (.long q3), .second, vi (p1 &&& (3 : Int32)), vi (((p1.toUInt32 >>> ((2 : Int32) &&& 31).toUInt32).toInt32) &&& (3 : Int32)), vr a242, vi ((q3 &&& (255 : Int64)).toInt32), vr r_276, un]) rfl k_) ?_
               have f280 : own_Str Z T276.heap a242 t242 [(114 : Int32), (101 : Int32), (116 : Int32), (105 : Int32), (114 : Int32), (101 : Int32), (109 : Int32), (101 : Int32), (110 : Int32), (116 : Int32)] := (Ls242.keep Kc276 nin0 nin0)
               have K281 : Keep h0 T276.heap [] := (K279.trans Kc276 all0)
               have O282 : Old Z n0 T276.heap := (O277.keep Kc276 all0)
               exact seg_t2s _ _ _ (p1 &&& (3 : Int32)) (((p1.toUInt32 >>> ((2 : Int32) &&& 31).toUInt32).toInt32) &&& (3 : Int32)) ((q3 &&& (255 : Int64)).toInt32) a242 t242 r_276 u_276 ds_276 _ _ (X276.more (by decide) (by decide)) rfl N276 K281 O282 hS276 (Nat.le_refl _) hZ276 hown276 (own_IB_mono hIq276 (by intro t_ h_; first | exact h_ | exact List.mem_cons_of_mem _ h_ | (revert t_ h_; decide))) Lk278 f280 r276_1
     · skip
       refine sp_ (fun t_ k_ => XS.icmpYes X0.here hx rfl (pc0 := 36) (pc' := 44) rfl (B_ at_36) rfl (feq hc36_241).2 (by decide) (by decide) k_) ?_
       show Go_ s₁ (mkF mm_ 44 #[vi p1, vi p2, .val (.long q3), .second, vi (p1 &&& (3 : Int32)), vi (((p1.toUInt32 >>> ((2 : Int32) &&& 31).toUInt32).toInt32) &&& (3 : Int32)), un, un, un, un] [])
       obtain ⟨a283, T283, h283, k283, t283, kb283, X283, e283, E283, hS283, hk283, hZ283, hown283, Ex283, Fc283, Fv283, V283, -, -, I283, L283, st283⟩ := ldcSVL (s := ss_) (vm0 := ss_.vm) X0 hx hZ hown (w_ hw 115 rfl) own_atoms_ e0 hS0 (Nat.zero_le _) (by rw [hh, hn0]; exact N0) hkeep_ hI (by first | assumption | decide) (G_h_com_example_vestwright_vestwright_census_ReasonOfPinLaw_13) own_cw_ (vs := [(.int 111), (.int 116), (.int 104), (.int 101), (.int 114)]) (z := (5 : Int32)) ⟨by decide, rfl⟩ (by decide) (by decide) (g := (mkF mm_ 44 #[vi p1, vi p2, .val (.long q3), .second, vi (p1 &&& (3 : Int32)), vi (((p1.toUInt32 >>> ((2 : Int32) &&& 31).toUInt32).toInt32) &&& (3 : Int32)), un, un, un, un] [])) rfl (B_ at_44) (n := 20) (by decide) (by decide) (by decide) (by decide)
       have Ls283 : own_Str Z h283 a283 t283 [(111 : Int32), (116 : Int32), (104 : Int32), (101 : Int32), (114 : Int32)] := ⟨Ex283, Fc283, Fv283, ⟨kb283, V283⟩, by decide, by decide⟩
       refine sp_ st283 ?_
       show Go_ T283 (mkF mm_ 46 #[vi p1, vi p2, .val (.long q3), .second, vi (p1 &&& (3 : Int32)), vi (((p1.toUInt32 >>> ((2 : Int32) &&& 31).toUInt32).toInt32) &&& (3 : Int32)), un, un, un, un] [(.ref a283)])
       refine sp_ (fun t_ k_ => XS.astore X283.here hx rfl (B_ at_46) rfl rfl (l' := #[vi p1, vi p2, .val (.long q3), .second, vi (p1 &&& (3 : Int32)), vi (((p1.toUInt32 >>> ((2 : Int32) &&& 31).toUInt32).toInt32) &&& (3 : Int32)), vr a283, un, un, un]) rfl (XS.lloadN X283.here hx rfl (B_ at_48) rfl  k_)) ?_
       show Go_ T283 (mkF mm_ 49 #[vi p1, vi p2, .val (.long q3), .second, vi (p1 &&& (3 : Int32)), vi (((p1.toUInt32 >>> ((2 : Int32) &&& 31).toUInt32).toInt32) &&& (3 : Int32)), vr a283, un, un, un] [(.long q3)])
       refine sp_ (fun t_ k_ => X283.ldc2Long hx hown283 (mvT hZ283 (w_ hw 8 rfl)) (g := (mkF mm_ 49 #[vi p1, vi p2, .val (.long q3), .second, vi (p1 &&& (3 : Int32)), vi (((p1.toUInt32 >>> ((2 : Int32) &&& 31).toUInt32).toInt32) &&& (3 : Int32)), vr a283, un, un, un] [(.long q3)])) rfl (B_ at_49) t_ k_) ?_
       show Go_ T283 (mkF mm_ 52 #[vi p1, vi p2, .val (.long q3), .second, vi (p1 &&& (3 : Int32)), vi (((p1.toUInt32 >>> ((2 : Int32) &&& 31).toUInt32).toInt32) &&& (3 : Int32)), vr a283, un, un, un] [(.long (255 : Int64)), (.long q3)])
       refine sp_ (fun t_ k_ => XS.land X283.here hx rfl (B_ at_52) rfl (XS.l2i X283.here hx rfl (B_ at_53) rfl k_)) ?_
       show Go_ T283 (mkF mm_ 54 #[vi p1, vi p2, .val (.long q3), .second, vi (p1 &&& (3 : Int32)), vi (((p1.toUInt32 >>> ((2 : Int32) &&& 31).toUInt32).toInt32) &&& (3 : Int32)), vr a283, un, un, un] [(.int ((q3 &&& (255 : Int64)).toInt32))])
       refine sp_ (fun t_ k_ => XS.i2c X283.here hx rfl (B_ at_54) rfl (by rw [own_i2cL]; exact (XS.istore X283.here hx rfl (B_ at_55) rfl (l' := #[vi p1, vi p2, .val (.long q3), .second, vi (p1 &&& (3 : Int32)), vi (((p1.toUInt32 >>> ((2 : Int32) &&& 31).toUInt32).toInt32) &&& (3 : Int32)), vr a283, vi ((q3 &&& (255 : Int64)).toInt32), un, un]) rfl (XS.iload X283.here hx rfl (B_ at_57) rfl  k_)))) ?_
       show Go_ T283 (mkF mm_ 59 #[vi p1, vi p2, .val (.long q3), .second, vi (p1 &&& (3 : Int32)), vi (((p1.toUInt32 >>> ((2 : Int32) &&& 31).toUInt32).toInt32) &&& (3 : Int32)), vr a283, vi ((q3 &&& (255 : Int64)).toInt32), un, un] [(.int (((p1.toUInt32 >>> ((2 : Int32) &&& 31).toUInt32).toInt32) &&& (3 : Int32)))])
       by_cases hc59_284 : (((p1.toUInt32 >>> ((2 : Int32) &&& 31).toUInt32).toInt32) &&& (3 : Int32)) = (0 : Int32)
       · skip
         refine sp_ (fun t_ k_ => XS.ifNo X283.here hx rfl (B_ at_59) rfl ((if0 _ _).trans (teq hc59_284).2) k_) ?_
         show Go_ T283 (mkF mm_ 62 #[vi p1, vi p2, .val (.long q3), .second, vi (p1 &&& (3 : Int32)), vi (((p1.toUInt32 >>> ((2 : Int32) &&& 31).toUInt32).toInt32) &&& (3 : Int32)), vr a283, vi ((q3 &&& (255 : Int64)).toInt32), un, un] [])
         refine sp_ (fun t_ k_ => XS.aload X283.here hx rfl (B_ at_62) rfl rfl (XS.iconst X283.here hx rfl (B_ at_64) (XS.iload X283.here hx rfl (B_ at_65) rfl  k_))) ?_
         show Go_ T283 (mkF mm_ 67 #[vi p1, vi p2, .val (.long q3), .second, vi (p1 &&& (3 : Int32)), vi (((p1.toUInt32 >>> ((2 : Int32) &&& 31).toUInt32).toInt32) &&& (3 : Int32)), vr a283, vi ((q3 &&& (255 : Int64)).toInt32), un, un] [(.int ((q3 &&& (255 : Int64)).toInt32)), (.int (-1)), (.ref a283)])
         have O286 : Old Z n0 h283 := (O0.ext E283)
         obtain ⟨_, T285, Lc285, X285, hQ285, st285⟩ := own_cS X283 hx hZ283 hown283 (w_ hw 9 rfl) (w_ hw 10 rfl) (w_ hw 11 rfl) (w_ hw 12 rfl) (by decide) (backOf (W := 0) (rmCp5 l Z a0 hw [] a283 (-1 : Int32) ((q3 &&& (255 : Int64)).toInt32) t283 (111 : Int32) (116 : Int32) (104 : Int32) (101 : Int32) (114 : Int32) h283 n0 O286 G_ Ls283 (own_sgL _)) hZ283 (w_ hw 12 rfl) (w_ hw 11 rfl) (by decide) (by decide)) (g := (mkF mm_ 67 #[vi p1, vi p2, .val (.long q3), .second, vi (p1 &&& (3 : Int32)), vi (((p1.toUInt32 >>> ((2 : Int32) &&& 31).toUInt32).toInt32) &&& (3 : Int32)), vr a283, vi ((q3 &&& (255 : Int64)).toInt32), un, un] [(.int ((q3 &&& (255 : Int64)).toInt32)), (.int (-1)), (.ref a283)])) rfl hml.symm (argsL := [(.ref a283), (.int (-1)), (.int ((q3 &&& (255 : Int64)).toInt32))]) (rest := []) (lenOf pd_12 rfl) rfl (Nat.le_of_eq rfl) (B_ at_67) rfl e283 (by decide) (by decide)
         obtain ⟨r_285, u_285, ds_285, rfl, Nq285, Kc285, r285_0, r285_1⟩ := hQ285
         have N285 := Fr.app N0 Nq285
         have K287 : Keep h0 h283 [] := (K0.ext E283)
         have lo_r_285 : h0.size ≤ r_285 := Nat.le_trans K287.1 r285_0
         have g_r_285 : n0 ≤ r_285 := Nat.le_trans Z0 lo_r_285
         refine jp_ st285 ?_
         show Go_ T285 (mkF mm_ 70 #[vi p1, vi p2, .val (.long q3), .second, vi (p1 &&& (3 : Int32)), vi (((p1.toUInt32 >>> ((2 : Int32) &&& 31).toUInt32).toInt32) &&& (3 : Int32)), vr a283, vi ((q3 &&& (255 : Int64)).toInt32), un, un] [(.ref r_285)])
         refine sp_ (fun t_ k_ => XS.astore X285.here hx rfl (B_ at_70) rfl rfl (l' := #[vi p1, vi p2, .val (.long q3), .second, vi (p1 &&& (3 : Int32)), vi (((p1.toUInt32 >>> ((2 : Int32) &&& 31).toUInt32).toInt32) &&& (3 : Int32)), vr a283, vi ((q3 &&& (255 : Int64)).toInt32), vr r_285, un]) rfl (XS.goto X285.here hx rfl (pc0 := 72) (pc' := 148) rfl (B_ at_72) (by decide) (by decide) k_)) ?_
         have f288 : own_Str Z T285.heap a283 t283 [(111 : Int32), (116 : Int32), (104 : Int32), (101 : Int32), (114 : Int32)] := (Ls283.keep Kc285 nin0 nin0)
         have K289 : Keep h0 T285.heap [] := (K287.trans Kc285 all0)
         have O290 : Old Z n0 T285.heap := (O286.keep Kc285 all0)
         exact seg_t3s _ _ _ (p1 &&& (3 : Int32)) (((p1.toUInt32 >>> ((2 : Int32) &&& 31).toUInt32).toInt32) &&& (3 : Int32)) ((q3 &&& (255 : Int64)).toInt32) a283 t283 r_285 u_285 ds_285 _ _ (X285.more (by decide) (by decide)) rfl N285 K289 O290 hS283 (Nat.le_trans hk283 Kc285.1) hZ283 hown283 (own_IB_mono I283 (by intro t_ h_; first | exact h_ | exact List.mem_cons_of_mem _ h_ | (revert t_ h_; decide))) L283 f288 r285_1
       · skip
         refine sp_ (fun t_ k_ => XS.ifYes X283.here hx rfl (pc0 := 59) (pc' := 75) rfl (B_ at_59) rfl ((if0 _ _).trans (feq hc59_284).2) (by decide) (by decide) k_) ?_
         show Go_ T283 (mkF mm_ 75 #[vi p1, vi p2, .val (.long q3), .second, vi (p1 &&& (3 : Int32)), vi (((p1.toUInt32 >>> ((2 : Int32) &&& 31).toUInt32).toInt32) &&& (3 : Int32)), vr a283, vi ((q3 &&& (255 : Int64)).toInt32), un, un] [])
         refine sp_ (fun t_ k_ => XS.iload X283.here hx rfl (B_ at_75) rfl  (XS.iconst X283.here hx rfl (B_ at_77) k_)) ?_
         show Go_ T283 (mkF mm_ 78 #[vi p1, vi p2, .val (.long q3), .second, vi (p1 &&& (3 : Int32)), vi (((p1.toUInt32 >>> ((2 : Int32) &&& 31).toUInt32).toInt32) &&& (3 : Int32)), vr a283, vi ((q3 &&& (255 : Int64)).toInt32), un, un] [(.int 1), (.int (((p1.toUInt32 >>> ((2 : Int32) &&& 31).toUInt32).toInt32) &&& (3 : Int32)))])
         by_cases hc78_291 : (((p1.toUInt32 >>> ((2 : Int32) &&& 31).toUInt32).toInt32) &&& (3 : Int32)) = (1 : Int32)
         · skip
           refine sp_ (fun t_ k_ => XS.icmpNo X283.here hx rfl (B_ at_78) rfl (teq hc78_291).2 k_) ?_
           show Go_ T283 (mkF mm_ 81 #[vi p1, vi p2, .val (.long q3), .second, vi (p1 &&& (3 : Int32)), vi (((p1.toUInt32 >>> ((2 : Int32) &&& 31).toUInt32).toInt32) &&& (3 : Int32)), vr a283, vi ((q3 &&& (255 : Int64)).toInt32), un, un] [])
           refine sp_ (fun t_ k_ => XS.aload X283.here hx rfl (B_ at_81) rfl rfl (XS.iloadN X283.here hx rfl (B_ at_83) rfl  k_)) ?_
           show Go_ T283 (mkF mm_ 84 #[vi p1, vi p2, .val (.long q3), .second, vi (p1 &&& (3 : Int32)), vi (((p1.toUInt32 >>> ((2 : Int32) &&& 31).toUInt32).toInt32) &&& (3 : Int32)), vr a283, vi ((q3 &&& (255 : Int64)).toInt32), un, un] [(.int p2), (.ref a283)])
           refine sp_ (fun t_ k_ => X283.ldcInt hx hown283 (mvT hZ283 (w_ hw 117 rfl)) (g := (mkF mm_ 84 #[vi p1, vi p2, .val (.long q3), .second, vi (p1 &&& (3 : Int32)), vi (((p1.toUInt32 >>> ((2 : Int32) &&& 31).toUInt32).toInt32) &&& (3 : Int32)), vr a283, vi ((q3 &&& (255 : Int64)).toInt32), un, un] [(.int p2), (.ref a283)])) rfl (B_ at_84) t_ k_) ?_
           show Go_ T283 (mkF mm_ 86 #[vi p1, vi p2, .val (.long q3), .second, vi (p1 &&& (3 : Int32)), vi (((p1.toUInt32 >>> ((2 : Int32) &&& 31).toUInt32).toInt32) &&& (3 : Int32)), vr a283, vi ((q3 &&& (255 : Int64)).toInt32), un, un] [(.int 2147483647), (.int p2), (.ref a283)])
           refine sp_ (fun t_ k_ => XS.iand X283.here hx rfl (B_ at_86) rfl (XS.aload X283.here hx rfl (B_ at_87) rfl rfl k_)) ?_
           show Go_ T283 (mkF mm_ 89 #[vi p1, vi p2, .val (.long q3), .second, vi (p1 &&& (3 : Int32)), vi (((p1.toUInt32 >>> ((2 : Int32) &&& 31).toUInt32).toInt32) &&& (3 : Int32)), vr a283, vi ((q3 &&& (255 : Int64)).toInt32), un, un] [(.ref a283), (.int (p2 &&& (2147483647 : Int32))), (.ref a283)])
           have O293 : Old Z n0 h283 := (O0.ext E283)
           obtain ⟨_, T292, Lc292, X292, hQ292, st292⟩ := own_cV X283 hx hZ283 hown283 (w_ hw 13 rfl) (w_ hw 14 rfl) (notFace_of_selects (args := #[]) (mvT hZ283 (w_ hw 16 rfl))) (w_ hw 16 rfl) (w_ hw 15 rfl) (by decide) (own_lenS (W := 2) hZ283 hw Ls283 (G_cs.ext O293.2) G_cs0 (by decide) (by decide)) Ex283 (g := (mkF mm_ 89 #[vi p1, vi p2, .val (.long q3), .second, vi (p1 &&& (3 : Int32)), vi (((p1.toUInt32 >>> ((2 : Int32) &&& 31).toUInt32).toInt32) &&& (3 : Int32)), vr a283, vi ((q3 &&& (255 : Int64)).toInt32), un, un] [(.ref a283), (.int (p2 &&& (2147483647 : Int32))), (.ref a283)])) rfl hml.symm (argsL := []) (rest := [(.int (p2 &&& (2147483647 : Int32))), (.ref a283)]) (lenOf pd_7 rfl) rfl (Nat.le_of_eq rfl) (B_ at_89) rfl e283 (by decide) (by decide)
           obtain ⟨rfl, rfl, Eh292⟩ := hQ292
           have N292 := Fr.app N0 (Fr.nil n0)
           refine jp_ st292 ?_
           show Go_ T292 (mkF mm_ 92 #[vi p1, vi p2, .val (.long q3), .second, vi (p1 &&& (3 : Int32)), vi (((p1.toUInt32 >>> ((2 : Int32) &&& 31).toUInt32).toInt32) &&& (3 : Int32)), vr a283, vi ((q3 &&& (255 : Int64)).toInt32), un, un] [(.int 5), (.int (p2 &&& (2147483647 : Int32))), (.ref a283)])
           refine sp_ (fun t_ k_ => iremM (g := (mkF mm_ 92 #[vi p1, vi p2, .val (.long q3), .second, vi (p1 &&& (3 : Int32)), vi (((p1.toUInt32 >>> ((2 : Int32) &&& 31).toUInt32).toInt32) &&& (3 : Int32)), vr a283, vi ((q3 &&& (255 : Int64)).toInt32), un, un] [(.int 5), (.int (p2 &&& (2147483647 : Int32))), (.ref a283)])) X292 hx rfl (B_ at_92) rfl (by decide) (XS.iload X292.here hx rfl (B_ at_93) rfl  k_)) ?_
           show Go_ T292 (mkF mm_ 95 #[vi p1, vi p2, .val (.long q3), .second, vi (p1 &&& (3 : Int32)), vi (((p1.toUInt32 >>> ((2 : Int32) &&& 31).toUInt32).toInt32) &&& (3 : Int32)), vr a283, vi ((q3 &&& (255 : Int64)).toInt32), un, un] [(.int ((q3 &&& (255 : Int64)).toInt32)), (.int ((p2 &&& (2147483647 : Int32)) % (5 : Int32))), (.ref a283)])
           obtain ⟨_, T294, Lc294, X294, hQ294, st294⟩ := own_cS X292 hx hZ283 hown283 (w_ hw 9 rfl) (w_ hw 10 rfl) (w_ hw 11 rfl) (w_ hw 12 rfl) (by decide) (backOf (W := 0) (rmCp5 l Z a0 hw [] a283 ((p2 &&& (2147483647 : Int32)) % (5 : Int32)) ((q3 &&& (255 : Int64)).toInt32) t283 (111 : Int32) (116 : Int32) (104 : Int32) (101 : Int32) (114 : Int32) h283 n0 O293 G_ Ls283 (own_sgL _)) hZ283 (w_ hw 12 rfl) (w_ hw 11 rfl) (by decide) (by decide)) (g := (mkF mm_ 95 #[vi p1, vi p2, .val (.long q3), .second, vi (p1 &&& (3 : Int32)), vi (((p1.toUInt32 >>> ((2 : Int32) &&& 31).toUInt32).toInt32) &&& (3 : Int32)), vr a283, vi ((q3 &&& (255 : Int64)).toInt32), un, un] [(.int ((q3 &&& (255 : Int64)).toInt32)), (.int ((p2 &&& (2147483647 : Int32)) % (5 : Int32))), (.ref a283)])) rfl hml.symm (argsL := [(.ref a283), (.int ((p2 &&& (2147483647 : Int32)) % (5 : Int32))), (.int ((q3 &&& (255 : Int64)).toInt32))]) (rest := []) (lenOf pd_12 rfl) rfl (Nat.le_of_eq rfl) (B_ at_95) rfl Eh292 (by decide) (by decide)
           obtain ⟨r_294, u_294, ds_294, rfl, Nq294, Kc294, r294_0, r294_1⟩ := hQ294
           have N294 := Fr.app N292 Nq294
           have K295 : Keep h0 h283 [] := (K0.ext E283)
           have lo_r_294 : h0.size ≤ r_294 := Nat.le_trans K295.1 r294_0
           have g_r_294 : n0 ≤ r_294 := Nat.le_trans Z0 lo_r_294
           refine jp_ st294 ?_
           show Go_ T294 (mkF mm_ 98 #[vi p1, vi p2, .val (.long q3), .second, vi (p1 &&& (3 : Int32)), vi (((p1.toUInt32 >>> ((2 : Int32) &&& 31).toUInt32).toInt32) &&& (3 : Int32)), vr a283, vi ((q3 &&& (255 : Int64)).toInt32), un, un] [(.ref r_294)])
           refine sp_ (fun t_ k_ => XS.astore X294.here hx rfl (B_ at_98) rfl rfl (l' := #[vi p1, vi p2, .val (.long q3), .second, vi (p1 &&& (3 : Int32)), vi (((p1.toUInt32 >>> ((2 : Int32) &&& 31).toUInt32).toInt32) &&& (3 : Int32)), vr a283, vi ((q3 &&& (255 : Int64)).toInt32), vr r_294, un]) rfl (XS.goto X294.here hx rfl (pc0 := 100) (pc' := 148) rfl (B_ at_100) (by decide) (by decide) k_)) ?_
           have f296 : own_Str Z T294.heap a283 t283 [(111 : Int32), (116 : Int32), (104 : Int32), (101 : Int32), (114 : Int32)] := (Ls283.keep Kc294 nin0 nin0)
           have K297 : Keep h0 T294.heap [] := (K295.trans Kc294 all0)
           have O298 : Old Z n0 T294.heap := (O293.keep Kc294 all0)
           exact seg_t3s _ _ _ (p1 &&& (3 : Int32)) (((p1.toUInt32 >>> ((2 : Int32) &&& 31).toUInt32).toInt32) &&& (3 : Int32)) ((q3 &&& (255 : Int64)).toInt32) a283 t283 r_294 u_294 ds_294 _ _ (X294.more (by decide) (by decide)) rfl N294 K297 O298 hS283 (Nat.le_trans hk283 Kc294.1) hZ283 hown283 (own_IB_mono I283 (by intro t_ h_; first | exact h_ | exact List.mem_cons_of_mem _ h_ | (revert t_ h_; decide))) L283 f296 r294_1
         · skip
           refine sp_ (fun t_ k_ => XS.icmpYes X283.here hx rfl (pc0 := 78) (pc' := 103) rfl (B_ at_78) rfl (feq hc78_291).2 (by decide) (by decide) k_) ?_
           show Go_ T283 (mkF mm_ 103 #[vi p1, vi p2, .val (.long q3), .second, vi (p1 &&& (3 : Int32)), vi (((p1.toUInt32 >>> ((2 : Int32) &&& 31).toUInt32).toInt32) &&& (3 : Int32)), vr a283, vi ((q3 &&& (255 : Int64)).toInt32), un, un] [])
           refine sp_ (fun t_ k_ => XS.iload X283.here hx rfl (B_ at_103) rfl  (XS.iconst X283.here hx rfl (B_ at_105) k_)) ?_
           show Go_ T283 (mkF mm_ 106 #[vi p1, vi p2, .val (.long q3), .second, vi (p1 &&& (3 : Int32)), vi (((p1.toUInt32 >>> ((2 : Int32) &&& 31).toUInt32).toInt32) &&& (3 : Int32)), vr a283, vi ((q3 &&& (255 : Int64)).toInt32), un, un] [(.int 2), (.int (((p1.toUInt32 >>> ((2 : Int32) &&& 31).toUInt32).toInt32) &&& (3 : Int32)))])
           by_cases hc106_299 : (((p1.toUInt32 >>> ((2 : Int32) &&& 31).toUInt32).toInt32) &&& (3 : Int32)) = (2 : Int32)
           · skip
             refine sp_ (fun t_ k_ => XS.icmpNo X283.here hx rfl (B_ at_106) rfl (teq hc106_299).2 k_) ?_
             show Go_ T283 (mkF mm_ 109 #[vi p1, vi p2, .val (.long q3), .second, vi (p1 &&& (3 : Int32)), vi (((p1.toUInt32 >>> ((2 : Int32) &&& 31).toUInt32).toInt32) &&& (3 : Int32)), vr a283, vi ((q3 &&& (255 : Int64)).toInt32), un, un] [])
             refine sp_ (fun t_ k_ => XS.iloadN X283.here hx rfl (B_ at_109) rfl  (XS.iconst X283.here hx rfl (B_ at_110) (XS.iushr X283.here hx rfl (B_ at_111) rfl (XS.iconst X283.here hx rfl (B_ at_112) (XS.iand X283.here hx rfl (B_ at_113) rfl k_))))) ?_
             show Go_ T283 (mkF mm_ 114 #[vi p1, vi p2, .val (.long q3), .second, vi (p1 &&& (3 : Int32)), vi (((p1.toUInt32 >>> ((2 : Int32) &&& 31).toUInt32).toInt32) &&& (3 : Int32)), vr a283, vi ((q3 &&& (255 : Int64)).toInt32), un, un] [(.int (((p1.toUInt32 >>> ((4 : Int32) &&& 31).toUInt32).toInt32) &&& (1 : Int32)))])
             by_cases hc114_300 : (((p1.toUInt32 >>> ((4 : Int32) &&& 31).toUInt32).toInt32) &&& (1 : Int32)) = (0 : Int32)
             · skip
               refine sp_ (fun t_ k_ => XS.ifNo X283.here hx rfl (B_ at_114) rfl ((if0 _ _).trans (teq hc114_300).2) k_) ?_
               show Go_ T283 (mkF mm_ 117 #[vi p1, vi p2, .val (.long q3), .second, vi (p1 &&& (3 : Int32)), vi (((p1.toUInt32 >>> ((2 : Int32) &&& 31).toUInt32).toInt32) &&& (3 : Int32)), vr a283, vi ((q3 &&& (255 : Int64)).toInt32), un, un] [])
               refine sp_ (fun t_ k_ => XS.aload X283.here hx rfl (B_ at_117) rfl rfl (XS.iload X283.here hx rfl (B_ at_119) rfl  k_)) ?_
               show Go_ T283 (mkF mm_ 121 #[vi p1, vi p2, .val (.long q3), .second, vi (p1 &&& (3 : Int32)), vi (((p1.toUInt32 >>> ((2 : Int32) &&& 31).toUInt32).toInt32) &&& (3 : Int32)), vr a283, vi ((q3 &&& (255 : Int64)).toInt32), un, un] [(.int ((q3 &&& (255 : Int64)).toInt32)), (.ref a283)])
               have O302 : Old Z n0 h283 := (O0.ext E283)
               obtain ⟨_, T301, Lc301, X301, hQ301, st301⟩ := own_cS X283 hx hZ283 hown283 (w_ hw 131 rfl) (w_ hw 132 rfl) (w_ hw 11 rfl) (w_ hw 133 rfl) (by decide) (backOf (W := 0) (rmLo5 l Z a0 hw [] a283 ((q3 &&& (255 : Int64)).toInt32) t283 (111 : Int32) (116 : Int32) (104 : Int32) (101 : Int32) (114 : Int32) h283 n0 O302 G_ Ls283 (own_sgL _)) hZ283 (w_ hw 133 rfl) (w_ hw 11 rfl) (by decide) (by decide)) (g := (mkF mm_ 121 #[vi p1, vi p2, .val (.long q3), .second, vi (p1 &&& (3 : Int32)), vi (((p1.toUInt32 >>> ((2 : Int32) &&& 31).toUInt32).toInt32) &&& (3 : Int32)), vr a283, vi ((q3 &&& (255 : Int64)).toInt32), un, un] [(.int ((q3 &&& (255 : Int64)).toInt32)), (.ref a283)])) rfl hml.symm (argsL := [(.ref a283), (.int ((q3 &&& (255 : Int64)).toInt32))]) (rest := []) (lenOf pd_13 rfl) rfl (Nat.le_of_eq rfl) (B_ at_121) rfl e283 (by decide) (by decide)
               obtain ⟨r_301, u_301, ds_301, rfl, Nq301, Kc301, r301_0, r301_1⟩ := hQ301
               have N301 := Fr.app N0 Nq301
               have K303 : Keep h0 h283 [] := (K0.ext E283)
               have lo_r_301 : h0.size ≤ r_301 := Nat.le_trans K303.1 r301_0
               have g_r_301 : n0 ≤ r_301 := Nat.le_trans Z0 lo_r_301
               refine jp_ st301 ?_
               show Go_ T301 (mkF mm_ 124 #[vi p1, vi p2, .val (.long q3), .second, vi (p1 &&& (3 : Int32)), vi (((p1.toUInt32 >>> ((2 : Int32) &&& 31).toUInt32).toInt32) &&& (3 : Int32)), vr a283, vi ((q3 &&& (255 : Int64)).toInt32), un, un] [(.ref r_301)])
               refine sp_ (fun t_ k_ => XS.goto X301.here hx rfl (pc0 := 124) (pc' := 132) rfl (B_ at_124) (by decide) (by decide) (XS.astore X301.here hx rfl (B_ at_132) rfl rfl (l' := #[vi p1, vi p2, .val (.long q3), .second, vi (p1 &&& (3 : Int32)), vi (((p1.toUInt32 >>> ((2 : Int32) &&& 31).toUInt32).toInt32) &&& (3 : Int32)), vr a283, vi ((q3 &&& (255 : Int64)).toInt32), vr r_301, un]) rfl (XS.goto X301.here hx rfl (pc0 := 134) (pc' := 148) rfl (B_ at_134) (by decide) (by decide) k_))) ?_
               have f304 : own_Str Z T301.heap a283 t283 [(111 : Int32), (116 : Int32), (104 : Int32), (101 : Int32), (114 : Int32)] := (Ls283.keep Kc301 nin0 nin0)
               have K305 : Keep h0 T301.heap [] := (K303.trans Kc301 all0)
               have O306 : Old Z n0 T301.heap := (O302.keep Kc301 all0)
               exact seg_t3s _ _ _ (p1 &&& (3 : Int32)) (((p1.toUInt32 >>> ((2 : Int32) &&& 31).toUInt32).toInt32) &&& (3 : Int32)) ((q3 &&& (255 : Int64)).toInt32) a283 t283 r_301 u_301 ds_301 _ _ (X301.more (by decide) (by decide)) rfl N301 K305 O306 hS283 (Nat.le_trans hk283 Kc301.1) hZ283 hown283 (own_IB_mono I283 (by intro t_ h_; first | exact h_ | exact List.mem_cons_of_mem _ h_ | (revert t_ h_; decide))) L283 f304 r301_1
             · skip
               refine sp_ (fun t_ k_ => XS.ifYes X283.here hx rfl (pc0 := 114) (pc' := 127) rfl (B_ at_114) rfl ((if0 _ _).trans (feq hc114_300).2) (by decide) (by decide) k_) ?_
               show Go_ T283 (mkF mm_ 127 #[vi p1, vi p2, .val (.long q3), .second, vi (p1 &&& (3 : Int32)), vi (((p1.toUInt32 >>> ((2 : Int32) &&& 31).toUInt32).toInt32) &&& (3 : Int32)), vr a283, vi ((q3 &&& (255 : Int64)).toInt32), un, un] [])
               refine sp_ (fun t_ k_ => XS.aload X283.here hx rfl (B_ at_127) rfl rfl k_) ?_
               show Go_ T283 (mkF mm_ 129 #[vi p1, vi p2, .val (.long q3), .second, vi (p1 &&& (3 : Int32)), vi (((p1.toUInt32 >>> ((2 : Int32) &&& 31).toUInt32).toInt32) &&& (3 : Int32)), vr a283, vi ((q3 &&& (255 : Int64)).toInt32), un, un] [(.ref a283)])
               have O308 : Old Z n0 h283 := (O0.ext E283)
               obtain ⟨_, T307, Lc307, X307, hQ307, st307⟩ := own_cS X283 hx hZ283 hown283 (w_ hw 134 rfl) (w_ hw 135 rfl) (w_ hw 11 rfl) (w_ hw 136 rfl) (by decide) (backOf (W := 0) (rmSh5 l Z a0 hw [] a283 t283 (111 : Int32) (116 : Int32) (104 : Int32) (101 : Int32) (114 : Int32) h283 n0 O308 G_ Ls283) hZ283 (w_ hw 136 rfl) (w_ hw 11 rfl) (by decide) (by decide)) (g := (mkF mm_ 129 #[vi p1, vi p2, .val (.long q3), .second, vi (p1 &&& (3 : Int32)), vi (((p1.toUInt32 >>> ((2 : Int32) &&& 31).toUInt32).toInt32) &&& (3 : Int32)), vr a283, vi ((q3 &&& (255 : Int64)).toInt32), un, un] [(.ref a283)])) rfl hml.symm (argsL := [(.ref a283)]) (rest := []) (lenOf pd_14 rfl) rfl (Nat.le_of_eq rfl) (B_ at_129) rfl e283 (by decide) (by decide)
               obtain ⟨r_307, u_307, ds_307, rfl, Nq307, Kc307, r307_0, r307_1⟩ := hQ307
               have N307 := Fr.app N0 Nq307
               have K309 : Keep h0 h283 [] := (K0.ext E283)
               have lo_r_307 : h0.size ≤ r_307 := Nat.le_trans K309.1 r307_0
               have g_r_307 : n0 ≤ r_307 := Nat.le_trans Z0 lo_r_307
               refine jp_ st307 ?_
               show Go_ T307 (mkF mm_ 132 #[vi p1, vi p2, .val (.long q3), .second, vi (p1 &&& (3 : Int32)), vi (((p1.toUInt32 >>> ((2 : Int32) &&& 31).toUInt32).toInt32) &&& (3 : Int32)), vr a283, vi ((q3 &&& (255 : Int64)).toInt32), un, un] [(.ref r_307)])
               refine sp_ (fun t_ k_ => XS.astore X307.here hx rfl (B_ at_132) rfl rfl (l' := #[vi p1, vi p2, .val (.long q3), .second, vi (p1 &&& (3 : Int32)), vi (((p1.toUInt32 >>> ((2 : Int32) &&& 31).toUInt32).toInt32) &&& (3 : Int32)), vr a283, vi ((q3 &&& (255 : Int64)).toInt32), vr r_307, un]) rfl (XS.goto X307.here hx rfl (pc0 := 134) (pc' := 148) rfl (B_ at_134) (by decide) (by decide) k_)) ?_
               have f310 : own_Str Z T307.heap a283 t283 [(111 : Int32), (116 : Int32), (104 : Int32), (101 : Int32), (114 : Int32)] := (Ls283.keep Kc307 nin0 nin0)
               have K311 : Keep h0 T307.heap [] := (K309.trans Kc307 all0)
               have O312 : Old Z n0 T307.heap := (O308.keep Kc307 all0)
               exact seg_t3s _ _ _ (p1 &&& (3 : Int32)) (((p1.toUInt32 >>> ((2 : Int32) &&& 31).toUInt32).toInt32) &&& (3 : Int32)) ((q3 &&& (255 : Int64)).toInt32) a283 t283 r_307 u_307 ds_307 _ _ (X307.more (by decide) (by decide)) rfl N307 K311 O312 hS283 (Nat.le_trans hk283 Kc307.1) hZ283 hown283 (own_IB_mono I283 (by intro t_ h_; first | exact h_ | exact List.mem_cons_of_mem _ h_ | (revert t_ h_; decide))) L283 f310 r307_1
           · skip
             refine sp_ (fun t_ k_ => XS.icmpYes X283.here hx rfl (pc0 := 106) (pc' := 137) rfl (B_ at_106) rfl (feq hc106_299).2 (by decide) (by decide) k_) ?_
             show Go_ T283 (mkF mm_ 137 #[vi p1, vi p2, .val (.long q3), .second, vi (p1 &&& (3 : Int32)), vi (((p1.toUInt32 >>> ((2 : Int32) &&& 31).toUInt32).toInt32) &&& (3 : Int32)), vr a283, vi ((q3 &&& (255 : Int64)).toInt32), un, un] [])
             refine sp_ (fun t_ k_ => XS.iloadN X283.here hx rfl (B_ at_137) rfl  (XS.iconst X283.here hx rfl (B_ at_138) (XS.iushr X283.here hx rfl (B_ at_139) rfl (XS.iconst X283.here hx rfl (B_ at_140) (XS.iand X283.here hx rfl (B_ at_141) rfl (XS.lloadN X283.here hx rfl (B_ at_142) rfl  k_)))))) ?_
             show Go_ T283 (mkF mm_ 143 #[vi p1, vi p2, .val (.long q3), .second, vi (p1 &&& (3 : Int32)), vi (((p1.toUInt32 >>> ((2 : Int32) &&& 31).toUInt32).toInt32) &&& (3 : Int32)), vr a283, vi ((q3 &&& (255 : Int64)).toInt32), un, un] [(.long q3), (.int (((p1.toUInt32 >>> ((4 : Int32) &&& 31).toUInt32).toInt32) &&& (3 : Int32)))])
             by_cases hd313 : (((p1.toUInt32 >>> ((4 : Int32) &&& 31).toUInt32).toInt32) &&& (3 : Int32)) = (0 : Int32)
             · skip
               have O315 : Old Z n0 h283 := (O0.ext E283)
               obtain ⟨_, T314, Lc314, X314, hQ314, st314⟩ := own_cS X283 hx hZ283 hown283 (w_ hw 112 rfl) (w_ hw 113 rfl) (w_ hw 11 rfl) (w_ hw 114 rfl) (by decide) (backOf (W := 0) (rmDn l Z a0 hw [] (((p1.toUInt32 >>> ((4 : Int32) &&& 31).toUInt32).toInt32) &&& (3 : Int32)) q3 h283 n0 O315 hd313) hZ283 (w_ hw 114 rfl) (w_ hw 11 rfl) (by decide) (by decide)) (g := (mkF mm_ 143 #[vi p1, vi p2, .val (.long q3), .second, vi (p1 &&& (3 : Int32)), vi (((p1.toUInt32 >>> ((2 : Int32) &&& 31).toUInt32).toInt32) &&& (3 : Int32)), vr a283, vi ((q3 &&& (255 : Int64)).toInt32), un, un] [(.long q3), (.int (((p1.toUInt32 >>> ((4 : Int32) &&& 31).toUInt32).toInt32) &&& (3 : Int32)))])) rfl hml.symm (argsL := [(.int (((p1.toUInt32 >>> ((4 : Int32) &&& 31).toUInt32).toInt32) &&& (3 : Int32))), (.long q3)]) (rest := []) (lenOf pd_15 rfl) rfl (Nat.le_of_eq rfl) (B_ at_143) rfl e283 (by decide) (by decide)
               obtain ⟨rfl, rfl, Eh314⟩ := hQ314
               have N314 := Fr.app N0 (Fr.nil n0)
               refine jp_ st314 ?_
               show Go_ T314 (mkF mm_ 146 #[vi p1, vi p2, .val (.long q3), .second, vi (p1 &&& (3 : Int32)), vi (((p1.toUInt32 >>> ((2 : Int32) &&& 31).toUInt32).toInt32) &&& (3 : Int32)), vr a283, vi ((q3 &&& (255 : Int64)).toInt32), un, un] [.null])
               refine sp_ (fun t_ k_ => XS.astore X314.here hx rfl (B_ at_146) rfl rfl (l' := #[vi p1, vi p2, .val (.long q3), .second, vi (p1 &&& (3 : Int32)), vi (((p1.toUInt32 >>> ((2 : Int32) &&& 31).toUInt32).toInt32) &&& (3 : Int32)), vr a283, vi ((q3 &&& (255 : Int64)).toInt32), .val .null, un]) rfl k_) ?_
               have K316 : Keep h0 h283 [] := (K0.ext E283)
               exact seg_t3n _ _ _ (p1 &&& (3 : Int32)) (((p1.toUInt32 >>> ((2 : Int32) &&& 31).toUInt32).toInt32) &&& (3 : Int32)) ((q3 &&& (255 : Int64)).toInt32) a283 t283 _ _ (X314.more (by decide) (by decide)) Eh314 N314 K316 O315 hS283 hk283 hZ283 hown283 (own_IB_mono I283 (by intro t_ h_; first | exact h_ | exact List.mem_cons_of_mem _ h_ | (revert t_ h_; decide))) L283 Ls283
             · skip
               have O318 : Old Z n0 h283 := (O0.ext E283)
               obtain ⟨_, _, ⟨T317, Lx317, kx317, nx317⟩, -, X317, hS317, hG317, ⟨Lc317, hQ317, l317, y317, z317⟩, st317⟩ := Jvm.RoadKit.callSS X283 hx (y := ym1) hown283 (mvT hZ283 (w_ hw 112 rfl)) (mvT hZ283 (w_ hw 113 rfl)) (mvT hZ283 (w_ hw 11 rfl)) (mvT hZ283 (w_ hw 114 rfl)) (by decide) (own_backI (J := fun q_ => IB Z q_ ("other" :: [])) (J' := fun q_ => IB Z q_ ("" :: ("other" :: []))) (W := 0) (rmDs l Z a0 hw [] (((p1.toUInt32 >>> ((4 : Int32) &&& 31).toUInt32).toInt32) &&& (3 : Int32)) q3 ("other" :: []) h283 n0 O318 G_ hd313 (by first | assumption | rfl | decide | (simp; done))) hZ283 (w_ hw 114 rfl) (w_ hw 11 rfl) (by decide) (by decide)) (g := (mkF mm_ 143 #[vi p1, vi p2, .val (.long q3), .second, vi (p1 &&& (3 : Int32)), vi (((p1.toUInt32 >>> ((2 : Int32) &&& 31).toUInt32).toInt32) &&& (3 : Int32)), vr a283, vi ((q3 &&& (255 : Int64)).toInt32), un, un] [(.long q3), (.int (((p1.toUInt32 >>> ((4 : Int32) &&& 31).toUInt32).toInt32) &&& (3 : Int32)))])) rfl hml.symm (argsL := [(.int (((p1.toUInt32 >>> ((4 : Int32) &&& 31).toUInt32).toInt32) &&& (3 : Int32))), (.long q3)]) (rest := []) (lenOf pd_15 rfl) rfl (Nat.le_of_eq rfl) (B_ at_143) (fun vm_ hvm_ => ⟨rfl, e283, (by decide : 2 + 4 ≤ _), (by decide : 24 + 14 ≤ _), own_IB_mono (own_IB_warm I283 hvm_) (by intro t_ h_; first | exact h_ | exact List.mem_cons_of_mem _ h_ | (revert t_ h_; decide))⟩)
               dsimp only [Pt.U, Pt.locs, Pt.cells, Pt.slots] at X317 l317 y317 z317 st317 hQ317 hS317 hG317
               subst l317 y317 z317
               have Lk319 := Lit.stays L283 hS317.1
               obtain ⟨X317, hS317, hZ317, hown317⟩ := rebS (n1 := h283.size) hS283 hk283 X317 hS317 (by rw [← e283]; exact hG317) hZ283 hown283
               obtain ⟨hQ317, hIq317⟩ := hQ317
               obtain ⟨r_317, u_317, ds_317, rfl, Nq317, Kc317, r317_0, r317_1⟩ := hQ317
               have N317 := Fr.app N0 Nq317
               have K320 : Keep h0 h283 [] := (K0.ext E283)
               have lo_r_317 : h0.size ≤ r_317 := Nat.le_trans K320.1 r317_0
               have g_r_317 : n0 ≤ r_317 := Nat.le_trans Z0 lo_r_317
               refine jp_ st317 ?_
               show Go_ T317 (mkF mm_ 146 #[vi p1, vi p2, .val (.long q3), .second, vi (p1 &&& (3 : Int32)), vi (((p1.toUInt32 >>> ((2 : Int32) &&& 31).toUInt32).toInt32) &&& (3 : Int32)), vr a283, vi ((q3 &&& (255 : Int64)).toInt32), un, un] [(.ref r_317)])
               refine sp_ (fun t_ k_ => XS.astore X317.here hx rfl (B_ at_146) rfl rfl (l' := #[vi p1, vi p2, .val (.long q3), .second, vi (p1 &&& (3 : Int32)), vi (((p1.toUInt32 >>> ((2 : Int32) &&& 31).toUInt32).toInt32) &&& (3 : Int32)), vr a283, vi ((q3 &&& (255 : Int64)).toInt32), vr r_317, un]) rfl k_) ?_
               have f321 : own_Str Z T317.heap a283 t283 [(111 : Int32), (116 : Int32), (104 : Int32), (101 : Int32), (114 : Int32)] := (Ls283.keep Kc317 nin0 nin0)
               have K322 : Keep h0 T317.heap [] := (K320.trans Kc317 all0)
               have O323 : Old Z n0 T317.heap := (O318.keep Kc317 all0)
               exact seg_t3s _ _ _ (p1 &&& (3 : Int32)) (((p1.toUInt32 >>> ((2 : Int32) &&& 31).toUInt32).toInt32) &&& (3 : Int32)) ((q3 &&& (255 : Int64)).toInt32) a283 t283 r_317 u_317 ds_317 _ _ (X317.more (by decide) (by decide)) rfl N317 K322 O323 hS317 (Nat.le_refl _) hZ317 hown317 (own_IB_mono hIq317 (by intro t_ h_; first | exact h_ | exact List.mem_cons_of_mem _ h_ | (revert t_ h_; decide))) Lk319 f321 r317_1
theorem comes_1 {Post : Tables → Env → Array Value → State → Outcome → State → Prop} (hpost : ∀ tb e args s v u, (limb_1_1.after args s (.returned v) u = true ∧ limb_1_2.after args s (.returned v) u = true ∧ True) → ReturnedEndW s (.returned v) u (Jvm.fieldLocs frame_1_writes args s ++ Jvm.arrayLocs frame_1_arrays args s ++ Jvm.staticLocs frame_1_statics s) 32 5312 → Post tb e args s (.returned v) u) :
 ArmFor flags0 classFile x code maxLocals ret World_1 tables_1 room_1 Calls_1 rest_1 Pre_1 Post := by
 intro l hfl _ _ p e ha hc hk s m args below hf hA hF happ hP
 obtain ⟨hcalls, hrest, hpre⟩ := hP
 obtain ⟨-, -, -, hnamed, -, -, -, hat⟩ := (Spec.applies_iff hf).mp happ
 obtain ⟨hg, hn⟩ := and_e (Cond.before_iff.mp (show (Jvm.Cond.and given_1 narrow_1).before args s = true from hpre))
 obtain ⟨ga, gb0⟩ := and_e hg
 obtain ⟨w0_, w1_, w2_, rfl⟩ : ∃ w0_ w1_ w2_ : Value, args = #[w0_, w1_, w2_] := by
  have hs : args.size = 3 := by simpa [Cond.value, given_1] using ga
  obtain ⟨L⟩ := args
  match L, hs with
  | [w0_, w1_, w2_], _ => exact ⟨w0_, w1_, w2_, rfl⟩
 have hw := fun d (hd : d ∈ tables_1) => atoms_spec (ws := Jvm.Cond.code x code maxLocals ret :: tables_1) hat d (List.mem_cons_of_mem _ hd)
 have hfit : Fit s := fun {y c} hc i hi => by
  obtain ⟨ha, rfl⟩ := Array.getElem?_eq_some_iff.mp hc
  have q := List.all_eq_true.mp ((Array.all_eq_true_iff_forall_mem.mp hF) _ (Array.getElem_mem ha)) i (List.mem_range.mpr hi)
  simpa [Array.getElem?_eq_getElem hi] using q
 obtain ⟨hsets, hown0⟩ := atoms_of _ (rest_1_c_eq ▸ (show rest_1_c.before _ s = true from hrest))
 obtain ⟨gc0, gb1⟩ := and_e gb0
 obtain ⟨i0, ei0⟩ := is_v gc0
 obtain rfl : w0_ = (.int i0) := Option.some.inj ei0
 obtain ⟨gc1, gb2⟩ := and_e gb1
 obtain ⟨i1, ei1⟩ := is_v gc1
 obtain rfl : w1_ = (.int i1) := Option.some.inj ei1
 obtain ⟨i2, ei2⟩ := isL_v gb2
 obtain rfl : w2_ = (.long i2) := Option.some.inj ei2
 obtain ⟨c1, hn1⟩ := and_e hn
 obtain ⟨c2, hn2⟩ := and_e hn1
 obtain ⟨c3, hn3⟩ := and_e hn2
 obtain ⟨c4, hn4⟩ := and_e hn3
 obtain ⟨c5, hn5⟩ := and_e hn4
 obtain ⟨c6, hn6⟩ := and_e hn5
 obtain ⟨c7, hn7⟩ := and_e hn6
 obtain ⟨c8, hn8⟩ := and_e hn7
 obtain ⟨c9, hn9⟩ := and_e hn8
 obtain ⟨c10, hn10⟩ := and_e hn9
 obtain ⟨c11, hn11⟩ := and_e hn10
 obtain ⟨c12, hn12⟩ := and_e hn11
 obtain ⟨c13, hn13⟩ := and_e hn12
 obtain ⟨c14, hn14⟩ := and_e hn13
 obtain ⟨c15, hn15⟩ := and_e hn14
 obtain ⟨c16, hn16⟩ := and_e hn15
 obtain ⟨c17, hn17⟩ := and_e hn16
 obtain ⟨c18, hn18⟩ := and_e hn17
 obtain ⟨c19, hn19⟩ := and_e hn18
 obtain ⟨c20, hn20⟩ := and_e hn19
 obtain ⟨c21, hn21⟩ := and_e hn20
 obtain ⟨c22, hn22⟩ := and_e hn21
 obtain ⟨c23, hn23⟩ := and_e hn22
 obtain ⟨c24, hn24⟩ := and_e hn23
 obtain ⟨c25, hn25⟩ := and_e hn24
 obtain ⟨c26, hn26⟩ := and_e hn25
 obtain ⟨c27, hn27⟩ := and_e hn26
 obtain ⟨c28, hn28⟩ := and_e hn27
 obtain ⟨c29, hn29⟩ := and_e hn28
 obtain ⟨c30, hn30⟩ := and_e hn29
 obtain ⟨c31, hn31⟩ := and_e hn30
 obtain ⟨c32, hn32⟩ := and_e hn31
 obtain ⟨c33, hn33⟩ := and_e hn32
 obtain ⟨c34, hn34⟩ := and_e hn33
 obtain ⟨c35, hn35⟩ := and_e hn34
 obtain ⟨c36, hn36⟩ := and_e hn35
 obtain ⟨c37, hn37⟩ := and_e hn36
 obtain ⟨c38, hn38⟩ := and_e hn37
 obtain ⟨c39, hn39⟩ := and_e hn38
 obtain ⟨c40, hn40⟩ := and_e hn39
 obtain ⟨c41, hn41⟩ := and_e hn40
 obtain ⟨c42, hn42⟩ := and_e hn41
 obtain ⟨c43, hn43⟩ := and_e hn42
 obtain ⟨c44, hn44⟩ := and_e hn43
 obtain ⟨c45, hn45⟩ := and_e hn44
 obtain ⟨c46, hn46⟩ := and_e hn45
 obtain ⟨c47, hn47⟩ := and_e hn46
 obtain ⟨c48, hn48⟩ := and_e hn47
 obtain ⟨c49, hn49⟩ := and_e hn48
 obtain ⟨c50, hn50⟩ := and_e hn49
 obtain ⟨c51, hn51⟩ := and_e hn50
 obtain ⟨c52, hn52⟩ := and_e hn51
 obtain ⟨c53, hn53⟩ := and_e hn52
 obtain ⟨c54, hn54⟩ := and_e hn53
 obtain ⟨c55, hn55⟩ := and_e hn54
 obtain ⟨c56, hn56⟩ := and_e hn55
 obtain ⟨zc, ev_zc⟩ := is_v (Cond.before_iff.mp (hsets _ (List.mem_of_getElem? (i := 1) rfl)))
 have G_cs : Sta s s.heap sc0 "COMPACT_STRINGS" "Z" (.int zc) := Sta.start ev_zc (Or.inl (hsets _ (List.mem_of_getElem? (i := 0) rfl)))
 have G_cs0 : ¬ zc = (0 : Int32) := gotF (Cond.eq_ints ev_zc (Term.int_eval (0))) (not_v (Cond.before_iff.mp (hsets _ (List.mem_of_getElem? (i := 2) rfl))))
 obtain ⟨fm, ev_fm, G_fr⟩ := isR_v (Cond.before_iff.mp (hsets _ (List.mem_of_getElem? (i := 8) rfl)))
 have G_fm : Sta s s.heap "jdk/internal/util/Preconditions" "SIOOBE_FORMATTER" "Ljava/util/function/BiFunction;" fm := Sta.start ev_fm (Or.inl (hsets _ (List.mem_of_getElem? (i := 7) rfl)))
 obtain ⟨w_0, ev_w_0⟩ := exa_v c4
 have G_S1 : Sta s s.heap sc2 "DEATH" sc3 (.ref w_0) := Sta.start ev_w_0 (Or.inr ⟨(w_ hw 75 rfl), (w_ hw 89 rfl)⟩)
 obtain ⟨w_1, ev_w_1⟩ := exa_v c6
 have G_S2 : Sta s s.heap sc2 "DISABILITY" sc3 (.ref w_1) := Sta.start ev_w_1 (Or.inr ⟨(w_ hw 75 rfl), (w_ hw 90 rfl)⟩)
 obtain ⟨w_2, ev_w_2⟩ := exa_v c8
 have G_S3 : Sta s s.heap sc2 "RETIREMENT" sc3 (.ref w_2) := Sta.start ev_w_2 (Or.inr ⟨(w_ hw 75 rfl), (w_ hw 91 rfl)⟩)
 obtain ⟨w_3, ev_w_3⟩ := exa_v c10
 have G_S4 : Sta s s.heap sc2 "OTHER" sc3 (.ref w_3) := Sta.start ev_w_3 (Or.inr ⟨(w_ hw 75 rfl), (w_ hw 92 rfl)⟩)
 obtain ⟨wV, ev_wV⟩ := exa_v c2
 have G_S5 : Sta s s.heap sc2 "$VALUES" "[Lcom/example/vestwright/vestwright/census/Separation$Reason;" (.ref wV) := Sta.start ev_wV (Or.inl (w_ hw 93 rfl))
 have G_E6 : Exa s s.heap w_0 sc2 := Exa.start ev_w_0 c4
 have G_E7 : Exa s s.heap w_1 sc2 := Exa.start ev_w_1 c6
 have G_E8 : Exa s s.heap w_2 sc2 := Exa.start ev_w_2 c8
 have G_E9 : Exa s s.heap w_3 sc2 := Exa.start ev_w_3 c10
 have G_E10 : Exa s s.heap wV "[Lcom/example/vestwright/vestwright/census/Separation$Reason;" := Exa.start ev_wV c2
 obtain ⟨cl11, Ar11⟩ := Arr.start ev_wV c1
 obtain ⟨z11, zz11⟩ := own_len (own_eqInt c3) ev_wV Ar11
 have G_V11 : Arv s s.heap wV cl11.cls (.object sc2) (4 : Int32) [(.ref w_0), (.ref w_1), (.ref w_2), (.ref w_3)] .null := Arv.start hfit Ar11 z11 zz11 (by decide) rfl ⟨own_elem (own_eqRef c5 ev_w_0) ev_wV Ar11 rfl, own_elem (own_eqRef c7 ev_w_1) ev_wV Ar11 rfl, own_elem (own_eqRef c9 ev_w_2) ev_wV Ar11 rfl, own_elem (own_eqRef c11 ev_w_3) ev_wV Ar11 rfl, trivial⟩
 obtain ⟨s_0, ev_s_0⟩ := exa_v c12
 have G_F12 : Fld s s.heap w_0 sc2 "word" sc4 (.ref s_0) := own_fld ev_s_0 ev_w_0
 have E13 : Exa s s.heap s_0 sc0 := Exa.start ev_s_0 c12
 have G_I14 : Fld s s.heap s_0 sc0 "coder" "B" (.int 0) := own_fld (own_eqInt c13) ev_s_0
 obtain ⟨t_0, ev_t_0⟩ := arr_v c14
 have G_F15 : Fld s s.heap s_0 sc0 "value" "[B" (.ref t_0) := own_fld ev_t_0 ev_s_0
 obtain ⟨cl16, Ar16⟩ := Arr.start ev_t_0 c14
 obtain ⟨z16, zz16⟩ := own_len (own_eqInt c15) ev_t_0 Ar16
 have G_V16 : Arv s s.heap t_0 cl16.cls .byte (5 : Int32) [(.int 100), (.int 101), (.int 97), (.int 116), (.int 104)] (.int 0) := Arv.start hfit Ar16 z16 zz16 (by decide) rfl ⟨own_elem (own_eqInt c28) ev_t_0 Ar16 rfl, own_elem (own_eqInt c29) ev_t_0 Ar16 rfl, own_elem (own_eqInt c30) ev_t_0 Ar16 rfl, own_elem (own_eqInt c31) ev_t_0 Ar16 rfl, own_elem (own_eqInt c32) ev_t_0 Ar16 rfl, trivial⟩
 have G_T13 : own_Str s s.heap s_0 t_0 [(100 : Int32), (101 : Int32), (97 : Int32), (116 : Int32), (104 : Int32)] := ⟨E13, G_I14, G_F15, ⟨_, G_V16⟩, by decide, by decide⟩
 obtain ⟨s_1, ev_s_1⟩ := exa_v c16
 have G_F17 : Fld s s.heap w_1 sc2 "word" sc4 (.ref s_1) := own_fld ev_s_1 ev_w_1
 have E18 : Exa s s.heap s_1 sc0 := Exa.start ev_s_1 c16
 have G_I19 : Fld s s.heap s_1 sc0 "coder" "B" (.int 0) := own_fld (own_eqInt c19) ev_s_1
 obtain ⟨t_1, ev_t_1⟩ := arr_v c20
 have G_F20 : Fld s s.heap s_1 sc0 "value" "[B" (.ref t_1) := own_fld ev_t_1 ev_s_1
 obtain ⟨cl21, Ar21⟩ := Arr.start ev_t_1 c20
 obtain ⟨z21, zz21⟩ := own_len (own_eqInt c21) ev_t_1 Ar21
 have G_V21 : Arv s s.heap t_1 cl21.cls .byte (10 : Int32) [(.int 100), (.int 105), (.int 115), (.int 97), (.int 98), (.int 105), (.int 108), (.int 105), (.int 116), (.int 121)] (.int 0) := Arv.start hfit Ar21 z21 zz21 (by decide) rfl ⟨own_elem (own_eqInt c33) ev_t_1 Ar21 rfl, own_elem (own_eqInt c34) ev_t_1 Ar21 rfl, own_elem (own_eqInt c35) ev_t_1 Ar21 rfl, own_elem (own_eqInt c36) ev_t_1 Ar21 rfl, own_elem (own_eqInt c37) ev_t_1 Ar21 rfl, own_elem (own_eqInt c38) ev_t_1 Ar21 rfl, own_elem (own_eqInt c39) ev_t_1 Ar21 rfl, own_elem (own_eqInt c40) ev_t_1 Ar21 rfl, own_elem (own_eqInt c41) ev_t_1 Ar21 rfl, own_elem (own_eqInt c42) ev_t_1 Ar21 rfl, trivial⟩
 have G_T18 : own_Str s s.heap s_1 t_1 [(100 : Int32), (105 : Int32), (115 : Int32), (97 : Int32), (98 : Int32), (105 : Int32), (108 : Int32), (105 : Int32), (116 : Int32), (121 : Int32)] := ⟨E18, G_I19, G_F20, ⟨_, G_V21⟩, by decide, by decide⟩
 obtain ⟨s_2, ev_s_2⟩ := exa_v c17
 have G_F22 : Fld s s.heap w_2 sc2 "word" sc4 (.ref s_2) := own_fld ev_s_2 ev_w_2
 have E23 : Exa s s.heap s_2 sc0 := Exa.start ev_s_2 c17
 have G_I24 : Fld s s.heap s_2 sc0 "coder" "B" (.int 0) := own_fld (own_eqInt c22) ev_s_2
 obtain ⟨t_2, ev_t_2⟩ := arr_v c23
 have G_F25 : Fld s s.heap s_2 sc0 "value" "[B" (.ref t_2) := own_fld ev_t_2 ev_s_2
 obtain ⟨cl26, Ar26⟩ := Arr.start ev_t_2 c23
 obtain ⟨z26, zz26⟩ := own_len (own_eqInt c24) ev_t_2 Ar26
 have G_V26 : Arv s s.heap t_2 cl26.cls .byte (10 : Int32) [(.int 114), (.int 101), (.int 116), (.int 105), (.int 114), (.int 101), (.int 109), (.int 101), (.int 110), (.int 116)] (.int 0) := Arv.start hfit Ar26 z26 zz26 (by decide) rfl ⟨own_elem (own_eqInt c43) ev_t_2 Ar26 rfl, own_elem (own_eqInt c44) ev_t_2 Ar26 rfl, own_elem (own_eqInt c45) ev_t_2 Ar26 rfl, own_elem (own_eqInt c46) ev_t_2 Ar26 rfl, own_elem (own_eqInt c47) ev_t_2 Ar26 rfl, own_elem (own_eqInt c48) ev_t_2 Ar26 rfl, own_elem (own_eqInt c49) ev_t_2 Ar26 rfl, own_elem (own_eqInt c50) ev_t_2 Ar26 rfl, own_elem (own_eqInt c51) ev_t_2 Ar26 rfl, own_elem (own_eqInt c52) ev_t_2 Ar26 rfl, trivial⟩
 have G_T23 : own_Str s s.heap s_2 t_2 [(114 : Int32), (101 : Int32), (116 : Int32), (105 : Int32), (114 : Int32), (101 : Int32), (109 : Int32), (101 : Int32), (110 : Int32), (116 : Int32)] := ⟨E23, G_I24, G_F25, ⟨_, G_V26⟩, by decide, by decide⟩
 obtain ⟨s_3, ev_s_3⟩ := exa_v c18
 have G_F27 : Fld s s.heap w_3 sc2 "word" sc4 (.ref s_3) := own_fld ev_s_3 ev_w_3
 have E28 : Exa s s.heap s_3 sc0 := Exa.start ev_s_3 c18
 have G_I29 : Fld s s.heap s_3 sc0 "coder" "B" (.int 0) := own_fld (own_eqInt c25) ev_s_3
 obtain ⟨t_3, ev_t_3⟩ := arr_v c26
 have G_F30 : Fld s s.heap s_3 sc0 "value" "[B" (.ref t_3) := own_fld ev_t_3 ev_s_3
 obtain ⟨cl31, Ar31⟩ := Arr.start ev_t_3 c26
 obtain ⟨z31, zz31⟩ := own_len (own_eqInt c27) ev_t_3 Ar31
 have G_V31 : Arv s s.heap t_3 cl31.cls .byte (5 : Int32) [(.int 111), (.int 116), (.int 104), (.int 101), (.int 114)] (.int 0) := Arv.start hfit Ar31 z31 zz31 (by decide) rfl ⟨own_elem (own_eqInt c53) ev_t_3 Ar31 rfl, own_elem (own_eqInt c54) ev_t_3 Ar31 rfl, own_elem (own_eqInt c55) ev_t_3 Ar31 rfl, own_elem (own_eqInt c56) ev_t_3 Ar31 rfl, own_elem (own_eqInt hn56) ev_t_3 Ar31 rfl, trivial⟩
 have G_T28 : own_Str s s.heap s_3 t_3 [(111 : Int32), (116 : Int32), (104 : Int32), (101 : Int32), (114 : Int32)] := ⟨E28, G_I29, G_F30, ⟨_, G_V31⟩, by decide, by decide⟩
 have G_cw : Jvm.Lit.compactW.before #[] s = true := (hsets _ (List.mem_of_getElem? (i := 2) rfl))
 have G_h_com_example_vestwright_vestwright_census_ReasonOfPinLaw_7 : Jvm.Lit.constHeld s sc1 7 := hcalls.1 (sc1, 7) (List.mem_of_getElem? (i := 0) rfl)
 have G_h_com_example_vestwright_vestwright_census_ReasonOfPinLaw_9 : Jvm.Lit.constHeld s sc1 9 := hcalls.1 (sc1, 9) (List.mem_of_getElem? (i := 1) rfl)
 have G_h_com_example_vestwright_vestwright_census_ReasonOfPinLaw_11 : Jvm.Lit.constHeld s sc1 11 := hcalls.1 (sc1, 11) (List.mem_of_getElem? (i := 2) rfl)
 have G_h_com_example_vestwright_vestwright_census_ReasonOfPinLaw_13 : Jvm.Lit.constHeld s sc1 13 := hcalls.1 (sc1, 13) (List.mem_of_getElem? (i := 3) rfl)
 have G_h_java_lang_String_7 : Jvm.Lit.constHeld s sc0 7 := hcalls.1 (sc0, 7) (List.mem_of_getElem? (i := 4) rfl)
 obtain ⟨n, o, h1, h2, h3, _, L, rfl, ⟨rfl, N, -⟩, hq⟩ := rm0 l s _ hw tables_1 i0 i1 i2 s.heap s.heap.size (Old.start s) (⟨G_cs, G_cs0, G_fm, G_fr, G_S1, G_S2, G_S3, G_S4, G_S5, G_E6, G_E7, G_E8, G_E9, G_E10, G_V11, G_F12, G_T13, G_F17, G_T18, G_F22, G_T23, G_F27, G_T28, G_cw, G_h_com_example_vestwright_vestwright_census_ReasonOfPinLaw_7, G_h_com_example_vestwright_vestwright_census_ReasonOfPinLaw_9, G_h_com_example_vestwright_vestwright_census_ReasonOfPinLaw_11, G_h_com_example_vestwright_vestwright_census_ReasonOfPinLaw_13, G_h_java_lang_String_7⟩ : own_St s (zc) (fm) (w_0) (w_1) (w_2) (w_3) (wV) (cl11.cls) (s_0) (t_0) (s_1) (t_1) (s_2) (t_2) (s_3) (t_3)) rfl p e ha hc hk s m _ below hf ((Spec.applies_iff_loose hf).mp happ).1 ⟨rfl, State.Warmed39.refl s, rfl, IB.start⟩ trivial
 refine ⟨n, _, h1, h2, h3, hpost _ _ _ _ _ _ ⟨Cond.after_iff.mpr rfl, Cond.after_iff.mpr (eq_i res_at (Term.int_eval (1)) rfl), trivial⟩ ⟨hq.2.1, hq.2.2.1, hq.2.2.2.1, (hq.2.2.2.2.sift fun y hy => Or.inr (N y hy)).mono (by decide) (by decide)⟩⟩
theorem main_1_1 : Claimed_1_1 := comes_1 fun _ _ _ _ _ _ h hF => ⟨h.1, hF⟩
theorem main_1_2 : Claimed_1_2 := comes_1 fun _ _ _ _ _ _ h hF => ⟨h.2.1, hF⟩
end Jvm.Pilot.@@N@@
namespace Jvm.Pilot.@@N@@
open Jvm Jvm.ClassFile Sem Op Lib Jvm.Free Jvm.Stand Jvm.Pilot.@@N@@.Jvm.D
/-! MADE BY PROGRAM (witnessworld.py) out of the Statement's table words and the real class files: 22 classes; the members and pool entries that the words name. The judged class is class 1, her method 1. -/
namespace start1
open Jvm.ClassFile
def u (s : String) : CpInfo := .utf8 (stringToUtf16 s)
/-- a pool by its gaps: so many unusable entries, then the entry; so many at the end -/
def gap : Nat → List CpInfo → List CpInfo
  | 0, r => r
  | n + 1, r => .unusable :: gap n r
def poolList (es : List (Nat × CpInfo)) (last : Nat) : List CpInfo := es.foldr (fun e r => gap e.1 (e.2 :: r)) (gap last [])
def pool (es : List (Nat × CpInfo)) (last : Nat) : Array CpInfo := ⟨poolList es last⟩
def fileOf (pool : Array CpInfo) (this : Nat) (attrs : Array Attribute := #[]) (ms : Array MethodInfo := #[]) (fl : Nat := 33) (sup : Nat := 0) (ifs : Array Nat := #[]) (fds : Array FieldInfo := #[]) : ClassFile where
  minorVersion := 0
  majorVersion := 65
  constantPool := pool
  accessFlags := fl
  thisClass := this
  superClass := sup
  interfaces := ifs
  fields := fds
  methods := ms
  attributes := attrs
def plain (name : String) (sup : Option ClassId) : Class where
  name := name
  kind := .ordinary
  loader := none
  accessFlags := 33
  super := sup
  interfaces := #[]
  cf := none
  fields := #[]
  methods := #[]
  instanceTypes := #[]
  staticTypes := #[]
  resolved := #[]
  callSites := []
  init := .initialized
  statics := none
  mirror := none

def pool0 : Array CpInfo := pool [(5, u "<init>"), (0, u "()V"), (1, .class_ 10), (1, u "java/lang/Object"), (85, u "clone"), (0, u "()Ljava/lang/Object;")] 26

def k0c0 : Code := { maxStack := 0, maxLocals := 1, code := object_method_1_code, exceptionTable := #[], attributes := #[] }
def k0m0 : Method := { name := "<init>", desc := "()V", sig := { parameters := [], returnType := none }, accessFlags := 1, code := some k0c0 }
def k0m1 : Method := { name := "clone", desc := "()Ljava/lang/Object;", sig := { parameters := [], returnType := some (.object "java/lang/Object") }, accessFlags := 260, code := none }
/-- java/lang/Object -/
def k0 : Class := { plain "java/lang/Object" none with
  accessFlags := 33
  interfaces := #[]
  cf := some (fileOf pool0 8 #[] #[{ accessFlags := 1, nameIndex := 5, descriptorIndex := 6, attributes := #[] }, { accessFlags := 260, nameIndex := 96, descriptorIndex := 97, attributes := #[] }] 33 0 #[] #[])
  fields := #[]
  methods := #[k0m0, k0m1]
  instanceTypes := #[]
  staticTypes := #[]
  resolved := Array.replicate 124 none
  statics := none }

def pool1 : Array CpInfo := pool [(2, .class_ 4), (1, u "java/lang/Object"), (0, u "<init>"), (0, u "()V"), (0, .string 8), (0, u "death"), (0, .string 10), (0, u "disability"), (0, .string 12), (0, u "retirement"), (0, .string 14), (0, u "other"), (0, .long 255), (1, .methodref 18 19), (0, .class_ 20), (0, .nameAndType 21 22), (0, u "com/example/vestwright/vestwright/census/ReasonOfPinLaw"), (0, u "copy"), (0, u "(Ljava/lang/String;IC)Ljava/lang/String;"), (0, .integer 2147483647), (0, .methodref 25 26), (0, .class_ 27), (0, .nameAndType 28 29), (0, u "java/lang/String"), (0, u "length"), (0, u "()I"), (0, .methodref 18 31), (0, .nameAndType 32 33), (0, u "longer"), (0, u "(Ljava/lang/String;C)Ljava/lang/String;"), (0, .methodref 18 35), (0, .nameAndType 36 37), (0, u "shorter"), (0, u "(Ljava/lang/String;)Ljava/lang/String;"), (0, .methodref 18 39), (0, .nameAndType 40 41), (0, u "drawnString"), (0, u "(IJ)Ljava/lang/String;"), (0, .methodref 43 44), (0, .class_ 45), (0, .nameAndType 46 47), (0, u "com/example/vestwright/vestwright/census/Separation$Reason"), (0, u "of"), (0, u "(Ljava/lang/String;)Lcom/example/vestwright/vestwright/census/Separation$Reason;"), (0, .methodref 18 49), (0, .nameAndType 50 47), (0, u "expected"), (0, .methodref 25 52), (0, .nameAndType 53 54), (0, u "equals"), (0, u "(Ljava/lang/Object;)Z"), (0, .fieldref 43 56), (0, .nameAndType 57 58), (0, u "DEATH"), (0, u "Lcom/example/vestwright/vestwright/census/Separation$Reason;"), (0, .fieldref 43 60), (0, .nameAndType 61 58), (0, u "DISABILITY"), (0, .fieldref 43 63), (0, .nameAndType 64 58), (0, u "RETIREMENT"), (0, .fieldref 43 66), (0, .nameAndType 67 58), (0, u "OTHER"), (0, .methodref 25 69), (0, .nameAndType 70 71), (0, u "charAt"), (0, u "(I)C"), (0, .methodref 18 73), (0, .nameAndType 74 75), (0, u "at"), (0, u "(Ljava/lang/String;IIC)C"), (0, .methodref 25 77), (0, .nameAndType 5 78), (0, u "([C)V"), (0, .methodref 25 80), (0, .nameAndType 81 82), (0, u "valueOf"), (0, u "(C)Ljava/lang/String;"), (2, u "law"), (0, u "(IIJ)Z")] 7

def k1m0 : Method := { name := "<init>", desc := "()V", sig := { parameters := [], returnType := none }, accessFlags := 2, code := none }
def k1c1 : Code := { maxStack := 4, maxLocals := 10, code := code, exceptionTable := #[], attributes := #[] }
def k1m1 : Method := { name := "law", desc := "(IIJ)Z", sig := { parameters := [.int, .int, .long], returnType := some .boolean }, accessFlags := 9, code := some k1c1 }
def k1c2 : Code := { maxStack := 2, maxLocals := 1, code := method_3_code, exceptionTable := #[], attributes := #[] }
def k1m2 : Method := { name := "expected", desc := "(Ljava/lang/String;)Lcom/example/vestwright/vestwright/census/Separation$Reason;", sig := { parameters := [(.object "java/lang/String")], returnType := some (.object "com/example/vestwright/vestwright/census/Separation$Reason") }, accessFlags := 10, code := some k1c2 }
def k1c3 : Code := { maxStack := 2, maxLocals := 4, code := method_4_code, exceptionTable := #[], attributes := #[] }
def k1m3 : Method := { name := "at", desc := "(Ljava/lang/String;IIC)C", sig := { parameters := [(.object "java/lang/String"), .int, .int, .char], returnType := some .char }, accessFlags := 10, code := some k1c3 }
def k1c4 : Code := { maxStack := 9, maxLocals := 3, code := method_5_code, exceptionTable := #[], attributes := #[] }
def k1m4 : Method := { name := "copy", desc := "(Ljava/lang/String;IC)Ljava/lang/String;", sig := { parameters := [(.object "java/lang/String"), .int, .char], returnType := some (.object "java/lang/String") }, accessFlags := 10, code := some k1c4 }
def k1c5 : Code := { maxStack := 7, maxLocals := 2, code := method_6_code, exceptionTable := #[], attributes := #[] }
def k1m5 : Method := { name := "longer", desc := "(Ljava/lang/String;C)Ljava/lang/String;", sig := { parameters := [(.object "java/lang/String"), .char], returnType := some (.object "java/lang/String") }, accessFlags := 10, code := some k1c5 }
def k1c6 : Code := { maxStack := 7, maxLocals := 1, code := method_7_code, exceptionTable := #[], attributes := #[] }
def k1m6 : Method := { name := "shorter", desc := "(Ljava/lang/String;)Ljava/lang/String;", sig := { parameters := [(.object "java/lang/String")], returnType := some (.object "java/lang/String") }, accessFlags := 10, code := some k1c6 }
def k1c7 : Code := { maxStack := 9, maxLocals := 3, code := method_8_code, exceptionTable := #[], attributes := #[] }
def k1m7 : Method := { name := "drawnString", desc := "(IJ)Ljava/lang/String;", sig := { parameters := [.int, .long], returnType := some (.object "java/lang/String") }, accessFlags := 10, code := some k1c7 }
/-- com/example/vestwright/vestwright/census/ReasonOfPinLaw -/
def k1 : Class := { plain "com/example/vestwright/vestwright/census/ReasonOfPinLaw" (some 0) with
  accessFlags := 49
  interfaces := #[]
  cf := some (fileOf pool1 18 #[] #[{ accessFlags := 2, nameIndex := 5, descriptorIndex := 6, attributes := #[] }, { accessFlags := 9, nameIndex := 85, descriptorIndex := 86, attributes := #[] }, { accessFlags := 10, nameIndex := 50, descriptorIndex := 47, attributes := #[] }, { accessFlags := 10, nameIndex := 74, descriptorIndex := 75, attributes := #[] }, { accessFlags := 10, nameIndex := 21, descriptorIndex := 22, attributes := #[] }, { accessFlags := 10, nameIndex := 32, descriptorIndex := 33, attributes := #[] }, { accessFlags := 10, nameIndex := 36, descriptorIndex := 37, attributes := #[] }, { accessFlags := 10, nameIndex := 40, descriptorIndex := 41, attributes := #[] }] 49 2 #[] #[])
  fields := #[]
  methods := #[k1m0, k1m1, k1m2, k1m3, k1m4, k1m5, k1m6, k1m7]
  instanceTypes := #[]
  staticTypes := #[]
  resolved := Array.replicate 94 none
  statics := none }

def pool2 : Array CpInfo := pool [(1, .class_ 2), (0, u "java/io/Serializable"), (0, .class_ 4), (0, u "java/lang/Object")] 2

/-- java/io/Serializable -/
def k2 : Class := { plain "java/io/Serializable" (some 0) with
  accessFlags := 1537
  interfaces := #[]
  cf := some (fileOf pool2 1 #[] #[] 1537 3 #[] #[])
  fields := #[]
  methods := #[]
  instanceTypes := #[]
  staticTypes := #[]
  resolved := Array.replicate 7 none
  statics := none }

def pool3 : Array CpInfo := pool [(1, .class_ 2), (0, u "java/lang/Comparable"), (0, .class_ 4), (0, u "java/lang/Object")] 7

/-- java/lang/Comparable -/
def k3 : Class := { plain "java/lang/Comparable" (some 0) with
  accessFlags := 1537
  interfaces := #[]
  cf := some (fileOf pool3 1 #[] #[] 1537 3 #[] #[])
  fields := #[]
  methods := #[]
  instanceTypes := #[]
  staticTypes := #[]
  resolved := Array.replicate 12 none
  statics := none }

def pool4 : Array CpInfo := pool [(2, .class_ 4), (1, u "java/lang/CharSequence"), (42, .class_ 48), (0, u "java/lang/CharSequence$1CodePointIterator"), (10, .class_ 60), (0, u "java/lang/CharSequence$1CharIterator"), (5, .class_ 67), (0, u "java/lang/Object")] 63

/-- java/lang/CharSequence -/
def k4 : Class := { plain "java/lang/CharSequence" (some 0) with
  accessFlags := 1537
  interfaces := #[]
  cf := some (fileOf pool4 2 #[.nestMembers #[47, 59]] #[] 1537 66 #[] #[])
  fields := #[]
  methods := #[]
  instanceTypes := #[]
  staticTypes := #[]
  resolved := Array.replicate 131 none
  statics := none }

def pool5 : Array CpInfo := pool [(1, .class_ 2), (0, u "java/lang/constant/Constable"), (0, .class_ 4), (0, u "java/lang/Object")] 6

/-- java/lang/constant/Constable -/
def k5 : Class := { plain "java/lang/constant/Constable" (some 0) with
  accessFlags := 1537
  interfaces := #[]
  cf := some (fileOf pool5 1 #[] #[] 1537 3 #[] #[])
  fields := #[]
  methods := #[]
  instanceTypes := #[]
  staticTypes := #[]
  resolved := Array.replicate 11 none
  statics := none }

def pool6 : Array CpInfo := pool [(1, .class_ 2), (0, u "java/lang/constant/ConstantDesc"), (0, .class_ 4), (0, u "java/lang/Object")] 32

/-- java/lang/constant/ConstantDesc -/
def k6 : Class := { plain "java/lang/constant/ConstantDesc" (some 0) with
  accessFlags := 1537
  interfaces := #[]
  cf := some (fileOf pool6 1 #[] #[] 1537 3 #[] #[])
  fields := #[]
  methods := #[]
  instanceTypes := #[]
  staticTypes := #[]
  resolved := Array.replicate 37 none
  statics := none }

def pool7 : Array CpInfo := pool [(1, .methodref 2 3), (0, .class_ 4), (0, .nameAndType 5 6), (0, u "java/lang/Object"), (0, u "<init>"), (0, u "()V"), (0, .string 8), (0, u ""), (0, .fieldref 10 11), (0, .class_ 12), (0, .nameAndType 13 14), (0, u "java/lang/String"), (0, u "value"), (0, u "[B"), (0, .fieldref 10 16), (0, .nameAndType 17 18), (0, u "coder"), (0, u "B"), (2, u "hash"), (0, u "I"), (2, u "hashIsZero"), (0, u "Z"), (0, .methodref 10 28), (0, .nameAndType 5 29), (0, u "([CIILjava/lang/Void;)V"), (8, .fieldref 10 39), (0, .nameAndType 40 26), (0, u "COMPACT_STRINGS"), (1, .class_ 44), (1, u "java/lang/StringUTF16"), (0, u "compress"), (1, .methodref 42 48), (0, .nameAndType 49 50), (0, u "coderFromArrayLen"), (0, u "([BI)B"), (2, u "toBytes"), (53, .class_ 109), (1, u "java/lang/StringLatin1"), (32, u "()Z"), (34, .methodref 42 178), (0, .nameAndType 45 179), (0, u "([CII)[B"), (29, .methodref 10 210), (0, .nameAndType 5 211), (0, u "([BB)V"), (122, u "()I"), (0, .methodref 10 336), (0, .nameAndType 17 337), (0, u "()B"), (25, u "([BI)C"), (5, u "(C)Z"), (21, u "(II)V"), (35, u "(I)C"), (64, .methodref 10 493), (0, .nameAndType 494 142), (0, u "isLatin1"), (0, .methodref 107 496), (0, .nameAndType 497 363), (0, u "charAt"), (3, u "checkIndex"), (5, u "length"), (33, .methodref 107 542), (0, .nameAndType 543 544), (0, u "equals"), (0, u "([B[B)Z"), (28, u "(Ljava/lang/Object;)Z"), (1, .class_ 576), (0, u "java/lang/CharSequence"), (22, u "CASE_INSENSITIVE_ORDER"), (0, u "Ljava/util/Comparator;"), (181, u "valueOf"), (0, u "(C)Ljava/lang/String;"), (226, u "([C)V"), (4, .methodref 107 1016), (0, .nameAndType 1017 369), (0, u "canEncode"), (0, .methodref 107 1019), (0, .nameAndType 53 1020), (0, u "(C)[B"), (32, .fieldref 1054 1055), (0, .class_ 1056), (0, .nameAndType 1057 1058), (0, u "jdk/internal/util/Preconditions"), (0, u "SIOOBE_FORMATTER"), (0, u "Ljava/util/function/BiFunction;"), (0, .methodref 1054 1060), (0, .nameAndType 501 1061), (0, u "(IILjava/util/function/BiFunction;)I"), (39, u "serialPersistentFields"), (0, u "[Ljava/io/ObjectStreamField;"), (0, .class_ 1104), (0, u "java/lang/String$CaseInsensitiveComparator"), (1, .class_ 1107), (0, u "java/io/Serializable"), (0, .class_ 1109), (0, u "java/lang/Comparable"), (0, .class_ 1111), (0, u "java/lang/constant/Constable"), (0, .class_ 1113), (0, u "java/lang/constant/ConstantDesc"), (2, u "serialVersionUID"), (0, u "J"), (3, u "REPL"), (0, u "C"), (2, u "LATIN1"), (1, u "UTF16")] 323

def k7m0 : Method := { name := "<init>", desc := "()V", sig := { parameters := [], returnType := none }, accessFlags := 1, code := none }
def k7c1 : Code := { maxStack := 5, maxLocals := 2, code := jdk_42_method_3_code, exceptionTable := #[], attributes := #[] }
def k7m1 : Method := { name := "<init>", desc := "([C)V", sig := { parameters := [(.array .char)], returnType := none }, accessFlags := 1, code := some k7c1 }
def k7c2 : Code := { maxStack := 2, maxLocals := 1, code := jdk_42_method_54_code, exceptionTable := #[], attributes := #[] }
def k7m2 : Method := { name := "length", desc := "()I", sig := { parameters := [], returnType := some .int }, accessFlags := 1, code := some k7c2 }
def k7c3 : Code := { maxStack := 2, maxLocals := 2, code := jdk_42_method_56_code, exceptionTable := #[], attributes := #[] }
def k7m3 : Method := { name := "charAt", desc := "(I)C", sig := { parameters := [.int], returnType := some .char }, accessFlags := 1, code := some k7c3 }
def k7c4 : Code := { maxStack := 2, maxLocals := 3, code := jdk_42_method_66_code, exceptionTable := #[], attributes := #[] }
def k7m4 : Method := { name := "equals", desc := "(Ljava/lang/Object;)Z", sig := { parameters := [(.object "java/lang/Object")], returnType := some .boolean }, accessFlags := 1, code := some k7c4 }
def k7c5 : Code := { maxStack := 4, maxLocals := 1, code := jdk_42_method_139_code, exceptionTable := #[], attributes := #[] }
def k7m5 : Method := { name := "valueOf", desc := "(C)Ljava/lang/String;", sig := { parameters := [.char], returnType := some (.object "java/lang/String") }, accessFlags := 9, code := some k7c5 }
def k7c6 : Code := { maxStack := 4, maxLocals := 6, code := jdk_42_method_149_code, exceptionTable := #[], attributes := #[] }
def k7m6 : Method := { name := "<init>", desc := "([CIILjava/lang/Void;)V", sig := { parameters := [(.array .char), .int, .int, (.object "java/lang/Void")], returnType := none }, accessFlags := 2, code := some k7c6 }
def k7c7 : Code := { maxStack := 2, maxLocals := 3, code := jdk_42_method_151_code, exceptionTable := #[], attributes := #[] }
def k7m7 : Method := { name := "<init>", desc := "([BB)V", sig := { parameters := [(.array .byte), .byte], returnType := none }, accessFlags := 0, code := some k7c7 }
def k7c8 : Code := { maxStack := 1, maxLocals := 1, code := jdk_42_method_152_code, exceptionTable := #[], attributes := #[] }
def k7m8 : Method := { name := "coder", desc := "()B", sig := { parameters := [], returnType := some .byte }, accessFlags := 0, code := some k7c8 }
def k7c9 : Code := { maxStack := 1, maxLocals := 1, code := jdk_42_method_154_code, exceptionTable := #[], attributes := #[] }
def k7m9 : Method := { name := "isLatin1", desc := "()Z", sig := { parameters := [], returnType := some .boolean }, accessFlags := 0, code := some k7c9 }
def k7c10 : Code := { maxStack := 3, maxLocals := 2, code := jdk_42_method_155_code, exceptionTable := #[], attributes := #[] }
def k7m10 : Method := { name := "checkIndex", desc := "(II)V", sig := { parameters := [.int, .int], returnType := none }, accessFlags := 8, code := some k7c10 }
/-- java/lang/String -/
def k7 : Class := { plain "java/lang/String" (some 0) with
  accessFlags := 49
  interfaces := #[2, 3, 4, 5, 6]
  cf := some (fileOf pool7 10 #[.nestMembers #[1103]] #[{ accessFlags := 1, nameIndex := 5, descriptorIndex := 6, attributes := #[] }, { accessFlags := 1, nameIndex := 5, descriptorIndex := 1010, attributes := #[] }, { accessFlags := 1, nameIndex := 507, descriptorIndex := 334, attributes := #[] }, { accessFlags := 1, nameIndex := 497, descriptorIndex := 427, attributes := #[] }, { accessFlags := 1, nameIndex := 543, descriptorIndex := 573, attributes := #[] }, { accessFlags := 9, nameIndex := 782, descriptorIndex := 783, attributes := #[] }, { accessFlags := 2, nameIndex := 5, descriptorIndex := 29, attributes := #[] }, { accessFlags := 0, nameIndex := 5, descriptorIndex := 211, attributes := #[] }, { accessFlags := 0, nameIndex := 17, descriptorIndex := 337, attributes := #[] }, { accessFlags := 0, nameIndex := 494, descriptorIndex := 142, attributes := #[] }, { accessFlags := 8, nameIndex := 501, descriptorIndex := 391, attributes := #[] }] 49 2 #[1106, 1108, 575, 1110, 1112] #[{ accessFlags := 18, nameIndex := 13, descriptorIndex := 14, attributes := #[] }, { accessFlags := 18, nameIndex := 17, descriptorIndex := 18, attributes := #[] }, { accessFlags := 2, nameIndex := 21, descriptorIndex := 22, attributes := #[] }, { accessFlags := 2, nameIndex := 25, descriptorIndex := 26, attributes := #[] }, { accessFlags := 26, nameIndex := 1116, descriptorIndex := 1117, attributes := #[] }, { accessFlags := 24, nameIndex := 40, descriptorIndex := 26, attributes := #[] }, { accessFlags := 26, nameIndex := 1101, descriptorIndex := 1102, attributes := #[] }, { accessFlags := 26, nameIndex := 1121, descriptorIndex := 1122, attributes := #[] }, { accessFlags := 25, nameIndex := 599, descriptorIndex := 600, attributes := #[] }, { accessFlags := 24, nameIndex := 1125, descriptorIndex := 18, attributes := #[] }, { accessFlags := 24, nameIndex := 1127, descriptorIndex := 18, attributes := #[] }])
  fields := #[{ name := "value", type := (.array .byte), accessFlags := 18, slot := 0, constantValue := 0 }, { name := "coder", type := .byte, accessFlags := 18, slot := 1, constantValue := 0 }, { name := "hash", type := .int, accessFlags := 2, slot := 2, constantValue := 0 }, { name := "hashIsZero", type := .boolean, accessFlags := 2, slot := 3, constantValue := 0 }, { name := "serialVersionUID", type := .long, accessFlags := 26, slot := 0, constantValue := 0 }, { name := "COMPACT_STRINGS", type := .boolean, accessFlags := 24, slot := 1, constantValue := 0 }, { name := "serialPersistentFields", type := (.array (.object "java/io/ObjectStreamField")), accessFlags := 26, slot := 2, constantValue := 0 }, { name := "REPL", type := .char, accessFlags := 26, slot := 3, constantValue := 0 }, { name := "CASE_INSENSITIVE_ORDER", type := (.object "java/util/Comparator"), accessFlags := 25, slot := 4, constantValue := 0 }, { name := "LATIN1", type := .byte, accessFlags := 24, slot := 5, constantValue := 0 }, { name := "UTF16", type := .byte, accessFlags := 24, slot := 6, constantValue := 0 }]
  methods := #[k7m0, k7m1, k7m2, k7m3, k7m4, k7m5, k7m6, k7m7, k7m8, k7m9, k7m10]
  instanceTypes := #[(.array .byte), .byte, .int, .boolean]
  staticTypes := #[.long, .boolean, (.array (.object "java/io/ObjectStreamField")), .char, (.object "java/util/Comparator"), .byte, .byte]
  resolved := Array.replicate 1451 none
  statics := some 0 }

def pool8 : Array CpInfo := pool [(1, .class_ 2), (0, u "java/lang/String"), (1, .class_ 6), (1, u "java/lang/Object"), (0, u "<init>"), (0, u "()V"), (0, .methodref 1 10), (0, .nameAndType 11 12), (0, u "checkIndex"), (0, u "(II)V"), (1, .class_ 16), (1, u "java/lang/StringLatin1"), (36, u "([BI)C"), (36, u "canEncode"), (14, u "(C)Z"), (15, u "$assertionsDisabled"), (0, u "Z"), (98, .class_ 223), (1, u "java/lang/StringLatin1$LinesSpliterator"), (28, u "charAt"), (28, u "equals"), (0, u "([B[B)Z"), (97, u "toBytes"), (1, u "(C)[B"), (7, .class_ 391), (0, u "java/lang/StringLatin1$CharsSpliterator")] 3

def k8m0 : Method := { name := "<init>", desc := "()V", sig := { parameters := [], returnType := none }, accessFlags := 0, code := none }
def k8c1 : Code := { maxStack := 2, maxLocals := 2, code := jdk_43_method_2_code, exceptionTable := #[], attributes := #[] }
def k8m1 : Method := { name := "charAt", desc := "([BI)C", sig := { parameters := [(.array .byte), .int], returnType := some .char }, accessFlags := 9, code := some k8c1 }
def k8c2 : Code := { maxStack := 2, maxLocals := 1, code := jdk_43_method_3_code, exceptionTable := #[], attributes := #[] }
def k8m2 : Method := { name := "canEncode", desc := "(C)Z", sig := { parameters := [.char], returnType := some .boolean }, accessFlags := 9, code := some k8c2 }
def k8c3 : Code := { maxStack := 3, maxLocals := 3, code := jdk_43_method_13_code, exceptionTable := #[], attributes := #[] }
def k8m3 : Method := { name := "equals", desc := "([B[B)Z", sig := { parameters := [(.array .byte), (.array .byte)], returnType := some .boolean }, accessFlags := 9, code := some k8c3 }
def k8c4 : Code := { maxStack := 4, maxLocals := 1, code := jdk_43_method_46_code, exceptionTable := #[], attributes := #[] }
def k8m4 : Method := { name := "toBytes", desc := "(C)[B", sig := { parameters := [.char], returnType := some (.array .byte) }, accessFlags := 9, code := some k8c4 }
/-- java/lang/StringLatin1 -/
def k8 : Class := { plain "java/lang/StringLatin1" (some 0) with
  accessFlags := 48
  interfaces := #[]
  cf := some (fileOf pool8 14 #[.nestMembers #[390, 221]] #[{ accessFlags := 0, nameIndex := 7, descriptorIndex := 8, attributes := #[] }, { accessFlags := 9, nameIndex := 252, descriptorIndex := 53, attributes := #[] }, { accessFlags := 9, nameIndex := 90, descriptorIndex := 105, attributes := #[] }, { accessFlags := 9, nameIndex := 281, descriptorIndex := 282, attributes := #[] }, { accessFlags := 9, nameIndex := 380, descriptorIndex := 382, attributes := #[] }] 48 4 #[] #[{ accessFlags := 4120, nameIndex := 121, descriptorIndex := 122, attributes := #[] }])
  fields := #[{ name := "$assertionsDisabled", type := .boolean, accessFlags := 4120, slot := 0, constantValue := 0 }]
  methods := #[k8m0, k8m1, k8m2, k8m3, k8m4]
  instanceTypes := #[]
  staticTypes := #[.boolean]
  resolved := Array.replicate 395 none
  statics := none }

def pool9 : Array CpInfo := pool [(2, .class_ 4), (1, u "java/lang/Object"), (0, u "<init>"), (0, u "()V"), (17, .class_ 26), (1, u "jdk/internal/util/Preconditions"), (6, u "checkIndex"), (21, .class_ 56), (0, u "jdk/internal/util/Preconditions$4"), (57, .class_ 115), (0, u "jdk/internal/util/Preconditions$1"), (7, u "SIOOBE_FORMATTER"), (0, u "Ljava/util/function/BiFunction;"), (0, .class_ 126), (0, u "jdk/internal/util/Preconditions$2"), (3, u "AIOOBE_FORMATTER"), (0, .class_ 132), (0, u "jdk/internal/util/Preconditions$3"), (3, u "IOOBE_FORMATTER"), (41, u "(IILjava/util/function/BiFunction;)I")] 15

def k9m0 : Method := { name := "<init>", desc := "()V", sig := { parameters := [], returnType := none }, accessFlags := 1, code := none }
def k9c1 : Code := { maxStack := 3, maxLocals := 3, code := jdk_41_method_11_code, exceptionTable := #[], attributes := #[] }
def k9m1 : Method := { name := "checkIndex", desc := "(IILjava/util/function/BiFunction;)I", sig := { parameters := [.int, .int, (.object "java/util/function/BiFunction")], returnType := some .int }, accessFlags := 9, code := some k9c1 }
/-- jdk/internal/util/Preconditions -/
def k9 : Class := { plain "jdk/internal/util/Preconditions" (some 0) with
  accessFlags := 33
  interfaces := #[]
  cf := some (fileOf pool9 24 #[.nestMembers #[55, 131, 125, 114]] #[{ accessFlags := 1, nameIndex := 5, descriptorIndex := 6, attributes := #[] }, { accessFlags := 9, nameIndex := 33, descriptorIndex := 178, attributes := #[] }] 33 2 #[] #[{ accessFlags := 25, nameIndex := 123, descriptorIndex := 124, attributes := #[] }, { accessFlags := 25, nameIndex := 130, descriptorIndex := 124, attributes := #[] }, { accessFlags := 25, nameIndex := 136, descriptorIndex := 124, attributes := #[] }])
  fields := #[{ name := "SIOOBE_FORMATTER", type := (.object "java/util/function/BiFunction"), accessFlags := 25, slot := 0, constantValue := 0 }, { name := "AIOOBE_FORMATTER", type := (.object "java/util/function/BiFunction"), accessFlags := 25, slot := 1, constantValue := 0 }, { name := "IOOBE_FORMATTER", type := (.object "java/util/function/BiFunction"), accessFlags := 25, slot := 2, constantValue := 0 }]
  methods := #[k9m0, k9m1]
  instanceTypes := #[]
  staticTypes := #[(.object "java/util/function/BiFunction"), (.object "java/util/function/BiFunction"), (.object "java/util/function/BiFunction")]
  resolved := Array.replicate 194 none
  statics := some 1 }

def pool10 : Array CpInfo := pool [(6, .class_ 8), (1, u "java/lang/Object"), (0, u "<init>"), (0, u "()V"), (1, .class_ 14), (1, u "java/lang/StringUTF16"), (31, u "$assertionsDisabled"), (0, u "Z"), (13, u "HI_BYTE_SHIFT"), (0, u "I"), (2, u "LO_BYTE_SHIFT"), (49, .methodref 12 116), (0, .nameAndType 117 118), (0, u "compress"), (0, u "([CI[BII)I"), (3, u "([CII)[B"), (138, u "coderFromArrayLen"), (0, u "([BI)B"), (106, .class_ 371), (1, u "java/lang/StringUTF16$LinesSpliterator"), (58, u "MAX_LENGTH"), (196, .class_ 628), (0, u "java/lang/StringUTF16$CodePointsSpliterator"), (0, .class_ 630), (0, u "java/lang/StringUTF16$CharsSpliterator")] 4

def k10m0 : Method := { name := "<init>", desc := "()V", sig := { parameters := [], returnType := none }, accessFlags := 0, code := none }
def k10c1 : Code := { maxStack := 2, maxLocals := 2, code := jdk_52_method_15_code, exceptionTable := #[], attributes := #[] }
def k10m1 : Method := { name := "coderFromArrayLen", desc := "([BI)B", sig := { parameters := [(.array .byte), .int], returnType := some .byte }, accessFlags := 8, code := some k10c1 }
def k10c2 : Code := { maxStack := 5, maxLocals := 6, code := jdk_52_method_16_code, exceptionTable := #[], attributes := #[] }
def k10m2 : Method := { name := "compress", desc := "([CII)[B", sig := { parameters := [(.array .char), .int, .int], returnType := some (.array .byte) }, accessFlags := 9, code := some k10c2 }
def k10c3 : Code := { maxStack := 3, maxLocals := 7, code := jdk_52_method_21_code, exceptionTable := #[], attributes := #[] }
def k10m3 : Method := { name := "compress", desc := "([CI[BII)I", sig := { parameters := [(.array .char), .int, (.array .byte), .int, .int], returnType := some .int }, accessFlags := 9, code := some k10c3 }
/-- java/lang/StringUTF16 -/
def k10 : Class := { plain "java/lang/StringUTF16" (some 0) with
  accessFlags := 48
  interfaces := #[]
  cf := some (fileOf pool10 12 #[.nestMembers #[627, 629, 369]] #[{ accessFlags := 0, nameIndex := 9, descriptorIndex := 10, attributes := #[] }, { accessFlags := 8, nameIndex := 261, descriptorIndex := 262, attributes := #[] }, { accessFlags := 9, nameIndex := 117, descriptorIndex := 122, attributes := #[] }, { accessFlags := 9, nameIndex := 117, descriptorIndex := 118, attributes := #[] }] 48 6 #[] #[{ accessFlags := 26, nameIndex := 61, descriptorIndex := 62, attributes := #[] }, { accessFlags := 26, nameIndex := 65, descriptorIndex := 62, attributes := #[] }, { accessFlags := 24, nameIndex := 430, descriptorIndex := 62, attributes := #[] }, { accessFlags := 4120, nameIndex := 46, descriptorIndex := 47, attributes := #[] }])
  fields := #[{ name := "HI_BYTE_SHIFT", type := .int, accessFlags := 26, slot := 0, constantValue := 0 }, { name := "LO_BYTE_SHIFT", type := .int, accessFlags := 26, slot := 1, constantValue := 0 }, { name := "MAX_LENGTH", type := .int, accessFlags := 24, slot := 2, constantValue := 0 }, { name := "$assertionsDisabled", type := .boolean, accessFlags := 4120, slot := 3, constantValue := 0 }]
  methods := #[k10m0, k10m1, k10m2, k10m3]
  instanceTypes := #[]
  staticTypes := #[.int, .int, .int, .boolean]
  resolved := Array.replicate 635 none
  statics := none }

def pool11 : Array CpInfo := pool [(2, .class_ 4), (1, u "java/lang/Enum"), (0, u "name"), (0, u "Ljava/lang/String;"), (2, u "ordinal"), (0, u "I"), (1, .class_ 14), (1, u "java/lang/Object"), (4, u "hash"), (86, .class_ 108), (1, u "java/lang/Enum$EnumDesc"), (2, .class_ 112), (0, u "java/lang/constant/Constable"), (0, .class_ 114), (0, u "java/lang/Comparable"), (0, .class_ 116), (0, u "java/io/Serializable")] 87

/-- java/lang/Enum -/
def k11 : Class := { plain "java/lang/Enum" (some 0) with
  accessFlags := 1057
  interfaces := #[5, 3, 2]
  cf := some (fileOf pool11 2 #[.nestMembers #[106]] #[] 1057 12 #[111, 113, 115] #[{ accessFlags := 18, nameIndex := 5, descriptorIndex := 6, attributes := #[] }, { accessFlags := 18, nameIndex := 9, descriptorIndex := 10, attributes := #[] }, { accessFlags := 2, nameIndex := 19, descriptorIndex := 10, attributes := #[] }])
  fields := #[{ name := "name", type := (.object "java/lang/String"), accessFlags := 18, slot := 0, constantValue := 0 }, { name := "ordinal", type := .int, accessFlags := 18, slot := 1, constantValue := 0 }, { name := "hash", type := .int, accessFlags := 2, slot := 2, constantValue := 0 }]
  methods := #[]
  instanceTypes := #[(.object "java/lang/String"), .int, .int]
  staticTypes := #[]
  resolved := Array.replicate 204 none
  statics := none }

def pool12 : Array CpInfo := pool [(1, .class_ 2), (0, u "com/example/vestwright/vestwright/census/Separation$Reason"), (2, u "DEATH"), (0, u "Lcom/example/vestwright/vestwright/census/Separation$Reason;"), (2, u "DISABILITY"), (2, u "RETIREMENT"), (2, u "OTHER"), (0, .fieldref 1 17), (0, .nameAndType 18 19), (0, u "$VALUES"), (0, u "[Lcom/example/vestwright/vestwright/census/Separation$Reason;"), (0, .methodref 21 22), (0, .class_ 19), (0, .nameAndType 23 24), (0, u "clone"), (0, u "()Ljava/lang/Object;"), (1, .class_ 28), (1, u "java/lang/Enum"), (6, .fieldref 1 36), (0, .nameAndType 37 38), (0, u "word"), (0, u "Ljava/lang/String;"), (0, .methodref 1 40), (0, .nameAndType 41 42), (0, u "values"), (0, u "()[Lcom/example/vestwright/vestwright/census/Separation$Reason;"), (0, .methodref 44 45), (0, .class_ 46), (0, .nameAndType 47 48), (0, u "java/lang/String"), (0, u "equals"), (0, u "(Ljava/lang/Object;)Z"), (20, u "(Ljava/lang/String;)Lcom/example/vestwright/vestwright/census/Separation$Reason;"), (4, u "of"), (7, .class_ 83), (0, u "com/example/vestwright/vestwright/census/Separation")] 2

def k12c0 : Code := { maxStack := 1, maxLocals := 0, code := prog_9_method_1_code, exceptionTable := #[], attributes := #[] }
def k12m0 : Method := { name := "values", desc := "()[Lcom/example/vestwright/vestwright/census/Separation$Reason;", sig := { parameters := [], returnType := some (.array (.object "com/example/vestwright/vestwright/census/Separation$Reason")) }, accessFlags := 9, code := some k12c0 }
def k12c1 : Code := { maxStack := 2, maxLocals := 6, code := prog_9_method_5_code, exceptionTable := #[], attributes := #[] }
def k12m1 : Method := { name := "of", desc := "(Ljava/lang/String;)Lcom/example/vestwright/vestwright/census/Separation$Reason;", sig := { parameters := [(.object "java/lang/String")], returnType := some (.object "com/example/vestwright/vestwright/census/Separation$Reason") }, accessFlags := 8, code := some k12c1 }
/-- com/example/vestwright/vestwright/census/Separation$Reason -/
def k12 : Class := { plain "com/example/vestwright/vestwright/census/Separation$Reason" (some 11) with
  accessFlags := 16433
  interfaces := #[]
  cf := some (fileOf pool12 1 #[.nestHost 82] #[{ accessFlags := 9, nameIndex := 41, descriptorIndex := 42, attributes := #[] }, { accessFlags := 8, nameIndex := 74, descriptorIndex := 69, attributes := #[] }] 16433 26 #[] #[{ accessFlags := 16409, nameIndex := 5, descriptorIndex := 6, attributes := #[] }, { accessFlags := 16409, nameIndex := 9, descriptorIndex := 6, attributes := #[] }, { accessFlags := 16409, nameIndex := 12, descriptorIndex := 6, attributes := #[] }, { accessFlags := 16409, nameIndex := 15, descriptorIndex := 6, attributes := #[] }, { accessFlags := 18, nameIndex := 37, descriptorIndex := 38, attributes := #[] }, { accessFlags := 4122, nameIndex := 18, descriptorIndex := 19, attributes := #[] }])
  fields := #[{ name := "DEATH", type := (.object "com/example/vestwright/vestwright/census/Separation$Reason"), accessFlags := 16409, slot := 0, constantValue := 0 }, { name := "DISABILITY", type := (.object "com/example/vestwright/vestwright/census/Separation$Reason"), accessFlags := 16409, slot := 1, constantValue := 0 }, { name := "RETIREMENT", type := (.object "com/example/vestwright/vestwright/census/Separation$Reason"), accessFlags := 16409, slot := 2, constantValue := 0 }, { name := "OTHER", type := (.object "com/example/vestwright/vestwright/census/Separation$Reason"), accessFlags := 16409, slot := 3, constantValue := 0 }, { name := "word", type := (.object "java/lang/String"), accessFlags := 18, slot := 3, constantValue := 0 }, { name := "$VALUES", type := (.array (.object "com/example/vestwright/vestwright/census/Separation$Reason")), accessFlags := 4122, slot := 4, constantValue := 0 }]
  methods := #[k12m0, k12m1]
  instanceTypes := #[(.object "java/lang/String"), .int, .int, (.object "java/lang/String")]
  staticTypes := #[(.object "com/example/vestwright/vestwright/census/Separation$Reason"), (.object "com/example/vestwright/vestwright/census/Separation$Reason"), (.object "com/example/vestwright/vestwright/census/Separation$Reason"), (.object "com/example/vestwright/vestwright/census/Separation$Reason"), (.array (.object "com/example/vestwright/vestwright/census/Separation$Reason"))]
  resolved := Array.replicate 86 none
  statics := some 2 }

def pool13 : Array CpInfo := pool [(1, .class_ 2), (0, u "java/lang/Cloneable"), (0, .class_ 4), (0, u "java/lang/Object")] 2

/-- java/lang/Cloneable -/
def k13 : Class := { plain "java/lang/Cloneable" (some 0) with
  accessFlags := 1537
  interfaces := #[]
  cf := some (fileOf pool13 1 #[] #[] 1537 3 #[] #[])
  fields := #[]
  methods := #[]
  instanceTypes := #[]
  staticTypes := #[]
  resolved := Array.replicate 7 none
  statics := none }

def pool14 : Array CpInfo := pool [(9, u "<init>"), (6, .class_ 18), (1, u "java/lang/Object"), (0, u "()V"), (1, .class_ 23), (1, u "jdk/internal/util/ArraysSupport"), (0, u "LOG2_ARRAY_LONG_INDEX_SCALE"), (0, u "I"), (2, u "U"), (0, u "Ljdk/internal/misc/Unsafe;"), (8, u "BIG_ENDIAN"), (0, u "Z"), (8, u "LOG2_BYTE_BIT_SIZE"), (4, u "LOG2_ARRAY_INT_INDEX_SCALE"), (54, u "JLA"), (0, u "Ljdk/internal/access/JavaLangAccess;"), (11, u "LOG2_ARRAY_BOOLEAN_INDEX_SCALE"), (9, u "LOG2_ARRAY_BYTE_INDEX_SCALE"), (5, u "LOG2_ARRAY_CHAR_INDEX_SCALE"), (5, u "LOG2_ARRAY_SHORT_INDEX_SCALE"), (18, u "LOG2_ARRAY_FLOAT_INDEX_SCALE"), (24, u "LOG2_ARRAY_DOUBLE_INDEX_SCALE"), (89, u "T_BOOLEAN"), (2, u "T_CHAR"), (1, u "T_FLOAT"), (1, u "T_DOUBLE"), (1, u "T_BYTE"), (1, u "T_SHORT"), (1, u "T_INT"), (1, u "T_LONG"), (1, u "SOFT_MAX_ARRAY_LENGTH")] 83

def k14m0 : Method := { name := "<init>", desc := "()V", sig := { parameters := [], returnType := none }, accessFlags := 2, code := none }
/-- jdk/internal/util/ArraysSupport -/
def k14 : Class := { plain "jdk/internal/util/ArraysSupport" (some 0) with
  accessFlags := 33
  interfaces := #[]
  cf := some (fileOf pool14 21 #[] #[{ accessFlags := 2, nameIndex := 9, descriptorIndex := 19, attributes := #[] }] 33 16 #[] #[{ accessFlags := 24, nameIndex := 28, descriptorIndex := 29, attributes := #[] }, { accessFlags := 26, nameIndex := 38, descriptorIndex := 39, attributes := #[] }, { accessFlags := 25, nameIndex := 121, descriptorIndex := 25, attributes := #[] }, { accessFlags := 25, nameIndex := 131, descriptorIndex := 25, attributes := #[] }, { accessFlags := 25, nameIndex := 137, descriptorIndex := 25, attributes := #[] }, { accessFlags := 25, nameIndex := 143, descriptorIndex := 25, attributes := #[] }, { accessFlags := 25, nameIndex := 53, descriptorIndex := 25, attributes := #[] }, { accessFlags := 25, nameIndex := 24, descriptorIndex := 25, attributes := #[] }, { accessFlags := 25, nameIndex := 162, descriptorIndex := 25, attributes := #[] }, { accessFlags := 25, nameIndex := 187, descriptorIndex := 25, attributes := #[] }, { accessFlags := 26, nameIndex := 48, descriptorIndex := 25, attributes := #[] }, { accessFlags := 25, nameIndex := 277, descriptorIndex := 25, attributes := #[] }, { accessFlags := 25, nameIndex := 280, descriptorIndex := 25, attributes := #[] }, { accessFlags := 25, nameIndex := 282, descriptorIndex := 25, attributes := #[] }, { accessFlags := 25, nameIndex := 284, descriptorIndex := 25, attributes := #[] }, { accessFlags := 25, nameIndex := 286, descriptorIndex := 25, attributes := #[] }, { accessFlags := 25, nameIndex := 288, descriptorIndex := 25, attributes := #[] }, { accessFlags := 25, nameIndex := 290, descriptorIndex := 25, attributes := #[] }, { accessFlags := 25, nameIndex := 292, descriptorIndex := 25, attributes := #[] }, { accessFlags := 26, nameIndex := 108, descriptorIndex := 109, attributes := #[] }, { accessFlags := 25, nameIndex := 294, descriptorIndex := 25, attributes := #[] }])
  fields := #[{ name := "U", type := (.object "jdk/internal/misc/Unsafe"), accessFlags := 24, slot := 0, constantValue := 0 }, { name := "BIG_ENDIAN", type := .boolean, accessFlags := 26, slot := 1, constantValue := 0 }, { name := "LOG2_ARRAY_BOOLEAN_INDEX_SCALE", type := .int, accessFlags := 25, slot := 2, constantValue := 0 }, { name := "LOG2_ARRAY_BYTE_INDEX_SCALE", type := .int, accessFlags := 25, slot := 3, constantValue := 0 }, { name := "LOG2_ARRAY_CHAR_INDEX_SCALE", type := .int, accessFlags := 25, slot := 4, constantValue := 0 }, { name := "LOG2_ARRAY_SHORT_INDEX_SCALE", type := .int, accessFlags := 25, slot := 5, constantValue := 0 }, { name := "LOG2_ARRAY_INT_INDEX_SCALE", type := .int, accessFlags := 25, slot := 6, constantValue := 0 }, { name := "LOG2_ARRAY_LONG_INDEX_SCALE", type := .int, accessFlags := 25, slot := 7, constantValue := 0 }, { name := "LOG2_ARRAY_FLOAT_INDEX_SCALE", type := .int, accessFlags := 25, slot := 8, constantValue := 0 }, { name := "LOG2_ARRAY_DOUBLE_INDEX_SCALE", type := .int, accessFlags := 25, slot := 9, constantValue := 0 }, { name := "LOG2_BYTE_BIT_SIZE", type := .int, accessFlags := 26, slot := 10, constantValue := 0 }, { name := "T_BOOLEAN", type := .int, accessFlags := 25, slot := 11, constantValue := 0 }, { name := "T_CHAR", type := .int, accessFlags := 25, slot := 12, constantValue := 0 }, { name := "T_FLOAT", type := .int, accessFlags := 25, slot := 13, constantValue := 0 }, { name := "T_DOUBLE", type := .int, accessFlags := 25, slot := 14, constantValue := 0 }, { name := "T_BYTE", type := .int, accessFlags := 25, slot := 15, constantValue := 0 }, { name := "T_SHORT", type := .int, accessFlags := 25, slot := 16, constantValue := 0 }, { name := "T_INT", type := .int, accessFlags := 25, slot := 17, constantValue := 0 }, { name := "T_LONG", type := .int, accessFlags := 25, slot := 18, constantValue := 0 }, { name := "JLA", type := (.object "jdk/internal/access/JavaLangAccess"), accessFlags := 26, slot := 19, constantValue := 0 }, { name := "SOFT_MAX_ARRAY_LENGTH", type := .int, accessFlags := 25, slot := 20, constantValue := 0 }]
  methods := #[k14m0]
  instanceTypes := #[]
  staticTypes := #[(.object "jdk/internal/misc/Unsafe"), .boolean, .int, .int, .int, .int, .int, .int, .int, .int, .int, .int, .int, .int, .int, .int, .int, .int, .int, (.object "jdk/internal/access/JavaLangAccess"), .int]
  resolved := Array.replicate 378 none
  statics := none }

/-- the primitive byte -/
def k15 : Class := { plain "byte" none with kind := .primitive 'B', accessFlags := 0x411 }
/-- [B -/
def k16 : Class := { plain "[B" (some 0) with kind := .array 15 .byte, interfaces := #[13, 2], accessFlags := 1041 }

/-- the primitive char -/
def k17 : Class := { plain "char" none with kind := .primitive 'C', accessFlags := 0x411 }
/-- [C -/
def k18 : Class := { plain "[C" (some 0) with kind := .array 17 .char, interfaces := #[13, 2], accessFlags := 1041 }

/-- the primitive int -/
def k19 : Class := { plain "int" none with kind := .primitive 'I', accessFlags := 0x411 }
/-- [I -/
def k20 : Class := { plain "[I" (some 0) with kind := .array 19 .int, interfaces := #[13, 2], accessFlags := 1041 }

/-- [Lcom/example/vestwright/vestwright/census/Separation$Reason; -/
def k21 : Class := { plain "[Lcom/example/vestwright/vestwright/census/Separation$Reason;" (some 0) with kind := .array 12 (.object "com/example/vestwright/vestwright/census/Separation$Reason"), interfaces := #[13, 2], accessFlags := 1041 }

def heap : Heap := #[{ cls := 7, slots := #[.long 0, .int 1, .null, .int 0, .null, .int 0, .int 0], vm := .statics 7 },
  { cls := 9, slots := #[.null, .null, .null], vm := .statics 9 },
  { cls := 12, slots := #[.ref 4, .ref 5, .ref 6, .ref 7, .ref 3], vm := .statics 12 },
  { cls := 21, slots := #[.ref 4, .ref 5, .ref 6, .ref 7], vm := .none },
  { cls := 12, slots := #[.null, .int 0, .int 0, .ref 8], vm := .none },
  { cls := 12, slots := #[.null, .int 0, .int 0, .ref 9], vm := .none },
  { cls := 12, slots := #[.null, .int 0, .int 0, .ref 10], vm := .none },
  { cls := 12, slots := #[.null, .int 0, .int 0, .ref 11], vm := .none },
  { cls := 7, slots := #[.ref 12, .int 0, .int 0, .int 0], vm := .none },
  { cls := 7, slots := #[.ref 13, .int 0, .int 0, .int 0], vm := .none },
  { cls := 7, slots := #[.ref 14, .int 0, .int 0, .int 0], vm := .none },
  { cls := 7, slots := #[.ref 15, .int 0, .int 0, .int 0], vm := .none },
  { cls := 16, slots := #[.int 100, .int 101, .int 97, .int 116, .int 104], vm := .none },
  { cls := 16, slots := #[.int 100, .int 105, .int 115, .int 97, .int 98, .int 105, .int 108, .int 105, .int 116, .int 121], vm := .none },
  { cls := 16, slots := #[.int 114, .int 101, .int 116, .int 105, .int 114, .int 101, .int 109, .int 101, .int 110, .int 116], vm := .none },
  { cls := 16, slots := #[.int 111, .int 116, .int 104, .int 101, .int 114], vm := .none }]
def classes : Array Class := #[k0, k1, k2, k3, k4, k5, k6, k7, k8, k9, k10, k11, k12, k13, k14, k15, k16, k17, k18, k19, k20, k21]
def interned : List (Array UInt16 × Addr) := []
def slotsUsed : Nat := 81
def theMethod : MethodId := ⟨1, 1⟩
def args0 : Array Value := #[.int 5, .int 6, .long 7]
def aboutOver (below : List Frame) : State where
  vm := { classes := classes, interned := interned.toArray }
  heap := heap
  slotsUsed := slotsUsed
  threads := #[{ frames := .invoking theMethod args0 :: below }]
def below0 : List Frame := [.native { method := ⟨0, 0⟩, args := #[] }]
def about1 : State := aboutOver below0
def p0 : Program := .bare "" "" ""
def e0 : Env := launch0.env 0 0 0
theorem w_frames : about1.frames = Frame.invoking theMethod args0 :: below0 := rfl
set_option maxRecDepth 65536 in
theorem w_args : argsFit about1.vm theMethod args0 = true := by decide +kernel
set_option maxRecDepth 65536 in
theorem w_heap : heapFits about1 = true := by decide +kernel
set_option maxRecDepth 65536 in
theorem w_runnable : about1.curStatus? = some .runnable := by decide +kernel
set_option maxRecDepth 65536 in
theorem w_alone : about1.alone = true := by decide +kernel
set_option maxRecDepth 65536 in
theorem w_named : about1.methodNamed? x = some theMethod := by decide +kernel
set_option maxRecDepth 65536 in
theorem w_hears : about1.hears theMethod below0 = true := by decide +kernel
set_option maxRecDepth 65536 in
theorem w_ripe : about1.ripe theMethod args0 below0 = true := by decide +kernel
theorem w_running : about1.status = .running := rfl
set_option maxRecDepth 65536 in
theorem w_room : about1.hasRoom e0.platform room_1 = true :=
  launch0.hasRoom_least _ room_1 (by decide +kernel) (by decide +kernel) (by decide +kernel) (by decide +kernel) (by decide +kernel) (by decide +kernel)
theorem allAtoms_all (ts : List Jvm.Cond) (a : Array Jvm.Value) (st : Jvm.State) : (allAtoms ts).before a st = ts.all (fun c => c.before a st) := by
  induction ts with
  | nil => rfl
  | cons c t ih =>
    show (Jvm.Cond.and c (allAtoms t)).before a st = _
    rw [Jvm.Cond.before_and, ih, List.all_cons]
def words1 : List Jvm.Cond := Jvm.Cond.code x code maxLocals ret :: tables_1
/-- a 'code' word, met by the world's own term for the bytes: nothing is compared byte by byte -/
theorem code_word {y : MethodName} {bytes : ByteArray} {mx : Nat} {rt : Option FieldType} {a : Array Value} {s : State} {m : MethodId} {meth : Method} {c : Code} (h1 : s.methodNamed? y = some m) (h2 : s.vm.method? m = some meth) (h3 : meth.code = some c) (h4 : c.code = bytes)
    (h5 : (c.maxLocals == mx && c.exceptionTable.isEmpty && decide (c.maxStack ≤ mostOperands) && decide (meth.sig.returnType = rt) && !meth.locks && decide (parseMethodDescriptor y.desc = some meth.sig)) = true) : (Jvm.Cond.code y bytes mx rt).before a s = true := by
  simp only [Bool.and_eq_true, beq_iff_eq, Bool.not_eq_true', decide_eq_true_eq] at h5
  obtain ⟨⟨⟨⟨⟨g1, g2⟩, g3⟩, g4⟩, g5⟩, g6⟩ := h5
  simp [Cond.before, Cond.holds, Cond.value, h1, h2, h3, h4, g1, g2, g3, g4, g5, g6]
def isCode : Jvm.Cond → Bool
  | .code _ _ _ _ => true
  | _ => false
theorem all_split {L : List Jvm.Cond} {P : Jvm.Cond → Bool} (h1 : L.all (fun c => isCode c || P c) = true) (h2 : ∀ c ∈ L.filter isCode, P c = true) : L.all P = true := by
  refine List.all_eq_true.mpr fun c hc => ?_
  have h := List.all_eq_true.mp h1 c hc
  rcases Bool.eq_false_or_eq_true (isCode c) with hi | hi
  · exact h2 c (List.mem_filter.mpr ⟨hc, hi⟩)
  · simpa [hi] using h
set_option maxRecDepth 65536 in
theorem w_c0 : (Jvm.Cond.code x code maxLocals ret).before args0 about1 = true := code_word (m := ⟨1, 1⟩) (meth := k1m1) (c := k1c1) (by decide +kernel) rfl rfl rfl (by decide +kernel)
set_option maxRecDepth 65536 in
theorem w_c1 : (Jvm.Cond.code ({ cls := "com/example/vestwright/vestwright/census/ReasonOfPinLaw", name := "copy", desc := "(Ljava/lang/String;IC)Ljava/lang/String;" } : Jvm.MethodName) method_5_code (3 : Nat) (Option.some (Jvm.ClassFile.FieldType.object "java/lang/String"))).before args0 about1 = true := code_word (m := ⟨1, 4⟩) (meth := k1m4) (c := k1c4) (by decide +kernel) rfl rfl rfl (by decide +kernel)
set_option maxRecDepth 65536 in
theorem w_c2 : (Jvm.Cond.code ({ cls := "java/lang/String", name := "length", desc := "()I" } : Jvm.MethodName) jdk_42_method_54_code (1 : Nat) (Option.some Jvm.ClassFile.FieldType.int)).before args0 about1 = true := code_word (m := ⟨7, 2⟩) (meth := k7m2) (c := k7c2) (by decide +kernel) rfl rfl rfl (by decide +kernel)
set_option maxRecDepth 65536 in
theorem w_c3 : (Jvm.Cond.code ({ cls := "java/lang/String", name := "coder", desc := "()B" } : Jvm.MethodName) jdk_42_method_152_code (1 : Nat) (Option.some Jvm.ClassFile.FieldType.byte)).before args0 about1 = true := code_word (m := ⟨7, 8⟩) (meth := k7m8) (c := k7c8) (by decide +kernel) rfl rfl rfl (by decide +kernel)
set_option maxRecDepth 65536 in
theorem w_c4 : (Jvm.Cond.code ({ cls := "com/example/vestwright/vestwright/census/ReasonOfPinLaw", name := "at", desc := "(Ljava/lang/String;IIC)C" } : Jvm.MethodName) method_4_code (4 : Nat) (Option.some Jvm.ClassFile.FieldType.char)).before args0 about1 = true := code_word (m := ⟨1, 3⟩) (meth := k1m3) (c := k1c3) (by decide +kernel) rfl rfl rfl (by decide +kernel)
set_option maxRecDepth 65536 in
theorem w_c5 : (Jvm.Cond.code ({ cls := "java/lang/String", name := "charAt", desc := "(I)C" } : Jvm.MethodName) jdk_42_method_56_code (2 : Nat) (Option.some Jvm.ClassFile.FieldType.char)).before args0 about1 = true := code_word (m := ⟨7, 3⟩) (meth := k7m3) (c := k7c3) (by decide +kernel) rfl rfl rfl (by decide +kernel)
set_option maxRecDepth 65536 in
theorem w_c6 : (Jvm.Cond.code ({ cls := "java/lang/String", name := "isLatin1", desc := "()Z" } : Jvm.MethodName) jdk_42_method_154_code (1 : Nat) (Option.some Jvm.ClassFile.FieldType.boolean)).before args0 about1 = true := code_word (m := ⟨7, 9⟩) (meth := k7m9) (c := k7c9) (by decide +kernel) rfl rfl rfl (by decide +kernel)
set_option maxRecDepth 65536 in
theorem w_c7 : (Jvm.Cond.code ({ cls := "java/lang/StringLatin1", name := "charAt", desc := "([BI)C" } : Jvm.MethodName) jdk_43_method_2_code (2 : Nat) (Option.some Jvm.ClassFile.FieldType.char)).before args0 about1 = true := code_word (m := ⟨8, 1⟩) (meth := k8m1) (c := k8c1) (by decide +kernel) rfl rfl rfl (by decide +kernel)
set_option maxRecDepth 65536 in
theorem w_c8 : (Jvm.Cond.code ({ cls := "java/lang/String", name := "checkIndex", desc := "(II)V" } : Jvm.MethodName) jdk_42_method_155_code (2 : Nat) (Option.none : Option Jvm.ClassFile.FieldType)).before args0 about1 = true := code_word (m := ⟨7, 10⟩) (meth := k7m10) (c := k7c10) (by decide +kernel) rfl rfl rfl (by decide +kernel)
set_option maxRecDepth 65536 in
theorem w_c9 : (Jvm.Cond.code ({ cls := "jdk/internal/util/Preconditions", name := "checkIndex", desc := "(IILjava/util/function/BiFunction;)I" } : Jvm.MethodName) jdk_41_method_11_code (3 : Nat) (Option.some Jvm.ClassFile.FieldType.int)).before args0 about1 = true := code_word (m := ⟨9, 1⟩) (meth := k9m1) (c := k9c1) (by decide +kernel) rfl rfl rfl (by decide +kernel)
set_option maxRecDepth 65536 in
theorem w_c10 : (Jvm.Cond.code ({ cls := "java/lang/String", name := "<init>", desc := "([C)V" } : Jvm.MethodName) jdk_42_method_3_code (2 : Nat) (Option.none : Option Jvm.ClassFile.FieldType)).before args0 about1 = true := code_word (m := ⟨7, 1⟩) (meth := k7m1) (c := k7c1) (by decide +kernel) rfl rfl rfl (by decide +kernel)
set_option maxRecDepth 65536 in
theorem w_c11 : (Jvm.Cond.code ({ cls := "java/lang/String", name := "<init>", desc := "([CIILjava/lang/Void;)V" } : Jvm.MethodName) jdk_42_method_149_code (6 : Nat) (Option.none : Option Jvm.ClassFile.FieldType)).before args0 about1 = true := code_word (m := ⟨7, 6⟩) (meth := k7m6) (c := k7c6) (by decide +kernel) rfl rfl rfl (by decide +kernel)
set_option maxRecDepth 65536 in
theorem w_c12 : (Jvm.Cond.code ({ cls := "java/lang/Object", name := "<init>", desc := "()V" } : Jvm.MethodName) object_method_1_code (1 : Nat) (Option.none : Option Jvm.ClassFile.FieldType)).before args0 about1 = true := code_word (m := ⟨0, 0⟩) (meth := k0m0) (c := k0c0) (by decide +kernel) rfl rfl rfl (by decide +kernel)
set_option maxRecDepth 65536 in
theorem w_c13 : (Jvm.Cond.code ({ cls := "java/lang/StringUTF16", name := "compress", desc := "([CII)[B" } : Jvm.MethodName) jdk_52_method_16_code (6 : Nat) (Option.some (Jvm.ClassFile.FieldType.array Jvm.ClassFile.FieldType.byte))).before args0 about1 = true := code_word (m := ⟨10, 2⟩) (meth := k10m2) (c := k10c2) (by decide +kernel) rfl rfl rfl (by decide +kernel)
set_option maxRecDepth 65536 in
theorem w_c14 : (Jvm.Cond.code ({ cls := "java/lang/StringUTF16", name := "compress", desc := "([CI[BII)I" } : Jvm.MethodName) jdk_52_method_21_code (7 : Nat) (Option.some Jvm.ClassFile.FieldType.int)).before args0 about1 = true := code_word (m := ⟨10, 3⟩) (meth := k10m3) (c := k10c3) (by decide +kernel) rfl rfl rfl (by decide +kernel)
set_option maxRecDepth 65536 in
theorem w_c15 : (Jvm.Cond.code ({ cls := "java/lang/StringUTF16", name := "coderFromArrayLen", desc := "([BI)B" } : Jvm.MethodName) jdk_52_method_15_code (2 : Nat) (Option.some Jvm.ClassFile.FieldType.byte)).before args0 about1 = true := code_word (m := ⟨10, 1⟩) (meth := k10m1) (c := k10c1) (by decide +kernel) rfl rfl rfl (by decide +kernel)
set_option maxRecDepth 65536 in
theorem w_c16 : (Jvm.Cond.code ({ cls := "com/example/vestwright/vestwright/census/Separation$Reason", name := "of", desc := "(Ljava/lang/String;)Lcom/example/vestwright/vestwright/census/Separation$Reason;" } : Jvm.MethodName) prog_9_method_5_code (6 : Nat) (Option.some (Jvm.ClassFile.FieldType.object "com/example/vestwright/vestwright/census/Separation$Reason"))).before args0 about1 = true := code_word (m := ⟨12, 1⟩) (meth := k12m1) (c := k12c1) (by decide +kernel) rfl rfl rfl (by decide +kernel)
set_option maxRecDepth 65536 in
theorem w_c17 : (Jvm.Cond.code ({ cls := "com/example/vestwright/vestwright/census/Separation$Reason", name := "values", desc := "()[Lcom/example/vestwright/vestwright/census/Separation$Reason;" } : Jvm.MethodName) prog_9_method_1_code (0 : Nat) (Option.some (Jvm.ClassFile.FieldType.array (Jvm.ClassFile.FieldType.object "com/example/vestwright/vestwright/census/Separation$Reason")))).before args0 about1 = true := code_word (m := ⟨12, 0⟩) (meth := k12m0) (c := k12c0) (by decide +kernel) rfl rfl rfl (by decide +kernel)
set_option maxRecDepth 65536 in
theorem w_c18 : (Jvm.Cond.code ({ cls := "java/lang/String", name := "equals", desc := "(Ljava/lang/Object;)Z" } : Jvm.MethodName) jdk_42_method_66_code (3 : Nat) (Option.some Jvm.ClassFile.FieldType.boolean)).before args0 about1 = true := code_word (m := ⟨7, 4⟩) (meth := k7m4) (c := k7c4) (by decide +kernel) rfl rfl rfl (by decide +kernel)
set_option maxRecDepth 65536 in
theorem w_c19 : (Jvm.Cond.code ({ cls := "java/lang/StringLatin1", name := "equals", desc := "([B[B)Z" } : Jvm.MethodName) jdk_43_method_13_code (3 : Nat) (Option.some Jvm.ClassFile.FieldType.boolean)).before args0 about1 = true := code_word (m := ⟨8, 3⟩) (meth := k8m3) (c := k8c3) (by decide +kernel) rfl rfl rfl (by decide +kernel)
set_option maxRecDepth 65536 in
theorem w_c20 : (Jvm.Cond.code ({ cls := "com/example/vestwright/vestwright/census/ReasonOfPinLaw", name := "expected", desc := "(Ljava/lang/String;)Lcom/example/vestwright/vestwright/census/Separation$Reason;" } : Jvm.MethodName) method_3_code (1 : Nat) (Option.some (Jvm.ClassFile.FieldType.object "com/example/vestwright/vestwright/census/Separation$Reason"))).before args0 about1 = true := code_word (m := ⟨1, 2⟩) (meth := k1m2) (c := k1c2) (by decide +kernel) rfl rfl rfl (by decide +kernel)
set_option maxRecDepth 65536 in
theorem w_c21 : (Jvm.Cond.code ({ cls := "com/example/vestwright/vestwright/census/ReasonOfPinLaw", name := "drawnString", desc := "(IJ)Ljava/lang/String;" } : Jvm.MethodName) method_8_code (3 : Nat) (Option.some (Jvm.ClassFile.FieldType.object "java/lang/String"))).before args0 about1 = true := code_word (m := ⟨1, 7⟩) (meth := k1m7) (c := k1c7) (by decide +kernel) rfl rfl rfl (by decide +kernel)
set_option maxRecDepth 65536 in
theorem w_c22 : (Jvm.Cond.code ({ cls := "java/lang/String", name := "valueOf", desc := "(C)Ljava/lang/String;" } : Jvm.MethodName) jdk_42_method_139_code (1 : Nat) (Option.some (Jvm.ClassFile.FieldType.object "java/lang/String"))).before args0 about1 = true := code_word (m := ⟨7, 5⟩) (meth := k7m5) (c := k7c5) (by decide +kernel) rfl rfl rfl (by decide +kernel)
set_option maxRecDepth 65536 in
theorem w_c23 : (Jvm.Cond.code ({ cls := "java/lang/StringLatin1", name := "canEncode", desc := "(C)Z" } : Jvm.MethodName) jdk_43_method_3_code (1 : Nat) (Option.some Jvm.ClassFile.FieldType.boolean)).before args0 about1 = true := code_word (m := ⟨8, 2⟩) (meth := k8m2) (c := k8c2) (by decide +kernel) rfl rfl rfl (by decide +kernel)
set_option maxRecDepth 65536 in
theorem w_c24 : (Jvm.Cond.code ({ cls := "java/lang/StringLatin1", name := "toBytes", desc := "(C)[B" } : Jvm.MethodName) jdk_43_method_46_code (1 : Nat) (Option.some (Jvm.ClassFile.FieldType.array Jvm.ClassFile.FieldType.byte))).before args0 about1 = true := code_word (m := ⟨8, 4⟩) (meth := k8m4) (c := k8c4) (by decide +kernel) rfl rfl rfl (by decide +kernel)
set_option maxRecDepth 65536 in
theorem w_c25 : (Jvm.Cond.code ({ cls := "java/lang/String", name := "<init>", desc := "([BB)V" } : Jvm.MethodName) jdk_42_method_151_code (3 : Nat) (Option.none : Option Jvm.ClassFile.FieldType)).before args0 about1 = true := code_word (m := ⟨7, 7⟩) (meth := k7m7) (c := k7c7) (by decide +kernel) rfl rfl rfl (by decide +kernel)
set_option maxRecDepth 65536 in
theorem w_c26 : (Jvm.Cond.code ({ cls := "com/example/vestwright/vestwright/census/ReasonOfPinLaw", name := "longer", desc := "(Ljava/lang/String;C)Ljava/lang/String;" } : Jvm.MethodName) method_6_code (2 : Nat) (Option.some (Jvm.ClassFile.FieldType.object "java/lang/String"))).before args0 about1 = true := code_word (m := ⟨1, 5⟩) (meth := k1m5) (c := k1c5) (by decide +kernel) rfl rfl rfl (by decide +kernel)
set_option maxRecDepth 65536 in
theorem w_c27 : (Jvm.Cond.code ({ cls := "com/example/vestwright/vestwright/census/ReasonOfPinLaw", name := "shorter", desc := "(Ljava/lang/String;)Ljava/lang/String;" } : Jvm.MethodName) method_7_code (1 : Nat) (Option.some (Jvm.ClassFile.FieldType.object "java/lang/String"))).before args0 about1 = true := code_word (m := ⟨1, 6⟩) (meth := k1m6) (c := k1c6) (by decide +kernel) rfl rfl rfl (by decide +kernel)
def codes1 : List Jvm.Cond := [Jvm.Cond.code x code maxLocals ret, Jvm.Cond.code ({ cls := "com/example/vestwright/vestwright/census/ReasonOfPinLaw", name := "copy", desc := "(Ljava/lang/String;IC)Ljava/lang/String;" } : Jvm.MethodName) method_5_code (3 : Nat) (Option.some (Jvm.ClassFile.FieldType.object "java/lang/String")), Jvm.Cond.code ({ cls := "java/lang/String", name := "length", desc := "()I" } : Jvm.MethodName) jdk_42_method_54_code (1 : Nat) (Option.some Jvm.ClassFile.FieldType.int), Jvm.Cond.code ({ cls := "java/lang/String", name := "coder", desc := "()B" } : Jvm.MethodName) jdk_42_method_152_code (1 : Nat) (Option.some Jvm.ClassFile.FieldType.byte), Jvm.Cond.code ({ cls := "com/example/vestwright/vestwright/census/ReasonOfPinLaw", name := "at", desc := "(Ljava/lang/String;IIC)C" } : Jvm.MethodName) method_4_code (4 : Nat) (Option.some Jvm.ClassFile.FieldType.char), Jvm.Cond.code ({ cls := "java/lang/String", name := "charAt", desc := "(I)C" } : Jvm.MethodName) jdk_42_method_56_code (2 : Nat) (Option.some Jvm.ClassFile.FieldType.char), Jvm.Cond.code ({ cls := "java/lang/String", name := "isLatin1", desc := "()Z" } : Jvm.MethodName) jdk_42_method_154_code (1 : Nat) (Option.some Jvm.ClassFile.FieldType.boolean), Jvm.Cond.code ({ cls := "java/lang/StringLatin1", name := "charAt", desc := "([BI)C" } : Jvm.MethodName) jdk_43_method_2_code (2 : Nat) (Option.some Jvm.ClassFile.FieldType.char), Jvm.Cond.code ({ cls := "java/lang/String", name := "checkIndex", desc := "(II)V" } : Jvm.MethodName) jdk_42_method_155_code (2 : Nat) (Option.none : Option Jvm.ClassFile.FieldType), Jvm.Cond.code ({ cls := "jdk/internal/util/Preconditions", name := "checkIndex", desc := "(IILjava/util/function/BiFunction;)I" } : Jvm.MethodName) jdk_41_method_11_code (3 : Nat) (Option.some Jvm.ClassFile.FieldType.int), Jvm.Cond.code ({ cls := "java/lang/String", name := "<init>", desc := "([C)V" } : Jvm.MethodName) jdk_42_method_3_code (2 : Nat) (Option.none : Option Jvm.ClassFile.FieldType), Jvm.Cond.code ({ cls := "java/lang/String", name := "<init>", desc := "([CIILjava/lang/Void;)V" } : Jvm.MethodName) jdk_42_method_149_code (6 : Nat) (Option.none : Option Jvm.ClassFile.FieldType), Jvm.Cond.code ({ cls := "java/lang/Object", name := "<init>", desc := "()V" } : Jvm.MethodName) object_method_1_code (1 : Nat) (Option.none : Option Jvm.ClassFile.FieldType), Jvm.Cond.code ({ cls := "java/lang/StringUTF16", name := "compress", desc := "([CII)[B" } : Jvm.MethodName) jdk_52_method_16_code (6 : Nat) (Option.some (Jvm.ClassFile.FieldType.array Jvm.ClassFile.FieldType.byte)), Jvm.Cond.code ({ cls := "java/lang/StringUTF16", name := "compress", desc := "([CI[BII)I" } : Jvm.MethodName) jdk_52_method_21_code (7 : Nat) (Option.some Jvm.ClassFile.FieldType.int), Jvm.Cond.code ({ cls := "java/lang/StringUTF16", name := "coderFromArrayLen", desc := "([BI)B" } : Jvm.MethodName) jdk_52_method_15_code (2 : Nat) (Option.some Jvm.ClassFile.FieldType.byte), Jvm.Cond.code ({ cls := "com/example/vestwright/vestwright/census/Separation$Reason", name := "of", desc := "(Ljava/lang/String;)Lcom/example/vestwright/vestwright/census/Separation$Reason;" } : Jvm.MethodName) prog_9_method_5_code (6 : Nat) (Option.some (Jvm.ClassFile.FieldType.object "com/example/vestwright/vestwright/census/Separation$Reason")), Jvm.Cond.code ({ cls := "com/example/vestwright/vestwright/census/Separation$Reason", name := "values", desc := "()[Lcom/example/vestwright/vestwright/census/Separation$Reason;" } : Jvm.MethodName) prog_9_method_1_code (0 : Nat) (Option.some (Jvm.ClassFile.FieldType.array (Jvm.ClassFile.FieldType.object "com/example/vestwright/vestwright/census/Separation$Reason"))), Jvm.Cond.code ({ cls := "java/lang/String", name := "equals", desc := "(Ljava/lang/Object;)Z" } : Jvm.MethodName) jdk_42_method_66_code (3 : Nat) (Option.some Jvm.ClassFile.FieldType.boolean), Jvm.Cond.code ({ cls := "java/lang/StringLatin1", name := "equals", desc := "([B[B)Z" } : Jvm.MethodName) jdk_43_method_13_code (3 : Nat) (Option.some Jvm.ClassFile.FieldType.boolean), Jvm.Cond.code ({ cls := "com/example/vestwright/vestwright/census/ReasonOfPinLaw", name := "expected", desc := "(Ljava/lang/String;)Lcom/example/vestwright/vestwright/census/Separation$Reason;" } : Jvm.MethodName) method_3_code (1 : Nat) (Option.some (Jvm.ClassFile.FieldType.object "com/example/vestwright/vestwright/census/Separation$Reason")), Jvm.Cond.code ({ cls := "com/example/vestwright/vestwright/census/ReasonOfPinLaw", name := "drawnString", desc := "(IJ)Ljava/lang/String;" } : Jvm.MethodName) method_8_code (3 : Nat) (Option.some (Jvm.ClassFile.FieldType.object "java/lang/String")), Jvm.Cond.code ({ cls := "java/lang/String", name := "valueOf", desc := "(C)Ljava/lang/String;" } : Jvm.MethodName) jdk_42_method_139_code (1 : Nat) (Option.some (Jvm.ClassFile.FieldType.object "java/lang/String")), Jvm.Cond.code ({ cls := "java/lang/StringLatin1", name := "canEncode", desc := "(C)Z" } : Jvm.MethodName) jdk_43_method_3_code (1 : Nat) (Option.some Jvm.ClassFile.FieldType.boolean), Jvm.Cond.code ({ cls := "java/lang/StringLatin1", name := "toBytes", desc := "(C)[B" } : Jvm.MethodName) jdk_43_method_46_code (1 : Nat) (Option.some (Jvm.ClassFile.FieldType.array Jvm.ClassFile.FieldType.byte)), Jvm.Cond.code ({ cls := "java/lang/String", name := "<init>", desc := "([BB)V" } : Jvm.MethodName) jdk_42_method_151_code (3 : Nat) (Option.none : Option Jvm.ClassFile.FieldType), Jvm.Cond.code ({ cls := "com/example/vestwright/vestwright/census/ReasonOfPinLaw", name := "longer", desc := "(Ljava/lang/String;C)Ljava/lang/String;" } : Jvm.MethodName) method_6_code (2 : Nat) (Option.some (Jvm.ClassFile.FieldType.object "java/lang/String")), Jvm.Cond.code ({ cls := "com/example/vestwright/vestwright/census/ReasonOfPinLaw", name := "shorter", desc := "(Ljava/lang/String;)Ljava/lang/String;" } : Jvm.MethodName) method_7_code (1 : Nat) (Option.some (Jvm.ClassFile.FieldType.object "java/lang/String"))]
set_option maxRecDepth 65536 in
theorem codes_eq : words1.filter isCode = codes1 := rfl
theorem w_codes : ∀ c ∈ words1.filter isCode, c.before args0 about1 = true := by
  rw [codes_eq]
  intro c hc
  simp only [codes1, List.mem_cons, List.not_mem_nil, or_false] at hc
  rcases hc with rfl | rfl | rfl | rfl | rfl | rfl | rfl | rfl | rfl | rfl | rfl | rfl | rfl | rfl | rfl | rfl | rfl | rfl | rfl | rfl | rfl | rfl | rfl | rfl | rfl | rfl | rfl | rfl
  · exact w_c0
  · exact w_c1
  · exact w_c2
  · exact w_c3
  · exact w_c4
  · exact w_c5
  · exact w_c6
  · exact w_c7
  · exact w_c8
  · exact w_c9
  · exact w_c10
  · exact w_c11
  · exact w_c12
  · exact w_c13
  · exact w_c14
  · exact w_c15
  · exact w_c16
  · exact w_c17
  · exact w_c18
  · exact w_c19
  · exact w_c20
  · exact w_c21
  · exact w_c22
  · exact w_c23
  · exact w_c24
  · exact w_c25
  · exact w_c26
  · exact w_c27
set_option maxRecDepth 65536 in
theorem w_t1 : (words1.take 24).all (fun c => isCode c || c.before args0 about1) = true := by decide +kernel
set_option maxRecDepth 65536 in
theorem w_t2 : ((words1.drop 24).take 24).all (fun c => isCode c || c.before args0 about1) = true := by decide +kernel
set_option maxRecDepth 65536 in
theorem w_t3 : (((words1.drop 24).drop 24).take 24).all (fun c => isCode c || c.before args0 about1) = true := by decide +kernel
set_option maxRecDepth 65536 in
theorem w_t4 : ((((words1.drop 24).drop 24).drop 24).take 24).all (fun c => isCode c || c.before args0 about1) = true := by decide +kernel
set_option maxRecDepth 65536 in
theorem w_t5 : (((((words1.drop 24).drop 24).drop 24).drop 24).take 24).all (fun c => isCode c || c.before args0 about1) = true := by decide +kernel
set_option maxRecDepth 65536 in
theorem w_t6 : (((((words1.drop 24).drop 24).drop 24).drop 24).drop 24).all (fun c => isCode c || c.before args0 about1) = true := by decide +kernel
theorem w_tables : (allAtoms (Jvm.Cond.code x code maxLocals ret :: tables_1)).before args0 about1 = true := by
  rw [allAtoms_all]
  show words1.all (fun c => c.before args0 about1) = true
  refine all_split ?_ w_codes
  rw [← List.take_append_drop 24 words1, List.all_append, w_t1, ← List.take_append_drop 24 (words1.drop 24), List.all_append, w_t2, ← List.take_append_drop 24 ((words1.drop 24).drop 24), List.all_append, w_t3, ← List.take_append_drop 24 (((words1.drop 24).drop 24).drop 24), List.all_append, w_t4, ← List.take_append_drop 24 ((((words1.drop 24).drop 24).drop 24).drop 24), List.all_append, w_t5, w_t6]
  rfl
set_option maxRecDepth 65536 in
theorem w_rest : rest_1_c.before args0 about1 = true := by decide +kernel
set_option maxRecDepth 65536 in
theorem w_case : (Jvm.Cond.and given_1 narrow_1).before args0 about1 = true := by decide +kernel
set_option maxRecDepth 65536 in
theorem w_consts : constsHeld consts_1 about1 := Jvm.Lit.constsHeldB_iff.mp (by decide +kernel)
theorem w_applies : (headSpec (Jvm.Cond.code x code maxLocals ret :: tables_1) room_1).applies x e0.platform about1 = true :=
  (Spec.applies_iff w_frames).mpr ⟨w_running, w_runnable, w_alone, w_named, w_hears, w_ripe, w_room, w_tables⟩
theorem atStart : AtStart classFile x code maxLocals ret World_1 tables_1 room_1 Calls_1 rest_1 Pre_1 launch0 p0 e0 about1 theMethod args0 below0 :=
  ⟨lists_1, trivial, launch0.admits_env _ _ _, launch0.least_env, fairChoices_fair.cas, fairChoices_fair.clock, w_frames, w_args, w_heap, w_applies, ⟨w_consts, trivial⟩, w_rest, w_case⟩
end start1
theorem witness_1 : WitnessClaimed_1 := ⟨start1.p0, start1.e0, start1.about1, start1.theMethod, start1.args0, start1.below0, start1.atStart⟩
end Jvm.Pilot.@@N@@
