import JvmDerived
import JvmDerived.Pilot.@@N@@Statement
import JvmDerived.Pilot.@@N@@Code
set_option linter.unusedVariables false
set_option linter.unusedSimpArgs false
namespace Jvm.RoadKit
open Sem ClassFile Op Lib Jvm.Stand Jvm.Free Jvm.LawKit
section New
variable {p : Program} {l : Launch} {e : Env} {R : Room} {s : State} {m : MethodId} {args : Array Value} {below : List Frame} {meth : Method} {c : Code} {T : State} {locs : List Loc} {cells slots : Nat}
theorem retI (X : Stand p l e R s m args below meth c T locs cells slots) (hx : p.tables.exec = Jvm.exec) {pc : Nat} {Ls : Array Slot} {z : Int32} {rest : List Value} (hret : meth.sig.returnType = some .int) (hd : decode c.code pc = .ok (.ireturn, 1)) {fs : List Frame}
    (hl : ∀ (f : JFrame) (acts : List Action), f.method = m → f.locked = none → f.entered = [] → (doReturn e (T.setTop f) acts (some (.int z))).1 = T.setFrames fs) : Steps p.tables e below (T.setTop (mkF m pc Ls (.int z :: rest))) (T.setFrames fs) := by
  have hm' : T.vm.method? m = some meth := X.method'
  have hn : narrow .int (.int z) = .int z := rfl
  show Steps p.tables e below (T.setTop { method := m, pc := pc, locals := Ls, stack := _ :: rest, locked := none }) _
  jvm_step X.here [X.here.top, hx, hd, hm', hret, hn]
  first | (intro acts; rw [hl _ acts rfl rfl rfl]) | rw [hl _ _ rfl rfl rfl]
  exact Steps.refl _
end New
end Jvm.RoadKit
/- laws to paste: Road.backV, pair_says, chr8_lo8, Road.wide_lo, Road.wide_hi, Road.low_at, shr1 (cut by pick.py; bodies as the Statement names them) -/
namespace Jvm.Pilot.@@N@@
namespace StrChars
open Jvm Sem ClassFile Op Lib Jvm.Stand Jvm.Free.XT Jvm.Free.ALB Jvm.Free.JM Jvm.Free
open Jvm.Lib.Cold (StaticIs)
/-- a char array whose places are chars -/
def Ch (a : Addr) (A : Cell) (U : State) : Prop := Arr .char a A U ∧ Typed .char A
theorem Ch.mv {a : Addr} {A : Cell} {U U' : State} (h : Ch a A U) (hal : U.vm.Alike U'.vm) (hh : U'.heap = U.heap) : Ch a A U' := ⟨h.1.mv hal hh, h.2⟩
theorem Ch.keep {a : Addr} {A : Cell} {U U' : State} (h : Ch a A U) (hal : U.vm.Alike U'.vm) (hk : U'.heap[a]? = some A) : Ch a A U' := ⟨h.1.keep hal hk, h.2⟩
/-- what place i of a char[]'s cell holds -/
def cv (A : Cell) (i : Nat) : Int32 := match A.slots[i]? with | some (.int x) => x | _ => 0
theorem Ch.get {a : Addr} {A : Cell} {U : State} (h : Ch a A U) {i : Nat} (hi : i < A.slots.size) : A.slots[i]? = some (.int (cv A i)) := by
  have e := Array.getElem?_eq_getElem hi
  have f := h.2 i _ e
  unfold cv; rw [e]
  generalize A.slots[i] = v at f
  cases v <;> simp [fits] at f ⊢
/-- the byte that i2b leaves of a char -/
def lo8 (x : Int32) : Int32 := x.toInt8.toInt32
theorem fits_lo8 (y : Int32) : fits .byte (.int (lo8 y)) = true := by
  have h1 := y.toInt8.le_toInt
  have h2 := y.toInt8.toInt_lt
  simp only [lo8, fits, Bool.and_eq_true, decide_eq_true_eq, Int32.le_iff_toInt_le, Int8.toInt_toInt32, show (-128 : Int32).toInt = -128 from by decide, show (127 : Int32).toInt = 127 from by decide]
  omega
/-- A' is A but that each place j of lo .. hi - 1 holds f j -/
def Laid (A A' : Cell) (lo hi : Nat) (f : Nat → Value) : Prop := A'.cls = A.cls ∧ A'.vm = A.vm ∧ A'.slots.size = A.slots.size ∧ ∀ i, A'.slots[i]? = if lo ≤ i ∧ i < hi then some (f i) else A.slots[i]?
theorem Laid.zero (A : Cell) (lo : Nat) (f : Nat → Value) : Laid A A lo (lo + 0) f := ⟨rfl, rfl, rfl, fun i => by rw [if_neg (by omega)]⟩
theorem Laid.step {A Ak : Cell} {lo k : Nat} {f : Nat → Value} {v : Value} (h : Laid A Ak lo k f) (hlo : lo ≤ k) (hk : k < Ak.slots.size) (hv : v = f k) : Laid A (Ak.setSlot k v) lo (k + 1) f := by
  refine ⟨h.1, h.2.1, by simpa [Cell.setSlot] using h.2.2.1, fun i => ?_⟩
  by_cases e : k = i
  · subst e; rw [Cell.slots_setSlot_self v hk, if_pos (by omega), hv]
  · rw [Cell.slots_setSlot_ne v e, h.2.2.2 i]
    by_cases q : lo ≤ i ∧ i < k
    · rw [if_pos q, if_pos (by omega)]
    · rw [if_neg q, if_neg (by omega)]
def U16 : String := "java/lang/StringUTF16"
namespace Cmp5
def yN : MethodName := ⟨"java/lang/StringUTF16", "compress", "([CI[BII)I"⟩
abbrev yB : ByteArray := jdk_52_method_21_code
theorem d0 : decode yB 0 = .ok (.iconst 0, 1) := by decide +kernel
theorem d1 : decode yB 1 = .ok (.istore 5, 2) := by decide +kernel
theorem d3 : decode yB 3 = .ok (.iload 5, 2) := by decide +kernel
theorem d5 : decode yB 5 = .ok (.iload 4, 2) := by decide +kernel
theorem d7 : decode yB 7 = .ok (.if_icmp (.ge) 37, 3) := by decide +kernel
theorem d10 : decode yB 10 = .ok (.aload_n 0, 1) := by decide +kernel
theorem d11 : decode yB 11 = .ok (.iload_n 1, 1) := by decide +kernel
theorem d12 : decode yB 12 = .ok (.caload, 1) := by decide +kernel
theorem d13 : decode yB 13 = .ok (.istore 6, 2) := by decide +kernel
theorem d15 : decode yB 15 = .ok (.iload 6, 2) := by decide +kernel
theorem d17 : decode yB 17 = .ok (.sipush 255, 3) := by decide +kernel
theorem d20 : decode yB 20 = .ok (.if_icmp (.le) 6, 3) := by decide +kernel
theorem d26 : decode yB 26 = .ok (.aload_n 2, 1) := by decide +kernel
theorem d27 : decode yB 27 = .ok (.iload_n 3, 1) := by decide +kernel
theorem d28 : decode yB 28 = .ok (.iload 6, 2) := by decide +kernel
theorem d30 : decode yB 30 = .ok (.i2b, 1) := by decide +kernel
theorem d31 : decode yB 31 = .ok (.bastore, 1) := by decide +kernel
theorem d32 : decode yB 32 = .ok (.iinc 1 1, 3) := by decide +kernel
theorem d35 : decode yB 35 = .ok (.iinc 3 1, 3) := by decide +kernel
theorem d38 : decode yB 38 = .ok (.iinc 5 1, 3) := by decide +kernel
theorem d41 : decode yB 41 = .ok (.goto (-38), 3) := by decide +kernel
theorem d44 : decode yB 44 = .ok (.iload 4, 2) := by decide +kernel
theorem d46 : decode yB 46 = .ok (.ireturn, 1) := by decide +kernel
def site : List Cond := []
def tab : Cond := tabOf yN yB 7 (some .int) site
def P (b : Addr) (A : Cell) (d : Addr) (B : Cell) (o q len : Nat) (args : Array Value) (s : State) : Prop := args = #[.ref b, .int (Int32.ofNat o), .ref d, .int (Int32.ofNat q), .int (Int32.ofNat len)] ∧ Ch b A s ∧ Arr .byte d B s ∧ b ≠ d ∧ o + len ≤ A.slots.size ∧ q + len ≤ B.slots.size ∧ ∀ i, i < len → ¬ 255 < cv A (o + i)
def E (b : Addr) (A : Cell) (d : Addr) (B : Cell) (o q len : Nat) (r : Option Value) (s u : State) : Prop := r = some (.int (Int32.ofNat len)) ∧ ∃ B', Put d B' s u ∧ Laid B B' q (q + len) (fun j => Value.int (lo8 (cv A (o + (j - q)))))
/-- no char of the range above 255: len; the places written hold each char's low byte -/
theorem law (l : Launch) (b : Addr) (A : Cell) (d : Addr) (B : Cell) (o q len : Nat) : Law l yN 5 5 0 0 yB 7 (some .int) site (P b A d B o q len) (E b A d B o q len) (copyLocs d q len) 0 0 := by
  refine Law.of_walk (plainFor_of_name (by decide +kernel)) (by decide +kernel) (by decide +kernel) (by decide) (fun _ _ h => by rw [h.1]; rfl) (fun _ U U' hal hh h => ⟨h.1, h.2.1.mv hal hh, h.2.2.1.mv hal hh, h.2.2.2⟩) (fun r U U' V V' h1 hal h2 h => ⟨h.1, h.2.elim fun B' q => ⟨B', q.1.mv h1 h2, q.2⟩⟩) ?_
  intro p e s m args below meth c s₁ X0 hexec hbytes hml hret hlk hnm hown hh0 W hP
  obtain ⟨rfl, hA, hB, hne, l1, l2, hp⟩ := hP
  have c1 : Steps p.tables e below (s₁.setTop (entryFrame m #[.ref b, .int (Int32.ofNat o), .ref d, .int (Int32.ofNat q), .int (Int32.ofNat len)] 7)) (s₁.setTop (mkF m 0 #[.val (.ref b), .val (.int (Int32.ofNat o)), .val (.ref d), .val (.int (Int32.ofNat q)), .val (.int (Int32.ofNat len)), .unset, .unset] [])) := entry rfl
  have hA0 := hA.1.mv X0.warmed.alike hh0
  have hB0 := hB.mv X0.warmed.alike hh0
  have a31 := hA.1.2.2.2
  have c2 : Steps p.tables e below (s₁.setTop (entryFrame m #[.ref b, .int (Int32.ofNat o), .ref d, .int (Int32.ofNat q), .int (Int32.ofNat len)] 7)) (s₁.setTop (mkF m 3 #[.val (.ref b), .val (.int (Int32.ofNat o)), .val (.ref d), .val (.int (Int32.ofNat q)), .val (.int (Int32.ofNat len)), .val (.int 0), .unset] [])) := c1.trans (by
    refine iconstV X0.here hexec rfl 0 (hb hbytes d0) (by decide) ?_
    refine XS.istore X0.here hexec rfl (hb hbytes d1) rfl rfl ?_
    exact Steps.refl _)
  have loop : ∀ (r i : Nat), i + r = len → ∀ (z : Slot), (z = .unset ∨ ∃ w, z = .val w ∧ w.category = 1) → ∀ (Tl : State) (Bk : Cell), Stand p l e { frames := 0, locals := 0, cells := 0, slots := 0 } s m #[.ref b, .int (Int32.ofNat o), .ref d, .int (Int32.ofNat q), .int (Int32.ofNat len)] below meth c Tl ([] ++ copyLocs d q i) 0 0 → Put d Bk s₁ Tl → Laid B Bk q (q + i) (fun j => Value.int (lo8 (cv A (o + (j - q))))) →
      Steps p.tables e below (s₁.setTop (entryFrame m #[.ref b, .int (Int32.ofNat o), .ref d, .int (Int32.ofNat q), .int (Int32.ofNat len)] 7)) (Tl.setTop (mkF m 3 #[.val (.ref b), .val (.int (Int32.ofNat (o + i))), .val (.ref d), .val (.int (Int32.ofNat (q + i))), .val (.int (Int32.ofNat len)), .val (.int (Int32.ofNat i)), z] [])) → ∃ (T' : State) (B' : Cell) (z' : Slot), Stand p l e { frames := 0, locals := 0, cells := 0, slots := 0 } s m #[.ref b, .int (Int32.ofNat o), .ref d, .int (Int32.ofNat q), .int (Int32.ofNat len)] below meth c T' ([] ++ copyLocs d q len) 0 0 ∧ Put d B' s₁ T' ∧ Laid B B' q (q + len) (fun j => Value.int (lo8 (cv A (o + (j - q))))) ∧
      Steps p.tables e below (s₁.setTop (entryFrame m #[.ref b, .int (Int32.ofNat o), .ref d, .int (Int32.ofNat q), .int (Int32.ofNat len)] 7)) (T'.setTop (mkF m 3 #[.val (.ref b), .val (.int (Int32.ofNat (o + len))), .val (.ref d), .val (.int (Int32.ofNat (q + len))), .val (.int (Int32.ofNat len)), .val (.int (Int32.ofNat len)), z'] [])) := by
    intro r
    induction r with
    | zero =>
      intro i hi z hz Tl Bk Xl pl fl cl
      have hil : i = len := by omega
      rw [hil] at Xl fl cl
      exact ⟨Tl, Bk, z, Xl, pl, fl, cl⟩
    | succ r ih =>
      intro i hi z hz Tl Bk Xl pl fl cl
      have all := X0.warmed.alike.symm.trans Xl.warmed.alike
      have hAl := hA0.keep all (pl.other hne hA0.1)
      have hBk := hB0.like all pl.1 fl.1 fl.2.1 fl.2.2.1
      have hlt : q + i < Bk.slots.size := by rw [fl.2.2.1]; omega
      have c3 : Steps p.tables e below (s₁.setTop (entryFrame m #[.ref b, .int (Int32.ofNat o), .ref d, .int (Int32.ofNat q), .int (Int32.ofNat len)] 7)) (Tl.setTop (mkF m 12 #[.val (.ref b), .val (.int (Int32.ofNat (o + i))), .val (.ref d), .val (.int (Int32.ofNat (q + i))), .val (.int (Int32.ofNat len)), .val (.int (Int32.ofNat i)), z] [.int (Int32.ofNat (o + i)), .ref b])) := cl.trans (by
        refine XS.iload Xl.here hexec rfl (hb hbytes d3) rfl ?_
        refine XS.iload Xl.here hexec rfl (hb hbytes d5) rfl ?_
        refine XS.icmpNo Xl.here hexec rfl (hb hbytes d7) rfl (ii_ge_f (lt32 (by omega) (by omega))) ?_
        refine XS.aloadN Xl.here hexec rfl (hb hbytes d10) rfl rfl ?_
        refine XS.iloadN Xl.here hexec rfl (hb hbytes d11) rfl ?_
        exact Steps.refl _)
      have c4 : Steps p.tables e below (s₁.setTop (entryFrame m #[.ref b, .int (Int32.ofNat o), .ref d, .int (Int32.ofNat q), .int (Int32.ofNat len)] 7)) (Tl.setTop (mkF m 13 #[.val (.ref b), .val (.int (Int32.ofNat (o + i))), .val (.ref d), .val (.int (Int32.ofNat (q + i))), .val (.int (Int32.ofNat len)), .val (.int (Int32.ofNat i)), z] [.int (cv A (o + i))])) := c3.trans (by
        refine Xl.aget hexec hAl rfl (hA.get (i := o + i) (by omega)) rfl rfl (hb hbytes d12) ?_
        exact Steps.refl _)
      have c5 : Steps p.tables e below (s₁.setTop (entryFrame m #[.ref b, .int (Int32.ofNat o), .ref d, .int (Int32.ofNat q), .int (Int32.ofNat len)] 7)) (Tl.setTop (mkF m 15 #[.val (.ref b), .val (.int (Int32.ofNat (o + i))), .val (.ref d), .val (.int (Int32.ofNat (q + i))), .val (.int (Int32.ofNat len)), .val (.int (Int32.ofNat i)), .val (.int (cv A (o + i)))] [])) := c4.trans (by
        refine XS.istoreS Xl.here hexec rfl (hb hbytes d13) rfl rfl hz ?_
        exact Steps.refl _)
      have c6 : Steps p.tables e below (s₁.setTop (entryFrame m #[.ref b, .int (Int32.ofNat o), .ref d, .int (Int32.ofNat q), .int (Int32.ofNat len)] 7)) (Tl.setTop (mkF m 31 #[.val (.ref b), .val (.int (Int32.ofNat (o + i))), .val (.ref d), .val (.int (Int32.ofNat (q + i))), .val (.int (Int32.ofNat len)), .val (.int (Int32.ofNat i)), .val (.int (cv A (o + i)))] [.int (lo8 (cv A (o + i))), .int (Int32.ofNat (q + i)), .ref d])) := c5.trans (by
        refine XS.iload Xl.here hexec rfl (hb hbytes d15) rfl ?_
        refine sipushV Xl.here hexec rfl 255 (hb hbytes d17) (by decide) ?_
        refine XS.icmpYes Xl.here hexec rfl (pc0 := 20) rfl (hb hbytes d20) rfl (ii_le_t (hp i (by omega))) (by decide) rfl ?_
        refine XS.aloadN Xl.here hexec rfl (hb hbytes d26) rfl rfl ?_
        refine XS.iloadN Xl.here hexec rfl (hb hbytes d27) rfl ?_
        refine XS.iload Xl.here hexec rfl (hb hbytes d28) rfl ?_
        refine i2b Xl.here hexec rfl (hb hbytes d30) rfl ?_
        exact Steps.refl _)
      obtain ⟨T7, X7, p7, st7⟩ := Xl.aput hexec hBk rfl hlt rfl (fits_lo8 (cv A (o + i))) (g := (mkF m 31 #[.val (.ref b), .val (.int (Int32.ofNat (o + i))), .val (.ref d), .val (.int (Int32.ofNat (q + i))), .val (.int (Int32.ofNat len)), .val (.int (Int32.ofNat i)), .val (.int (cv A (o + i)))] [.int (lo8 (cv A (o + i))), .int (Int32.ofNat (q + i)), .ref d])) rfl (rest := []) rfl (hb hbytes d31)
      have c8 : Steps p.tables e below (s₁.setTop (entryFrame m #[.ref b, .int (Int32.ofNat o), .ref d, .int (Int32.ofNat q), .int (Int32.ofNat len)] 7)) (T7.setTop (mkF m 32 #[.val (.ref b), .val (.int (Int32.ofNat (o + i))), .val (.ref d), .val (.int (Int32.ofNat (q + i))), .val (.int (Int32.ofNat len)), .val (.int (Int32.ofNat i)), .val (.int (cv A (o + i)))] [])) := c6.trans (st7 _ (Steps.refl _))
      have c9 : Steps p.tables e below (s₁.setTop (entryFrame m #[.ref b, .int (Int32.ofNat o), .ref d, .int (Int32.ofNat q), .int (Int32.ofNat len)] 7)) (T7.setTop (mkF m 3 #[.val (.ref b), .val (.int (Int32.ofNat (o + i) + 1)), .val (.ref d), .val (.int (Int32.ofNat (q + i) + 1)), .val (.int (Int32.ofNat len)), .val (.int (Int32.ofNat i + 1)), .val (.int (cv A (o + i)))] [])) := c8.trans (by
        refine iincV X7.here hexec rfl 1 (hb hbytes d32) (by decide) rfl rfl ?_
        refine iincV X7.here hexec rfl 1 (hb hbytes d35) (by decide) rfl rfl ?_
        refine iincV X7.here hexec rfl 1 (hb hbytes d38) (by decide) rfl rfl ?_
        refine XS.goto X7.here hexec rfl (pc0 := 41) rfl (hb hbytes d41) (by decide) rfl ?_
        exact Steps.refl _)
      have c10 : Steps p.tables e below (s₁.setTop (entryFrame m #[.ref b, .int (Int32.ofNat o), .ref d, .int (Int32.ofNat q), .int (Int32.ofNat len)] 7)) (T7.setTop (mkF m 3 #[.val (.ref b), .val (.int (Int32.ofNat (o + (i + 1)))), .val (.ref d), .val (.int (Int32.ofNat (q + (i + 1)))), .val (.int (Int32.ofNat len)), .val (.int (Int32.ofNat (i + 1))), .val (.int (cv A (o + i)))] [])) := by
        have := c9
        rw [succ32, succ32, succ32] at this
        exact this
      exact ih (i + 1) (by omega) _ (Or.inr ⟨_, rfl, rfl⟩) T7 _ (by rw [copyLocs_step, ← List.append_assoc]; exact X7) (pl.trans p7) (fl.step (by omega) hlt (by simp)) c10
  obtain ⟨T9, B9, z9, X9, p9, f9, g9⟩ := loop len 0 (by omega) .unset (Or.inl rfl) s₁ B (by simpa [copyLocs] using X0) ⟨hB0.1, fun _ _ => rfl, rfl⟩ (Laid.zero _ _ _) c2
  have c11 : Steps p.tables e below (s₁.setTop (entryFrame m #[.ref b, .int (Int32.ofNat o), .ref d, .int (Int32.ofNat q), .int (Int32.ofNat len)] 7)) (T9.setTop (mkF m 46 #[.val (.ref b), .val (.int (Int32.ofNat (o + len))), .val (.ref d), .val (.int (Int32.ofNat (q + len))), .val (.int (Int32.ofNat len)), .val (.int (Int32.ofNat len)), z9] [.int (Int32.ofNat len)])) := g9.trans (by
    refine XS.iload X9.here hexec rfl (hb hbytes d3) rfl ?_
    refine XS.iload X9.here hexec rfl (hb hbytes d5) rfl ?_
    refine XS.icmpYes X9.here hexec rfl (pc0 := 7) rfl (hb hbytes d7) rfl (ii_ge_t (nlt32 (by omega) (Nat.le_refl _))) (by decide) rfl ?_
    refine XS.iload X9.here hexec rfl (hb hbytes d44) rfl ?_
    exact Steps.refl _)
  exact ⟨T9, some (.int (Int32.ofNat len)), _, _, _, X9, by simp, rfl, rfl, (fun h => by cases h), ⟨rfl, B9, p9.from hh0, f9⟩, fun fs hl => c11.trans (X9.ireturnOut hexec hret rfl (Or.inl rfl) (hb hbytes d46) hl)⟩
end Cmp5
namespace Cmp3
def yN : MethodName := ⟨"java/lang/StringUTF16", "compress", "([CII)[B"⟩
abbrev yB : ByteArray := jdk_52_method_16_code
theorem d0 : decode yB 0 = .ok (.iload_n 2, 1) := by decide +kernel
theorem d1 : decode yB 1 = .ok (.newarray .byte, 2) := by decide +kernel
theorem d3 : decode yB 3 = .ok (.astore_n 3, 1) := by decide +kernel
theorem d4 : decode yB 4 = .ok (.aload_n 0, 1) := by decide +kernel
theorem d5 : decode yB 5 = .ok (.iload_n 1, 1) := by decide +kernel
theorem d6 : decode yB 6 = .ok (.aload_n 3, 1) := by decide +kernel
theorem d7 : decode yB 7 = .ok (.iconst 0, 1) := by decide +kernel
theorem d8 : decode yB 8 = .ok (.iload_n 2, 1) := by decide +kernel
theorem d9 : decode yB 9 = .ok (.invokestatic 115, 3) := by decide +kernel
theorem d12 : decode yB 12 = .ok (.istore 4, 2) := by decide +kernel
theorem d14 : decode yB 14 = .ok (.iload 4, 2) := by decide +kernel
theorem d16 : decode yB 16 = .ok (.iload_n 2, 1) := by decide +kernel
theorem d17 : decode yB 17 = .ok (.if_icmp (.eq) 40, 3) := by decide +kernel
theorem d57 : decode yB 57 = .ok (.aload_n 3, 1) := by decide +kernel
theorem d58 : decode yB 58 = .ok (.areturn, 1) := by decide +kernel
def site : List Cond := [.arrayClass .byte, Cmp5.tab] ++ staticW U16 115 Cmp5.yN
def tab : Cond := tabOf yN yB 6 (some (.array .byte)) site
def P (b : Addr) (A : Cell) (o len : Nat) (args : Array Value) (s : State) : Prop := args = #[.ref b, .int (Int32.ofNat o), .int (Int32.ofNat len)] ∧ Ch b A s ∧ o + len ≤ A.slots.size ∧ len ≤ 536870912 ∧ ∀ i, i < len → ¬ 255 < cv A (o + i)
def E (b : Addr) (A : Cell) (o len : Nat) (r : Option Value) (s u : State) : Prop := NewArr .byte "[B" len (fun j => .int (lo8 (cv A (o + j)))) r s u ∧ u.heap.size = s.heap.size + 1
/-- no char of the range above 255: a new byte[] of their low bytes -/
theorem law (l : Launch) (b : Addr) (A : Cell) (o len : Nat) : Law l yN 3 3 1 18 yB 6 (some (.array .byte)) site (P b A o len) (E b A o len) [] 1 len := by
  refine Law.of_walk (plainFor_of_name (by decide +kernel)) (by decide +kernel) (by decide +kernel) (by decide) (fun _ _ h => by rw [h.1]; rfl) (fun _ U U' hal hh h => ⟨h.1, h.2.1.mv hal hh, h.2.2⟩) (fun r U U' V V' h1 hal h2 h => ⟨NewArr.mv r U U' V V' h1 hal h2 h.1, by rw [h1, h2]; exact h.2⟩) ?_
  intro p e s m args below meth c s₁ X0 hexec hbytes hml hret hlk hnm hown hh0 W hP
  obtain ⟨rfl, hA, l1, l2, hp⟩ := hP
  have a31 := hA.1.2.2.2
  have c1 : Steps p.tables e below (s₁.setTop (entryFrame m #[.ref b, .int (Int32.ofNat o), .int (Int32.ofNat len)] 6)) (s₁.setTop (mkF m 0 #[.val (.ref b), .val (.int (Int32.ofNat o)), .val (.int (Int32.ofNat len)), .unset, .unset, .unset] [])) := entry rfl
  have c2 : Steps p.tables e below (s₁.setTop (entryFrame m #[.ref b, .int (Int32.ofNat o), .int (Int32.ofNat len)] 6)) (s₁.setTop (mkF m 1 #[.val (.ref b), .val (.int (Int32.ofNat o)), .val (.int (Int32.ofNat len)), .unset, .unset, .unset] [.int (Int32.ofNat len)])) := c1.trans (by
    refine XS.iloadN X0.here hexec rfl (hb hbytes d0) rfl ?_
    exact Steps.refl _)
  obtain ⟨T3, B3, X3, ba3, bs3, bv3, bh3, bf3, st3⟩ := X0.anew hexec (atype := .byte) (wk W (.arrayClass .byte)) rfl (by show len * 1 ≤ _; omega) (by omega) (g := (mkF m 1 #[.val (.ref b), .val (.int (Int32.ofNat o)), .val (.int (Int32.ofNat len)), .unset, .unset, .unset] [.int (Int32.ofNat len)])) rfl (hb hbytes d1) (rest := []) rfl (Nat.le_refl _) (by show 0 + len ≤ len; omega)
  rw [hh0] at ba3 st3
  have kp3 : XT.Kept s T3 := (XT.Kept.of_eq hh0).push bh3
  have hA3 := hA.keep X3.warmed.alike (kp3 _ _ hA.1.1)
  have hne : b ≠ s.heap.size := hA.1.ne
  have c4 : Steps p.tables e below (s₁.setTop (entryFrame m #[.ref b, .int (Int32.ofNat o), .int (Int32.ofNat len)] 6)) (T3.setTop (mkF m 3 #[.val (.ref b), .val (.int (Int32.ofNat o)), .val (.int (Int32.ofNat len)), .unset, .unset, .unset] [.ref s.heap.size])) := c2.trans (st3 _ (Steps.refl _))
  have c5 : Steps p.tables e below (s₁.setTop (entryFrame m #[.ref b, .int (Int32.ofNat o), .int (Int32.ofNat len)] 6)) (T3.setTop (mkF m 9 #[.val (.ref b), .val (.int (Int32.ofNat o)), .val (.int (Int32.ofNat len)), .val (.ref s.heap.size), .unset, .unset] [.int (Int32.ofNat len), .int 0, .ref s.heap.size, .int (Int32.ofNat o), .ref b])) := c4.trans (by
    refine XS.astoreN X3.here hexec rfl (hb hbytes d3) rfl rfl rfl ?_
    refine XS.aloadN X3.here hexec rfl (hb hbytes d4) rfl rfl ?_
    refine XS.iloadN X3.here hexec rfl (hb hbytes d5) rfl ?_
    refine XS.aloadN X3.here hexec rfl (hb hbytes d6) rfl rfl ?_
    refine iconstV X3.here hexec rfl 0 (hb hbytes d7) (by decide) ?_
    refine XS.iloadN X3.here hexec rfl (hb hbytes d8) rfl ?_
    exact Steps.refl _)
  obtain ⟨v6, T6, X6, E6, g6⟩ := X3.callS hexec (Cmp5.law l b A s.heap.size B3 o 0 len) hown (wks W (staticW U16 115 Cmp5.yN)) (wk W Cmp5.tab) (W := 0) (Nat.le_of_ble_eq_true rfl) (Nat.le_of_ble_eq_true rfl) (Nat.le_refl _) (by show 0 + len + 0 ≤ len; omega) (g := (mkF m 9 #[.val (.ref b), .val (.int (Int32.ofNat o)), .val (.int (Int32.ofNat len)), .val (.ref s.heap.size), .unset, .unset] [.int (Int32.ofNat len), .int (Int32.ofNat 0), .ref s.heap.size, .int (Int32.ofNat o), .ref b])) rfl (by rw [hml]; rfl) c5 (argsL := [.ref b, .int (Int32.ofNat o), .ref s.heap.size, .int (Int32.ofNat 0), .int (Int32.ofNat len)]) (rest := []) rfl rfl (by show 2 * 0 + 0 ≤ _; decide) (hb hbytes d9) (⟨rfl, hA3, ba3, hne, l1, by rw [bs3]; simp, hp⟩)
  obtain ⟨rfl, B6, p6, f6⟩ := E6
  have c7 : Steps p.tables e below (s₁.setTop (entryFrame m #[.ref b, .int (Int32.ofNat o), .int (Int32.ofNat len)] 6)) (T6.setTop (mkF m 12 #[.val (.ref b), .val (.int (Int32.ofNat o)), .val (.int (Int32.ofNat len)), .val (.ref s.heap.size), .unset, .unset] [.int (Int32.ofNat len)])) := g6
  have c8 : Steps p.tables e below (s₁.setTop (entryFrame m #[.ref b, .int (Int32.ofNat o), .int (Int32.ofNat len)] 6)) (T6.setTop (mkF m 58 #[.val (.ref b), .val (.int (Int32.ofNat o)), .val (.int (Int32.ofNat len)), .val (.ref s.heap.size), .val (.int (Int32.ofNat len)), .unset] [.ref s.heap.size])) := c7.trans (by
    refine XS.istore X6.here hexec rfl (hb hbytes d12) rfl rfl ?_
    refine XS.iload X6.here hexec rfl (hb hbytes d14) rfl ?_
    refine XS.iloadN X6.here hexec rfl (hb hbytes d16) rfl ?_
    refine XS.icmpYes X6.here hexec rfl (pc0 := 17) rfl (hb hbytes d17) rfl (ii_eq_t rfl) (by decide) rfl ?_
    refine XS.aloadN X6.here hexec rfl (hb hbytes d57) rfl rfl ?_
    exact Steps.refl _)
  have X8 := X6.wide (L' := []) (cells' := 1) (slots' := len) (fun x hx hlt => by
    simp only [List.nil_append, copyLocs, List.mem_map, List.mem_range] at hx
    obtain ⟨i, -, rfl⟩ := hx
    exact absurd hlt (Nat.lt_irrefl _)) (Nat.le_refl _) (by omega)
  exact ⟨T6, some (.ref s.heap.size), _, _, _, X8, rfl, rfl, rfl, (fun h => by cases h), ⟨⟨rfl, B6, ba3.like (X3.warmed.alike.symm.trans X6.warmed.alike) p6.1 f6.1 f6.2.1 f6.2.2.1, f6.2.1.trans bv3, by rw [X6.warmed.alike.findClass, f6.1]; exact bf3, by rw [f6.2.2.1, bs3]; simp, fun j hj => by rw [f6.2.2.2 j, if_pos (by omega)]; rfl, kp3.put p6 (Nat.le_refl _)⟩, by rw [p6.2.2, bh3, hh0]; simp⟩, fun fs hl => c8.trans (X8.areturnOut hexec rfl hret rfl (hb hbytes d58) hl)⟩
end Cmp3
namespace CodL
def yN : MethodName := ⟨"java/lang/StringUTF16", "coderFromArrayLen", "([BI)B"⟩
abbrev yB : ByteArray := jdk_52_method_15_code
theorem d0 : decode yB 0 = .ok (.iload_n 1, 1) := by decide +kernel
theorem d1 : decode yB 1 = .ok (.aload_n 0, 1) := by decide +kernel
theorem d2 : decode yB 2 = .ok (.arraylength, 1) := by decide +kernel
theorem d3 : decode yB 3 = .ok (.isub, 1) := by decide +kernel
theorem d4 : decode yB 4 = .ok (.bipush 31, 2) := by decide +kernel
theorem d6 : decode yB 6 = .ok (.iushr, 1) := by decide +kernel
theorem d7 : decode yB 7 = .ok (.i2b, 1) := by decide +kernel
theorem d8 : decode yB 8 = .ok (.ireturn, 1) := by decide +kernel
def site : List Cond := []
def tab : Cond := tabOf yN yB 2 (some .byte) site
def P (d : Addr) (B : Cell) (args : Array Value) (s : State) : Prop := args = #[.ref d, .int (Int32.ofNat B.slots.size)] ∧ Arr .byte d B s
def E (r : Option Value) (s u : State) : Prop := XT.PureE (some (.int 0)) r s u
/-- an array as long as the number of chars: LATIN1 -/
theorem law (l : Launch) (d : Addr) (B : Cell) : Law l yN 2 2 0 0 yB 2 (some .byte) site (P d B) E [] 0 0 := by
  refine Law.of_walk (plainFor_of_name (by decide +kernel)) (by decide +kernel) (by decide +kernel) (by decide) (fun _ _ h => by rw [h.1]; rfl) (fun _ U U' hal hh h => ⟨h.1, h.2.mv hal hh⟩) (fun r U U' V V' h1 hal h2 h => XT.PureE.mv r U U' V V' h1 hal h2 h) ?_
  intro p e s m args below meth c s₁ X0 hexec hbytes hml hret hlk hnm hown hh0 W hP
  obtain ⟨rfl, hB⟩ := hP
  have hB0 := hB.mv X0.warmed.alike hh0
  have c1 : Steps p.tables e below (s₁.setTop (entryFrame m #[.ref d, .int (Int32.ofNat B.slots.size)] 2)) (s₁.setTop (mkF m 0 #[.val (.ref d), .val (.int (Int32.ofNat B.slots.size))] [])) := entry rfl
  have c2 : Steps p.tables e below (s₁.setTop (entryFrame m #[.ref d, .int (Int32.ofNat B.slots.size)] 2)) (s₁.setTop (mkF m 2 #[.val (.ref d), .val (.int (Int32.ofNat B.slots.size))] [.ref d, .int (Int32.ofNat B.slots.size)])) := c1.trans (by
    refine XS.iloadN X0.here hexec rfl (hb hbytes d0) rfl ?_
    refine XS.aloadN X0.here hexec rfl (hb hbytes d1) rfl rfl ?_
    exact Steps.refl _)
  have c3 : Steps p.tables e below (s₁.setTop (entryFrame m #[.ref d, .int (Int32.ofNat B.slots.size)] 2)) (s₁.setTop (mkF m 8 #[.val (.ref d), .val (.int (Int32.ofNat B.slots.size))] [.int (lo8 (ushr (Int32.ofNat B.slots.size - Int32.ofNat B.slots.size) 31))])) := c2.trans (by
    refine X0.alen hexec hB0 rfl rfl (hb hbytes d2) ?_
    refine XS.isub X0.here hexec rfl (hb hbytes d3) rfl ?_
    refine bipushV X0.here hexec rfl 31 (hb hbytes d4) (by decide) ?_
    refine iushr X0.here hexec rfl (hb hbytes d6) rfl ?_
    refine i2b X0.here hexec rfl (hb hbytes d7) rfl ?_
    exact Steps.refl _)
  have e0 : lo8 (ushr (Int32.ofNat B.slots.size - Int32.ofNat B.slots.size) 31) = 0 := by rw [Int32.sub_self]; decide
  rw [e0] at c3
  exact ⟨s₁, some (.int 0), _, _, _, X0, rfl, rfl, rfl, (fun h => by cases h), ⟨rfl, hh0⟩, fun fs hl => c3.trans (X0.ireturnOut hexec hret rfl (Or.inr (Or.inr (Or.inl rfl))) (hb hbytes d8) hl)⟩
end CodL
/-- the String at a is Latin-1 over a new byte[] (the heap's one new cell): the low bytes of the len chars of A from o on; every cell but a is kept -/
def Got (a : Addr) (D : Cell) (fV fC : Field) (A : Cell) (o len : Nat) (r : Option Value) (s u : State) : Prop := r = none ∧ ∃ D' V : Cell, Blank "java/lang/String" a D' u ∧ Same D D' [fV.slot, fC.slot] ∧ D'.slots[fV.slot]? = some (.ref s.heap.size) ∧ D'.slots[fC.slot]? = some (.int 0) ∧ Arr .byte s.heap.size V u ∧ V.vm = .none ∧ u.vm.findClass "[B" = some V.cls ∧ V.slots.size = len ∧ (∀ j, j < len → V.slots[j]? = some (.int (lo8 (cv A (o + j))))) ∧ (∀ (y : Addr) (c : Cell), y ≠ a → s.heap[y]? = some c → u.heap[y]? = some c) ∧ u.heap.size = s.heap.size + 1
theorem Got.mv {a : Addr} {D A : Cell} {fV fC : Field} {o len : Nat} : ∀ r (U U' V V' : State), U'.heap = U.heap → V.vm.Alike V'.vm → V'.heap = V.heap → Got a D fV fC A o len r U V → Got a D fV fC A o len r U' V' :=
  fun r U U' V V' h1 hal h2 ⟨e0, D', X, a1, a2, a3, a4, a5, a6, a7, a8, a9, a10, a11⟩ => ⟨e0, D', X, a1.mv hal h2, a2, by rw [h1]; exact a3, a4, by rw [h1]; exact a5.mv hal h2, a6, by rw [hal.findClass]; exact a7, a8, a9, by rw [h1, h2]; exact a10, by rw [h1, h2]; exact a11⟩
namespace New4
def yN : MethodName := ⟨"java/lang/String", "<init>", "([CIILjava/lang/Void;)V"⟩
abbrev yB : ByteArray := jdk_42_method_149_code
theorem d0 : decode yB 0 = .ok (.aload_n 0, 1) := by decide +kernel
theorem d1 : decode yB 1 = .ok (.invokespecial 1, 3) := by decide +kernel
theorem d4 : decode yB 4 = .ok (.iload_n 3, 1) := by decide +kernel
theorem d5 : decode yB 5 = .ok (.ifCond (.ne) 22, 3) := by decide +kernel
theorem d27 : decode yB 27 = .ok (.getstatic 38, 3) := by decide +kernel
theorem d30 : decode yB 30 = .ok (.ifCond (.eq) 28, 3) := by decide +kernel
theorem d33 : decode yB 33 = .ok (.aload_n 1, 1) := by decide +kernel
theorem d34 : decode yB 34 = .ok (.iload_n 2, 1) := by decide +kernel
theorem d35 : decode yB 35 = .ok (.iload_n 3, 1) := by decide +kernel
theorem d36 : decode yB 36 = .ok (.invokestatic 177, 3) := by decide +kernel
theorem d39 : decode yB 39 = .ok (.astore 5, 2) := by decide +kernel
theorem d41 : decode yB 41 = .ok (.aload_n 0, 1) := by decide +kernel
theorem d42 : decode yB 42 = .ok (.aload 5, 2) := by decide +kernel
theorem d44 : decode yB 44 = .ok (.iload_n 3, 1) := by decide +kernel
theorem d45 : decode yB 45 = .ok (.invokestatic 47, 3) := by decide +kernel
theorem d48 : decode yB 48 = .ok (.putfield 15, 3) := by decide +kernel
theorem d51 : decode yB 51 = .ok (.aload_n 0, 1) := by decide +kernel
theorem d52 : decode yB 52 = .ok (.aload 5, 2) := by decide +kernel
theorem d54 : decode yB 54 = .ok (.putfield 9, 3) := by decide +kernel
theorem d57 : decode yB 57 = .ok (.return_, 1) := by decide +kernel
def site : List Cond := [.fieldLink "java/lang/String" 38 "java/lang/String" "COMPACT_STRINGS" "Z", Cmp3.tab, CodL.tab, .laysFinal "java/lang/String" "java/lang/String" "value" "[B", .fieldLink "java/lang/String" 9 "java/lang/String" "value" "[B", .laysFinal "java/lang/String" "java/lang/String" "coder" "B", .fieldLink "java/lang/String" 15 "java/lang/String" "coder" "B"] ++ objW "java/lang/String" 1 ++ staticW "java/lang/String" 177 Cmp3.yN ++ staticW "java/lang/String" 47 CodL.yN
def tab : Cond := tabOf yN yB 6 none site
def P (a : Addr) (D : Cell) (fV fC : Field) (b : Addr) (A : Cell) (z : Int32) (o len : Nat) (args : Array Value) (s : State) : Prop := args = #[.ref a, .ref b, .int (Int32.ofNat o), .int (Int32.ofNat len), .null] ∧ Blank "java/lang/String" a D s ∧ Found "java/lang/String" "value" "[B" fV s ∧ Found "java/lang/String" "coder" "B" fC s ∧ Ch b A s ∧ StaticIs s "java/lang/String" "COMPACT_STRINGS" "Z" (.int z) ∧ ¬ z = 0 ∧ 0 < len ∧ o + len ≤ A.slots.size ∧ len ≤ 536870912 ∧ ∀ i, i < len → ¬ 255 < cv A (o + i)
def E (a : Addr) (D : Cell) (fV fC : Field) (A : Cell) (o len : Nat) (r : Option Value) (s u : State) : Prop := Got a D fV fC A o len r s u
/-- len > 0, no char of the range above 255: a Latin-1 String of their low bytes -/
theorem law (l : Launch) (a : Addr) (D : Cell) (fV fC : Field) (b : Addr) (A : Cell) (z : Int32) (o len : Nat) : Law l yN 5 4 2 35 yB 6 none site (P a D fV fC b A z o len) (E a D fV fC A o len) [⟨a, fC.slot⟩, ⟨a, fV.slot⟩] 1 len := by
  refine Law.of_walk (plainFor_of_name (by decide +kernel)) (by decide +kernel) (by decide +kernel) (by decide) (fun _ _ h => by rw [h.1]; rfl) (fun _ U U' hal hh h => ⟨h.1, h.2.1.mv hal hh, h.2.2.1.al hal, h.2.2.2.1.al hal, h.2.2.2.2.1.mv hal hh, h.2.2.2.2.2.1.there hal hh, h.2.2.2.2.2.2⟩) (fun r U U' V V' h1 hal h2 h => Got.mv r U U' V V' h1 hal h2 h) ?_
  intro p e s m args below meth c s₁ X0 hexec hbytes hml hret hlk hnm hown hh0 W hP
  obtain ⟨rfl, hB, f1, f2, hA, s1, hz, l0, l1, l2, hp⟩ := hP
  have a31 := hA.1.2.2.2
  have c1 : Steps p.tables e below (s₁.setTop (entryFrame m #[.ref a, .ref b, .int (Int32.ofNat o), .int (Int32.ofNat len), .null] 6)) (s₁.setTop (mkF m 0 #[.val (.ref a), .val (.ref b), .val (.int (Int32.ofNat o)), .val (.int (Int32.ofNat len)), .val .null, .unset] [])) := entry rfl
  have c2 : Steps p.tables e below (s₁.setTop (entryFrame m #[.ref a, .ref b, .int (Int32.ofNat o), .int (Int32.ofNat len), .null] 6)) (s₁.setTop (mkF m 1 #[.val (.ref a), .val (.ref b), .val (.int (Int32.ofNat o)), .val (.int (Int32.ofNat len)), .val .null, .unset] [.ref a])) := c1.trans (by
    refine XS.aloadN X0.here hexec rfl (hb hbytes d0) rfl rfl ?_
    exact Steps.refl _)
  obtain ⟨T3, X3, q3, st3⟩ := X0.oinit hexec hown (wks W (objW "java/lang/String" 1)) (g := (mkF m 1 #[.val (.ref a), .val (.ref b), .val (.int (Int32.ofNat o)), .val (.int (Int32.ofNat len)), .val .null, .unset] [.ref a])) rfl (by rw [hml]; rfl) (rest := []) rfl (hb hbytes d1) (W := 0) (by show 2 * 0 + 0 ≤ _; decide) (Nat.le_of_ble_eq_true rfl) (Nat.le_of_ble_eq_true rfl)
  have hh3 := q3.trans hh0
  have c4 : Steps p.tables e below (s₁.setTop (entryFrame m #[.ref a, .ref b, .int (Int32.ofNat o), .int (Int32.ofNat len), .null] 6)) (T3.setTop (mkF m 27 #[.val (.ref a), .val (.ref b), .val (.int (Int32.ofNat o)), .val (.int (Int32.ofNat len)), .val .null, .unset] [])) := (c2.trans (st3 _ (Steps.refl _))).trans (by
    refine XS.iloadN X3.here hexec rfl (hb hbytes d4) rfl ?_
    refine XS.ifYes X3.here hexec rfl (pc0 := 5) rfl (hb hbytes d5) rfl (i0_ne_t (nz32 (by omega) l0)) (by decide) rfl ?_
    exact Steps.refl _)
  obtain ⟨T5, X5, q5, st5⟩ := X3.sget hexec hown (wk W (.fieldLink "java/lang/String" 38 "java/lang/String" "COMPACT_STRINGS" "Z")) s1 (fun _ _ h => by rw [hh3]; exact h) (g := (mkF m 27 #[.val (.ref a), .val (.ref b), .val (.int (Int32.ofNat o)), .val (.int (Int32.ofNat len)), .val .null, .unset] [])) rfl (hb hbytes d27)
  have hh5 := q5.trans hh3
  have c6 : Steps p.tables e below (s₁.setTop (entryFrame m #[.ref a, .ref b, .int (Int32.ofNat o), .int (Int32.ofNat len), .null] 6)) (T5.setTop (mkF m 30 #[.val (.ref a), .val (.ref b), .val (.int (Int32.ofNat o)), .val (.int (Int32.ofNat len)), .val .null, .unset] [.int z])) := c4.trans (st5 _ (Steps.refl _))
  have c7 : Steps p.tables e below (s₁.setTop (entryFrame m #[.ref a, .ref b, .int (Int32.ofNat o), .int (Int32.ofNat len), .null] 6)) (T5.setTop (mkF m 36 #[.val (.ref a), .val (.ref b), .val (.int (Int32.ofNat o)), .val (.int (Int32.ofNat len)), .val .null, .unset] [.int (Int32.ofNat len), .int (Int32.ofNat o), .ref b])) := c6.trans (by
    refine XS.ifNo X5.here hexec rfl (hb hbytes d30) rfl (i0_eq_f hz) ?_
    refine XS.aloadN X5.here hexec rfl (hb hbytes d33) rfl rfl ?_
    refine XS.iloadN X5.here hexec rfl (hb hbytes d34) rfl ?_
    refine XS.iloadN X5.here hexec rfl (hb hbytes d35) rfl ?_
    exact Steps.refl _)
  obtain ⟨v8, T8, X8, E8, g8⟩ := X5.callS hexec (Cmp3.law l b A o len) hown (wks W (staticW "java/lang/String" 177 Cmp3.yN)) (wk W Cmp3.tab) (W := 0) (Nat.le_of_ble_eq_true rfl) (Nat.le_of_ble_eq_true rfl) (Nat.le_refl _) (by show 0 + len ≤ len; omega) (g := (mkF m 36 #[.val (.ref a), .val (.ref b), .val (.int (Int32.ofNat o)), .val (.int (Int32.ofNat len)), .val .null, .unset] [.int (Int32.ofNat len), .int (Int32.ofNat o), .ref b])) rfl (by rw [hml]; rfl) c7 (argsL := [.ref b, .int (Int32.ofNat o), .int (Int32.ofNat len)]) (rest := []) rfl rfl (by show 2 * 0 + 0 ≤ _; decide) (hb hbytes d36) (⟨rfl, hA.mv X5.warmed.alike hh5, l1, l2, hp⟩)
  obtain ⟨e8, z8⟩ := E8
  obtain ⟨rfl, N, n1, n2, n3, n4, n5, n6⟩ := NewArr.mv _ T5 s _ _ hh5.symm (Vm.Alike.refl _) rfl e8
  rw [hh5] at z8
  have hB1 := hB.keep X8.warmed.alike (n6 _ _ hB.1)
  have hne : s.heap.size ≠ a := (Nat.ne_of_lt (Array.getElem?_eq_some_iff.mp hB.1).1).symm
  have c9 : Steps p.tables e below (s₁.setTop (entryFrame m #[.ref a, .ref b, .int (Int32.ofNat o), .int (Int32.ofNat len), .null] 6)) (T8.setTop (mkF m 39 #[.val (.ref a), .val (.ref b), .val (.int (Int32.ofNat o)), .val (.int (Int32.ofNat len)), .val .null, .unset] [.ref s.heap.size])) := g8
  have c10 : Steps p.tables e below (s₁.setTop (entryFrame m #[.ref a, .ref b, .int (Int32.ofNat o), .int (Int32.ofNat len), .null] 6)) (T8.setTop (mkF m 45 #[.val (.ref a), .val (.ref b), .val (.int (Int32.ofNat o)), .val (.int (Int32.ofNat len)), .val .null, .val (.ref s.heap.size)] [.int (Int32.ofNat N.slots.size), .ref s.heap.size, .ref a])) := by
    have hc : Steps p.tables e below (s₁.setTop (entryFrame m #[.ref a, .ref b, .int (Int32.ofNat o), .int (Int32.ofNat len), .null] 6)) (T8.setTop (mkF m 45 #[.val (.ref a), .val (.ref b), .val (.int (Int32.ofNat o)), .val (.int (Int32.ofNat len)), .val .null, .val (.ref s.heap.size)] [.int (Int32.ofNat len), .ref s.heap.size, .ref a])) := c9.trans (by
      refine XS.astore X8.here hexec rfl (hb hbytes d39) rfl rfl rfl ?_
      refine XS.aloadN X8.here hexec rfl (hb hbytes d41) rfl rfl ?_
      refine XS.aload X8.here hexec rfl (hb hbytes d42) rfl rfl ?_
      refine XS.iloadN X8.here hexec rfl (hb hbytes d44) rfl ?_
      exact Steps.refl _)
    rw [n4]; exact hc
  obtain ⟨v11, T11, X11, E11, g11⟩ := X8.callS hexec (CodL.law l s.heap.size N) hown (wks W (staticW "java/lang/String" 47 CodL.yN)) (wk W CodL.tab) (W := 1) (Nat.le_of_ble_eq_true rfl) (Nat.le_of_ble_eq_true rfl) (Nat.le_refl _) (by show 0 + len + 0 ≤ len; omega) (g := (mkF m 45 #[.val (.ref a), .val (.ref b), .val (.int (Int32.ofNat o)), .val (.int (Int32.ofNat len)), .val .null, .val (.ref s.heap.size)] [.int (Int32.ofNat N.slots.size), .ref s.heap.size, .ref a])) rfl (by rw [hml]; rfl) c10 (argsL := [.ref s.heap.size, .int (Int32.ofNat N.slots.size)]) (rest := [.ref a]) rfl rfl (by show 2 * 0 + (1 + 0) ≤ _; decide) (hb hbytes d45) (⟨rfl, n1⟩)
  obtain ⟨rfl, q11⟩ := E11
  have hB11 := hB1.mv (X8.warmed.alike.symm.trans X11.warmed.alike) q11
  have c12 : Steps p.tables e below (s₁.setTop (entryFrame m #[.ref a, .ref b, .int (Int32.ofNat o), .int (Int32.ofNat len), .null] 6)) (T11.setTop (mkF m 48 #[.val (.ref a), .val (.ref b), .val (.int (Int32.ofNat o)), .val (.int (Int32.ofNat len)), .val .null, .val (.ref s.heap.size)] [.int 0, .ref a])) := g11
  obtain ⟨T13, X13, p13, bl13, sl13, st13⟩ := X11.finit hexec hown (wk W (.fieldLink "java/lang/String" 15 "java/lang/String" "coder" "B")) (Or.inr ⟨_, (wk W (.laysFinal "java/lang/String" "java/lang/String" "coder" "B"))⟩) (Or.inl ⟨rfl, hnm⟩) f2 (Or.inl rfl) hB11 (t := .byte) (by decide +kernel) rfl (g := (mkF m 48 #[.val (.ref a), .val (.ref b), .val (.int (Int32.ofNat o)), .val (.int (Int32.ofNat len)), .val .null, .val (.ref s.heap.size)] [.int 0, .ref a])) rfl (rest := []) rfl (hb hbytes d48)
  have c14 : Steps p.tables e below (s₁.setTop (entryFrame m #[.ref a, .ref b, .int (Int32.ofNat o), .int (Int32.ofNat len), .null] 6)) (T13.setTop (mkF m 54 #[.val (.ref a), .val (.ref b), .val (.int (Int32.ofNat o)), .val (.int (Int32.ofNat len)), .val .null, .val (.ref s.heap.size)] [.ref s.heap.size, .ref a])) := (c12.trans (st13 _ (Steps.refl _))).trans (by
    refine XS.aloadN X13.here hexec rfl (hb hbytes d51) rfl rfl ?_
    refine XS.aload X13.here hexec rfl (hb hbytes d52) rfl rfl ?_
    exact Steps.refl _)
  obtain ⟨T15, X15, p15, bl15, sl15, st15⟩ := X13.finit hexec hown (wk W (.fieldLink "java/lang/String" 9 "java/lang/String" "value" "[B")) (Or.inr ⟨_, (wk W (.laysFinal "java/lang/String" "java/lang/String" "value" "[B"))⟩) (Or.inl ⟨rfl, hnm⟩) f1 (Or.inl rfl) bl13 (t := (.array .byte)) (by decide +kernel) rfl (g := (mkF m 54 #[.val (.ref a), .val (.ref b), .val (.int (Int32.ofNat o)), .val (.int (Int32.ofNat len)), .val .null, .val (.ref s.heap.size)] [.ref s.heap.size, .ref a])) rfl (rest := []) rfl (hb hbytes d54)
  have c16 : Steps p.tables e below (s₁.setTop (entryFrame m #[.ref a, .ref b, .int (Int32.ofNat o), .int (Int32.ofNat len), .null] 6)) (T15.setTop (mkF m 57 #[.val (.ref a), .val (.ref b), .val (.int (Int32.ofNat o)), .val (.int (Int32.ofNat len)), .val .null, .val (.ref s.heap.size)] [])) := c14.trans (st15 _ (Steps.refl _))
  have ap := apart (Or.inr ⟨_, (wk W (.laysFinal "java/lang/String" "java/lang/String" "value" "[B"))⟩) (Or.inr ⟨_, (wk W (.laysFinal "java/lang/String" "java/lang/String" "coder" "B"))⟩) f1 f2 (t₁ := .array .byte) (t₂ := .byte) (by decide +kernel) (by decide +kernel) (by decide)
  have al := X8.warmed.alike.symm.trans X15.warmed.alike
  have n7 : T11.heap[s.heap.size]? = some N := by rw [q11]; exact n1.1
  exact ⟨T15, none, _, _, _, X15, by simp, rfl, by omega, (fun _ => rfl), ⟨rfl, _, N, bl15, ((Same.refl D _).set _ (by simp)).set _ (by simp), sl15, (Cell.slots_setSlot_ne _ ap).trans sl13, n1.keep al (p15.other hne (p13.other hne n7)), n2, by rw [al.findClass]; exact n3, n4, n5, fun y c h1 h2 => p15.other h1 (p13.other h1 (by rw [q11]; exact n6 y c h2)), by rw [p15.2.2, p13.2.2, q11]; exact z8⟩, fun fs hl => c16.trans (X15.returnOut hexec hret (hb hbytes d57) hl)⟩
end New4
namespace New1
def yN : MethodName := ⟨"java/lang/String", "<init>", "([C)V"⟩
abbrev yB : ByteArray := jdk_42_method_3_code
theorem d0 : decode yB 0 = .ok (.aload_n 0, 1) := by decide +kernel
theorem d1 : decode yB 1 = .ok (.aload_n 1, 1) := by decide +kernel
theorem d2 : decode yB 2 = .ok (.iconst 0, 1) := by decide +kernel
theorem d3 : decode yB 3 = .ok (.aload_n 1, 1) := by decide +kernel
theorem d4 : decode yB 4 = .ok (.arraylength, 1) := by decide +kernel
theorem d5 : decode yB 5 = .ok (.aconst_null, 1) := by decide +kernel
theorem d6 : decode yB 6 = .ok (.invokespecial 27, 3) := by decide +kernel
theorem d9 : decode yB 9 = .ok (.return_, 1) := by decide +kernel
def site : List Cond := [New4.tab] ++ initW "java/lang/String" 27 New4.yN
def tab : Cond := tabOf yN yB 2 none site
def P (a : Addr) (D : Cell) (fV fC : Field) (b : Addr) (A : Cell) (z : Int32) (args : Array Value) (s : State) : Prop := args = #[.ref a, .ref b] ∧ Blank "java/lang/String" a D s ∧ Found "java/lang/String" "value" "[B" fV s ∧ Found "java/lang/String" "coder" "B" fC s ∧ Ch b A s ∧ StaticIs s "java/lang/String" "COMPACT_STRINGS" "Z" (.int z) ∧ ¬ z = 0 ∧ 0 < A.slots.size ∧ A.slots.size ≤ 536870912 ∧ ∀ i, i < A.slots.size → ¬ 255 < cv A i
def E (a : Addr) (D : Cell) (fV fC : Field) (A : Cell) (r : Option Value) (s u : State) : Prop := Got a D fV fC A 0 A.slots.size r s u
/-- new String(chars), not empty, no char above 255: a Latin-1 String of their low bytes -/
theorem law (l : Launch) (a : Addr) (D : Cell) (fV fC : Field) (b : Addr) (A : Cell) (z : Int32) : Law l yN 2 1 3 52 yB 2 none site (P a D fV fC b A z) (E a D fV fC A) [⟨a, fC.slot⟩, ⟨a, fV.slot⟩] 1 A.slots.size := by
  refine Law.of_walk (plainFor_of_name (by decide +kernel)) (by decide +kernel) (by decide +kernel) (by decide) (fun _ _ h => by rw [h.1]; rfl) (fun _ U U' hal hh h => ⟨h.1, h.2.1.mv hal hh, h.2.2.1.al hal, h.2.2.2.1.al hal, h.2.2.2.2.1.mv hal hh, h.2.2.2.2.2.1.there hal hh, h.2.2.2.2.2.2⟩) (fun r U U' V V' h1 hal h2 h => Got.mv r U U' V V' h1 hal h2 h) ?_
  intro p e s m args below meth c s₁ X0 hexec hbytes hml hret hlk hnm hown hh0 W hP
  obtain ⟨rfl, hB, f1, f2, hA, s1, hz, l0, l2, hp⟩ := hP
  have c1 : Steps p.tables e below (s₁.setTop (entryFrame m #[.ref a, .ref b] 2)) (s₁.setTop (mkF m 0 #[.val (.ref a), .val (.ref b)] [])) := entry rfl
  have c2 : Steps p.tables e below (s₁.setTop (entryFrame m #[.ref a, .ref b] 2)) (s₁.setTop (mkF m 6 #[.val (.ref a), .val (.ref b)] [.null, .int (Int32.ofNat A.slots.size), .int 0, .ref b, .ref a])) := c1.trans (by
    refine XS.aloadN X0.here hexec rfl (hb hbytes d0) rfl rfl ?_
    refine XS.aloadN X0.here hexec rfl (hb hbytes d1) rfl rfl ?_
    refine iconstV X0.here hexec rfl 0 (hb hbytes d2) (by decide) ?_
    refine XS.aloadN X0.here hexec rfl (hb hbytes d3) rfl rfl ?_
    refine X0.alen hexec (hA.1.mv X0.warmed.alike hh0) rfl rfl (hb hbytes d4) ?_
    refine XS.aconstNull X0.here hexec rfl (hb hbytes d5) ?_
    exact Steps.refl _)
  obtain ⟨v3, T3, X3, E3, g3⟩ := X0.callN hexec (New4.law l a D fV fC b A z 0 A.slots.size) rfl hown (wks W (initW "java/lang/String" 27 New4.yN)) (W New4.tab (by simp only [site, List.mem_cons, List.mem_append, true_or, or_true])) (W := 0) (Nat.le_of_ble_eq_true rfl) (Nat.le_of_ble_eq_true rfl) (Nat.le_refl _) (by show 0 + A.slots.size ≤ A.slots.size; omega) (g := (mkF m 6 #[.val (.ref a), .val (.ref b)] [.null, .int (Int32.ofNat A.slots.size), .int (Int32.ofNat 0), .ref b, .ref a])) rfl (by rw [hml]; rfl) c2 (argsL := [.ref b, .int (Int32.ofNat 0), .int (Int32.ofNat A.slots.size), .null]) (rest := []) rfl rfl (by show 2 * 0 + 0 ≤ _; decide) (hb hbytes d6) (⟨rfl, hB.mv X0.warmed.alike hh0, f1.al X0.warmed.alike, f2.al X0.warmed.alike, hA.mv X0.warmed.alike hh0, s1.there X0.warmed.alike hh0, hz, l0, by omega, l2, fun i hi => by rw [Nat.zero_add]; exact hp i hi⟩)
  have e0 := Got.mv _ s₁ s _ _ hh0.symm (Vm.Alike.refl _) rfl E3
  obtain rfl := e0.1
  have c4 : Steps p.tables e below (s₁.setTop (entryFrame m #[.ref a, .ref b] 2)) (T3.setTop (mkF m 9 #[.val (.ref a), .val (.ref b)] [])) := g3
  exact ⟨T3, none, _, _, _, X3, by simp, rfl, by omega, (fun _ => rfl), e0, fun fs hl => c4.trans (X3.returnOut hexec hret (hb hbytes d9) hl)⟩
theorem pays {l : Launch} {R : Room} {p : Program} {e : Env} {below : List Frame} {s : State} {sargs : Array Value} {len W : Nat} (a : Addr) (D : Cell) (fV fC : Field) (b : Addr) (A : Cell) (z : Int32) (htab : tab.before sargs s = true) (hfr : 4 ≤ R.frames) (hlo : W + 65 ≤ R.locals) :
    Back l R p e below s sargs yN len W (fun A₁ a₁ => A₁.cells + 1 ≤ R.cells ∧ A₁.slots + A.slots.size ≤ R.slots ∧ P a D fV fC b A z a₁ A₁.U) (fun A₁ _ v₁ B₁ => E a D fV fC A v₁ A₁.U B₁.U ∧ B₁.locs = A₁.locs ++ [⟨a, fC.slot⟩, ⟨a, fV.slot⟩] ∧ B₁.cells = A₁.cells + 1 ∧ B₁.slots = A₁.slots + A.slots.size) :=
  (law l a D fV fC b A z).pays htab hfr (by omega)
end New1
/-- the byte, read back as charAt reads it, is the char -/
theorem lo8_mask {x : Int32} (h0 : ¬ x < 0) (h1 : ¬ 255 < x) : lo8 x &&& 255 = x := by
  have t : ∀ k : Fin 256, lo8 (Int32.ofNat k.val) &&& 255 = Int32.ofNat k.val := by decide +kernel
  rw [Int32.lt_iff_toInt_lt] at h0 h1
  have e0 : (0 : Int32).toInt = 0 := rfl
  have e1 : (255 : Int32).toInt = 255 := rfl
  obtain ⟨k, hk⟩ : ∃ k : Nat, x.toInt = k := ⟨x.toInt.toNat, by omega⟩
  have hx : x = Int32.ofNat k := Int32.toInt_inj.mp (by rw [hk, Int32.toInt_ofNat_small (by omega)])
  rw [hx]
  exact t ⟨k, by omega⟩
end StrChars
namespace StrChars.Road
open Jvm Sem ClassFile Op Lib Jvm.Stand Jvm.Free Jvm.Free.XT
open Jvm.Lib.Cold (StaticIs)
abbrev ST : String := "java/lang/String"
/-- every table word that New1's law asks, flat -/
abbrev words : List Jvm.Cond := [.code New1.yN New1.yB 2 none, .initialized ST, .methodLink ST 27 New4.yN, .instanceMethod New4.yN,
  .code New4.yN New4.yB 6 none, .fieldLink ST 38 ST "COMPACT_STRINGS" "Z", .laysFinal ST ST "value" "[B", .fieldLink ST 9 ST "value" "[B", .laysFinal ST ST "coder" "B", .fieldLink ST 15 ST "coder" "B",
  .methodLink ST 1 Lib.objectInit, .instanceMethod Lib.objectInit, .code Lib.objectInit ⟨#[0xb1]⟩ 1 none, .methodLink ST 177 Cmp3.yN, .static Cmp3.yN, .methodLink ST 47 CodL.yN, .static CodL.yN,
  .code Cmp3.yN Cmp3.yB 6 (some (.array .byte)), .initialized U16, .arrayClass .byte, .methodLink U16 115 Cmp5.yN, .static Cmp5.yN, .code Cmp5.yN Cmp5.yB 7 (some .int), .code CodL.yN CodL.yB 2 (some .byte)]
theorem tab_of {a : Array Value} {s : State} (h : ∀ w ∈ words, w.before a s = true) : New1.tab.before a s = true := by
  have h5 : Cmp5.tab.before a s = true := unparts (wk h (.code Cmp5.yN Cmp5.yB 7 (some .int))) (wks h (.initialized Cmp5.yN.cls :: Cmp5.site))
  have hc : CodL.tab.before a s = true := unparts (wk h (.code CodL.yN CodL.yB 2 (some .byte))) (wks h (.initialized CodL.yN.cls :: CodL.site))
  have q5 : ∀ w ∈ Cmp5.tab :: words, w.before a s = true := fun w hw => (List.mem_cons.mp hw).elim (fun e => e ▸ h5) (h w)
  have h3 : Cmp3.tab.before a s = true := unparts (wk q5 (.code Cmp3.yN Cmp3.yB 6 (some (.array .byte)))) (wks q5 (.initialized Cmp3.yN.cls :: Cmp3.site))
  have q3 : ∀ w ∈ Cmp3.tab :: CodL.tab :: words, w.before a s = true := fun w hw => (List.mem_cons.mp hw).elim (fun e => e ▸ h3) fun hw => (List.mem_cons.mp hw).elim (fun e => e ▸ hc) (h w)
  have h4 : New4.tab.before a s = true := unparts (wk q3 (.code New4.yN New4.yB 6 none)) (wks q3 (.initialized New4.yN.cls :: New4.site))
  have q4 : ∀ w ∈ New4.tab :: words, w.before a s = true := fun w hw => (List.mem_cons.mp hw).elim (fun e => e ▸ h4) (h w)
  exact unparts (wk q4 (.code New1.yN New1.yB 2 none)) (wks q4 (.initialized New1.yN.cls :: New1.site))
/-- the words ride from the start Z to the walk's own state -/
theorem moved {Z s : State} {a0 args : Array Value} (hZ : Z.Warmed39 s.vm) (hw : ∀ d ∈ words, d.before a0 Z = true) : ∀ d ∈ words, d.before args s = true := fun d hd => by
  have q := hw d hd
  have t : ∀ d ∈ words, d = .arrayClass .byte ∨ (d.onTables && d.keepsFace) = true := by decide +kernel
  rcases t d hd with rfl | t
  · exact RoadKit.mvA hZ q
  · exact RoadKit.mv hZ q t
/-- WHAT COMES BACK, over the tables of the start Z: h the heap at the call, h' behind it -/
def Q (Z : State) (x : Addr) (A : Cell) (h : Heap) (v : Option Value) (h' : Heap) (L : List Loc) : Prop := v = none ∧ (∀ y ∈ L, y.base = x) ∧ RoadKit.Keep h h' [x] ∧ h'.size = h.size + 1 ∧ RoadKit.Exa Z h' x ST ∧ RoadKit.Fld Z h' x ST "value" "[B" (.ref h.size) ∧ RoadKit.Fld Z h' x ST "coder" "B" (.int 0) ∧
  (∃ V : Cell, RoadKit.Arr Z h' h.size V .byte ∧ V.vm = .none ∧ Z.vm.findClass "[B" = some V.cls ∧ V.slots.size = A.slots.size ∧ ∀ j, j < A.slots.size → V.slots[j]? = some (.int (lo8 (cv A j)))) ∧
  ∀ (O n d : String) (w : Value), RoadKit.Fld Z h x O n d w → RoadKit.slotOf Z O n d ≠ RoadKit.slotOf Z ST "value" "[B" → RoadKit.slotOf Z O n d ≠ RoadKit.slotOf Z ST "coder" "B" → RoadKit.Fld Z h' x O n d w
/-- **new String(chars) AT A CALL, IN THE ROAD'S FORM**: for specialBack behind newO: x the fresh String, b the char[] with the cell A -/
theorem back {p : Program} {l : Launch} {e : Env} {R : Room} {s : State} {args : Array Value} {below : List Frame} {len W : Nat} {Z : State} {a0 : Array Value} {h : Heap} (hZ : Z.Warmed39 s.vm) (hw : ∀ d ∈ words, d.before a0 Z = true) {kI : Nat} (wi : (Jvm.Cond.instantiable ST kI).before a0 Z = true)
    {x b : Addr} {A : Cell} {z : Int32} {v0 c0 : Value} (E : RoadKit.Exa Z h x ST) (V : RoadKit.Fld Z h x ST "value" "[B" v0) (C : RoadKit.Fld Z h x ST "coder" "B" c0) (K : RoadKit.Arr Z h b A .char) (hty : Typed .char A) (S : RoadKit.Sta Z h ST "COMPACT_STRINGS" "Z" (.int z)) (hz : ¬ z = 0)
    (l0 : 0 < A.slots.size) (l2 : A.slots.size ≤ 536870912) (hp : ∀ i, i < A.slots.size → ¬ 255 < cv A i) (hfr : 4 ≤ R.frames) (hlo : W + 65 ≤ R.locals) :
    Back l R p e below s args New1.yN len W (fun P a => a = #[.ref x, .ref b] ∧ P.U.heap = h ∧ P.cells + 1 ≤ R.cells ∧ P.slots + A.slots.size ≤ R.slots)
      (fun P _ v B => ∃ L, Q Z x A h v B.U.heap L ∧ B.locs = P.locs ++ L ∧ B.cells = P.cells + 1 ∧ B.slots = P.slots + A.slots.size) := by
  intro m meth c P g ig mk a X hg hsize hdg hW hn hp'
  obtain ⟨rfl, rfl, r1, r2⟩ := hp'
  have al : Z.vm.Alike P.U.vm := hZ.alike.trans X.warmed.alike
  obtain ⟨D, cfV, kV, iV, fV, hD, gV, stV, knV, obV, asV, slV⟩ := id V
  obtain ⟨D', cfC, kC, iC, fC, hD', gC, stC, -, -, asC, slC⟩ := id C
  cases hD.symm.trans hD'
  obtain ⟨D2, kD, e1, e2, e3, e4, e5⟩ := id E
  cases hD.symm.trans e1
  obtain ⟨c2, k2, i1, i2, i3, -⟩ := Cond.instantiable_spec wi
  cases e2.symm.trans i1
  cases e3.symm.trans i2
  obtain ⟨kU, u1, u2⟩ := al.2.2 _ _ e3
  have hB : Blank ST x D P.U := ⟨hD, ⟨knV, fun q hq => by rw [hq] at obV; cases obV⟩, by rw [al.findClass]; exact e2, kU, u1, by rw [u2]; exact i3, by rw [u2]; exact e5 i3⟩
  have F1 : Found ST "value" "[B" fV P.U := ⟨SBG.found_only al ⟨cfV, kV, iV, gV⟩, stV⟩
  have F2 : Found ST "coder" "B" fC P.U := ⟨SBG.found_only al ⟨cfC, kC, iC, gC⟩, stC⟩
  have hA : Ch b A P.U := ⟨⟨K.1, State.isArrayOf_alike al K.2.1, K.2.2, by omega⟩, hty⟩
  have hS : StaticIs P.U ST "COMPACT_STRINGS" "Z" (.int z) := by
    obtain ⟨cfS, iS, kS, fS, st, cS, t1, t2, t3, t4, t5, t6, t7⟩ := S
    exact StaticIs.there (s := { Z with heap := P.U.heap }) ⟨cfS, iS, kS, fS, st, cS, t1, t2, t3, t4, t5, (fun q => by rw [q] at t6; cases t6), t7⟩ al rfl
  obtain ⟨v, B, X', ⟨⟨hv, E', V', q1, q2, q3, q4, q5, q6, q7, q8, q9, q10, q11⟩, hl, hc, hs⟩, st⟩ := New1.pays x D fV fC b A z (tab_of (moved hZ hw)) hfr hlo m meth c P g ig mk _ X hg hsize hdg hW hn ⟨r1, r2, rfl, hB, F1, F2, hA, hS, hz, l0, l2, hp⟩
  have al' : Z.vm.Alike B.U.vm := hZ.alike.trans X'.warmed.alike
  have hsz : E'.slots.size = D.slots.size := by
    obtain ⟨-, -, -, kB, w1, w2, w3⟩ := q1
    obtain ⟨kB', y1, y2⟩ := al'.2.2 _ _ e3
    rw [q2.2.1] at w1
    cases w1.symm.trans y1
    rw [w3, e5 i3, y2]
  refine ⟨v, B, X', ⟨_, ⟨hv, ?_, ⟨by omega, fun y cy hy hn' => q10 y cy (by simpa using hn') hy, fun y cy hy => ?_⟩, q11, ⟨E', _, q1.1, by rw [q2.2.1]; exact e2, by rw [q2.2.1]; exact e3, by rw [q2.1]; exact obV, fun _ => by rw [hsz]; exact e5 i3⟩,
    ⟨E', cfV, kV, iV, fV, q1.1, gV, stV, by rw [q2.1]; exact knV, by rw [q2.1]; exact obV, by rw [q2.2.1]; exact asV, q3⟩, ⟨E', cfC, kC, iC, fC, q1.1, gC, stC, by rw [q2.1]; exact knV, by rw [q2.1]; exact obV, by rw [q2.2.1]; exact asC, q4⟩,
    ⟨V', ⟨q5.1, State.isArrayOf_alike al'.symm q5.2.1, q5.2.2.1⟩, q6, by rw [← al'.findClass]; exact q7, q8, fun j hj => by have := q9 j hj; rwa [Nat.zero_add] at this⟩, fun O n d w F n1 n2 => ?_⟩, hl, hc, hs⟩, st⟩
  · intro y hy
    simp only [List.mem_cons, List.not_mem_nil, or_false] at hy
    rcases hy with rfl | rfl <;> rfl
  · by_cases q : y = x
    · subst q
      cases hD.symm.trans hy
      exact ⟨E', q1.1, q2.2.1, q2.1, hsz⟩
    · exact ⟨cy, q10 y cy q hy, rfl, rfl, rfl⟩
  · obtain ⟨D3, cf, k, i, f, g1, g2, g3, g4, g5, g6, g7⟩ := F
    cases hD.symm.trans g1
    simp only [RoadKit.slotOf, g2, gV, gC, Option.map_some, Option.getD_some] at n1 n2
    exact ⟨E', cf, k, i, f, q1.1, g2, g3, by rw [q2.1]; exact g4, by rw [q2.1]; exact g5, by rw [q2.2.1]; exact g6, by rw [q2.2.2 f.slot (by simp [n1, n2])]; exact g7⟩
end StrChars.Road
namespace StrChars.Road
open Jvm Sem ClassFile Op Lib Jvm.Stand Jvm.Free Jvm.Free.XT
/-- WHAT COMES BACK, the byte[] as a list of values -/
def QA (Z : State) (x : Addr) (zn : Int32) (cs : List Int32) (h : Heap) (v : Option Value) (h' : Heap) (L : List Loc) : Prop := v = none ∧ (∀ y ∈ L, y.base = x) ∧ RoadKit.Keep h h' [x] ∧ h'.size = h.size + 1 ∧ RoadKit.Exa Z h' x ST ∧ RoadKit.Fld Z h' x ST "value" "[B" (.ref h.size) ∧ RoadKit.Fld Z h' x ST "coder" "B" (.int 0) ∧
  (∃ kb, Z.vm.findClass "[B" = some kb ∧ RoadKit.Arv Z h' h.size kb .byte zn (cs.map fun c => .int (lo8 c)) (.int 0)) ∧
  ∀ (O n d : String) (w : Value), RoadKit.Fld Z h x O n d w → RoadKit.slotOf Z O n d ≠ RoadKit.slotOf Z ST "value" "[B" → RoadKit.slotOf Z O n d ≠ RoadKit.slotOf Z ST "coder" "B" → RoadKit.Fld Z h' x O n d w
/-- **new String(chars) AT A CALL, THE ARRAYS AS LISTS**: the char[] at b holds cs, not empty, no char above 255 -/
theorem backArv {p : Program} {l : Launch} {e : Env} {R : Room} {s : State} {args : Array Value} {below : List Frame} {len W : Nat} {Z : State} {a0 : Array Value} {h : Heap} (hZ : Z.Warmed39 s.vm) (hw : ∀ d ∈ words, d.before a0 Z = true) {kI : Nat} (wi : (Jvm.Cond.instantiable ST kI).before a0 Z = true)
    {x b : Addr} {k : ClassId} {zn z : Int32} {cs : List Int32} {dv v0 c0 : Value} (E : RoadKit.Exa Z h x ST) (V : RoadKit.Fld Z h x ST "value" "[B" v0) (C : RoadKit.Fld Z h x ST "coder" "B" c0) (K : RoadKit.Arv Z h b k .char zn (cs.map Value.int) dv) (S : RoadKit.Sta Z h ST "COMPACT_STRINGS" "Z" (.int z)) (hz : ¬ z = 0)
    (hlen : zn.toNatClampNeg = cs.length) (h0 : 0 < cs.length) (hbig : cs.length ≤ 536870912) (hall : ∀ c ∈ cs, ¬ 255 < c) (hfr : 4 ≤ R.frames) (hlo : W + 65 ≤ R.locals) :
    Back l R p e below s args New1.yN len W (fun P a => a = #[.ref x, .ref b] ∧ P.U.heap = h ∧ P.cells + 1 ≤ R.cells ∧ P.slots + cs.length ≤ R.slots)
      (fun P _ v B => ∃ L, QA Z x zn cs h v B.U.heap L ∧ B.locs = P.locs ++ L ∧ B.cells = P.cells + 1 ∧ B.slots = P.slots + cs.length) := by
  obtain ⟨A, K1, K2, K3, K4, K5, K6⟩ := K
  have e : A.slots.size = cs.length := K3.trans hlen
  have hat : ∀ (i : Nat) (hi : i < cs.length), A.slots[i]? = some (.int cs[i]) := fun i hi => by rw [K5 i (by omega)]; simp [List.getD_eq_getElem?_getD, hi]
  have hcv : ∀ (i : Nat) (hi : i < cs.length), cv A i = cs[i] := fun i hi => by unfold cv; rw [hat i hi]
  have hty : Typed .char A := fun i v hv => by
    have hi : i < A.slots.size := (Array.getElem?_eq_some_iff.mp hv).1
    have q := K5 i hi
    rw [hv] at q
    rw [Option.some.inj q]
    exact K6 i hi
  refine Back.mono (back hZ hw wi E V C K1 hty S hz (by omega) (by omega) (fun i hi => by rw [hcv i (by omega)]; exact hall _ (List.getElem_mem _)) hfr hlo) (fun P a hp => ⟨hp.1, hp.2.1, hp.2.2.1, by rw [e]; exact hp.2.2.2⟩) (fun P a v B hp hq => ?_)
  obtain ⟨L, ⟨q1, q2, q3, q4, q5, q6, q7, ⟨V', v1, v2, v3, v4, v5⟩, q9⟩, hl, hc, hs⟩ := hq
  refine ⟨L, ⟨q1, q2, q3, q4, q5, q6, q7, ⟨V'.cls, v3, V', v1, rfl, by rw [v4, e, hlen], K4, fun i hi => ?_, fun i hi => ?_⟩, q9⟩, hl, hc, by rw [hs, e]⟩
  · have hi' : i < cs.length := by omega
    rw [v5 i (by omega), hcv i hi']; simp [List.getD_eq_getElem?_getD, hi']
  · have hi' : i < cs.length := by omega
    simp only [List.getD_eq_getElem?_getD, List.getElem?_map, List.getElem?_eq_getElem hi', Option.map_some, Option.getD_some]
    exact fits_lo8 _
end StrChars.Road
namespace StrChars.Road
open Jvm Sem ClassFile Op Lib Jvm.Stand Jvm.Free Jvm.Free.XT
/-- WHAT COMES BACK, in the writer's own shape -/
def QV (Z : State) (x : Addr) (N : Int32) (bs : List Int32) (h : Heap) (n0 : Nat) (v : Option Value) (h' : Heap) (L : List Loc) : Prop := v = none ∧ RoadKit.Fr n0 L ∧ RoadKit.Keep h h' [x] ∧ RoadKit.Exa Z h' x ST ∧ RoadKit.Fld Z h' x ST "coder" "B" (.int 0) ∧
  ∃ (t : Addr) (kb : ClassId), n0 ≤ t ∧ h.size ≤ t ∧ ¬ t = x ∧ RoadKit.Fld Z h' x ST "value" "[B" (.ref t) ∧ RoadKit.Arv Z h' t kb .byte N (bs.map Value.int) (.int 0)
/-- **new String(chars) AT A CALL, FOR THE WRITER**: a char[] of n known ints, each 0 to 255 -/
theorem backV {p : Program} {l : Launch} {e : Env} {R : Room} {s : State} {args : Array Value} {below : List Frame} {len W : Nat} {Z : State} {a0 : Array Value} {h : Heap} (hZ : Z.Warmed39 s.vm) (hw : ∀ d ∈ words, d.before a0 Z = true) {kI : Nat} (wi : (Jvm.Cond.instantiable ST kI).before a0 Z = true)
    {x b : Addr} {kC : ClassId} {cs bs : List Int32} {d v0 c0 : Value} {z N : Int32} {n n0 : Nat} (hx0 : n0 ≤ x) (hh0 : n0 ≤ h.size) (E : RoadKit.Exa Z h x ST) (V : RoadKit.Fld Z h x ST "value" "[B" v0) (C : RoadKit.Fld Z h x ST "coder" "B" c0) (K : RoadKit.Arv Z h b kC .char N (cs.map Value.int) d) (S : RoadKit.Sta Z h ST "COMPACT_STRINGS" "Z" (.int z)) (hz : ¬ z = 0)
    (hn : cs.length = n) (hN : N = Int32.ofNat n) (l0 : 0 < n) (l2 : n ≤ 4000) (hp : ∀ c ∈ cs, ¬ c < 0 ∧ ¬ (255 : Int32) < c) (hb : bs = cs.map (fun c => c.toInt8.toInt32)) (hfr : 4 ≤ R.frames) (hlo : W + 65 ≤ R.locals) :
    Back l R p e below s args (⟨"java/lang/String", "<init>", "([C)V"⟩ : MethodName) len W (fun P a => a = #[.ref x, .ref b] ∧ P.U.heap = h ∧ P.cells + 1 ≤ R.cells ∧ P.slots + n ≤ R.slots)
      (fun P _ v B => ∃ L, QV Z x N bs h n0 v B.U.heap L ∧ B.locs = P.locs ++ L ∧ B.cells = P.cells + 1 ∧ B.slots = P.slots + n) := by
  subst hn hN hb
  refine Back.mono (backArv hZ hw wi E V C K S hz (n32 (by omega)) l0 (by omega) (fun c hc => (hp c hc).2) hfr hlo) (fun P a hp => hp) (fun P a v B hp hq => ?_)
  obtain ⟨L, ⟨q1, q2, q3, q4, q5, q6, q7, ⟨kb, v1, v2⟩, q9⟩, hl, hc, hs⟩ := hq
  exact ⟨L, ⟨q1, fun y hy => by rw [q2 y hy]; exact hx0, q3, q5, q7, h.size, kb, hh0, Nat.le_refl _, Nat.ne_of_gt E.lt, q6, by rw [List.map_map]; exact v2⟩, hl, hc, hs⟩
end StrChars.Road
namespace StrChars
open Jvm Sem ClassFile Op Lib Jvm.Stand Jvm.Free.XT Jvm.Free.ALB Jvm.Free.JM Jvm.Free
open Jvm.Lib.Cold (StaticIs)
def hi8 (x : Int32) : Int32 := lo8 (x >>> ((8 : Int32) &&& 31))
/-- what StringUTF16.getChar makes of two bytes -/
def pairCh (u v : Int32) : Int32 := (((u &&& 255) <<< ((0 : Int32) &&& 31)) ||| ((v &&& 255) <<< ((8 : Int32) &&& 31))).toUInt32.toUInt16.toUInt32.toInt32
theorem lo8_and (x : Int32) : (lo8 x &&& 255).toBitVec.toNat = x.toBitVec.toNat % 256 := by
  have h : (lo8 x).toBitVec = (x.toBitVec.signExtend 8).signExtend 32 := by rw [lo8, Int8.toBitVec_toInt32, Int32.toBitVec_toInt8]
  rw [Int32.toBitVec_and, BitVec.toNat_and, h]
  have e : ((x.toBitVec.signExtend 8).signExtend 32).toNat % 256 = x.toBitVec.toNat % 256 := by
    rw [BitVec.toNat_signExtend]
    have hlt := x.toBitVec.isLt
    simp only [BitVec.toNat_setWidth, BitVec.toNat_signExtend]
    split <;> split <;> omega
  rw [← e]
  exact Nat.and_two_pow_sub_one_eq_mod _ 8
theorem pair_says {c : Int32} (h0 : ¬ c < 0) (h1 : ¬ 65535 < c) : pairCh (lo8 c) (hi8 c) = c := by
  rw [Int32.lt_iff_toInt_lt] at h0 h1
  have e0 : (0 : Int32).toInt = 0 := rfl
  have e1 : (65535 : Int32).toInt = 65535 := rfl
  have hc : c.toInt = c.toBitVec.toNat := by
    have := c.toBitVec.isLt
    have e : c.toInt = c.toBitVec.toInt := rfl
    rw [e] at h0 h1
    rw [e]
    rw [BitVec.toInt_eq_toNat_cond] at h0 h1 ⊢
    split at h0 <;> split <;> omega
  have hn : c.toBitVec.toNat < 65536 := by omega
  have a1 := lo8_and c
  have a2 : (hi8 c &&& 255).toBitVec.toNat = c.toBitVec.toNat / 256 := by
    rw [hi8, lo8_and]
    have e : ((8 : Int32) &&& 31) = 8 := by decide
    rw [e, Int32.toBitVec_shiftRight]
    have e2 : ((8 : Int32).toBitVec.smod 32) = 8#32 := by decide
    rw [e2, BitVec.sshiftRight_eq', BitVec.toNat_sshiftRight_of_msb_false (by rw [BitVec.msb_eq_false_iff_two_mul_lt]; omega)]
    show c.toBitVec.toNat >>> 8 % 256 = _
    rw [Nat.shiftRight_eq_div_pow]
    omega
  unfold pairCh
  apply Int32.toBitVec_inj.mp
  apply BitVec.eq_of_toNat_eq
  have f0 : ((0 : Int32) &&& 31) = 0 := by decide
  have f8 : ((8 : Int32) &&& 31) = 8 := by decide
  rw [f0, f8]
  have g : (((lo8 c &&& 255) <<< (0 : Int32)) ||| ((hi8 c &&& 255) <<< (8 : Int32))).toBitVec.toNat = c.toBitVec.toNat := by
    rw [Int32.toBitVec_or, Int32.toBitVec_shiftLeft, Int32.toBitVec_shiftLeft]
    have s0 : ((0 : Int32).toBitVec.smod 32) = 0#32 := by decide
    have s8 : ((8 : Int32).toBitVec.smod 32) = 8#32 := by decide
    rw [s0, s8, BitVec.toNat_or]
    simp only [BitVec.shiftLeft_eq', BitVec.toNat_shiftLeft, a1, a2]
    show (c.toBitVec.toNat % 256) <<< 0 % 2 ^ 32 ||| (c.toBitVec.toNat / 256) <<< 8 % 2 ^ 32 = _
    rw [Nat.shiftLeft_zero, Nat.mod_eq_of_lt (show c.toBitVec.toNat % 256 < 2 ^ 32 by omega), Nat.mod_eq_of_lt (show (c.toBitVec.toNat / 256) <<< 8 < 2 ^ 32 by rw [Nat.shiftLeft_eq]; omega), Nat.or_comm, ← Nat.shiftLeft_add_eq_or_of_lt (by omega), Nat.shiftLeft_eq]
    omega
  show BitVec.toNat (((((lo8 c &&& 255) <<< (0 : Int32)) ||| ((hi8 c &&& 255) <<< (8 : Int32))).toBitVec.setWidth 16).setWidth 32) = _
  rw [BitVec.toNat_setWidth, BitVec.toNat_setWidth, g]
  omega
end StrChars
namespace StrChars
open Jvm Sem ClassFile Op Lib Jvm.Stand Jvm.Free.XT Jvm.Free.ALB Jvm.Free.JM Jvm.Free
open Jvm.Lib.Cold (StaticIs)
theorem shr1 {n : Nat} (h : 2 * n < 2 ^ 31) : Int32.ofNat (2 * n) >>> ((1 : Int32) &&& 31) = Int32.ofNat n := by
  have e : ((1 : Int32) &&& 31) = 1 := by decide
  rw [e]
  apply Int32.toBitVec_inj.mp
  rw [Int32.toBitVec_shiftRight]
  have e1 : ((1 : Int32).toBitVec.smod 32) = 1#32 := by decide
  have hm : (BitVec.ofNat 32 (2 * n)).toNat = 2 * n := by rw [BitVec.toNat_ofNat, Nat.mod_eq_of_lt (by omega)]
  rw [e1, BitVec.sshiftRight_eq']
  apply BitVec.eq_of_toNat_eq
  show ((BitVec.ofNat 32 (2 * n)).sshiftRight 1).toNat = (BitVec.ofNat 32 n).toNat
  rw [BitVec.toNat_sshiftRight_of_msb_false (by rw [BitVec.msb_eq_false_iff_two_mul_lt, hm]; omega), hm, BitVec.toNat_ofNat, Nat.shiftRight_eq_div_pow]
  omega
/-- charAt's cast of a byte read back -/
def chr8 (u : Int32) : Int32 := (u &&& 255).toUInt32.toUInt16.toUInt32.toInt32
theorem chr8_lo8 {c : Int32} (h0 : ¬ c < 0) (h1 : ¬ 255 < c) : chr8 (lo8 c) = c := by
  have t : ∀ k : Fin 256, (Int32.ofNat k.val).toUInt32.toUInt16.toUInt32.toInt32 = Int32.ofNat k.val := by decide +kernel
  unfold chr8
  rw [lo8_mask h0 h1]
  rw [Int32.lt_iff_toInt_lt] at h0 h1
  have e0 : (0 : Int32).toInt = 0 := rfl
  have e1 : (255 : Int32).toInt = 255 := rfl
  obtain ⟨k, hk⟩ : ∃ k : Nat, c.toInt = k := ⟨c.toInt.toNat, by omega⟩
  have hx : c = Int32.ofNat k := Int32.toInt_inj.mp (by rw [hk, Int32.toInt_ofNat_small (by omega)])
  rw [hx]
  exact t ⟨k, by omega⟩
end StrChars
namespace StrChars.Road
open Jvm Sem ClassFile Op Lib Jvm.Stand Jvm.Free Jvm.Free.XT
open Jvm.Lib.Cold (StaticIs)
/-- the bytes of the chars cs, low before high -/
def wideBytes : List Int32 → List Value
  | [] => []
  | c :: cs => .int (lo8 c) :: .int (hi8 c) :: wideBytes cs
theorem wide_lo (d : Value) : ∀ (cs : List Int32) (j : Nat), j < cs.length → (wideBytes cs).getD (2 * j) d = .int (lo8 (cs.getD j 0))
  | [], j, h => absurd h (Nat.not_lt_zero j)
  | c :: cs, 0, _ => rfl
  | c :: cs, j + 1, h => by
    have q := wide_lo d cs j (by simpa using h)
    rw [show 2 * (j + 1) = 2 * j + 1 + 1 from by omega]
    simpa [wideBytes] using q
theorem wide_hi (d : Value) : ∀ (cs : List Int32) (j : Nat), j < cs.length → (wideBytes cs).getD (2 * j + 1) d = .int (hi8 (cs.getD j 0))
  | [], j, h => absurd h (Nat.not_lt_zero j)
  | c :: cs, 0, _ => rfl
  | c :: cs, j + 1, h => by
    have q := wide_hi d cs j (by simpa using h)
    rw [show 2 * (j + 1) + 1 = 2 * j + 1 + 1 + 1 from by omega]
    simpa [wideBytes] using q
theorem low_at (d : Value) (cs : List Int32) (j : Nat) (h : j < cs.length) : (cs.map fun c => Value.int (lo8 c)).getD j d = .int (lo8 (cs.getD j 0)) := by
  simp [List.getD_eq_getElem?_getD, h]
end StrChars.Road
end Jvm.Pilot.@@N@@
namespace Jvm.Pilot.@@N@@
open Jvm Jvm.ClassFile Sem Op Lib Jvm.Free Jvm.Stand Jvm.LawKit Jvm.RoadKit Bundle Jvm.Pilot.@@N@@.Jvm.D
/-- an object of exactly this class that the program made (no cell of the machine's own) -/
def Obj (Z : State) (h : Heap) (a : Addr) (C : String) : Prop := ∃ (cell : Cell) (k : Class), h[a]? = some cell ∧ Z.vm.findClass C = some cell.cls ∧ Z.vm.classes[cell.cls]? = some k ∧ cell.vm = .none ∧ (k.kind = .ordinary → cell.slots.size = k.instanceTypes.size)
section ObjS
variable {Z : State} {h h' h0 : Heap} {a b : Addr} {C O n d : String} {sl kk : Nat} {v : Value} {ws : List Addr} {a0 : Array Value}
theorem Obj.of (E : Exa Z h a C) (q : ∃ cell : Cell, h[a]? = some cell ∧ cell.vm = .none ∧ cell.monitor = {}) : Obj Z h a C := by
  obtain ⟨cell, k, h1, h2, h3, h4, h5⟩ := E
  obtain ⟨cell', g1, g2, -⟩ := q
  cases h1.symm.trans g1
  exact ⟨cell, k, h1, h2, h3, g2, h5⟩
theorem Obj.exa (F : Obj Z h a C) : Exa Z h a C := by
  obtain ⟨cell, k, h1, h2, h3, h4, h5⟩ := F
  exact ⟨cell, k, h1, h2, h3, by rw [h4]; rfl, h5⟩
theorem Obj.lt (F : Obj Z h a C) : a < h.size := F.exa.lt
theorem Obj.ext (F : Obj Z h b C) (E : Ext h h') : Obj Z h' b C := by obtain ⟨cell, k, h1, r⟩ := F; exact ⟨cell, k, E.2 _ _ h1, r⟩
theorem Obj.keep (F : Obj Z h a C) (K : Keep h h' ws) : Obj Z h' a C := by
  obtain ⟨cell, k, h1, h2, h3, h4, h5⟩ := F
  obtain ⟨c', q1, q2, q3, q4⟩ := K.2.2 _ _ h1
  exact ⟨c', k, q1, by rw [q2]; exact h2, by rw [q2]; exact h3, by rw [q3]; exact h4, fun q => by rw [q4]; exact h5 q⟩
theorem Obj.wr (F : Obj Z h b C) (W : Wr h h' a sl v) : Obj Z h' b C := F.keep (Keep.of_wr W)
/-- each field that is laid in such an object holds something -/
theorem Obj.fld (F : Obj Z h a C) (L : Laid Z a0 C O n d) (wi : (Cond.instantiable C kk).before a0 Z = true) : ∃ v, Fld Z h a O n d v := by
  obtain ⟨cell, k, h1, h2, h3, h4, h5⟩ := F
  obtain ⟨c1, k1, cf, kf, i, f, a1, a2, a3, a4, a5, a6, -⟩ := L.spec
  obtain ⟨c2, k2, i1, i2, i3, -⟩ := Cond.instantiable_spec wi
  cases h2.symm.trans a1
  cases h2.symm.trans i1
  cases a2.symm.trans i2
  cases h3.symm.trans a2
  have hs := h5 i3
  have hlt : f.slot < cell.slots.size := by rw [hs]; exact (Array.getElem?_eq_some_iff.mp a6).1
  exact ⟨cell.slots[f.slot], cell, cf, kf, i, f, h1, a3, a4, by rw [h4]; simp, by rw [h4]; rfl, a5, Array.getElem?_eq_getElem hlt⟩
end ObjS
theorem gw {Z : State} {a0 : Array Value} (hw : ∀ d ∈ tables_1, d.before a0 Z = true) (i : Nat) {d : Jvm.Cond} (h : tables_1[i]? = some d) : d.before a0 Z = true := hw _ (List.mem_of_getElem? (i := i) h)
section OwnWords
variable {args : Array Value} {s : State} {t u : Term} {a b : Addr} {n : Int32} {cl : Cell} {ty : FieldType} {v : Value}
theorem own_wI (h : (Cond.eq t (Term.int n)).value args s none s [] = some true) : t.eval args s none [] s = some (.int n) := by
  cases hx : t.eval args s none [] s with
  | none => simp [Cond.value, hx] at h
  | some x => cases x <;> simp [Cond.value, hx, Term.eval] at h ⊢ <;> exact h
theorem own_wR (h : (Cond.eq t u).value args s none s [] = some true) (hu : u.eval args s none [] s = some (.ref b)) : t.eval args s none [] s = some (.ref b) := by
  cases hx : t.eval args s none [] s with
  | none => simp [Cond.value, hx] at h
  | some x => cases x <;> simp [Cond.value, hx, hu] at h ⊢ <;> exact h
theorem own_wL (h : (Term.length t).eval args s none [] s = some (.int n)) (ht : t.eval args s none [] s = some (.ref a)) (A : Arr s s.heap a cl ty) : cl.slots.size < 2 ^ 31 ∧ cl.slots.size.toInt32 = n := by
  have ha : s.arrayAt? a = some cl := Arr.fin (Z := s) (U := s) (Vm.Alike.refl _) A
  simp only [Term.eval, ht, ha, Option.bind_eq_bind, Option.bind_some] at h
  by_cases q : cl.slots.size < 2 ^ 31
  · rw [if_pos q] at h; exact ⟨q, Value.int.inj (Option.some.inj h)⟩
  · rw [if_neg q] at h; cases h
theorem own_wE {j : Int32} (h : (Term.elem t (Term.int j)).eval args s none [] s = some v) (ht : t.eval args s none [] s = some (.ref a)) (A : Arr s s.heap a cl ty) : cl.slots[j.toNatClampNeg]? = some v := (elem_in h ht rfl A.1).2
theorem own_wF {C f d : String} (h : (Term.field t C f d).eval args s none [] s = some v) (ht : t.eval args s none [] s = some (.ref a)) : Fld s s.heap a C f d v := Fld.start (by rw [← h]; exact (fld_at ht).symm)
end OwnWords
/-! lists of bytes in a builder's array of 16, and small numbers as ints -/
section OwnW
def own_B (cs : List Int32) : List Value := (cs.map fun c => c.toInt8.toInt32).map Value.int
theorem own_Blen (cs : List Int32) : (own_B cs).length = cs.length := by simp [own_B]
theorem own_Bapp (a b : List Int32) : own_B (a ++ b) = own_B a ++ own_B b := by simp [own_B]
def own_W (B : List Value) : List Value := B ++ List.replicate (16 - B.length) (.int 0)
theorem own_Wlen {B : List Value} (h : B.length ≤ 16) : (own_W B).length = 16 := by simp [own_W]; omega
theorem own_on {n : Nat} (h : n ≤ 4000) : (Int32.ofNat n).toInt = n ∧ ¬ Int32.ofNat n < 0 ∧ (Int32.ofNat n).toNatClampNeg = n := by
  have e : (Int32.ofNat n).toInt = n := Int32.toInt_ofNat_of_lt (by omega)
  have hn : ¬ Int32.ofNat n < 0 := by
    rw [Int32.lt_iff_toInt_lt, e]
    have : (0 : Int32).toInt = 0 := by decide
    omega
  refine ⟨e, hn, ?_⟩
  have := nat_of hn
  omega
theorem own_addN {a b : Nat} (h : a + b ≤ 4000) : Int32.ofNat a + Int32.ofNat b = Int32.ofNat (a + b) := by
  apply Int32.toInt_inj.mp
  have e1 := (own_on (n := a) (by omega)).1
  have e2 := (own_on (n := b) (by omega)).1
  have e3 := (own_on h).1
  have q := c_iadd (Int32.ofNat a) (Int32.ofNat b)
  have r := rng32 (Int32.ofNat a + Int32.ofNat b)
  omega
theorem own_WA {B U : List Value} {n : Nat} (hn : U.length = n) (h : B.length + n ≤ 16) : (own_W B).take (Int32.ofNat B.length).toNatClampNeg ++ U ++ (own_W B).drop ((Int32.ofNat B.length).toNatClampNeg + (Int32.ofNat n).toNatClampNeg) = own_W (B ++ U) := by
  subst hn
  rw [(own_on (n := B.length) (by omega)).2.2, (own_on (n := U.length) (by omega)).2.2]
  simp only [own_W, List.take_left', List.length_append]
  rw [List.drop_append, List.drop_eq_nil_of_le (by omega : B.length ≤ B.length + U.length), List.nil_append, List.drop_replicate]
  congr 2
  omega
theorem own_Wtake {B : List Value} (h : B.length ≤ 16) : (own_W B).take (Int32.ofNat B.length).toNatClampNeg = B := by
  rw [(own_on (n := B.length) (by omega)).2.2]
  simp only [own_W]
  rw [List.take_append_of_le_length (Nat.le_refl _), List.take_length]
theorem own_room {a b : Nat} (h : a + b ≤ 16) : ¬ (0 : Int32) < Int32.ofNat a + Int32.ofNat b - (16 : Int32) := by
  rw [own_addN (by omega)]
  have e3 := (own_on (n := a + b) (by omega)).1
  have q := c_isub (Int32.ofNat (a + b)) 16
  have r := rng32 (Int32.ofNat (a + b) - 16)
  have k : (16 : Int32).toInt = 16 := by decide
  have k0 : (0 : Int32).toInt = 0 := by decide
  rw [Int32.lt_iff_toInt_lt]
  omega
end OwnW
def own_EL : List (String × Nat) := [("java/lang/String", 7)]
theorem own_wS {Z : State} {a0 : Array Value} (hw : ∀ d ∈ tables_1, d.before a0 Z = true) : ∀ a ∈ Bundle.stringAtoms, a.before a0 Z = true := fun d hd => hw d ((by decide +kernel : ∀ d ∈ Bundle.stringAtoms, d ∈ tables_1) d hd)
theorem own_hEL {Z : State} {a0 : Array Value} (hw : ∀ d ∈ tables_1, d.before a0 Z = true) : EW Z a0 own_EL := (EW.cons (gw hw 16 rfl) (by decide) EW.nil)
theorem own_shr0 (x : Int32) : x >>> ((0 : Int32) &&& 31) = x := by
  apply Int32.toInt_inj.mp
  rw [c_ishr x 0 0 (by decide)]; simp
theorem own_shl0 (x : Int32) : x <<< ((0 : Int32) &&& 31) = x := by
  apply Int32.toInt_inj.mp
  have h := c_ishl x 0 0 (by decide)
  have r1 := rng32 x
  have r2 := rng32 (x <<< ((0 : Int32) &&& 31))
  simp only [Nat.pow_zero, Int.natCast_one, Int.mul_one, Int.cast_ofNat_Int] at h
  omega
theorem own_rng (us : List Value) (d : Value) : us = (List.range us.length).map fun i => us.getD ((0 : Int32).toNatClampNeg + i) d := by
  apply List.ext_getElem
  · simp
  · intro i h1 h2
    have e : (0 : Int32).toNatClampNeg = 0 := by decide
    simp [e, List.getD_eq_getElem?_getD, h1]
theorem own_decl {s : State} {a : Array Value} {y : MethodName} {bytes : ByteArray} {maxL : Nat} {ret : Option FieldType} (w1 : (Cond.instanceMethod y).before a s = true) (w2 : (Cond.code y bytes maxL ret).before a s = true) : (Cond.declares y).before a s = true := by
  obtain ⟨mk, methM, hnamed, hmethM, hst, -⟩ := Cond.instanceMethod_spec w1
  obtain ⟨m2, cM, q1, -, -, -, -, -, -, hsig⟩ := Cond.code_spec hnamed w2
  cases hmethM.symm.trans q1
  simp [Cond.before, Cond.holds, Cond.value, hnamed, hmethM, hst, hsig]
theorem own_nf {s : State} {a : Array Value} {y y' : MethodName} (hc : y.cls = y'.cls) (N : NotFace s y') (w : (Cond.instanceMethod y').before a s = true) : NotFace s y := fun r0 h0 => by
  obtain ⟨mk, methM, hnamed, -⟩ := Cond.instanceMethod_spec w
  obtain ⟨kr, h1, h2⟩ := N mk hnamed
  have e1 := findClass_of_methodNamed h0
  have e2 := findClass_of_methodNamed hnamed
  rw [hc, e2] at e1
  rw [← Option.some.inj e1]
  exact ⟨kr, h1, h2⟩
theorem own_same {s : State} {a : Array Value} {y : MethodName} (w : (Cond.instanceMethod y).before a s = true) (N : NotFace s y) (hy : y.cls ≠ "java/lang/invoke/MethodHandle" ∧ y.cls ≠ "java/lang/invoke/VarHandle") : (Cond.sameMethod y.cls y.cls y.name y.desc).before a s = true := by
  obtain ⟨mk, methM, hnamed, -⟩ := Cond.instanceMethod_spec w
  obtain ⟨kr, h1, h2⟩ := N mk hnamed
  have e1 := findClass_of_methodNamed hnamed
  have e2 := State.methodFound?_of_named hnamed hy
  obtain ⟨c1, n1, d1⟩ := y
  simp only at e1 e2
  simp [Cond.before, Cond.holds, Cond.value, e1, e2, hnamed, h1, h2]
theorem own_n16 {x : Int32} (h : ¬ x < 0 ∧ ¬ (65535 : Int32) < x) : nar .char x = x := by
  have q := c_i2c x
  have k0 : (0 : Int32).toInt = 0 := by decide
  have k1 : (65535 : Int32).toInt = 65535 := by decide
  obtain ⟨h1, h2⟩ := h
  rw [Int32.lt_iff_toInt_lt] at h1 h2
  apply Int32.toInt_inj.mp
  show (x.toUInt32.toUInt16.toUInt32.toInt32).toInt = _
  omega
theorem own_l1 {x : Int32} (h : ¬ x < 0 ∧ ¬ (255 : Int32) < x) : nar .char ((StrChars.lo8 x &&& (255 : Int32)).toUInt32.toUInt16.toUInt32.toInt32) = x := by
  have e : nar .char ((StrChars.lo8 x &&& (255 : Int32)).toUInt32.toUInt16.toUInt32.toInt32) = StrChars.chr8 (StrChars.lo8 x) := by simp only [nar, UInt32.toUInt32_toInt32, UInt16.toUInt16_toUInt32]; rfl
  rw [e]; exact StrChars.chr8_lo8 h.1 h.2
theorem own_pr {x : Int32} (h : ¬ x < 0 ∧ ¬ (65535 : Int32) < x) : nar .char ((((StrChars.lo8 x &&& (255 : Int32)) <<< ((0 : Int32) &&& 31)) ||| ((StrChars.hi8 x &&& (255 : Int32)) <<< ((8 : Int32) &&& 31))).toUInt32.toUInt16.toUInt32.toInt32) = x := by
  have e : nar .char ((((StrChars.lo8 x &&& (255 : Int32)) <<< ((0 : Int32) &&& 31)) ||| ((StrChars.hi8 x &&& (255 : Int32)) <<< ((8 : Int32) &&& 31))).toUInt32.toUInt16.toUInt32.toInt32) = StrChars.pairCh (StrChars.lo8 x) (StrChars.hi8 x) := by simp only [nar, UInt32.toUInt32_toInt32, UInt16.toUInt16_toUInt32]; rfl
  rw [e]; exact StrChars.pair_says h.1 h.2
theorem own_b2 (x : Int32) : nar .byte (x.toInt8.toInt32) = StrChars.lo8 x := by
  show (x.toInt8.toInt32).toInt8.toInt32 = x.toInt8.toInt32
  simp
theorem own_blo (x : Int32) : nar .byte ((x >>> ((0 : Int32) &&& 31)).toInt8.toInt32) = StrChars.lo8 x := by rw [own_shr0]; exact own_b2 x
theorem own_bhi (x : Int32) : nar .byte ((x >>> ((8 : Int32) &&& 31)).toInt8.toInt32) = StrChars.hi8 x := own_b2 _
theorem own_isr {v : Value} (h : v.isRef = true) : v = .null ∨ ∃ a, v = .ref a := by
  cases v <;> first | exact Or.inl rfl | exact Or.inr ⟨_, rfl⟩ | (simp [Value.isRef] at h; done)
theorem own_lt2 {i j : Nat} (h : i < j) (hj : j ≤ 4000) : ¬ Int32.ofNat i < 0 ∧ Int32.ofNat i < Int32.ofNat j := by
  have e1 := own_on (n := i) (by omega)
  have e2 := (own_on hj).1
  refine ⟨e1.2.1, ?_⟩
  rw [Int32.lt_iff_toInt_lt]; omega
theorem own_shl1 {i : Nat} (h : i ≤ 1000) : Int32.ofNat i <<< ((1 : Int32) &&& 31) = Int32.ofNat (2 * i) := by
  apply Int32.toInt_inj.mp
  have q := c_ishl (Int32.ofNat i) 1 1 (by decide)
  have r := rng32 (Int32.ofNat i <<< ((1 : Int32) &&& 31))
  have e1 := (own_on (n := i) (by omega)).1
  have e2 := (own_on (n := 2 * i) (by omega)).1
  simp only [Nat.pow_one] at q
  omega
theorem own_inc {i : Nat} (h : i + 1 ≤ 4000) : Int32.ofNat i + (1 : Int32) = Int32.ofNat (i + 1) := own_addN (b := 1) h
def own_C (cs : List Int32) (cd N2 : Int32) (us : List Value) : Prop := (cd = 0 ∧ N2 = Int32.ofNat cs.length ∧ us = (cs.map fun z => Value.int (StrChars.lo8 z)) ∧ ∀ z ∈ cs, ¬ (255 : Int32) < z) ∨ (cd = 1 ∧ N2 = Int32.ofNat (2 * cs.length) ∧ us = StrChars.Road.wideBytes cs)
theorem own_Cz {cs : List Int32} {cd N2 : Int32} {us : List Value} (h : own_C cs cd N2 us) (h1 : 1 ≤ cs.length) (h2 : cs.length ≤ 100) : ¬ N2 = (0 : Int32) := by
  have k0 : (0 : Int32).toInt = 0 := by decide
  intro q
  have q2 := congrArg Int32.toInt q
  rcases h with ⟨-, rfl, -⟩ | ⟨-, rfl, -⟩
  · have e := (own_on (n := cs.length) (by omega)).1
    omega
  · have e := (own_on (n := 2 * cs.length) (by omega)).1
    omega
theorem own_g {P : Int32 → Prop} {cs : List Int32} (h : ∀ z ∈ cs, P z) {i : Nat} (hi : i < cs.length) : P (cs.getD i 0) := by
  have e : cs.getD i 0 = cs[i] := by simp [List.getD_eq_getElem?_getD, hi]
  rw [e]; exact h _ (List.getElem_mem hi)
theorem own_s0 (x : Int32) : x >>> ((0 : Int32) &&& 31) = x := own_shr0 x
theorem pn_jdk_internal_util_Preconditions : plainName "jdk/internal/util/Preconditions" = true := by first | (simp [plainName, overriddenIn]; done) | decide +kernel
theorem D0_0 : decode jdk_41_method_11_code 0 = .ok (.iload_n 0, 1) := by decide +kernel
theorem D0_1 : decode jdk_41_method_11_code 1 = .ok (.ifCond .lt 8, 3) := by decide +kernel
theorem D0_4 : decode jdk_41_method_11_code 4 = .ok (.iload_n 0, 1) := by decide +kernel
theorem D0_5 : decode jdk_41_method_11_code 5 = .ok (.iload_n 1, 1) := by decide +kernel
theorem D0_6 : decode jdk_41_method_11_code 6 = .ok (.if_icmp .lt 10, 3) := by decide +kernel
theorem D0_16 : decode jdk_41_method_11_code 16 = .ok (.iload_n 0, 1) := by decide +kernel
theorem D0_17 : decode jdk_41_method_11_code 17 = .ok (.ireturn, 1) := by decide +kernel
theorem ef_own_pcR (m : MethodId) {ix : Int32} {nn : Int32} {ga : Addr} : entryFrame m #[(.int ix), (.int nn), (.ref ga)] 3 = mkF m 0 #[.val (.int ix), .val (.int nn), .val (.ref ga)] [] := by first | (simp [entryFrame, mkF, argsToLocals, Value.category]; done) | rfl
def Q_own_pcR (Z : State) (ix nn : Int32) (ga : Addr) (h0 : Heap) (n0 : Nat) (v : Option Value) (h : Heap) (L : List Loc) : Prop := v = some (.int ix) ∧ Fr n0 L ∧ h = h0
set_option maxRecDepth 65536 in
set_option maxHeartbeats 40000000 in
theorem own_pcR (l : Launch) (Z : State) (a0 : Array Value) (hw : ∀ d ∈ tables_1, d.before a0 Z = true) (ws : List Jvm.Cond) (ix nn : Int32) (ga : Addr) (h0 : Heap) (n0 : Nat) (Z0 : n0 ≤ h0.size) (hi0 : ¬ ix < 0 ∧ ix < nn) :
    MetFree l (⟨"jdk/internal/util/Preconditions", "checkIndex", "(IILjava/util/function/BiFunction;)I"⟩ : MethodName) (head1 (Jvm.Cond.code (⟨"jdk/internal/util/Preconditions", "checkIndex", "(IILjava/util/function/BiFunction;)I"⟩ : MethodName) jdk_41_method_11_code 3 (some .int) :: ws) ({ frames := 0, cells := 0, slots := 0, locals := 0 } : Room)) (fun a U => a = #[(.int ix), (.int nn), (.ref ga)] ∧ Z.Warmed39 U.vm ∧ U.heap = h0) (fun _ _ _ _ _ => True) (fun _ U o U' => ∃ v L, o = .returned v ∧ Q_own_pcR Z ix nn ga h0 n0 v U'.heap L ∧ FrameEnd U o U' L ({ frames := 0, cells := 0, slots := 0, locals := 0 } : Room).cells ({ frames := 0, cells := 0, slots := 0, locals := 0 } : Room).slots) := by
  refine MetFree.of_bodySF (plainFor_of_name pn_jdk_internal_util_Preconditions) hisR ?_
  intro p e s m args below meth c s₁ Bd hml0 hP hK
  obtain ⟨rfl, hZ, hh⟩ := hP
  have hx := Bd.exec
  have hby := Bd.bytes
  have hml : c.maxLocals = 3 := hml0
  have hown : s.vm.findClass "jdk/internal/util/Preconditions" = some m.cls := findClass_of_methodNamed Bd.named
  have hnm := (name_of_methodNamed Bd.named Bd.method).1
  have X0 : Stand p l e ({ frames := 0, cells := 0, slots := 0, locals := 0 } : Room) s m #[(.int ix), (.int nn), (.ref ga)] below meth c s₁ [] 0 0 := Stand.of_body Bd
  have e0 : s₁.heap = h0 := by rw [← hh, Bd.state]; rfl
  have N0 := Fr.nil n0
  have pre0 : ∀ t, Steps p.tables e below (s₁.setTop (mkF m 0 #[.val (.int ix), .val (.int nn), .val (.ref ga)] [])) t → Steps p.tables e below (s₁.setTop (entryFrame m #[(.int ix), (.int nn), (.ref ga)] 3)) t := fun t k => castTop (ef_own_pcR m) k
  obtain ⟨fs, hr, hrun, hended, hW, hsame⟩ := X0.leave (v := some (.int ix)) (fun h => by rw [Bd.returns] at h; cases h)
  refine ⟨_, _, pre0 _ ?_, hrun, hended, _, _, rfl, ?_, ⟨_, rfl⟩, hW, hsame.mono (by decide) (by decide)⟩
  · refine XS.iloadN X0.here hx rfl (hb hby D0_0) rfl ?_
    refine XS.ifNo X0.here hx rfl (hb hby D0_1) rfl ((if0 _ _).trans (flt hi0.1).1) ?_
    refine XS.iloadN X0.here hx rfl (hb hby D0_4) rfl ?_
    refine XS.iloadN X0.here hx rfl (hb hby D0_5) rfl ?_
    refine XS.icmpYes X0.here hx rfl (pc0 := 6) (pc' := 16) rfl (hb hby D0_6) rfl (tlt hi0.2).1 (by decide) (by decide) ?_
    refine XS.iloadN X0.here hx rfl (hb hby D0_16) rfl ?_
    exact retI X0 hx Bd.returns (hb hby D0_17) hr
  · show Q_own_pcR Z ix nn ga h0 n0 _ s₁.heap _
    rw [e0]
    exact ⟨rfl, N0, rfl⟩
theorem ef_own_pcN (m : MethodId) {ix : Int32} {nn : Int32} : entryFrame m #[(.int ix), (.int nn), .null] 3 = mkF m 0 #[.val (.int ix), .val (.int nn), .val .null] [] := by first | (simp [entryFrame, mkF, argsToLocals, Value.category]; done) | rfl
def Q_own_pcN (Z : State) (ix nn : Int32) (h0 : Heap) (n0 : Nat) (v : Option Value) (h : Heap) (L : List Loc) : Prop := v = some (.int ix) ∧ Fr n0 L ∧ h = h0
set_option maxRecDepth 65536 in
set_option maxHeartbeats 40000000 in
theorem own_pcN (l : Launch) (Z : State) (a0 : Array Value) (hw : ∀ d ∈ tables_1, d.before a0 Z = true) (ws : List Jvm.Cond) (ix nn : Int32) (h0 : Heap) (n0 : Nat) (Z0 : n0 ≤ h0.size) (hi0 : ¬ ix < 0 ∧ ix < nn) :
    MetFree l (⟨"jdk/internal/util/Preconditions", "checkIndex", "(IILjava/util/function/BiFunction;)I"⟩ : MethodName) (head1 (Jvm.Cond.code (⟨"jdk/internal/util/Preconditions", "checkIndex", "(IILjava/util/function/BiFunction;)I"⟩ : MethodName) jdk_41_method_11_code 3 (some .int) :: ws) ({ frames := 0, cells := 0, slots := 0, locals := 0 } : Room)) (fun a U => a = #[(.int ix), (.int nn), .null] ∧ Z.Warmed39 U.vm ∧ U.heap = h0) (fun _ _ _ _ _ => True) (fun _ U o U' => ∃ v L, o = .returned v ∧ Q_own_pcN Z ix nn h0 n0 v U'.heap L ∧ FrameEnd U o U' L ({ frames := 0, cells := 0, slots := 0, locals := 0 } : Room).cells ({ frames := 0, cells := 0, slots := 0, locals := 0 } : Room).slots) := by
  refine MetFree.of_bodySF (plainFor_of_name pn_jdk_internal_util_Preconditions) hisR ?_
  intro p e s m args below meth c s₁ Bd hml0 hP hK
  obtain ⟨rfl, hZ, hh⟩ := hP
  have hx := Bd.exec
  have hby := Bd.bytes
  have hml : c.maxLocals = 3 := hml0
  have hown : s.vm.findClass "jdk/internal/util/Preconditions" = some m.cls := findClass_of_methodNamed Bd.named
  have hnm := (name_of_methodNamed Bd.named Bd.method).1
  have X0 : Stand p l e ({ frames := 0, cells := 0, slots := 0, locals := 0 } : Room) s m #[(.int ix), (.int nn), .null] below meth c s₁ [] 0 0 := Stand.of_body Bd
  have e0 : s₁.heap = h0 := by rw [← hh, Bd.state]; rfl
  have N0 := Fr.nil n0
  have pre0 : ∀ t, Steps p.tables e below (s₁.setTop (mkF m 0 #[.val (.int ix), .val (.int nn), .val .null] [])) t → Steps p.tables e below (s₁.setTop (entryFrame m #[(.int ix), (.int nn), .null] 3)) t := fun t k => castTop (ef_own_pcN m) k
  obtain ⟨fs, hr, hrun, hended, hW, hsame⟩ := X0.leave (v := some (.int ix)) (fun h => by rw [Bd.returns] at h; cases h)
  refine ⟨_, _, pre0 _ ?_, hrun, hended, _, _, rfl, ?_, ⟨_, rfl⟩, hW, hsame.mono (by decide) (by decide)⟩
  · refine XS.iloadN X0.here hx rfl (hb hby D0_0) rfl ?_
    refine XS.ifNo X0.here hx rfl (hb hby D0_1) rfl ((if0 _ _).trans (flt hi0.1).1) ?_
    refine XS.iloadN X0.here hx rfl (hb hby D0_4) rfl ?_
    refine XS.iloadN X0.here hx rfl (hb hby D0_5) rfl ?_
    refine XS.icmpYes X0.here hx rfl (pc0 := 6) (pc' := 16) rfl (hb hby D0_6) rfl (tlt hi0.2).1 (by decide) (by decide) ?_
    refine XS.iloadN X0.here hx rfl (hb hby D0_16) rfl ?_
    exact retI X0 hx Bd.returns (hb hby D0_17) hr
  · show Q_own_pcN Z ix nn h0 n0 _ s₁.heap _
    rw [e0]
    exact ⟨rfl, N0, rfl⟩
theorem pn_java_lang_String : plainName "java/lang/String" = true := by first | (simp [plainName, overriddenIn]; done) | decide +kernel
theorem D1_0 : decode jdk_42_method_155_code 0 = .ok (.iload_n 0, 1) := by decide +kernel
theorem D1_1 : decode jdk_42_method_155_code 1 = .ok (.iload_n 1, 1) := by decide +kernel
theorem D1_2 : decode jdk_42_method_155_code 2 = .ok (.getstatic 1053, 3) := by decide +kernel
theorem pd__IILjava_util_function_BiFunction__I : parseMethodDescriptor "(IILjava/util/function/BiFunction;)I" = some ⟨[.int, .int, (.object "java/util/function/BiFunction")], some .int⟩ := by decide +kernel
theorem D1_5 : decode jdk_42_method_155_code 5 = .ok (.invokestatic 1059, 3) := by decide +kernel
theorem D1_8 : decode jdk_42_method_155_code 8 = .ok (.pop, 1) := by decide +kernel
theorem D1_9 : decode jdk_42_method_155_code 9 = .ok (.return_, 1) := by decide +kernel
theorem ef_own_cki (m : MethodId) {ix : Int32} {nn : Int32} : entryFrame m #[(.int ix), (.int nn)] 2 = mkF m 0 #[.val (.int ix), .val (.int nn)] [] := by first | (simp [entryFrame, mkF, argsToLocals, Value.category]; done) | rfl
def Q_own_cki (Z : State) (ix nn : Int32) (G3 : Value) (h0 : Heap) (n0 : Nat) (v : Option Value) (h : Heap) (L : List Loc) : Prop := v = none ∧ Fr n0 L ∧ h = h0
set_option maxRecDepth 65536 in
set_option maxHeartbeats 40000000 in
theorem own_cki (l : Launch) (Z : State) (a0 : Array Value) (hw : ∀ d ∈ tables_1, d.before a0 Z = true) (ws : List Jvm.Cond) (ix nn : Int32) (G3 : Value) (h0 : Heap) (n0 : Nat) (Z0 : n0 ≤ h0.size) (hi0 : ¬ ix < 0 ∧ ix < nn) (O4 : Sta Z Z.heap "jdk/internal/util/Preconditions" "SIOOBE_FORMATTER" "Ljava/util/function/BiFunction;" G3) (rG3 : G3.isRef = true) (XO : Old Z n0 h0) :
    MetFree l (⟨"java/lang/String", "checkIndex", "(II)V"⟩ : MethodName) (head1 (Jvm.Cond.code (⟨"java/lang/String", "checkIndex", "(II)V"⟩ : MethodName) jdk_42_method_155_code 2 none :: ws) ({ frames := 1, cells := 0, slots := 0, locals := 14 } : Room)) (fun a U => a = #[(.int ix), (.int nn)] ∧ Z.Warmed39 U.vm ∧ U.heap = h0) (fun _ _ _ _ _ => True) (fun _ U o U' => ∃ v L, o = .returned v ∧ Q_own_cki Z ix nn G3 h0 n0 v U'.heap L ∧ FrameEnd U o U' L ({ frames := 1, cells := 0, slots := 0, locals := 14 } : Room).cells ({ frames := 1, cells := 0, slots := 0, locals := 14 } : Room).slots) := by
  refine MetFree.of_bodySF (plainFor_of_name pn_java_lang_String) hisR ?_
  intro p e s m args below meth c s₁ Bd hml0 hP hK
  obtain ⟨rfl, hZ, hh⟩ := hP
  have hx := Bd.exec
  have hby := Bd.bytes
  have hml : c.maxLocals = 2 := hml0
  have hown : s.vm.findClass "java/lang/String" = some m.cls := findClass_of_methodNamed Bd.named
  have hnm := (name_of_methodNamed Bd.named Bd.method).1
  have X0 : Stand p l e ({ frames := 1, cells := 0, slots := 0, locals := 14 } : Room) s m #[(.int ix), (.int nn)] below meth c s₁ [] 0 0 := Stand.of_body Bd
  have e0 : s₁.heap = h0 := by rw [← hh, Bd.state]; rfl
  have N0 := Fr.nil n0
  have pre0 : ∀ t, Steps p.tables e below (s₁.setTop (mkF m 0 #[.val (.int ix), .val (.int nn)] [])) t → Steps p.tables e below (s₁.setTop (entryFrame m #[(.int ix), (.int nn)] 2)) t := fun t k => castTop (ef_own_cki m) k
  obtain rfl | ⟨ga, rfl⟩ := own_isr rG3
  · skip
    obtain ⟨T1, X1, e1, st1⟩ := getS2 X0 hx hZ hown (host := "") (Or.inl (gw hw 75 rfl)) Via.refl e0 (O4.ext XO.2) (g := (mkF m 2 #[.val (.int ix), .val (.int nn)] [(.int nn), (.int ix)])) rfl (hb hby D1_2)
    have pre2 : ∀ t, Steps p.tables e below (T1.setTop (mkF m 5 #[.val (.int ix), .val (.int nn)] [.null, (.int nn), (.int ix)])) t → Steps p.tables e below (s₁.setTop (entryFrame m #[(.int ix), (.int nn)] 2)) t := by
      intro t kk
      refine pre0 t ?_
      refine XS.iloadN X0.here hx rfl (hb hby D1_0) rfl ?_
      refine XS.iloadN X0.here hx rfl (hb hby D1_1) rfl ?_
      exact st1 _ kk
    obtain ⟨_, _, ⟨T3, L3, k3, n3⟩, -, X3, ⟨Lc3, hQ3, l3, y3, z3⟩, st3⟩ := Jvm.LawKit.callS X1 hx (y := (⟨"jdk/internal/util/Preconditions", "checkIndex", "(IILjava/util/function/BiFunction;)I"⟩ : MethodName)) hown (mvT hZ (gw hw 77 rfl)) (mvT hZ (gw hw 78 rfl)) (mvT hZ (gw hw 76 rfl)) (mvT hZ (gw hw 79 rfl)) (by decide) (backOf (W := 0) (own_pcN l Z a0 hw [] ix nn h0 n0 Z0 hi0) hZ (gw hw 79 rfl) (gw hw 76 rfl) (by decide) (by decide)) (g := (mkF m 5 #[.val (.int ix), .val (.int nn)] [.null, (.int nn), (.int ix)])) rfl (by rw [hml]; rfl) (argsL := [(.int ix), (.int nn), .null]) (rest := []) (lenOf pd__IILjava_util_function_BiFunction__I rfl) rfl (by show 2 * 0 + _ ≤ _; exact Nat.le_of_eq rfl) (hb hby D1_5) (fun _ _ => ⟨rfl, e1, (by decide : 0 + 0 ≤ _), (by decide : 0 + 0 ≤ _)⟩)
    dsimp only [Pt.U, Pt.locs, Pt.cells, Pt.slots] at X3 l3 y3 z3 st3 hQ3
    subst l3 y3 z3
    obtain ⟨rfl, N3q, e3q⟩ := hQ3
    have N3 := Fr.app N0 N3q
    have pre4 : ∀ t, Steps p.tables e below (T3.setTop (mkF m 8 #[.val (.int ix), .val (.int nn)] [(.int ix)])) t → Steps p.tables e below (s₁.setTop (entryFrame m #[(.int ix), (.int nn)] 2)) t := by
      intro t kk
      refine pre2 t ?_
      exact st3 _ kk
    obtain ⟨fs, hr, hrun, hended, hW, hsame⟩ := X3.leave (v := none) (fun _ => rfl)
    refine ⟨_, _, pre4 _ ?_, hrun, hended, _, _, rfl, ?_, ⟨_, rfl⟩, hW, hsame.mono (by decide) (by decide)⟩
    · refine XS.pop X3.here hx rfl (hb hby D1_8) rfl rfl ?_
      exact X3.returnOut hx Bd.returns (hb hby D1_9) hr
    · show Q_own_cki Z _ _ _ h0 n0 _ T3.heap _
      rw [e3q]
      exact ⟨rfl, N3, rfl⟩
  · skip
    obtain ⟨T5, X5, e5, st5⟩ := getS2 X0 hx hZ hown (host := "") (Or.inl (gw hw 75 rfl)) Via.refl e0 (O4.ext XO.2) (g := (mkF m 2 #[.val (.int ix), .val (.int nn)] [(.int nn), (.int ix)])) rfl (hb hby D1_2)
    have pre6 : ∀ t, Steps p.tables e below (T5.setTop (mkF m 5 #[.val (.int ix), .val (.int nn)] [(.ref ga), (.int nn), (.int ix)])) t → Steps p.tables e below (s₁.setTop (entryFrame m #[(.int ix), (.int nn)] 2)) t := by
      intro t kk
      refine pre0 t ?_
      refine XS.iloadN X0.here hx rfl (hb hby D1_0) rfl ?_
      refine XS.iloadN X0.here hx rfl (hb hby D1_1) rfl ?_
      exact st5 _ kk
    obtain ⟨_, _, ⟨T7, L7, k7, n7⟩, -, X7, ⟨Lc7, hQ7, l7, y7, z7⟩, st7⟩ := Jvm.LawKit.callS X5 hx (y := (⟨"jdk/internal/util/Preconditions", "checkIndex", "(IILjava/util/function/BiFunction;)I"⟩ : MethodName)) hown (mvT hZ (gw hw 77 rfl)) (mvT hZ (gw hw 78 rfl)) (mvT hZ (gw hw 76 rfl)) (mvT hZ (gw hw 79 rfl)) (by decide) (backOf (W := 0) (own_pcR l Z a0 hw [] ix nn ga h0 n0 Z0 hi0) hZ (gw hw 79 rfl) (gw hw 76 rfl) (by decide) (by decide)) (g := (mkF m 5 #[.val (.int ix), .val (.int nn)] [(.ref ga), (.int nn), (.int ix)])) rfl (by rw [hml]; rfl) (argsL := [(.int ix), (.int nn), (.ref ga)]) (rest := []) (lenOf pd__IILjava_util_function_BiFunction__I rfl) rfl (by show 2 * 0 + _ ≤ _; exact Nat.le_of_eq rfl) (hb hby D1_5) (fun _ _ => ⟨rfl, e5, (by decide : 0 + 0 ≤ _), (by decide : 0 + 0 ≤ _)⟩)
    dsimp only [Pt.U, Pt.locs, Pt.cells, Pt.slots] at X7 l7 y7 z7 st7 hQ7
    subst l7 y7 z7
    obtain ⟨rfl, N7q, e7q⟩ := hQ7
    have N7 := Fr.app N0 N7q
    have pre8 : ∀ t, Steps p.tables e below (T7.setTop (mkF m 8 #[.val (.int ix), .val (.int nn)] [(.int ix)])) t → Steps p.tables e below (s₁.setTop (entryFrame m #[(.int ix), (.int nn)] 2)) t := by
      intro t kk
      refine pre6 t ?_
      exact st7 _ kk
    obtain ⟨fs, hr, hrun, hended, hW, hsame⟩ := X7.leave (v := none) (fun _ => rfl)
    refine ⟨_, _, pre8 _ ?_, hrun, hended, _, _, rfl, ?_, ⟨_, rfl⟩, hW, hsame.mono (by decide) (by decide)⟩
    · refine XS.pop X7.here hx rfl (hb hby D1_8) rfl rfl ?_
      exact X7.returnOut hx Bd.returns (hb hby D1_9) hr
    · show Q_own_cki Z _ _ _ h0 n0 _ T7.heap _
      rw [e7q]
      exact ⟨rfl, N7, rfl⟩
theorem pn_java_lang_StringUTF16 : plainName "java/lang/StringUTF16" = true := by first | (simp [plainName, overriddenIn]; done) | decide +kernel
theorem D2_0 : decode jdk_52_method_6_code 0 = .ok (.aload_n 0, 1) := by decide +kernel
theorem D2_1 : decode jdk_52_method_6_code 1 = .ok (.arraylength, 1) := by decide +kernel
theorem D2_2 : decode jdk_52_method_6_code 2 = .ok (.iconst 1, 1) := by decide +kernel
theorem D2_3 : decode jdk_52_method_6_code 3 = .ok (.ishr, 1) := by decide +kernel
theorem D2_4 : decode jdk_52_method_6_code 4 = .ok (.ireturn, 1) := by decide +kernel
theorem ef_own_ul (m : MethodId) {sb : Addr} : entryFrame m #[(.ref sb)] 1 = mkF m 0 #[.val (.ref sb)] [] := by first | (simp [entryFrame, mkF, argsToLocals, Value.category]; done) | rfl
def Q_own_ul (Z : State) (sb : Addr) (kS : ClassId) (cs : List Int32) (h0 : Heap) (n0 : Nat) (v : Option Value) (h : Heap) (L : List Loc) : Prop := v = some (.int (Int32.ofNat cs.length)) ∧ Fr n0 L ∧ h = h0
set_option maxRecDepth 65536 in
set_option maxHeartbeats 40000000 in
theorem own_ul (l : Launch) (Z : State) (a0 : Array Value) (hw : ∀ d ∈ tables_1, d.before a0 Z = true) (ws : List Jvm.Cond) (sb : Addr) (kS : ClassId) (cs : List Int32) (h0 : Heap) (n0 : Nat) (Z0 : n0 ≤ h0.size) (KS : Arv Z h0 sb kS .byte (Int32.ofNat (2 * cs.length)) (StrChars.Road.wideBytes cs) (.int 0)) (hl2 : cs.length ≤ 100) :
    MetFree l (⟨"java/lang/StringUTF16", "length", "([B)I"⟩ : MethodName) (head1 (Jvm.Cond.code (⟨"java/lang/StringUTF16", "length", "([B)I"⟩ : MethodName) jdk_52_method_6_code 1 (some .int) :: ws) ({ frames := 0, cells := 0, slots := 0, locals := 0 } : Room)) (fun a U => a = #[(.ref sb)] ∧ Z.Warmed39 U.vm ∧ U.heap = h0) (fun _ _ _ _ _ => True) (fun _ U o U' => ∃ v L, o = .returned v ∧ Q_own_ul Z sb kS cs h0 n0 v U'.heap L ∧ FrameEnd U o U' L ({ frames := 0, cells := 0, slots := 0, locals := 0 } : Room).cells ({ frames := 0, cells := 0, slots := 0, locals := 0 } : Room).slots) := by
  refine MetFree.of_bodySF (plainFor_of_name pn_java_lang_StringUTF16) hisR ?_
  intro p e s m args below meth c s₁ Bd hml0 hP hK
  obtain ⟨rfl, hZ, hh⟩ := hP
  have hx := Bd.exec
  have hby := Bd.bytes
  have hml : c.maxLocals = 1 := hml0
  have hown : s.vm.findClass "java/lang/StringUTF16" = some m.cls := findClass_of_methodNamed Bd.named
  have hnm := (name_of_methodNamed Bd.named Bd.method).1
  have X0 : Stand p l e ({ frames := 0, cells := 0, slots := 0, locals := 0 } : Room) s m #[(.ref sb)] below meth c s₁ [] 0 0 := Stand.of_body Bd
  have e0 : s₁.heap = h0 := by rw [← hh, Bd.state]; rfl
  have N0 := Fr.nil n0
  have pre0 : ∀ t, Steps p.tables e below (s₁.setTop (mkF m 0 #[.val (.ref sb)] [])) t → Steps p.tables e below (s₁.setTop (entryFrame m #[(.ref sb)] 1)) t := fun t k => castTop (ef_own_ul m) k
  obtain ⟨cl1, Ar1, q1, S1, M1, H1, Gv1⟩ := id KS
  have pre2 : ∀ t, Steps p.tables e below (s₁.setTop (mkF m 4 #[.val (.ref sb)] [(.int ((Int32.ofNat (2 * cs.length)) >>> ((1 : Int32) &&& 31)))])) t → Steps p.tables e below (s₁.setTop (entryFrame m #[(.ref sb)] 1)) t := by
    intro t kk
    refine pre0 t ?_
    refine XS.aloadN X0.here hx rfl (hb hby D2_0) rfl rfl ?_
    refine X0.arraylength hx (by rw [e0]; exact Ar1.1) (State.isArrayOf_alike hZ.alike Ar1.2.1) (g := (mkF m 1 #[.val (.ref sb)] [(.ref sb)])) rfl rfl (hb hby D2_1) _ ?_
    rw [len_of S1 M1]
    refine XS.iconst X0.here hx rfl (hb hby D2_2) ?_
    refine XS.ishr X0.here hx rfl (hb hby D2_3) rfl ?_
    exact kk
  rw [StrChars.shr1 (by omega)] at pre2
  obtain ⟨fs, hr, hrun, hended, hW, hsame⟩ := X0.leave (v := some (.int (Int32.ofNat cs.length))) (fun h => by rw [Bd.returns] at h; cases h)
  refine ⟨_, _, pre2 _ ?_, hrun, hended, _, _, rfl, ?_, ⟨_, rfl⟩, hW, hsame.mono (by decide) (by decide)⟩
  · exact retI X0 hx Bd.returns (hb hby D2_4) hr
  · show Q_own_ul Z sb kS cs h0 n0 _ s₁.heap _
    rw [e0]
    exact ⟨rfl, N0, rfl⟩
theorem D3_0 : decode jdk_52_method_91_code 0 = .ok (.iload_n 0, 1) := by decide +kernel
theorem D3_1 : decode jdk_52_method_91_code 1 = .ok (.aload_n 1, 1) := by decide +kernel
theorem pd___B_I : parseMethodDescriptor "([B)I" = some ⟨[(.array .byte)], some .int⟩ := by decide +kernel
theorem D3_2 : decode jdk_52_method_91_code 2 = .ok (.invokestatic 48, 3) := by decide +kernel
theorem pd__II_V : parseMethodDescriptor "(II)V" = some ⟨[.int, .int], none⟩ := by decide +kernel
theorem D3_5 : decode jdk_52_method_91_code 5 = .ok (.invokestatic 414, 3) := by decide +kernel
theorem D3_8 : decode jdk_52_method_91_code 8 = .ok (.return_, 1) := by decide +kernel
theorem ef_own_uk (m : MethodId) {sb : Addr} {i : Nat} : entryFrame m #[(.int (Int32.ofNat i)), (.ref sb)] 2 = mkF m 0 #[.val (.int (Int32.ofNat i)), .val (.ref sb)] [] := by first | (simp [entryFrame, mkF, argsToLocals, Value.category]; done) | rfl
def Q_own_uk (Z : State) (sb : Addr) (kS : ClassId) (cs : List Int32) (i : Nat) (G3 : Value) (h0 : Heap) (n0 : Nat) (v : Option Value) (h : Heap) (L : List Loc) : Prop := v = none ∧ Fr n0 L ∧ h = h0
set_option maxRecDepth 65536 in
set_option maxHeartbeats 40000000 in
theorem own_uk (l : Launch) (Z : State) (a0 : Array Value) (hw : ∀ d ∈ tables_1, d.before a0 Z = true) (ws : List Jvm.Cond) (sb : Addr) (kS : ClassId) (cs : List Int32) (i : Nat) (G3 : Value) (h0 : Heap) (n0 : Nat) (Z0 : n0 ≤ h0.size) (KS : Arv Z h0 sb kS .byte (Int32.ofNat (2 * cs.length)) (StrChars.Road.wideBytes cs) (.int 0)) (hil : i < cs.length) (hl2 : cs.length ≤ 100) (O4 : Sta Z Z.heap "jdk/internal/util/Preconditions" "SIOOBE_FORMATTER" "Ljava/util/function/BiFunction;" G3) (rG3 : G3.isRef = true) (XO : Old Z n0 h0) :
    MetFree l (⟨"java/lang/StringUTF16", "checkIndex", "(I[B)V"⟩ : MethodName) (head1 (Jvm.Cond.code (⟨"java/lang/StringUTF16", "checkIndex", "(I[B)V"⟩ : MethodName) jdk_52_method_91_code 2 none :: ws) ({ frames := 2, cells := 0, slots := 0, locals := 27 } : Room)) (fun a U => a = #[(.int (Int32.ofNat i)), (.ref sb)] ∧ Z.Warmed39 U.vm ∧ U.heap = h0) (fun _ _ _ _ _ => True) (fun _ U o U' => ∃ v L, o = .returned v ∧ Q_own_uk Z sb kS cs i G3 h0 n0 v U'.heap L ∧ FrameEnd U o U' L ({ frames := 2, cells := 0, slots := 0, locals := 27 } : Room).cells ({ frames := 2, cells := 0, slots := 0, locals := 27 } : Room).slots) := by
  refine MetFree.of_bodySF (plainFor_of_name pn_java_lang_StringUTF16) hisR ?_
  intro p e s m args below meth c s₁ Bd hml0 hP hK
  obtain ⟨rfl, hZ, hh⟩ := hP
  have hx := Bd.exec
  have hby := Bd.bytes
  have hml : c.maxLocals = 2 := hml0
  have hown : s.vm.findClass "java/lang/StringUTF16" = some m.cls := findClass_of_methodNamed Bd.named
  have hnm := (name_of_methodNamed Bd.named Bd.method).1
  have X0 : Stand p l e ({ frames := 2, cells := 0, slots := 0, locals := 27 } : Room) s m #[(.int (Int32.ofNat i)), (.ref sb)] below meth c s₁ [] 0 0 := Stand.of_body Bd
  have e0 : s₁.heap = h0 := by rw [← hh, Bd.state]; rfl
  have N0 := Fr.nil n0
  have pre0 : ∀ t, Steps p.tables e below (s₁.setTop (mkF m 0 #[.val (.int (Int32.ofNat i)), .val (.ref sb)] [])) t → Steps p.tables e below (s₁.setTop (entryFrame m #[(.int (Int32.ofNat i)), (.ref sb)] 2)) t := fun t k => castTop (ef_own_uk m) k
  obtain ⟨_, _, ⟨T1, L1, k1, n1⟩, -, X1, ⟨Lc1, hQ1, l1, y1, z1⟩, st1⟩ := Jvm.LawKit.callS X0 hx (y := (⟨"java/lang/StringUTF16", "length", "([B)I"⟩ : MethodName)) hown (mvT hZ (gw hw 105 rfl)) (mvT hZ (gw hw 106 rfl)) (mvT hZ (gw hw 46 rfl)) (mvT hZ (gw hw 107 rfl)) (by decide) (backOf (W := 1) (own_ul l Z a0 hw [] sb kS cs h0 n0 Z0 KS hl2) hZ (gw hw 107 rfl) (gw hw 46 rfl) (by decide) (by decide)) (g := (mkF m 2 #[.val (.int (Int32.ofNat i)), .val (.ref sb)] [(.ref sb), (.int (Int32.ofNat i))])) rfl (by rw [hml]; rfl) (argsL := [(.ref sb)]) (rest := [(.int (Int32.ofNat i))]) (lenOf pd___B_I rfl) rfl (by show 2 * 0 + _ ≤ _; exact Nat.le_of_eq rfl) (hb hby D3_2) (fun _ _ => ⟨rfl, e0, (by decide : 0 + 0 ≤ _), (by decide : 0 + 0 ≤ _)⟩)
  dsimp only [Pt.U, Pt.locs, Pt.cells, Pt.slots] at X1 l1 y1 z1 st1 hQ1
  subst l1 y1 z1
  obtain ⟨rfl, N1q, e1q⟩ := hQ1
  have N1 := Fr.app N0 N1q
  have pre2 : ∀ t, Steps p.tables e below (T1.setTop (mkF m 5 #[.val (.int (Int32.ofNat i)), .val (.ref sb)] [(.int (Int32.ofNat cs.length)), (.int (Int32.ofNat i))])) t → Steps p.tables e below (s₁.setTop (entryFrame m #[(.int (Int32.ofNat i)), (.ref sb)] 2)) t := by
    intro t kk
    refine pre0 t ?_
    refine XS.iloadN X0.here hx rfl (hb hby D3_0) rfl ?_
    refine XS.aloadN X0.here hx rfl (hb hby D3_1) rfl rfl ?_
    exact st1 _ kk
  obtain ⟨_, _, ⟨T3, L3, k3, n3⟩, -, X3, ⟨Lc3, hQ3, l3, y3, z3⟩, st3⟩ := Jvm.LawKit.callS X1 hx (y := (⟨"java/lang/String", "checkIndex", "(II)V"⟩ : MethodName)) hown (mvT hZ (gw hw 108 rfl)) (mvT hZ (gw hw 73 rfl)) (mvT hZ (gw hw 5 rfl)) (mvT hZ (gw hw 74 rfl)) (by decide) (backOf (W := 0) (own_cki l Z a0 hw [] (Int32.ofNat i) (Int32.ofNat cs.length) G3 h0 n0 Z0 (own_lt2 hil (by omega)) O4 rG3 XO) hZ (gw hw 74 rfl) (gw hw 5 rfl) (by decide) (by decide)) (g := (mkF m 5 #[.val (.int (Int32.ofNat i)), .val (.ref sb)] [(.int (Int32.ofNat cs.length)), (.int (Int32.ofNat i))])) rfl (by rw [hml]; rfl) (argsL := [(.int (Int32.ofNat i)), (.int (Int32.ofNat cs.length))]) (rest := []) (lenOf pd__II_V rfl) rfl (by show 2 * 0 + _ ≤ _; exact Nat.le_of_eq rfl) (hb hby D3_5) (fun _ _ => ⟨rfl, e1q, (by decide : 0 + 0 ≤ _), (by decide : 0 + 0 ≤ _)⟩)
  dsimp only [Pt.U, Pt.locs, Pt.cells, Pt.slots] at X3 l3 y3 z3 st3 hQ3
  subst l3 y3 z3
  obtain ⟨rfl, N3q, e3q⟩ := hQ3
  have N3 := Fr.app N1 N3q
  have pre4 : ∀ t, Steps p.tables e below (T3.setTop (mkF m 8 #[.val (.int (Int32.ofNat i)), .val (.ref sb)] [])) t → Steps p.tables e below (s₁.setTop (entryFrame m #[(.int (Int32.ofNat i)), (.ref sb)] 2)) t := by
    intro t kk
    refine pre2 t ?_
    exact st3 _ kk
  obtain ⟨fs, hr, hrun, hended, hW, hsame⟩ := X3.leave (v := none) (fun _ => rfl)
  refine ⟨_, _, pre4 _ ?_, hrun, hended, _, _, rfl, ?_, ⟨_, rfl⟩, hW, hsame.mono (by decide) (by decide)⟩
  · exact X3.returnOut hx Bd.returns (hb hby D3_8) hr
  · show Q_own_uk Z sb kS cs i G3 h0 n0 _ T3.heap _
    rw [e3q]
    exact ⟨rfl, N3, rfl⟩
theorem pn_java_lang_StringLatin1 : plainName "java/lang/StringLatin1" = true := by first | (simp [plainName, overriddenIn]; done) | decide +kernel
theorem D4_0 : decode jdk_43_method_2_code 0 = .ok (.iload_n 1, 1) := by decide +kernel
theorem D4_1 : decode jdk_43_method_2_code 1 = .ok (.aload_n 0, 1) := by decide +kernel
theorem D4_2 : decode jdk_43_method_2_code 2 = .ok (.arraylength, 1) := by decide +kernel
theorem D4_3 : decode jdk_43_method_2_code 3 = .ok (.invokestatic 9, 3) := by decide +kernel
theorem D4_6 : decode jdk_43_method_2_code 6 = .ok (.aload_n 0, 1) := by decide +kernel
theorem D4_7 : decode jdk_43_method_2_code 7 = .ok (.iload_n 1, 1) := by decide +kernel
theorem D4_8 : decode jdk_43_method_2_code 8 = .ok (.baload, 1) := by decide +kernel
theorem D4_9 : decode jdk_43_method_2_code 9 = .ok (.sipush 255, 3) := by decide +kernel
theorem D4_12 : decode jdk_43_method_2_code 12 = .ok (.iand, 1) := by decide +kernel
theorem D4_13 : decode jdk_43_method_2_code 13 = .ok (.i2c, 1) := by decide +kernel
theorem D4_14 : decode jdk_43_method_2_code 14 = .ok (.ireturn, 1) := by decide +kernel
theorem ef_own_lc (m : MethodId) {sb : Addr} {i : Nat} : entryFrame m #[(.ref sb), (.int (Int32.ofNat i))] 2 = mkF m 0 #[.val (.ref sb), .val (.int (Int32.ofNat i))] [] := by first | (simp [entryFrame, mkF, argsToLocals, Value.category]; done) | rfl
def Q_own_lc (Z : State) (sb : Addr) (kS : ClassId) (cs : List Int32) (i : Nat) (G3 : Value) (h0 : Heap) (n0 : Nat) (v : Option Value) (h : Heap) (L : List Loc) : Prop := v = some (.int (cs.getD i 0)) ∧ Fr n0 L ∧ h = h0
set_option maxRecDepth 65536 in
set_option maxHeartbeats 40000000 in
theorem own_lc (l : Launch) (Z : State) (a0 : Array Value) (hw : ∀ d ∈ tables_1, d.before a0 Z = true) (ws : List Jvm.Cond) (sb : Addr) (kS : ClassId) (cs : List Int32) (i : Nat) (G3 : Value) (h0 : Heap) (n0 : Nat) (Z0 : n0 ≤ h0.size) (KS : Arv Z h0 sb kS .byte (Int32.ofNat cs.length) (cs.map fun z => Value.int (StrChars.lo8 z)) (.int 0)) (hil : i < cs.length) (hl2 : cs.length ≤ 100) (hq8 : ¬ (cs.getD i 0) < 0 ∧ ¬ (255 : Int32) < (cs.getD i 0)) (O4 : Sta Z Z.heap "jdk/internal/util/Preconditions" "SIOOBE_FORMATTER" "Ljava/util/function/BiFunction;" G3) (rG3 : G3.isRef = true) (XO : Old Z n0 h0) :
    MetFree l (⟨"java/lang/StringLatin1", "charAt", "([BI)C"⟩ : MethodName) (head1 (Jvm.Cond.code (⟨"java/lang/StringLatin1", "charAt", "([BI)C"⟩ : MethodName) jdk_43_method_2_code 2 (some .char) :: ws) ({ frames := 2, cells := 0, slots := 0, locals := 27 } : Room)) (fun a U => a = #[(.ref sb), (.int (Int32.ofNat i))] ∧ Z.Warmed39 U.vm ∧ U.heap = h0) (fun _ _ _ _ _ => True) (fun _ U o U' => ∃ v L, o = .returned v ∧ Q_own_lc Z sb kS cs i G3 h0 n0 v U'.heap L ∧ FrameEnd U o U' L ({ frames := 2, cells := 0, slots := 0, locals := 27 } : Room).cells ({ frames := 2, cells := 0, slots := 0, locals := 27 } : Room).slots) := by
  refine MetFree.of_bodySF (plainFor_of_name pn_java_lang_StringLatin1) hisR ?_
  intro p e s m args below meth c s₁ Bd hml0 hP hK
  obtain ⟨rfl, hZ, hh⟩ := hP
  have hx := Bd.exec
  have hby := Bd.bytes
  have hml : c.maxLocals = 2 := hml0
  have hown : s.vm.findClass "java/lang/StringLatin1" = some m.cls := findClass_of_methodNamed Bd.named
  have hnm := (name_of_methodNamed Bd.named Bd.method).1
  have X0 : Stand p l e ({ frames := 2, cells := 0, slots := 0, locals := 27 } : Room) s m #[(.ref sb), (.int (Int32.ofNat i))] below meth c s₁ [] 0 0 := Stand.of_body Bd
  have e0 : s₁.heap = h0 := by rw [← hh, Bd.state]; rfl
  have N0 := Fr.nil n0
  have pre0 : ∀ t, Steps p.tables e below (s₁.setTop (mkF m 0 #[.val (.ref sb), .val (.int (Int32.ofNat i))] [])) t → Steps p.tables e below (s₁.setTop (entryFrame m #[(.ref sb), (.int (Int32.ofNat i))] 2)) t := fun t k => castTop (ef_own_lc m) k
  obtain ⟨cl1, Ar1, q1, S1, M1, H1, Gv1⟩ := id KS
  obtain ⟨_, _, ⟨T2, L2, k2, n2⟩, -, X2, ⟨Lc2, hQ2, l2, y2, z2⟩, st2⟩ := Jvm.LawKit.callS X0 hx (y := (⟨"java/lang/String", "checkIndex", "(II)V"⟩ : MethodName)) hown (mvT hZ (gw hw 72 rfl)) (mvT hZ (gw hw 73 rfl)) (mvT hZ (gw hw 5 rfl)) (mvT hZ (gw hw 74 rfl)) (by decide) (backOf (W := 0) (own_cki l Z a0 hw [] (Int32.ofNat i) (Int32.ofNat cs.length) G3 h0 n0 Z0 (own_lt2 hil (by omega)) O4 rG3 XO) hZ (gw hw 74 rfl) (gw hw 5 rfl) (by decide) (by decide)) (g := (mkF m 3 #[.val (.ref sb), .val (.int (Int32.ofNat i))] [(.int (Int32.ofNat cs.length)), (.int (Int32.ofNat i))])) rfl (by rw [hml]; rfl) (argsL := [(.int (Int32.ofNat i)), (.int (Int32.ofNat cs.length))]) (rest := []) (lenOf pd__II_V rfl) rfl (by show 2 * 0 + _ ≤ _; exact Nat.le_of_eq rfl) (hb hby D4_3) (fun _ _ => ⟨rfl, e0, (by decide : 0 + 0 ≤ _), (by decide : 0 + 0 ≤ _)⟩)
  dsimp only [Pt.U, Pt.locs, Pt.cells, Pt.slots] at X2 l2 y2 z2 st2 hQ2
  subst l2 y2 z2
  obtain ⟨rfl, N2q, e2q⟩ := hQ2
  have N2 := Fr.app N0 N2q
  have pre3 : ∀ t, Steps p.tables e below (T2.setTop (mkF m 6 #[.val (.ref sb), .val (.int (Int32.ofNat i))] [])) t → Steps p.tables e below (s₁.setTop (entryFrame m #[(.ref sb), (.int (Int32.ofNat i))] 2)) t := by
    intro t kk
    refine pre0 t ?_
    refine XS.iloadN X0.here hx rfl (hb hby D4_0) rfl ?_
    refine XS.aloadN X0.here hx rfl (hb hby D4_1) rfl rfl ?_
    refine X0.arraylength hx (by rw [e0]; exact Ar1.1) (State.isArrayOf_alike hZ.alike Ar1.2.1) (g := (mkF m 2 #[.val (.ref sb), .val (.int (Int32.ofNat i))] [(.ref sb), (.int (Int32.ofNat i))])) rfl rfl (hb hby D4_2) _ ?_
    rw [len_of S1 M1]
    exact st2 _ kk
  obtain ⟨cl4, Ar4, q4, S4, M4, H4, Gv4⟩ := id KS
  have hin5 : ¬ ((Int32.ofNat i) < 0 ∨ cl4.slots.size ≤ ((Int32.ofNat i)).toNatClampNeg) := inb_of S4 (own_lt2 hil (by omega))
  have hat5 : cl4.slots[((Int32.ofNat i)).toNatClampNeg]? = some (.int (StrChars.lo8 (cs.getD i 0))) := Has.at H4 (inb_of S4 (own_lt2 hil (by omega))) (by rw [(own_on (n := i) (by omega)).2.2]; exact StrChars.Road.low_at _ cs i hil)
  obtain ⟨fs, hr, hrun, hended, hW, hsame⟩ := X2.leave (v := some (.int (nar .char (((StrChars.lo8 (cs.getD i 0)) &&& (255 : Int32)).toUInt32.toUInt16.toUInt32.toInt32)))) (fun h => by rw [Bd.returns] at h; cases h)
  refine ⟨_, _, pre3 _ ?_, hrun, hended, _, _, rfl, ?_, ⟨_, rfl⟩, hW, hsame.mono (by decide) (by decide)⟩
  · refine XS.aloadN X2.here hx rfl (hb hby D4_6) rfl rfl ?_
    refine XS.iloadN X2.here hx rfl (hb hby D4_7) rfl ?_
    refine X2.baloadBytes hx (j := (Int32.ofNat i)) (v := (.int (StrChars.lo8 (cs.getD i 0)))) (by rw [e2q]; exact Ar4.1) (State.isArrayOf_alike hZ.alike Ar4.2.1) Ar4.2.2 hin5 hat5 (g := (mkF m 8 #[.val (.ref sb), .val (.int (Int32.ofNat i))] [(.int (Int32.ofNat i)), (.ref sb)])) rfl rfl (hb hby D4_8) _ ?_
    refine XS.sipush X2.here hx rfl (hb hby D4_9) ?_
    refine XS.iand X2.here hx rfl (hb hby D4_12) rfl ?_
    refine XS.i2c X2.here hx rfl (hb hby D4_13) rfl ?_
    exact retN X2 hx (t := .char) Bd.returns (by simp) (hb hby D4_14) hr
  · show Q_own_lc Z sb kS cs i G3 h0 n0 _ T2.heap _
    rw [e2q]
    exact ⟨congrArg (fun z => some (Value.int z)) (own_l1 hq8), N2, rfl⟩
theorem D5_0 : decode jdk_52_method_5_code 0 = .ok (.getstatic 44, 3) := by decide +kernel
theorem D5_3 : decode jdk_52_method_5_code 3 = .ok (.ifCond .ne 25, 3) := by decide +kernel
theorem D5_28 : decode jdk_52_method_5_code 28 = .ok (.iload_n 1, 1) := by decide +kernel
theorem D5_29 : decode jdk_52_method_5_code 29 = .ok (.iconst 1, 1) := by decide +kernel
theorem D5_30 : decode jdk_52_method_5_code 30 = .ok (.ishl, 1) := by decide +kernel
theorem D5_31 : decode jdk_52_method_5_code 31 = .ok (.istore_n 1, 1) := by decide +kernel
theorem D5_32 : decode jdk_52_method_5_code 32 = .ok (.aload_n 0, 1) := by decide +kernel
theorem D5_33 : decode jdk_52_method_5_code 33 = .ok (.iload_n 1, 1) := by decide +kernel
theorem D5_34 : decode jdk_52_method_5_code 34 = .ok (.iinc 1 1, 3) := by decide +kernel
theorem D5_37 : decode jdk_52_method_5_code 37 = .ok (.baload, 1) := by decide +kernel
theorem D5_38 : decode jdk_52_method_5_code 38 = .ok (.sipush 255, 3) := by decide +kernel
theorem D5_41 : decode jdk_52_method_5_code 41 = .ok (.iand, 1) := by decide +kernel
theorem D5_42 : decode jdk_52_method_5_code 42 = .ok (.getstatic 59, 3) := by decide +kernel
theorem D5_45 : decode jdk_52_method_5_code 45 = .ok (.ishl, 1) := by decide +kernel
theorem D5_46 : decode jdk_52_method_5_code 46 = .ok (.aload_n 0, 1) := by decide +kernel
theorem D5_47 : decode jdk_52_method_5_code 47 = .ok (.iload_n 1, 1) := by decide +kernel
theorem D5_48 : decode jdk_52_method_5_code 48 = .ok (.baload, 1) := by decide +kernel
theorem D5_49 : decode jdk_52_method_5_code 49 = .ok (.sipush 255, 3) := by decide +kernel
theorem D5_52 : decode jdk_52_method_5_code 52 = .ok (.iand, 1) := by decide +kernel
theorem D5_53 : decode jdk_52_method_5_code 53 = .ok (.getstatic 63, 3) := by decide +kernel
theorem D5_56 : decode jdk_52_method_5_code 56 = .ok (.ishl, 1) := by decide +kernel
theorem D5_57 : decode jdk_52_method_5_code 57 = .ok (.ior, 1) := by decide +kernel
theorem D5_58 : decode jdk_52_method_5_code 58 = .ok (.i2c, 1) := by decide +kernel
theorem D5_59 : decode jdk_52_method_5_code 59 = .ok (.ireturn, 1) := by decide +kernel
theorem ef_own_gc (m : MethodId) {sb : Addr} {i : Nat} : entryFrame m #[(.ref sb), (.int (Int32.ofNat i))] 2 = mkF m 0 #[.val (.ref sb), .val (.int (Int32.ofNat i))] [] := by first | (simp [entryFrame, mkF, argsToLocals, Value.category]; done) | rfl
def Q_own_gc (Z : State) (sb : Addr) (kS : ClassId) (cs : List Int32) (i : Nat) (h0 : Heap) (n0 : Nat) (v : Option Value) (h : Heap) (L : List Loc) : Prop := v = some (.int (cs.getD i 0)) ∧ Fr n0 L ∧ h = h0
set_option maxRecDepth 65536 in
set_option maxHeartbeats 40000000 in
theorem own_gc (l : Launch) (Z : State) (a0 : Array Value) (hw : ∀ d ∈ tables_1, d.before a0 Z = true) (ws : List Jvm.Cond) (sb : Addr) (kS : ClassId) (cs : List Int32) (i : Nat) (h0 : Heap) (n0 : Nat) (Z0 : n0 ≤ h0.size) (KS : Arv Z h0 sb kS .byte (Int32.ofNat (2 * cs.length)) (StrChars.Road.wideBytes cs) (.int 0)) (hil : i < cs.length) (hl2 : cs.length ≤ 100) (hq8 : ¬ (cs.getD i 0) < 0 ∧ ¬ (65535 : Int32) < (cs.getD i 0)) (AD : Sta Z Z.heap "java/lang/StringUTF16" "$assertionsDisabled" "Z" (.int 1)) (HB : Sta Z Z.heap "java/lang/StringUTF16" "HI_BYTE_SHIFT" "I" (.int 0)) (LB : Sta Z Z.heap "java/lang/StringUTF16" "LO_BYTE_SHIFT" "I" (.int 8)) (XO : Old Z n0 h0) :
    MetFree l (⟨"java/lang/StringUTF16", "getChar", "([BI)C"⟩ : MethodName) (head1 (Jvm.Cond.code (⟨"java/lang/StringUTF16", "getChar", "([BI)C"⟩ : MethodName) jdk_52_method_5_code 2 (some .char) :: ws) ({ frames := 0, cells := 0, slots := 0, locals := 0 } : Room)) (fun a U => a = #[(.ref sb), (.int (Int32.ofNat i))] ∧ Z.Warmed39 U.vm ∧ U.heap = h0) (fun _ _ _ _ _ => True) (fun _ U o U' => ∃ v L, o = .returned v ∧ Q_own_gc Z sb kS cs i h0 n0 v U'.heap L ∧ FrameEnd U o U' L ({ frames := 0, cells := 0, slots := 0, locals := 0 } : Room).cells ({ frames := 0, cells := 0, slots := 0, locals := 0 } : Room).slots) := by
  refine MetFree.of_bodySF (plainFor_of_name pn_java_lang_StringUTF16) hisR ?_
  intro p e s m args below meth c s₁ Bd hml0 hP hK
  obtain ⟨rfl, hZ, hh⟩ := hP
  have hx := Bd.exec
  have hby := Bd.bytes
  have hml : c.maxLocals = 2 := hml0
  have hown : s.vm.findClass "java/lang/StringUTF16" = some m.cls := findClass_of_methodNamed Bd.named
  have hnm := (name_of_methodNamed Bd.named Bd.method).1
  have X0 : Stand p l e ({ frames := 0, cells := 0, slots := 0, locals := 0 } : Room) s m #[(.ref sb), (.int (Int32.ofNat i))] below meth c s₁ [] 0 0 := Stand.of_body Bd
  have e0 : s₁.heap = h0 := by rw [← hh, Bd.state]; rfl
  have N0 := Fr.nil n0
  have pre0 : ∀ t, Steps p.tables e below (s₁.setTop (mkF m 0 #[.val (.ref sb), .val (.int (Int32.ofNat i))] [])) t → Steps p.tables e below (s₁.setTop (entryFrame m #[(.ref sb), (.int (Int32.ofNat i))] 2)) t := fun t k => castTop (ef_own_gc m) k
  obtain ⟨T1, X1, e1, st1⟩ := getS2 X0 hx hZ hown (host := "") (Or.inl (gw hw 93 rfl)) Via.refl e0 (AD.ext XO.2) (g := (mkF m 0 #[.val (.ref sb), .val (.int (Int32.ofNat i))] [])) rfl (hb hby D5_0)
  have pre2 : ∀ t, Steps p.tables e below (T1.setTop (mkF m 3 #[.val (.ref sb), .val (.int (Int32.ofNat i))] [(.int 1)])) t → Steps p.tables e below (s₁.setTop (entryFrame m #[(.ref sb), (.int (Int32.ofNat i))] 2)) t := by
    intro t kk
    refine pre0 t ?_
    exact st1 _ kk
  have hbr3 : ¬ ((1 : Int32) = (0 : Int32)) := by decide
  have pre4 : ∀ t, Steps p.tables e below (T1.setTop (mkF m 31 #[.val (.ref sb), .val (.int (Int32.ofNat i))] [(.int ((Int32.ofNat i) <<< ((1 : Int32) &&& 31)))])) t → Steps p.tables e below (s₁.setTop (entryFrame m #[(.ref sb), (.int (Int32.ofNat i))] 2)) t := by
    intro t kk
    refine pre2 t ?_
    refine XS.ifYes X1.here hx rfl (pc0 := 3) (pc' := 28) rfl (hb hby D5_3) rfl ((if0 _ _).trans (feq hbr3).2) (by decide) (by decide) ?_
    refine XS.iloadN X1.here hx rfl (hb hby D5_28) rfl ?_
    refine XS.iconst X1.here hx rfl (hb hby D5_29) ?_
    refine XS.ishl X1.here hx rfl (hb hby D5_30) rfl ?_
    exact kk
  rw [own_shl1 (by omega)] at pre4
  have pre5 : ∀ t, Steps p.tables e below (T1.setTop (mkF m 37 #[.val (.ref sb), .val (.int ((Int32.ofNat (2 * i)) + (1 : Int32)))] [(.int (Int32.ofNat (2 * i))), (.ref sb)])) t → Steps p.tables e below (s₁.setTop (entryFrame m #[(.ref sb), (.int (Int32.ofNat i))] 2)) t := by
    intro t kk
    refine pre4 t ?_
    refine XS.istoreN X1.here hx rfl (hb hby D5_31) rfl (l' := #[.val (.ref sb), .val (.int (Int32.ofNat (2 * i)))]) rfl ?_
    refine XS.aloadN X1.here hx rfl (hb hby D5_32) rfl rfl ?_
    refine XS.iloadN X1.here hx rfl (hb hby D5_33) rfl ?_
    refine XS.iinc X1.here hx rfl (hb hby D5_34) rfl (l' := #[.val (.ref sb), .val (.int ((Int32.ofNat (2 * i)) + (1 : Int32)))]) rfl ?_
    exact kk
  rw [own_inc (by omega)] at pre5
  obtain ⟨cl6, Ar6, q6, S6, M6, H6, Gv6⟩ := id KS
  have hin7 : ¬ ((Int32.ofNat (2 * i)) < 0 ∨ cl6.slots.size ≤ ((Int32.ofNat (2 * i))).toNatClampNeg) := inb_of S6 (own_lt2 (by omega) (by omega))
  have hat7 : cl6.slots[((Int32.ofNat (2 * i))).toNatClampNeg]? = some (.int (StrChars.lo8 (cs.getD i 0))) := Has.at H6 (inb_of S6 (own_lt2 (by omega) (by omega))) (by rw [(own_on (n := 2 * i) (by omega)).2.2]; exact StrChars.Road.wide_lo _ cs i hil)
  obtain ⟨T8, X8, e8, st8⟩ := getS2 X1 hx hZ hown (host := "") (Or.inl (gw hw 94 rfl)) Via.refl e1 (HB.ext XO.2) (g := (mkF m 42 #[.val (.ref sb), .val (.int (Int32.ofNat (2 * i + 1)))] [(.int ((StrChars.lo8 (cs.getD i 0)) &&& (255 : Int32)))])) rfl (hb hby D5_42)
  have pre9 : ∀ t, Steps p.tables e below (T8.setTop (mkF m 45 #[.val (.ref sb), .val (.int (Int32.ofNat (2 * i + 1)))] [(.int 0), (.int ((StrChars.lo8 (cs.getD i 0)) &&& (255 : Int32)))])) t → Steps p.tables e below (s₁.setTop (entryFrame m #[(.ref sb), (.int (Int32.ofNat i))] 2)) t := by
    intro t kk
    refine pre5 t ?_
    refine X1.baloadBytes hx (j := (Int32.ofNat (2 * i))) (v := (.int (StrChars.lo8 (cs.getD i 0)))) (by rw [e1]; exact Ar6.1) (State.isArrayOf_alike hZ.alike Ar6.2.1) Ar6.2.2 hin7 hat7 (g := (mkF m 37 #[.val (.ref sb), .val (.int (Int32.ofNat (2 * i + 1)))] [(.int (Int32.ofNat (2 * i))), (.ref sb)])) rfl rfl (hb hby D5_37) _ ?_
    refine XS.sipush X1.here hx rfl (hb hby D5_38) ?_
    refine XS.iand X1.here hx rfl (hb hby D5_41) rfl ?_
    exact st8 _ kk
  obtain ⟨cl10, Ar10, q10, S10, M10, H10, Gv10⟩ := id KS
  have hin11 : ¬ ((Int32.ofNat (2 * i + 1)) < 0 ∨ cl10.slots.size ≤ ((Int32.ofNat (2 * i + 1))).toNatClampNeg) := inb_of S10 (own_lt2 (by omega) (by omega))
  have hat11 : cl10.slots[((Int32.ofNat (2 * i + 1))).toNatClampNeg]? = some (.int (StrChars.hi8 (cs.getD i 0))) := Has.at H10 (inb_of S10 (own_lt2 (by omega) (by omega))) (by rw [(own_on (n := 2 * i + 1) (by omega)).2.2]; exact StrChars.Road.wide_hi _ cs i hil)
  obtain ⟨T12, X12, e12, st12⟩ := getS2 X8 hx hZ hown (host := "") (Or.inl (gw hw 95 rfl)) Via.refl e8 (LB.ext XO.2) (g := (mkF m 53 #[.val (.ref sb), .val (.int (Int32.ofNat (2 * i + 1)))] [(.int ((StrChars.hi8 (cs.getD i 0)) &&& (255 : Int32))), (.int (((StrChars.lo8 (cs.getD i 0)) &&& (255 : Int32)) <<< ((0 : Int32) &&& 31)))])) rfl (hb hby D5_53)
  have pre13 : ∀ t, Steps p.tables e below (T12.setTop (mkF m 56 #[.val (.ref sb), .val (.int (Int32.ofNat (2 * i + 1)))] [(.int 8), (.int ((StrChars.hi8 (cs.getD i 0)) &&& (255 : Int32))), (.int (((StrChars.lo8 (cs.getD i 0)) &&& (255 : Int32)) <<< ((0 : Int32) &&& 31)))])) t → Steps p.tables e below (s₁.setTop (entryFrame m #[(.ref sb), (.int (Int32.ofNat i))] 2)) t := by
    intro t kk
    refine pre9 t ?_
    refine XS.ishl X8.here hx rfl (hb hby D5_45) rfl ?_
    refine XS.aloadN X8.here hx rfl (hb hby D5_46) rfl rfl ?_
    refine XS.iloadN X8.here hx rfl (hb hby D5_47) rfl ?_
    refine X8.baloadBytes hx (j := (Int32.ofNat (2 * i + 1))) (v := (.int (StrChars.hi8 (cs.getD i 0)))) (by rw [e8]; exact Ar10.1) (State.isArrayOf_alike hZ.alike Ar10.2.1) Ar10.2.2 hin11 hat11 (g := (mkF m 48 #[.val (.ref sb), .val (.int (Int32.ofNat (2 * i + 1)))] [(.int (Int32.ofNat (2 * i + 1))), (.ref sb), (.int (((StrChars.lo8 (cs.getD i 0)) &&& (255 : Int32)) <<< ((0 : Int32) &&& 31)))])) rfl rfl (hb hby D5_48) _ ?_
    refine XS.sipush X8.here hx rfl (hb hby D5_49) ?_
    refine XS.iand X8.here hx rfl (hb hby D5_52) rfl ?_
    exact st12 _ kk
  obtain ⟨fs, hr, hrun, hended, hW, hsame⟩ := X12.leave (v := some (.int (nar .char (((((StrChars.lo8 (cs.getD i 0)) &&& (255 : Int32)) <<< ((0 : Int32) &&& 31)) ||| (((StrChars.hi8 (cs.getD i 0)) &&& (255 : Int32)) <<< ((8 : Int32) &&& 31))).toUInt32.toUInt16.toUInt32.toInt32)))) (fun h => by rw [Bd.returns] at h; cases h)
  refine ⟨_, _, pre13 _ ?_, hrun, hended, _, _, rfl, ?_, ⟨_, rfl⟩, hW, hsame.mono (by decide) (by decide)⟩
  · refine XS.ishl X12.here hx rfl (hb hby D5_56) rfl ?_
    refine XS.ior X12.here hx rfl (hb hby D5_57) rfl ?_
    refine XS.i2c X12.here hx rfl (hb hby D5_58) rfl ?_
    exact retN X12 hx (t := .char) Bd.returns (by simp) (hb hby D5_59) hr
  · show Q_own_gc Z sb kS cs i h0 n0 _ T12.heap _
    rw [e12]
    exact ⟨congrArg (fun z => some (Value.int z)) (own_pr hq8), N0, rfl⟩
theorem D6_0 : decode jdk_52_method_83_code 0 = .ok (.iload_n 1, 1) := by decide +kernel
theorem D6_1 : decode jdk_52_method_83_code 1 = .ok (.aload_n 0, 1) := by decide +kernel
theorem pd__I_B_V : parseMethodDescriptor "(I[B)V" = some ⟨[.int, (.array .byte)], none⟩ := by decide +kernel
theorem D6_2 : decode jdk_52_method_83_code 2 = .ok (.invokestatic 67, 3) := by decide +kernel
theorem D6_5 : decode jdk_52_method_83_code 5 = .ok (.aload_n 0, 1) := by decide +kernel
theorem D6_6 : decode jdk_52_method_83_code 6 = .ok (.iload_n 1, 1) := by decide +kernel
theorem pd___BI_C : parseMethodDescriptor "([BI)C" = some ⟨[(.array .byte), .int], some .char⟩ := by decide +kernel
theorem D6_7 : decode jdk_52_method_83_code 7 = .ok (.invokestatic 71, 3) := by decide +kernel
theorem D6_10 : decode jdk_52_method_83_code 10 = .ok (.ireturn, 1) := by decide +kernel
theorem ef_own_uc (m : MethodId) {sb : Addr} {i : Nat} : entryFrame m #[(.ref sb), (.int (Int32.ofNat i))] 2 = mkF m 0 #[.val (.ref sb), .val (.int (Int32.ofNat i))] [] := by first | (simp [entryFrame, mkF, argsToLocals, Value.category]; done) | rfl
def Q_own_uc (Z : State) (sb : Addr) (kS : ClassId) (cs : List Int32) (i : Nat) (G3 : Value) (h0 : Heap) (n0 : Nat) (v : Option Value) (h : Heap) (L : List Loc) : Prop := v = some (.int (cs.getD i 0)) ∧ Fr n0 L ∧ h = h0
set_option maxRecDepth 65536 in
set_option maxHeartbeats 40000000 in
theorem own_uc (l : Launch) (Z : State) (a0 : Array Value) (hw : ∀ d ∈ tables_1, d.before a0 Z = true) (ws : List Jvm.Cond) (sb : Addr) (kS : ClassId) (cs : List Int32) (i : Nat) (G3 : Value) (h0 : Heap) (n0 : Nat) (Z0 : n0 ≤ h0.size) (KS : Arv Z h0 sb kS .byte (Int32.ofNat (2 * cs.length)) (StrChars.Road.wideBytes cs) (.int 0)) (hil : i < cs.length) (hl2 : cs.length ≤ 100) (hq8 : ¬ (cs.getD i 0) < 0 ∧ ¬ (65535 : Int32) < (cs.getD i 0)) (AD : Sta Z Z.heap "java/lang/StringUTF16" "$assertionsDisabled" "Z" (.int 1)) (HB : Sta Z Z.heap "java/lang/StringUTF16" "HI_BYTE_SHIFT" "I" (.int 0)) (LB : Sta Z Z.heap "java/lang/StringUTF16" "LO_BYTE_SHIFT" "I" (.int 8)) (O4 : Sta Z Z.heap "jdk/internal/util/Preconditions" "SIOOBE_FORMATTER" "Ljava/util/function/BiFunction;" G3) (rG3 : G3.isRef = true) (XO : Old Z n0 h0) :
    MetFree l (⟨"java/lang/StringUTF16", "charAt", "([BI)C"⟩ : MethodName) (head1 (Jvm.Cond.code (⟨"java/lang/StringUTF16", "charAt", "([BI)C"⟩ : MethodName) jdk_52_method_83_code 2 (some .char) :: ws) ({ frames := 3, cells := 0, slots := 0, locals := 40 } : Room)) (fun a U => a = #[(.ref sb), (.int (Int32.ofNat i))] ∧ Z.Warmed39 U.vm ∧ U.heap = h0) (fun _ _ _ _ _ => True) (fun _ U o U' => ∃ v L, o = .returned v ∧ Q_own_uc Z sb kS cs i G3 h0 n0 v U'.heap L ∧ FrameEnd U o U' L ({ frames := 3, cells := 0, slots := 0, locals := 40 } : Room).cells ({ frames := 3, cells := 0, slots := 0, locals := 40 } : Room).slots) := by
  refine MetFree.of_bodySF (plainFor_of_name pn_java_lang_StringUTF16) hisR ?_
  intro p e s m args below meth c s₁ Bd hml0 hP hK
  obtain ⟨rfl, hZ, hh⟩ := hP
  have hx := Bd.exec
  have hby := Bd.bytes
  have hml : c.maxLocals = 2 := hml0
  have hown : s.vm.findClass "java/lang/StringUTF16" = some m.cls := findClass_of_methodNamed Bd.named
  have hnm := (name_of_methodNamed Bd.named Bd.method).1
  have X0 : Stand p l e ({ frames := 3, cells := 0, slots := 0, locals := 40 } : Room) s m #[(.ref sb), (.int (Int32.ofNat i))] below meth c s₁ [] 0 0 := Stand.of_body Bd
  have e0 : s₁.heap = h0 := by rw [← hh, Bd.state]; rfl
  have N0 := Fr.nil n0
  have pre0 : ∀ t, Steps p.tables e below (s₁.setTop (mkF m 0 #[.val (.ref sb), .val (.int (Int32.ofNat i))] [])) t → Steps p.tables e below (s₁.setTop (entryFrame m #[(.ref sb), (.int (Int32.ofNat i))] 2)) t := fun t k => castTop (ef_own_uc m) k
  obtain ⟨_, _, ⟨T1, L1, k1, n1⟩, -, X1, ⟨Lc1, hQ1, l1, y1, z1⟩, st1⟩ := Jvm.LawKit.callS X0 hx (y := (⟨"java/lang/StringUTF16", "checkIndex", "(I[B)V"⟩ : MethodName)) hown (mvT hZ (gw hw 102 rfl)) (mvT hZ (gw hw 103 rfl)) (mvT hZ (gw hw 46 rfl)) (mvT hZ (gw hw 104 rfl)) (by decide) (backOf (W := 0) (own_uk l Z a0 hw [] sb kS cs i G3 h0 n0 Z0 KS hil hl2 O4 rG3 XO) hZ (gw hw 104 rfl) (gw hw 46 rfl) (by decide) (by decide)) (g := (mkF m 2 #[.val (.ref sb), .val (.int (Int32.ofNat i))] [(.ref sb), (.int (Int32.ofNat i))])) rfl (by rw [hml]; rfl) (argsL := [(.int (Int32.ofNat i)), (.ref sb)]) (rest := []) (lenOf pd__I_B_V rfl) rfl (by show 2 * 0 + _ ≤ _; exact Nat.le_of_eq rfl) (hb hby D6_2) (fun _ _ => ⟨rfl, e0, (by decide : 0 + 0 ≤ _), (by decide : 0 + 0 ≤ _)⟩)
  dsimp only [Pt.U, Pt.locs, Pt.cells, Pt.slots] at X1 l1 y1 z1 st1 hQ1
  subst l1 y1 z1
  obtain ⟨rfl, N1q, e1q⟩ := hQ1
  have N1 := Fr.app N0 N1q
  have pre2 : ∀ t, Steps p.tables e below (T1.setTop (mkF m 5 #[.val (.ref sb), .val (.int (Int32.ofNat i))] [])) t → Steps p.tables e below (s₁.setTop (entryFrame m #[(.ref sb), (.int (Int32.ofNat i))] 2)) t := by
    intro t kk
    refine pre0 t ?_
    refine XS.iloadN X0.here hx rfl (hb hby D6_0) rfl ?_
    refine XS.aloadN X0.here hx rfl (hb hby D6_1) rfl rfl ?_
    exact st1 _ kk
  obtain ⟨_, _, ⟨T3, L3, k3, n3⟩, -, X3, ⟨Lc3, hQ3, l3, y3, z3⟩, st3⟩ := Jvm.LawKit.callS X1 hx (y := (⟨"java/lang/StringUTF16", "getChar", "([BI)C"⟩ : MethodName)) hown (mvT hZ (gw hw 96 rfl)) (mvT hZ (gw hw 97 rfl)) (mvT hZ (gw hw 46 rfl)) (mvT hZ (gw hw 98 rfl)) (by decide) (backOf (W := 0) (own_gc l Z a0 hw [] sb kS cs i h0 n0 Z0 KS hil hl2 hq8 AD HB LB XO) hZ (gw hw 98 rfl) (gw hw 46 rfl) (by decide) (by decide)) (g := (mkF m 7 #[.val (.ref sb), .val (.int (Int32.ofNat i))] [(.int (Int32.ofNat i)), (.ref sb)])) rfl (by rw [hml]; rfl) (argsL := [(.ref sb), (.int (Int32.ofNat i))]) (rest := []) (lenOf pd___BI_C rfl) rfl (by show 2 * 0 + _ ≤ _; exact Nat.le_of_eq rfl) (hb hby D6_7) (fun _ _ => ⟨rfl, e1q, (by decide : 0 + 0 ≤ _), (by decide : 0 + 0 ≤ _)⟩)
  dsimp only [Pt.U, Pt.locs, Pt.cells, Pt.slots] at X3 l3 y3 z3 st3 hQ3
  subst l3 y3 z3
  obtain ⟨rfl, N3q, e3q⟩ := hQ3
  have N3 := Fr.app N1 N3q
  have pre4 : ∀ t, Steps p.tables e below (T3.setTop (mkF m 10 #[.val (.ref sb), .val (.int (Int32.ofNat i))] [(.int (cs.getD i 0))])) t → Steps p.tables e below (s₁.setTop (entryFrame m #[(.ref sb), (.int (Int32.ofNat i))] 2)) t := by
    intro t kk
    refine pre2 t ?_
    refine XS.aloadN X1.here hx rfl (hb hby D6_5) rfl rfl ?_
    refine XS.iloadN X1.here hx rfl (hb hby D6_6) rfl ?_
    exact st3 _ kk
  obtain ⟨fs, hr, hrun, hended, hW, hsame⟩ := X3.leave (v := some (.int (nar .char (cs.getD i 0)))) (fun h => by rw [Bd.returns] at h; cases h)
  refine ⟨_, _, pre4 _ ?_, hrun, hended, _, _, rfl, ?_, ⟨_, rfl⟩, hW, hsame.mono (by decide) (by decide)⟩
  · exact retN X3 hx (t := .char) Bd.returns (by simp) (hb hby D6_10) hr
  · show Q_own_uc Z sb kS cs i G3 h0 n0 _ T3.heap _
    rw [e3q]
    exact ⟨congrArg (fun z => some (Value.int z)) (own_n16 hq8), N3, rfl⟩
theorem D7_0 : decode jdk_52_method_4_code 0 = .ok (.getstatic 44, 3) := by decide +kernel
theorem D7_3 : decode jdk_52_method_4_code 3 = .ok (.ifCond .ne 25, 3) := by decide +kernel
theorem D7_28 : decode jdk_52_method_4_code 28 = .ok (.iload_n 1, 1) := by decide +kernel
theorem D7_29 : decode jdk_52_method_4_code 29 = .ok (.iconst 1, 1) := by decide +kernel
theorem D7_30 : decode jdk_52_method_4_code 30 = .ok (.ishl, 1) := by decide +kernel
theorem D7_31 : decode jdk_52_method_4_code 31 = .ok (.istore_n 1, 1) := by decide +kernel
theorem D7_32 : decode jdk_52_method_4_code 32 = .ok (.aload_n 0, 1) := by decide +kernel
theorem D7_33 : decode jdk_52_method_4_code 33 = .ok (.iload_n 1, 1) := by decide +kernel
theorem D7_34 : decode jdk_52_method_4_code 34 = .ok (.iinc 1 1, 3) := by decide +kernel
theorem D7_37 : decode jdk_52_method_4_code 37 = .ok (.iload_n 2, 1) := by decide +kernel
theorem D7_38 : decode jdk_52_method_4_code 38 = .ok (.getstatic 59, 3) := by decide +kernel
theorem D7_41 : decode jdk_52_method_4_code 41 = .ok (.ishr, 1) := by decide +kernel
theorem D7_42 : decode jdk_52_method_4_code 42 = .ok (.i2b, 1) := by decide +kernel
theorem D7_43 : decode jdk_52_method_4_code 43 = .ok (.bastore, 1) := by decide +kernel
theorem D7_44 : decode jdk_52_method_4_code 44 = .ok (.aload_n 0, 1) := by decide +kernel
theorem D7_45 : decode jdk_52_method_4_code 45 = .ok (.iload_n 1, 1) := by decide +kernel
theorem D7_46 : decode jdk_52_method_4_code 46 = .ok (.iload_n 2, 1) := by decide +kernel
theorem D7_47 : decode jdk_52_method_4_code 47 = .ok (.getstatic 63, 3) := by decide +kernel
theorem D7_50 : decode jdk_52_method_4_code 50 = .ok (.ishr, 1) := by decide +kernel
theorem D7_51 : decode jdk_52_method_4_code 51 = .ok (.i2b, 1) := by decide +kernel
theorem D7_52 : decode jdk_52_method_4_code 52 = .ok (.bastore, 1) := by decide +kernel
theorem D7_53 : decode jdk_52_method_4_code 53 = .ok (.return_, 1) := by decide +kernel
theorem ef_own_pt (m : MethodId) {sb : Addr} {dd : Int32} {i : Nat} : entryFrame m #[(.ref sb), (.int (Int32.ofNat i)), (.int dd)] 3 = mkF m 0 #[.val (.ref sb), .val (.int (Int32.ofNat i)), .val (.int dd)] [] := by first | (simp [entryFrame, mkF, argsToLocals, Value.category]; done) | rfl
def Q_own_pt (Z : State) (sb : Addr) (kS : ClassId) (dd : Int32) (i n2 : Nat) (us : List Value) (h0 : Heap) (n0 : Nat) (v : Option Value) (h : Heap) (L : List Loc) : Prop := v = none ∧ Fr n0 L ∧ Keep h0 h [sb] ∧ Arv Z h sb kS .byte (Int32.ofNat n2) ((us.set (2 * i) (.int (StrChars.lo8 dd))).set (2 * i + 1) (.int (StrChars.hi8 dd))) (.int 0)
set_option maxRecDepth 65536 in
set_option maxHeartbeats 40000000 in
theorem own_pt (l : Launch) (Z : State) (a0 : Array Value) (hw : ∀ d ∈ tables_1, d.before a0 Z = true) (ws : List Jvm.Cond) (sb : Addr) (kS : ClassId) (dd : Int32) (i n2 : Nat) (us : List Value) (h0 : Heap) (n0 : Nat) (Z0 : n0 ≤ h0.size) (KS : Arv Z h0 sb kS .byte (Int32.ofNat n2) us (.int 0)) (hn2 : us.length = n2) (hil : 2 * i + 1 < n2) (hl2 : n2 ≤ 100) (gs : n0 ≤ sb) (AD : Sta Z Z.heap "java/lang/StringUTF16" "$assertionsDisabled" "Z" (.int 1)) (HB : Sta Z Z.heap "java/lang/StringUTF16" "HI_BYTE_SHIFT" "I" (.int 0)) (LB : Sta Z Z.heap "java/lang/StringUTF16" "LO_BYTE_SHIFT" "I" (.int 8)) (XO : Old Z n0 h0) :
    MetFree l (⟨"java/lang/StringUTF16", "putChar", "([BII)V"⟩ : MethodName) (head1 (Jvm.Cond.code (⟨"java/lang/StringUTF16", "putChar", "([BII)V"⟩ : MethodName) jdk_52_method_4_code 3 none :: ws) ({ frames := 0, cells := 0, slots := 0, locals := 0 } : Room)) (fun a U => a = #[(.ref sb), (.int (Int32.ofNat i)), (.int dd)] ∧ Z.Warmed39 U.vm ∧ U.heap = h0) (fun _ _ _ _ _ => True) (fun _ U o U' => ∃ v L, o = .returned v ∧ Q_own_pt Z sb kS dd i n2 us h0 n0 v U'.heap L ∧ FrameEnd U o U' L ({ frames := 0, cells := 0, slots := 0, locals := 0 } : Room).cells ({ frames := 0, cells := 0, slots := 0, locals := 0 } : Room).slots) := by
  refine MetFree.of_bodySF (plainFor_of_name pn_java_lang_StringUTF16) hisR ?_
  intro p e s m args below meth c s₁ Bd hml0 hP hK
  obtain ⟨rfl, hZ, hh⟩ := hP
  have hx := Bd.exec
  have hby := Bd.bytes
  have hml : c.maxLocals = 3 := hml0
  have hown : s.vm.findClass "java/lang/StringUTF16" = some m.cls := findClass_of_methodNamed Bd.named
  have hnm := (name_of_methodNamed Bd.named Bd.method).1
  have X0 : Stand p l e ({ frames := 0, cells := 0, slots := 0, locals := 0 } : Room) s m #[(.ref sb), (.int (Int32.ofNat i)), (.int dd)] below meth c s₁ [] 0 0 := Stand.of_body Bd
  have e0 : s₁.heap = h0 := by rw [← hh, Bd.state]; rfl
  have N0 := Fr.nil n0
  have pre0 : ∀ t, Steps p.tables e below (s₁.setTop (mkF m 0 #[.val (.ref sb), .val (.int (Int32.ofNat i)), .val (.int dd)] [])) t → Steps p.tables e below (s₁.setTop (entryFrame m #[(.ref sb), (.int (Int32.ofNat i)), (.int dd)] 3)) t := fun t k => castTop (ef_own_pt m) k
  obtain ⟨T1, X1, e1, st1⟩ := getS2 X0 hx hZ hown (host := "") (Or.inl (gw hw 93 rfl)) Via.refl e0 (AD.ext XO.2) (g := (mkF m 0 #[.val (.ref sb), .val (.int (Int32.ofNat i)), .val (.int dd)] [])) rfl (hb hby D7_0)
  have pre2 : ∀ t, Steps p.tables e below (T1.setTop (mkF m 3 #[.val (.ref sb), .val (.int (Int32.ofNat i)), .val (.int dd)] [(.int 1)])) t → Steps p.tables e below (s₁.setTop (entryFrame m #[(.ref sb), (.int (Int32.ofNat i)), (.int dd)] 3)) t := by
    intro t kk
    refine pre0 t ?_
    exact st1 _ kk
  have hbr3 : ¬ ((1 : Int32) = (0 : Int32)) := by decide
  have pre4 : ∀ t, Steps p.tables e below (T1.setTop (mkF m 31 #[.val (.ref sb), .val (.int (Int32.ofNat i)), .val (.int dd)] [(.int ((Int32.ofNat i) <<< ((1 : Int32) &&& 31)))])) t → Steps p.tables e below (s₁.setTop (entryFrame m #[(.ref sb), (.int (Int32.ofNat i)), (.int dd)] 3)) t := by
    intro t kk
    refine pre2 t ?_
    refine XS.ifYes X1.here hx rfl (pc0 := 3) (pc' := 28) rfl (hb hby D7_3) rfl ((if0 _ _).trans (feq hbr3).2) (by decide) (by decide) ?_
    refine XS.iloadN X1.here hx rfl (hb hby D7_28) rfl ?_
    refine XS.iconst X1.here hx rfl (hb hby D7_29) ?_
    refine XS.ishl X1.here hx rfl (hb hby D7_30) rfl ?_
    exact kk
  rw [own_shl1 (by omega)] at pre4
  have pre5 : ∀ t, Steps p.tables e below (T1.setTop (mkF m 37 #[.val (.ref sb), .val (.int ((Int32.ofNat (2 * i)) + (1 : Int32))), .val (.int dd)] [(.int (Int32.ofNat (2 * i))), (.ref sb)])) t → Steps p.tables e below (s₁.setTop (entryFrame m #[(.ref sb), (.int (Int32.ofNat i)), (.int dd)] 3)) t := by
    intro t kk
    refine pre4 t ?_
    refine XS.istoreN X1.here hx rfl (hb hby D7_31) rfl (l' := #[.val (.ref sb), .val (.int (Int32.ofNat (2 * i))), .val (.int dd)]) rfl ?_
    refine XS.aloadN X1.here hx rfl (hb hby D7_32) rfl rfl ?_
    refine XS.iloadN X1.here hx rfl (hb hby D7_33) rfl ?_
    refine XS.iinc X1.here hx rfl (hb hby D7_34) rfl (l' := #[.val (.ref sb), .val (.int ((Int32.ofNat (2 * i)) + (1 : Int32))), .val (.int dd)]) rfl ?_
    exact kk
  rw [own_inc (by omega)] at pre5
  obtain ⟨T6, X6, e6, st6⟩ := getS2 X1 hx hZ hown (host := "") (Or.inl (gw hw 94 rfl)) Via.refl e1 (HB.ext XO.2) (g := (mkF m 38 #[.val (.ref sb), .val (.int (Int32.ofNat (2 * i + 1))), .val (.int dd)] [(.int dd), (.int (Int32.ofNat (2 * i))), (.ref sb)])) rfl (hb hby D7_38)
  have pre7 : ∀ t, Steps p.tables e below (T6.setTop (mkF m 41 #[.val (.ref sb), .val (.int (Int32.ofNat (2 * i + 1))), .val (.int dd)] [(.int 0), (.int dd), (.int (Int32.ofNat (2 * i))), (.ref sb)])) t → Steps p.tables e below (s₁.setTop (entryFrame m #[(.ref sb), (.int (Int32.ofNat i)), (.int dd)] 3)) t := by
    intro t kk
    refine pre5 t ?_
    refine XS.iloadN X1.here hx rfl (hb hby D7_37) rfl ?_
    exact st6 _ kk
  obtain ⟨cl8, Ar8, q8, S8, M8, H8, Gv8⟩ := id KS
  obtain ⟨T8, h8, X8, e8, W8, st8⟩ := stB X6 hx hZ e6 Ar8 (j := (Int32.ofNat (2 * i))) (inb_of S8 (own_lt2 (by omega) (by omega))) (g := (mkF m 43 #[.val (.ref sb), .val (.int (Int32.ofNat (2 * i + 1))), .val (.int dd)] [(.int ((dd >>> ((0 : Int32) &&& 31)).toInt8.toInt32)), (.int (Int32.ofNat (2 * i))), (.ref sb)])) rfl rfl (hb hby D7_43)
  have V8 : Arv Z h8 sb kS .byte (Int32.ofNat n2) (us.set (2 * i) (.int (nar .byte ((dd >>> ((0 : Int32) &&& 31)).toInt8.toInt32)))) (.int 0) := Arv.set Ar8 q8 S8 M8 H8 Gv8 (fits_nar_byte _) W8 (2 * i) (own_on (by omega)).2.2 (by omega)
  rw [own_blo] at V8
  have N8 := Fr.snoc X8 N0 gs
  have pre9 : ∀ t, Steps p.tables e below (T8.setTop (mkF m 44 #[.val (.ref sb), .val (.int (Int32.ofNat (2 * i + 1))), .val (.int dd)] [])) t → Steps p.tables e below (s₁.setTop (entryFrame m #[(.ref sb), (.int (Int32.ofNat i)), (.int dd)] 3)) t := by
    intro t kk
    refine pre7 t ?_
    refine XS.ishr X6.here hx rfl (hb hby D7_41) rfl ?_
    refine XS.i2b X6.here hx rfl (hb hby D7_42) rfl ?_
    exact st8 _ kk
  have fc10 := (XO.wr W8 gs)
  obtain ⟨T11, X11, e11, st11⟩ := getS2 X8 hx hZ hown (host := "") (Or.inl (gw hw 95 rfl)) Via.refl e8 (LB.ext fc10.2) (g := (mkF m 47 #[.val (.ref sb), .val (.int (Int32.ofNat (2 * i + 1))), .val (.int dd)] [(.int dd), (.int (Int32.ofNat (2 * i + 1))), (.ref sb)])) rfl (hb hby D7_47)
  have pre12 : ∀ t, Steps p.tables e below (T11.setTop (mkF m 50 #[.val (.ref sb), .val (.int (Int32.ofNat (2 * i + 1))), .val (.int dd)] [(.int 8), (.int dd), (.int (Int32.ofNat (2 * i + 1))), (.ref sb)])) t → Steps p.tables e below (s₁.setTop (entryFrame m #[(.ref sb), (.int (Int32.ofNat i)), (.int dd)] 3)) t := by
    intro t kk
    refine pre9 t ?_
    refine XS.aloadN X8.here hx rfl (hb hby D7_44) rfl rfl ?_
    refine XS.iloadN X8.here hx rfl (hb hby D7_45) rfl ?_
    refine XS.iloadN X8.here hx rfl (hb hby D7_46) rfl ?_
    exact st11 _ kk
  obtain ⟨cl13, Ar13, q13, S13, M13, H13, Gv13⟩ := id V8
  obtain ⟨T13, h13, X13, e13, W13, st13⟩ := stB X11 hx hZ e11 Ar13 (j := (Int32.ofNat (2 * i + 1))) (inb_of S13 (own_lt2 (by omega) (by omega))) (g := (mkF m 52 #[.val (.ref sb), .val (.int (Int32.ofNat (2 * i + 1))), .val (.int dd)] [(.int ((dd >>> ((8 : Int32) &&& 31)).toInt8.toInt32)), (.int (Int32.ofNat (2 * i + 1))), (.ref sb)])) rfl rfl (hb hby D7_52)
  have V13 : Arv Z h13 sb kS .byte (Int32.ofNat n2) ((us.set (2 * i) (.int (StrChars.lo8 dd))).set (2 * i + 1) (.int (nar .byte ((dd >>> ((8 : Int32) &&& 31)).toInt8.toInt32)))) (.int 0) := Arv.set Ar13 q13 S13 M13 H13 Gv13 (fits_nar_byte _) W13 (2 * i + 1) (own_on (by omega)).2.2 (by rw [List.length_set]; omega)
  rw [own_bhi] at V13
  have N13 := Fr.snoc X13 N8 gs
  have pre14 : ∀ t, Steps p.tables e below (T13.setTop (mkF m 53 #[.val (.ref sb), .val (.int (Int32.ofNat (2 * i + 1))), .val (.int dd)] [])) t → Steps p.tables e below (s₁.setTop (entryFrame m #[(.ref sb), (.int (Int32.ofNat i)), (.int dd)] 3)) t := by
    intro t kk
    refine pre12 t ?_
    refine XS.ishr X11.here hx rfl (hb hby D7_50) rfl ?_
    refine XS.i2b X11.here hx rfl (hb hby D7_51) rfl ?_
    exact st13 _ kk
  have fc15 := (((Keep.refl h0 [sb]).wr W8 (Or.inl (List.mem_of_getElem? (i := 0) rfl))).wr W13 (Or.inl (List.mem_of_getElem? (i := 0) rfl)))
  obtain ⟨fs, hr, hrun, hended, hW, hsame⟩ := X13.leave (v := none) (fun _ => rfl)
  refine ⟨_, _, pre14 _ ?_, hrun, hended, _, _, rfl, ?_, ⟨_, rfl⟩, hW, hsame.mono (by decide) (by decide)⟩
  · exact X13.returnOut hx Bd.returns (hb hby D7_53) hr
  · show Q_own_pt Z sb kS dd i n2 us h0 n0 _ T13.heap _
    rw [e13]
    exact ⟨rfl, N13, fc15, V13⟩
theorem D8_0 : decode jdk_42_method_152_code 0 = .ok (.getstatic 38, 3) := by decide +kernel
theorem D8_3 : decode jdk_42_method_152_code 3 = .ok (.ifCond .eq 10, 3) := by decide +kernel
theorem D8_6 : decode jdk_42_method_152_code 6 = .ok (.aload_n 0, 1) := by decide +kernel
theorem D8_7 : decode jdk_42_method_152_code 7 = .ok (.getfield 15, 3) := by decide +kernel
theorem D8_10 : decode jdk_42_method_152_code 10 = .ok (.goto 4, 3) := by decide +kernel
theorem D8_14 : decode jdk_42_method_152_code 14 = .ok (.ireturn, 1) := by decide +kernel
theorem ef_own_cr0 (m : MethodId) {sa : Addr} : entryFrame m #[(.ref sa)] 1 = mkF m 0 #[.val (.ref sa)] [] := by first | (simp [entryFrame, mkF, argsToLocals, Value.category]; done) | rfl
def Q_own_cr0 (Z : State) (sa : Addr) (G1 : Int32) (h0 : Heap) (n0 : Nat) (v : Option Value) (h : Heap) (L : List Loc) : Prop := v = some (.int 0) ∧ Fr n0 L ∧ h = h0
set_option maxRecDepth 65536 in
set_option maxHeartbeats 40000000 in
theorem own_cr0 (l : Launch) (Z : State) (a0 : Array Value) (hw : ∀ d ∈ tables_1, d.before a0 Z = true) (ws : List Jvm.Cond) (sa : Addr) (G1 : Int32) (h0 : Heap) (n0 : Nat) (Z0 : n0 ≤ h0.size) (CS : Fld Z h0 sa "java/lang/String" "coder" "B" (.int 0)) (O2 : Sta Z Z.heap "java/lang/String" "COMPACT_STRINGS" "Z" (.int G1)) (P5 : ¬ G1 = (0 : Int32)) (XO : Old Z n0 h0) :
    MetFree l (⟨"java/lang/String", "coder", "()B"⟩ : MethodName) (head1 (Jvm.Cond.code (⟨"java/lang/String", "coder", "()B"⟩ : MethodName) jdk_42_method_152_code 1 (some .byte) :: ws) ({ frames := 0, cells := 0, slots := 0, locals := 0 } : Room)) (fun a U => a = #[(.ref sa)] ∧ Z.Warmed39 U.vm ∧ U.heap = h0) (fun _ _ _ _ _ => True) (fun _ U o U' => ∃ v L, o = .returned v ∧ Q_own_cr0 Z sa G1 h0 n0 v U'.heap L ∧ FrameEnd U o U' L ({ frames := 0, cells := 0, slots := 0, locals := 0 } : Room).cells ({ frames := 0, cells := 0, slots := 0, locals := 0 } : Room).slots) := by
  refine MetFree.of_bodySF (plainFor_of_name pn_java_lang_String) hisR ?_
  intro p e s m args below meth c s₁ Bd hml0 hP hK
  obtain ⟨rfl, hZ, hh⟩ := hP
  have hx := Bd.exec
  have hby := Bd.bytes
  have hml : c.maxLocals = 1 := hml0
  have hown : s.vm.findClass "java/lang/String" = some m.cls := findClass_of_methodNamed Bd.named
  have hnm := (name_of_methodNamed Bd.named Bd.method).1
  have X0 : Stand p l e ({ frames := 0, cells := 0, slots := 0, locals := 0 } : Room) s m #[(.ref sa)] below meth c s₁ [] 0 0 := Stand.of_body Bd
  have e0 : s₁.heap = h0 := by rw [← hh, Bd.state]; rfl
  have N0 := Fr.nil n0
  have pre0 : ∀ t, Steps p.tables e below (s₁.setTop (mkF m 0 #[.val (.ref sa)] [])) t → Steps p.tables e below (s₁.setTop (entryFrame m #[(.ref sa)] 1)) t := fun t k => castTop (ef_own_cr0 m) k
  obtain ⟨T1, X1, e1, st1⟩ := getS2 X0 hx hZ hown (host := "") (Or.inl (gw hw 43 rfl)) Via.refl e0 (O2.ext XO.2) (g := (mkF m 0 #[.val (.ref sa)] [])) rfl (hb hby D8_0)
  have pre2 : ∀ t, Steps p.tables e below (T1.setTop (mkF m 3 #[.val (.ref sa)] [(.int G1)])) t → Steps p.tables e below (s₁.setTop (entryFrame m #[(.ref sa)] 1)) t := by
    intro t kk
    refine pre0 t ?_
    exact st1 _ kk
  obtain ⟨T3, X3, e3, st3⟩ := getF X1 hx hZ hown (host := "") (Or.inl (gw hw 23 rfl)) Via.refl e1 CS (g := (mkF m 7 #[.val (.ref sa)] [(.ref sa)])) rfl rfl (hb hby D8_7)
  have pre4 : ∀ t, Steps p.tables e below (T3.setTop (mkF m 10 #[.val (.ref sa)] [(.int 0)])) t → Steps p.tables e below (s₁.setTop (entryFrame m #[(.ref sa)] 1)) t := by
    intro t kk
    refine pre2 t ?_
    refine XS.ifNo X1.here hx rfl (hb hby D8_3) rfl ((if0 _ _).trans (feq P5).1) ?_
    refine XS.aloadN X1.here hx rfl (hb hby D8_6) rfl rfl ?_
    exact st3 _ kk
  obtain ⟨fs, hr, hrun, hended, hW, hsame⟩ := X3.leave (v := some (.int 0)) (fun h => by rw [Bd.returns] at h; cases h)
  refine ⟨_, _, pre4 _ ?_, hrun, hended, _, _, rfl, ?_, ⟨_, rfl⟩, hW, hsame.mono (by decide) (by decide)⟩
  · refine XS.goto X3.here hx rfl (pc0 := 10) (pc' := 14) rfl (hb hby D8_10) (by decide) (by decide) ?_
    exact retN X3 hx (t := .byte) Bd.returns (by simp) (hb hby D8_14) hr
  · show Q_own_cr0 Z sa G1 h0 n0 _ T3.heap _
    rw [e3]
    exact ⟨rfl, N0, rfl⟩
theorem D9_0 : decode jdk_42_method_154_code 0 = .ok (.getstatic 38, 3) := by decide +kernel
theorem D9_3 : decode jdk_42_method_154_code 3 = .ok (.ifCond .eq 14, 3) := by decide +kernel
theorem D9_6 : decode jdk_42_method_154_code 6 = .ok (.aload_n 0, 1) := by decide +kernel
theorem D9_7 : decode jdk_42_method_154_code 7 = .ok (.getfield 15, 3) := by decide +kernel
theorem D9_10 : decode jdk_42_method_154_code 10 = .ok (.ifCond .ne 7, 3) := by decide +kernel
theorem D9_13 : decode jdk_42_method_154_code 13 = .ok (.iconst 1, 1) := by decide +kernel
theorem D9_14 : decode jdk_42_method_154_code 14 = .ok (.goto 4, 3) := by decide +kernel
theorem D9_18 : decode jdk_42_method_154_code 18 = .ok (.ireturn, 1) := by decide +kernel
theorem ef_own_is0 (m : MethodId) {sa : Addr} : entryFrame m #[(.ref sa)] 1 = mkF m 0 #[.val (.ref sa)] [] := by first | (simp [entryFrame, mkF, argsToLocals, Value.category]; done) | rfl
def Q_own_is0 (Z : State) (sa : Addr) (G1 : Int32) (h0 : Heap) (n0 : Nat) (v : Option Value) (h : Heap) (L : List Loc) : Prop := v = some (.int 1) ∧ Fr n0 L ∧ h = h0
set_option maxRecDepth 65536 in
set_option maxHeartbeats 40000000 in
theorem own_is0 (l : Launch) (Z : State) (a0 : Array Value) (hw : ∀ d ∈ tables_1, d.before a0 Z = true) (ws : List Jvm.Cond) (sa : Addr) (G1 : Int32) (h0 : Heap) (n0 : Nat) (Z0 : n0 ≤ h0.size) (CS : Fld Z h0 sa "java/lang/String" "coder" "B" (.int 0)) (O2 : Sta Z Z.heap "java/lang/String" "COMPACT_STRINGS" "Z" (.int G1)) (P5 : ¬ G1 = (0 : Int32)) (XO : Old Z n0 h0) :
    MetFree l (⟨"java/lang/String", "isLatin1", "()Z"⟩ : MethodName) (head1 (Jvm.Cond.code (⟨"java/lang/String", "isLatin1", "()Z"⟩ : MethodName) jdk_42_method_154_code 1 (some .boolean) :: ws) ({ frames := 0, cells := 0, slots := 0, locals := 0 } : Room)) (fun a U => a = #[(.ref sa)] ∧ Z.Warmed39 U.vm ∧ U.heap = h0) (fun _ _ _ _ _ => True) (fun _ U o U' => ∃ v L, o = .returned v ∧ Q_own_is0 Z sa G1 h0 n0 v U'.heap L ∧ FrameEnd U o U' L ({ frames := 0, cells := 0, slots := 0, locals := 0 } : Room).cells ({ frames := 0, cells := 0, slots := 0, locals := 0 } : Room).slots) := by
  refine MetFree.of_bodySF (plainFor_of_name pn_java_lang_String) hisR ?_
  intro p e s m args below meth c s₁ Bd hml0 hP hK
  obtain ⟨rfl, hZ, hh⟩ := hP
  have hx := Bd.exec
  have hby := Bd.bytes
  have hml : c.maxLocals = 1 := hml0
  have hown : s.vm.findClass "java/lang/String" = some m.cls := findClass_of_methodNamed Bd.named
  have hnm := (name_of_methodNamed Bd.named Bd.method).1
  have X0 : Stand p l e ({ frames := 0, cells := 0, slots := 0, locals := 0 } : Room) s m #[(.ref sa)] below meth c s₁ [] 0 0 := Stand.of_body Bd
  have e0 : s₁.heap = h0 := by rw [← hh, Bd.state]; rfl
  have N0 := Fr.nil n0
  have pre0 : ∀ t, Steps p.tables e below (s₁.setTop (mkF m 0 #[.val (.ref sa)] [])) t → Steps p.tables e below (s₁.setTop (entryFrame m #[(.ref sa)] 1)) t := fun t k => castTop (ef_own_is0 m) k
  obtain ⟨T1, X1, e1, st1⟩ := getS2 X0 hx hZ hown (host := "") (Or.inl (gw hw 43 rfl)) Via.refl e0 (O2.ext XO.2) (g := (mkF m 0 #[.val (.ref sa)] [])) rfl (hb hby D9_0)
  have pre2 : ∀ t, Steps p.tables e below (T1.setTop (mkF m 3 #[.val (.ref sa)] [(.int G1)])) t → Steps p.tables e below (s₁.setTop (entryFrame m #[(.ref sa)] 1)) t := by
    intro t kk
    refine pre0 t ?_
    exact st1 _ kk
  obtain ⟨T3, X3, e3, st3⟩ := getF X1 hx hZ hown (host := "") (Or.inl (gw hw 23 rfl)) Via.refl e1 CS (g := (mkF m 7 #[.val (.ref sa)] [(.ref sa)])) rfl rfl (hb hby D9_7)
  have pre4 : ∀ t, Steps p.tables e below (T3.setTop (mkF m 10 #[.val (.ref sa)] [(.int 0)])) t → Steps p.tables e below (s₁.setTop (entryFrame m #[(.ref sa)] 1)) t := by
    intro t kk
    refine pre2 t ?_
    refine XS.ifNo X1.here hx rfl (hb hby D9_3) rfl ((if0 _ _).trans (feq P5).1) ?_
    refine XS.aloadN X1.here hx rfl (hb hby D9_6) rfl rfl ?_
    exact st3 _ kk
  have hbr5 : (0 : Int32) = (0 : Int32) := by decide
  obtain ⟨fs, hr, hrun, hended, hW, hsame⟩ := X3.leave (v := some (.int 1)) (fun h => by rw [Bd.returns] at h; cases h)
  refine ⟨_, _, pre4 _ ?_, hrun, hended, _, _, rfl, ?_, ⟨_, rfl⟩, hW, hsame.mono (by decide) (by decide)⟩
  · refine XS.ifNo X3.here hx rfl (hb hby D9_10) rfl ((if0 _ _).trans (teq hbr5).2) ?_
    refine XS.iconst X3.here hx rfl (hb hby D9_13) ?_
    refine XS.goto X3.here hx rfl (pc0 := 14) (pc' := 18) rfl (hb hby D9_14) (by decide) (by decide) ?_
    exact retN X3 hx (t := .boolean) Bd.returns (by simp) (hb hby D9_18) hr
  · show Q_own_is0 Z sa G1 h0 n0 _ T3.heap _
    rw [e3]
    exact ⟨rfl, N0, rfl⟩
theorem ef_own_cr1 (m : MethodId) {sa : Addr} : entryFrame m #[(.ref sa)] 1 = mkF m 0 #[.val (.ref sa)] [] := by first | (simp [entryFrame, mkF, argsToLocals, Value.category]; done) | rfl
def Q_own_cr1 (Z : State) (sa : Addr) (G1 : Int32) (h0 : Heap) (n0 : Nat) (v : Option Value) (h : Heap) (L : List Loc) : Prop := v = some (.int 1) ∧ Fr n0 L ∧ h = h0
set_option maxRecDepth 65536 in
set_option maxHeartbeats 40000000 in
theorem own_cr1 (l : Launch) (Z : State) (a0 : Array Value) (hw : ∀ d ∈ tables_1, d.before a0 Z = true) (ws : List Jvm.Cond) (sa : Addr) (G1 : Int32) (h0 : Heap) (n0 : Nat) (Z0 : n0 ≤ h0.size) (CS : Fld Z h0 sa "java/lang/String" "coder" "B" (.int 1)) (O2 : Sta Z Z.heap "java/lang/String" "COMPACT_STRINGS" "Z" (.int G1)) (P5 : ¬ G1 = (0 : Int32)) (XO : Old Z n0 h0) :
    MetFree l (⟨"java/lang/String", "coder", "()B"⟩ : MethodName) (head1 (Jvm.Cond.code (⟨"java/lang/String", "coder", "()B"⟩ : MethodName) jdk_42_method_152_code 1 (some .byte) :: ws) ({ frames := 0, cells := 0, slots := 0, locals := 0 } : Room)) (fun a U => a = #[(.ref sa)] ∧ Z.Warmed39 U.vm ∧ U.heap = h0) (fun _ _ _ _ _ => True) (fun _ U o U' => ∃ v L, o = .returned v ∧ Q_own_cr1 Z sa G1 h0 n0 v U'.heap L ∧ FrameEnd U o U' L ({ frames := 0, cells := 0, slots := 0, locals := 0 } : Room).cells ({ frames := 0, cells := 0, slots := 0, locals := 0 } : Room).slots) := by
  refine MetFree.of_bodySF (plainFor_of_name pn_java_lang_String) hisR ?_
  intro p e s m args below meth c s₁ Bd hml0 hP hK
  obtain ⟨rfl, hZ, hh⟩ := hP
  have hx := Bd.exec
  have hby := Bd.bytes
  have hml : c.maxLocals = 1 := hml0
  have hown : s.vm.findClass "java/lang/String" = some m.cls := findClass_of_methodNamed Bd.named
  have hnm := (name_of_methodNamed Bd.named Bd.method).1
  have X0 : Stand p l e ({ frames := 0, cells := 0, slots := 0, locals := 0 } : Room) s m #[(.ref sa)] below meth c s₁ [] 0 0 := Stand.of_body Bd
  have e0 : s₁.heap = h0 := by rw [← hh, Bd.state]; rfl
  have N0 := Fr.nil n0
  have pre0 : ∀ t, Steps p.tables e below (s₁.setTop (mkF m 0 #[.val (.ref sa)] [])) t → Steps p.tables e below (s₁.setTop (entryFrame m #[(.ref sa)] 1)) t := fun t k => castTop (ef_own_cr1 m) k
  obtain ⟨T1, X1, e1, st1⟩ := getS2 X0 hx hZ hown (host := "") (Or.inl (gw hw 43 rfl)) Via.refl e0 (O2.ext XO.2) (g := (mkF m 0 #[.val (.ref sa)] [])) rfl (hb hby D8_0)
  have pre2 : ∀ t, Steps p.tables e below (T1.setTop (mkF m 3 #[.val (.ref sa)] [(.int G1)])) t → Steps p.tables e below (s₁.setTop (entryFrame m #[(.ref sa)] 1)) t := by
    intro t kk
    refine pre0 t ?_
    exact st1 _ kk
  obtain ⟨T3, X3, e3, st3⟩ := getF X1 hx hZ hown (host := "") (Or.inl (gw hw 23 rfl)) Via.refl e1 CS (g := (mkF m 7 #[.val (.ref sa)] [(.ref sa)])) rfl rfl (hb hby D8_7)
  have pre4 : ∀ t, Steps p.tables e below (T3.setTop (mkF m 10 #[.val (.ref sa)] [(.int 1)])) t → Steps p.tables e below (s₁.setTop (entryFrame m #[(.ref sa)] 1)) t := by
    intro t kk
    refine pre2 t ?_
    refine XS.ifNo X1.here hx rfl (hb hby D8_3) rfl ((if0 _ _).trans (feq P5).1) ?_
    refine XS.aloadN X1.here hx rfl (hb hby D8_6) rfl rfl ?_
    exact st3 _ kk
  obtain ⟨fs, hr, hrun, hended, hW, hsame⟩ := X3.leave (v := some (.int 1)) (fun h => by rw [Bd.returns] at h; cases h)
  refine ⟨_, _, pre4 _ ?_, hrun, hended, _, _, rfl, ?_, ⟨_, rfl⟩, hW, hsame.mono (by decide) (by decide)⟩
  · refine XS.goto X3.here hx rfl (pc0 := 10) (pc' := 14) rfl (hb hby D8_10) (by decide) (by decide) ?_
    exact retN X3 hx (t := .byte) Bd.returns (by simp) (hb hby D8_14) hr
  · show Q_own_cr1 Z sa G1 h0 n0 _ T3.heap _
    rw [e3]
    exact ⟨rfl, N0, rfl⟩
theorem D9_17 : decode jdk_42_method_154_code 17 = .ok (.iconst 0, 1) := by decide +kernel
theorem ef_own_is1 (m : MethodId) {sa : Addr} : entryFrame m #[(.ref sa)] 1 = mkF m 0 #[.val (.ref sa)] [] := by first | (simp [entryFrame, mkF, argsToLocals, Value.category]; done) | rfl
def Q_own_is1 (Z : State) (sa : Addr) (G1 : Int32) (h0 : Heap) (n0 : Nat) (v : Option Value) (h : Heap) (L : List Loc) : Prop := v = some (.int 0) ∧ Fr n0 L ∧ h = h0
set_option maxRecDepth 65536 in
set_option maxHeartbeats 40000000 in
theorem own_is1 (l : Launch) (Z : State) (a0 : Array Value) (hw : ∀ d ∈ tables_1, d.before a0 Z = true) (ws : List Jvm.Cond) (sa : Addr) (G1 : Int32) (h0 : Heap) (n0 : Nat) (Z0 : n0 ≤ h0.size) (CS : Fld Z h0 sa "java/lang/String" "coder" "B" (.int 1)) (O2 : Sta Z Z.heap "java/lang/String" "COMPACT_STRINGS" "Z" (.int G1)) (P5 : ¬ G1 = (0 : Int32)) (XO : Old Z n0 h0) :
    MetFree l (⟨"java/lang/String", "isLatin1", "()Z"⟩ : MethodName) (head1 (Jvm.Cond.code (⟨"java/lang/String", "isLatin1", "()Z"⟩ : MethodName) jdk_42_method_154_code 1 (some .boolean) :: ws) ({ frames := 0, cells := 0, slots := 0, locals := 0 } : Room)) (fun a U => a = #[(.ref sa)] ∧ Z.Warmed39 U.vm ∧ U.heap = h0) (fun _ _ _ _ _ => True) (fun _ U o U' => ∃ v L, o = .returned v ∧ Q_own_is1 Z sa G1 h0 n0 v U'.heap L ∧ FrameEnd U o U' L ({ frames := 0, cells := 0, slots := 0, locals := 0 } : Room).cells ({ frames := 0, cells := 0, slots := 0, locals := 0 } : Room).slots) := by
  refine MetFree.of_bodySF (plainFor_of_name pn_java_lang_String) hisR ?_
  intro p e s m args below meth c s₁ Bd hml0 hP hK
  obtain ⟨rfl, hZ, hh⟩ := hP
  have hx := Bd.exec
  have hby := Bd.bytes
  have hml : c.maxLocals = 1 := hml0
  have hown : s.vm.findClass "java/lang/String" = some m.cls := findClass_of_methodNamed Bd.named
  have hnm := (name_of_methodNamed Bd.named Bd.method).1
  have X0 : Stand p l e ({ frames := 0, cells := 0, slots := 0, locals := 0 } : Room) s m #[(.ref sa)] below meth c s₁ [] 0 0 := Stand.of_body Bd
  have e0 : s₁.heap = h0 := by rw [← hh, Bd.state]; rfl
  have N0 := Fr.nil n0
  have pre0 : ∀ t, Steps p.tables e below (s₁.setTop (mkF m 0 #[.val (.ref sa)] [])) t → Steps p.tables e below (s₁.setTop (entryFrame m #[(.ref sa)] 1)) t := fun t k => castTop (ef_own_is1 m) k
  obtain ⟨T1, X1, e1, st1⟩ := getS2 X0 hx hZ hown (host := "") (Or.inl (gw hw 43 rfl)) Via.refl e0 (O2.ext XO.2) (g := (mkF m 0 #[.val (.ref sa)] [])) rfl (hb hby D9_0)
  have pre2 : ∀ t, Steps p.tables e below (T1.setTop (mkF m 3 #[.val (.ref sa)] [(.int G1)])) t → Steps p.tables e below (s₁.setTop (entryFrame m #[(.ref sa)] 1)) t := by
    intro t kk
    refine pre0 t ?_
    exact st1 _ kk
  obtain ⟨T3, X3, e3, st3⟩ := getF X1 hx hZ hown (host := "") (Or.inl (gw hw 23 rfl)) Via.refl e1 CS (g := (mkF m 7 #[.val (.ref sa)] [(.ref sa)])) rfl rfl (hb hby D9_7)
  have pre4 : ∀ t, Steps p.tables e below (T3.setTop (mkF m 10 #[.val (.ref sa)] [(.int 1)])) t → Steps p.tables e below (s₁.setTop (entryFrame m #[(.ref sa)] 1)) t := by
    intro t kk
    refine pre2 t ?_
    refine XS.ifNo X1.here hx rfl (hb hby D9_3) rfl ((if0 _ _).trans (feq P5).1) ?_
    refine XS.aloadN X1.here hx rfl (hb hby D9_6) rfl rfl ?_
    exact st3 _ kk
  have hbr5 : ¬ ((1 : Int32) = (0 : Int32)) := by decide
  obtain ⟨fs, hr, hrun, hended, hW, hsame⟩ := X3.leave (v := some (.int 0)) (fun h => by rw [Bd.returns] at h; cases h)
  refine ⟨_, _, pre4 _ ?_, hrun, hended, _, _, rfl, ?_, ⟨_, rfl⟩, hW, hsame.mono (by decide) (by decide)⟩
  · refine XS.ifYes X3.here hx rfl (pc0 := 10) (pc' := 17) rfl (hb hby D9_10) rfl ((if0 _ _).trans (feq hbr5).2) (by decide) (by decide) ?_
    refine XS.iconst X3.here hx rfl (hb hby D9_17) ?_
    exact retN X3 hx (t := .boolean) Bd.returns (by simp) (hb hby D9_18) hr
  · show Q_own_is1 Z sa G1 h0 n0 _ T3.heap _
    rw [e3]
    exact ⟨rfl, N0, rfl⟩
theorem D10_0 : decode jdk_42_method_55_code 0 = .ok (.aload_n 0, 1) := by decide +kernel
theorem D10_1 : decode jdk_42_method_55_code 1 = .ok (.getfield 9, 3) := by decide +kernel
theorem D10_4 : decode jdk_42_method_55_code 4 = .ok (.arraylength, 1) := by decide +kernel
theorem D10_5 : decode jdk_42_method_55_code 5 = .ok (.ifCond .ne 7, 3) := by decide +kernel
theorem D10_12 : decode jdk_42_method_55_code 12 = .ok (.iconst 0, 1) := by decide +kernel
theorem D10_13 : decode jdk_42_method_55_code 13 = .ok (.ireturn, 1) := by decide +kernel
theorem ef_own_emp (m : MethodId) {sa : Addr} : entryFrame m #[(.ref sa)] 1 = mkF m 0 #[.val (.ref sa)] [] := by first | (simp [entryFrame, mkF, argsToLocals, Value.category]; done) | rfl
def Q_own_emp (Z : State) (sa sb : Addr) (kS : ClassId) (z : Int32) (us : List Value) (h0 : Heap) (n0 : Nat) (v : Option Value) (h : Heap) (L : List Loc) : Prop := v = some (.int 0) ∧ Fr n0 L ∧ h = h0
set_option maxRecDepth 65536 in
set_option maxHeartbeats 40000000 in
theorem own_emp (l : Launch) (Z : State) (a0 : Array Value) (hw : ∀ d ∈ tables_1, d.before a0 Z = true) (ws : List Jvm.Cond) (sa sb : Addr) (kS : ClassId) (z : Int32) (us : List Value) (h0 : Heap) (n0 : Nat) (Z0 : n0 ≤ h0.size) (ES : Exa Z h0 sa "java/lang/String") (VS : Fld Z h0 sa "java/lang/String" "value" "[B" (.ref sb)) (KS : Arv Z h0 sb kS .byte z us (.int 0)) (hz : ¬ z = (0 : Int32)) :
    MetFree l (⟨"java/lang/String", "isEmpty", "()Z"⟩ : MethodName) (head1 (Jvm.Cond.code (⟨"java/lang/String", "isEmpty", "()Z"⟩ : MethodName) jdk_42_method_55_code 1 (some .boolean) :: ws) ({ frames := 0, cells := 0, slots := 0, locals := 0 } : Room)) (fun a U => a = #[(.ref sa)] ∧ Z.Warmed39 U.vm ∧ U.heap = h0) (fun _ _ _ _ _ => True) (fun _ U o U' => ∃ v L, o = .returned v ∧ Q_own_emp Z sa sb kS z us h0 n0 v U'.heap L ∧ FrameEnd U o U' L ({ frames := 0, cells := 0, slots := 0, locals := 0 } : Room).cells ({ frames := 0, cells := 0, slots := 0, locals := 0 } : Room).slots) := by
  refine MetFree.of_bodySF (plainFor_of_name pn_java_lang_String) hisR ?_
  intro p e s m args below meth c s₁ Bd hml0 hP hK
  obtain ⟨rfl, hZ, hh⟩ := hP
  have hx := Bd.exec
  have hby := Bd.bytes
  have hml : c.maxLocals = 1 := hml0
  have hown : s.vm.findClass "java/lang/String" = some m.cls := findClass_of_methodNamed Bd.named
  have hnm := (name_of_methodNamed Bd.named Bd.method).1
  have X0 : Stand p l e ({ frames := 0, cells := 0, slots := 0, locals := 0 } : Room) s m #[(.ref sa)] below meth c s₁ [] 0 0 := Stand.of_body Bd
  have e0 : s₁.heap = h0 := by rw [← hh, Bd.state]; rfl
  have N0 := Fr.nil n0
  have pre0 : ∀ t, Steps p.tables e below (s₁.setTop (mkF m 0 #[.val (.ref sa)] [])) t → Steps p.tables e below (s₁.setTop (entryFrame m #[(.ref sa)] 1)) t := fun t k => castTop (ef_own_emp m) k
  obtain ⟨T1, X1, e1, st1⟩ := getF X0 hx hZ hown (host := "") (Or.inl (gw hw 22 rfl)) Via.refl e0 VS (g := (mkF m 1 #[.val (.ref sa)] [(.ref sa)])) rfl rfl (hb hby D10_1)
  have pre2 : ∀ t, Steps p.tables e below (T1.setTop (mkF m 4 #[.val (.ref sa)] [(.ref sb)])) t → Steps p.tables e below (s₁.setTop (entryFrame m #[(.ref sa)] 1)) t := by
    intro t kk
    refine pre0 t ?_
    refine XS.aloadN X0.here hx rfl (hb hby D10_0) rfl rfl ?_
    exact st1 _ kk
  obtain ⟨cl3, Ar3, q3, S3, M3, H3, Gv3⟩ := id KS
  obtain ⟨fs, hr, hrun, hended, hW, hsame⟩ := X1.leave (v := some (.int 0)) (fun h => by rw [Bd.returns] at h; cases h)
  refine ⟨_, _, pre2 _ ?_, hrun, hended, _, _, rfl, ?_, ⟨_, rfl⟩, hW, hsame.mono (by decide) (by decide)⟩
  · refine X1.arraylength hx (by rw [e1]; exact Ar3.1) (State.isArrayOf_alike hZ.alike Ar3.2.1) (g := (mkF m 4 #[.val (.ref sa)] [(.ref sb)])) rfl rfl (hb hby D10_4) _ ?_
    rw [len_of S3 M3]
    refine XS.ifYes X1.here hx rfl (pc0 := 5) (pc' := 12) rfl (hb hby D10_5) rfl ((if0 _ _).trans (feq hz).2) (by decide) (by decide) ?_
    refine XS.iconst X1.here hx rfl (hb hby D10_12) ?_
    exact retN X1 hx (t := .boolean) Bd.returns (by simp) (hb hby D10_13) hr
  · show Q_own_emp Z sa sb kS z us h0 n0 _ T1.heap _
    rw [e1]
    exact ⟨rfl, N0, rfl⟩
theorem D10_8 : decode jdk_42_method_55_code 8 = .ok (.iconst 1, 1) := by decide +kernel
theorem D10_9 : decode jdk_42_method_55_code 9 = .ok (.goto 4, 3) := by decide +kernel
theorem ef_own_emp0 (m : MethodId) {sa : Addr} : entryFrame m #[(.ref sa)] 1 = mkF m 0 #[.val (.ref sa)] [] := by first | (simp [entryFrame, mkF, argsToLocals, Value.category]; done) | rfl
def Q_own_emp0 (Z : State) (sa sb : Addr) (kS : ClassId) (G1 : Int32) (h0 : Heap) (n0 : Nat) (v : Option Value) (h : Heap) (L : List Loc) : Prop := v = some (.int 1) ∧ Fr n0 L ∧ h = h0
set_option maxRecDepth 65536 in
set_option maxHeartbeats 40000000 in
theorem own_emp0 (l : Launch) (Z : State) (a0 : Array Value) (hw : ∀ d ∈ tables_1, d.before a0 Z = true) (ws : List Jvm.Cond) (sa sb : Addr) (kS : ClassId) (G1 : Int32) (h0 : Heap) (n0 : Nat) (Z0 : n0 ≤ h0.size) (ES : Exa Z h0 sa "java/lang/String") (VS : Fld Z h0 sa "java/lang/String" "value" "[B" (.ref sb)) (CS : Fld Z h0 sa "java/lang/String" "coder" "B" (.int 0)) (KS : Arv Z h0 sb kS .byte (0 : Int32) [] (.int 0)) (O2 : Sta Z Z.heap "java/lang/String" "COMPACT_STRINGS" "Z" (.int G1)) (P5 : ¬ G1 = (0 : Int32)) (XO : Old Z n0 h0) :
    MetFree l (⟨"java/lang/String", "isEmpty", "()Z"⟩ : MethodName) (head1 (Jvm.Cond.code (⟨"java/lang/String", "isEmpty", "()Z"⟩ : MethodName) jdk_42_method_55_code 1 (some .boolean) :: ws) ({ frames := 0, cells := 0, slots := 0, locals := 0 } : Room)) (fun a U => a = #[(.ref sa)] ∧ Z.Warmed39 U.vm ∧ U.heap = h0) (fun _ _ _ _ _ => True) (fun _ U o U' => ∃ v L, o = .returned v ∧ Q_own_emp0 Z sa sb kS G1 h0 n0 v U'.heap L ∧ FrameEnd U o U' L ({ frames := 0, cells := 0, slots := 0, locals := 0 } : Room).cells ({ frames := 0, cells := 0, slots := 0, locals := 0 } : Room).slots) := by
  refine MetFree.of_bodySF (plainFor_of_name pn_java_lang_String) hisR ?_
  intro p e s m args below meth c s₁ Bd hml0 hP hK
  obtain ⟨rfl, hZ, hh⟩ := hP
  have hx := Bd.exec
  have hby := Bd.bytes
  have hml : c.maxLocals = 1 := hml0
  have hown : s.vm.findClass "java/lang/String" = some m.cls := findClass_of_methodNamed Bd.named
  have hnm := (name_of_methodNamed Bd.named Bd.method).1
  have X0 : Stand p l e ({ frames := 0, cells := 0, slots := 0, locals := 0 } : Room) s m #[(.ref sa)] below meth c s₁ [] 0 0 := Stand.of_body Bd
  have e0 : s₁.heap = h0 := by rw [← hh, Bd.state]; rfl
  have N0 := Fr.nil n0
  have pre0 : ∀ t, Steps p.tables e below (s₁.setTop (mkF m 0 #[.val (.ref sa)] [])) t → Steps p.tables e below (s₁.setTop (entryFrame m #[(.ref sa)] 1)) t := fun t k => castTop (ef_own_emp0 m) k
  obtain ⟨T1, X1, e1, st1⟩ := getF X0 hx hZ hown (host := "") (Or.inl (gw hw 22 rfl)) Via.refl e0 VS (g := (mkF m 1 #[.val (.ref sa)] [(.ref sa)])) rfl rfl (hb hby D10_1)
  have pre2 : ∀ t, Steps p.tables e below (T1.setTop (mkF m 4 #[.val (.ref sa)] [(.ref sb)])) t → Steps p.tables e below (s₁.setTop (entryFrame m #[(.ref sa)] 1)) t := by
    intro t kk
    refine pre0 t ?_
    refine XS.aloadN X0.here hx rfl (hb hby D10_0) rfl rfl ?_
    exact st1 _ kk
  obtain ⟨cl3, Ar3, q3, S3, M3, H3, Gv3⟩ := id KS
  have hbr4 : (0 : Int32) = (0 : Int32) := rfl
  obtain ⟨fs, hr, hrun, hended, hW, hsame⟩ := X1.leave (v := some (.int 1)) (fun h => by rw [Bd.returns] at h; cases h)
  refine ⟨_, _, pre2 _ ?_, hrun, hended, _, _, rfl, ?_, ⟨_, rfl⟩, hW, hsame.mono (by decide) (by decide)⟩
  · refine X1.arraylength hx (by rw [e1]; exact Ar3.1) (State.isArrayOf_alike hZ.alike Ar3.2.1) (g := (mkF m 4 #[.val (.ref sa)] [(.ref sb)])) rfl rfl (hb hby D10_4) _ ?_
    rw [len_of S3 M3]
    refine XS.ifNo X1.here hx rfl (hb hby D10_5) rfl ((if0 _ _).trans (teq hbr4).2) ?_
    refine XS.iconst X1.here hx rfl (hb hby D10_8) ?_
    refine XS.goto X1.here hx rfl (pc0 := 9) (pc' := 13) rfl (hb hby D10_9) (by decide) (by decide) ?_
    exact retN X1 hx (t := .boolean) Bd.returns (by simp) (hb hby D10_13) hr
  · show Q_own_emp0 Z sa sb kS G1 h0 n0 _ T1.heap _
    rw [e1]
    exact ⟨rfl, N0, rfl⟩
theorem D11_0 : decode jdk_42_method_54_code 0 = .ok (.aload_n 0, 1) := by decide +kernel
theorem D11_1 : decode jdk_42_method_54_code 1 = .ok (.getfield 9, 3) := by decide +kernel
theorem D11_4 : decode jdk_42_method_54_code 4 = .ok (.arraylength, 1) := by decide +kernel
theorem D11_5 : decode jdk_42_method_54_code 5 = .ok (.aload_n 0, 1) := by decide +kernel
theorem pd___B : parseMethodDescriptor "()B" = some ⟨[], some .byte⟩ := by decide +kernel
theorem D11_6 : decode jdk_42_method_54_code 6 = .ok (.invokevirtual 335, 3) := by decide +kernel
theorem D11_9 : decode jdk_42_method_54_code 9 = .ok (.ishr, 1) := by decide +kernel
theorem D11_10 : decode jdk_42_method_54_code 10 = .ok (.ireturn, 1) := by decide +kernel
theorem ef_own_len0 (m : MethodId) {sa : Addr} : entryFrame m #[(.ref sa)] 1 = mkF m 0 #[.val (.ref sa)] [] := by first | (simp [entryFrame, mkF, argsToLocals, Value.category]; done) | rfl
def Q_own_len0 (Z : State) (sa sb : Addr) (kS : ClassId) (G1 : Int32) (h0 : Heap) (n0 : Nat) (v : Option Value) (h : Heap) (L : List Loc) : Prop := v = some (.int 0) ∧ Fr n0 L ∧ h = h0
set_option maxRecDepth 65536 in
set_option maxHeartbeats 40000000 in
theorem own_len0 (l : Launch) (Z : State) (a0 : Array Value) (hw : ∀ d ∈ tables_1, d.before a0 Z = true) (ws : List Jvm.Cond) (sa sb : Addr) (kS : ClassId) (G1 : Int32) (h0 : Heap) (n0 : Nat) (Z0 : n0 ≤ h0.size) (ES : Exa Z h0 sa "java/lang/String") (VS : Fld Z h0 sa "java/lang/String" "value" "[B" (.ref sb)) (CS : Fld Z h0 sa "java/lang/String" "coder" "B" (.int 0)) (KS : Arv Z h0 sb kS .byte (0 : Int32) [] (.int 0)) (O2 : Sta Z Z.heap "java/lang/String" "COMPACT_STRINGS" "Z" (.int G1)) (P5 : ¬ G1 = (0 : Int32)) (XO : Old Z n0 h0) :
    MetFree l (⟨"java/lang/String", "length", "()I"⟩ : MethodName) (head1 (Jvm.Cond.code (⟨"java/lang/String", "length", "()I"⟩ : MethodName) jdk_42_method_54_code 1 (some .int) :: ws) ({ frames := 1, cells := 0, slots := 0, locals := 13 } : Room)) (fun a U => a = #[(.ref sa)] ∧ Z.Warmed39 U.vm ∧ U.heap = h0) (fun _ _ _ _ _ => True) (fun _ U o U' => ∃ v L, o = .returned v ∧ Q_own_len0 Z sa sb kS G1 h0 n0 v U'.heap L ∧ FrameEnd U o U' L ({ frames := 1, cells := 0, slots := 0, locals := 13 } : Room).cells ({ frames := 1, cells := 0, slots := 0, locals := 13 } : Room).slots) := by
  refine MetFree.of_bodySF (plainFor_of_name pn_java_lang_String) hisR ?_
  intro p e s m args below meth c s₁ Bd hml0 hP hK
  obtain ⟨rfl, hZ, hh⟩ := hP
  have hx := Bd.exec
  have hby := Bd.bytes
  have hml : c.maxLocals = 1 := hml0
  have hown : s.vm.findClass "java/lang/String" = some m.cls := findClass_of_methodNamed Bd.named
  have hnm := (name_of_methodNamed Bd.named Bd.method).1
  have X0 : Stand p l e ({ frames := 1, cells := 0, slots := 0, locals := 13 } : Room) s m #[(.ref sa)] below meth c s₁ [] 0 0 := Stand.of_body Bd
  have e0 : s₁.heap = h0 := by rw [← hh, Bd.state]; rfl
  have N0 := Fr.nil n0
  have pre0 : ∀ t, Steps p.tables e below (s₁.setTop (mkF m 0 #[.val (.ref sa)] [])) t → Steps p.tables e below (s₁.setTop (entryFrame m #[(.ref sa)] 1)) t := fun t k => castTop (ef_own_len0 m) k
  obtain ⟨T1, X1, e1, st1⟩ := getF X0 hx hZ hown (host := "") (Or.inl (gw hw 22 rfl)) Via.refl e0 VS (g := (mkF m 1 #[.val (.ref sa)] [(.ref sa)])) rfl rfl (hb hby D11_1)
  have pre2 : ∀ t, Steps p.tables e below (T1.setTop (mkF m 4 #[.val (.ref sa)] [(.ref sb)])) t → Steps p.tables e below (s₁.setTop (entryFrame m #[(.ref sa)] 1)) t := by
    intro t kk
    refine pre0 t ?_
    refine XS.aloadN X0.here hx rfl (hb hby D11_0) rfl rfl ?_
    exact st1 _ kk
  obtain ⟨cl3, Ar3, q3, S3, M3, H3, Gv3⟩ := id KS
  obtain ⟨cq4, kq4, q4a, q4b, q4c⟩ := isOf hZ e1 ES
  obtain ⟨_, _, ⟨T4, L4, k4, n4⟩, -, X4, ⟨Lc4, hQ4, l4, y4, z4⟩, st4⟩ := X1.virtualBack hx (y := (⟨"java/lang/String", "coder", "()B"⟩ : MethodName)) (z := (⟨"java/lang/String", "coder", "()B"⟩ : MethodName)) hown (mvT hZ (gw hw 38 rfl)) (mvT hZ (gw hw 39 rfl)) (notFace_of_selects (args := #[]) (mvT hZ (gw hw 41 rfl))) (mvT hZ (gw hw 41 rfl)) (mvT hZ (gw hw 40 rfl)) (by decide) (backOf (W := 1) (own_cr0 l Z a0 hw [] sa G1 h0 n0 Z0 CS O2 P5 XO) hZ (gw hw 42 rfl) (gw hw 5 rfl) (by decide) (by decide)) q4a q4c (g := (mkF m 6 #[.val (.ref sa)] [(.ref sa), (.int 0)])) rfl (by rw [hml]; rfl) (Steps.refl _) (argsL := []) (rest := [(.int 0)]) (lenOf pd___B rfl) rfl (by show 2 * 0 + _ ≤ _; exact Nat.le_of_eq rfl) (hb hby D11_6) (fun _ _ => ⟨rfl, e1, (by decide : 0 + 0 ≤ _), (by decide : 0 + 0 ≤ _)⟩)
  dsimp only [Pt.U, Pt.locs, Pt.cells, Pt.slots] at X4 l4 y4 z4 st4 hQ4
  subst l4 y4 z4
  obtain ⟨rfl, N4q, e4q⟩ := hQ4
  have N4 := Fr.app N0 N4q
  have pre5 : ∀ t, Steps p.tables e below (T4.setTop (mkF m 9 #[.val (.ref sa)] [(.int 0), (.int 0)])) t → Steps p.tables e below (s₁.setTop (entryFrame m #[(.ref sa)] 1)) t := by
    intro t kk
    refine pre2 t ?_
    refine X1.arraylength hx (by rw [e1]; exact Ar3.1) (State.isArrayOf_alike hZ.alike Ar3.2.1) (g := (mkF m 4 #[.val (.ref sa)] [(.ref sb)])) rfl rfl (hb hby D11_4) _ ?_
    rw [len_of S3 M3]
    refine XS.aloadN X1.here hx rfl (hb hby D11_5) rfl rfl ?_
    exact st4.trans kk
  have pre6 : ∀ t, Steps p.tables e below (T4.setTop (mkF m 10 #[.val (.ref sa)] [(.int ((0 : Int32) >>> ((0 : Int32) &&& 31)))])) t → Steps p.tables e below (s₁.setTop (entryFrame m #[(.ref sa)] 1)) t := by
    intro t kk
    refine pre5 t ?_
    refine XS.ishr X4.here hx rfl (hb hby D11_9) rfl ?_
    exact kk
  rw [(by decide : ((0 : Int32) >>> ((0 : Int32) &&& 31)) = (0 : Int32))] at pre6
  obtain ⟨fs, hr, hrun, hended, hW, hsame⟩ := X4.leave (v := some (.int 0)) (fun h => by rw [Bd.returns] at h; cases h)
  refine ⟨_, _, pre6 _ ?_, hrun, hended, _, _, rfl, ?_, ⟨_, rfl⟩, hW, hsame.mono (by decide) (by decide)⟩
  · exact retI X4 hx Bd.returns (hb hby D11_10) hr
  · show Q_own_len0 Z sa sb kS G1 h0 n0 _ T4.heap _
    rw [e4q]
    exact ⟨rfl, N4, rfl⟩
theorem pn_com_example_hulse_hulse_environment_internal_ListIndex : plainName "com/example/hulse/hulse/environment/internal/ListIndex" = true := by first | (simp [plainName, overriddenIn]; done) | decide +kernel
theorem D12_0 : decode prog_80_method_2_code 0 = .ok (.aload_n 0, 1) := by decide +kernel
theorem pd___Z : parseMethodDescriptor "()Z" = some ⟨[], some .boolean⟩ := by decide +kernel
theorem D12_1 : decode prog_80_method_2_code 1 = .ok (.invokevirtual 7, 3) := by decide +kernel
theorem D12_4 : decode prog_80_method_2_code 4 = .ok (.ifCond .ne 25, 3) := by decide +kernel
theorem D12_29 : decode prog_80_method_2_code 29 = .ok (.iconst 0, 1) := by decide +kernel
theorem D12_30 : decode prog_80_method_2_code 30 = .ok (.istore_n 1, 1) := by decide +kernel
theorem D12_31 : decode prog_80_method_2_code 31 = .ok (.iconst 0, 1) := by decide +kernel
theorem D12_32 : decode prog_80_method_2_code 32 = .ok (.istore_n 2, 1) := by decide +kernel
theorem D12_33 : decode prog_80_method_2_code 33 = .ok (.iload_n 2, 1) := by decide +kernel
theorem D12_34 : decode prog_80_method_2_code 34 = .ok (.aload_n 0, 1) := by decide +kernel
theorem pd___I : parseMethodDescriptor "()I" = some ⟨[], some .int⟩ := by decide +kernel
theorem D12_35 : decode prog_80_method_2_code 35 = .ok (.invokevirtual 13, 3) := by decide +kernel
theorem D12_38 : decode prog_80_method_2_code 38 = .ok (.if_icmp .ge 39, 3) := by decide +kernel
theorem D12_77 : decode prog_80_method_2_code 77 = .ok (.iload_n 1, 1) := by decide +kernel
theorem D12_78 : decode prog_80_method_2_code 78 = .ok (.ireturn, 1) := by decide +kernel
theorem ef_own_mt0 (m : MethodId) {sa : Addr} : entryFrame m #[(.ref sa)] 3 = mkF m 0 #[.val (.ref sa), .unset, .unset] [] := by first | (simp [entryFrame, mkF, argsToLocals, Value.category]; done) | rfl
def Q_own_mt0 (Z : State) (sa sb : Addr) (kS : ClassId) (G1 : Int32) (h0 : Heap) (n0 : Nat) (v : Option Value) (h : Heap) (L : List Loc) : Prop := v = some (.int 0) ∧ Fr n0 L ∧ h = h0
set_option maxRecDepth 65536 in
set_option maxHeartbeats 40000000 in
theorem own_mt0 (l : Launch) (Z : State) (a0 : Array Value) (hw : ∀ d ∈ tables_1, d.before a0 Z = true) (ws : List Jvm.Cond) (sa sb : Addr) (kS : ClassId) (G1 : Int32) (h0 : Heap) (n0 : Nat) (Z0 : n0 ≤ h0.size) (ES : Exa Z h0 sa "java/lang/String") (VS : Fld Z h0 sa "java/lang/String" "value" "[B" (.ref sb)) (CS : Fld Z h0 sa "java/lang/String" "coder" "B" (.int 0)) (KS : Arv Z h0 sb kS .byte (0 : Int32) [] (.int 0)) (O2 : Sta Z Z.heap "java/lang/String" "COMPACT_STRINGS" "Z" (.int G1)) (P5 : ¬ G1 = (0 : Int32)) (XO : Old Z n0 h0) :
    MetFree l (⟨"com/example/hulse/hulse/environment/internal/ListIndex", "matches", "(Ljava/lang/String;)Z"⟩ : MethodName) (head1 (Jvm.Cond.code (⟨"com/example/hulse/hulse/environment/internal/ListIndex", "matches", "(Ljava/lang/String;)Z"⟩ : MethodName) prog_80_method_2_code 3 (some .boolean) :: ws) ({ frames := 2, cells := 0, slots := 0, locals := 26 } : Room)) (fun a U => a = #[(.ref sa)] ∧ Z.Warmed39 U.vm ∧ U.heap = h0) (fun _ _ _ _ _ => True) (fun _ U o U' => ∃ v L, o = .returned v ∧ Q_own_mt0 Z sa sb kS G1 h0 n0 v U'.heap L ∧ FrameEnd U o U' L ({ frames := 2, cells := 0, slots := 0, locals := 26 } : Room).cells ({ frames := 2, cells := 0, slots := 0, locals := 26 } : Room).slots) := by
  refine MetFree.of_bodySF (plainFor_of_name pn_com_example_hulse_hulse_environment_internal_ListIndex) hisR ?_
  intro p e s m args below meth c s₁ Bd hml0 hP hK
  obtain ⟨rfl, hZ, hh⟩ := hP
  have hx := Bd.exec
  have hby := Bd.bytes
  have hml : c.maxLocals = 3 := hml0
  have hown : s.vm.findClass "com/example/hulse/hulse/environment/internal/ListIndex" = some m.cls := findClass_of_methodNamed Bd.named
  have hnm := (name_of_methodNamed Bd.named Bd.method).1
  have X0 : Stand p l e ({ frames := 2, cells := 0, slots := 0, locals := 26 } : Room) s m #[(.ref sa)] below meth c s₁ [] 0 0 := Stand.of_body Bd
  have e0 : s₁.heap = h0 := by rw [← hh, Bd.state]; rfl
  have N0 := Fr.nil n0
  have pre0 : ∀ t, Steps p.tables e below (s₁.setTop (mkF m 0 #[.val (.ref sa), .unset, .unset] [])) t → Steps p.tables e below (s₁.setTop (entryFrame m #[(.ref sa)] 3)) t := fun t k => castTop (ef_own_mt0 m) k
  obtain ⟨cq1, kq1, q1a, q1b, q1c⟩ := isOf hZ e0 ES
  obtain ⟨_, _, ⟨T1, L1, k1, n1⟩, -, X1, ⟨Lc1, hQ1, l1, y1, z1⟩, st1⟩ := X0.virtualBack hx (y := (⟨"java/lang/String", "isEmpty", "()Z"⟩ : MethodName)) (z := (⟨"java/lang/String", "isEmpty", "()Z"⟩ : MethodName)) hown (mvT hZ (gw hw 28 rfl)) (mvT hZ (gw hw 29 rfl)) (notFace_of_selects (args := #[]) (mvT hZ (gw hw 31 rfl))) (mvT hZ (gw hw 31 rfl)) (mvT hZ (gw hw 30 rfl)) (by decide) (backOf (W := 0) (own_emp0 l Z a0 hw [] sa sb kS G1 h0 n0 Z0 ES VS CS KS O2 P5 XO) hZ (gw hw 32 rfl) (gw hw 5 rfl) (by decide) (by decide)) q1a q1c (g := (mkF m 1 #[.val (.ref sa), .unset, .unset] [(.ref sa)])) rfl (by rw [hml]; rfl) (Steps.refl _) (argsL := []) (rest := []) (lenOf pd___Z rfl) rfl (by show 2 * 0 + _ ≤ _; exact Nat.le_of_eq rfl) (hb hby D12_1) (fun _ _ => ⟨rfl, e0, (by decide : 0 + 0 ≤ _), (by decide : 0 + 0 ≤ _)⟩)
  dsimp only [Pt.U, Pt.locs, Pt.cells, Pt.slots] at X1 l1 y1 z1 st1 hQ1
  subst l1 y1 z1
  obtain ⟨rfl, N1q, e1q⟩ := hQ1
  have N1 := Fr.app N0 N1q
  have pre2 : ∀ t, Steps p.tables e below (T1.setTop (mkF m 4 #[.val (.ref sa), .unset, .unset] [(.int 1)])) t → Steps p.tables e below (s₁.setTop (entryFrame m #[(.ref sa)] 3)) t := by
    intro t kk
    refine pre0 t ?_
    refine XS.aloadN X0.here hx rfl (hb hby D12_0) rfl rfl ?_
    exact st1.trans kk
  have hbr3 : ¬ ((1 : Int32) = (0 : Int32)) := by decide
  obtain ⟨cq4, kq4, q4a, q4b, q4c⟩ := isOf hZ e1q ES
  obtain ⟨_, _, ⟨T4, L4, k4, n4⟩, -, X4, ⟨Lc4, hQ4, l4, y4, z4⟩, st4⟩ := X1.virtualBack hx (y := (⟨"java/lang/String", "length", "()I"⟩ : MethodName)) (z := (⟨"java/lang/String", "length", "()I"⟩ : MethodName)) hown (mvT hZ (gw hw 33 rfl)) (mvT hZ (gw hw 34 rfl)) (notFace_of_selects (args := #[]) (mvT hZ (gw hw 36 rfl))) (mvT hZ (gw hw 36 rfl)) (mvT hZ (gw hw 35 rfl)) (by decide) (backOf (W := 1) (own_len0 l Z a0 hw [] sa sb kS G1 h0 n0 Z0 ES VS CS KS O2 P5 XO) hZ (gw hw 37 rfl) (gw hw 5 rfl) (by decide) (by decide)) q4a q4c (g := (mkF m 35 #[.val (.ref sa), .val (.int 0), .val (.int 0)] [(.ref sa), (.int 0)])) rfl (by rw [hml]; rfl) (Steps.refl _) (argsL := []) (rest := [(.int 0)]) (lenOf pd___I rfl) rfl (by show 2 * 0 + _ ≤ _; exact Nat.le_of_eq rfl) (hb hby D12_35) (fun _ _ => ⟨rfl, e1q, (by decide : 0 + 0 ≤ _), (by decide : 0 + 0 ≤ _)⟩)
  dsimp only [Pt.U, Pt.locs, Pt.cells, Pt.slots] at X4 l4 y4 z4 st4 hQ4
  subst l4 y4 z4
  obtain ⟨rfl, N4q, e4q⟩ := hQ4
  have N4 := Fr.app N1 N4q
  have pre5 : ∀ t, Steps p.tables e below (T4.setTop (mkF m 38 #[.val (.ref sa), .val (.int 0), .val (.int 0)] [(.int 0), (.int 0)])) t → Steps p.tables e below (s₁.setTop (entryFrame m #[(.ref sa)] 3)) t := by
    intro t kk
    refine pre2 t ?_
    refine XS.ifYes X1.here hx rfl (pc0 := 4) (pc' := 29) rfl (hb hby D12_4) rfl ((if0 _ _).trans (feq hbr3).2) (by decide) (by decide) ?_
    refine XS.iconst X1.here hx rfl (hb hby D12_29) ?_
    refine XS.istoreN X1.here hx rfl (hb hby D12_30) rfl (l' := #[.val (.ref sa), .val (.int 0), .unset]) rfl ?_
    refine XS.iconst X1.here hx rfl (hb hby D12_31) ?_
    refine XS.istoreN X1.here hx rfl (hb hby D12_32) rfl (l' := #[.val (.ref sa), .val (.int 0), .val (.int 0)]) rfl ?_
    refine XS.iloadN X1.here hx rfl (hb hby D12_33) rfl ?_
    refine XS.aloadN X1.here hx rfl (hb hby D12_34) rfl rfl ?_
    exact st4.trans kk
  have hbr6 : ¬ ((0 : Int32) < (0 : Int32)) := by decide
  obtain ⟨fs, hr, hrun, hended, hW, hsame⟩ := X4.leave (v := some (.int 0)) (fun h => by rw [Bd.returns] at h; cases h)
  refine ⟨_, _, pre5 _ ?_, hrun, hended, _, _, rfl, ?_, ⟨_, rfl⟩, hW, hsame.mono (by decide) (by decide)⟩
  · refine XS.icmpYes X4.here hx rfl (pc0 := 38) (pc' := 77) rfl (hb hby D12_38) rfl (flt hbr6).2.1 (by decide) (by decide) ?_
    refine XS.iloadN X4.here hx rfl (hb hby D12_77) rfl ?_
    exact retN X4 hx (t := .boolean) Bd.returns (by simp) (hb hby D12_78) hr
  · show Q_own_mt0 Z sa sb kS G1 h0 n0 _ T4.heap _
    rw [e4q]
    exact ⟨rfl, N4, rfl⟩
def own_dg (x : Int32) : Prop := ¬ x < (48 : Int32) ∧ ¬ (57 : Int32) < x
def own_M (cs : List Int32) : Prop := (cs.length = 1 ∨ ¬ cs.getD 0 0 = (48 : Int32)) ∧ ∀ i, i < cs.length → own_dg (cs.getD i 0)
theorem own_least {P : Nat → Prop} {n : Nat} (h : ¬ ∀ i, i < n → P i) : ∃ i, i < n ∧ ¬ P i ∧ ∀ j, j < i → P j := by
  induction n with
  | zero => exact absurd (fun i hi => absurd hi (Nat.not_lt_zero i)) h
  | succ n ih =>
    by_cases q : ∀ i, i < n → P i
    · refine ⟨n, Nat.lt_succ_self n, fun z => h fun i hi => ?_, q⟩
      rcases Nat.lt_succ_iff_lt_or_eq.mp hi with y | rfl
      · exact q i y
      · exact z
    · obtain ⟨i, a, b, e⟩ := ih q
      exact ⟨i, Nat.lt_succ_of_lt a, b, e⟩
theorem pn_com_example_hulse_hulse_environment_internal_ListIndexMatchesPinLaw : plainName "com/example/hulse/hulse/environment/internal/ListIndexMatchesPinLaw" = true := by first | (simp [plainName, overriddenIn]; done) | decide +kernel
theorem D13_0 : decode method_3_code 0 = .ok (.iload_n 0, 1) := by decide +kernel
theorem D13_1 : decode method_3_code 1 = .ok (.bipush 48, 2) := by decide +kernel
theorem D13_3 : decode method_3_code 3 = .ok (.if_icmp .lt 13, 3) := by decide +kernel
theorem D13_16 : decode method_3_code 16 = .ok (.iconst 0, 1) := by decide +kernel
theorem D13_17 : decode method_3_code 17 = .ok (.ireturn, 1) := by decide +kernel
theorem D13_6 : decode method_3_code 6 = .ok (.iload_n 0, 1) := by decide +kernel
theorem D13_7 : decode method_3_code 7 = .ok (.bipush 57, 2) := by decide +kernel
theorem D13_9 : decode method_3_code 9 = .ok (.if_icmp .gt 7, 3) := by decide +kernel
theorem D13_12 : decode method_3_code 12 = .ok (.iconst 1, 1) := by decide +kernel
theorem D13_13 : decode method_3_code 13 = .ok (.goto 4, 3) := by decide +kernel
theorem ef_own_dig (m : MethodId) {dd : Int32} : entryFrame m #[(.int dd)] 1 = mkF m 0 #[.val (.int dd)] [] := by first | (simp [entryFrame, mkF, argsToLocals, Value.category]; done) | rfl
def Q_own_dig (Z : State) (dd : Int32) (h0 : Heap) (n0 : Nat) (v : Option Value) (h : Heap) (L : List Loc) : Prop := ∃ r : Int32, v = some (.int r) ∧ Fr n0 L ∧ h = h0 ∧ (own_dg dd → r = 1) ∧ (¬ own_dg dd → r = 0)
set_option maxRecDepth 65536 in
set_option maxHeartbeats 40000000 in
theorem own_dig (l : Launch) (Z : State) (a0 : Array Value) (hw : ∀ d ∈ tables_1, d.before a0 Z = true) (ws : List Jvm.Cond) (dd : Int32) (h0 : Heap) (n0 : Nat) (Z0 : n0 ≤ h0.size)  :
    MetFree l (⟨"com/example/hulse/hulse/environment/internal/ListIndexMatchesPinLaw", "dig", "(C)Z"⟩ : MethodName) (head1 (Jvm.Cond.code (⟨"com/example/hulse/hulse/environment/internal/ListIndexMatchesPinLaw", "dig", "(C)Z"⟩ : MethodName) method_3_code 1 (some .boolean) :: ws) ({ frames := 0, cells := 0, slots := 0, locals := 0 } : Room)) (fun a U => a = #[(.int dd)] ∧ Z.Warmed39 U.vm ∧ U.heap = h0) (fun _ _ _ _ _ => True) (fun _ U o U' => ∃ v L, o = .returned v ∧ Q_own_dig Z dd h0 n0 v U'.heap L ∧ FrameEnd U o U' L ({ frames := 0, cells := 0, slots := 0, locals := 0 } : Room).cells ({ frames := 0, cells := 0, slots := 0, locals := 0 } : Room).slots) := by
  refine MetFree.of_bodySF (plainFor_of_name pn_com_example_hulse_hulse_environment_internal_ListIndexMatchesPinLaw) hisR ?_
  intro p e s m args below meth c s₁ Bd hml0 hP hK
  obtain ⟨rfl, hZ, hh⟩ := hP
  have hx := Bd.exec
  have hby := Bd.bytes
  have hml : c.maxLocals = 1 := hml0
  have hown : s.vm.findClass "com/example/hulse/hulse/environment/internal/ListIndexMatchesPinLaw" = some m.cls := findClass_of_methodNamed Bd.named
  have hnm := (name_of_methodNamed Bd.named Bd.method).1
  have X0 : Stand p l e ({ frames := 0, cells := 0, slots := 0, locals := 0 } : Room) s m #[(.int dd)] below meth c s₁ [] 0 0 := Stand.of_body Bd
  have e0 : s₁.heap = h0 := by rw [← hh, Bd.state]; rfl
  have N0 := Fr.nil n0
  have pre0 : ∀ t, Steps p.tables e below (s₁.setTop (mkF m 0 #[.val (.int dd)] [])) t → Steps p.tables e below (s₁.setTop (entryFrame m #[(.int dd)] 1)) t := fun t k => castTop (ef_own_dig m) k
  by_cases h1 : dd < (48 : Int32)
  case pos =>
    obtain ⟨fs, hr, hrun, hended, hW, hsame⟩ := X0.leave (v := some (.int 0)) (fun h => by rw [Bd.returns] at h; cases h)
    refine ⟨_, _, pre0 _ ?_, hrun, hended, _, _, rfl, ?_, ⟨_, rfl⟩, hW, hsame.mono (by decide) (by decide)⟩
    · refine XS.iloadN X0.here hx rfl (hb hby D13_0) rfl ?_
      refine XS.bipush X0.here hx rfl (hb hby D13_1) ?_
      refine XS.icmpYes X0.here hx rfl (pc0 := 3) (pc' := 16) rfl (hb hby D13_3) rfl (tlt h1).1 (by decide) (by decide) ?_
      refine XS.iconst X0.here hx rfl (hb hby D13_16) ?_
      exact retN X0 hx (t := .boolean) Bd.returns (by simp) (hb hby D13_17) hr
    · show Q_own_dig Z dd h0 n0 _ s₁.heap _
      rw [e0]
      exact ⟨0, rfl, N0, rfl, fun q => absurd h1 q.1, fun _ => rfl⟩
  case neg =>
    by_cases h2 : (57 : Int32) < dd
    case pos =>
      obtain ⟨fs, hr, hrun, hended, hW, hsame⟩ := X0.leave (v := some (.int 0)) (fun h => by rw [Bd.returns] at h; cases h)
      refine ⟨_, _, pre0 _ ?_, hrun, hended, _, _, rfl, ?_, ⟨_, rfl⟩, hW, hsame.mono (by decide) (by decide)⟩
      · refine XS.iloadN X0.here hx rfl (hb hby D13_0) rfl ?_
        refine XS.bipush X0.here hx rfl (hb hby D13_1) ?_
        refine XS.icmpNo X0.here hx rfl (hb hby D13_3) rfl (flt h1).1 ?_
        refine XS.iloadN X0.here hx rfl (hb hby D13_6) rfl ?_
        refine XS.bipush X0.here hx rfl (hb hby D13_7) ?_
        refine XS.icmpYes X0.here hx rfl (pc0 := 9) (pc' := 16) rfl (hb hby D13_9) rfl (tlt h2).2.2.1 (by decide) (by decide) ?_
        refine XS.iconst X0.here hx rfl (hb hby D13_16) ?_
        exact retN X0 hx (t := .boolean) Bd.returns (by simp) (hb hby D13_17) hr
      · show Q_own_dig Z dd h0 n0 _ s₁.heap _
        rw [e0]
        exact ⟨0, rfl, N0, rfl, fun q => absurd h2 q.2, fun _ => rfl⟩
    case neg =>
      obtain ⟨fs, hr, hrun, hended, hW, hsame⟩ := X0.leave (v := some (.int 1)) (fun h => by rw [Bd.returns] at h; cases h)
      refine ⟨_, _, pre0 _ ?_, hrun, hended, _, _, rfl, ?_, ⟨_, rfl⟩, hW, hsame.mono (by decide) (by decide)⟩
      · refine XS.iloadN X0.here hx rfl (hb hby D13_0) rfl ?_
        refine XS.bipush X0.here hx rfl (hb hby D13_1) ?_
        refine XS.icmpNo X0.here hx rfl (hb hby D13_3) rfl (flt h1).1 ?_
        refine XS.iloadN X0.here hx rfl (hb hby D13_6) rfl ?_
        refine XS.bipush X0.here hx rfl (hb hby D13_7) ?_
        refine XS.icmpNo X0.here hx rfl (hb hby D13_9) rfl (flt h2).2.2.1 ?_
        refine XS.iconst X0.here hx rfl (hb hby D13_12) ?_
        refine XS.goto X0.here hx rfl (pc0 := 13) (pc' := 17) rfl (hb hby D13_13) (by decide) (by decide) ?_
        show Steps p.tables e below (s₁.setTop (mkF m 17 #[.val (.int dd)] [(.int 1)])) _
        exact retN X0 hx (t := .boolean) Bd.returns (by simp) (hb hby D13_17) hr
      · show Q_own_dig Z dd h0 n0 _ s₁.heap _
        rw [e0]
        exact ⟨1, rfl, N0, rfl, fun _ => rfl, fun q => absurd ⟨h1, h2⟩ q⟩
theorem ef_own_len (m : MethodId) {sa : Addr} : entryFrame m #[(.ref sa)] 1 = mkF m 0 #[.val (.ref sa)] [] := by first | (simp [entryFrame, mkF, argsToLocals, Value.category]; done) | rfl
def Q_own_len (Z : State) (sa sb : Addr) (kS : ClassId) (cs : List Int32) (cd N2 : Int32) (us : List Value) (G1 : Int32) (G3 : Value) (h0 : Heap) (n0 : Nat) (v : Option Value) (h : Heap) (L : List Loc) : Prop := v = some (.int (Int32.ofNat cs.length)) ∧ Fr n0 L ∧ h = h0
set_option maxRecDepth 65536 in
set_option maxHeartbeats 40000000 in
theorem own_len (l : Launch) (Z : State) (a0 : Array Value) (hw : ∀ d ∈ tables_1, d.before a0 Z = true) (ws : List Jvm.Cond) (sa sb : Addr) (kS : ClassId) (cs : List Int32) (cd N2 : Int32) (us : List Value) (G1 : Int32) (G3 : Value) (h0 : Heap) (n0 : Nat) (Z0 : n0 ≤ h0.size) (ES : Exa Z h0 sa "java/lang/String") (VS : Fld Z h0 sa "java/lang/String" "value" "[B" (.ref sb)) (CS : Fld Z h0 sa "java/lang/String" "coder" "B" (.int cd)) (KS : Arv Z h0 sb kS .byte N2 us (.int 0)) (hcod : own_C cs cd N2 us) (h16 : ∀ z ∈ cs, ¬ z < 0 ∧ ¬ (65535 : Int32) < z) (hl2 : cs.length ≤ 100) (AD : Sta Z Z.heap "java/lang/StringUTF16" "$assertionsDisabled" "Z" (.int 1)) (HB : Sta Z Z.heap "java/lang/StringUTF16" "HI_BYTE_SHIFT" "I" (.int 0)) (LB : Sta Z Z.heap "java/lang/StringUTF16" "LO_BYTE_SHIFT" "I" (.int 8)) (O2 : Sta Z Z.heap "java/lang/String" "COMPACT_STRINGS" "Z" (.int G1)) (P5 : ¬ G1 = (0 : Int32)) (O4 : Sta Z Z.heap "jdk/internal/util/Preconditions" "SIOOBE_FORMATTER" "Ljava/util/function/BiFunction;" G3) (rG3 : G3.isRef = true) (XO : Old Z n0 h0) :
    MetFree l (⟨"java/lang/String", "length", "()I"⟩ : MethodName) (head1 (Jvm.Cond.code (⟨"java/lang/String", "length", "()I"⟩ : MethodName) jdk_42_method_54_code 1 (some .int) :: ws) ({ frames := 1, cells := 0, slots := 0, locals := 13 } : Room)) (fun a U => a = #[(.ref sa)] ∧ Z.Warmed39 U.vm ∧ U.heap = h0) (fun _ _ _ _ _ => True) (fun _ U o U' => ∃ v L, o = .returned v ∧ Q_own_len Z sa sb kS cs cd N2 us G1 G3 h0 n0 v U'.heap L ∧ FrameEnd U o U' L ({ frames := 1, cells := 0, slots := 0, locals := 13 } : Room).cells ({ frames := 1, cells := 0, slots := 0, locals := 13 } : Room).slots) := by
  refine MetFree.of_bodySF (plainFor_of_name pn_java_lang_String) hisR ?_
  intro p e s m args below meth c s₁ Bd hml0 hP hK
  obtain ⟨rfl, hZ, hh⟩ := hP
  have hx := Bd.exec
  have hby := Bd.bytes
  have hml : c.maxLocals = 1 := hml0
  have hown : s.vm.findClass "java/lang/String" = some m.cls := findClass_of_methodNamed Bd.named
  have hnm := (name_of_methodNamed Bd.named Bd.method).1
  have X0 : Stand p l e ({ frames := 1, cells := 0, slots := 0, locals := 13 } : Room) s m #[(.ref sa)] below meth c s₁ [] 0 0 := Stand.of_body Bd
  have e0 : s₁.heap = h0 := by rw [← hh, Bd.state]; rfl
  have N0 := Fr.nil n0
  have pre0 : ∀ t, Steps p.tables e below (s₁.setTop (mkF m 0 #[.val (.ref sa)] [])) t → Steps p.tables e below (s₁.setTop (entryFrame m #[(.ref sa)] 1)) t := fun t k => castTop (ef_own_len m) k
  rcases hcod with ⟨rfl, rfl, rfl, hs⟩ | ⟨rfl, rfl, rfl⟩
  · skip
    obtain ⟨T1, X1, e1, st1⟩ := getF X0 hx hZ hown (host := "") (Or.inl (gw hw 22 rfl)) Via.refl e0 VS (g := (mkF m 1 #[.val (.ref sa)] [(.ref sa)])) rfl rfl (hb hby D11_1)
    have pre2 : ∀ t, Steps p.tables e below (T1.setTop (mkF m 4 #[.val (.ref sa)] [(.ref sb)])) t → Steps p.tables e below (s₁.setTop (entryFrame m #[(.ref sa)] 1)) t := by
      intro t kk
      refine pre0 t ?_
      refine XS.aloadN X0.here hx rfl (hb hby D11_0) rfl rfl ?_
      exact st1 _ kk
    obtain ⟨cl3, Ar3, q3, S3, M3, H3, Gv3⟩ := id KS
    obtain ⟨cq4, kq4, q4a, q4b, q4c⟩ := isOf hZ e1 ES
    obtain ⟨_, _, ⟨T4, L4, k4, n4⟩, -, X4, ⟨Lc4, hQ4, l4, y4, z4⟩, st4⟩ := X1.virtualBack hx (y := (⟨"java/lang/String", "coder", "()B"⟩ : MethodName)) (z := (⟨"java/lang/String", "coder", "()B"⟩ : MethodName)) hown (mvT hZ (gw hw 38 rfl)) (mvT hZ (gw hw 39 rfl)) (notFace_of_selects (args := #[]) (mvT hZ (gw hw 41 rfl))) (mvT hZ (gw hw 41 rfl)) (mvT hZ (gw hw 40 rfl)) (by decide) (backOf (W := 1) (own_cr0 l Z a0 hw [] sa G1 h0 n0 Z0 CS O2 P5 XO) hZ (gw hw 42 rfl) (gw hw 5 rfl) (by decide) (by decide)) q4a q4c (g := (mkF m 6 #[.val (.ref sa)] [(.ref sa), (.int (Int32.ofNat cs.length))])) rfl (by rw [hml]; rfl) (Steps.refl _) (argsL := []) (rest := [(.int (Int32.ofNat cs.length))]) (lenOf pd___B rfl) rfl (by show 2 * 0 + _ ≤ _; exact Nat.le_of_eq rfl) (hb hby D11_6) (fun _ _ => ⟨rfl, e1, (by decide : 0 + 0 ≤ _), (by decide : 0 + 0 ≤ _)⟩)
    dsimp only [Pt.U, Pt.locs, Pt.cells, Pt.slots] at X4 l4 y4 z4 st4 hQ4
    subst l4 y4 z4
    obtain ⟨rfl, N4q, e4q⟩ := hQ4
    have N4 := Fr.app N0 N4q
    have pre5 : ∀ t, Steps p.tables e below (T4.setTop (mkF m 9 #[.val (.ref sa)] [(.int 0), (.int (Int32.ofNat cs.length))])) t → Steps p.tables e below (s₁.setTop (entryFrame m #[(.ref sa)] 1)) t := by
      intro t kk
      refine pre2 t ?_
      refine X1.arraylength hx (by rw [e1]; exact Ar3.1) (State.isArrayOf_alike hZ.alike Ar3.2.1) (g := (mkF m 4 #[.val (.ref sa)] [(.ref sb)])) rfl rfl (hb hby D11_4) _ ?_
      rw [len_of S3 M3]
      refine XS.aloadN X1.here hx rfl (hb hby D11_5) rfl rfl ?_
      exact st4.trans kk
    have pre6 : ∀ t, Steps p.tables e below (T4.setTop (mkF m 10 #[.val (.ref sa)] [(.int ((Int32.ofNat cs.length) >>> ((0 : Int32) &&& 31)))])) t → Steps p.tables e below (s₁.setTop (entryFrame m #[(.ref sa)] 1)) t := by
      intro t kk
      refine pre5 t ?_
      refine XS.ishr X4.here hx rfl (hb hby D11_9) rfl ?_
      exact kk
    rw [own_s0] at pre6
    obtain ⟨fs, hr, hrun, hended, hW, hsame⟩ := X4.leave (v := some (.int (Int32.ofNat cs.length))) (fun h => by rw [Bd.returns] at h; cases h)
    refine ⟨_, _, pre6 _ ?_, hrun, hended, _, _, rfl, ?_, ⟨_, rfl⟩, hW, hsame.mono (by decide) (by decide)⟩
    · exact retI X4 hx Bd.returns (hb hby D11_10) hr
    · show Q_own_len Z _ _ _ _ _ _ _ _ _ h0 n0 _ T4.heap _
      rw [e4q]
      exact ⟨rfl, N4, rfl⟩
  · skip
    obtain ⟨T7, X7, e7, st7⟩ := getF X0 hx hZ hown (host := "") (Or.inl (gw hw 22 rfl)) Via.refl e0 VS (g := (mkF m 1 #[.val (.ref sa)] [(.ref sa)])) rfl rfl (hb hby D11_1)
    have pre8 : ∀ t, Steps p.tables e below (T7.setTop (mkF m 4 #[.val (.ref sa)] [(.ref sb)])) t → Steps p.tables e below (s₁.setTop (entryFrame m #[(.ref sa)] 1)) t := by
      intro t kk
      refine pre0 t ?_
      refine XS.aloadN X0.here hx rfl (hb hby D11_0) rfl rfl ?_
      exact st7 _ kk
    obtain ⟨cl9, Ar9, q9, S9, M9, H9, Gv9⟩ := id KS
    obtain ⟨cq10, kq10, q10a, q10b, q10c⟩ := isOf hZ e7 ES
    obtain ⟨_, _, ⟨T10, L10, k10, n10⟩, -, X10, ⟨Lc10, hQ10, l10, y10, z10⟩, st10⟩ := X7.virtualBack hx (y := (⟨"java/lang/String", "coder", "()B"⟩ : MethodName)) (z := (⟨"java/lang/String", "coder", "()B"⟩ : MethodName)) hown (mvT hZ (gw hw 38 rfl)) (mvT hZ (gw hw 39 rfl)) (notFace_of_selects (args := #[]) (mvT hZ (gw hw 41 rfl))) (mvT hZ (gw hw 41 rfl)) (mvT hZ (gw hw 40 rfl)) (by decide) (backOf (W := 1) (own_cr1 l Z a0 hw [] sa G1 h0 n0 Z0 CS O2 P5 XO) hZ (gw hw 42 rfl) (gw hw 5 rfl) (by decide) (by decide)) q10a q10c (g := (mkF m 6 #[.val (.ref sa)] [(.ref sa), (.int (Int32.ofNat (2 * cs.length)))])) rfl (by rw [hml]; rfl) (Steps.refl _) (argsL := []) (rest := [(.int (Int32.ofNat (2 * cs.length)))]) (lenOf pd___B rfl) rfl (by show 2 * 0 + _ ≤ _; exact Nat.le_of_eq rfl) (hb hby D11_6) (fun _ _ => ⟨rfl, e7, (by decide : 0 + 0 ≤ _), (by decide : 0 + 0 ≤ _)⟩)
    dsimp only [Pt.U, Pt.locs, Pt.cells, Pt.slots] at X10 l10 y10 z10 st10 hQ10
    subst l10 y10 z10
    obtain ⟨rfl, N10q, e10q⟩ := hQ10
    have N10 := Fr.app N0 N10q
    have pre11 : ∀ t, Steps p.tables e below (T10.setTop (mkF m 9 #[.val (.ref sa)] [(.int 1), (.int (Int32.ofNat (2 * cs.length)))])) t → Steps p.tables e below (s₁.setTop (entryFrame m #[(.ref sa)] 1)) t := by
      intro t kk
      refine pre8 t ?_
      refine X7.arraylength hx (by rw [e7]; exact Ar9.1) (State.isArrayOf_alike hZ.alike Ar9.2.1) (g := (mkF m 4 #[.val (.ref sa)] [(.ref sb)])) rfl rfl (hb hby D11_4) _ ?_
      rw [len_of S9 M9]
      refine XS.aloadN X7.here hx rfl (hb hby D11_5) rfl rfl ?_
      exact st10.trans kk
    have pre12 : ∀ t, Steps p.tables e below (T10.setTop (mkF m 10 #[.val (.ref sa)] [(.int ((Int32.ofNat (2 * cs.length)) >>> ((1 : Int32) &&& 31)))])) t → Steps p.tables e below (s₁.setTop (entryFrame m #[(.ref sa)] 1)) t := by
      intro t kk
      refine pre11 t ?_
      refine XS.ishr X10.here hx rfl (hb hby D11_9) rfl ?_
      exact kk
    rw [StrChars.shr1 (by omega)] at pre12
    obtain ⟨fs, hr, hrun, hended, hW, hsame⟩ := X10.leave (v := some (.int (Int32.ofNat cs.length))) (fun h => by rw [Bd.returns] at h; cases h)
    refine ⟨_, _, pre12 _ ?_, hrun, hended, _, _, rfl, ?_, ⟨_, rfl⟩, hW, hsame.mono (by decide) (by decide)⟩
    · exact retI X10 hx Bd.returns (hb hby D11_10) hr
    · show Q_own_len Z _ _ _ _ _ _ _ _ _ h0 n0 _ T10.heap _
      rw [e10q]
      exact ⟨rfl, N10, rfl⟩
theorem D14_0 : decode jdk_42_method_56_code 0 = .ok (.aload_n 0, 1) := by decide +kernel
theorem D14_1 : decode jdk_42_method_56_code 1 = .ok (.invokevirtual 492, 3) := by decide +kernel
theorem D14_4 : decode jdk_42_method_56_code 4 = .ok (.ifCond .eq 12, 3) := by decide +kernel
theorem D14_7 : decode jdk_42_method_56_code 7 = .ok (.aload_n 0, 1) := by decide +kernel
theorem D14_8 : decode jdk_42_method_56_code 8 = .ok (.getfield 9, 3) := by decide +kernel
theorem D14_11 : decode jdk_42_method_56_code 11 = .ok (.iload_n 1, 1) := by decide +kernel
theorem D14_12 : decode jdk_42_method_56_code 12 = .ok (.invokestatic 495, 3) := by decide +kernel
theorem D14_15 : decode jdk_42_method_56_code 15 = .ok (.ireturn, 1) := by decide +kernel
theorem D14_16 : decode jdk_42_method_56_code 16 = .ok (.aload_n 0, 1) := by decide +kernel
theorem D14_17 : decode jdk_42_method_56_code 17 = .ok (.getfield 9, 3) := by decide +kernel
theorem D14_20 : decode jdk_42_method_56_code 20 = .ok (.iload_n 1, 1) := by decide +kernel
theorem D14_21 : decode jdk_42_method_56_code 21 = .ok (.invokestatic 498, 3) := by decide +kernel
theorem D14_24 : decode jdk_42_method_56_code 24 = .ok (.ireturn, 1) := by decide +kernel
theorem ef_own_ch (m : MethodId) {sa : Addr} {i : Nat} : entryFrame m #[(.ref sa), (.int (Int32.ofNat i))] 2 = mkF m 0 #[.val (.ref sa), .val (.int (Int32.ofNat i))] [] := by first | (simp [entryFrame, mkF, argsToLocals, Value.category]; done) | rfl
def Q_own_ch (Z : State) (sa sb : Addr) (kS : ClassId) (cs : List Int32) (cd N2 : Int32) (us : List Value) (G1 : Int32) (G3 : Value) (i : Nat) (h0 : Heap) (n0 : Nat) (v : Option Value) (h : Heap) (L : List Loc) : Prop := v = some (.int (cs.getD i 0)) ∧ Fr n0 L ∧ h = h0
set_option maxRecDepth 65536 in
set_option maxHeartbeats 40000000 in
theorem own_ch (l : Launch) (Z : State) (a0 : Array Value) (hw : ∀ d ∈ tables_1, d.before a0 Z = true) (ws : List Jvm.Cond) (sa sb : Addr) (kS : ClassId) (cs : List Int32) (cd N2 : Int32) (us : List Value) (G1 : Int32) (G3 : Value) (i : Nat) (h0 : Heap) (n0 : Nat) (Z0 : n0 ≤ h0.size) (ES : Exa Z h0 sa "java/lang/String") (VS : Fld Z h0 sa "java/lang/String" "value" "[B" (.ref sb)) (CS : Fld Z h0 sa "java/lang/String" "coder" "B" (.int cd)) (KS : Arv Z h0 sb kS .byte N2 us (.int 0)) (hcod : own_C cs cd N2 us) (h16 : ∀ z ∈ cs, ¬ z < 0 ∧ ¬ (65535 : Int32) < z) (hl2 : cs.length ≤ 100) (AD : Sta Z Z.heap "java/lang/StringUTF16" "$assertionsDisabled" "Z" (.int 1)) (HB : Sta Z Z.heap "java/lang/StringUTF16" "HI_BYTE_SHIFT" "I" (.int 0)) (LB : Sta Z Z.heap "java/lang/StringUTF16" "LO_BYTE_SHIFT" "I" (.int 8)) (O2 : Sta Z Z.heap "java/lang/String" "COMPACT_STRINGS" "Z" (.int G1)) (P5 : ¬ G1 = (0 : Int32)) (O4 : Sta Z Z.heap "jdk/internal/util/Preconditions" "SIOOBE_FORMATTER" "Ljava/util/function/BiFunction;" G3) (rG3 : G3.isRef = true) (XO : Old Z n0 h0) (hil : i < cs.length) :
    MetFree l (⟨"java/lang/String", "charAt", "(I)C"⟩ : MethodName) (head1 (Jvm.Cond.code (⟨"java/lang/String", "charAt", "(I)C"⟩ : MethodName) jdk_42_method_56_code 2 (some .char) :: ws) ({ frames := 4, cells := 0, slots := 0, locals := 53 } : Room)) (fun a U => a = #[(.ref sa), (.int (Int32.ofNat i))] ∧ Z.Warmed39 U.vm ∧ U.heap = h0) (fun _ _ _ _ _ => True) (fun _ U o U' => ∃ v L, o = .returned v ∧ Q_own_ch Z sa sb kS cs cd N2 us G1 G3 i h0 n0 v U'.heap L ∧ FrameEnd U o U' L ({ frames := 4, cells := 0, slots := 0, locals := 53 } : Room).cells ({ frames := 4, cells := 0, slots := 0, locals := 53 } : Room).slots) := by
  refine MetFree.of_bodySF (plainFor_of_name pn_java_lang_String) hisR ?_
  intro p e s m args below meth c s₁ Bd hml0 hP hK
  obtain ⟨rfl, hZ, hh⟩ := hP
  have hx := Bd.exec
  have hby := Bd.bytes
  have hml : c.maxLocals = 2 := hml0
  have hown : s.vm.findClass "java/lang/String" = some m.cls := findClass_of_methodNamed Bd.named
  have hnm := (name_of_methodNamed Bd.named Bd.method).1
  have X0 : Stand p l e ({ frames := 4, cells := 0, slots := 0, locals := 53 } : Room) s m #[(.ref sa), (.int (Int32.ofNat i))] below meth c s₁ [] 0 0 := Stand.of_body Bd
  have e0 : s₁.heap = h0 := by rw [← hh, Bd.state]; rfl
  have N0 := Fr.nil n0
  have pre0 : ∀ t, Steps p.tables e below (s₁.setTop (mkF m 0 #[.val (.ref sa), .val (.int (Int32.ofNat i))] [])) t → Steps p.tables e below (s₁.setTop (entryFrame m #[(.ref sa), (.int (Int32.ofNat i))] 2)) t := fun t k => castTop (ef_own_ch m) k
  have hq16 := own_g h16 hil
  rcases hcod with ⟨rfl, rfl, rfl, hs⟩ | ⟨rfl, rfl, rfl⟩
  · skip
    obtain ⟨cq1, kq1, q1a, q1b, q1c⟩ := isOf hZ e0 ES
    obtain ⟨_, _, ⟨T1, L1, k1, n1⟩, -, X1, ⟨Lc1, hQ1, l1, y1, z1⟩, st1⟩ := X0.virtualBack hx (y := (⟨"java/lang/String", "isLatin1", "()Z"⟩ : MethodName)) (z := (⟨"java/lang/String", "isLatin1", "()Z"⟩ : MethodName)) hown (mvT hZ (gw hw 63 rfl)) (mvT hZ (gw hw 64 rfl)) (notFace_of_selects (args := #[]) (mvT hZ (gw hw 66 rfl))) (mvT hZ (gw hw 66 rfl)) (mvT hZ (gw hw 65 rfl)) (by decide) (backOf (W := 0) (own_is0 l Z a0 hw [] sa G1 h0 n0 Z0 CS O2 P5 XO) hZ (gw hw 67 rfl) (gw hw 5 rfl) (by decide) (by decide)) q1a q1c (g := (mkF m 1 #[.val (.ref sa), .val (.int (Int32.ofNat i))] [(.ref sa)])) rfl (by rw [hml]; rfl) (Steps.refl _) (argsL := []) (rest := []) (lenOf pd___Z rfl) rfl (by show 2 * 0 + _ ≤ _; exact Nat.le_of_eq rfl) (hb hby D14_1) (fun _ _ => ⟨rfl, e0, (by decide : 0 + 0 ≤ _), (by decide : 0 + 0 ≤ _)⟩)
    dsimp only [Pt.U, Pt.locs, Pt.cells, Pt.slots] at X1 l1 y1 z1 st1 hQ1
    subst l1 y1 z1
    obtain ⟨rfl, N1q, e1q⟩ := hQ1
    have N1 := Fr.app N0 N1q
    have pre2 : ∀ t, Steps p.tables e below (T1.setTop (mkF m 4 #[.val (.ref sa), .val (.int (Int32.ofNat i))] [(.int 1)])) t → Steps p.tables e below (s₁.setTop (entryFrame m #[(.ref sa), (.int (Int32.ofNat i))] 2)) t := by
      intro t kk
      refine pre0 t ?_
      refine XS.aloadN X0.here hx rfl (hb hby D14_0) rfl rfl ?_
      exact st1.trans kk
    have hbr3 : ¬ ((1 : Int32) = (0 : Int32)) := by decide
    obtain ⟨T4, X4, e4, st4⟩ := getF X1 hx hZ hown (host := "") (Or.inl (gw hw 22 rfl)) Via.refl e1q VS (g := (mkF m 8 #[.val (.ref sa), .val (.int (Int32.ofNat i))] [(.ref sa)])) rfl rfl (hb hby D14_8)
    have pre5 : ∀ t, Steps p.tables e below (T4.setTop (mkF m 11 #[.val (.ref sa), .val (.int (Int32.ofNat i))] [(.ref sb)])) t → Steps p.tables e below (s₁.setTop (entryFrame m #[(.ref sa), (.int (Int32.ofNat i))] 2)) t := by
      intro t kk
      refine pre2 t ?_
      refine XS.ifNo X1.here hx rfl (hb hby D14_4) rfl ((if0 _ _).trans (feq hbr3).1) ?_
      refine XS.aloadN X1.here hx rfl (hb hby D14_7) rfl rfl ?_
      exact st4 _ kk
    obtain ⟨_, _, ⟨T6, L6, k6, n6⟩, -, X6, ⟨Lc6, hQ6, l6, y6, z6⟩, st6⟩ := Jvm.LawKit.callS X4 hx (y := (⟨"java/lang/StringLatin1", "charAt", "([BI)C"⟩ : MethodName)) hown (mvT hZ (gw hw 68 rfl)) (mvT hZ (gw hw 69 rfl)) (mvT hZ (gw hw 70 rfl)) (mvT hZ (gw hw 71 rfl)) (by decide) (backOf (W := 0) (own_lc l Z a0 hw [] sb kS cs i G3 h0 n0 Z0 KS hil hl2 ⟨hq16.1, own_g hs hil⟩ O4 rG3 XO) hZ (gw hw 71 rfl) (gw hw 70 rfl) (by decide) (by decide)) (g := (mkF m 12 #[.val (.ref sa), .val (.int (Int32.ofNat i))] [(.int (Int32.ofNat i)), (.ref sb)])) rfl (by rw [hml]; rfl) (argsL := [(.ref sb), (.int (Int32.ofNat i))]) (rest := []) (lenOf pd___BI_C rfl) rfl (by show 2 * 0 + _ ≤ _; exact Nat.le_of_eq rfl) (hb hby D14_12) (fun _ _ => ⟨rfl, e4, (by decide : 0 + 0 ≤ _), (by decide : 0 + 0 ≤ _)⟩)
    dsimp only [Pt.U, Pt.locs, Pt.cells, Pt.slots] at X6 l6 y6 z6 st6 hQ6
    subst l6 y6 z6
    obtain ⟨rfl, N6q, e6q⟩ := hQ6
    have N6 := Fr.app N1 N6q
    have pre7 : ∀ t, Steps p.tables e below (T6.setTop (mkF m 15 #[.val (.ref sa), .val (.int (Int32.ofNat i))] [(.int (cs.getD i 0))])) t → Steps p.tables e below (s₁.setTop (entryFrame m #[(.ref sa), (.int (Int32.ofNat i))] 2)) t := by
      intro t kk
      refine pre5 t ?_
      refine XS.iloadN X4.here hx rfl (hb hby D14_11) rfl ?_
      exact st6 _ kk
    obtain ⟨fs, hr, hrun, hended, hW, hsame⟩ := X6.leave (v := some (.int (nar .char (cs.getD i 0)))) (fun h => by rw [Bd.returns] at h; cases h)
    refine ⟨_, _, pre7 _ ?_, hrun, hended, _, _, rfl, ?_, ⟨_, rfl⟩, hW, hsame.mono (by decide) (by decide)⟩
    · exact retN X6 hx (t := .char) Bd.returns (by simp) (hb hby D14_15) hr
    · show Q_own_ch Z _ _ _ _ _ _ _ _ _ _ h0 n0 _ T6.heap _
      rw [e6q]
      exact ⟨congrArg (fun z => some (Value.int z)) (own_n16 hq16), N6, rfl⟩
  · skip
    obtain ⟨cq8, kq8, q8a, q8b, q8c⟩ := isOf hZ e0 ES
    obtain ⟨_, _, ⟨T8, L8, k8, n8⟩, -, X8, ⟨Lc8, hQ8, l8, y8, z8⟩, st8⟩ := X0.virtualBack hx (y := (⟨"java/lang/String", "isLatin1", "()Z"⟩ : MethodName)) (z := (⟨"java/lang/String", "isLatin1", "()Z"⟩ : MethodName)) hown (mvT hZ (gw hw 63 rfl)) (mvT hZ (gw hw 64 rfl)) (notFace_of_selects (args := #[]) (mvT hZ (gw hw 66 rfl))) (mvT hZ (gw hw 66 rfl)) (mvT hZ (gw hw 65 rfl)) (by decide) (backOf (W := 0) (own_is1 l Z a0 hw [] sa G1 h0 n0 Z0 CS O2 P5 XO) hZ (gw hw 67 rfl) (gw hw 5 rfl) (by decide) (by decide)) q8a q8c (g := (mkF m 1 #[.val (.ref sa), .val (.int (Int32.ofNat i))] [(.ref sa)])) rfl (by rw [hml]; rfl) (Steps.refl _) (argsL := []) (rest := []) (lenOf pd___Z rfl) rfl (by show 2 * 0 + _ ≤ _; exact Nat.le_of_eq rfl) (hb hby D14_1) (fun _ _ => ⟨rfl, e0, (by decide : 0 + 0 ≤ _), (by decide : 0 + 0 ≤ _)⟩)
    dsimp only [Pt.U, Pt.locs, Pt.cells, Pt.slots] at X8 l8 y8 z8 st8 hQ8
    subst l8 y8 z8
    obtain ⟨rfl, N8q, e8q⟩ := hQ8
    have N8 := Fr.app N0 N8q
    have pre9 : ∀ t, Steps p.tables e below (T8.setTop (mkF m 4 #[.val (.ref sa), .val (.int (Int32.ofNat i))] [(.int 0)])) t → Steps p.tables e below (s₁.setTop (entryFrame m #[(.ref sa), (.int (Int32.ofNat i))] 2)) t := by
      intro t kk
      refine pre0 t ?_
      refine XS.aloadN X0.here hx rfl (hb hby D14_0) rfl rfl ?_
      exact st8.trans kk
    have hbr10 : (0 : Int32) = (0 : Int32) := by decide
    obtain ⟨T11, X11, e11, st11⟩ := getF X8 hx hZ hown (host := "") (Or.inl (gw hw 22 rfl)) Via.refl e8q VS (g := (mkF m 17 #[.val (.ref sa), .val (.int (Int32.ofNat i))] [(.ref sa)])) rfl rfl (hb hby D14_17)
    have pre12 : ∀ t, Steps p.tables e below (T11.setTop (mkF m 20 #[.val (.ref sa), .val (.int (Int32.ofNat i))] [(.ref sb)])) t → Steps p.tables e below (s₁.setTop (entryFrame m #[(.ref sa), (.int (Int32.ofNat i))] 2)) t := by
      intro t kk
      refine pre9 t ?_
      refine XS.ifYes X8.here hx rfl (pc0 := 4) (pc' := 16) rfl (hb hby D14_4) rfl ((if0 _ _).trans (teq hbr10).1) (by decide) (by decide) ?_
      refine XS.aloadN X8.here hx rfl (hb hby D14_16) rfl rfl ?_
      exact st11 _ kk
    obtain ⟨_, _, ⟨T13, L13, k13, n13⟩, -, X13, ⟨Lc13, hQ13, l13, y13, z13⟩, st13⟩ := Jvm.LawKit.callS X11 hx (y := (⟨"java/lang/StringUTF16", "charAt", "([BI)C"⟩ : MethodName)) hown (mvT hZ (gw hw 99 rfl)) (mvT hZ (gw hw 100 rfl)) (mvT hZ (gw hw 46 rfl)) (mvT hZ (gw hw 101 rfl)) (by decide) (backOf (W := 0) (own_uc l Z a0 hw [] sb kS cs i G3 h0 n0 Z0 KS hil hl2 hq16 AD HB LB O4 rG3 XO) hZ (gw hw 101 rfl) (gw hw 46 rfl) (by decide) (by decide)) (g := (mkF m 21 #[.val (.ref sa), .val (.int (Int32.ofNat i))] [(.int (Int32.ofNat i)), (.ref sb)])) rfl (by rw [hml]; rfl) (argsL := [(.ref sb), (.int (Int32.ofNat i))]) (rest := []) (lenOf pd___BI_C rfl) rfl (by show 2 * 0 + _ ≤ _; exact Nat.le_of_eq rfl) (hb hby D14_21) (fun _ _ => ⟨rfl, e11, (by decide : 0 + 0 ≤ _), (by decide : 0 + 0 ≤ _)⟩)
    dsimp only [Pt.U, Pt.locs, Pt.cells, Pt.slots] at X13 l13 y13 z13 st13 hQ13
    subst l13 y13 z13
    obtain ⟨rfl, N13q, e13q⟩ := hQ13
    have N13 := Fr.app N8 N13q
    have pre14 : ∀ t, Steps p.tables e below (T13.setTop (mkF m 24 #[.val (.ref sa), .val (.int (Int32.ofNat i))] [(.int (cs.getD i 0))])) t → Steps p.tables e below (s₁.setTop (entryFrame m #[(.ref sa), (.int (Int32.ofNat i))] 2)) t := by
      intro t kk
      refine pre12 t ?_
      refine XS.iloadN X11.here hx rfl (hb hby D14_20) rfl ?_
      exact st13 _ kk
    obtain ⟨fs, hr, hrun, hended, hW, hsame⟩ := X13.leave (v := some (.int (nar .char (cs.getD i 0)))) (fun h => by rw [Bd.returns] at h; cases h)
    refine ⟨_, _, pre14 _ ?_, hrun, hended, _, _, rfl, ?_, ⟨_, rfl⟩, hW, hsame.mono (by decide) (by decide)⟩
    · exact retN X13 hx (t := .char) Bd.returns (by simp) (hb hby D14_24) hr
    · show Q_own_ch Z _ _ _ _ _ _ _ _ _ _ h0 n0 _ T13.heap _
      rw [e13q]
      exact ⟨congrArg (fun z => some (Value.int z)) (own_n16 hq16), N13, rfl⟩
theorem D12_7 : decode prog_80_method_2_code 7 = .ok (.aload_n 0, 1) := by decide +kernel
theorem D12_8 : decode prog_80_method_2_code 8 = .ok (.invokevirtual 13, 3) := by decide +kernel
theorem D12_11 : decode prog_80_method_2_code 11 = .ok (.iconst 1, 1) := by decide +kernel
theorem D12_12 : decode prog_80_method_2_code 12 = .ok (.if_icmp .eq 13, 3) := by decide +kernel
theorem D12_25 : decode prog_80_method_2_code 25 = .ok (.iconst 1, 1) := by decide +kernel
theorem D12_26 : decode prog_80_method_2_code 26 = .ok (.goto 4, 3) := by decide +kernel
theorem D12_15 : decode prog_80_method_2_code 15 = .ok (.aload_n 0, 1) := by decide +kernel
theorem D12_16 : decode prog_80_method_2_code 16 = .ok (.iconst 0, 1) := by decide +kernel
theorem pd__I_C : parseMethodDescriptor "(I)C" = some ⟨[.int], some .char⟩ := by decide +kernel
theorem D12_17 : decode prog_80_method_2_code 17 = .ok (.invokevirtual 17, 3) := by decide +kernel
theorem D12_20 : decode prog_80_method_2_code 20 = .ok (.bipush 48, 2) := by decide +kernel
theorem D12_22 : decode prog_80_method_2_code 22 = .ok (.if_icmp .eq 7, 3) := by decide +kernel
theorem D12_41 : decode prog_80_method_2_code 41 = .ok (.iload_n 1, 1) := by decide +kernel
theorem D12_42 : decode prog_80_method_2_code 42 = .ok (.ifCond .eq 35, 3) := by decide +kernel
theorem D12_45 : decode prog_80_method_2_code 45 = .ok (.aload_n 0, 1) := by decide +kernel
theorem D12_46 : decode prog_80_method_2_code 46 = .ok (.iload_n 2, 1) := by decide +kernel
theorem D12_47 : decode prog_80_method_2_code 47 = .ok (.invokevirtual 17, 3) := by decide +kernel
theorem D12_50 : decode prog_80_method_2_code 50 = .ok (.bipush 48, 2) := by decide +kernel
theorem D12_52 : decode prog_80_method_2_code 52 = .ok (.if_icmp .lt 17, 3) := by decide +kernel
theorem D12_55 : decode prog_80_method_2_code 55 = .ok (.aload_n 0, 1) := by decide +kernel
theorem D12_56 : decode prog_80_method_2_code 56 = .ok (.iload_n 2, 1) := by decide +kernel
theorem D12_57 : decode prog_80_method_2_code 57 = .ok (.invokevirtual 17, 3) := by decide +kernel
theorem D12_60 : decode prog_80_method_2_code 60 = .ok (.bipush 57, 2) := by decide +kernel
theorem D12_62 : decode prog_80_method_2_code 62 = .ok (.if_icmp .gt 7, 3) := by decide +kernel
theorem D12_65 : decode prog_80_method_2_code 65 = .ok (.iconst 1, 1) := by decide +kernel
theorem D12_66 : decode prog_80_method_2_code 66 = .ok (.goto 4, 3) := by decide +kernel
theorem D12_70 : decode prog_80_method_2_code 70 = .ok (.istore_n 1, 1) := by decide +kernel
theorem D12_71 : decode prog_80_method_2_code 71 = .ok (.iinc 2 1, 3) := by decide +kernel
theorem D12_74 : decode prog_80_method_2_code 74 = .ok (.goto (-41), 3) := by decide +kernel
theorem D12_69 : decode prog_80_method_2_code 69 = .ok (.iconst 0, 1) := by decide +kernel
theorem ef_own_mt (m : MethodId) {sa : Addr} : entryFrame m #[(.ref sa)] 3 = mkF m 0 #[.val (.ref sa), .unset, .unset] [] := by first | (simp [entryFrame, mkF, argsToLocals, Value.category]; done) | rfl
def Q_own_mt (Z : State) (sa sb : Addr) (kS : ClassId) (cs : List Int32) (cd N2 : Int32) (us : List Value) (G1 : Int32) (G3 : Value) (h0 : Heap) (n0 : Nat) (v : Option Value) (h : Heap) (L : List Loc) : Prop := ∃ r : Int32, v = some (.int r) ∧ Fr n0 L ∧ h = h0 ∧ (own_M cs → r = 1) ∧ (¬ own_M cs → r = 0)
set_option maxRecDepth 65536 in
set_option maxHeartbeats 40000000 in
theorem own_mt (l : Launch) (Z : State) (a0 : Array Value) (hw : ∀ d ∈ tables_1, d.before a0 Z = true) (ws : List Jvm.Cond) (sa sb : Addr) (kS : ClassId) (cs : List Int32) (cd N2 : Int32) (us : List Value) (G1 : Int32) (G3 : Value) (h0 : Heap) (n0 : Nat) (Z0 : n0 ≤ h0.size) (ES : Exa Z h0 sa "java/lang/String") (VS : Fld Z h0 sa "java/lang/String" "value" "[B" (.ref sb)) (CS : Fld Z h0 sa "java/lang/String" "coder" "B" (.int cd)) (KS : Arv Z h0 sb kS .byte N2 us (.int 0)) (hcod : own_C cs cd N2 us) (h16 : ∀ z ∈ cs, ¬ z < 0 ∧ ¬ (65535 : Int32) < z) (hl2 : cs.length ≤ 100) (AD : Sta Z Z.heap "java/lang/StringUTF16" "$assertionsDisabled" "Z" (.int 1)) (HB : Sta Z Z.heap "java/lang/StringUTF16" "HI_BYTE_SHIFT" "I" (.int 0)) (LB : Sta Z Z.heap "java/lang/StringUTF16" "LO_BYTE_SHIFT" "I" (.int 8)) (O2 : Sta Z Z.heap "java/lang/String" "COMPACT_STRINGS" "Z" (.int G1)) (P5 : ¬ G1 = (0 : Int32)) (O4 : Sta Z Z.heap "jdk/internal/util/Preconditions" "SIOOBE_FORMATTER" "Ljava/util/function/BiFunction;" G3) (rG3 : G3.isRef = true) (XO : Old Z n0 h0) (hl1 : 1 ≤ cs.length) :
    MetFree l (⟨"com/example/hulse/hulse/environment/internal/ListIndex", "matches", "(Ljava/lang/String;)Z"⟩ : MethodName) (head1 (Jvm.Cond.code (⟨"com/example/hulse/hulse/environment/internal/ListIndex", "matches", "(Ljava/lang/String;)Z"⟩ : MethodName) prog_80_method_2_code 3 (some .boolean) :: ws) ({ frames := 5, cells := 0, slots := 0, locals := 66 } : Room)) (fun a U => a = #[(.ref sa)] ∧ Z.Warmed39 U.vm ∧ U.heap = h0) (fun _ _ _ _ _ => True) (fun _ U o U' => ∃ v L, o = .returned v ∧ Q_own_mt Z sa sb kS cs cd N2 us G1 G3 h0 n0 v U'.heap L ∧ FrameEnd U o U' L ({ frames := 5, cells := 0, slots := 0, locals := 66 } : Room).cells ({ frames := 5, cells := 0, slots := 0, locals := 66 } : Room).slots) := by
  refine MetFree.of_bodySF (plainFor_of_name pn_com_example_hulse_hulse_environment_internal_ListIndex) hisR ?_
  intro p e s m args below meth c s₁ Bd hml0 hP hK
  obtain ⟨rfl, hZ, hh⟩ := hP
  have hx := Bd.exec
  have hby := Bd.bytes
  have hml : c.maxLocals = 3 := hml0
  have hown : s.vm.findClass "com/example/hulse/hulse/environment/internal/ListIndex" = some m.cls := findClass_of_methodNamed Bd.named
  have hnm := (name_of_methodNamed Bd.named Bd.method).1
  have X0 : Stand p l e ({ frames := 5, cells := 0, slots := 0, locals := 66 } : Room) s m #[(.ref sa)] below meth c s₁ [] 0 0 := Stand.of_body Bd
  have e0 : s₁.heap = h0 := by rw [← hh, Bd.state]; rfl
  have N0 := Fr.nil n0
  have pre0 : ∀ t, Steps p.tables e below (s₁.setTop (mkF m 0 #[.val (.ref sa), .unset, .unset] [])) t → Steps p.tables e below (s₁.setTop (entryFrame m #[(.ref sa)] 3)) t := fun t k => castTop (ef_own_mt m) k
  obtain ⟨cq1, kq1, q1a, q1b, q1c⟩ := isOf hZ e0 ES
  obtain ⟨_, _, ⟨T1, L1, k1, n1⟩, -, X1, ⟨Lc1, hQ1, l1, y1, z1⟩, st1⟩ := X0.virtualBack hx (y := (⟨"java/lang/String", "isEmpty", "()Z"⟩ : MethodName)) (z := (⟨"java/lang/String", "isEmpty", "()Z"⟩ : MethodName)) hown (mvT hZ (gw hw 28 rfl)) (mvT hZ (gw hw 29 rfl)) (notFace_of_selects (args := #[]) (mvT hZ (gw hw 31 rfl))) (mvT hZ (gw hw 31 rfl)) (mvT hZ (gw hw 30 rfl)) (by decide) (backOf (W := 0) (own_emp l Z a0 hw [] sa sb kS N2 us h0 n0 Z0 ES VS KS (own_Cz hcod hl1 hl2)) hZ (gw hw 32 rfl) (gw hw 5 rfl) (by decide) (by decide)) q1a q1c (g := (mkF m 1 #[.val (.ref sa), .unset, .unset] [(.ref sa)])) rfl (by rw [hml]; rfl) (Steps.refl _) (argsL := []) (rest := []) (lenOf pd___Z rfl) rfl (by show 2 * 0 + _ ≤ _; exact Nat.le_of_eq rfl) (hb hby D12_1) (fun _ _ => ⟨rfl, e0, (by decide : 0 + 0 ≤ _), (by decide : 0 + 0 ≤ _)⟩)
  dsimp only [Pt.U, Pt.locs, Pt.cells, Pt.slots] at X1 l1 y1 z1 st1 hQ1
  subst l1 y1 z1
  obtain ⟨rfl, N1q, e1q⟩ := hQ1
  have N1 := Fr.app N0 N1q
  have pre2 : ∀ t, Steps p.tables e below (T1.setTop (mkF m 4 #[.val (.ref sa), .unset, .unset] [(.int 0)])) t → Steps p.tables e below (s₁.setTop (entryFrame m #[(.ref sa)] 3)) t := by
    intro t kk
    refine pre0 t ?_
    refine XS.aloadN X0.here hx rfl (hb hby D12_0) rfl rfl ?_
    exact st1.trans kk
  have hbr3 : (0 : Int32) = (0 : Int32) := rfl
  obtain ⟨cq4, kq4, q4a, q4b, q4c⟩ := isOf hZ e1q ES
  obtain ⟨_, _, ⟨T4, L4, k4, n4⟩, -, X4, ⟨Lc4, hQ4, l4, y4, z4⟩, st4⟩ := X1.virtualBack hx (y := (⟨"java/lang/String", "length", "()I"⟩ : MethodName)) (z := (⟨"java/lang/String", "length", "()I"⟩ : MethodName)) hown (mvT hZ (gw hw 33 rfl)) (mvT hZ (gw hw 34 rfl)) (notFace_of_selects (args := #[]) (mvT hZ (gw hw 36 rfl))) (mvT hZ (gw hw 36 rfl)) (mvT hZ (gw hw 35 rfl)) (by decide) (backOf (W := 0) (own_len l Z a0 hw [] sa sb kS cs cd N2 us G1 G3 h0 n0 Z0 ES VS CS KS hcod h16 hl2 AD HB LB O2 P5 O4 rG3 XO) hZ (gw hw 37 rfl) (gw hw 5 rfl) (by decide) (by decide)) q4a q4c (g := (mkF m 8 #[.val (.ref sa), .unset, .unset] [(.ref sa)])) rfl (by rw [hml]; rfl) (Steps.refl _) (argsL := []) (rest := []) (lenOf pd___I rfl) rfl (by show 2 * 0 + _ ≤ _; exact Nat.le_of_eq rfl) (hb hby D12_8) (fun _ _ => ⟨rfl, e1q, (by decide : 0 + 0 ≤ _), (by decide : 0 + 0 ≤ _)⟩)
  dsimp only [Pt.U, Pt.locs, Pt.cells, Pt.slots] at X4 l4 y4 z4 st4 hQ4
  subst l4 y4 z4
  obtain ⟨rfl, N4q, e4q⟩ := hQ4
  have N4 := Fr.app N1 N4q
  have pre5 : ∀ t, Steps p.tables e below (T4.setTop (mkF m 11 #[.val (.ref sa), .unset, .unset] [(.int (Int32.ofNat cs.length))])) t → Steps p.tables e below (s₁.setTop (entryFrame m #[(.ref sa)] 3)) t := by
    intro t kk
    refine pre2 t ?_
    refine XS.ifNo X1.here hx rfl (hb hby D12_4) rfl ((if0 _ _).trans (teq hbr3).2) ?_
    refine XS.aloadN X1.here hx rfl (hb hby D12_7) rfl rfl ?_
    exact st4.trans kk
  have pre6 : ∀ t, Steps p.tables e below (T4.setTop (mkF m 12 #[.val (.ref sa), .unset, .unset] [(.int 1), (.int (Int32.ofNat cs.length))])) t → Steps p.tables e below (s₁.setTop (entryFrame m #[(.ref sa)] 3)) t := by
    intro t kk
    refine pre5 t ?_
    refine XS.iconst X4.here hx rfl (hb hby D12_11) ?_
    exact kk
  have hon := (own_on (n := cs.length) (by omega)).1
  have hl1' : cs.length = 1 ↔ (Int32.ofNat cs.length) = (1 : Int32) := by
    have k : (1 : Int32).toInt = 1 := by decide
    constructor
    · intro q; rw [q]; rfl
    · intro q; rw [q] at hon; omega
  by_cases hgood : cs.length = 1 ∨ ¬ cs.getD 0 0 = (48 : Int32)
  case pos =>
    obtain ⟨T7, Lj7, X7, e7, N7, pre7⟩ : ∃ (T' : State) (lc : List Loc), Stand p l e ({ frames := 5, cells := 0, slots := 0, locals := 66 } : Room) s m #[(.ref sa)] below meth c T' lc 0 0 ∧ T'.heap = h0 ∧ Fr n0 lc ∧ ∀ t, Steps p.tables e below (T'.setTop (mkF m 33 #[.val (.ref sa), .val (.int 1), .val (.int 0)] [])) t → Steps p.tables e below (s₁.setTop (entryFrame m #[(.ref sa)] 3)) t := by
      by_cases hn1 : (Int32.ofNat cs.length) = (1 : Int32)
      case pos =>
        have pre8 : ∀ t, Steps p.tables e below (T4.setTop (mkF m 33 #[.val (.ref sa), .val (.int 1), .val (.int 0)] [])) t → Steps p.tables e below (s₁.setTop (entryFrame m #[(.ref sa)] 3)) t := by
          intro t kk
          refine pre6 t ?_
          refine XS.icmpYes X4.here hx rfl (pc0 := 12) (pc' := 25) rfl (hb hby D12_12) rfl (teq hn1).1 (by decide) (by decide) ?_
          refine XS.iconst X4.here hx rfl (hb hby D12_25) ?_
          refine XS.goto X4.here hx rfl (pc0 := 26) (pc' := 30) rfl (hb hby D12_26) (by decide) (by decide) ?_
          refine XS.istoreN X4.here hx rfl (hb hby D12_30) rfl (l' := #[.val (.ref sa), .val (.int 1), .unset]) rfl ?_
          refine XS.iconst X4.here hx rfl (hb hby D12_31) ?_
          refine XS.istoreN X4.here hx rfl (hb hby D12_32) rfl (l' := #[.val (.ref sa), .val (.int 1), .val (.int 0)]) rfl ?_
          exact kk
        exact ⟨_, _, X4, e4q, N4, pre8⟩
      case neg =>
        obtain ⟨cq9, kq9, q9a, q9b, q9c⟩ := isOf hZ e4q ES
        obtain ⟨_, _, ⟨T9, L9, k9, n9⟩, -, X9, ⟨Lc9, hQ9, l9, y9, z9⟩, st9⟩ := X4.virtualBack hx (y := (⟨"java/lang/String", "charAt", "(I)C"⟩ : MethodName)) (z := (⟨"java/lang/String", "charAt", "(I)C"⟩ : MethodName)) hown (mvT hZ (gw hw 58 rfl)) (mvT hZ (gw hw 59 rfl)) (notFace_of_selects (args := #[]) (mvT hZ (gw hw 61 rfl))) (mvT hZ (gw hw 61 rfl)) (mvT hZ (gw hw 60 rfl)) (by decide) (backOf (W := 0) (own_ch l Z a0 hw [] sa sb kS cs cd N2 us G1 G3 0 h0 n0 Z0 ES VS CS KS hcod h16 hl2 AD HB LB O2 P5 O4 rG3 XO (by omega)) hZ (gw hw 62 rfl) (gw hw 5 rfl) (by decide) (by decide)) q9a q9c (g := (mkF m 17 #[.val (.ref sa), .unset, .unset] [(.int 0), (.ref sa)])) rfl (by rw [hml]; rfl) (Steps.refl _) (argsL := [(.int 0)]) (rest := []) (lenOf pd__I_C rfl) rfl (by show 2 * 0 + _ ≤ _; exact Nat.le_of_eq rfl) (hb hby D12_17) (fun _ _ => ⟨rfl, e4q, (by decide : 0 + 0 ≤ _), (by decide : 0 + 0 ≤ _)⟩)
        dsimp only [Pt.U, Pt.locs, Pt.cells, Pt.slots] at X9 l9 y9 z9 st9 hQ9
        subst l9 y9 z9
        obtain ⟨rfl, N9q, e9q⟩ := hQ9
        have N9 := Fr.app N4 N9q
        have pre10 : ∀ t, Steps p.tables e below (T9.setTop (mkF m 20 #[.val (.ref sa), .unset, .unset] [(.int (cs.getD 0 0))])) t → Steps p.tables e below (s₁.setTop (entryFrame m #[(.ref sa)] 3)) t := by
          intro t kk
          refine pre6 t ?_
          refine XS.icmpNo X4.here hx rfl (hb hby D12_12) rfl (feq hn1).1 ?_
          refine XS.aloadN X4.here hx rfl (hb hby D12_15) rfl rfl ?_
          refine XS.iconst X4.here hx rfl (hb hby D12_16) ?_
          exact st9.trans kk
        have hbr11 : ¬ ((cs.getD 0 0) = (48 : Int32)) := hgood.resolve_left fun q => hn1 (hl1'.mp q)
        have pre12 : ∀ t, Steps p.tables e below (T9.setTop (mkF m 33 #[.val (.ref sa), .val (.int 1), .val (.int 0)] [])) t → Steps p.tables e below (s₁.setTop (entryFrame m #[(.ref sa)] 3)) t := by
          intro t kk
          refine pre10 t ?_
          refine XS.bipush X9.here hx rfl (hb hby D12_20) ?_
          refine XS.icmpNo X9.here hx rfl (hb hby D12_22) rfl (feq hbr11).1 ?_
          refine XS.iconst X9.here hx rfl (hb hby D12_25) ?_
          refine XS.goto X9.here hx rfl (pc0 := 26) (pc' := 30) rfl (hb hby D12_26) (by decide) (by decide) ?_
          refine XS.istoreN X9.here hx rfl (hb hby D12_30) rfl (l' := #[.val (.ref sa), .val (.int 1), .unset]) rfl ?_
          refine XS.iconst X9.here hx rfl (hb hby D12_31) ?_
          refine XS.istoreN X9.here hx rfl (hb hby D12_32) rfl (l' := #[.val (.ref sa), .val (.int 1), .val (.int 0)]) rfl ?_
          exact kk
        exact ⟨_, _, X9, e9q, N9, pre12⟩
    have loop : ∀ i : Nat, i ≤ cs.length → (∀ j, j < i → own_dg (cs.getD j 0)) → ∃ (T' : State) (lc : List Loc), Stand p l e ({ frames := 5, cells := 0, slots := 0, locals := 66 } : Room) s m #[(.ref sa)] below meth c T' lc 0 0 ∧ T'.heap = h0 ∧ Fr n0 lc ∧ ∀ t, Steps p.tables e below (T'.setTop (mkF m 33 #[.val (.ref sa), .val (.int 1), .val (.int (Int32.ofNat i))] [])) t → Steps p.tables e below (s₁.setTop (entryFrame m #[(.ref sa)] 3)) t := by
      intro i
      induction i with
      | zero =>
        intro _ _
        exact ⟨_, _, X7, e7, N7, pre7⟩
      | succ i ih =>
        intro hi hp
        have hdi := hp i (by omega)
        obtain ⟨TL, lcL, XL, eL, NL, preL⟩ := ih (by omega) (fun j hj => hp j (by omega))
        obtain ⟨cq413, kq413, q413a, q413b, q413c⟩ := isOf hZ eL ES
        obtain ⟨_, _, ⟨T413, L413, k413, n413⟩, -, X413, ⟨Lc413, hQ413, l413, y413, z413⟩, st413⟩ := XL.virtualBack hx (y := (⟨"java/lang/String", "length", "()I"⟩ : MethodName)) (z := (⟨"java/lang/String", "length", "()I"⟩ : MethodName)) hown (mvT hZ (gw hw 33 rfl)) (mvT hZ (gw hw 34 rfl)) (notFace_of_selects (args := #[]) (mvT hZ (gw hw 36 rfl))) (mvT hZ (gw hw 36 rfl)) (mvT hZ (gw hw 35 rfl)) (by decide) (backOf (W := 1) (own_len l Z a0 hw [] sa sb kS cs cd N2 us G1 G3 h0 n0 Z0 ES VS CS KS hcod h16 hl2 AD HB LB O2 P5 O4 rG3 XO) hZ (gw hw 37 rfl) (gw hw 5 rfl) (by decide) (by decide)) q413a q413c (g := (mkF m 35 #[.val (.ref sa), .val (.int 1), .val (.int (Int32.ofNat i))] [(.ref sa), (.int (Int32.ofNat i))])) rfl (by rw [hml]; rfl) (Steps.refl _) (argsL := []) (rest := [(.int (Int32.ofNat i))]) (lenOf pd___I rfl) rfl (by show 2 * 0 + _ ≤ _; exact Nat.le_of_eq rfl) (hb hby D12_35) (fun _ _ => ⟨rfl, eL, (by decide : 0 + 0 ≤ _), (by decide : 0 + 0 ≤ _)⟩)
        dsimp only [Pt.U, Pt.locs, Pt.cells, Pt.slots] at X413 l413 y413 z413 st413 hQ413
        subst l413 y413 z413
        obtain ⟨rfl, N413q, e413q⟩ := hQ413
        have N413 := Fr.app NL N413q
        have pre414 : ∀ t, Steps p.tables e below (T413.setTop (mkF m 38 #[.val (.ref sa), .val (.int 1), .val (.int (Int32.ofNat i))] [(.int (Int32.ofNat cs.length)), (.int (Int32.ofNat i))])) t → Steps p.tables e below (s₁.setTop (entryFrame m #[(.ref sa)] 3)) t := by
          intro t kk
          refine preL t ?_
          refine XS.iloadN XL.here hx rfl (hb hby D12_33) rfl ?_
          refine XS.aloadN XL.here hx rfl (hb hby D12_34) rfl rfl ?_
          exact st413.trans kk
        have hbr415 : (Int32.ofNat i) < (Int32.ofNat cs.length) := (own_lt2 (by omega) (by omega)).2
        have hbr416 : ¬ ((1 : Int32) = (0 : Int32)) := by decide
        obtain ⟨cq417, kq417, q417a, q417b, q417c⟩ := isOf hZ e413q ES
        obtain ⟨_, _, ⟨T417, L417, k417, n417⟩, -, X417, ⟨Lc417, hQ417, l417, y417, z417⟩, st417⟩ := X413.virtualBack hx (y := (⟨"java/lang/String", "charAt", "(I)C"⟩ : MethodName)) (z := (⟨"java/lang/String", "charAt", "(I)C"⟩ : MethodName)) hown (mvT hZ (gw hw 58 rfl)) (mvT hZ (gw hw 59 rfl)) (notFace_of_selects (args := #[]) (mvT hZ (gw hw 61 rfl))) (mvT hZ (gw hw 61 rfl)) (mvT hZ (gw hw 60 rfl)) (by decide) (backOf (W := 0) (own_ch l Z a0 hw [] sa sb kS cs cd N2 us G1 G3 i h0 n0 Z0 ES VS CS KS hcod h16 hl2 AD HB LB O2 P5 O4 rG3 XO (by omega)) hZ (gw hw 62 rfl) (gw hw 5 rfl) (by decide) (by decide)) q417a q417c (g := (mkF m 47 #[.val (.ref sa), .val (.int 1), .val (.int (Int32.ofNat i))] [(.int (Int32.ofNat i)), (.ref sa)])) rfl (by rw [hml]; rfl) (Steps.refl _) (argsL := [(.int (Int32.ofNat i))]) (rest := []) (lenOf pd__I_C rfl) rfl (by show 2 * 0 + _ ≤ _; exact Nat.le_of_eq rfl) (hb hby D12_47) (fun _ _ => ⟨rfl, e413q, (by decide : 0 + 0 ≤ _), (by decide : 0 + 0 ≤ _)⟩)
        dsimp only [Pt.U, Pt.locs, Pt.cells, Pt.slots] at X417 l417 y417 z417 st417 hQ417
        subst l417 y417 z417
        obtain ⟨rfl, N417q, e417q⟩ := hQ417
        have N417 := Fr.app N413 N417q
        have pre418 : ∀ t, Steps p.tables e below (T417.setTop (mkF m 50 #[.val (.ref sa), .val (.int 1), .val (.int (Int32.ofNat i))] [(.int (cs.getD i 0))])) t → Steps p.tables e below (s₁.setTop (entryFrame m #[(.ref sa)] 3)) t := by
          intro t kk
          refine pre414 t ?_
          refine XS.icmpNo X413.here hx rfl (hb hby D12_38) rfl (tlt hbr415).2.1 ?_
          refine XS.iloadN X413.here hx rfl (hb hby D12_41) rfl ?_
          refine XS.ifNo X413.here hx rfl (hb hby D12_42) rfl ((if0 _ _).trans (feq hbr416).1) ?_
          refine XS.aloadN X413.here hx rfl (hb hby D12_45) rfl rfl ?_
          refine XS.iloadN X413.here hx rfl (hb hby D12_46) rfl ?_
          exact st417.trans kk
        obtain ⟨cq419, kq419, q419a, q419b, q419c⟩ := isOf hZ e417q ES
        obtain ⟨_, _, ⟨T419, L419, k419, n419⟩, -, X419, ⟨Lc419, hQ419, l419, y419, z419⟩, st419⟩ := X417.virtualBack hx (y := (⟨"java/lang/String", "charAt", "(I)C"⟩ : MethodName)) (z := (⟨"java/lang/String", "charAt", "(I)C"⟩ : MethodName)) hown (mvT hZ (gw hw 58 rfl)) (mvT hZ (gw hw 59 rfl)) (notFace_of_selects (args := #[]) (mvT hZ (gw hw 61 rfl))) (mvT hZ (gw hw 61 rfl)) (mvT hZ (gw hw 60 rfl)) (by decide) (backOf (W := 0) (own_ch l Z a0 hw [] sa sb kS cs cd N2 us G1 G3 i h0 n0 Z0 ES VS CS KS hcod h16 hl2 AD HB LB O2 P5 O4 rG3 XO (by omega)) hZ (gw hw 62 rfl) (gw hw 5 rfl) (by decide) (by decide)) q419a q419c (g := (mkF m 57 #[.val (.ref sa), .val (.int 1), .val (.int (Int32.ofNat i))] [(.int (Int32.ofNat i)), (.ref sa)])) rfl (by rw [hml]; rfl) (Steps.refl _) (argsL := [(.int (Int32.ofNat i))]) (rest := []) (lenOf pd__I_C rfl) rfl (by show 2 * 0 + _ ≤ _; exact Nat.le_of_eq rfl) (hb hby D12_57) (fun _ _ => ⟨rfl, e417q, (by decide : 0 + 0 ≤ _), (by decide : 0 + 0 ≤ _)⟩)
        dsimp only [Pt.U, Pt.locs, Pt.cells, Pt.slots] at X419 l419 y419 z419 st419 hQ419
        subst l419 y419 z419
        obtain ⟨rfl, N419q, e419q⟩ := hQ419
        have N419 := Fr.app N417 N419q
        have pre420 : ∀ t, Steps p.tables e below (T419.setTop (mkF m 60 #[.val (.ref sa), .val (.int 1), .val (.int (Int32.ofNat i))] [(.int (cs.getD i 0))])) t → Steps p.tables e below (s₁.setTop (entryFrame m #[(.ref sa)] 3)) t := by
          intro t kk
          refine pre418 t ?_
          refine XS.bipush X417.here hx rfl (hb hby D12_50) ?_
          refine XS.icmpNo X417.here hx rfl (hb hby D12_52) rfl (flt hdi.1).1 ?_
          refine XS.aloadN X417.here hx rfl (hb hby D12_55) rfl rfl ?_
          refine XS.iloadN X417.here hx rfl (hb hby D12_56) rfl ?_
          exact st419.trans kk
        have pre421 : ∀ t, Steps p.tables e below (T419.setTop (mkF m 33 #[.val (.ref sa), .val (.int 1), .val (.int ((Int32.ofNat i) + (1 : Int32)))] [])) t → Steps p.tables e below (s₁.setTop (entryFrame m #[(.ref sa)] 3)) t := by
          intro t kk
          refine pre420 t ?_
          refine XS.bipush X419.here hx rfl (hb hby D12_60) ?_
          refine XS.icmpNo X419.here hx rfl (hb hby D12_62) rfl (flt hdi.2).2.2.1 ?_
          refine XS.iconst X419.here hx rfl (hb hby D12_65) ?_
          refine XS.goto X419.here hx rfl (pc0 := 66) (pc' := 70) rfl (hb hby D12_66) (by decide) (by decide) ?_
          refine XS.istoreN X419.here hx rfl (hb hby D12_70) rfl (l' := #[.val (.ref sa), .val (.int 1), .val (.int (Int32.ofNat i))]) rfl ?_
          refine XS.iinc X419.here hx rfl (hb hby D12_71) rfl (l' := #[.val (.ref sa), .val (.int 1), .val (.int ((Int32.ofNat i) + (1 : Int32)))]) rfl ?_
          refine XS.goto X419.here hx rfl (pc0 := 74) (pc' := 33) rfl (hb hby D12_74) (by decide) (by decide) ?_
          exact kk
        rw [own_inc (by omega)] at pre421
        exact ⟨_, _, X419, e419q, N419, pre421⟩
    by_cases hall : ∀ i, i < cs.length → own_dg (cs.getD i 0)
    case pos =>
      obtain ⟨TM, lcM, XM, eM, NM, preM⟩ := loop cs.length (Nat.le_refl _) hall
      obtain ⟨cq472, kq472, q472a, q472b, q472c⟩ := isOf hZ eM ES
      obtain ⟨_, _, ⟨T472, L472, k472, n472⟩, -, X472, ⟨Lc472, hQ472, l472, y472, z472⟩, st472⟩ := XM.virtualBack hx (y := (⟨"java/lang/String", "length", "()I"⟩ : MethodName)) (z := (⟨"java/lang/String", "length", "()I"⟩ : MethodName)) hown (mvT hZ (gw hw 33 rfl)) (mvT hZ (gw hw 34 rfl)) (notFace_of_selects (args := #[]) (mvT hZ (gw hw 36 rfl))) (mvT hZ (gw hw 36 rfl)) (mvT hZ (gw hw 35 rfl)) (by decide) (backOf (W := 1) (own_len l Z a0 hw [] sa sb kS cs cd N2 us G1 G3 h0 n0 Z0 ES VS CS KS hcod h16 hl2 AD HB LB O2 P5 O4 rG3 XO) hZ (gw hw 37 rfl) (gw hw 5 rfl) (by decide) (by decide)) q472a q472c (g := (mkF m 35 #[.val (.ref sa), .val (.int 1), .val (.int (Int32.ofNat cs.length))] [(.ref sa), (.int (Int32.ofNat cs.length))])) rfl (by rw [hml]; rfl) (Steps.refl _) (argsL := []) (rest := [(.int (Int32.ofNat cs.length))]) (lenOf pd___I rfl) rfl (by show 2 * 0 + _ ≤ _; exact Nat.le_of_eq rfl) (hb hby D12_35) (fun _ _ => ⟨rfl, eM, (by decide : 0 + 0 ≤ _), (by decide : 0 + 0 ≤ _)⟩)
      dsimp only [Pt.U, Pt.locs, Pt.cells, Pt.slots] at X472 l472 y472 z472 st472 hQ472
      subst l472 y472 z472
      obtain ⟨rfl, N472q, e472q⟩ := hQ472
      have N472 := Fr.app NM N472q
      have pre473 : ∀ t, Steps p.tables e below (T472.setTop (mkF m 38 #[.val (.ref sa), .val (.int 1), .val (.int (Int32.ofNat cs.length))] [(.int (Int32.ofNat cs.length)), (.int (Int32.ofNat cs.length))])) t → Steps p.tables e below (s₁.setTop (entryFrame m #[(.ref sa)] 3)) t := by
        intro t kk
        refine preM t ?_
        refine XS.iloadN XM.here hx rfl (hb hby D12_33) rfl ?_
        refine XS.aloadN XM.here hx rfl (hb hby D12_34) rfl rfl ?_
        exact st472.trans kk
      have hbr474 : ¬ ((Int32.ofNat cs.length) < (Int32.ofNat cs.length)) := by rw [Int32.lt_iff_toInt_lt]; omega
      obtain ⟨fs, hr, hrun, hended, hW, hsame⟩ := X472.leave (v := some (.int 1)) (fun h => by rw [Bd.returns] at h; cases h)
      refine ⟨_, _, pre473 _ ?_, hrun, hended, _, _, rfl, ?_, ⟨_, rfl⟩, hW, hsame.mono (by decide) (by decide)⟩
      · refine XS.icmpYes X472.here hx rfl (pc0 := 38) (pc' := 77) rfl (hb hby D12_38) rfl (flt hbr474).2.1 (by decide) (by decide) ?_
        refine XS.iloadN X472.here hx rfl (hb hby D12_77) rfl ?_
        exact retN X472 hx (t := .boolean) Bd.returns (by simp) (hb hby D12_78) hr
      · show Q_own_mt Z sa sb kS cs cd N2 us G1 G3 h0 n0 _ T472.heap _
        rw [e472q]
        exact ⟨1, rfl, N472, rfl, fun _ => rfl, fun q => absurd ⟨hgood, hall⟩ q⟩
    case neg =>
      obtain ⟨i, hi, hbad, hp⟩ := own_least hall
      obtain ⟨TM, lcM, XM, eM, NM, preM⟩ := loop i (by omega) hp
      obtain ⟨cq475, kq475, q475a, q475b, q475c⟩ := isOf hZ eM ES
      obtain ⟨_, _, ⟨T475, L475, k475, n475⟩, -, X475, ⟨Lc475, hQ475, l475, y475, z475⟩, st475⟩ := XM.virtualBack hx (y := (⟨"java/lang/String", "length", "()I"⟩ : MethodName)) (z := (⟨"java/lang/String", "length", "()I"⟩ : MethodName)) hown (mvT hZ (gw hw 33 rfl)) (mvT hZ (gw hw 34 rfl)) (notFace_of_selects (args := #[]) (mvT hZ (gw hw 36 rfl))) (mvT hZ (gw hw 36 rfl)) (mvT hZ (gw hw 35 rfl)) (by decide) (backOf (W := 1) (own_len l Z a0 hw [] sa sb kS cs cd N2 us G1 G3 h0 n0 Z0 ES VS CS KS hcod h16 hl2 AD HB LB O2 P5 O4 rG3 XO) hZ (gw hw 37 rfl) (gw hw 5 rfl) (by decide) (by decide)) q475a q475c (g := (mkF m 35 #[.val (.ref sa), .val (.int 1), .val (.int (Int32.ofNat i))] [(.ref sa), (.int (Int32.ofNat i))])) rfl (by rw [hml]; rfl) (Steps.refl _) (argsL := []) (rest := [(.int (Int32.ofNat i))]) (lenOf pd___I rfl) rfl (by show 2 * 0 + _ ≤ _; exact Nat.le_of_eq rfl) (hb hby D12_35) (fun _ _ => ⟨rfl, eM, (by decide : 0 + 0 ≤ _), (by decide : 0 + 0 ≤ _)⟩)
      dsimp only [Pt.U, Pt.locs, Pt.cells, Pt.slots] at X475 l475 y475 z475 st475 hQ475
      subst l475 y475 z475
      obtain ⟨rfl, N475q, e475q⟩ := hQ475
      have N475 := Fr.app NM N475q
      have pre476 : ∀ t, Steps p.tables e below (T475.setTop (mkF m 38 #[.val (.ref sa), .val (.int 1), .val (.int (Int32.ofNat i))] [(.int (Int32.ofNat cs.length)), (.int (Int32.ofNat i))])) t → Steps p.tables e below (s₁.setTop (entryFrame m #[(.ref sa)] 3)) t := by
        intro t kk
        refine preM t ?_
        refine XS.iloadN XM.here hx rfl (hb hby D12_33) rfl ?_
        refine XS.aloadN XM.here hx rfl (hb hby D12_34) rfl rfl ?_
        exact st475.trans kk
      have hbr477 : (Int32.ofNat i) < (Int32.ofNat cs.length) := (own_lt2 (by omega) (by omega)).2
      have hbr478 : ¬ ((1 : Int32) = (0 : Int32)) := by decide
      obtain ⟨cq479, kq479, q479a, q479b, q479c⟩ := isOf hZ e475q ES
      obtain ⟨_, _, ⟨T479, L479, k479, n479⟩, -, X479, ⟨Lc479, hQ479, l479, y479, z479⟩, st479⟩ := X475.virtualBack hx (y := (⟨"java/lang/String", "charAt", "(I)C"⟩ : MethodName)) (z := (⟨"java/lang/String", "charAt", "(I)C"⟩ : MethodName)) hown (mvT hZ (gw hw 58 rfl)) (mvT hZ (gw hw 59 rfl)) (notFace_of_selects (args := #[]) (mvT hZ (gw hw 61 rfl))) (mvT hZ (gw hw 61 rfl)) (mvT hZ (gw hw 60 rfl)) (by decide) (backOf (W := 0) (own_ch l Z a0 hw [] sa sb kS cs cd N2 us G1 G3 i h0 n0 Z0 ES VS CS KS hcod h16 hl2 AD HB LB O2 P5 O4 rG3 XO (by omega)) hZ (gw hw 62 rfl) (gw hw 5 rfl) (by decide) (by decide)) q479a q479c (g := (mkF m 47 #[.val (.ref sa), .val (.int 1), .val (.int (Int32.ofNat i))] [(.int (Int32.ofNat i)), (.ref sa)])) rfl (by rw [hml]; rfl) (Steps.refl _) (argsL := [(.int (Int32.ofNat i))]) (rest := []) (lenOf pd__I_C rfl) rfl (by show 2 * 0 + _ ≤ _; exact Nat.le_of_eq rfl) (hb hby D12_47) (fun _ _ => ⟨rfl, e475q, (by decide : 0 + 0 ≤ _), (by decide : 0 + 0 ≤ _)⟩)
      dsimp only [Pt.U, Pt.locs, Pt.cells, Pt.slots] at X479 l479 y479 z479 st479 hQ479
      subst l479 y479 z479
      obtain ⟨rfl, N479q, e479q⟩ := hQ479
      have N479 := Fr.app N475 N479q
      have pre480 : ∀ t, Steps p.tables e below (T479.setTop (mkF m 50 #[.val (.ref sa), .val (.int 1), .val (.int (Int32.ofNat i))] [(.int (cs.getD i 0))])) t → Steps p.tables e below (s₁.setTop (entryFrame m #[(.ref sa)] 3)) t := by
        intro t kk
        refine pre476 t ?_
        refine XS.icmpNo X475.here hx rfl (hb hby D12_38) rfl (tlt hbr477).2.1 ?_
        refine XS.iloadN X475.here hx rfl (hb hby D12_41) rfl ?_
        refine XS.ifNo X475.here hx rfl (hb hby D12_42) rfl ((if0 _ _).trans (feq hbr478).1) ?_
        refine XS.aloadN X475.here hx rfl (hb hby D12_45) rfl rfl ?_
        refine XS.iloadN X475.here hx rfl (hb hby D12_46) rfl ?_
        exact st479.trans kk
      have pre481 : ∀ t, Steps p.tables e below (T479.setTop (mkF m 52 #[.val (.ref sa), .val (.int 1), .val (.int (Int32.ofNat i))] [(.int 48), (.int (cs.getD i 0))])) t → Steps p.tables e below (s₁.setTop (entryFrame m #[(.ref sa)] 3)) t := by
        intro t kk
        refine pre480 t ?_
        refine XS.bipush X479.here hx rfl (hb hby D12_50) ?_
        exact kk
      obtain ⟨T482, Lj482, X482, e482, N482, pre482⟩ : ∃ (T' : State) (lc : List Loc), Stand p l e ({ frames := 5, cells := 0, slots := 0, locals := 66 } : Room) s m #[(.ref sa)] below meth c T' lc 0 0 ∧ T'.heap = h0 ∧ Fr n0 lc ∧ ∀ t, Steps p.tables e below (T'.setTop (mkF m 33 #[.val (.ref sa), .val (.int 0), .val (.int ((Int32.ofNat i) + (1 : Int32)))] [])) t → Steps p.tables e below (s₁.setTop (entryFrame m #[(.ref sa)] 3)) t := by
        by_cases hlt : (cs.getD i 0) < (48 : Int32)
        case pos =>
          have pre483 : ∀ t, Steps p.tables e below (T479.setTop (mkF m 33 #[.val (.ref sa), .val (.int 0), .val (.int ((Int32.ofNat i) + (1 : Int32)))] [])) t → Steps p.tables e below (s₁.setTop (entryFrame m #[(.ref sa)] 3)) t := by
            intro t kk
            refine pre481 t ?_
            refine XS.icmpYes X479.here hx rfl (pc0 := 52) (pc' := 69) rfl (hb hby D12_52) rfl (tlt hlt).1 (by decide) (by decide) ?_
            refine XS.iconst X479.here hx rfl (hb hby D12_69) ?_
            refine XS.istoreN X479.here hx rfl (hb hby D12_70) rfl (l' := #[.val (.ref sa), .val (.int 0), .val (.int (Int32.ofNat i))]) rfl ?_
            refine XS.iinc X479.here hx rfl (hb hby D12_71) rfl (l' := #[.val (.ref sa), .val (.int 0), .val (.int ((Int32.ofNat i) + (1 : Int32)))]) rfl ?_
            refine XS.goto X479.here hx rfl (pc0 := 74) (pc' := 33) rfl (hb hby D12_74) (by decide) (by decide) ?_
            exact kk
          exact ⟨_, _, X479, e479q, N479, pre483⟩
        case neg =>
          obtain ⟨cq484, kq484, q484a, q484b, q484c⟩ := isOf hZ e479q ES
          obtain ⟨_, _, ⟨T484, L484, k484, n484⟩, -, X484, ⟨Lc484, hQ484, l484, y484, z484⟩, st484⟩ := X479.virtualBack hx (y := (⟨"java/lang/String", "charAt", "(I)C"⟩ : MethodName)) (z := (⟨"java/lang/String", "charAt", "(I)C"⟩ : MethodName)) hown (mvT hZ (gw hw 58 rfl)) (mvT hZ (gw hw 59 rfl)) (notFace_of_selects (args := #[]) (mvT hZ (gw hw 61 rfl))) (mvT hZ (gw hw 61 rfl)) (mvT hZ (gw hw 60 rfl)) (by decide) (backOf (W := 0) (own_ch l Z a0 hw [] sa sb kS cs cd N2 us G1 G3 i h0 n0 Z0 ES VS CS KS hcod h16 hl2 AD HB LB O2 P5 O4 rG3 XO (by omega)) hZ (gw hw 62 rfl) (gw hw 5 rfl) (by decide) (by decide)) q484a q484c (g := (mkF m 57 #[.val (.ref sa), .val (.int 1), .val (.int (Int32.ofNat i))] [(.int (Int32.ofNat i)), (.ref sa)])) rfl (by rw [hml]; rfl) (Steps.refl _) (argsL := [(.int (Int32.ofNat i))]) (rest := []) (lenOf pd__I_C rfl) rfl (by show 2 * 0 + _ ≤ _; exact Nat.le_of_eq rfl) (hb hby D12_57) (fun _ _ => ⟨rfl, e479q, (by decide : 0 + 0 ≤ _), (by decide : 0 + 0 ≤ _)⟩)
          dsimp only [Pt.U, Pt.locs, Pt.cells, Pt.slots] at X484 l484 y484 z484 st484 hQ484
          subst l484 y484 z484
          obtain ⟨rfl, N484q, e484q⟩ := hQ484
          have N484 := Fr.app N479 N484q
          have pre485 : ∀ t, Steps p.tables e below (T484.setTop (mkF m 60 #[.val (.ref sa), .val (.int 1), .val (.int (Int32.ofNat i))] [(.int (cs.getD i 0))])) t → Steps p.tables e below (s₁.setTop (entryFrame m #[(.ref sa)] 3)) t := by
            intro t kk
            refine pre481 t ?_
            refine XS.icmpNo X479.here hx rfl (hb hby D12_52) rfl (flt hlt).1 ?_
            refine XS.aloadN X479.here hx rfl (hb hby D12_55) rfl rfl ?_
            refine XS.iloadN X479.here hx rfl (hb hby D12_56) rfl ?_
            exact st484.trans kk
          have hbr486 : (57 : Int32) < (cs.getD i 0) := Classical.byContradiction fun q => hbad ⟨hlt, q⟩
          have pre487 : ∀ t, Steps p.tables e below (T484.setTop (mkF m 33 #[.val (.ref sa), .val (.int 0), .val (.int ((Int32.ofNat i) + (1 : Int32)))] [])) t → Steps p.tables e below (s₁.setTop (entryFrame m #[(.ref sa)] 3)) t := by
            intro t kk
            refine pre485 t ?_
            refine XS.bipush X484.here hx rfl (hb hby D12_60) ?_
            refine XS.icmpYes X484.here hx rfl (pc0 := 62) (pc' := 69) rfl (hb hby D12_62) rfl (tlt hbr486).2.2.1 (by decide) (by decide) ?_
            refine XS.iconst X484.here hx rfl (hb hby D12_69) ?_
            refine XS.istoreN X484.here hx rfl (hb hby D12_70) rfl (l' := #[.val (.ref sa), .val (.int 0), .val (.int (Int32.ofNat i))]) rfl ?_
            refine XS.iinc X484.here hx rfl (hb hby D12_71) rfl (l' := #[.val (.ref sa), .val (.int 0), .val (.int ((Int32.ofNat i) + (1 : Int32)))]) rfl ?_
            refine XS.goto X484.here hx rfl (pc0 := 74) (pc' := 33) rfl (hb hby D12_74) (by decide) (by decide) ?_
            exact kk
          exact ⟨_, _, X484, e484q, N484, pre487⟩
      obtain ⟨cq888, kq888, q888a, q888b, q888c⟩ := isOf hZ e482 ES
      obtain ⟨_, _, ⟨T888, L888, k888, n888⟩, -, X888, ⟨Lc888, hQ888, l888, y888, z888⟩, st888⟩ := X482.virtualBack hx (y := (⟨"java/lang/String", "length", "()I"⟩ : MethodName)) (z := (⟨"java/lang/String", "length", "()I"⟩ : MethodName)) hown (mvT hZ (gw hw 33 rfl)) (mvT hZ (gw hw 34 rfl)) (notFace_of_selects (args := #[]) (mvT hZ (gw hw 36 rfl))) (mvT hZ (gw hw 36 rfl)) (mvT hZ (gw hw 35 rfl)) (by decide) (backOf (W := 1) (own_len l Z a0 hw [] sa sb kS cs cd N2 us G1 G3 h0 n0 Z0 ES VS CS KS hcod h16 hl2 AD HB LB O2 P5 O4 rG3 XO) hZ (gw hw 37 rfl) (gw hw 5 rfl) (by decide) (by decide)) q888a q888c (g := (mkF m 35 #[.val (.ref sa), .val (.int 0), .val (.int ((Int32.ofNat i) + (1 : Int32)))] [(.ref sa), (.int ((Int32.ofNat i) + (1 : Int32)))])) rfl (by rw [hml]; rfl) (Steps.refl _) (argsL := []) (rest := [(.int ((Int32.ofNat i) + (1 : Int32)))]) (lenOf pd___I rfl) rfl (by show 2 * 0 + _ ≤ _; exact Nat.le_of_eq rfl) (hb hby D12_35) (fun _ _ => ⟨rfl, e482, (by decide : 0 + 0 ≤ _), (by decide : 0 + 0 ≤ _)⟩)
      dsimp only [Pt.U, Pt.locs, Pt.cells, Pt.slots] at X888 l888 y888 z888 st888 hQ888
      subst l888 y888 z888
      obtain ⟨rfl, N888q, e888q⟩ := hQ888
      have N888 := Fr.app N482 N888q
      have pre889 : ∀ t, Steps p.tables e below (T888.setTop (mkF m 38 #[.val (.ref sa), .val (.int 0), .val (.int ((Int32.ofNat i) + (1 : Int32)))] [(.int (Int32.ofNat cs.length)), (.int ((Int32.ofNat i) + (1 : Int32)))])) t → Steps p.tables e below (s₁.setTop (entryFrame m #[(.ref sa)] 3)) t := by
        intro t kk
        refine pre482 t ?_
        refine XS.iloadN X482.here hx rfl (hb hby D12_33) rfl ?_
        refine XS.aloadN X482.here hx rfl (hb hby D12_34) rfl rfl ?_
        exact st888.trans kk
      by_cases hlast : ((Int32.ofNat i) + (1 : Int32)) < (Int32.ofNat cs.length)
      case pos =>
        have hbr890 : (0 : Int32) = (0 : Int32) := rfl
        obtain ⟨fs, hr, hrun, hended, hW, hsame⟩ := X888.leave (v := some (.int 0)) (fun h => by rw [Bd.returns] at h; cases h)
        refine ⟨_, _, pre889 _ ?_, hrun, hended, _, _, rfl, ?_, ⟨_, rfl⟩, hW, hsame.mono (by decide) (by decide)⟩
        · refine XS.icmpNo X888.here hx rfl (hb hby D12_38) rfl (tlt hlast).2.1 ?_
          refine XS.iloadN X888.here hx rfl (hb hby D12_41) rfl ?_
          refine XS.ifYes X888.here hx rfl (pc0 := 42) (pc' := 77) rfl (hb hby D12_42) rfl ((if0 _ _).trans (teq hbr890).1) (by decide) (by decide) ?_
          refine XS.iloadN X888.here hx rfl (hb hby D12_77) rfl ?_
          exact retN X888 hx (t := .boolean) Bd.returns (by simp) (hb hby D12_78) hr
        · show Q_own_mt Z sa sb kS cs cd N2 us G1 G3 h0 n0 _ T888.heap _
          rw [e888q]
          exact ⟨0, rfl, N888, rfl, fun q => absurd q.2 hall, fun _ => rfl⟩
      case neg =>
        obtain ⟨fs, hr, hrun, hended, hW, hsame⟩ := X888.leave (v := some (.int 0)) (fun h => by rw [Bd.returns] at h; cases h)
        refine ⟨_, _, pre889 _ ?_, hrun, hended, _, _, rfl, ?_, ⟨_, rfl⟩, hW, hsame.mono (by decide) (by decide)⟩
        · refine XS.icmpYes X888.here hx rfl (pc0 := 38) (pc' := 77) rfl (hb hby D12_38) rfl (flt hlast).2.1 (by decide) (by decide) ?_
          refine XS.iloadN X888.here hx rfl (hb hby D12_77) rfl ?_
          exact retN X888 hx (t := .boolean) Bd.returns (by simp) (hb hby D12_78) hr
        · show Q_own_mt Z sa sb kS cs cd N2 us G1 G3 h0 n0 _ T888.heap _
          rw [e888q]
          exact ⟨0, rfl, N888, rfl, fun q => absurd q.2 hall, fun _ => rfl⟩
  case neg =>
    have hbr891 : ¬ ((Int32.ofNat cs.length) = (1 : Int32)) := fun q => hgood (Or.inl (hl1'.mpr q))
    obtain ⟨cq892, kq892, q892a, q892b, q892c⟩ := isOf hZ e4q ES
    obtain ⟨_, _, ⟨T892, L892, k892, n892⟩, -, X892, ⟨Lc892, hQ892, l892, y892, z892⟩, st892⟩ := X4.virtualBack hx (y := (⟨"java/lang/String", "charAt", "(I)C"⟩ : MethodName)) (z := (⟨"java/lang/String", "charAt", "(I)C"⟩ : MethodName)) hown (mvT hZ (gw hw 58 rfl)) (mvT hZ (gw hw 59 rfl)) (notFace_of_selects (args := #[]) (mvT hZ (gw hw 61 rfl))) (mvT hZ (gw hw 61 rfl)) (mvT hZ (gw hw 60 rfl)) (by decide) (backOf (W := 0) (own_ch l Z a0 hw [] sa sb kS cs cd N2 us G1 G3 0 h0 n0 Z0 ES VS CS KS hcod h16 hl2 AD HB LB O2 P5 O4 rG3 XO (by omega)) hZ (gw hw 62 rfl) (gw hw 5 rfl) (by decide) (by decide)) q892a q892c (g := (mkF m 17 #[.val (.ref sa), .unset, .unset] [(.int 0), (.ref sa)])) rfl (by rw [hml]; rfl) (Steps.refl _) (argsL := [(.int 0)]) (rest := []) (lenOf pd__I_C rfl) rfl (by show 2 * 0 + _ ≤ _; exact Nat.le_of_eq rfl) (hb hby D12_17) (fun _ _ => ⟨rfl, e4q, (by decide : 0 + 0 ≤ _), (by decide : 0 + 0 ≤ _)⟩)
    dsimp only [Pt.U, Pt.locs, Pt.cells, Pt.slots] at X892 l892 y892 z892 st892 hQ892
    subst l892 y892 z892
    obtain ⟨rfl, N892q, e892q⟩ := hQ892
    have N892 := Fr.app N4 N892q
    have pre893 : ∀ t, Steps p.tables e below (T892.setTop (mkF m 20 #[.val (.ref sa), .unset, .unset] [(.int (cs.getD 0 0))])) t → Steps p.tables e below (s₁.setTop (entryFrame m #[(.ref sa)] 3)) t := by
      intro t kk
      refine pre6 t ?_
      refine XS.icmpNo X4.here hx rfl (hb hby D12_12) rfl (feq hbr891).1 ?_
      refine XS.aloadN X4.here hx rfl (hb hby D12_15) rfl rfl ?_
      refine XS.iconst X4.here hx rfl (hb hby D12_16) ?_
      exact st892.trans kk
    have hbr894 : (cs.getD 0 0) = (48 : Int32) := Classical.byContradiction fun q => hgood (Or.inr q)
    obtain ⟨cq895, kq895, q895a, q895b, q895c⟩ := isOf hZ e892q ES
    obtain ⟨_, _, ⟨T895, L895, k895, n895⟩, -, X895, ⟨Lc895, hQ895, l895, y895, z895⟩, st895⟩ := X892.virtualBack hx (y := (⟨"java/lang/String", "length", "()I"⟩ : MethodName)) (z := (⟨"java/lang/String", "length", "()I"⟩ : MethodName)) hown (mvT hZ (gw hw 33 rfl)) (mvT hZ (gw hw 34 rfl)) (notFace_of_selects (args := #[]) (mvT hZ (gw hw 36 rfl))) (mvT hZ (gw hw 36 rfl)) (mvT hZ (gw hw 35 rfl)) (by decide) (backOf (W := 1) (own_len l Z a0 hw [] sa sb kS cs cd N2 us G1 G3 h0 n0 Z0 ES VS CS KS hcod h16 hl2 AD HB LB O2 P5 O4 rG3 XO) hZ (gw hw 37 rfl) (gw hw 5 rfl) (by decide) (by decide)) q895a q895c (g := (mkF m 35 #[.val (.ref sa), .val (.int 0), .val (.int 0)] [(.ref sa), (.int 0)])) rfl (by rw [hml]; rfl) (Steps.refl _) (argsL := []) (rest := [(.int 0)]) (lenOf pd___I rfl) rfl (by show 2 * 0 + _ ≤ _; exact Nat.le_of_eq rfl) (hb hby D12_35) (fun _ _ => ⟨rfl, e892q, (by decide : 0 + 0 ≤ _), (by decide : 0 + 0 ≤ _)⟩)
    dsimp only [Pt.U, Pt.locs, Pt.cells, Pt.slots] at X895 l895 y895 z895 st895 hQ895
    subst l895 y895 z895
    obtain ⟨rfl, N895q, e895q⟩ := hQ895
    have N895 := Fr.app N892 N895q
    have pre896 : ∀ t, Steps p.tables e below (T895.setTop (mkF m 38 #[.val (.ref sa), .val (.int 0), .val (.int 0)] [(.int (Int32.ofNat cs.length)), (.int 0)])) t → Steps p.tables e below (s₁.setTop (entryFrame m #[(.ref sa)] 3)) t := by
      intro t kk
      refine pre893 t ?_
      refine XS.bipush X892.here hx rfl (hb hby D12_20) ?_
      refine XS.icmpYes X892.here hx rfl (pc0 := 22) (pc' := 29) rfl (hb hby D12_22) rfl (teq hbr894).1 (by decide) (by decide) ?_
      refine XS.iconst X892.here hx rfl (hb hby D12_29) ?_
      refine XS.istoreN X892.here hx rfl (hb hby D12_30) rfl (l' := #[.val (.ref sa), .val (.int 0), .unset]) rfl ?_
      refine XS.iconst X892.here hx rfl (hb hby D12_31) ?_
      refine XS.istoreN X892.here hx rfl (hb hby D12_32) rfl (l' := #[.val (.ref sa), .val (.int 0), .val (.int 0)]) rfl ?_
      refine XS.iloadN X892.here hx rfl (hb hby D12_33) rfl ?_
      refine XS.aloadN X892.here hx rfl (hb hby D12_34) rfl rfl ?_
      show Steps p.tables e below (T892.setTop (mkF m 35 #[.val (.ref sa), .val (.int 0), .val (.int 0)] [(.ref sa), (.int 0)])) _
      exact st895.trans kk
    have hbr897 : (0 : Int32) < (Int32.ofNat cs.length) := (own_lt2 (i := 0) (by omega) (by omega)).2
    have hbr898 : (0 : Int32) = (0 : Int32) := rfl
    obtain ⟨fs, hr, hrun, hended, hW, hsame⟩ := X895.leave (v := some (.int 0)) (fun h => by rw [Bd.returns] at h; cases h)
    refine ⟨_, _, pre896 _ ?_, hrun, hended, _, _, rfl, ?_, ⟨_, rfl⟩, hW, hsame.mono (by decide) (by decide)⟩
    · refine XS.icmpNo X895.here hx rfl (hb hby D12_38) rfl (tlt hbr897).2.1 ?_
      refine XS.iloadN X895.here hx rfl (hb hby D12_41) rfl ?_
      refine XS.ifYes X895.here hx rfl (pc0 := 42) (pc' := 77) rfl (hb hby D12_42) rfl ((if0 _ _).trans (teq hbr898).1) (by decide) (by decide) ?_
      refine XS.iloadN X895.here hx rfl (hb hby D12_77) rfl ?_
      exact retN X895 hx (t := .boolean) Bd.returns (by simp) (hb hby D12_78) hr
    · show Q_own_mt Z sa sb kS cs cd N2 us G1 G3 h0 n0 _ T895.heap _
      rw [e895q]
      exact ⟨0, rfl, N895, rfl, fun q => absurd q.1 hgood, fun _ => rfl⟩
theorem D15_0 : decode jdk_52_method_3_code 0 = .ok (.iload_n 0, 1) := by decide +kernel
theorem D15_1 : decode jdk_52_method_3_code 1 = .ok (.ifCond .ge 11, 3) := by decide +kernel
theorem D15_12 : decode jdk_52_method_3_code 12 = .ok (.iload_n 0, 1) := by decide +kernel
theorem D15_13 : decode jdk_52_method_3_code 13 = .ok (.ldc 20, 2) := by decide +kernel
theorem D15_15 : decode jdk_52_method_3_code 15 = .ok (.if_icmp .lt 40, 3) := by decide +kernel
theorem D15_55 : decode jdk_52_method_3_code 55 = .ok (.iload_n 0, 1) := by decide +kernel
theorem D15_56 : decode jdk_52_method_3_code 56 = .ok (.iconst 1, 1) := by decide +kernel
theorem D15_57 : decode jdk_52_method_3_code 57 = .ok (.ishl, 1) := by decide +kernel
theorem D15_58 : decode jdk_52_method_3_code 58 = .ok (.ireturn, 1) := by decide +kernel
theorem ef_own_nl1 (m : MethodId)  : entryFrame m #[(.int 1)] 1 = mkF m 0 #[.val (.int 1)] [] := by first | (simp [entryFrame, mkF, argsToLocals, Value.category]; done) | rfl
def Q_own_nl1 (Z : State)  (h0 : Heap) (n0 : Nat) (v : Option Value) (h : Heap) (L : List Loc) : Prop := v = some (.int 2) ∧ Fr n0 L ∧ h = h0
set_option maxRecDepth 65536 in
set_option maxHeartbeats 40000000 in
theorem own_nl1 (l : Launch) (Z : State) (a0 : Array Value) (hw : ∀ d ∈ tables_1, d.before a0 Z = true) (ws : List Jvm.Cond)  (h0 : Heap) (n0 : Nat) (Z0 : n0 ≤ h0.size)  :
    MetFree l (⟨"java/lang/StringUTF16", "newBytesLength", "(I)I"⟩ : MethodName) (head1 (Jvm.Cond.code (⟨"java/lang/StringUTF16", "newBytesLength", "(I)I"⟩ : MethodName) jdk_52_method_3_code 1 (some .int) :: ws) ({ frames := 0, cells := 0, slots := 0, locals := 0 } : Room)) (fun a U => a = #[(.int 1)] ∧ Z.Warmed39 U.vm ∧ U.heap = h0) (fun _ _ _ _ _ => True) (fun _ U o U' => ∃ v L, o = .returned v ∧ Q_own_nl1 Z  h0 n0 v U'.heap L ∧ FrameEnd U o U' L ({ frames := 0, cells := 0, slots := 0, locals := 0 } : Room).cells ({ frames := 0, cells := 0, slots := 0, locals := 0 } : Room).slots) := by
  refine MetFree.of_bodySF (plainFor_of_name pn_java_lang_StringUTF16) hisR ?_
  intro p e s m args below meth c s₁ Bd hml0 hP hK
  obtain ⟨rfl, hZ, hh⟩ := hP
  have hx := Bd.exec
  have hby := Bd.bytes
  have hml : c.maxLocals = 1 := hml0
  have hown : s.vm.findClass "java/lang/StringUTF16" = some m.cls := findClass_of_methodNamed Bd.named
  have hnm := (name_of_methodNamed Bd.named Bd.method).1
  have X0 : Stand p l e ({ frames := 0, cells := 0, slots := 0, locals := 0 } : Room) s m #[(.int 1)] below meth c s₁ [] 0 0 := Stand.of_body Bd
  have e0 : s₁.heap = h0 := by rw [← hh, Bd.state]; rfl
  have N0 := Fr.nil n0
  have pre0 : ∀ t, Steps p.tables e below (s₁.setTop (mkF m 0 #[.val (.int 1)] [])) t → Steps p.tables e below (s₁.setTop (entryFrame m #[(.int 1)] 1)) t := fun t k => castTop (ef_own_nl1 m) k
  have hbr1 : ¬ ((1 : Int32) < (0 : Int32)) := by decide
  have hbr2 : (1 : Int32) < (1073741823 : Int32) := by decide
  have pre3 : ∀ t, Steps p.tables e below (s₁.setTop (mkF m 58 #[.val (.int 1)] [(.int ((1 : Int32) <<< ((1 : Int32) &&& 31)))])) t → Steps p.tables e below (s₁.setTop (entryFrame m #[(.int 1)] 1)) t := by
    intro t kk
    refine pre0 t ?_
    refine XS.iloadN X0.here hx rfl (hb hby D15_0) rfl ?_
    refine XS.ifYes X0.here hx rfl (pc0 := 1) (pc' := 12) rfl (hb hby D15_1) rfl ((if0 _ _).trans (flt hbr1).2.1) (by decide) (by decide) ?_
    refine XS.iloadN X0.here hx rfl (hb hby D15_12) rfl ?_
    refine X0.ldcI hx hown (mvT hZ (gw hw 89 rfl)) (g := (mkF m 13 #[.val (.int 1)] [(.int 1)])) rfl (hb hby D15_13) ?_
    refine XS.icmpYes X0.here hx rfl (pc0 := 15) (pc' := 55) rfl (hb hby D15_15) rfl (tlt hbr2).1 (by decide) (by decide) ?_
    refine XS.iloadN X0.here hx rfl (hb hby D15_55) rfl ?_
    refine XS.iconst X0.here hx rfl (hb hby D15_56) ?_
    refine XS.ishl X0.here hx rfl (hb hby D15_57) rfl ?_
    exact kk
  rw [(by decide : ((1 : Int32) <<< ((1 : Int32) &&& 31)) = (2 : Int32))] at pre3
  obtain ⟨fs, hr, hrun, hended, hW, hsame⟩ := X0.leave (v := some (.int 2)) (fun h => by rw [Bd.returns] at h; cases h)
  refine ⟨_, _, pre3 _ ?_, hrun, hended, _, _, rfl, ?_, ⟨_, rfl⟩, hW, hsame.mono (by decide) (by decide)⟩
  · exact retI X0 hx Bd.returns (hb hby D15_58) hr
  · show Q_own_nl1 Z  h0 n0 _ s₁.heap _
    rw [e0]
    exact ⟨rfl, N0, rfl⟩
theorem D16_0 : decode jdk_52_method_2_code 0 = .ok (.iload_n 0, 1) := by decide +kernel
theorem pd__I_I : parseMethodDescriptor "(I)I" = some ⟨[.int], some .int⟩ := by decide +kernel
theorem D16_1 : decode jdk_52_method_2_code 1 = .ok (.invokestatic 11, 3) := by decide +kernel
theorem D16_4 : decode jdk_52_method_2_code 4 = .ok (.newarray .byte, 2) := by decide +kernel
theorem D16_6 : decode jdk_52_method_2_code 6 = .ok (.areturn, 1) := by decide +kernel
theorem ef_own_nf1 (m : MethodId)  : entryFrame m #[(.int 1)] 1 = mkF m 0 #[.val (.int 1)] [] := by first | (simp [entryFrame, mkF, argsToLocals, Value.category]; done) | rfl
def Q_own_nf1 (Z : State)  (h0 : Heap) (n0 : Nat) (v : Option Value) (h : Heap) (L : List Loc) : Prop := ∃ (b : Addr) (k : ClassId), v = some (.ref b) ∧ Fr n0 L ∧ Keep h0 h [] ∧ h0.size ≤ b ∧ Arv Z h b k .byte (2 : Int32) [(.int 0), (.int 0)] (.int 0)
set_option maxRecDepth 65536 in
set_option maxHeartbeats 40000000 in
theorem own_nf1 (l : Launch) (Z : State) (a0 : Array Value) (hw : ∀ d ∈ tables_1, d.before a0 Z = true) (ws : List Jvm.Cond)  (h0 : Heap) (n0 : Nat) (Z0 : n0 ≤ h0.size)  :
    MetFree l (⟨"java/lang/StringUTF16", "newBytesFor", "(I)[B"⟩ : MethodName) (head1 (Jvm.Cond.code (⟨"java/lang/StringUTF16", "newBytesFor", "(I)[B"⟩ : MethodName) jdk_52_method_2_code 1 (some (.array .byte)) :: ws) ({ frames := 1, cells := 1, slots := 2, locals := 12 } : Room)) (fun a U => a = #[(.int 1)] ∧ Z.Warmed39 U.vm ∧ U.heap = h0) (fun _ _ _ _ _ => True) (fun _ U o U' => ∃ v L, o = .returned v ∧ Q_own_nf1 Z  h0 n0 v U'.heap L ∧ FrameEnd U o U' L ({ frames := 1, cells := 1, slots := 2, locals := 12 } : Room).cells ({ frames := 1, cells := 1, slots := 2, locals := 12 } : Room).slots) := by
  refine MetFree.of_bodySF (plainFor_of_name pn_java_lang_StringUTF16) hisR ?_
  intro p e s m args below meth c s₁ Bd hml0 hP hK
  obtain ⟨rfl, hZ, hh⟩ := hP
  have hx := Bd.exec
  have hby := Bd.bytes
  have hml : c.maxLocals = 1 := hml0
  have hown : s.vm.findClass "java/lang/StringUTF16" = some m.cls := findClass_of_methodNamed Bd.named
  have hnm := (name_of_methodNamed Bd.named Bd.method).1
  have X0 : Stand p l e ({ frames := 1, cells := 1, slots := 2, locals := 12 } : Room) s m #[(.int 1)] below meth c s₁ [] 0 0 := Stand.of_body Bd
  have e0 : s₁.heap = h0 := by rw [← hh, Bd.state]; rfl
  have N0 := Fr.nil n0
  have pre0 : ∀ t, Steps p.tables e below (s₁.setTop (mkF m 0 #[.val (.int 1)] [])) t → Steps p.tables e below (s₁.setTop (entryFrame m #[(.int 1)] 1)) t := fun t k => castTop (ef_own_nf1 m) k
  obtain ⟨_, _, ⟨T1, L1, k1, n1⟩, -, X1, ⟨Lc1, hQ1, l1, y1, z1⟩, st1⟩ := Jvm.LawKit.callS X0 hx (y := (⟨"java/lang/StringUTF16", "newBytesLength", "(I)I"⟩ : MethodName)) hown (mvT hZ (gw hw 86 rfl)) (mvT hZ (gw hw 87 rfl)) (mvT hZ (gw hw 46 rfl)) (mvT hZ (gw hw 88 rfl)) (by decide) (backOf (W := 0) (own_nl1 l Z a0 hw [] h0 n0 Z0) hZ (gw hw 88 rfl) (gw hw 46 rfl) (by decide) (by decide)) (g := (mkF m 1 #[.val (.int 1)] [(.int 1)])) rfl (by rw [hml]; rfl) (argsL := [(.int 1)]) (rest := []) (lenOf pd__I_I rfl) rfl (by show 2 * 0 + _ ≤ _; exact Nat.le_of_eq rfl) (hb hby D16_1) (fun _ _ => ⟨rfl, e0, (by decide : 0 + 0 ≤ _), (by decide : 0 + 0 ≤ _)⟩)
  dsimp only [Pt.U, Pt.locs, Pt.cells, Pt.slots] at X1 l1 y1 z1 st1 hQ1
  subst l1 y1 z1
  obtain ⟨rfl, N1q, e1q⟩ := hQ1
  have N1 := Fr.app N0 N1q
  have pre2 : ∀ t, Steps p.tables e below (T1.setTop (mkF m 4 #[.val (.int 1)] [(.int 2)])) t → Steps p.tables e below (s₁.setTop (entryFrame m #[(.int 1)] 1)) t := by
    intro t kk
    refine pre0 t ?_
    refine XS.iloadN X0.here hx rfl (hb hby D16_0) rfl ?_
    exact st1 _ kk
  obtain ⟨fb3, g3⟩ : ∃ z, z = h0.size := ⟨_, rfl⟩
  have lo_fb3 : n0 ≤ fb3 := Nat.le_trans Z0 (Nat.le_of_eq g3.symm)
  have hi_fb3 : h0.size ≤ fb3 := Nat.le_trans (Keep.refl h0 []).1 (Nat.le_of_eq g3.symm)
  obtain ⟨T3, h3, k3, X3, e3, E3, A3, st3⟩ := newP X1 hx hZ (gw hw 17 rfl) e1q (g := (mkF m 4 #[.val (.int 1)] [(.int 2)])) rfl (hb hby D16_4) rfl (by decide) (cap := 2) (by decide) (by decide) (by decide) (by decide)
  rw [← g3] at A3 st3
  have V3 : Arv Z h3 fb3 k3 .byte (2 : Int32) [(.int 0), (.int 0)] (.int 0) := (Arv.new A3 (by decide)).pad (pad_rep [] (.int 0) 2)
  have pre4 : ∀ t, Steps p.tables e below (T3.setTop (mkF m 6 #[.val (.int 1)] [(.ref fb3)])) t → Steps p.tables e below (s₁.setTop (entryFrame m #[(.int 1)] 1)) t := by
    intro t kk
    refine pre2 t ?_
    exact st3 _ kk
  have fc5 := ((Keep.refl h0 []).ext E3)
  obtain ⟨fs, hr, hrun, hended, hW, hsame⟩ := X3.leave (v := some (.ref fb3)) (fun h => by rw [Bd.returns] at h; cases h)
  refine ⟨_, _, pre4 _ ?_, hrun, hended, _, _, rfl, ?_, ⟨_, rfl⟩, hW, hsame.mono (by decide) (by decide)⟩
  · jvm_step X3.here [X3.here.top, hx, (hb hby D16_6), X3.method', Bd.returns, Value.isRef, FieldType.isReference]
    first | (intro acts; rw [hr _ acts rfl rfl rfl]) | rw [hr _ _ rfl rfl rfl]
    exact Steps.refl _
  · show Q_own_nf1 Z  h0 n0 _ T3.heap _
    rw [e3]
    exact ⟨fb3, k3, rfl, N1, fc5, hi_fb3, V3⟩
theorem D17_0 : decode jdk_52_method_14_code 0 = .ok (.iload_n 2, 1) := by decide +kernel
theorem pd__I__B : parseMethodDescriptor "(I)[B" = some ⟨[.int], some (.array .byte)⟩ := by decide +kernel
theorem D17_1 : decode jdk_52_method_14_code 1 = .ok (.invokestatic 107, 3) := by decide +kernel
theorem D17_4 : decode jdk_52_method_14_code 4 = .ok (.astore_n 3, 1) := by decide +kernel
theorem D17_5 : decode jdk_52_method_14_code 5 = .ok (.iconst 0, 1) := by decide +kernel
theorem D17_6 : decode jdk_52_method_14_code 6 = .ok (.istore 4, 2) := by decide +kernel
theorem D17_8 : decode jdk_52_method_14_code 8 = .ok (.iload 4, 2) := by decide +kernel
theorem D17_10 : decode jdk_52_method_14_code 10 = .ok (.iload_n 2, 1) := by decide +kernel
theorem D17_11 : decode jdk_52_method_14_code 11 = .ok (.if_icmp .ge 21, 3) := by decide +kernel
theorem D17_14 : decode jdk_52_method_14_code 14 = .ok (.aload_n 3, 1) := by decide +kernel
theorem D17_15 : decode jdk_52_method_14_code 15 = .ok (.iload 4, 2) := by decide +kernel
theorem D17_17 : decode jdk_52_method_14_code 17 = .ok (.aload_n 0, 1) := by decide +kernel
theorem D17_18 : decode jdk_52_method_14_code 18 = .ok (.iload_n 1, 1) := by decide +kernel
theorem D17_19 : decode jdk_52_method_14_code 19 = .ok (.caload, 1) := by decide +kernel
theorem pd___BII_V : parseMethodDescriptor "([BII)V" = some ⟨[(.array .byte), .int, .int], none⟩ := by decide +kernel
theorem D17_20 : decode jdk_52_method_14_code 20 = .ok (.invokestatic 111, 3) := by decide +kernel
theorem D17_23 : decode jdk_52_method_14_code 23 = .ok (.iinc 1 1, 3) := by decide +kernel
theorem D17_26 : decode jdk_52_method_14_code 26 = .ok (.iinc 4 1, 3) := by decide +kernel
theorem D17_29 : decode jdk_52_method_14_code 29 = .ok (.goto (-21), 3) := by decide +kernel
theorem D17_32 : decode jdk_52_method_14_code 32 = .ok (.aload_n 3, 1) := by decide +kernel
theorem D17_33 : decode jdk_52_method_14_code 33 = .ok (.areturn, 1) := by decide +kernel
theorem ef_own_tb1 (m : MethodId) {ca : Addr} : entryFrame m #[(.ref ca), (.int 0), (.int 1)] 5 = mkF m 0 #[.val (.ref ca), .val (.int 0), .val (.int 1), .unset, .unset] [] := by first | (simp [entryFrame, mkF, argsToLocals, Value.category]; done) | rfl
def Q_own_tb1 (Z : State) (ca : Addr) (kC : ClassId) (d0 : Int32) (h0 : Heap) (n0 : Nat) (v : Option Value) (h : Heap) (L : List Loc) : Prop := ∃ (b : Addr) (k : ClassId), v = some (.ref b) ∧ Fr n0 L ∧ Keep h0 h [] ∧ h0.size ≤ b ∧ Arv Z h b k .byte (2 : Int32) [(.int (StrChars.lo8 d0)), (.int (StrChars.hi8 d0))] (.int 0)
set_option maxRecDepth 65536 in
set_option maxHeartbeats 40000000 in
theorem own_tb1 (l : Launch) (Z : State) (a0 : Array Value) (hw : ∀ d ∈ tables_1, d.before a0 Z = true) (ws : List Jvm.Cond) (ca : Addr) (kC : ClassId) (d0 : Int32) (h0 : Heap) (n0 : Nat) (Z0 : n0 ≤ h0.size) (KC : Arv Z h0 ca kC .char (1 : Int32) [(.int d0)] (.int 0)) (AD : Sta Z Z.heap "java/lang/StringUTF16" "$assertionsDisabled" "Z" (.int 1)) (HB : Sta Z Z.heap "java/lang/StringUTF16" "HI_BYTE_SHIFT" "I" (.int 0)) (LB : Sta Z Z.heap "java/lang/StringUTF16" "LO_BYTE_SHIFT" "I" (.int 8)) (XO : Old Z n0 h0) :
    MetFree l (⟨"java/lang/StringUTF16", "toBytes", "([CII)[B"⟩ : MethodName) (head1 (Jvm.Cond.code (⟨"java/lang/StringUTF16", "toBytes", "([CII)[B"⟩ : MethodName) jdk_52_method_14_code 5 (some (.array .byte)) :: ws) ({ frames := 2, cells := 1, slots := 2, locals := 24 } : Room)) (fun a U => a = #[(.ref ca), (.int 0), (.int 1)] ∧ Z.Warmed39 U.vm ∧ U.heap = h0) (fun _ _ _ _ _ => True) (fun _ U o U' => ∃ v L, o = .returned v ∧ Q_own_tb1 Z ca kC d0 h0 n0 v U'.heap L ∧ FrameEnd U o U' L ({ frames := 2, cells := 1, slots := 2, locals := 24 } : Room).cells ({ frames := 2, cells := 1, slots := 2, locals := 24 } : Room).slots) := by
  refine MetFree.of_bodySF (plainFor_of_name pn_java_lang_StringUTF16) hisR ?_
  intro p e s m args below meth c s₁ Bd hml0 hP hK
  obtain ⟨rfl, hZ, hh⟩ := hP
  have hx := Bd.exec
  have hby := Bd.bytes
  have hml : c.maxLocals = 5 := hml0
  have hown : s.vm.findClass "java/lang/StringUTF16" = some m.cls := findClass_of_methodNamed Bd.named
  have hnm := (name_of_methodNamed Bd.named Bd.method).1
  have X0 : Stand p l e ({ frames := 2, cells := 1, slots := 2, locals := 24 } : Room) s m #[(.ref ca), (.int 0), (.int 1)] below meth c s₁ [] 0 0 := Stand.of_body Bd
  have e0 : s₁.heap = h0 := by rw [← hh, Bd.state]; rfl
  have N0 := Fr.nil n0
  have pre0 : ∀ t, Steps p.tables e below (s₁.setTop (mkF m 0 #[.val (.ref ca), .val (.int 0), .val (.int 1), .unset, .unset] [])) t → Steps p.tables e below (s₁.setTop (entryFrame m #[(.ref ca), (.int 0), (.int 1)] 5)) t := fun t k => castTop (ef_own_tb1 m) k
  obtain ⟨_, _, ⟨T1, L1, k1, n1⟩, -, X1, ⟨Lc1, hQ1, l1, y1, z1⟩, st1⟩ := Jvm.LawKit.callS X0 hx (y := (⟨"java/lang/StringUTF16", "newBytesFor", "(I)[B"⟩ : MethodName)) hown (mvT hZ (gw hw 83 rfl)) (mvT hZ (gw hw 84 rfl)) (mvT hZ (gw hw 46 rfl)) (mvT hZ (gw hw 85 rfl)) (by decide) (backOf (W := 0) (own_nf1 l Z a0 hw [] h0 n0 Z0) hZ (gw hw 85 rfl) (gw hw 46 rfl) (by decide) (by decide)) (g := (mkF m 1 #[.val (.ref ca), .val (.int 0), .val (.int 1), .unset, .unset] [(.int 1)])) rfl (by rw [hml]; rfl) (argsL := [(.int 1)]) (rest := []) (lenOf pd__I__B rfl) rfl (by show 2 * 0 + _ ≤ _; exact Nat.le_of_eq rfl) (hb hby D17_1) (fun _ _ => ⟨rfl, e0, (by decide : 0 + 1 ≤ _), (by decide : 0 + 2 ≤ _)⟩)
  dsimp only [Pt.U, Pt.locs, Pt.cells, Pt.slots] at X1 l1 y1 z1 st1 hQ1
  subst l1 y1 z1
  obtain ⟨fb, kf, rfl, N1q, K1, gf, Vf⟩ := hQ1
  have N1 := Fr.app N0 N1q
  have pre2 : ∀ t, Steps p.tables e below (T1.setTop (mkF m 4 #[.val (.ref ca), .val (.int 0), .val (.int 1), .unset, .unset] [(.ref fb)])) t → Steps p.tables e below (s₁.setTop (entryFrame m #[(.ref ca), (.int 0), (.int 1)] 5)) t := by
    intro t kk
    refine pre0 t ?_
    refine XS.iloadN X0.here hx rfl (hb hby D17_0) rfl ?_
    exact st1 _ kk
  have lo_fb : n0 ≤ fb := Nat.le_trans Z0 gf
  have hi_fb : h0.size ≤ fb := Nat.le_trans (Keep.refl h0 []).1 gf
  have ne_ca_fb : ca ≠ fb := Nat.ne_of_lt (Nat.lt_of_lt_of_le KC.lt gf)
  have hbr3 : (0 : Int32) < (1 : Int32) := by decide
  have fc5 := (KC.keep K1 nin0)
  obtain ⟨cl4, Ar4, q4, S4, M4, H4, Gv4⟩ := id fc5
  have hin6 : ¬ ((0 : Int32) < 0 ∨ cl4.slots.size ≤ ((0 : Int32)).toNatClampNeg) := inb_of S4 ⟨by decide, by decide⟩
  have hat6 : cl4.slots[((0 : Int32)).toNatClampNeg]? = some (.int d0) := Has.at H4 (inb_of S4 ⟨by decide, by decide⟩) rfl
  have fc7 := (XO.keep K1 all0)
  have fc9 := (Nat.le_trans Z0 K1.1)
  obtain ⟨_, _, ⟨T8, L8, k8, n8⟩, -, X8, ⟨Lc8, hQ8, l8, y8, z8⟩, st8⟩ := Jvm.LawKit.callS X1 hx (y := (⟨"java/lang/StringUTF16", "putChar", "([BII)V"⟩ : MethodName)) hown (mvT hZ (gw hw 90 rfl)) (mvT hZ (gw hw 91 rfl)) (mvT hZ (gw hw 46 rfl)) (mvT hZ (gw hw 92 rfl)) (by decide) (backOf (W := 0) (own_pt l Z a0 hw [] fb kf d0 0 2 _ T1.heap n0 fc9 Vf rfl (by decide) (by decide) lo_fb AD HB LB fc7) hZ (gw hw 92 rfl) (gw hw 46 rfl) (by decide) (by decide)) (g := (mkF m 20 #[.val (.ref ca), .val (.int 0), .val (.int 1), .val (.ref fb), .val (.int 0)] [(.int d0), (.int 0), (.ref fb)])) rfl (by rw [hml]; rfl) (argsL := [(.ref fb), (.int 0), (.int d0)]) (rest := []) (lenOf pd___BII_V rfl) rfl (by show 2 * 0 + _ ≤ _; exact Nat.le_of_eq rfl) (hb hby D17_20) (fun _ _ => ⟨rfl, rfl, (by decide : 1 + 0 ≤ _), (by decide : 2 + 0 ≤ _)⟩)
  dsimp only [Pt.U, Pt.locs, Pt.cells, Pt.slots] at X8 l8 y8 z8 st8 hQ8
  subst l8 y8 z8
  obtain ⟨rfl, N8q, K8, Vp8⟩ := hQ8
  have N8 := Fr.app N1 N8q
  have pre10 : ∀ t, Steps p.tables e below (T8.setTop (mkF m 23 #[.val (.ref ca), .val (.int 0), .val (.int 1), .val (.ref fb), .val (.int 0)] [])) t → Steps p.tables e below (s₁.setTop (entryFrame m #[(.ref ca), (.int 0), (.int 1)] 5)) t := by
    intro t kk
    refine pre2 t ?_
    refine XS.astoreN X1.here hx rfl (hb hby D17_4) rfl rfl (l' := #[.val (.ref ca), .val (.int 0), .val (.int 1), .val (.ref fb), .unset]) rfl ?_
    refine XS.iconst X1.here hx rfl (hb hby D17_5) ?_
    refine XS.istore X1.here hx rfl (hb hby D17_6) rfl (l' := #[.val (.ref ca), .val (.int 0), .val (.int 1), .val (.ref fb), .val (.int 0)]) rfl ?_
    refine XS.iload X1.here hx rfl (hb hby D17_8) rfl ?_
    refine XS.iloadN X1.here hx rfl (hb hby D17_10) rfl ?_
    refine XS.icmpNo X1.here hx rfl (hb hby D17_11) rfl (tlt hbr3).2.1 ?_
    refine XS.aloadN X1.here hx rfl (hb hby D17_14) rfl rfl ?_
    refine XS.iload X1.here hx rfl (hb hby D17_15) rfl ?_
    show Steps p.tables e below (T1.setTop (mkF m 17 #[.val (.ref ca), .val (.int 0), .val (.int 1), .val (.ref fb), .val (.int 0)] [(.int 0), (.ref fb)])) _
    refine XS.aloadN X1.here hx rfl (hb hby D17_17) rfl rfl ?_
    refine XS.iloadN X1.here hx rfl (hb hby D17_18) rfl ?_
    refine X1.caload hx (j := (0 : Int32)) (v := (.int d0)) (by exact Ar4.1) (State.isArrayOf_alike hZ.alike Ar4.2.1) Ar4.2.2 hin6 hat6 (g := (mkF m 19 #[.val (.ref ca), .val (.int 0), .val (.int 1), .val (.ref fb), .val (.int 0)] [(.int 0), (.ref ca), (.int 0), (.ref fb)])) rfl rfl (hb hby D17_19) _ ?_
    exact st8 _ kk
  have hbr11 : ¬ ((1 : Int32) < (1 : Int32)) := by decide
  have fc12 := (((Keep.refl h0 []).trans K1 all0).trans K8 (allS (Or.inr hi_fb) all0))
  obtain ⟨fs, hr, hrun, hended, hW, hsame⟩ := X8.leave (v := some (.ref fb)) (fun h => by rw [Bd.returns] at h; cases h)
  refine ⟨_, _, pre10 _ ?_, hrun, hended, _, _, rfl, ?_, ⟨_, rfl⟩, hW, hsame.mono (by decide) (by decide)⟩
  · refine XS.iinc X8.here hx rfl (hb hby D17_23) rfl (l' := #[.val (.ref ca), .val (.int 1), .val (.int 1), .val (.ref fb), .val (.int 0)]) rfl ?_
    refine XS.iinc X8.here hx rfl (hb hby D17_26) rfl (l' := #[.val (.ref ca), .val (.int 1), .val (.int 1), .val (.ref fb), .val (.int 1)]) rfl ?_
    refine XS.goto X8.here hx rfl (pc0 := 29) (pc' := 8) rfl (hb hby D17_29) (by decide) (by decide) ?_
    refine XS.iload X8.here hx rfl (hb hby D17_8) rfl ?_
    refine XS.iloadN X8.here hx rfl (hb hby D17_10) rfl ?_
    refine XS.icmpYes X8.here hx rfl (pc0 := 11) (pc' := 32) rfl (hb hby D17_11) rfl (flt hbr11).2.1 (by decide) (by decide) ?_
    refine XS.aloadN X8.here hx rfl (hb hby D17_32) rfl rfl ?_
    jvm_step X8.here [X8.here.top, hx, (hb hby D17_33), X8.method', Bd.returns, Value.isRef, FieldType.isReference]
    first | (intro acts; rw [hr _ acts rfl rfl rfl]) | rw [hr _ _ rfl rfl rfl]
    exact Steps.refl _
  · show Q_own_tb1 Z ca kC d0 h0 n0 _ T8.heap _
    exact ⟨fb, kf, rfl, N8, fc12, hi_fb, Vp8⟩
theorem D18_0 : decode jdk_52_method_21_code 0 = .ok (.iconst 0, 1) := by decide +kernel
theorem D18_1 : decode jdk_52_method_21_code 1 = .ok (.istore 5, 2) := by decide +kernel
theorem D18_3 : decode jdk_52_method_21_code 3 = .ok (.iload 5, 2) := by decide +kernel
theorem D18_5 : decode jdk_52_method_21_code 5 = .ok (.iload 4, 2) := by decide +kernel
theorem D18_7 : decode jdk_52_method_21_code 7 = .ok (.if_icmp .ge 37, 3) := by decide +kernel
theorem D18_10 : decode jdk_52_method_21_code 10 = .ok (.aload_n 0, 1) := by decide +kernel
theorem D18_11 : decode jdk_52_method_21_code 11 = .ok (.iload_n 1, 1) := by decide +kernel
theorem D18_12 : decode jdk_52_method_21_code 12 = .ok (.caload, 1) := by decide +kernel
theorem D18_13 : decode jdk_52_method_21_code 13 = .ok (.istore 6, 2) := by decide +kernel
theorem D18_15 : decode jdk_52_method_21_code 15 = .ok (.iload 6, 2) := by decide +kernel
theorem D18_17 : decode jdk_52_method_21_code 17 = .ok (.sipush 255, 3) := by decide +kernel
theorem D18_20 : decode jdk_52_method_21_code 20 = .ok (.if_icmp .le 6, 3) := by decide +kernel
theorem D18_23 : decode jdk_52_method_21_code 23 = .ok (.iload 5, 2) := by decide +kernel
theorem D18_25 : decode jdk_52_method_21_code 25 = .ok (.ireturn, 1) := by decide +kernel
theorem D18_26 : decode jdk_52_method_21_code 26 = .ok (.aload_n 2, 1) := by decide +kernel
theorem D18_27 : decode jdk_52_method_21_code 27 = .ok (.iload_n 3, 1) := by decide +kernel
theorem D18_28 : decode jdk_52_method_21_code 28 = .ok (.iload 6, 2) := by decide +kernel
theorem D18_30 : decode jdk_52_method_21_code 30 = .ok (.i2b, 1) := by decide +kernel
theorem ef_own_c51 (m : MethodId) {ca : Addr} {sb : Addr} : entryFrame m #[(.ref ca), (.int 0), (.ref sb), (.int 0), (.int 1)] 7 = mkF m 0 #[.val (.ref ca), .val (.int 0), .val (.ref sb), .val (.int 0), .val (.int 1), .unset, .unset] [] := by first | (simp [entryFrame, mkF, argsToLocals, Value.category]; done) | rfl
def Q_own_c51 (Z : State) (ca sb : Addr) (kC kS : ClassId) (d0 : Int32) (h0 : Heap) (n0 : Nat) (v : Option Value) (h : Heap) (L : List Loc) : Prop := ∃ r : Int32, v = some (.int r) ∧ Fr n0 L ∧ Keep h0 h [sb] ∧ ((r = (0 : Int32) ∧ (255 : Int32) < d0))
set_option maxRecDepth 65536 in
set_option maxHeartbeats 40000000 in
theorem own_c51 (l : Launch) (Z : State) (a0 : Array Value) (hw : ∀ d ∈ tables_1, d.before a0 Z = true) (ws : List Jvm.Cond) (ca sb : Addr) (kC kS : ClassId) (d0 : Int32) (h0 : Heap) (n0 : Nat) (Z0 : n0 ≤ h0.size) (KC : Arv Z h0 ca kC .char (1 : Int32) [(.int d0)] (.int 0)) (KS : Arv Z h0 sb kS .byte (1 : Int32) [(.int 0)] (.int 0)) (gs : n0 ≤ sb) (hne : ca ≠ sb) (hwd : (255 : Int32) < d0) :
    MetFree l (⟨"java/lang/StringUTF16", "compress", "([CI[BII)I"⟩ : MethodName) (head1 (Jvm.Cond.code (⟨"java/lang/StringUTF16", "compress", "([CI[BII)I"⟩ : MethodName) jdk_52_method_21_code 7 (some .int) :: ws) ({ frames := 0, cells := 0, slots := 0, locals := 0 } : Room)) (fun a U => a = #[(.ref ca), (.int 0), (.ref sb), (.int 0), (.int 1)] ∧ Z.Warmed39 U.vm ∧ U.heap = h0) (fun _ _ _ _ _ => True) (fun _ U o U' => ∃ v L, o = .returned v ∧ Q_own_c51 Z ca sb kC kS d0 h0 n0 v U'.heap L ∧ FrameEnd U o U' L ({ frames := 0, cells := 0, slots := 0, locals := 0 } : Room).cells ({ frames := 0, cells := 0, slots := 0, locals := 0 } : Room).slots) := by
  refine MetFree.of_bodySF (plainFor_of_name pn_java_lang_StringUTF16) hisR ?_
  intro p e s m args below meth c s₁ Bd hml0 hP hK
  obtain ⟨rfl, hZ, hh⟩ := hP
  have hx := Bd.exec
  have hby := Bd.bytes
  have hml : c.maxLocals = 7 := hml0
  have hown : s.vm.findClass "java/lang/StringUTF16" = some m.cls := findClass_of_methodNamed Bd.named
  have hnm := (name_of_methodNamed Bd.named Bd.method).1
  have X0 : Stand p l e ({ frames := 0, cells := 0, slots := 0, locals := 0 } : Room) s m #[(.ref ca), (.int 0), (.ref sb), (.int 0), (.int 1)] below meth c s₁ [] 0 0 := Stand.of_body Bd
  have e0 : s₁.heap = h0 := by rw [← hh, Bd.state]; rfl
  have N0 := Fr.nil n0
  have pre0 : ∀ t, Steps p.tables e below (s₁.setTop (mkF m 0 #[.val (.ref ca), .val (.int 0), .val (.ref sb), .val (.int 0), .val (.int 1), .unset, .unset] [])) t → Steps p.tables e below (s₁.setTop (entryFrame m #[(.ref ca), (.int 0), (.ref sb), (.int 0), (.int 1)] 7)) t := fun t k => castTop (ef_own_c51 m) k
  have hbr1 : (0 : Int32) < (1 : Int32) := by decide
  obtain ⟨cl2, Ar2, q2, S2, M2, H2, Gv2⟩ := id KC
  have hin3 : ¬ ((0 : Int32) < 0 ∨ cl2.slots.size ≤ ((0 : Int32)).toNatClampNeg) := inb_of S2 ⟨by decide, by decide⟩
  have hat3 : cl2.slots[((0 : Int32)).toNatClampNeg]? = some (.int d0) := Has.at H2 (inb_of S2 ⟨by decide, by decide⟩) rfl
  by_cases hs0 : (255 : Int32) < d0
  case pos =>
    obtain ⟨fs, hr, hrun, hended, hW, hsame⟩ := X0.leave (v := some (.int 0)) (fun h => by rw [Bd.returns] at h; cases h)
    refine ⟨_, _, pre0 _ ?_, hrun, hended, _, _, rfl, ?_, ⟨_, rfl⟩, hW, hsame.mono (by decide) (by decide)⟩
    · refine XS.iconst X0.here hx rfl (hb hby D18_0) ?_
      refine XS.istore X0.here hx rfl (hb hby D18_1) rfl (l' := #[.val (.ref ca), .val (.int 0), .val (.ref sb), .val (.int 0), .val (.int 1), .val (.int 0), .unset]) rfl ?_
      refine XS.iload X0.here hx rfl (hb hby D18_3) rfl ?_
      refine XS.iload X0.here hx rfl (hb hby D18_5) rfl ?_
      refine XS.icmpNo X0.here hx rfl (hb hby D18_7) rfl (tlt hbr1).2.1 ?_
      refine XS.aloadN X0.here hx rfl (hb hby D18_10) rfl rfl ?_
      refine XS.iloadN X0.here hx rfl (hb hby D18_11) rfl ?_
      refine X0.caload hx (j := (0 : Int32)) (v := (.int d0)) (by rw [e0]; exact Ar2.1) (State.isArrayOf_alike hZ.alike Ar2.2.1) Ar2.2.2 hin3 hat3 (g := (mkF m 12 #[.val (.ref ca), .val (.int 0), .val (.ref sb), .val (.int 0), .val (.int 1), .val (.int 0), .unset] [(.int 0), (.ref ca)])) rfl rfl (hb hby D18_12) _ ?_
      show Steps p.tables e below (s₁.setTop (mkF m 13 #[.val (.ref ca), .val (.int 0), .val (.ref sb), .val (.int 0), .val (.int 1), .val (.int 0), .unset] [(.int d0)])) _
      refine XS.istore X0.here hx rfl (hb hby D18_13) rfl (l' := #[.val (.ref ca), .val (.int 0), .val (.ref sb), .val (.int 0), .val (.int 1), .val (.int 0), .val (.int d0)]) rfl ?_
      refine XS.iload X0.here hx rfl (hb hby D18_15) rfl ?_
      refine XS.sipush X0.here hx rfl (hb hby D18_17) ?_
      refine XS.icmpNo X0.here hx rfl (hb hby D18_20) rfl (tlt hs0).2.2.2 ?_
      refine XS.iload X0.here hx rfl (hb hby D18_23) rfl ?_
      exact retI X0 hx Bd.returns (hb hby D18_25) hr
    · show Q_own_c51 Z ca sb kC kS d0 h0 n0 _ s₁.heap _
      rw [e0]
      exact ⟨(0 : Int32), rfl, N0, (Keep.refl h0 [sb]), ⟨rfl, hs0⟩⟩
  case neg =>
    exact absurd hwd hs0
theorem D19_0 : decode jdk_52_method_16_code 0 = .ok (.iload_n 2, 1) := by decide +kernel
theorem D19_1 : decode jdk_52_method_16_code 1 = .ok (.newarray .byte, 2) := by decide +kernel
theorem D19_3 : decode jdk_52_method_16_code 3 = .ok (.astore_n 3, 1) := by decide +kernel
theorem D19_4 : decode jdk_52_method_16_code 4 = .ok (.aload_n 0, 1) := by decide +kernel
theorem D19_5 : decode jdk_52_method_16_code 5 = .ok (.iload_n 1, 1) := by decide +kernel
theorem D19_6 : decode jdk_52_method_16_code 6 = .ok (.aload_n 3, 1) := by decide +kernel
theorem D19_7 : decode jdk_52_method_16_code 7 = .ok (.iconst 0, 1) := by decide +kernel
theorem D19_8 : decode jdk_52_method_16_code 8 = .ok (.iload_n 2, 1) := by decide +kernel
theorem pd___CI_BII_I : parseMethodDescriptor "([CI[BII)I" = some ⟨[(.array .char), .int, (.array .byte), .int, .int], some .int⟩ := by decide +kernel
theorem D19_9 : decode jdk_52_method_16_code 9 = .ok (.invokestatic 115, 3) := by decide +kernel
theorem D19_12 : decode jdk_52_method_16_code 12 = .ok (.istore 4, 2) := by decide +kernel
theorem D19_14 : decode jdk_52_method_16_code 14 = .ok (.iload 4, 2) := by decide +kernel
theorem D19_16 : decode jdk_52_method_16_code 16 = .ok (.iload_n 2, 1) := by decide +kernel
theorem D19_17 : decode jdk_52_method_16_code 17 = .ok (.if_icmp .eq 40, 3) := by decide +kernel
theorem D19_20 : decode jdk_52_method_16_code 20 = .ok (.aload_n 0, 1) := by decide +kernel
theorem D19_21 : decode jdk_52_method_16_code 21 = .ok (.iload_n 1, 1) := by decide +kernel
theorem D19_22 : decode jdk_52_method_16_code 22 = .ok (.iload_n 2, 1) := by decide +kernel
theorem pd___CII__B : parseMethodDescriptor "([CII)[B" = some ⟨[(.array .char), .int, .int], some (.array .byte)⟩ := by decide +kernel
theorem D19_23 : decode jdk_52_method_16_code 23 = .ok (.invokestatic 119, 3) := by decide +kernel
theorem D19_26 : decode jdk_52_method_16_code 26 = .ok (.astore 5, 2) := by decide +kernel
theorem D19_28 : decode jdk_52_method_16_code 28 = .ok (.aload 5, 2) := by decide +kernel
theorem D19_30 : decode jdk_52_method_16_code 30 = .ok (.iload 4, 2) := by decide +kernel
theorem D19_32 : decode jdk_52_method_16_code 32 = .ok (.invokestatic 71, 3) := by decide +kernel
theorem D19_35 : decode jdk_52_method_16_code 35 = .ok (.sipush 255, 3) := by decide +kernel
theorem D19_38 : decode jdk_52_method_16_code 38 = .ok (.if_icmp .gt 16, 3) := by decide +kernel
theorem D19_54 : decode jdk_52_method_16_code 54 = .ok (.aload 5, 2) := by decide +kernel
theorem D19_56 : decode jdk_52_method_16_code 56 = .ok (.areturn, 1) := by decide +kernel
theorem ef_own_c31 (m : MethodId) {ca : Addr} : entryFrame m #[(.ref ca), (.int 0), (.int 1)] 6 = mkF m 0 #[.val (.ref ca), .val (.int 0), .val (.int 1), .unset, .unset, .unset] [] := by first | (simp [entryFrame, mkF, argsToLocals, Value.category]; done) | rfl
def Q_own_c31 (Z : State) (ca : Addr) (kC : ClassId) (d0 : Int32) (h0 : Heap) (n0 : Nat) (v : Option Value) (h : Heap) (L : List Loc) : Prop := ∃ (b : Addr) (k : ClassId), v = some (.ref b) ∧ Fr n0 L ∧ Keep h0 h [] ∧ h0.size ≤ b ∧ Arv Z h b k .byte (2 : Int32) [(.int (StrChars.lo8 d0)), (.int (StrChars.hi8 d0))] (.int 0)
set_option maxRecDepth 65536 in
set_option maxHeartbeats 40000000 in
theorem own_c31 (l : Launch) (Z : State) (a0 : Array Value) (hw : ∀ d ∈ tables_1, d.before a0 Z = true) (ws : List Jvm.Cond) (ca : Addr) (kC : ClassId) (d0 : Int32) (h0 : Heap) (n0 : Nat) (Z0 : n0 ≤ h0.size) (KC : Arv Z h0 ca kC .char (1 : Int32) [(.int d0)] (.int 0)) (hd0 : ¬ d0 < 0 ∧ ¬ (65535 : Int32) < d0) (hwd : (255 : Int32) < d0) (AD : Sta Z Z.heap "java/lang/StringUTF16" "$assertionsDisabled" "Z" (.int 1)) (HB : Sta Z Z.heap "java/lang/StringUTF16" "HI_BYTE_SHIFT" "I" (.int 0)) (LB : Sta Z Z.heap "java/lang/StringUTF16" "LO_BYTE_SHIFT" "I" (.int 8)) (XO : Old Z n0 h0) :
    MetFree l (⟨"java/lang/StringUTF16", "compress", "([CII)[B"⟩ : MethodName) (head1 (Jvm.Cond.code (⟨"java/lang/StringUTF16", "compress", "([CII)[B"⟩ : MethodName) jdk_52_method_16_code 6 (some (.array .byte)) :: ws) ({ frames := 3, cells := 2, slots := 3, locals := 40 } : Room)) (fun a U => a = #[(.ref ca), (.int 0), (.int 1)] ∧ Z.Warmed39 U.vm ∧ U.heap = h0) (fun _ _ _ _ _ => True) (fun _ U o U' => ∃ v L, o = .returned v ∧ Q_own_c31 Z ca kC d0 h0 n0 v U'.heap L ∧ FrameEnd U o U' L ({ frames := 3, cells := 2, slots := 3, locals := 40 } : Room).cells ({ frames := 3, cells := 2, slots := 3, locals := 40 } : Room).slots) := by
  refine MetFree.of_bodySF (plainFor_of_name pn_java_lang_StringUTF16) hisR ?_
  intro p e s m args below meth c s₁ Bd hml0 hP hK
  obtain ⟨rfl, hZ, hh⟩ := hP
  have hx := Bd.exec
  have hby := Bd.bytes
  have hml : c.maxLocals = 6 := hml0
  have hown : s.vm.findClass "java/lang/StringUTF16" = some m.cls := findClass_of_methodNamed Bd.named
  have hnm := (name_of_methodNamed Bd.named Bd.method).1
  have X0 : Stand p l e ({ frames := 3, cells := 2, slots := 3, locals := 40 } : Room) s m #[(.ref ca), (.int 0), (.int 1)] below meth c s₁ [] 0 0 := Stand.of_body Bd
  have e0 : s₁.heap = h0 := by rw [← hh, Bd.state]; rfl
  have N0 := Fr.nil n0
  have pre0 : ∀ t, Steps p.tables e below (s₁.setTop (mkF m 0 #[.val (.ref ca), .val (.int 0), .val (.int 1), .unset, .unset, .unset] [])) t → Steps p.tables e below (s₁.setTop (entryFrame m #[(.ref ca), (.int 0), (.int 1)] 6)) t := fun t k => castTop (ef_own_c31 m) k
  obtain ⟨fb1, g1⟩ : ∃ z, z = h0.size := ⟨_, rfl⟩
  have ne_ca_fb1 : ca ≠ fb1 := Nat.ne_of_lt (Nat.lt_of_lt_of_le KC.lt (Nat.le_of_eq g1.symm))
  have lo_fb1 : n0 ≤ fb1 := Nat.le_trans Z0 (Nat.le_of_eq g1.symm)
  have hi_fb1 : h0.size ≤ fb1 := Nat.le_trans (Keep.refl h0 []).1 (Nat.le_of_eq g1.symm)
  obtain ⟨T1, h1, k1, X1, e1, E1, A1, st1⟩ := newP X0 hx hZ (gw hw 17 rfl) e0 (g := (mkF m 1 #[.val (.ref ca), .val (.int 0), .val (.int 1), .unset, .unset, .unset] [(.int 1)])) rfl (hb hby D19_1) rfl (by decide) (cap := 1) (by decide) (by decide) (by decide) (by decide)
  rw [← g1] at A1 st1
  have V1 : Arv Z h1 fb1 k1 .byte (1 : Int32) [(.int 0)] (.int 0) := (Arv.new A1 (by decide)).pad (pad_rep [] (.int 0) 1)
  have pre2 : ∀ t, Steps p.tables e below (T1.setTop (mkF m 3 #[.val (.ref ca), .val (.int 0), .val (.int 1), .unset, .unset, .unset] [(.ref fb1)])) t → Steps p.tables e below (s₁.setTop (entryFrame m #[(.ref ca), (.int 0), (.int 1)] 6)) t := by
    intro t kk
    refine pre0 t ?_
    refine XS.iloadN X0.here hx rfl (hb hby D19_0) rfl ?_
    exact st1 _ kk
  have fc3 := (KC.ext E1)
  have fc5 := (Nat.le_trans Z0 E1.1)
  obtain ⟨_, _, ⟨T4, L4, k4, n4⟩, -, X4, ⟨Lc4, hQ4, l4, y4, z4⟩, st4⟩ := Jvm.LawKit.callS X1 hx (y := (⟨"java/lang/StringUTF16", "compress", "([CI[BII)I"⟩ : MethodName)) hown (mvT hZ (gw hw 48 rfl)) (mvT hZ (gw hw 49 rfl)) (mvT hZ (gw hw 46 rfl)) (mvT hZ (gw hw 50 rfl)) (by decide) (backOf (W := 0) (own_c51 l Z a0 hw [] ca fb1 kC k1 d0 h1 n0 fc5 fc3 V1 lo_fb1 ne_ca_fb1 hwd) hZ (gw hw 50 rfl) (gw hw 46 rfl) (by decide) (by decide)) (g := (mkF m 9 #[.val (.ref ca), .val (.int 0), .val (.int 1), .val (.ref fb1), .unset, .unset] [(.int 1), (.int 0), (.ref fb1), (.int 0), (.ref ca)])) rfl (by rw [hml]; rfl) (argsL := [(.ref ca), (.int 0), (.ref fb1), (.int 0), (.int 1)]) (rest := []) (lenOf pd___CI_BII_I rfl) rfl (by show 2 * 0 + _ ≤ _; exact Nat.le_of_eq rfl) (hb hby D19_9) (fun _ _ => ⟨rfl, e1, (by decide : 1 + 0 ≤ _), (by decide : 1 + 0 ≤ _)⟩)
  dsimp only [Pt.U, Pt.locs, Pt.cells, Pt.slots] at X4 l4 y4 z4 st4 hQ4
  subst l4 y4 z4
  obtain ⟨jj, rfl, N4q, K4, hj⟩ := hQ4
  have N4 := Fr.app N0 N4q
  have pre6 : ∀ t, Steps p.tables e below (T4.setTop (mkF m 12 #[.val (.ref ca), .val (.int 0), .val (.int 1), .val (.ref fb1), .unset, .unset] [(.int jj)])) t → Steps p.tables e below (s₁.setTop (entryFrame m #[(.ref ca), (.int 0), (.int 1)] 6)) t := by
    intro t kk
    refine pre2 t ?_
    refine XS.astoreN X1.here hx rfl (hb hby D19_3) rfl rfl (l' := #[.val (.ref ca), .val (.int 0), .val (.int 1), .val (.ref fb1), .unset, .unset]) rfl ?_
    refine XS.aloadN X1.here hx rfl (hb hby D19_4) rfl rfl ?_
    refine XS.iloadN X1.here hx rfl (hb hby D19_5) rfl ?_
    refine XS.aloadN X1.here hx rfl (hb hby D19_6) rfl rfl ?_
    refine XS.iconst X1.here hx rfl (hb hby D19_7) ?_
    refine XS.iloadN X1.here hx rfl (hb hby D19_8) rfl ?_
    exact st4 _ kk
  have hjn : ¬ jj = (1 : Int32) := by
    obtain ⟨rfl, hj⟩ := hj
    decide
  have fc7 := (fc3.keep K4 (ninS ne_ca_fb1 nin0))
  have fc8 := ((XO.ext E1).keep K4 (allS lo_fb1 all0))
  have fc10 := (Nat.le_trans fc5 K4.1)
  obtain ⟨_, _, ⟨T9, L9, k9, n9⟩, -, X9, ⟨Lc9, hQ9, l9, y9, z9⟩, st9⟩ := Jvm.LawKit.callS X4 hx (y := (⟨"java/lang/StringUTF16", "toBytes", "([CII)[B"⟩ : MethodName)) hown (mvT hZ (gw hw 80 rfl)) (mvT hZ (gw hw 81 rfl)) (mvT hZ (gw hw 46 rfl)) (mvT hZ (gw hw 82 rfl)) (by decide) (backOf (W := 0) (own_tb1 l Z a0 hw [] ca kC d0 T4.heap n0 fc10 fc7 AD HB LB fc8) hZ (gw hw 82 rfl) (gw hw 46 rfl) (by decide) (by decide)) (g := (mkF m 23 #[.val (.ref ca), .val (.int 0), .val (.int 1), .val (.ref fb1), .val (.int jj), .unset] [(.int 1), (.int 0), (.ref ca)])) rfl (by rw [hml]; rfl) (argsL := [(.ref ca), (.int 0), (.int 1)]) (rest := []) (lenOf pd___CII__B rfl) rfl (by show 2 * 0 + _ ≤ _; exact Nat.le_of_eq rfl) (hb hby D19_23) (fun _ _ => ⟨rfl, rfl, (by decide : 1 + 1 ≤ _), (by decide : 1 + 2 ≤ _)⟩)
  dsimp only [Pt.U, Pt.locs, Pt.cells, Pt.slots] at X9 l9 y9 z9 st9 hQ9
  subst l9 y9 z9
  obtain ⟨fb, kf, rfl, N9q, K9, gf, Vf⟩ := hQ9
  have N9 := Fr.app N4 N9q
  have pre11 : ∀ t, Steps p.tables e below (T9.setTop (mkF m 26 #[.val (.ref ca), .val (.int 0), .val (.int 1), .val (.ref fb1), .val (.int jj), .unset] [(.ref fb)])) t → Steps p.tables e below (s₁.setTop (entryFrame m #[(.ref ca), (.int 0), (.int 1)] 6)) t := by
    intro t kk
    refine pre6 t ?_
    refine XS.istore X4.here hx rfl (hb hby D19_12) rfl (l' := #[.val (.ref ca), .val (.int 0), .val (.int 1), .val (.ref fb1), .val (.int jj), .unset]) rfl ?_
    refine XS.iload X4.here hx rfl (hb hby D19_14) rfl ?_
    refine XS.iloadN X4.here hx rfl (hb hby D19_16) rfl ?_
    refine XS.icmpNo X4.here hx rfl (hb hby D19_17) rfl (feq hjn).1 ?_
    refine XS.aloadN X4.here hx rfl (hb hby D19_20) rfl rfl ?_
    refine XS.iloadN X4.here hx rfl (hb hby D19_21) rfl ?_
    refine XS.iloadN X4.here hx rfl (hb hby D19_22) rfl ?_
    exact st9 _ kk
  have lo_fb : n0 ≤ fb := Nat.le_trans fc10 gf
  have hi_fb : h0.size ≤ fb := Nat.le_trans (((Keep.refl h0 []).ext E1).trans K4 (allS (Or.inr hi_fb1) all0)).1 gf
  have ne_ca_fb : ca ≠ fb := Nat.ne_of_lt (Nat.lt_of_lt_of_le fc7.lt gf)
  have pre12 : ∀ t, Steps p.tables e below (T9.setTop (mkF m 32 #[.val (.ref ca), .val (.int 0), .val (.int 1), .val (.ref fb1), .val (.int jj), .val (.ref fb)] [(.int jj), (.ref fb)])) t → Steps p.tables e below (s₁.setTop (entryFrame m #[(.ref ca), (.int 0), (.int 1)] 6)) t := by
    intro t kk
    refine pre11 t ?_
    refine XS.astore X9.here hx rfl (hb hby D19_26) rfl rfl (l' := #[.val (.ref ca), .val (.int 0), .val (.int 1), .val (.ref fb1), .val (.int jj), .val (.ref fb)]) rfl ?_
    refine XS.aload X9.here hx rfl (hb hby D19_28) rfl rfl ?_
    refine XS.iload X9.here hx rfl (hb hby D19_30) rfl ?_
    exact kk
  have fc13 := (fc8.keep K9 all0)
  have fc14 := ((((Keep.refl h0 []).ext E1).trans K4 (allS (Or.inr hi_fb1) all0)).trans K9 all0)
  have fc15 := (Nat.le_trans fc10 K9.1)
  obtain ⟨rfl, hj⟩ := hj
  obtain ⟨_, _, ⟨T16, L16, k16, n16⟩, -, X16, ⟨Lc16, hQ16, l16, y16, z16⟩, st16⟩ := Jvm.LawKit.callS X9 hx (y := (⟨"java/lang/StringUTF16", "getChar", "([BI)C"⟩ : MethodName)) hown (mvT hZ (gw hw 96 rfl)) (mvT hZ (gw hw 97 rfl)) (mvT hZ (gw hw 46 rfl)) (mvT hZ (gw hw 98 rfl)) (by decide) (backOf (W := 0) (own_gc l Z a0 hw [] fb kf [d0] 0 T9.heap n0 fc15 Vf (Nat.le_of_ble_eq_true rfl) (Nat.le_of_ble_eq_true rfl) hd0 AD HB LB fc13) hZ (gw hw 98 rfl) (gw hw 46 rfl) (by decide) (by decide)) (g := (mkF m 32 #[.val (.ref ca), .val (.int 0), .val (.int 1), .val (.ref fb1), .val (.int 0), .val (.ref fb)] [(.int 0), (.ref fb)])) rfl (by rw [hml]; rfl) (argsL := [(.ref fb), (.int 0)]) (rest := []) (lenOf pd___BI_C rfl) rfl (by show 2 * 0 + _ ≤ _; exact Nat.le_of_eq rfl) (hb hby D19_32) (fun _ _ => ⟨rfl, rfl, (by decide : 2 + 0 ≤ _), (by decide : 3 + 0 ≤ _)⟩)
  dsimp only [Pt.U, Pt.locs, Pt.cells, Pt.slots] at X16 l16 y16 z16 st16 hQ16
  subst l16 y16 z16
  obtain ⟨rfl, N16q, e16q⟩ := hQ16
  have N16 := Fr.app N9 N16q
  have pre17 : ∀ t, Steps p.tables e below (T16.setTop (mkF m 35 #[.val (.ref ca), .val (.int 0), .val (.int 1), .val (.ref fb1), .val (.int 0), .val (.ref fb)] [(.int d0)])) t → Steps p.tables e below (s₁.setTop (entryFrame m #[(.ref ca), (.int 0), (.int 1)] 6)) t := by
    intro t kk
    refine pre12 t ?_
    exact st16 _ kk
  obtain ⟨fs, hr, hrun, hended, hW, hsame⟩ := X16.leave (v := some (.ref fb)) (fun h => by rw [Bd.returns] at h; cases h)
  refine ⟨_, _, pre17 _ ?_, hrun, hended, _, _, rfl, ?_, ⟨_, rfl⟩, hW, hsame.mono (by decide) (by decide)⟩
  · refine XS.sipush X16.here hx rfl (hb hby D19_35) ?_
    refine XS.icmpYes X16.here hx rfl (pc0 := 38) (pc' := 54) rfl (hb hby D19_38) rfl (tlt hj).2.2.1 (by decide) (by decide) ?_
    refine XS.aload X16.here hx rfl (hb hby D19_54) rfl rfl ?_
    jvm_step X16.here [X16.here.top, hx, (hb hby D19_56), X16.method', Bd.returns, Value.isRef, FieldType.isReference]
    first | (intro acts; rw [hr _ acts rfl rfl rfl]) | rw [hr _ _ rfl rfl rfl]
    exact Steps.refl _
  · show Q_own_c31 Z ca kC d0 h0 n0 _ T16.heap _
    rw [e16q]
    exact ⟨fb, kf, rfl, N16, fc14, hi_fb, Vf⟩
theorem D20_0 : decode jdk_52_method_15_code 0 = .ok (.iload_n 1, 1) := by decide +kernel
theorem D20_1 : decode jdk_52_method_15_code 1 = .ok (.aload_n 0, 1) := by decide +kernel
theorem D20_2 : decode jdk_52_method_15_code 2 = .ok (.arraylength, 1) := by decide +kernel
theorem D20_3 : decode jdk_52_method_15_code 3 = .ok (.isub, 1) := by decide +kernel
theorem D20_4 : decode jdk_52_method_15_code 4 = .ok (.bipush 31, 2) := by decide +kernel
theorem D20_6 : decode jdk_52_method_15_code 6 = .ok (.iushr, 1) := by decide +kernel
theorem D20_7 : decode jdk_52_method_15_code 7 = .ok (.i2b, 1) := by decide +kernel
theorem D20_8 : decode jdk_52_method_15_code 8 = .ok (.ireturn, 1) := by decide +kernel
theorem ef_own_cf1 (m : MethodId) {sb : Addr} : entryFrame m #[(.ref sb), (.int 1)] 2 = mkF m 0 #[.val (.ref sb), .val (.int 1)] [] := by first | (simp [entryFrame, mkF, argsToLocals, Value.category]; done) | rfl
def Q_own_cf1 (Z : State) (sb : Addr) (kS : ClassId) (us : List Value) (h0 : Heap) (n0 : Nat) (v : Option Value) (h : Heap) (L : List Loc) : Prop := v = some (.int 1) ∧ Fr n0 L ∧ h = h0
set_option maxRecDepth 65536 in
set_option maxHeartbeats 40000000 in
theorem own_cf1 (l : Launch) (Z : State) (a0 : Array Value) (hw : ∀ d ∈ tables_1, d.before a0 Z = true) (ws : List Jvm.Cond) (sb : Addr) (kS : ClassId) (us : List Value) (h0 : Heap) (n0 : Nat) (Z0 : n0 ≤ h0.size) (KS : Arv Z h0 sb kS .byte (2 : Int32) us (.int 0)) :
    MetFree l (⟨"java/lang/StringUTF16", "coderFromArrayLen", "([BI)B"⟩ : MethodName) (head1 (Jvm.Cond.code (⟨"java/lang/StringUTF16", "coderFromArrayLen", "([BI)B"⟩ : MethodName) jdk_52_method_15_code 2 (some .byte) :: ws) ({ frames := 0, cells := 0, slots := 0, locals := 0 } : Room)) (fun a U => a = #[(.ref sb), (.int 1)] ∧ Z.Warmed39 U.vm ∧ U.heap = h0) (fun _ _ _ _ _ => True) (fun _ U o U' => ∃ v L, o = .returned v ∧ Q_own_cf1 Z sb kS us h0 n0 v U'.heap L ∧ FrameEnd U o U' L ({ frames := 0, cells := 0, slots := 0, locals := 0 } : Room).cells ({ frames := 0, cells := 0, slots := 0, locals := 0 } : Room).slots) := by
  refine MetFree.of_bodySF (plainFor_of_name pn_java_lang_StringUTF16) hisR ?_
  intro p e s m args below meth c s₁ Bd hml0 hP hK
  obtain ⟨rfl, hZ, hh⟩ := hP
  have hx := Bd.exec
  have hby := Bd.bytes
  have hml : c.maxLocals = 2 := hml0
  have hown : s.vm.findClass "java/lang/StringUTF16" = some m.cls := findClass_of_methodNamed Bd.named
  have hnm := (name_of_methodNamed Bd.named Bd.method).1
  have X0 : Stand p l e ({ frames := 0, cells := 0, slots := 0, locals := 0 } : Room) s m #[(.ref sb), (.int 1)] below meth c s₁ [] 0 0 := Stand.of_body Bd
  have e0 : s₁.heap = h0 := by rw [← hh, Bd.state]; rfl
  have N0 := Fr.nil n0
  have pre0 : ∀ t, Steps p.tables e below (s₁.setTop (mkF m 0 #[.val (.ref sb), .val (.int 1)] [])) t → Steps p.tables e below (s₁.setTop (entryFrame m #[(.ref sb), (.int 1)] 2)) t := fun t k => castTop (ef_own_cf1 m) k
  obtain ⟨cl1, Ar1, q1, S1, M1, H1, Gv1⟩ := id KS
  have pre2 : ∀ t, Steps p.tables e below (s₁.setTop (mkF m 8 #[.val (.ref sb), .val (.int 1)] [(.int (((((1 : Int32) - (2 : Int32)).toUInt32 >>> ((31 : Int32) &&& 31).toUInt32).toInt32).toInt8.toInt32))])) t → Steps p.tables e below (s₁.setTop (entryFrame m #[(.ref sb), (.int 1)] 2)) t := by
    intro t kk
    refine pre0 t ?_
    refine XS.iloadN X0.here hx rfl (hb hby D20_0) rfl ?_
    refine XS.aloadN X0.here hx rfl (hb hby D20_1) rfl rfl ?_
    refine X0.arraylength hx (by rw [e0]; exact Ar1.1) (State.isArrayOf_alike hZ.alike Ar1.2.1) (g := (mkF m 2 #[.val (.ref sb), .val (.int 1)] [(.ref sb), (.int 1)])) rfl rfl (hb hby D20_2) _ ?_
    rw [len_of S1 M1]
    refine XS.isub X0.here hx rfl (hb hby D20_3) rfl ?_
    refine XS.bipush X0.here hx rfl (hb hby D20_4) ?_
    refine XS.iushr X0.here hx rfl (hb hby D20_6) rfl ?_
    refine XS.i2b X0.here hx rfl (hb hby D20_7) rfl ?_
    exact kk
  rw [(by decide : (((((1 : Int32) - (2 : Int32)).toUInt32 >>> ((31 : Int32) &&& 31).toUInt32).toInt32).toInt8.toInt32) = (1 : Int32))] at pre2
  obtain ⟨fs, hr, hrun, hended, hW, hsame⟩ := X0.leave (v := some (.int 1)) (fun h => by rw [Bd.returns] at h; cases h)
  refine ⟨_, _, pre2 _ ?_, hrun, hended, _, _, rfl, ?_, ⟨_, rfl⟩, hW, hsame.mono (by decide) (by decide)⟩
  · exact retN X0 hx (t := .byte) Bd.returns (by simp) (hb hby D20_8) hr
  · show Q_own_cf1 Z sb kS us h0 n0 _ s₁.heap _
    rw [e0]
    exact ⟨rfl, N0, rfl⟩
theorem D21_0 : decode jdk_42_method_149_code 0 = .ok (.aload_n 0, 1) := by decide +kernel
theorem D21_1 : decode jdk_42_method_149_code 1 = .ok (.invokespecial 1, 3) := by decide +kernel
theorem D21_4 : decode jdk_42_method_149_code 4 = .ok (.iload_n 3, 1) := by decide +kernel
theorem D21_5 : decode jdk_42_method_149_code 5 = .ok (.ifCond .ne 22, 3) := by decide +kernel
theorem D21_27 : decode jdk_42_method_149_code 27 = .ok (.getstatic 38, 3) := by decide +kernel
theorem D21_30 : decode jdk_42_method_149_code 30 = .ok (.ifCond .eq 28, 3) := by decide +kernel
theorem D21_33 : decode jdk_42_method_149_code 33 = .ok (.aload_n 1, 1) := by decide +kernel
theorem D21_34 : decode jdk_42_method_149_code 34 = .ok (.iload_n 2, 1) := by decide +kernel
theorem D21_35 : decode jdk_42_method_149_code 35 = .ok (.iload_n 3, 1) := by decide +kernel
theorem D21_36 : decode jdk_42_method_149_code 36 = .ok (.invokestatic 177, 3) := by decide +kernel
theorem D21_39 : decode jdk_42_method_149_code 39 = .ok (.astore 5, 2) := by decide +kernel
theorem D21_41 : decode jdk_42_method_149_code 41 = .ok (.aload_n 0, 1) := by decide +kernel
theorem D21_42 : decode jdk_42_method_149_code 42 = .ok (.aload 5, 2) := by decide +kernel
theorem D21_44 : decode jdk_42_method_149_code 44 = .ok (.iload_n 3, 1) := by decide +kernel
theorem pd___BI_B : parseMethodDescriptor "([BI)B" = some ⟨[(.array .byte), .int], some .byte⟩ := by decide +kernel
theorem D21_45 : decode jdk_42_method_149_code 45 = .ok (.invokestatic 47, 3) := by decide +kernel
theorem D21_48 : decode jdk_42_method_149_code 48 = .ok (.putfield 15, 3) := by decide +kernel
theorem D21_51 : decode jdk_42_method_149_code 51 = .ok (.aload_n 0, 1) := by decide +kernel
theorem D21_52 : decode jdk_42_method_149_code 52 = .ok (.aload 5, 2) := by decide +kernel
theorem D21_54 : decode jdk_42_method_149_code 54 = .ok (.putfield 9, 3) := by decide +kernel
theorem D21_57 : decode jdk_42_method_149_code 57 = .ok (.return_, 1) := by decide +kernel
theorem ef_own_i41 (m : MethodId) {a1 : Addr} {ca : Addr} : entryFrame m #[(.ref a1), (.ref ca), (.int 0), (.int 1), .null] 6 = mkF m 0 #[.val (.ref a1), .val (.ref ca), .val (.int 0), .val (.int 1), .val .null, .unset] [] := by first | (simp [entryFrame, mkF, argsToLocals, Value.category]; done) | rfl
def Q_own_i41 (Z : State) (a1 ca : Addr) (kC : ClassId) (d0 : Int32) (G1 : Int32) (h0 : Heap) (n0 : Nat) (v : Option Value) (h : Heap) (L : List Loc) : Prop := v = none ∧ Fr n0 L ∧ Keep h0 h [a1] ∧ ∃ (b : Addr) (k : ClassId), h0.size ≤ b ∧ Fld Z h a1 "java/lang/String" "value" "[B" (.ref b) ∧ Fld Z h a1 "java/lang/String" "coder" "B" (.int 1) ∧ Arv Z h b k .byte (2 : Int32) [(.int (StrChars.lo8 d0)), (.int (StrChars.hi8 d0))] (.int 0)
set_option maxRecDepth 65536 in
set_option maxHeartbeats 40000000 in
theorem own_i41 (l : Launch) (Z : State) (a0 : Array Value) (hw : ∀ d ∈ tables_1, d.before a0 Z = true) (ws : List Jvm.Cond) (a1 ca : Addr) (kC : ClassId) (d0 : Int32) (G1 : Int32) (h0 : Heap) (n0 : Nat) (Z0 : n0 ≤ h0.size) (O1 : Obj Z h0 a1 "java/lang/String") (g1 : n0 ≤ a1) (KC : Arv Z h0 ca kC .char (1 : Int32) [(.int d0)] (.int 0)) (hd0 : ¬ d0 < 0 ∧ ¬ (65535 : Int32) < d0) (hwd : (255 : Int32) < d0) (AD : Sta Z Z.heap "java/lang/StringUTF16" "$assertionsDisabled" "Z" (.int 1)) (HB : Sta Z Z.heap "java/lang/StringUTF16" "HI_BYTE_SHIFT" "I" (.int 0)) (LB : Sta Z Z.heap "java/lang/StringUTF16" "LO_BYTE_SHIFT" "I" (.int 8)) (O2 : Sta Z Z.heap "java/lang/String" "COMPACT_STRINGS" "Z" (.int G1)) (P5 : ¬ G1 = (0 : Int32)) (XO : Old Z n0 h0) :
    MetFree l (⟨"java/lang/String", "<init>", "([CIILjava/lang/Void;)V"⟩ : MethodName) (head1 (Jvm.Cond.code (⟨"java/lang/String", "<init>", "([CIILjava/lang/Void;)V"⟩ : MethodName) jdk_42_method_149_code 6 none :: ws) ({ frames := 4, cells := 2, slots := 3, locals := 57 } : Room)) (fun a U => a = #[(.ref a1), (.ref ca), (.int 0), (.int 1), .null] ∧ Z.Warmed39 U.vm ∧ U.heap = h0) (fun _ _ _ _ _ => True) (fun _ U o U' => ∃ v L, o = .returned v ∧ Q_own_i41 Z a1 ca kC d0 G1 h0 n0 v U'.heap L ∧ FrameEnd U o U' L ({ frames := 4, cells := 2, slots := 3, locals := 57 } : Room).cells ({ frames := 4, cells := 2, slots := 3, locals := 57 } : Room).slots) := by
  refine MetFree.of_bodySF (plainFor_of_name pn_java_lang_String) hisR ?_
  intro p e s m args below meth c s₁ Bd hml0 hP hK
  obtain ⟨rfl, hZ, hh⟩ := hP
  have hx := Bd.exec
  have hby := Bd.bytes
  have hml : c.maxLocals = 6 := hml0
  have hown : s.vm.findClass "java/lang/String" = some m.cls := findClass_of_methodNamed Bd.named
  have hnm := (name_of_methodNamed Bd.named Bd.method).1
  have X0 : Stand p l e ({ frames := 4, cells := 2, slots := 3, locals := 57 } : Room) s m #[(.ref a1), (.ref ca), (.int 0), (.int 1), .null] below meth c s₁ [] 0 0 := Stand.of_body Bd
  have e0 : s₁.heap = h0 := by rw [← hh, Bd.state]; rfl
  have N0 := Fr.nil n0
  have pre0 : ∀ t, Steps p.tables e below (s₁.setTop (mkF m 0 #[.val (.ref a1), .val (.ref ca), .val (.int 0), .val (.int 1), .val .null, .unset] [])) t → Steps p.tables e below (s₁.setTop (entryFrame m #[(.ref a1), (.ref ca), (.int 0), (.int 1), .null] 6)) t := fun t k => castTop (ef_own_i41 m) k
  obtain ⟨T1, X1, e1, st1⟩ := initO X0 hx hZ hown (gw hw 13 rfl) (gw hw 14 rfl) (gw hw 15 rfl) e0 (g := (mkF m 1 #[.val (.ref a1), .val (.ref ca), .val (.int 0), .val (.int 1), .val .null, .unset] [(.ref a1)])) rfl (by rw [hml]; rfl) rfl (hb hby D21_1) (by decide) (W := 0) (by show 2 * 0 + _ ≤ _; exact Nat.le_of_eq rfl) (by decide)
  have pre2 : ∀ t, Steps p.tables e below (T1.setTop (mkF m 4 #[.val (.ref a1), .val (.ref ca), .val (.int 0), .val (.int 1), .val .null, .unset] [])) t → Steps p.tables e below (s₁.setTop (entryFrame m #[(.ref a1), (.ref ca), (.int 0), (.int 1), .null] 6)) t := by
    intro t kk
    refine pre0 t ?_
    refine XS.aloadN X0.here hx rfl (hb hby D21_0) rfl rfl ?_
    exact st1 _ kk
  have hbr3 : ¬ ((1 : Int32) = (0 : Int32)) := by decide
  obtain ⟨T4, X4, e4, st4⟩ := getS2 X1 hx hZ hown (host := "") (Or.inl (gw hw 43 rfl)) Via.refl e1 (O2.ext XO.2) (g := (mkF m 27 #[.val (.ref a1), .val (.ref ca), .val (.int 0), .val (.int 1), .val .null, .unset] [])) rfl (hb hby D21_27)
  have pre5 : ∀ t, Steps p.tables e below (T4.setTop (mkF m 30 #[.val (.ref a1), .val (.ref ca), .val (.int 0), .val (.int 1), .val .null, .unset] [(.int G1)])) t → Steps p.tables e below (s₁.setTop (entryFrame m #[(.ref a1), (.ref ca), (.int 0), (.int 1), .null] 6)) t := by
    intro t kk
    refine pre2 t ?_
    refine XS.iloadN X1.here hx rfl (hb hby D21_4) rfl ?_
    refine XS.ifYes X1.here hx rfl (pc0 := 5) (pc' := 27) rfl (hb hby D21_5) rfl ((if0 _ _).trans (feq hbr3).2) (by decide) (by decide) ?_
    exact st4 _ kk
  obtain ⟨_, _, ⟨T6, L6, k6, n6⟩, -, X6, ⟨Lc6, hQ6, l6, y6, z6⟩, st6⟩ := Jvm.LawKit.callS X4 hx (y := (⟨"java/lang/StringUTF16", "compress", "([CII)[B"⟩ : MethodName)) hown (mvT hZ (gw hw 44 rfl)) (mvT hZ (gw hw 45 rfl)) (mvT hZ (gw hw 46 rfl)) (mvT hZ (gw hw 47 rfl)) (by decide) (backOf (W := 0) (own_c31 l Z a0 hw [] ca kC d0 h0 n0 Z0 KC hd0 hwd AD HB LB XO) hZ (gw hw 47 rfl) (gw hw 46 rfl) (by decide) (by decide)) (g := (mkF m 36 #[.val (.ref a1), .val (.ref ca), .val (.int 0), .val (.int 1), .val .null, .unset] [(.int 1), (.int 0), (.ref ca)])) rfl (by rw [hml]; rfl) (argsL := [(.ref ca), (.int 0), (.int 1)]) (rest := []) (lenOf pd___CII__B rfl) rfl (by show 2 * 0 + _ ≤ _; exact Nat.le_of_eq rfl) (hb hby D21_36) (fun _ _ => ⟨rfl, e4, (by decide : 0 + 2 ≤ _), (by decide : 0 + 3 ≤ _)⟩)
  dsimp only [Pt.U, Pt.locs, Pt.cells, Pt.slots] at X6 l6 y6 z6 st6 hQ6
  subst l6 y6 z6
  obtain ⟨fb, kf, rfl, N6q, K6, gf, Vf⟩ := hQ6
  have N6 := Fr.app N0 N6q
  have pre7 : ∀ t, Steps p.tables e below (T6.setTop (mkF m 39 #[.val (.ref a1), .val (.ref ca), .val (.int 0), .val (.int 1), .val .null, .unset] [(.ref fb)])) t → Steps p.tables e below (s₁.setTop (entryFrame m #[(.ref a1), (.ref ca), (.int 0), (.int 1), .null] 6)) t := by
    intro t kk
    refine pre5 t ?_
    refine XS.ifNo X4.here hx rfl (hb hby D21_30) rfl ((if0 _ _).trans (feq P5).1) ?_
    refine XS.aloadN X4.here hx rfl (hb hby D21_33) rfl rfl ?_
    refine XS.iloadN X4.here hx rfl (hb hby D21_34) rfl ?_
    refine XS.iloadN X4.here hx rfl (hb hby D21_35) rfl ?_
    exact st6 _ kk
  have lo_fb : n0 ≤ fb := Nat.le_trans Z0 gf
  have hi_fb : h0.size ≤ fb := Nat.le_trans (Keep.refl h0 [a1]).1 gf
  have ne_a1_fb : a1 ≠ fb := Nat.ne_of_lt (Nat.lt_of_lt_of_le O1.lt gf)
  have ne_ca_fb : ca ≠ fb := Nat.ne_of_lt (Nat.lt_of_lt_of_le KC.lt gf)
  have fc9 := (Nat.le_trans Z0 K6.1)
  obtain ⟨_, _, ⟨T8, L8, k8, n8⟩, -, X8, ⟨Lc8, hQ8, l8, y8, z8⟩, st8⟩ := Jvm.LawKit.callS X6 hx (y := (⟨"java/lang/StringUTF16", "coderFromArrayLen", "([BI)B"⟩ : MethodName)) hown (mvT hZ (gw hw 51 rfl)) (mvT hZ (gw hw 52 rfl)) (mvT hZ (gw hw 46 rfl)) (mvT hZ (gw hw 53 rfl)) (by decide) (backOf (W := 1) (own_cf1 l Z a0 hw [] fb kf _ T6.heap n0 fc9 Vf) hZ (gw hw 53 rfl) (gw hw 46 rfl) (by decide) (by decide)) (g := (mkF m 45 #[.val (.ref a1), .val (.ref ca), .val (.int 0), .val (.int 1), .val .null, .val (.ref fb)] [(.int 1), (.ref fb), (.ref a1)])) rfl (by rw [hml]; rfl) (argsL := [(.ref fb), (.int 1)]) (rest := [(.ref a1)]) (lenOf pd___BI_B rfl) rfl (by show 2 * 0 + _ ≤ _; exact Nat.le_of_eq rfl) (hb hby D21_45) (fun _ _ => ⟨rfl, rfl, (by decide : 2 + 0 ≤ _), (by decide : 3 + 0 ≤ _)⟩)
  dsimp only [Pt.U, Pt.locs, Pt.cells, Pt.slots] at X8 l8 y8 z8 st8 hQ8
  subst l8 y8 z8
  obtain ⟨rfl, N8q, e8q⟩ := hQ8
  have N8 := Fr.app N6 N8q
  have pre10 : ∀ t, Steps p.tables e below (T8.setTop (mkF m 48 #[.val (.ref a1), .val (.ref ca), .val (.int 0), .val (.int 1), .val .null, .val (.ref fb)] [(.int 1), (.ref a1)])) t → Steps p.tables e below (s₁.setTop (entryFrame m #[(.ref a1), (.ref ca), (.int 0), (.int 1), .null] 6)) t := by
    intro t kk
    refine pre7 t ?_
    refine XS.astore X6.here hx rfl (hb hby D21_39) rfl rfl (l' := #[.val (.ref a1), .val (.ref ca), .val (.int 0), .val (.int 1), .val .null, .val (.ref fb)]) rfl ?_
    refine XS.aloadN X6.here hx rfl (hb hby D21_41) rfl rfl ?_
    refine XS.aload X6.here hx rfl (hb hby D21_42) rfl rfl ?_
    refine XS.iloadN X6.here hx rfl (hb hby D21_44) rfl ?_
    exact st8 _ kk
  have fc11 := (O1.keep K6)
  obtain ⟨u12, U12⟩ := Obj.fld fc11 (Or.inr (gw hw 19 rfl)) (gw hw 4 rfl)
  obtain ⟨T12, h12, X12, e12, W12, st12⟩ := putF X8 hx hZ hown (host := "") (Or.inl (gw hw 23 rfl)) Via.refl e8q U12 fc11.exa (Or.inr ⟨(gw hw 19 rfl), rfl, hnm⟩) (gw hw 4 rfl) (ty := .byte) (by decide) rfl rfl (g := (mkF m 48 #[.val (.ref a1), .val (.ref ca), .val (.int 0), .val (.int 1), .val .null, .val (.ref fb)] [(.int 1), (.ref a1)])) rfl rfl (hb hby D21_48)
  have N12 := Fr.snoc X12 N8 g1
  have Fw12 := U12.same W12
  have pre13 : ∀ t, Steps p.tables e below (T12.setTop (mkF m 51 #[.val (.ref a1), .val (.ref ca), .val (.int 0), .val (.int 1), .val .null, .val (.ref fb)] [])) t → Steps p.tables e below (s₁.setTop (entryFrame m #[(.ref a1), (.ref ca), (.int 0), (.int 1), .null] 6)) t := by
    intro t kk
    refine pre10 t ?_
    exact st12 _ kk
  have fc14 := (fc11.wr W12)
  obtain ⟨u15, U15⟩ := Obj.fld fc14 (Or.inr (gw hw 18 rfl)) (gw hw 4 rfl)
  obtain ⟨T15, h15, X15, e15, W15, st15⟩ := putF X12 hx hZ hown (host := "") (Or.inl (gw hw 22 rfl)) Via.refl e12 U15 fc14.exa (Or.inr ⟨(gw hw 18 rfl), rfl, hnm⟩) (gw hw 4 rfl) (ty := (.array .byte)) (by decide) rfl rfl (g := (mkF m 54 #[.val (.ref a1), .val (.ref ca), .val (.int 0), .val (.int 1), .val .null, .val (.ref fb)] [(.ref fb), (.ref a1)])) rfl rfl (hb hby D21_54)
  have N15 := Fr.snoc X15 N12 g1
  have Fw15 := U15.same W15
  have pre16 : ∀ t, Steps p.tables e below (T15.setTop (mkF m 57 #[.val (.ref a1), .val (.ref ca), .val (.int 0), .val (.int 1), .val .null, .val (.ref fb)] [])) t → Steps p.tables e below (s₁.setTop (entryFrame m #[(.ref a1), (.ref ca), (.int 0), (.int 1), .null] 6)) t := by
    intro t kk
    refine pre13 t ?_
    refine XS.aloadN X12.here hx rfl (hb hby D21_51) rfl rfl ?_
    refine XS.aload X12.here hx rfl (hb hby D21_52) rfl rfl ?_
    exact st15 _ kk
  have fc17 := ((((Keep.refl h0 [a1]).trans K6 all0).wr W12 (Or.inl (List.mem_of_getElem? (i := 0) rfl))).wr W15 (Or.inl (List.mem_of_getElem? (i := 0) rfl)))
  have fc18 := (Fw12.other W15 (Or.inr (slot_ne (Or.inr (gw hw 19 rfl)) (Or.inr (gw hw 18 rfl)) (by decide) (t := .byte) (t' := (.array .byte)) (by decide) (by decide))))
  have fc19 := ((Vf.other W12 (Ne.symm ne_a1_fb)).other W15 (Ne.symm ne_a1_fb))
  obtain ⟨fs, hr, hrun, hended, hW, hsame⟩ := X15.leave (v := none) (fun _ => rfl)
  refine ⟨_, _, pre16 _ ?_, hrun, hended, _, _, rfl, ?_, ⟨_, rfl⟩, hW, hsame.mono (by decide) (by decide)⟩
  · exact X15.returnOut hx Bd.returns (hb hby D21_57) hr
  · show Q_own_i41 Z a1 ca kC d0 G1 h0 n0 _ T15.heap _
    rw [e15]
    exact ⟨rfl, N15, fc17, fb, kf, hi_fb, Fw15, fc18, fc19⟩
theorem D22_0 : decode jdk_42_method_3_code 0 = .ok (.aload_n 0, 1) := by decide +kernel
theorem D22_1 : decode jdk_42_method_3_code 1 = .ok (.aload_n 1, 1) := by decide +kernel
theorem D22_2 : decode jdk_42_method_3_code 2 = .ok (.iconst 0, 1) := by decide +kernel
theorem D22_3 : decode jdk_42_method_3_code 3 = .ok (.aload_n 1, 1) := by decide +kernel
theorem D22_4 : decode jdk_42_method_3_code 4 = .ok (.arraylength, 1) := by decide +kernel
theorem D22_5 : decode jdk_42_method_3_code 5 = .ok (.aconst_null, 1) := by decide +kernel
theorem pd___CIILjava_lang_Void__V : parseMethodDescriptor "([CIILjava/lang/Void;)V" = some ⟨[(.array .char), .int, .int, (.object "java/lang/Void")], none⟩ := by decide +kernel
theorem D22_6 : decode jdk_42_method_3_code 6 = .ok (.invokespecial 27, 3) := by decide +kernel
theorem D22_9 : decode jdk_42_method_3_code 9 = .ok (.return_, 1) := by decide +kernel
theorem ef_own_i11 (m : MethodId) {a1 : Addr} {ca : Addr} : entryFrame m #[(.ref a1), (.ref ca)] 2 = mkF m 0 #[.val (.ref a1), .val (.ref ca)] [] := by first | (simp [entryFrame, mkF, argsToLocals, Value.category]; done) | rfl
def Q_own_i11 (Z : State) (a1 ca : Addr) (kC : ClassId) (d0 : Int32) (G1 : Int32) (h0 : Heap) (n0 : Nat) (v : Option Value) (h : Heap) (L : List Loc) : Prop := v = none ∧ Fr n0 L ∧ Keep h0 h [a1] ∧ ∃ (b : Addr) (k : ClassId), h0.size ≤ b ∧ Fld Z h a1 "java/lang/String" "value" "[B" (.ref b) ∧ Fld Z h a1 "java/lang/String" "coder" "B" (.int 1) ∧ Arv Z h b k .byte (2 : Int32) [(.int (StrChars.lo8 d0)), (.int (StrChars.hi8 d0))] (.int 0)
set_option maxRecDepth 65536 in
set_option maxHeartbeats 40000000 in
theorem own_i11 (l : Launch) (Z : State) (a0 : Array Value) (hw : ∀ d ∈ tables_1, d.before a0 Z = true) (ws : List Jvm.Cond) (a1 ca : Addr) (kC : ClassId) (d0 : Int32) (G1 : Int32) (h0 : Heap) (n0 : Nat) (Z0 : n0 ≤ h0.size) (O1 : Obj Z h0 a1 "java/lang/String") (g1 : n0 ≤ a1) (KC : Arv Z h0 ca kC .char (1 : Int32) [(.int d0)] (.int 0)) (hd0 : ¬ d0 < 0 ∧ ¬ (65535 : Int32) < d0) (hwd : (255 : Int32) < d0) (AD : Sta Z Z.heap "java/lang/StringUTF16" "$assertionsDisabled" "Z" (.int 1)) (HB : Sta Z Z.heap "java/lang/StringUTF16" "HI_BYTE_SHIFT" "I" (.int 0)) (LB : Sta Z Z.heap "java/lang/StringUTF16" "LO_BYTE_SHIFT" "I" (.int 8)) (O2 : Sta Z Z.heap "java/lang/String" "COMPACT_STRINGS" "Z" (.int G1)) (P5 : ¬ G1 = (0 : Int32)) (XO : Old Z n0 h0) :
    MetFree l (⟨"java/lang/String", "<init>", "([C)V"⟩ : MethodName) (head1 (Jvm.Cond.code (⟨"java/lang/String", "<init>", "([C)V"⟩ : MethodName) jdk_42_method_3_code 2 none :: ws) ({ frames := 5, cells := 2, slots := 3, locals := 74 } : Room)) (fun a U => a = #[(.ref a1), (.ref ca)] ∧ Z.Warmed39 U.vm ∧ U.heap = h0) (fun _ _ _ _ _ => True) (fun _ U o U' => ∃ v L, o = .returned v ∧ Q_own_i11 Z a1 ca kC d0 G1 h0 n0 v U'.heap L ∧ FrameEnd U o U' L ({ frames := 5, cells := 2, slots := 3, locals := 74 } : Room).cells ({ frames := 5, cells := 2, slots := 3, locals := 74 } : Room).slots) := by
  refine MetFree.of_bodySF (plainFor_of_name pn_java_lang_String) hisR ?_
  intro p e s m args below meth c s₁ Bd hml0 hP hK
  obtain ⟨rfl, hZ, hh⟩ := hP
  have hx := Bd.exec
  have hby := Bd.bytes
  have hml : c.maxLocals = 2 := hml0
  have hown : s.vm.findClass "java/lang/String" = some m.cls := findClass_of_methodNamed Bd.named
  have hnm := (name_of_methodNamed Bd.named Bd.method).1
  have X0 : Stand p l e ({ frames := 5, cells := 2, slots := 3, locals := 74 } : Room) s m #[(.ref a1), (.ref ca)] below meth c s₁ [] 0 0 := Stand.of_body Bd
  have e0 : s₁.heap = h0 := by rw [← hh, Bd.state]; rfl
  have N0 := Fr.nil n0
  have pre0 : ∀ t, Steps p.tables e below (s₁.setTop (mkF m 0 #[.val (.ref a1), .val (.ref ca)] [])) t → Steps p.tables e below (s₁.setTop (entryFrame m #[(.ref a1), (.ref ca)] 2)) t := fun t k => castTop (ef_own_i11 m) k
  obtain ⟨cl1, Ar1, q1, S1, M1, H1, Gv1⟩ := id KC
  obtain ⟨_, _, ⟨T2, L2, k2, n2⟩, -, X2, ⟨Lc2, hQ2, l2, y2, z2⟩, st2⟩ := X0.specialBack hx (y := (⟨"java/lang/String", "<init>", "([CIILjava/lang/Void;)V"⟩ : MethodName)) rfl hown (mvT hZ (gw hw 9 rfl)) (mvT hZ (gw hw 10 rfl)) (mvT hZ (gw hw 12 rfl)) (by decide) (backOf (W := 0) (own_i41 l Z a0 hw [] a1 ca kC d0 G1 h0 n0 Z0 O1 g1 KC hd0 hwd AD HB LB O2 P5 XO) hZ (gw hw 12 rfl) (gw hw 5 rfl) (by decide) (by decide)) (g := (mkF m 6 #[.val (.ref a1), .val (.ref ca)] [.null, (.int 1), (.int 0), (.ref ca), (.ref a1)])) rfl (by rw [hml]; rfl) (Steps.refl _) (a := a1) (argsL := [(.ref ca), (.int 0), (.int 1), .null]) (rest := []) (lenOf pd___CIILjava_lang_Void__V rfl) rfl (by show 2 * 0 + _ ≤ _; exact Nat.le_of_eq rfl) (hb hby D22_6) (fun _ _ => ⟨rfl, e0, (by decide : 0 + 2 ≤ _), (by decide : 0 + 3 ≤ _)⟩)
  dsimp only [Pt.U, Pt.locs, Pt.cells, Pt.slots] at X2 l2 y2 z2 st2 hQ2
  subst l2 y2 z2
  obtain ⟨rfl, N2q, K2, bq, kq, z1, z2, z3, z4⟩ := hQ2
  have N2 := Fr.app N0 N2q
  have pre3 : ∀ t, Steps p.tables e below (T2.setTop (mkF m 9 #[.val (.ref a1), .val (.ref ca)] [])) t → Steps p.tables e below (s₁.setTop (entryFrame m #[(.ref a1), (.ref ca)] 2)) t := by
    intro t kk
    refine pre0 t ?_
    refine XS.aloadN X0.here hx rfl (hb hby D22_0) rfl rfl ?_
    refine XS.aloadN X0.here hx rfl (hb hby D22_1) rfl rfl ?_
    refine XS.iconst X0.here hx rfl (hb hby D22_2) ?_
    refine XS.aloadN X0.here hx rfl (hb hby D22_3) rfl rfl ?_
    refine X0.arraylength hx (by rw [e0]; exact Ar1.1) (State.isArrayOf_alike hZ.alike Ar1.2.1) (g := (mkF m 4 #[.val (.ref a1), .val (.ref ca)] [(.ref ca), (.int 0), (.ref ca), (.ref a1)])) rfl rfl (hb hby D22_4) _ ?_
    rw [len_of S1 M1]
    refine XS.aconstNull X0.here hx rfl (hb hby D22_5) ?_
    exact st2.trans kk
  have fc4 := ((Keep.refl h0 [a1]).trans K2 (allS (Or.inl (List.mem_of_getElem? (i := 0) rfl)) all0))
  obtain ⟨fs, hr, hrun, hended, hW, hsame⟩ := X2.leave (v := none) (fun _ => rfl)
  refine ⟨_, _, pre3 _ ?_, hrun, hended, _, _, rfl, ?_, ⟨_, rfl⟩, hW, hsame.mono (by decide) (by decide)⟩
  · exact X2.returnOut hx Bd.returns (hb hby D22_9) hr
  · show Q_own_i11 Z a1 ca kC d0 G1 h0 n0 _ T2.heap _
    exact ⟨rfl, N2, fc4, bq, kq, z1, z2, z3, z4⟩
theorem ef_own_nl2 (m : MethodId)  : entryFrame m #[(.int 2)] 1 = mkF m 0 #[.val (.int 2)] [] := by first | (simp [entryFrame, mkF, argsToLocals, Value.category]; done) | rfl
def Q_own_nl2 (Z : State)  (h0 : Heap) (n0 : Nat) (v : Option Value) (h : Heap) (L : List Loc) : Prop := v = some (.int 4) ∧ Fr n0 L ∧ h = h0
set_option maxRecDepth 65536 in
set_option maxHeartbeats 40000000 in
theorem own_nl2 (l : Launch) (Z : State) (a0 : Array Value) (hw : ∀ d ∈ tables_1, d.before a0 Z = true) (ws : List Jvm.Cond)  (h0 : Heap) (n0 : Nat) (Z0 : n0 ≤ h0.size)  :
    MetFree l (⟨"java/lang/StringUTF16", "newBytesLength", "(I)I"⟩ : MethodName) (head1 (Jvm.Cond.code (⟨"java/lang/StringUTF16", "newBytesLength", "(I)I"⟩ : MethodName) jdk_52_method_3_code 1 (some .int) :: ws) ({ frames := 0, cells := 0, slots := 0, locals := 0 } : Room)) (fun a U => a = #[(.int 2)] ∧ Z.Warmed39 U.vm ∧ U.heap = h0) (fun _ _ _ _ _ => True) (fun _ U o U' => ∃ v L, o = .returned v ∧ Q_own_nl2 Z  h0 n0 v U'.heap L ∧ FrameEnd U o U' L ({ frames := 0, cells := 0, slots := 0, locals := 0 } : Room).cells ({ frames := 0, cells := 0, slots := 0, locals := 0 } : Room).slots) := by
  refine MetFree.of_bodySF (plainFor_of_name pn_java_lang_StringUTF16) hisR ?_
  intro p e s m args below meth c s₁ Bd hml0 hP hK
  obtain ⟨rfl, hZ, hh⟩ := hP
  have hx := Bd.exec
  have hby := Bd.bytes
  have hml : c.maxLocals = 1 := hml0
  have hown : s.vm.findClass "java/lang/StringUTF16" = some m.cls := findClass_of_methodNamed Bd.named
  have hnm := (name_of_methodNamed Bd.named Bd.method).1
  have X0 : Stand p l e ({ frames := 0, cells := 0, slots := 0, locals := 0 } : Room) s m #[(.int 2)] below meth c s₁ [] 0 0 := Stand.of_body Bd
  have e0 : s₁.heap = h0 := by rw [← hh, Bd.state]; rfl
  have N0 := Fr.nil n0
  have pre0 : ∀ t, Steps p.tables e below (s₁.setTop (mkF m 0 #[.val (.int 2)] [])) t → Steps p.tables e below (s₁.setTop (entryFrame m #[(.int 2)] 1)) t := fun t k => castTop (ef_own_nl2 m) k
  have hbr1 : ¬ ((2 : Int32) < (0 : Int32)) := by decide
  have hbr2 : (2 : Int32) < (1073741823 : Int32) := by decide
  have pre3 : ∀ t, Steps p.tables e below (s₁.setTop (mkF m 58 #[.val (.int 2)] [(.int ((2 : Int32) <<< ((1 : Int32) &&& 31)))])) t → Steps p.tables e below (s₁.setTop (entryFrame m #[(.int 2)] 1)) t := by
    intro t kk
    refine pre0 t ?_
    refine XS.iloadN X0.here hx rfl (hb hby D15_0) rfl ?_
    refine XS.ifYes X0.here hx rfl (pc0 := 1) (pc' := 12) rfl (hb hby D15_1) rfl ((if0 _ _).trans (flt hbr1).2.1) (by decide) (by decide) ?_
    refine XS.iloadN X0.here hx rfl (hb hby D15_12) rfl ?_
    refine X0.ldcI hx hown (mvT hZ (gw hw 89 rfl)) (g := (mkF m 13 #[.val (.int 2)] [(.int 2)])) rfl (hb hby D15_13) ?_
    refine XS.icmpYes X0.here hx rfl (pc0 := 15) (pc' := 55) rfl (hb hby D15_15) rfl (tlt hbr2).1 (by decide) (by decide) ?_
    refine XS.iloadN X0.here hx rfl (hb hby D15_55) rfl ?_
    refine XS.iconst X0.here hx rfl (hb hby D15_56) ?_
    refine XS.ishl X0.here hx rfl (hb hby D15_57) rfl ?_
    exact kk
  rw [(by decide : ((2 : Int32) <<< ((1 : Int32) &&& 31)) = (4 : Int32))] at pre3
  obtain ⟨fs, hr, hrun, hended, hW, hsame⟩ := X0.leave (v := some (.int 4)) (fun h => by rw [Bd.returns] at h; cases h)
  refine ⟨_, _, pre3 _ ?_, hrun, hended, _, _, rfl, ?_, ⟨_, rfl⟩, hW, hsame.mono (by decide) (by decide)⟩
  · exact retI X0 hx Bd.returns (hb hby D15_58) hr
  · show Q_own_nl2 Z  h0 n0 _ s₁.heap _
    rw [e0]
    exact ⟨rfl, N0, rfl⟩
theorem ef_own_nf2 (m : MethodId)  : entryFrame m #[(.int 2)] 1 = mkF m 0 #[.val (.int 2)] [] := by first | (simp [entryFrame, mkF, argsToLocals, Value.category]; done) | rfl
def Q_own_nf2 (Z : State)  (h0 : Heap) (n0 : Nat) (v : Option Value) (h : Heap) (L : List Loc) : Prop := ∃ (b : Addr) (k : ClassId), v = some (.ref b) ∧ Fr n0 L ∧ Keep h0 h [] ∧ h0.size ≤ b ∧ Arv Z h b k .byte (4 : Int32) [(.int 0), (.int 0), (.int 0), (.int 0)] (.int 0)
set_option maxRecDepth 65536 in
set_option maxHeartbeats 40000000 in
theorem own_nf2 (l : Launch) (Z : State) (a0 : Array Value) (hw : ∀ d ∈ tables_1, d.before a0 Z = true) (ws : List Jvm.Cond)  (h0 : Heap) (n0 : Nat) (Z0 : n0 ≤ h0.size)  :
    MetFree l (⟨"java/lang/StringUTF16", "newBytesFor", "(I)[B"⟩ : MethodName) (head1 (Jvm.Cond.code (⟨"java/lang/StringUTF16", "newBytesFor", "(I)[B"⟩ : MethodName) jdk_52_method_2_code 1 (some (.array .byte)) :: ws) ({ frames := 1, cells := 1, slots := 4, locals := 12 } : Room)) (fun a U => a = #[(.int 2)] ∧ Z.Warmed39 U.vm ∧ U.heap = h0) (fun _ _ _ _ _ => True) (fun _ U o U' => ∃ v L, o = .returned v ∧ Q_own_nf2 Z  h0 n0 v U'.heap L ∧ FrameEnd U o U' L ({ frames := 1, cells := 1, slots := 4, locals := 12 } : Room).cells ({ frames := 1, cells := 1, slots := 4, locals := 12 } : Room).slots) := by
  refine MetFree.of_bodySF (plainFor_of_name pn_java_lang_StringUTF16) hisR ?_
  intro p e s m args below meth c s₁ Bd hml0 hP hK
  obtain ⟨rfl, hZ, hh⟩ := hP
  have hx := Bd.exec
  have hby := Bd.bytes
  have hml : c.maxLocals = 1 := hml0
  have hown : s.vm.findClass "java/lang/StringUTF16" = some m.cls := findClass_of_methodNamed Bd.named
  have hnm := (name_of_methodNamed Bd.named Bd.method).1
  have X0 : Stand p l e ({ frames := 1, cells := 1, slots := 4, locals := 12 } : Room) s m #[(.int 2)] below meth c s₁ [] 0 0 := Stand.of_body Bd
  have e0 : s₁.heap = h0 := by rw [← hh, Bd.state]; rfl
  have N0 := Fr.nil n0
  have pre0 : ∀ t, Steps p.tables e below (s₁.setTop (mkF m 0 #[.val (.int 2)] [])) t → Steps p.tables e below (s₁.setTop (entryFrame m #[(.int 2)] 1)) t := fun t k => castTop (ef_own_nf2 m) k
  obtain ⟨_, _, ⟨T1, L1, k1, n1⟩, -, X1, ⟨Lc1, hQ1, l1, y1, z1⟩, st1⟩ := Jvm.LawKit.callS X0 hx (y := (⟨"java/lang/StringUTF16", "newBytesLength", "(I)I"⟩ : MethodName)) hown (mvT hZ (gw hw 86 rfl)) (mvT hZ (gw hw 87 rfl)) (mvT hZ (gw hw 46 rfl)) (mvT hZ (gw hw 88 rfl)) (by decide) (backOf (W := 0) (own_nl2 l Z a0 hw [] h0 n0 Z0) hZ (gw hw 88 rfl) (gw hw 46 rfl) (by decide) (by decide)) (g := (mkF m 1 #[.val (.int 2)] [(.int 2)])) rfl (by rw [hml]; rfl) (argsL := [(.int 2)]) (rest := []) (lenOf pd__I_I rfl) rfl (by show 2 * 0 + _ ≤ _; exact Nat.le_of_eq rfl) (hb hby D16_1) (fun _ _ => ⟨rfl, e0, (by decide : 0 + 0 ≤ _), (by decide : 0 + 0 ≤ _)⟩)
  dsimp only [Pt.U, Pt.locs, Pt.cells, Pt.slots] at X1 l1 y1 z1 st1 hQ1
  subst l1 y1 z1
  obtain ⟨rfl, N1q, e1q⟩ := hQ1
  have N1 := Fr.app N0 N1q
  have pre2 : ∀ t, Steps p.tables e below (T1.setTop (mkF m 4 #[.val (.int 2)] [(.int 4)])) t → Steps p.tables e below (s₁.setTop (entryFrame m #[(.int 2)] 1)) t := by
    intro t kk
    refine pre0 t ?_
    refine XS.iloadN X0.here hx rfl (hb hby D16_0) rfl ?_
    exact st1 _ kk
  obtain ⟨fb3, g3⟩ : ∃ z, z = h0.size := ⟨_, rfl⟩
  have lo_fb3 : n0 ≤ fb3 := Nat.le_trans Z0 (Nat.le_of_eq g3.symm)
  have hi_fb3 : h0.size ≤ fb3 := Nat.le_trans (Keep.refl h0 []).1 (Nat.le_of_eq g3.symm)
  obtain ⟨T3, h3, k3, X3, e3, E3, A3, st3⟩ := newP X1 hx hZ (gw hw 17 rfl) e1q (g := (mkF m 4 #[.val (.int 2)] [(.int 4)])) rfl (hb hby D16_4) rfl (by decide) (cap := 4) (by decide) (by decide) (by decide) (by decide)
  rw [← g3] at A3 st3
  have V3 : Arv Z h3 fb3 k3 .byte (4 : Int32) [(.int 0), (.int 0), (.int 0), (.int 0)] (.int 0) := (Arv.new A3 (by decide)).pad (pad_rep [] (.int 0) 4)
  have pre4 : ∀ t, Steps p.tables e below (T3.setTop (mkF m 6 #[.val (.int 2)] [(.ref fb3)])) t → Steps p.tables e below (s₁.setTop (entryFrame m #[(.int 2)] 1)) t := by
    intro t kk
    refine pre2 t ?_
    exact st3 _ kk
  have fc5 := ((Keep.refl h0 []).ext E3)
  obtain ⟨fs, hr, hrun, hended, hW, hsame⟩ := X3.leave (v := some (.ref fb3)) (fun h => by rw [Bd.returns] at h; cases h)
  refine ⟨_, _, pre4 _ ?_, hrun, hended, _, _, rfl, ?_, ⟨_, rfl⟩, hW, hsame.mono (by decide) (by decide)⟩
  · jvm_step X3.here [X3.here.top, hx, (hb hby D16_6), X3.method', Bd.returns, Value.isRef, FieldType.isReference]
    first | (intro acts; rw [hr _ acts rfl rfl rfl]) | rw [hr _ _ rfl rfl rfl]
    exact Steps.refl _
  · show Q_own_nf2 Z  h0 n0 _ T3.heap _
    rw [e3]
    exact ⟨fb3, k3, rfl, N1, fc5, hi_fb3, V3⟩
theorem ef_own_tb2 (m : MethodId) {ca : Addr} : entryFrame m #[(.ref ca), (.int 0), (.int 2)] 5 = mkF m 0 #[.val (.ref ca), .val (.int 0), .val (.int 2), .unset, .unset] [] := by first | (simp [entryFrame, mkF, argsToLocals, Value.category]; done) | rfl
def Q_own_tb2 (Z : State) (ca : Addr) (kC : ClassId) (d0 d1 : Int32) (h0 : Heap) (n0 : Nat) (v : Option Value) (h : Heap) (L : List Loc) : Prop := ∃ (b : Addr) (k : ClassId), v = some (.ref b) ∧ Fr n0 L ∧ Keep h0 h [] ∧ h0.size ≤ b ∧ Arv Z h b k .byte (4 : Int32) [(.int (StrChars.lo8 d0)), (.int (StrChars.hi8 d0)), (.int (StrChars.lo8 d1)), (.int (StrChars.hi8 d1))] (.int 0)
set_option maxRecDepth 65536 in
set_option maxHeartbeats 40000000 in
theorem own_tb2 (l : Launch) (Z : State) (a0 : Array Value) (hw : ∀ d ∈ tables_1, d.before a0 Z = true) (ws : List Jvm.Cond) (ca : Addr) (kC : ClassId) (d0 d1 : Int32) (h0 : Heap) (n0 : Nat) (Z0 : n0 ≤ h0.size) (KC : Arv Z h0 ca kC .char (2 : Int32) [(.int d0), (.int d1)] (.int 0)) (AD : Sta Z Z.heap "java/lang/StringUTF16" "$assertionsDisabled" "Z" (.int 1)) (HB : Sta Z Z.heap "java/lang/StringUTF16" "HI_BYTE_SHIFT" "I" (.int 0)) (LB : Sta Z Z.heap "java/lang/StringUTF16" "LO_BYTE_SHIFT" "I" (.int 8)) (XO : Old Z n0 h0) :
    MetFree l (⟨"java/lang/StringUTF16", "toBytes", "([CII)[B"⟩ : MethodName) (head1 (Jvm.Cond.code (⟨"java/lang/StringUTF16", "toBytes", "([CII)[B"⟩ : MethodName) jdk_52_method_14_code 5 (some (.array .byte)) :: ws) ({ frames := 2, cells := 1, slots := 4, locals := 24 } : Room)) (fun a U => a = #[(.ref ca), (.int 0), (.int 2)] ∧ Z.Warmed39 U.vm ∧ U.heap = h0) (fun _ _ _ _ _ => True) (fun _ U o U' => ∃ v L, o = .returned v ∧ Q_own_tb2 Z ca kC d0 d1 h0 n0 v U'.heap L ∧ FrameEnd U o U' L ({ frames := 2, cells := 1, slots := 4, locals := 24 } : Room).cells ({ frames := 2, cells := 1, slots := 4, locals := 24 } : Room).slots) := by
  refine MetFree.of_bodySF (plainFor_of_name pn_java_lang_StringUTF16) hisR ?_
  intro p e s m args below meth c s₁ Bd hml0 hP hK
  obtain ⟨rfl, hZ, hh⟩ := hP
  have hx := Bd.exec
  have hby := Bd.bytes
  have hml : c.maxLocals = 5 := hml0
  have hown : s.vm.findClass "java/lang/StringUTF16" = some m.cls := findClass_of_methodNamed Bd.named
  have hnm := (name_of_methodNamed Bd.named Bd.method).1
  have X0 : Stand p l e ({ frames := 2, cells := 1, slots := 4, locals := 24 } : Room) s m #[(.ref ca), (.int 0), (.int 2)] below meth c s₁ [] 0 0 := Stand.of_body Bd
  have e0 : s₁.heap = h0 := by rw [← hh, Bd.state]; rfl
  have N0 := Fr.nil n0
  have pre0 : ∀ t, Steps p.tables e below (s₁.setTop (mkF m 0 #[.val (.ref ca), .val (.int 0), .val (.int 2), .unset, .unset] [])) t → Steps p.tables e below (s₁.setTop (entryFrame m #[(.ref ca), (.int 0), (.int 2)] 5)) t := fun t k => castTop (ef_own_tb2 m) k
  obtain ⟨_, _, ⟨T1, L1, k1, n1⟩, -, X1, ⟨Lc1, hQ1, l1, y1, z1⟩, st1⟩ := Jvm.LawKit.callS X0 hx (y := (⟨"java/lang/StringUTF16", "newBytesFor", "(I)[B"⟩ : MethodName)) hown (mvT hZ (gw hw 83 rfl)) (mvT hZ (gw hw 84 rfl)) (mvT hZ (gw hw 46 rfl)) (mvT hZ (gw hw 85 rfl)) (by decide) (backOf (W := 0) (own_nf2 l Z a0 hw [] h0 n0 Z0) hZ (gw hw 85 rfl) (gw hw 46 rfl) (by decide) (by decide)) (g := (mkF m 1 #[.val (.ref ca), .val (.int 0), .val (.int 2), .unset, .unset] [(.int 2)])) rfl (by rw [hml]; rfl) (argsL := [(.int 2)]) (rest := []) (lenOf pd__I__B rfl) rfl (by show 2 * 0 + _ ≤ _; exact Nat.le_of_eq rfl) (hb hby D17_1) (fun _ _ => ⟨rfl, e0, (by decide : 0 + 1 ≤ _), (by decide : 0 + 4 ≤ _)⟩)
  dsimp only [Pt.U, Pt.locs, Pt.cells, Pt.slots] at X1 l1 y1 z1 st1 hQ1
  subst l1 y1 z1
  obtain ⟨fb, kf, rfl, N1q, K1, gf, Vf⟩ := hQ1
  have N1 := Fr.app N0 N1q
  have pre2 : ∀ t, Steps p.tables e below (T1.setTop (mkF m 4 #[.val (.ref ca), .val (.int 0), .val (.int 2), .unset, .unset] [(.ref fb)])) t → Steps p.tables e below (s₁.setTop (entryFrame m #[(.ref ca), (.int 0), (.int 2)] 5)) t := by
    intro t kk
    refine pre0 t ?_
    refine XS.iloadN X0.here hx rfl (hb hby D17_0) rfl ?_
    exact st1 _ kk
  have lo_fb : n0 ≤ fb := Nat.le_trans Z0 gf
  have hi_fb : h0.size ≤ fb := Nat.le_trans (Keep.refl h0 []).1 gf
  have ne_ca_fb : ca ≠ fb := Nat.ne_of_lt (Nat.lt_of_lt_of_le KC.lt gf)
  have hbr3 : (0 : Int32) < (2 : Int32) := by decide
  have fc5 := (KC.keep K1 nin0)
  obtain ⟨cl4, Ar4, q4, S4, M4, H4, Gv4⟩ := id fc5
  have hin6 : ¬ ((0 : Int32) < 0 ∨ cl4.slots.size ≤ ((0 : Int32)).toNatClampNeg) := inb_of S4 ⟨by decide, by decide⟩
  have hat6 : cl4.slots[((0 : Int32)).toNatClampNeg]? = some (.int d0) := Has.at H4 (inb_of S4 ⟨by decide, by decide⟩) rfl
  have fc7 := (XO.keep K1 all0)
  have fc9 := (Nat.le_trans Z0 K1.1)
  obtain ⟨_, _, ⟨T8, L8, k8, n8⟩, -, X8, ⟨Lc8, hQ8, l8, y8, z8⟩, st8⟩ := Jvm.LawKit.callS X1 hx (y := (⟨"java/lang/StringUTF16", "putChar", "([BII)V"⟩ : MethodName)) hown (mvT hZ (gw hw 90 rfl)) (mvT hZ (gw hw 91 rfl)) (mvT hZ (gw hw 46 rfl)) (mvT hZ (gw hw 92 rfl)) (by decide) (backOf (W := 0) (own_pt l Z a0 hw [] fb kf d0 0 4 _ T1.heap n0 fc9 Vf rfl (by decide) (by decide) lo_fb AD HB LB fc7) hZ (gw hw 92 rfl) (gw hw 46 rfl) (by decide) (by decide)) (g := (mkF m 20 #[.val (.ref ca), .val (.int 0), .val (.int 2), .val (.ref fb), .val (.int 0)] [(.int d0), (.int 0), (.ref fb)])) rfl (by rw [hml]; rfl) (argsL := [(.ref fb), (.int 0), (.int d0)]) (rest := []) (lenOf pd___BII_V rfl) rfl (by show 2 * 0 + _ ≤ _; exact Nat.le_of_eq rfl) (hb hby D17_20) (fun _ _ => ⟨rfl, rfl, (by decide : 1 + 0 ≤ _), (by decide : 4 + 0 ≤ _)⟩)
  dsimp only [Pt.U, Pt.locs, Pt.cells, Pt.slots] at X8 l8 y8 z8 st8 hQ8
  subst l8 y8 z8
  obtain ⟨rfl, N8q, K8, Vp8⟩ := hQ8
  have N8 := Fr.app N1 N8q
  have pre10 : ∀ t, Steps p.tables e below (T8.setTop (mkF m 23 #[.val (.ref ca), .val (.int 0), .val (.int 2), .val (.ref fb), .val (.int 0)] [])) t → Steps p.tables e below (s₁.setTop (entryFrame m #[(.ref ca), (.int 0), (.int 2)] 5)) t := by
    intro t kk
    refine pre2 t ?_
    refine XS.astoreN X1.here hx rfl (hb hby D17_4) rfl rfl (l' := #[.val (.ref ca), .val (.int 0), .val (.int 2), .val (.ref fb), .unset]) rfl ?_
    refine XS.iconst X1.here hx rfl (hb hby D17_5) ?_
    refine XS.istore X1.here hx rfl (hb hby D17_6) rfl (l' := #[.val (.ref ca), .val (.int 0), .val (.int 2), .val (.ref fb), .val (.int 0)]) rfl ?_
    refine XS.iload X1.here hx rfl (hb hby D17_8) rfl ?_
    refine XS.iloadN X1.here hx rfl (hb hby D17_10) rfl ?_
    refine XS.icmpNo X1.here hx rfl (hb hby D17_11) rfl (tlt hbr3).2.1 ?_
    refine XS.aloadN X1.here hx rfl (hb hby D17_14) rfl rfl ?_
    refine XS.iload X1.here hx rfl (hb hby D17_15) rfl ?_
    show Steps p.tables e below (T1.setTop (mkF m 17 #[.val (.ref ca), .val (.int 0), .val (.int 2), .val (.ref fb), .val (.int 0)] [(.int 0), (.ref fb)])) _
    refine XS.aloadN X1.here hx rfl (hb hby D17_17) rfl rfl ?_
    refine XS.iloadN X1.here hx rfl (hb hby D17_18) rfl ?_
    refine X1.caload hx (j := (0 : Int32)) (v := (.int d0)) (by exact Ar4.1) (State.isArrayOf_alike hZ.alike Ar4.2.1) Ar4.2.2 hin6 hat6 (g := (mkF m 19 #[.val (.ref ca), .val (.int 0), .val (.int 2), .val (.ref fb), .val (.int 0)] [(.int 0), (.ref ca), (.int 0), (.ref fb)])) rfl rfl (hb hby D17_19) _ ?_
    exact st8 _ kk
  have hbr11 : (1 : Int32) < (2 : Int32) := by decide
  have fc13 := (fc5.keep K8 (ninS ne_ca_fb nin0))
  obtain ⟨cl12, Ar12, q12, S12, M12, H12, Gv12⟩ := id fc13
  have hin14 : ¬ ((1 : Int32) < 0 ∨ cl12.slots.size ≤ ((1 : Int32)).toNatClampNeg) := inb_of S12 ⟨by decide, by decide⟩
  have hat14 : cl12.slots[((1 : Int32)).toNatClampNeg]? = some (.int d1) := Has.at H12 (inb_of S12 ⟨by decide, by decide⟩) rfl
  have fc15 := (fc7.keep K8 (allS lo_fb all0))
  have fc17 := (Nat.le_trans fc9 K8.1)
  obtain ⟨_, _, ⟨T16, L16, k16, n16⟩, -, X16, ⟨Lc16, hQ16, l16, y16, z16⟩, st16⟩ := Jvm.LawKit.callS X8 hx (y := (⟨"java/lang/StringUTF16", "putChar", "([BII)V"⟩ : MethodName)) hown (mvT hZ (gw hw 90 rfl)) (mvT hZ (gw hw 91 rfl)) (mvT hZ (gw hw 46 rfl)) (mvT hZ (gw hw 92 rfl)) (by decide) (backOf (W := 0) (own_pt l Z a0 hw [] fb kf d1 1 4 _ T8.heap n0 fc17 Vp8 rfl (by decide) (by decide) lo_fb AD HB LB fc15) hZ (gw hw 92 rfl) (gw hw 46 rfl) (by decide) (by decide)) (g := (mkF m 20 #[.val (.ref ca), .val (.int 1), .val (.int 2), .val (.ref fb), .val (.int 1)] [(.int d1), (.int 1), (.ref fb)])) rfl (by rw [hml]; rfl) (argsL := [(.ref fb), (.int 1), (.int d1)]) (rest := []) (lenOf pd___BII_V rfl) rfl (by show 2 * 0 + _ ≤ _; exact Nat.le_of_eq rfl) (hb hby D17_20) (fun _ _ => ⟨rfl, rfl, (by decide : 1 + 0 ≤ _), (by decide : 4 + 0 ≤ _)⟩)
  dsimp only [Pt.U, Pt.locs, Pt.cells, Pt.slots] at X16 l16 y16 z16 st16 hQ16
  subst l16 y16 z16
  obtain ⟨rfl, N16q, K16, Vp16⟩ := hQ16
  have N16 := Fr.app N8 N16q
  have pre18 : ∀ t, Steps p.tables e below (T16.setTop (mkF m 23 #[.val (.ref ca), .val (.int 1), .val (.int 2), .val (.ref fb), .val (.int 1)] [])) t → Steps p.tables e below (s₁.setTop (entryFrame m #[(.ref ca), (.int 0), (.int 2)] 5)) t := by
    intro t kk
    refine pre10 t ?_
    refine XS.iinc X8.here hx rfl (hb hby D17_23) rfl (l' := #[.val (.ref ca), .val (.int 1), .val (.int 2), .val (.ref fb), .val (.int 0)]) rfl ?_
    refine XS.iinc X8.here hx rfl (hb hby D17_26) rfl (l' := #[.val (.ref ca), .val (.int 1), .val (.int 2), .val (.ref fb), .val (.int 1)]) rfl ?_
    refine XS.goto X8.here hx rfl (pc0 := 29) (pc' := 8) rfl (hb hby D17_29) (by decide) (by decide) ?_
    refine XS.iload X8.here hx rfl (hb hby D17_8) rfl ?_
    refine XS.iloadN X8.here hx rfl (hb hby D17_10) rfl ?_
    refine XS.icmpNo X8.here hx rfl (hb hby D17_11) rfl (tlt hbr11).2.1 ?_
    refine XS.aloadN X8.here hx rfl (hb hby D17_14) rfl rfl ?_
    refine XS.iload X8.here hx rfl (hb hby D17_15) rfl ?_
    show Steps p.tables e below (T8.setTop (mkF m 17 #[.val (.ref ca), .val (.int 1), .val (.int 2), .val (.ref fb), .val (.int 1)] [(.int 1), (.ref fb)])) _
    refine XS.aloadN X8.here hx rfl (hb hby D17_17) rfl rfl ?_
    refine XS.iloadN X8.here hx rfl (hb hby D17_18) rfl ?_
    refine X8.caload hx (j := (1 : Int32)) (v := (.int d1)) (by exact Ar12.1) (State.isArrayOf_alike hZ.alike Ar12.2.1) Ar12.2.2 hin14 hat14 (g := (mkF m 19 #[.val (.ref ca), .val (.int 1), .val (.int 2), .val (.ref fb), .val (.int 1)] [(.int 1), (.ref ca), (.int 1), (.ref fb)])) rfl rfl (hb hby D17_19) _ ?_
    exact st16 _ kk
  have hbr19 : ¬ ((2 : Int32) < (2 : Int32)) := by decide
  have fc20 := ((((Keep.refl h0 []).trans K1 all0).trans K8 (allS (Or.inr hi_fb) all0)).trans K16 (allS (Or.inr hi_fb) all0))
  obtain ⟨fs, hr, hrun, hended, hW, hsame⟩ := X16.leave (v := some (.ref fb)) (fun h => by rw [Bd.returns] at h; cases h)
  refine ⟨_, _, pre18 _ ?_, hrun, hended, _, _, rfl, ?_, ⟨_, rfl⟩, hW, hsame.mono (by decide) (by decide)⟩
  · refine XS.iinc X16.here hx rfl (hb hby D17_23) rfl (l' := #[.val (.ref ca), .val (.int 2), .val (.int 2), .val (.ref fb), .val (.int 1)]) rfl ?_
    refine XS.iinc X16.here hx rfl (hb hby D17_26) rfl (l' := #[.val (.ref ca), .val (.int 2), .val (.int 2), .val (.ref fb), .val (.int 2)]) rfl ?_
    refine XS.goto X16.here hx rfl (pc0 := 29) (pc' := 8) rfl (hb hby D17_29) (by decide) (by decide) ?_
    refine XS.iload X16.here hx rfl (hb hby D17_8) rfl ?_
    refine XS.iloadN X16.here hx rfl (hb hby D17_10) rfl ?_
    refine XS.icmpYes X16.here hx rfl (pc0 := 11) (pc' := 32) rfl (hb hby D17_11) rfl (flt hbr19).2.1 (by decide) (by decide) ?_
    refine XS.aloadN X16.here hx rfl (hb hby D17_32) rfl rfl ?_
    jvm_step X16.here [X16.here.top, hx, (hb hby D17_33), X16.method', Bd.returns, Value.isRef, FieldType.isReference]
    first | (intro acts; rw [hr _ acts rfl rfl rfl]) | rw [hr _ _ rfl rfl rfl]
    exact Steps.refl _
  · show Q_own_tb2 Z ca kC d0 d1 h0 n0 _ T16.heap _
    exact ⟨fb, kf, rfl, N16, fc20, hi_fb, Vp16⟩
theorem D18_31 : decode jdk_52_method_21_code 31 = .ok (.bastore, 1) := by decide +kernel
theorem D18_32 : decode jdk_52_method_21_code 32 = .ok (.iinc 1 1, 3) := by decide +kernel
theorem D18_35 : decode jdk_52_method_21_code 35 = .ok (.iinc 3 1, 3) := by decide +kernel
theorem D18_38 : decode jdk_52_method_21_code 38 = .ok (.iinc 5 1, 3) := by decide +kernel
theorem D18_41 : decode jdk_52_method_21_code 41 = .ok (.goto (-38), 3) := by decide +kernel
theorem ef_own_c52 (m : MethodId) {ca : Addr} {sb : Addr} : entryFrame m #[(.ref ca), (.int 0), (.ref sb), (.int 0), (.int 2)] 7 = mkF m 0 #[.val (.ref ca), .val (.int 0), .val (.ref sb), .val (.int 0), .val (.int 2), .unset, .unset] [] := by first | (simp [entryFrame, mkF, argsToLocals, Value.category]; done) | rfl
def Q_own_c52 (Z : State) (ca sb : Addr) (kC kS : ClassId) (d0 d1 : Int32) (h0 : Heap) (n0 : Nat) (v : Option Value) (h : Heap) (L : List Loc) : Prop := ∃ r : Int32, v = some (.int r) ∧ Fr n0 L ∧ Keep h0 h [sb] ∧ ((r = (0 : Int32) ∧ (255 : Int32) < d0) ∨ (r = (1 : Int32) ∧ (255 : Int32) < d1))
set_option maxRecDepth 65536 in
set_option maxHeartbeats 40000000 in
theorem own_c52 (l : Launch) (Z : State) (a0 : Array Value) (hw : ∀ d ∈ tables_1, d.before a0 Z = true) (ws : List Jvm.Cond) (ca sb : Addr) (kC kS : ClassId) (d0 d1 : Int32) (h0 : Heap) (n0 : Nat) (Z0 : n0 ≤ h0.size) (KC : Arv Z h0 ca kC .char (2 : Int32) [(.int d0), (.int d1)] (.int 0)) (KS : Arv Z h0 sb kS .byte (2 : Int32) [(.int 0), (.int 0)] (.int 0)) (gs : n0 ≤ sb) (hne : ca ≠ sb) (hwd : (255 : Int32) < d0 ∨ (255 : Int32) < d1) :
    MetFree l (⟨"java/lang/StringUTF16", "compress", "([CI[BII)I"⟩ : MethodName) (head1 (Jvm.Cond.code (⟨"java/lang/StringUTF16", "compress", "([CI[BII)I"⟩ : MethodName) jdk_52_method_21_code 7 (some .int) :: ws) ({ frames := 0, cells := 0, slots := 0, locals := 0 } : Room)) (fun a U => a = #[(.ref ca), (.int 0), (.ref sb), (.int 0), (.int 2)] ∧ Z.Warmed39 U.vm ∧ U.heap = h0) (fun _ _ _ _ _ => True) (fun _ U o U' => ∃ v L, o = .returned v ∧ Q_own_c52 Z ca sb kC kS d0 d1 h0 n0 v U'.heap L ∧ FrameEnd U o U' L ({ frames := 0, cells := 0, slots := 0, locals := 0 } : Room).cells ({ frames := 0, cells := 0, slots := 0, locals := 0 } : Room).slots) := by
  refine MetFree.of_bodySF (plainFor_of_name pn_java_lang_StringUTF16) hisR ?_
  intro p e s m args below meth c s₁ Bd hml0 hP hK
  obtain ⟨rfl, hZ, hh⟩ := hP
  have hx := Bd.exec
  have hby := Bd.bytes
  have hml : c.maxLocals = 7 := hml0
  have hown : s.vm.findClass "java/lang/StringUTF16" = some m.cls := findClass_of_methodNamed Bd.named
  have hnm := (name_of_methodNamed Bd.named Bd.method).1
  have X0 : Stand p l e ({ frames := 0, cells := 0, slots := 0, locals := 0 } : Room) s m #[(.ref ca), (.int 0), (.ref sb), (.int 0), (.int 2)] below meth c s₁ [] 0 0 := Stand.of_body Bd
  have e0 : s₁.heap = h0 := by rw [← hh, Bd.state]; rfl
  have N0 := Fr.nil n0
  have pre0 : ∀ t, Steps p.tables e below (s₁.setTop (mkF m 0 #[.val (.ref ca), .val (.int 0), .val (.ref sb), .val (.int 0), .val (.int 2), .unset, .unset] [])) t → Steps p.tables e below (s₁.setTop (entryFrame m #[(.ref ca), (.int 0), (.ref sb), (.int 0), (.int 2)] 7)) t := fun t k => castTop (ef_own_c52 m) k
  have hbr1 : (0 : Int32) < (2 : Int32) := by decide
  obtain ⟨cl2, Ar2, q2, S2, M2, H2, Gv2⟩ := id KC
  have hin3 : ¬ ((0 : Int32) < 0 ∨ cl2.slots.size ≤ ((0 : Int32)).toNatClampNeg) := inb_of S2 ⟨by decide, by decide⟩
  have hat3 : cl2.slots[((0 : Int32)).toNatClampNeg]? = some (.int d0) := Has.at H2 (inb_of S2 ⟨by decide, by decide⟩) rfl
  by_cases hs0 : (255 : Int32) < d0
  case pos =>
    obtain ⟨fs, hr, hrun, hended, hW, hsame⟩ := X0.leave (v := some (.int 0)) (fun h => by rw [Bd.returns] at h; cases h)
    refine ⟨_, _, pre0 _ ?_, hrun, hended, _, _, rfl, ?_, ⟨_, rfl⟩, hW, hsame.mono (by decide) (by decide)⟩
    · refine XS.iconst X0.here hx rfl (hb hby D18_0) ?_
      refine XS.istore X0.here hx rfl (hb hby D18_1) rfl (l' := #[.val (.ref ca), .val (.int 0), .val (.ref sb), .val (.int 0), .val (.int 2), .val (.int 0), .unset]) rfl ?_
      refine XS.iload X0.here hx rfl (hb hby D18_3) rfl ?_
      refine XS.iload X0.here hx rfl (hb hby D18_5) rfl ?_
      refine XS.icmpNo X0.here hx rfl (hb hby D18_7) rfl (tlt hbr1).2.1 ?_
      refine XS.aloadN X0.here hx rfl (hb hby D18_10) rfl rfl ?_
      refine XS.iloadN X0.here hx rfl (hb hby D18_11) rfl ?_
      refine X0.caload hx (j := (0 : Int32)) (v := (.int d0)) (by rw [e0]; exact Ar2.1) (State.isArrayOf_alike hZ.alike Ar2.2.1) Ar2.2.2 hin3 hat3 (g := (mkF m 12 #[.val (.ref ca), .val (.int 0), .val (.ref sb), .val (.int 0), .val (.int 2), .val (.int 0), .unset] [(.int 0), (.ref ca)])) rfl rfl (hb hby D18_12) _ ?_
      show Steps p.tables e below (s₁.setTop (mkF m 13 #[.val (.ref ca), .val (.int 0), .val (.ref sb), .val (.int 0), .val (.int 2), .val (.int 0), .unset] [(.int d0)])) _
      refine XS.istore X0.here hx rfl (hb hby D18_13) rfl (l' := #[.val (.ref ca), .val (.int 0), .val (.ref sb), .val (.int 0), .val (.int 2), .val (.int 0), .val (.int d0)]) rfl ?_
      refine XS.iload X0.here hx rfl (hb hby D18_15) rfl ?_
      refine XS.sipush X0.here hx rfl (hb hby D18_17) ?_
      refine XS.icmpNo X0.here hx rfl (hb hby D18_20) rfl (tlt hs0).2.2.2 ?_
      refine XS.iload X0.here hx rfl (hb hby D18_23) rfl ?_
      exact retI X0 hx Bd.returns (hb hby D18_25) hr
    · show Q_own_c52 Z ca sb kC kS d0 d1 h0 n0 _ s₁.heap _
      rw [e0]
      exact ⟨(0 : Int32), rfl, N0, (Keep.refl h0 [sb]), (Or.inl ⟨rfl, hs0⟩)⟩
  case neg =>
    obtain ⟨cl4, Ar4, q4, S4, M4, H4, Gv4⟩ := id KS
    obtain ⟨T4, h4, X4, e4, W4, st4⟩ := stB X0 hx hZ e0 Ar4 (j := (0 : Int32)) (inb_of S4 ⟨(by decide), (by decide)⟩) (g := (mkF m 31 #[.val (.ref ca), .val (.int 0), .val (.ref sb), .val (.int 0), .val (.int 2), .val (.int 0), .val (.int d0)] [(.int (d0.toInt8.toInt32)), (.int 0), (.ref sb)])) rfl rfl (hb hby D18_31)
    have V4 : Arv Z h4 sb kS .byte (2 : Int32) [(.int (nar .byte (d0.toInt8.toInt32))), (.int 0)] (.int 0) := Arv.set Ar4 q4 S4 M4 H4 Gv4 (fits_nar_byte _) W4 0 rfl (Nat.le_of_ble_eq_true rfl)
    have N4 := Fr.snoc X4 N0 gs
    have pre5 : ∀ t, Steps p.tables e below (T4.setTop (mkF m 32 #[.val (.ref ca), .val (.int 0), .val (.ref sb), .val (.int 0), .val (.int 2), .val (.int 0), .val (.int d0)] [])) t → Steps p.tables e below (s₁.setTop (entryFrame m #[(.ref ca), (.int 0), (.ref sb), (.int 0), (.int 2)] 7)) t := by
      intro t kk
      refine pre0 t ?_
      refine XS.iconst X0.here hx rfl (hb hby D18_0) ?_
      refine XS.istore X0.here hx rfl (hb hby D18_1) rfl (l' := #[.val (.ref ca), .val (.int 0), .val (.ref sb), .val (.int 0), .val (.int 2), .val (.int 0), .unset]) rfl ?_
      refine XS.iload X0.here hx rfl (hb hby D18_3) rfl ?_
      refine XS.iload X0.here hx rfl (hb hby D18_5) rfl ?_
      refine XS.icmpNo X0.here hx rfl (hb hby D18_7) rfl (tlt hbr1).2.1 ?_
      refine XS.aloadN X0.here hx rfl (hb hby D18_10) rfl rfl ?_
      refine XS.iloadN X0.here hx rfl (hb hby D18_11) rfl ?_
      refine X0.caload hx (j := (0 : Int32)) (v := (.int d0)) (by rw [e0]; exact Ar2.1) (State.isArrayOf_alike hZ.alike Ar2.2.1) Ar2.2.2 hin3 hat3 (g := (mkF m 12 #[.val (.ref ca), .val (.int 0), .val (.ref sb), .val (.int 0), .val (.int 2), .val (.int 0), .unset] [(.int 0), (.ref ca)])) rfl rfl (hb hby D18_12) _ ?_
      show Steps p.tables e below (s₁.setTop (mkF m 13 #[.val (.ref ca), .val (.int 0), .val (.ref sb), .val (.int 0), .val (.int 2), .val (.int 0), .unset] [(.int d0)])) _
      refine XS.istore X0.here hx rfl (hb hby D18_13) rfl (l' := #[.val (.ref ca), .val (.int 0), .val (.ref sb), .val (.int 0), .val (.int 2), .val (.int 0), .val (.int d0)]) rfl ?_
      refine XS.iload X0.here hx rfl (hb hby D18_15) rfl ?_
      refine XS.sipush X0.here hx rfl (hb hby D18_17) ?_
      refine XS.icmpYes X0.here hx rfl (pc0 := 20) (pc' := 26) rfl (hb hby D18_20) rfl (flt hs0).2.2.2 (by decide) (by decide) ?_
      refine XS.aloadN X0.here hx rfl (hb hby D18_26) rfl rfl ?_
      refine XS.iloadN X0.here hx rfl (hb hby D18_27) rfl ?_
      refine XS.iload X0.here hx rfl (hb hby D18_28) rfl ?_
      refine XS.i2b X0.here hx rfl (hb hby D18_30) rfl ?_
      show Steps p.tables e below (s₁.setTop (mkF m 31 #[.val (.ref ca), .val (.int 0), .val (.ref sb), .val (.int 0), .val (.int 2), .val (.int 0), .val (.int d0)] [(.int (d0.toInt8.toInt32)), (.int 0), (.ref sb)])) _
      exact st4 _ kk
    have hbr6 : (1 : Int32) < (2 : Int32) := by decide
    have fc8 := (KC.other W4 hne)
    obtain ⟨cl7, Ar7, q7, S7, M7, H7, Gv7⟩ := id fc8
    have hin9 : ¬ ((1 : Int32) < 0 ∨ cl7.slots.size ≤ ((1 : Int32)).toNatClampNeg) := inb_of S7 ⟨by decide, by decide⟩
    have hat9 : cl7.slots[((1 : Int32)).toNatClampNeg]? = some (.int d1) := Has.at H7 (inb_of S7 ⟨by decide, by decide⟩) rfl
    by_cases hs1 : (255 : Int32) < d1
    case pos =>
      have fc10 := ((Keep.refl h0 [sb]).wr W4 (Or.inl (List.mem_of_getElem? (i := 0) rfl)))
      obtain ⟨fs, hr, hrun, hended, hW, hsame⟩ := X4.leave (v := some (.int 1)) (fun h => by rw [Bd.returns] at h; cases h)
      refine ⟨_, _, pre5 _ ?_, hrun, hended, _, _, rfl, ?_, ⟨_, rfl⟩, hW, hsame.mono (by decide) (by decide)⟩
      · refine XS.iinc X4.here hx rfl (hb hby D18_32) rfl (l' := #[.val (.ref ca), .val (.int 1), .val (.ref sb), .val (.int 0), .val (.int 2), .val (.int 0), .val (.int d0)]) rfl ?_
        refine XS.iinc X4.here hx rfl (hb hby D18_35) rfl (l' := #[.val (.ref ca), .val (.int 1), .val (.ref sb), .val (.int 1), .val (.int 2), .val (.int 0), .val (.int d0)]) rfl ?_
        refine XS.iinc X4.here hx rfl (hb hby D18_38) rfl (l' := #[.val (.ref ca), .val (.int 1), .val (.ref sb), .val (.int 1), .val (.int 2), .val (.int 1), .val (.int d0)]) rfl ?_
        refine XS.goto X4.here hx rfl (pc0 := 41) (pc' := 3) rfl (hb hby D18_41) (by decide) (by decide) ?_
        refine XS.iload X4.here hx rfl (hb hby D18_3) rfl ?_
        refine XS.iload X4.here hx rfl (hb hby D18_5) rfl ?_
        refine XS.icmpNo X4.here hx rfl (hb hby D18_7) rfl (tlt hbr6).2.1 ?_
        refine XS.aloadN X4.here hx rfl (hb hby D18_10) rfl rfl ?_
        show Steps p.tables e below (T4.setTop (mkF m 11 #[.val (.ref ca), .val (.int 1), .val (.ref sb), .val (.int 1), .val (.int 2), .val (.int 1), .val (.int d0)] [(.ref ca)])) _
        refine XS.iloadN X4.here hx rfl (hb hby D18_11) rfl ?_
        refine X4.caload hx (j := (1 : Int32)) (v := (.int d1)) (by rw [e4]; exact Ar7.1) (State.isArrayOf_alike hZ.alike Ar7.2.1) Ar7.2.2 hin9 hat9 (g := (mkF m 12 #[.val (.ref ca), .val (.int 1), .val (.ref sb), .val (.int 1), .val (.int 2), .val (.int 1), .val (.int d0)] [(.int 1), (.ref ca)])) rfl rfl (hb hby D18_12) _ ?_
        refine XS.istore X4.here hx rfl (hb hby D18_13) rfl (l' := #[.val (.ref ca), .val (.int 1), .val (.ref sb), .val (.int 1), .val (.int 2), .val (.int 1), .val (.int d1)]) rfl ?_
        refine XS.iload X4.here hx rfl (hb hby D18_15) rfl ?_
        refine XS.sipush X4.here hx rfl (hb hby D18_17) ?_
        refine XS.icmpNo X4.here hx rfl (hb hby D18_20) rfl (tlt hs1).2.2.2 ?_
        refine XS.iload X4.here hx rfl (hb hby D18_23) rfl ?_
        exact retI X4 hx Bd.returns (hb hby D18_25) hr
      · show Q_own_c52 Z ca sb kC kS d0 d1 h0 n0 _ T4.heap _
        rw [e4]
        exact ⟨(1 : Int32), rfl, N4, fc10, (Or.inr ⟨rfl, hs1⟩)⟩
    case neg =>
      rcases hwd with q | q
      · exact absurd q hs0
      · exact absurd q hs1
theorem ef_own_c32 (m : MethodId) {ca : Addr} : entryFrame m #[(.ref ca), (.int 0), (.int 2)] 6 = mkF m 0 #[.val (.ref ca), .val (.int 0), .val (.int 2), .unset, .unset, .unset] [] := by first | (simp [entryFrame, mkF, argsToLocals, Value.category]; done) | rfl
def Q_own_c32 (Z : State) (ca : Addr) (kC : ClassId) (d0 d1 : Int32) (h0 : Heap) (n0 : Nat) (v : Option Value) (h : Heap) (L : List Loc) : Prop := ∃ (b : Addr) (k : ClassId), v = some (.ref b) ∧ Fr n0 L ∧ Keep h0 h [] ∧ h0.size ≤ b ∧ Arv Z h b k .byte (4 : Int32) [(.int (StrChars.lo8 d0)), (.int (StrChars.hi8 d0)), (.int (StrChars.lo8 d1)), (.int (StrChars.hi8 d1))] (.int 0)
set_option maxRecDepth 65536 in
set_option maxHeartbeats 40000000 in
theorem own_c32 (l : Launch) (Z : State) (a0 : Array Value) (hw : ∀ d ∈ tables_1, d.before a0 Z = true) (ws : List Jvm.Cond) (ca : Addr) (kC : ClassId) (d0 d1 : Int32) (h0 : Heap) (n0 : Nat) (Z0 : n0 ≤ h0.size) (KC : Arv Z h0 ca kC .char (2 : Int32) [(.int d0), (.int d1)] (.int 0)) (hd0 : ¬ d0 < 0 ∧ ¬ (65535 : Int32) < d0) (hd1 : ¬ d1 < 0 ∧ ¬ (65535 : Int32) < d1) (hwd : (255 : Int32) < d0 ∨ (255 : Int32) < d1) (AD : Sta Z Z.heap "java/lang/StringUTF16" "$assertionsDisabled" "Z" (.int 1)) (HB : Sta Z Z.heap "java/lang/StringUTF16" "HI_BYTE_SHIFT" "I" (.int 0)) (LB : Sta Z Z.heap "java/lang/StringUTF16" "LO_BYTE_SHIFT" "I" (.int 8)) (XO : Old Z n0 h0) :
    MetFree l (⟨"java/lang/StringUTF16", "compress", "([CII)[B"⟩ : MethodName) (head1 (Jvm.Cond.code (⟨"java/lang/StringUTF16", "compress", "([CII)[B"⟩ : MethodName) jdk_52_method_16_code 6 (some (.array .byte)) :: ws) ({ frames := 3, cells := 2, slots := 6, locals := 40 } : Room)) (fun a U => a = #[(.ref ca), (.int 0), (.int 2)] ∧ Z.Warmed39 U.vm ∧ U.heap = h0) (fun _ _ _ _ _ => True) (fun _ U o U' => ∃ v L, o = .returned v ∧ Q_own_c32 Z ca kC d0 d1 h0 n0 v U'.heap L ∧ FrameEnd U o U' L ({ frames := 3, cells := 2, slots := 6, locals := 40 } : Room).cells ({ frames := 3, cells := 2, slots := 6, locals := 40 } : Room).slots) := by
  refine MetFree.of_bodySF (plainFor_of_name pn_java_lang_StringUTF16) hisR ?_
  intro p e s m args below meth c s₁ Bd hml0 hP hK
  obtain ⟨rfl, hZ, hh⟩ := hP
  have hx := Bd.exec
  have hby := Bd.bytes
  have hml : c.maxLocals = 6 := hml0
  have hown : s.vm.findClass "java/lang/StringUTF16" = some m.cls := findClass_of_methodNamed Bd.named
  have hnm := (name_of_methodNamed Bd.named Bd.method).1
  have X0 : Stand p l e ({ frames := 3, cells := 2, slots := 6, locals := 40 } : Room) s m #[(.ref ca), (.int 0), (.int 2)] below meth c s₁ [] 0 0 := Stand.of_body Bd
  have e0 : s₁.heap = h0 := by rw [← hh, Bd.state]; rfl
  have N0 := Fr.nil n0
  have pre0 : ∀ t, Steps p.tables e below (s₁.setTop (mkF m 0 #[.val (.ref ca), .val (.int 0), .val (.int 2), .unset, .unset, .unset] [])) t → Steps p.tables e below (s₁.setTop (entryFrame m #[(.ref ca), (.int 0), (.int 2)] 6)) t := fun t k => castTop (ef_own_c32 m) k
  obtain ⟨fb1, g1⟩ : ∃ z, z = h0.size := ⟨_, rfl⟩
  have ne_ca_fb1 : ca ≠ fb1 := Nat.ne_of_lt (Nat.lt_of_lt_of_le KC.lt (Nat.le_of_eq g1.symm))
  have lo_fb1 : n0 ≤ fb1 := Nat.le_trans Z0 (Nat.le_of_eq g1.symm)
  have hi_fb1 : h0.size ≤ fb1 := Nat.le_trans (Keep.refl h0 []).1 (Nat.le_of_eq g1.symm)
  obtain ⟨T1, h1, k1, X1, e1, E1, A1, st1⟩ := newP X0 hx hZ (gw hw 17 rfl) e0 (g := (mkF m 1 #[.val (.ref ca), .val (.int 0), .val (.int 2), .unset, .unset, .unset] [(.int 2)])) rfl (hb hby D19_1) rfl (by decide) (cap := 2) (by decide) (by decide) (by decide) (by decide)
  rw [← g1] at A1 st1
  have V1 : Arv Z h1 fb1 k1 .byte (2 : Int32) [(.int 0), (.int 0)] (.int 0) := (Arv.new A1 (by decide)).pad (pad_rep [] (.int 0) 2)
  have pre2 : ∀ t, Steps p.tables e below (T1.setTop (mkF m 3 #[.val (.ref ca), .val (.int 0), .val (.int 2), .unset, .unset, .unset] [(.ref fb1)])) t → Steps p.tables e below (s₁.setTop (entryFrame m #[(.ref ca), (.int 0), (.int 2)] 6)) t := by
    intro t kk
    refine pre0 t ?_
    refine XS.iloadN X0.here hx rfl (hb hby D19_0) rfl ?_
    exact st1 _ kk
  have fc3 := (KC.ext E1)
  have fc5 := (Nat.le_trans Z0 E1.1)
  obtain ⟨_, _, ⟨T4, L4, k4, n4⟩, -, X4, ⟨Lc4, hQ4, l4, y4, z4⟩, st4⟩ := Jvm.LawKit.callS X1 hx (y := (⟨"java/lang/StringUTF16", "compress", "([CI[BII)I"⟩ : MethodName)) hown (mvT hZ (gw hw 48 rfl)) (mvT hZ (gw hw 49 rfl)) (mvT hZ (gw hw 46 rfl)) (mvT hZ (gw hw 50 rfl)) (by decide) (backOf (W := 0) (own_c52 l Z a0 hw [] ca fb1 kC k1 d0 d1 h1 n0 fc5 fc3 V1 lo_fb1 ne_ca_fb1 hwd) hZ (gw hw 50 rfl) (gw hw 46 rfl) (by decide) (by decide)) (g := (mkF m 9 #[.val (.ref ca), .val (.int 0), .val (.int 2), .val (.ref fb1), .unset, .unset] [(.int 2), (.int 0), (.ref fb1), (.int 0), (.ref ca)])) rfl (by rw [hml]; rfl) (argsL := [(.ref ca), (.int 0), (.ref fb1), (.int 0), (.int 2)]) (rest := []) (lenOf pd___CI_BII_I rfl) rfl (by show 2 * 0 + _ ≤ _; exact Nat.le_of_eq rfl) (hb hby D19_9) (fun _ _ => ⟨rfl, e1, (by decide : 1 + 0 ≤ _), (by decide : 2 + 0 ≤ _)⟩)
  dsimp only [Pt.U, Pt.locs, Pt.cells, Pt.slots] at X4 l4 y4 z4 st4 hQ4
  subst l4 y4 z4
  obtain ⟨jj, rfl, N4q, K4, hj⟩ := hQ4
  have N4 := Fr.app N0 N4q
  have pre6 : ∀ t, Steps p.tables e below (T4.setTop (mkF m 12 #[.val (.ref ca), .val (.int 0), .val (.int 2), .val (.ref fb1), .unset, .unset] [(.int jj)])) t → Steps p.tables e below (s₁.setTop (entryFrame m #[(.ref ca), (.int 0), (.int 2)] 6)) t := by
    intro t kk
    refine pre2 t ?_
    refine XS.astoreN X1.here hx rfl (hb hby D19_3) rfl rfl (l' := #[.val (.ref ca), .val (.int 0), .val (.int 2), .val (.ref fb1), .unset, .unset]) rfl ?_
    refine XS.aloadN X1.here hx rfl (hb hby D19_4) rfl rfl ?_
    refine XS.iloadN X1.here hx rfl (hb hby D19_5) rfl ?_
    refine XS.aloadN X1.here hx rfl (hb hby D19_6) rfl rfl ?_
    refine XS.iconst X1.here hx rfl (hb hby D19_7) ?_
    refine XS.iloadN X1.here hx rfl (hb hby D19_8) rfl ?_
    exact st4 _ kk
  have hjn : ¬ jj = (2 : Int32) := by
    rcases hj with ⟨rfl, hj⟩ | ⟨rfl, hj⟩ <;> decide
  have fc7 := (fc3.keep K4 (ninS ne_ca_fb1 nin0))
  have fc8 := ((XO.ext E1).keep K4 (allS lo_fb1 all0))
  have fc10 := (Nat.le_trans fc5 K4.1)
  obtain ⟨_, _, ⟨T9, L9, k9, n9⟩, -, X9, ⟨Lc9, hQ9, l9, y9, z9⟩, st9⟩ := Jvm.LawKit.callS X4 hx (y := (⟨"java/lang/StringUTF16", "toBytes", "([CII)[B"⟩ : MethodName)) hown (mvT hZ (gw hw 80 rfl)) (mvT hZ (gw hw 81 rfl)) (mvT hZ (gw hw 46 rfl)) (mvT hZ (gw hw 82 rfl)) (by decide) (backOf (W := 0) (own_tb2 l Z a0 hw [] ca kC d0 d1 T4.heap n0 fc10 fc7 AD HB LB fc8) hZ (gw hw 82 rfl) (gw hw 46 rfl) (by decide) (by decide)) (g := (mkF m 23 #[.val (.ref ca), .val (.int 0), .val (.int 2), .val (.ref fb1), .val (.int jj), .unset] [(.int 2), (.int 0), (.ref ca)])) rfl (by rw [hml]; rfl) (argsL := [(.ref ca), (.int 0), (.int 2)]) (rest := []) (lenOf pd___CII__B rfl) rfl (by show 2 * 0 + _ ≤ _; exact Nat.le_of_eq rfl) (hb hby D19_23) (fun _ _ => ⟨rfl, rfl, (by decide : 1 + 1 ≤ _), (by decide : 2 + 4 ≤ _)⟩)
  dsimp only [Pt.U, Pt.locs, Pt.cells, Pt.slots] at X9 l9 y9 z9 st9 hQ9
  subst l9 y9 z9
  obtain ⟨fb, kf, rfl, N9q, K9, gf, Vf⟩ := hQ9
  have N9 := Fr.app N4 N9q
  have pre11 : ∀ t, Steps p.tables e below (T9.setTop (mkF m 26 #[.val (.ref ca), .val (.int 0), .val (.int 2), .val (.ref fb1), .val (.int jj), .unset] [(.ref fb)])) t → Steps p.tables e below (s₁.setTop (entryFrame m #[(.ref ca), (.int 0), (.int 2)] 6)) t := by
    intro t kk
    refine pre6 t ?_
    refine XS.istore X4.here hx rfl (hb hby D19_12) rfl (l' := #[.val (.ref ca), .val (.int 0), .val (.int 2), .val (.ref fb1), .val (.int jj), .unset]) rfl ?_
    refine XS.iload X4.here hx rfl (hb hby D19_14) rfl ?_
    refine XS.iloadN X4.here hx rfl (hb hby D19_16) rfl ?_
    refine XS.icmpNo X4.here hx rfl (hb hby D19_17) rfl (feq hjn).1 ?_
    refine XS.aloadN X4.here hx rfl (hb hby D19_20) rfl rfl ?_
    refine XS.iloadN X4.here hx rfl (hb hby D19_21) rfl ?_
    refine XS.iloadN X4.here hx rfl (hb hby D19_22) rfl ?_
    exact st9 _ kk
  have lo_fb : n0 ≤ fb := Nat.le_trans fc10 gf
  have hi_fb : h0.size ≤ fb := Nat.le_trans (((Keep.refl h0 []).ext E1).trans K4 (allS (Or.inr hi_fb1) all0)).1 gf
  have ne_ca_fb : ca ≠ fb := Nat.ne_of_lt (Nat.lt_of_lt_of_le fc7.lt gf)
  have pre12 : ∀ t, Steps p.tables e below (T9.setTop (mkF m 32 #[.val (.ref ca), .val (.int 0), .val (.int 2), .val (.ref fb1), .val (.int jj), .val (.ref fb)] [(.int jj), (.ref fb)])) t → Steps p.tables e below (s₁.setTop (entryFrame m #[(.ref ca), (.int 0), (.int 2)] 6)) t := by
    intro t kk
    refine pre11 t ?_
    refine XS.astore X9.here hx rfl (hb hby D19_26) rfl rfl (l' := #[.val (.ref ca), .val (.int 0), .val (.int 2), .val (.ref fb1), .val (.int jj), .val (.ref fb)]) rfl ?_
    refine XS.aload X9.here hx rfl (hb hby D19_28) rfl rfl ?_
    refine XS.iload X9.here hx rfl (hb hby D19_30) rfl ?_
    exact kk
  have fc13 := (fc8.keep K9 all0)
  have fc14 := ((((Keep.refl h0 []).ext E1).trans K4 (allS (Or.inr hi_fb1) all0)).trans K9 all0)
  have fc15 := (Nat.le_trans fc10 K9.1)
  rcases hj with ⟨rfl, hj⟩ | ⟨rfl, hj⟩
  · skip
    obtain ⟨_, _, ⟨T16, L16, k16, n16⟩, -, X16, ⟨Lc16, hQ16, l16, y16, z16⟩, st16⟩ := Jvm.LawKit.callS X9 hx (y := (⟨"java/lang/StringUTF16", "getChar", "([BI)C"⟩ : MethodName)) hown (mvT hZ (gw hw 96 rfl)) (mvT hZ (gw hw 97 rfl)) (mvT hZ (gw hw 46 rfl)) (mvT hZ (gw hw 98 rfl)) (by decide) (backOf (W := 0) (own_gc l Z a0 hw [] fb kf [d0, d1] 0 T9.heap n0 fc15 Vf (Nat.le_of_ble_eq_true rfl) (Nat.le_of_ble_eq_true rfl) hd0 AD HB LB fc13) hZ (gw hw 98 rfl) (gw hw 46 rfl) (by decide) (by decide)) (g := (mkF m 32 #[.val (.ref ca), .val (.int 0), .val (.int 2), .val (.ref fb1), .val (.int 0), .val (.ref fb)] [(.int 0), (.ref fb)])) rfl (by rw [hml]; rfl) (argsL := [(.ref fb), (.int 0)]) (rest := []) (lenOf pd___BI_C rfl) rfl (by show 2 * 0 + _ ≤ _; exact Nat.le_of_eq rfl) (hb hby D19_32) (fun _ _ => ⟨rfl, rfl, (by decide : 2 + 0 ≤ _), (by decide : 6 + 0 ≤ _)⟩)
    dsimp only [Pt.U, Pt.locs, Pt.cells, Pt.slots] at X16 l16 y16 z16 st16 hQ16
    subst l16 y16 z16
    obtain ⟨rfl, N16q, e16q⟩ := hQ16
    have N16 := Fr.app N9 N16q
    have pre17 : ∀ t, Steps p.tables e below (T16.setTop (mkF m 35 #[.val (.ref ca), .val (.int 0), .val (.int 2), .val (.ref fb1), .val (.int 0), .val (.ref fb)] [(.int d0)])) t → Steps p.tables e below (s₁.setTop (entryFrame m #[(.ref ca), (.int 0), (.int 2)] 6)) t := by
      intro t kk
      refine pre12 t ?_
      exact st16 _ kk
    obtain ⟨fs, hr, hrun, hended, hW, hsame⟩ := X16.leave (v := some (.ref fb)) (fun h => by rw [Bd.returns] at h; cases h)
    refine ⟨_, _, pre17 _ ?_, hrun, hended, _, _, rfl, ?_, ⟨_, rfl⟩, hW, hsame.mono (by decide) (by decide)⟩
    · refine XS.sipush X16.here hx rfl (hb hby D19_35) ?_
      refine XS.icmpYes X16.here hx rfl (pc0 := 38) (pc' := 54) rfl (hb hby D19_38) rfl (tlt hj).2.2.1 (by decide) (by decide) ?_
      refine XS.aload X16.here hx rfl (hb hby D19_54) rfl rfl ?_
      jvm_step X16.here [X16.here.top, hx, (hb hby D19_56), X16.method', Bd.returns, Value.isRef, FieldType.isReference]
      first | (intro acts; rw [hr _ acts rfl rfl rfl]) | rw [hr _ _ rfl rfl rfl]
      exact Steps.refl _
    · show Q_own_c32 Z ca kC d0 d1 h0 n0 _ T16.heap _
      rw [e16q]
      exact ⟨fb, kf, rfl, N16, fc14, hi_fb, Vf⟩
  · skip
    obtain ⟨_, _, ⟨T18, L18, k18, n18⟩, -, X18, ⟨Lc18, hQ18, l18, y18, z18⟩, st18⟩ := Jvm.LawKit.callS X9 hx (y := (⟨"java/lang/StringUTF16", "getChar", "([BI)C"⟩ : MethodName)) hown (mvT hZ (gw hw 96 rfl)) (mvT hZ (gw hw 97 rfl)) (mvT hZ (gw hw 46 rfl)) (mvT hZ (gw hw 98 rfl)) (by decide) (backOf (W := 0) (own_gc l Z a0 hw [] fb kf [d0, d1] 1 T9.heap n0 fc15 Vf (Nat.le_of_ble_eq_true rfl) (Nat.le_of_ble_eq_true rfl) hd1 AD HB LB fc13) hZ (gw hw 98 rfl) (gw hw 46 rfl) (by decide) (by decide)) (g := (mkF m 32 #[.val (.ref ca), .val (.int 0), .val (.int 2), .val (.ref fb1), .val (.int 1), .val (.ref fb)] [(.int 1), (.ref fb)])) rfl (by rw [hml]; rfl) (argsL := [(.ref fb), (.int 1)]) (rest := []) (lenOf pd___BI_C rfl) rfl (by show 2 * 0 + _ ≤ _; exact Nat.le_of_eq rfl) (hb hby D19_32) (fun _ _ => ⟨rfl, rfl, (by decide : 2 + 0 ≤ _), (by decide : 6 + 0 ≤ _)⟩)
    dsimp only [Pt.U, Pt.locs, Pt.cells, Pt.slots] at X18 l18 y18 z18 st18 hQ18
    subst l18 y18 z18
    obtain ⟨rfl, N18q, e18q⟩ := hQ18
    have N18 := Fr.app N9 N18q
    have pre19 : ∀ t, Steps p.tables e below (T18.setTop (mkF m 35 #[.val (.ref ca), .val (.int 0), .val (.int 2), .val (.ref fb1), .val (.int 1), .val (.ref fb)] [(.int d1)])) t → Steps p.tables e below (s₁.setTop (entryFrame m #[(.ref ca), (.int 0), (.int 2)] 6)) t := by
      intro t kk
      refine pre12 t ?_
      exact st18 _ kk
    obtain ⟨fs, hr, hrun, hended, hW, hsame⟩ := X18.leave (v := some (.ref fb)) (fun h => by rw [Bd.returns] at h; cases h)
    refine ⟨_, _, pre19 _ ?_, hrun, hended, _, _, rfl, ?_, ⟨_, rfl⟩, hW, hsame.mono (by decide) (by decide)⟩
    · refine XS.sipush X18.here hx rfl (hb hby D19_35) ?_
      refine XS.icmpYes X18.here hx rfl (pc0 := 38) (pc' := 54) rfl (hb hby D19_38) rfl (tlt hj).2.2.1 (by decide) (by decide) ?_
      refine XS.aload X18.here hx rfl (hb hby D19_54) rfl rfl ?_
      jvm_step X18.here [X18.here.top, hx, (hb hby D19_56), X18.method', Bd.returns, Value.isRef, FieldType.isReference]
      first | (intro acts; rw [hr _ acts rfl rfl rfl]) | rw [hr _ _ rfl rfl rfl]
      exact Steps.refl _
    · show Q_own_c32 Z ca kC d0 d1 h0 n0 _ T18.heap _
      rw [e18q]
      exact ⟨fb, kf, rfl, N18, fc14, hi_fb, Vf⟩
theorem ef_own_cf2 (m : MethodId) {sb : Addr} : entryFrame m #[(.ref sb), (.int 2)] 2 = mkF m 0 #[.val (.ref sb), .val (.int 2)] [] := by first | (simp [entryFrame, mkF, argsToLocals, Value.category]; done) | rfl
def Q_own_cf2 (Z : State) (sb : Addr) (kS : ClassId) (us : List Value) (h0 : Heap) (n0 : Nat) (v : Option Value) (h : Heap) (L : List Loc) : Prop := v = some (.int 1) ∧ Fr n0 L ∧ h = h0
set_option maxRecDepth 65536 in
set_option maxHeartbeats 40000000 in
theorem own_cf2 (l : Launch) (Z : State) (a0 : Array Value) (hw : ∀ d ∈ tables_1, d.before a0 Z = true) (ws : List Jvm.Cond) (sb : Addr) (kS : ClassId) (us : List Value) (h0 : Heap) (n0 : Nat) (Z0 : n0 ≤ h0.size) (KS : Arv Z h0 sb kS .byte (4 : Int32) us (.int 0)) :
    MetFree l (⟨"java/lang/StringUTF16", "coderFromArrayLen", "([BI)B"⟩ : MethodName) (head1 (Jvm.Cond.code (⟨"java/lang/StringUTF16", "coderFromArrayLen", "([BI)B"⟩ : MethodName) jdk_52_method_15_code 2 (some .byte) :: ws) ({ frames := 0, cells := 0, slots := 0, locals := 0 } : Room)) (fun a U => a = #[(.ref sb), (.int 2)] ∧ Z.Warmed39 U.vm ∧ U.heap = h0) (fun _ _ _ _ _ => True) (fun _ U o U' => ∃ v L, o = .returned v ∧ Q_own_cf2 Z sb kS us h0 n0 v U'.heap L ∧ FrameEnd U o U' L ({ frames := 0, cells := 0, slots := 0, locals := 0 } : Room).cells ({ frames := 0, cells := 0, slots := 0, locals := 0 } : Room).slots) := by
  refine MetFree.of_bodySF (plainFor_of_name pn_java_lang_StringUTF16) hisR ?_
  intro p e s m args below meth c s₁ Bd hml0 hP hK
  obtain ⟨rfl, hZ, hh⟩ := hP
  have hx := Bd.exec
  have hby := Bd.bytes
  have hml : c.maxLocals = 2 := hml0
  have hown : s.vm.findClass "java/lang/StringUTF16" = some m.cls := findClass_of_methodNamed Bd.named
  have hnm := (name_of_methodNamed Bd.named Bd.method).1
  have X0 : Stand p l e ({ frames := 0, cells := 0, slots := 0, locals := 0 } : Room) s m #[(.ref sb), (.int 2)] below meth c s₁ [] 0 0 := Stand.of_body Bd
  have e0 : s₁.heap = h0 := by rw [← hh, Bd.state]; rfl
  have N0 := Fr.nil n0
  have pre0 : ∀ t, Steps p.tables e below (s₁.setTop (mkF m 0 #[.val (.ref sb), .val (.int 2)] [])) t → Steps p.tables e below (s₁.setTop (entryFrame m #[(.ref sb), (.int 2)] 2)) t := fun t k => castTop (ef_own_cf2 m) k
  obtain ⟨cl1, Ar1, q1, S1, M1, H1, Gv1⟩ := id KS
  have pre2 : ∀ t, Steps p.tables e below (s₁.setTop (mkF m 8 #[.val (.ref sb), .val (.int 2)] [(.int (((((2 : Int32) - (4 : Int32)).toUInt32 >>> ((31 : Int32) &&& 31).toUInt32).toInt32).toInt8.toInt32))])) t → Steps p.tables e below (s₁.setTop (entryFrame m #[(.ref sb), (.int 2)] 2)) t := by
    intro t kk
    refine pre0 t ?_
    refine XS.iloadN X0.here hx rfl (hb hby D20_0) rfl ?_
    refine XS.aloadN X0.here hx rfl (hb hby D20_1) rfl rfl ?_
    refine X0.arraylength hx (by rw [e0]; exact Ar1.1) (State.isArrayOf_alike hZ.alike Ar1.2.1) (g := (mkF m 2 #[.val (.ref sb), .val (.int 2)] [(.ref sb), (.int 2)])) rfl rfl (hb hby D20_2) _ ?_
    rw [len_of S1 M1]
    refine XS.isub X0.here hx rfl (hb hby D20_3) rfl ?_
    refine XS.bipush X0.here hx rfl (hb hby D20_4) ?_
    refine XS.iushr X0.here hx rfl (hb hby D20_6) rfl ?_
    refine XS.i2b X0.here hx rfl (hb hby D20_7) rfl ?_
    exact kk
  rw [(by decide : (((((2 : Int32) - (4 : Int32)).toUInt32 >>> ((31 : Int32) &&& 31).toUInt32).toInt32).toInt8.toInt32) = (1 : Int32))] at pre2
  obtain ⟨fs, hr, hrun, hended, hW, hsame⟩ := X0.leave (v := some (.int 1)) (fun h => by rw [Bd.returns] at h; cases h)
  refine ⟨_, _, pre2 _ ?_, hrun, hended, _, _, rfl, ?_, ⟨_, rfl⟩, hW, hsame.mono (by decide) (by decide)⟩
  · exact retN X0 hx (t := .byte) Bd.returns (by simp) (hb hby D20_8) hr
  · show Q_own_cf2 Z sb kS us h0 n0 _ s₁.heap _
    rw [e0]
    exact ⟨rfl, N0, rfl⟩
theorem ef_own_i42 (m : MethodId) {a1 : Addr} {ca : Addr} : entryFrame m #[(.ref a1), (.ref ca), (.int 0), (.int 2), .null] 6 = mkF m 0 #[.val (.ref a1), .val (.ref ca), .val (.int 0), .val (.int 2), .val .null, .unset] [] := by first | (simp [entryFrame, mkF, argsToLocals, Value.category]; done) | rfl
def Q_own_i42 (Z : State) (a1 ca : Addr) (kC : ClassId) (d0 d1 : Int32) (G1 : Int32) (h0 : Heap) (n0 : Nat) (v : Option Value) (h : Heap) (L : List Loc) : Prop := v = none ∧ Fr n0 L ∧ Keep h0 h [a1] ∧ ∃ (b : Addr) (k : ClassId), h0.size ≤ b ∧ Fld Z h a1 "java/lang/String" "value" "[B" (.ref b) ∧ Fld Z h a1 "java/lang/String" "coder" "B" (.int 1) ∧ Arv Z h b k .byte (4 : Int32) [(.int (StrChars.lo8 d0)), (.int (StrChars.hi8 d0)), (.int (StrChars.lo8 d1)), (.int (StrChars.hi8 d1))] (.int 0)
set_option maxRecDepth 65536 in
set_option maxHeartbeats 40000000 in
theorem own_i42 (l : Launch) (Z : State) (a0 : Array Value) (hw : ∀ d ∈ tables_1, d.before a0 Z = true) (ws : List Jvm.Cond) (a1 ca : Addr) (kC : ClassId) (d0 d1 : Int32) (G1 : Int32) (h0 : Heap) (n0 : Nat) (Z0 : n0 ≤ h0.size) (O1 : Obj Z h0 a1 "java/lang/String") (g1 : n0 ≤ a1) (KC : Arv Z h0 ca kC .char (2 : Int32) [(.int d0), (.int d1)] (.int 0)) (hd0 : ¬ d0 < 0 ∧ ¬ (65535 : Int32) < d0) (hd1 : ¬ d1 < 0 ∧ ¬ (65535 : Int32) < d1) (hwd : (255 : Int32) < d0 ∨ (255 : Int32) < d1) (AD : Sta Z Z.heap "java/lang/StringUTF16" "$assertionsDisabled" "Z" (.int 1)) (HB : Sta Z Z.heap "java/lang/StringUTF16" "HI_BYTE_SHIFT" "I" (.int 0)) (LB : Sta Z Z.heap "java/lang/StringUTF16" "LO_BYTE_SHIFT" "I" (.int 8)) (O2 : Sta Z Z.heap "java/lang/String" "COMPACT_STRINGS" "Z" (.int G1)) (P5 : ¬ G1 = (0 : Int32)) (XO : Old Z n0 h0) :
    MetFree l (⟨"java/lang/String", "<init>", "([CIILjava/lang/Void;)V"⟩ : MethodName) (head1 (Jvm.Cond.code (⟨"java/lang/String", "<init>", "([CIILjava/lang/Void;)V"⟩ : MethodName) jdk_42_method_149_code 6 none :: ws) ({ frames := 4, cells := 2, slots := 6, locals := 57 } : Room)) (fun a U => a = #[(.ref a1), (.ref ca), (.int 0), (.int 2), .null] ∧ Z.Warmed39 U.vm ∧ U.heap = h0) (fun _ _ _ _ _ => True) (fun _ U o U' => ∃ v L, o = .returned v ∧ Q_own_i42 Z a1 ca kC d0 d1 G1 h0 n0 v U'.heap L ∧ FrameEnd U o U' L ({ frames := 4, cells := 2, slots := 6, locals := 57 } : Room).cells ({ frames := 4, cells := 2, slots := 6, locals := 57 } : Room).slots) := by
  refine MetFree.of_bodySF (plainFor_of_name pn_java_lang_String) hisR ?_
  intro p e s m args below meth c s₁ Bd hml0 hP hK
  obtain ⟨rfl, hZ, hh⟩ := hP
  have hx := Bd.exec
  have hby := Bd.bytes
  have hml : c.maxLocals = 6 := hml0
  have hown : s.vm.findClass "java/lang/String" = some m.cls := findClass_of_methodNamed Bd.named
  have hnm := (name_of_methodNamed Bd.named Bd.method).1
  have X0 : Stand p l e ({ frames := 4, cells := 2, slots := 6, locals := 57 } : Room) s m #[(.ref a1), (.ref ca), (.int 0), (.int 2), .null] below meth c s₁ [] 0 0 := Stand.of_body Bd
  have e0 : s₁.heap = h0 := by rw [← hh, Bd.state]; rfl
  have N0 := Fr.nil n0
  have pre0 : ∀ t, Steps p.tables e below (s₁.setTop (mkF m 0 #[.val (.ref a1), .val (.ref ca), .val (.int 0), .val (.int 2), .val .null, .unset] [])) t → Steps p.tables e below (s₁.setTop (entryFrame m #[(.ref a1), (.ref ca), (.int 0), (.int 2), .null] 6)) t := fun t k => castTop (ef_own_i42 m) k
  obtain ⟨T1, X1, e1, st1⟩ := initO X0 hx hZ hown (gw hw 13 rfl) (gw hw 14 rfl) (gw hw 15 rfl) e0 (g := (mkF m 1 #[.val (.ref a1), .val (.ref ca), .val (.int 0), .val (.int 2), .val .null, .unset] [(.ref a1)])) rfl (by rw [hml]; rfl) rfl (hb hby D21_1) (by decide) (W := 0) (by show 2 * 0 + _ ≤ _; exact Nat.le_of_eq rfl) (by decide)
  have pre2 : ∀ t, Steps p.tables e below (T1.setTop (mkF m 4 #[.val (.ref a1), .val (.ref ca), .val (.int 0), .val (.int 2), .val .null, .unset] [])) t → Steps p.tables e below (s₁.setTop (entryFrame m #[(.ref a1), (.ref ca), (.int 0), (.int 2), .null] 6)) t := by
    intro t kk
    refine pre0 t ?_
    refine XS.aloadN X0.here hx rfl (hb hby D21_0) rfl rfl ?_
    exact st1 _ kk
  have hbr3 : ¬ ((2 : Int32) = (0 : Int32)) := by decide
  obtain ⟨T4, X4, e4, st4⟩ := getS2 X1 hx hZ hown (host := "") (Or.inl (gw hw 43 rfl)) Via.refl e1 (O2.ext XO.2) (g := (mkF m 27 #[.val (.ref a1), .val (.ref ca), .val (.int 0), .val (.int 2), .val .null, .unset] [])) rfl (hb hby D21_27)
  have pre5 : ∀ t, Steps p.tables e below (T4.setTop (mkF m 30 #[.val (.ref a1), .val (.ref ca), .val (.int 0), .val (.int 2), .val .null, .unset] [(.int G1)])) t → Steps p.tables e below (s₁.setTop (entryFrame m #[(.ref a1), (.ref ca), (.int 0), (.int 2), .null] 6)) t := by
    intro t kk
    refine pre2 t ?_
    refine XS.iloadN X1.here hx rfl (hb hby D21_4) rfl ?_
    refine XS.ifYes X1.here hx rfl (pc0 := 5) (pc' := 27) rfl (hb hby D21_5) rfl ((if0 _ _).trans (feq hbr3).2) (by decide) (by decide) ?_
    exact st4 _ kk
  obtain ⟨_, _, ⟨T6, L6, k6, n6⟩, -, X6, ⟨Lc6, hQ6, l6, y6, z6⟩, st6⟩ := Jvm.LawKit.callS X4 hx (y := (⟨"java/lang/StringUTF16", "compress", "([CII)[B"⟩ : MethodName)) hown (mvT hZ (gw hw 44 rfl)) (mvT hZ (gw hw 45 rfl)) (mvT hZ (gw hw 46 rfl)) (mvT hZ (gw hw 47 rfl)) (by decide) (backOf (W := 0) (own_c32 l Z a0 hw [] ca kC d0 d1 h0 n0 Z0 KC hd0 hd1 hwd AD HB LB XO) hZ (gw hw 47 rfl) (gw hw 46 rfl) (by decide) (by decide)) (g := (mkF m 36 #[.val (.ref a1), .val (.ref ca), .val (.int 0), .val (.int 2), .val .null, .unset] [(.int 2), (.int 0), (.ref ca)])) rfl (by rw [hml]; rfl) (argsL := [(.ref ca), (.int 0), (.int 2)]) (rest := []) (lenOf pd___CII__B rfl) rfl (by show 2 * 0 + _ ≤ _; exact Nat.le_of_eq rfl) (hb hby D21_36) (fun _ _ => ⟨rfl, e4, (by decide : 0 + 2 ≤ _), (by decide : 0 + 6 ≤ _)⟩)
  dsimp only [Pt.U, Pt.locs, Pt.cells, Pt.slots] at X6 l6 y6 z6 st6 hQ6
  subst l6 y6 z6
  obtain ⟨fb, kf, rfl, N6q, K6, gf, Vf⟩ := hQ6
  have N6 := Fr.app N0 N6q
  have pre7 : ∀ t, Steps p.tables e below (T6.setTop (mkF m 39 #[.val (.ref a1), .val (.ref ca), .val (.int 0), .val (.int 2), .val .null, .unset] [(.ref fb)])) t → Steps p.tables e below (s₁.setTop (entryFrame m #[(.ref a1), (.ref ca), (.int 0), (.int 2), .null] 6)) t := by
    intro t kk
    refine pre5 t ?_
    refine XS.ifNo X4.here hx rfl (hb hby D21_30) rfl ((if0 _ _).trans (feq P5).1) ?_
    refine XS.aloadN X4.here hx rfl (hb hby D21_33) rfl rfl ?_
    refine XS.iloadN X4.here hx rfl (hb hby D21_34) rfl ?_
    refine XS.iloadN X4.here hx rfl (hb hby D21_35) rfl ?_
    exact st6 _ kk
  have lo_fb : n0 ≤ fb := Nat.le_trans Z0 gf
  have hi_fb : h0.size ≤ fb := Nat.le_trans (Keep.refl h0 [a1]).1 gf
  have ne_a1_fb : a1 ≠ fb := Nat.ne_of_lt (Nat.lt_of_lt_of_le O1.lt gf)
  have ne_ca_fb : ca ≠ fb := Nat.ne_of_lt (Nat.lt_of_lt_of_le KC.lt gf)
  have fc9 := (Nat.le_trans Z0 K6.1)
  obtain ⟨_, _, ⟨T8, L8, k8, n8⟩, -, X8, ⟨Lc8, hQ8, l8, y8, z8⟩, st8⟩ := Jvm.LawKit.callS X6 hx (y := (⟨"java/lang/StringUTF16", "coderFromArrayLen", "([BI)B"⟩ : MethodName)) hown (mvT hZ (gw hw 51 rfl)) (mvT hZ (gw hw 52 rfl)) (mvT hZ (gw hw 46 rfl)) (mvT hZ (gw hw 53 rfl)) (by decide) (backOf (W := 1) (own_cf2 l Z a0 hw [] fb kf _ T6.heap n0 fc9 Vf) hZ (gw hw 53 rfl) (gw hw 46 rfl) (by decide) (by decide)) (g := (mkF m 45 #[.val (.ref a1), .val (.ref ca), .val (.int 0), .val (.int 2), .val .null, .val (.ref fb)] [(.int 2), (.ref fb), (.ref a1)])) rfl (by rw [hml]; rfl) (argsL := [(.ref fb), (.int 2)]) (rest := [(.ref a1)]) (lenOf pd___BI_B rfl) rfl (by show 2 * 0 + _ ≤ _; exact Nat.le_of_eq rfl) (hb hby D21_45) (fun _ _ => ⟨rfl, rfl, (by decide : 2 + 0 ≤ _), (by decide : 6 + 0 ≤ _)⟩)
  dsimp only [Pt.U, Pt.locs, Pt.cells, Pt.slots] at X8 l8 y8 z8 st8 hQ8
  subst l8 y8 z8
  obtain ⟨rfl, N8q, e8q⟩ := hQ8
  have N8 := Fr.app N6 N8q
  have pre10 : ∀ t, Steps p.tables e below (T8.setTop (mkF m 48 #[.val (.ref a1), .val (.ref ca), .val (.int 0), .val (.int 2), .val .null, .val (.ref fb)] [(.int 1), (.ref a1)])) t → Steps p.tables e below (s₁.setTop (entryFrame m #[(.ref a1), (.ref ca), (.int 0), (.int 2), .null] 6)) t := by
    intro t kk
    refine pre7 t ?_
    refine XS.astore X6.here hx rfl (hb hby D21_39) rfl rfl (l' := #[.val (.ref a1), .val (.ref ca), .val (.int 0), .val (.int 2), .val .null, .val (.ref fb)]) rfl ?_
    refine XS.aloadN X6.here hx rfl (hb hby D21_41) rfl rfl ?_
    refine XS.aload X6.here hx rfl (hb hby D21_42) rfl rfl ?_
    refine XS.iloadN X6.here hx rfl (hb hby D21_44) rfl ?_
    exact st8 _ kk
  have fc11 := (O1.keep K6)
  obtain ⟨u12, U12⟩ := Obj.fld fc11 (Or.inr (gw hw 19 rfl)) (gw hw 4 rfl)
  obtain ⟨T12, h12, X12, e12, W12, st12⟩ := putF X8 hx hZ hown (host := "") (Or.inl (gw hw 23 rfl)) Via.refl e8q U12 fc11.exa (Or.inr ⟨(gw hw 19 rfl), rfl, hnm⟩) (gw hw 4 rfl) (ty := .byte) (by decide) rfl rfl (g := (mkF m 48 #[.val (.ref a1), .val (.ref ca), .val (.int 0), .val (.int 2), .val .null, .val (.ref fb)] [(.int 1), (.ref a1)])) rfl rfl (hb hby D21_48)
  have N12 := Fr.snoc X12 N8 g1
  have Fw12 := U12.same W12
  have pre13 : ∀ t, Steps p.tables e below (T12.setTop (mkF m 51 #[.val (.ref a1), .val (.ref ca), .val (.int 0), .val (.int 2), .val .null, .val (.ref fb)] [])) t → Steps p.tables e below (s₁.setTop (entryFrame m #[(.ref a1), (.ref ca), (.int 0), (.int 2), .null] 6)) t := by
    intro t kk
    refine pre10 t ?_
    exact st12 _ kk
  have fc14 := (fc11.wr W12)
  obtain ⟨u15, U15⟩ := Obj.fld fc14 (Or.inr (gw hw 18 rfl)) (gw hw 4 rfl)
  obtain ⟨T15, h15, X15, e15, W15, st15⟩ := putF X12 hx hZ hown (host := "") (Or.inl (gw hw 22 rfl)) Via.refl e12 U15 fc14.exa (Or.inr ⟨(gw hw 18 rfl), rfl, hnm⟩) (gw hw 4 rfl) (ty := (.array .byte)) (by decide) rfl rfl (g := (mkF m 54 #[.val (.ref a1), .val (.ref ca), .val (.int 0), .val (.int 2), .val .null, .val (.ref fb)] [(.ref fb), (.ref a1)])) rfl rfl (hb hby D21_54)
  have N15 := Fr.snoc X15 N12 g1
  have Fw15 := U15.same W15
  have pre16 : ∀ t, Steps p.tables e below (T15.setTop (mkF m 57 #[.val (.ref a1), .val (.ref ca), .val (.int 0), .val (.int 2), .val .null, .val (.ref fb)] [])) t → Steps p.tables e below (s₁.setTop (entryFrame m #[(.ref a1), (.ref ca), (.int 0), (.int 2), .null] 6)) t := by
    intro t kk
    refine pre13 t ?_
    refine XS.aloadN X12.here hx rfl (hb hby D21_51) rfl rfl ?_
    refine XS.aload X12.here hx rfl (hb hby D21_52) rfl rfl ?_
    exact st15 _ kk
  have fc17 := ((((Keep.refl h0 [a1]).trans K6 all0).wr W12 (Or.inl (List.mem_of_getElem? (i := 0) rfl))).wr W15 (Or.inl (List.mem_of_getElem? (i := 0) rfl)))
  have fc18 := (Fw12.other W15 (Or.inr (slot_ne (Or.inr (gw hw 19 rfl)) (Or.inr (gw hw 18 rfl)) (by decide) (t := .byte) (t' := (.array .byte)) (by decide) (by decide))))
  have fc19 := ((Vf.other W12 (Ne.symm ne_a1_fb)).other W15 (Ne.symm ne_a1_fb))
  obtain ⟨fs, hr, hrun, hended, hW, hsame⟩ := X15.leave (v := none) (fun _ => rfl)
  refine ⟨_, _, pre16 _ ?_, hrun, hended, _, _, rfl, ?_, ⟨_, rfl⟩, hW, hsame.mono (by decide) (by decide)⟩
  · exact X15.returnOut hx Bd.returns (hb hby D21_57) hr
  · show Q_own_i42 Z a1 ca kC d0 d1 G1 h0 n0 _ T15.heap _
    rw [e15]
    exact ⟨rfl, N15, fc17, fb, kf, hi_fb, Fw15, fc18, fc19⟩
theorem ef_own_i12 (m : MethodId) {a1 : Addr} {ca : Addr} : entryFrame m #[(.ref a1), (.ref ca)] 2 = mkF m 0 #[.val (.ref a1), .val (.ref ca)] [] := by first | (simp [entryFrame, mkF, argsToLocals, Value.category]; done) | rfl
def Q_own_i12 (Z : State) (a1 ca : Addr) (kC : ClassId) (d0 d1 : Int32) (G1 : Int32) (h0 : Heap) (n0 : Nat) (v : Option Value) (h : Heap) (L : List Loc) : Prop := v = none ∧ Fr n0 L ∧ Keep h0 h [a1] ∧ ∃ (b : Addr) (k : ClassId), h0.size ≤ b ∧ Fld Z h a1 "java/lang/String" "value" "[B" (.ref b) ∧ Fld Z h a1 "java/lang/String" "coder" "B" (.int 1) ∧ Arv Z h b k .byte (4 : Int32) [(.int (StrChars.lo8 d0)), (.int (StrChars.hi8 d0)), (.int (StrChars.lo8 d1)), (.int (StrChars.hi8 d1))] (.int 0)
set_option maxRecDepth 65536 in
set_option maxHeartbeats 40000000 in
theorem own_i12 (l : Launch) (Z : State) (a0 : Array Value) (hw : ∀ d ∈ tables_1, d.before a0 Z = true) (ws : List Jvm.Cond) (a1 ca : Addr) (kC : ClassId) (d0 d1 : Int32) (G1 : Int32) (h0 : Heap) (n0 : Nat) (Z0 : n0 ≤ h0.size) (O1 : Obj Z h0 a1 "java/lang/String") (g1 : n0 ≤ a1) (KC : Arv Z h0 ca kC .char (2 : Int32) [(.int d0), (.int d1)] (.int 0)) (hd0 : ¬ d0 < 0 ∧ ¬ (65535 : Int32) < d0) (hd1 : ¬ d1 < 0 ∧ ¬ (65535 : Int32) < d1) (hwd : (255 : Int32) < d0 ∨ (255 : Int32) < d1) (AD : Sta Z Z.heap "java/lang/StringUTF16" "$assertionsDisabled" "Z" (.int 1)) (HB : Sta Z Z.heap "java/lang/StringUTF16" "HI_BYTE_SHIFT" "I" (.int 0)) (LB : Sta Z Z.heap "java/lang/StringUTF16" "LO_BYTE_SHIFT" "I" (.int 8)) (O2 : Sta Z Z.heap "java/lang/String" "COMPACT_STRINGS" "Z" (.int G1)) (P5 : ¬ G1 = (0 : Int32)) (XO : Old Z n0 h0) :
    MetFree l (⟨"java/lang/String", "<init>", "([C)V"⟩ : MethodName) (head1 (Jvm.Cond.code (⟨"java/lang/String", "<init>", "([C)V"⟩ : MethodName) jdk_42_method_3_code 2 none :: ws) ({ frames := 5, cells := 2, slots := 6, locals := 74 } : Room)) (fun a U => a = #[(.ref a1), (.ref ca)] ∧ Z.Warmed39 U.vm ∧ U.heap = h0) (fun _ _ _ _ _ => True) (fun _ U o U' => ∃ v L, o = .returned v ∧ Q_own_i12 Z a1 ca kC d0 d1 G1 h0 n0 v U'.heap L ∧ FrameEnd U o U' L ({ frames := 5, cells := 2, slots := 6, locals := 74 } : Room).cells ({ frames := 5, cells := 2, slots := 6, locals := 74 } : Room).slots) := by
  refine MetFree.of_bodySF (plainFor_of_name pn_java_lang_String) hisR ?_
  intro p e s m args below meth c s₁ Bd hml0 hP hK
  obtain ⟨rfl, hZ, hh⟩ := hP
  have hx := Bd.exec
  have hby := Bd.bytes
  have hml : c.maxLocals = 2 := hml0
  have hown : s.vm.findClass "java/lang/String" = some m.cls := findClass_of_methodNamed Bd.named
  have hnm := (name_of_methodNamed Bd.named Bd.method).1
  have X0 : Stand p l e ({ frames := 5, cells := 2, slots := 6, locals := 74 } : Room) s m #[(.ref a1), (.ref ca)] below meth c s₁ [] 0 0 := Stand.of_body Bd
  have e0 : s₁.heap = h0 := by rw [← hh, Bd.state]; rfl
  have N0 := Fr.nil n0
  have pre0 : ∀ t, Steps p.tables e below (s₁.setTop (mkF m 0 #[.val (.ref a1), .val (.ref ca)] [])) t → Steps p.tables e below (s₁.setTop (entryFrame m #[(.ref a1), (.ref ca)] 2)) t := fun t k => castTop (ef_own_i12 m) k
  obtain ⟨cl1, Ar1, q1, S1, M1, H1, Gv1⟩ := id KC
  obtain ⟨_, _, ⟨T2, L2, k2, n2⟩, -, X2, ⟨Lc2, hQ2, l2, y2, z2⟩, st2⟩ := X0.specialBack hx (y := (⟨"java/lang/String", "<init>", "([CIILjava/lang/Void;)V"⟩ : MethodName)) rfl hown (mvT hZ (gw hw 9 rfl)) (mvT hZ (gw hw 10 rfl)) (mvT hZ (gw hw 12 rfl)) (by decide) (backOf (W := 0) (own_i42 l Z a0 hw [] a1 ca kC d0 d1 G1 h0 n0 Z0 O1 g1 KC hd0 hd1 hwd AD HB LB O2 P5 XO) hZ (gw hw 12 rfl) (gw hw 5 rfl) (by decide) (by decide)) (g := (mkF m 6 #[.val (.ref a1), .val (.ref ca)] [.null, (.int 2), (.int 0), (.ref ca), (.ref a1)])) rfl (by rw [hml]; rfl) (Steps.refl _) (a := a1) (argsL := [(.ref ca), (.int 0), (.int 2), .null]) (rest := []) (lenOf pd___CIILjava_lang_Void__V rfl) rfl (by show 2 * 0 + _ ≤ _; exact Nat.le_of_eq rfl) (hb hby D22_6) (fun _ _ => ⟨rfl, e0, (by decide : 0 + 2 ≤ _), (by decide : 0 + 6 ≤ _)⟩)
  dsimp only [Pt.U, Pt.locs, Pt.cells, Pt.slots] at X2 l2 y2 z2 st2 hQ2
  subst l2 y2 z2
  obtain ⟨rfl, N2q, K2, bq, kq, z1, z2, z3, z4⟩ := hQ2
  have N2 := Fr.app N0 N2q
  have pre3 : ∀ t, Steps p.tables e below (T2.setTop (mkF m 9 #[.val (.ref a1), .val (.ref ca)] [])) t → Steps p.tables e below (s₁.setTop (entryFrame m #[(.ref a1), (.ref ca)] 2)) t := by
    intro t kk
    refine pre0 t ?_
    refine XS.aloadN X0.here hx rfl (hb hby D22_0) rfl rfl ?_
    refine XS.aloadN X0.here hx rfl (hb hby D22_1) rfl rfl ?_
    refine XS.iconst X0.here hx rfl (hb hby D22_2) ?_
    refine XS.aloadN X0.here hx rfl (hb hby D22_3) rfl rfl ?_
    refine X0.arraylength hx (by rw [e0]; exact Ar1.1) (State.isArrayOf_alike hZ.alike Ar1.2.1) (g := (mkF m 4 #[.val (.ref a1), .val (.ref ca)] [(.ref ca), (.int 0), (.ref ca), (.ref a1)])) rfl rfl (hb hby D22_4) _ ?_
    rw [len_of S1 M1]
    refine XS.aconstNull X0.here hx rfl (hb hby D22_5) ?_
    exact st2.trans kk
  have fc4 := ((Keep.refl h0 [a1]).trans K2 (allS (Or.inl (List.mem_of_getElem? (i := 0) rfl)) all0))
  obtain ⟨fs, hr, hrun, hended, hW, hsame⟩ := X2.leave (v := none) (fun _ => rfl)
  refine ⟨_, _, pre3 _ ?_, hrun, hended, _, _, rfl, ?_, ⟨_, rfl⟩, hW, hsame.mono (by decide) (by decide)⟩
  · exact X2.returnOut hx Bd.returns (hb hby D22_9) hr
  · show Q_own_i12 Z a1 ca kC d0 d1 G1 h0 n0 _ T2.heap _
    exact ⟨rfl, N2, fc4, bq, kq, z1, z2, z3, z4⟩
theorem ef_own_nl3 (m : MethodId)  : entryFrame m #[(.int 3)] 1 = mkF m 0 #[.val (.int 3)] [] := by first | (simp [entryFrame, mkF, argsToLocals, Value.category]; done) | rfl
def Q_own_nl3 (Z : State)  (h0 : Heap) (n0 : Nat) (v : Option Value) (h : Heap) (L : List Loc) : Prop := v = some (.int 6) ∧ Fr n0 L ∧ h = h0
set_option maxRecDepth 65536 in
set_option maxHeartbeats 40000000 in
theorem own_nl3 (l : Launch) (Z : State) (a0 : Array Value) (hw : ∀ d ∈ tables_1, d.before a0 Z = true) (ws : List Jvm.Cond)  (h0 : Heap) (n0 : Nat) (Z0 : n0 ≤ h0.size)  :
    MetFree l (⟨"java/lang/StringUTF16", "newBytesLength", "(I)I"⟩ : MethodName) (head1 (Jvm.Cond.code (⟨"java/lang/StringUTF16", "newBytesLength", "(I)I"⟩ : MethodName) jdk_52_method_3_code 1 (some .int) :: ws) ({ frames := 0, cells := 0, slots := 0, locals := 0 } : Room)) (fun a U => a = #[(.int 3)] ∧ Z.Warmed39 U.vm ∧ U.heap = h0) (fun _ _ _ _ _ => True) (fun _ U o U' => ∃ v L, o = .returned v ∧ Q_own_nl3 Z  h0 n0 v U'.heap L ∧ FrameEnd U o U' L ({ frames := 0, cells := 0, slots := 0, locals := 0 } : Room).cells ({ frames := 0, cells := 0, slots := 0, locals := 0 } : Room).slots) := by
  refine MetFree.of_bodySF (plainFor_of_name pn_java_lang_StringUTF16) hisR ?_
  intro p e s m args below meth c s₁ Bd hml0 hP hK
  obtain ⟨rfl, hZ, hh⟩ := hP
  have hx := Bd.exec
  have hby := Bd.bytes
  have hml : c.maxLocals = 1 := hml0
  have hown : s.vm.findClass "java/lang/StringUTF16" = some m.cls := findClass_of_methodNamed Bd.named
  have hnm := (name_of_methodNamed Bd.named Bd.method).1
  have X0 : Stand p l e ({ frames := 0, cells := 0, slots := 0, locals := 0 } : Room) s m #[(.int 3)] below meth c s₁ [] 0 0 := Stand.of_body Bd
  have e0 : s₁.heap = h0 := by rw [← hh, Bd.state]; rfl
  have N0 := Fr.nil n0
  have pre0 : ∀ t, Steps p.tables e below (s₁.setTop (mkF m 0 #[.val (.int 3)] [])) t → Steps p.tables e below (s₁.setTop (entryFrame m #[(.int 3)] 1)) t := fun t k => castTop (ef_own_nl3 m) k
  have hbr1 : ¬ ((3 : Int32) < (0 : Int32)) := by decide
  have hbr2 : (3 : Int32) < (1073741823 : Int32) := by decide
  have pre3 : ∀ t, Steps p.tables e below (s₁.setTop (mkF m 58 #[.val (.int 3)] [(.int ((3 : Int32) <<< ((1 : Int32) &&& 31)))])) t → Steps p.tables e below (s₁.setTop (entryFrame m #[(.int 3)] 1)) t := by
    intro t kk
    refine pre0 t ?_
    refine XS.iloadN X0.here hx rfl (hb hby D15_0) rfl ?_
    refine XS.ifYes X0.here hx rfl (pc0 := 1) (pc' := 12) rfl (hb hby D15_1) rfl ((if0 _ _).trans (flt hbr1).2.1) (by decide) (by decide) ?_
    refine XS.iloadN X0.here hx rfl (hb hby D15_12) rfl ?_
    refine X0.ldcI hx hown (mvT hZ (gw hw 89 rfl)) (g := (mkF m 13 #[.val (.int 3)] [(.int 3)])) rfl (hb hby D15_13) ?_
    refine XS.icmpYes X0.here hx rfl (pc0 := 15) (pc' := 55) rfl (hb hby D15_15) rfl (tlt hbr2).1 (by decide) (by decide) ?_
    refine XS.iloadN X0.here hx rfl (hb hby D15_55) rfl ?_
    refine XS.iconst X0.here hx rfl (hb hby D15_56) ?_
    refine XS.ishl X0.here hx rfl (hb hby D15_57) rfl ?_
    exact kk
  rw [(by decide : ((3 : Int32) <<< ((1 : Int32) &&& 31)) = (6 : Int32))] at pre3
  obtain ⟨fs, hr, hrun, hended, hW, hsame⟩ := X0.leave (v := some (.int 6)) (fun h => by rw [Bd.returns] at h; cases h)
  refine ⟨_, _, pre3 _ ?_, hrun, hended, _, _, rfl, ?_, ⟨_, rfl⟩, hW, hsame.mono (by decide) (by decide)⟩
  · exact retI X0 hx Bd.returns (hb hby D15_58) hr
  · show Q_own_nl3 Z  h0 n0 _ s₁.heap _
    rw [e0]
    exact ⟨rfl, N0, rfl⟩
theorem ef_own_nf3 (m : MethodId)  : entryFrame m #[(.int 3)] 1 = mkF m 0 #[.val (.int 3)] [] := by first | (simp [entryFrame, mkF, argsToLocals, Value.category]; done) | rfl
def Q_own_nf3 (Z : State)  (h0 : Heap) (n0 : Nat) (v : Option Value) (h : Heap) (L : List Loc) : Prop := ∃ (b : Addr) (k : ClassId), v = some (.ref b) ∧ Fr n0 L ∧ Keep h0 h [] ∧ h0.size ≤ b ∧ Arv Z h b k .byte (6 : Int32) [(.int 0), (.int 0), (.int 0), (.int 0), (.int 0), (.int 0)] (.int 0)
set_option maxRecDepth 65536 in
set_option maxHeartbeats 40000000 in
theorem own_nf3 (l : Launch) (Z : State) (a0 : Array Value) (hw : ∀ d ∈ tables_1, d.before a0 Z = true) (ws : List Jvm.Cond)  (h0 : Heap) (n0 : Nat) (Z0 : n0 ≤ h0.size)  :
    MetFree l (⟨"java/lang/StringUTF16", "newBytesFor", "(I)[B"⟩ : MethodName) (head1 (Jvm.Cond.code (⟨"java/lang/StringUTF16", "newBytesFor", "(I)[B"⟩ : MethodName) jdk_52_method_2_code 1 (some (.array .byte)) :: ws) ({ frames := 1, cells := 1, slots := 6, locals := 12 } : Room)) (fun a U => a = #[(.int 3)] ∧ Z.Warmed39 U.vm ∧ U.heap = h0) (fun _ _ _ _ _ => True) (fun _ U o U' => ∃ v L, o = .returned v ∧ Q_own_nf3 Z  h0 n0 v U'.heap L ∧ FrameEnd U o U' L ({ frames := 1, cells := 1, slots := 6, locals := 12 } : Room).cells ({ frames := 1, cells := 1, slots := 6, locals := 12 } : Room).slots) := by
  refine MetFree.of_bodySF (plainFor_of_name pn_java_lang_StringUTF16) hisR ?_
  intro p e s m args below meth c s₁ Bd hml0 hP hK
  obtain ⟨rfl, hZ, hh⟩ := hP
  have hx := Bd.exec
  have hby := Bd.bytes
  have hml : c.maxLocals = 1 := hml0
  have hown : s.vm.findClass "java/lang/StringUTF16" = some m.cls := findClass_of_methodNamed Bd.named
  have hnm := (name_of_methodNamed Bd.named Bd.method).1
  have X0 : Stand p l e ({ frames := 1, cells := 1, slots := 6, locals := 12 } : Room) s m #[(.int 3)] below meth c s₁ [] 0 0 := Stand.of_body Bd
  have e0 : s₁.heap = h0 := by rw [← hh, Bd.state]; rfl
  have N0 := Fr.nil n0
  have pre0 : ∀ t, Steps p.tables e below (s₁.setTop (mkF m 0 #[.val (.int 3)] [])) t → Steps p.tables e below (s₁.setTop (entryFrame m #[(.int 3)] 1)) t := fun t k => castTop (ef_own_nf3 m) k
  obtain ⟨_, _, ⟨T1, L1, k1, n1⟩, -, X1, ⟨Lc1, hQ1, l1, y1, z1⟩, st1⟩ := Jvm.LawKit.callS X0 hx (y := (⟨"java/lang/StringUTF16", "newBytesLength", "(I)I"⟩ : MethodName)) hown (mvT hZ (gw hw 86 rfl)) (mvT hZ (gw hw 87 rfl)) (mvT hZ (gw hw 46 rfl)) (mvT hZ (gw hw 88 rfl)) (by decide) (backOf (W := 0) (own_nl3 l Z a0 hw [] h0 n0 Z0) hZ (gw hw 88 rfl) (gw hw 46 rfl) (by decide) (by decide)) (g := (mkF m 1 #[.val (.int 3)] [(.int 3)])) rfl (by rw [hml]; rfl) (argsL := [(.int 3)]) (rest := []) (lenOf pd__I_I rfl) rfl (by show 2 * 0 + _ ≤ _; exact Nat.le_of_eq rfl) (hb hby D16_1) (fun _ _ => ⟨rfl, e0, (by decide : 0 + 0 ≤ _), (by decide : 0 + 0 ≤ _)⟩)
  dsimp only [Pt.U, Pt.locs, Pt.cells, Pt.slots] at X1 l1 y1 z1 st1 hQ1
  subst l1 y1 z1
  obtain ⟨rfl, N1q, e1q⟩ := hQ1
  have N1 := Fr.app N0 N1q
  have pre2 : ∀ t, Steps p.tables e below (T1.setTop (mkF m 4 #[.val (.int 3)] [(.int 6)])) t → Steps p.tables e below (s₁.setTop (entryFrame m #[(.int 3)] 1)) t := by
    intro t kk
    refine pre0 t ?_
    refine XS.iloadN X0.here hx rfl (hb hby D16_0) rfl ?_
    exact st1 _ kk
  obtain ⟨fb3, g3⟩ : ∃ z, z = h0.size := ⟨_, rfl⟩
  have lo_fb3 : n0 ≤ fb3 := Nat.le_trans Z0 (Nat.le_of_eq g3.symm)
  have hi_fb3 : h0.size ≤ fb3 := Nat.le_trans (Keep.refl h0 []).1 (Nat.le_of_eq g3.symm)
  obtain ⟨T3, h3, k3, X3, e3, E3, A3, st3⟩ := newP X1 hx hZ (gw hw 17 rfl) e1q (g := (mkF m 4 #[.val (.int 3)] [(.int 6)])) rfl (hb hby D16_4) rfl (by decide) (cap := 6) (by decide) (by decide) (by decide) (by decide)
  rw [← g3] at A3 st3
  have V3 : Arv Z h3 fb3 k3 .byte (6 : Int32) [(.int 0), (.int 0), (.int 0), (.int 0), (.int 0), (.int 0)] (.int 0) := (Arv.new A3 (by decide)).pad (pad_rep [] (.int 0) 6)
  have pre4 : ∀ t, Steps p.tables e below (T3.setTop (mkF m 6 #[.val (.int 3)] [(.ref fb3)])) t → Steps p.tables e below (s₁.setTop (entryFrame m #[(.int 3)] 1)) t := by
    intro t kk
    refine pre2 t ?_
    exact st3 _ kk
  have fc5 := ((Keep.refl h0 []).ext E3)
  obtain ⟨fs, hr, hrun, hended, hW, hsame⟩ := X3.leave (v := some (.ref fb3)) (fun h => by rw [Bd.returns] at h; cases h)
  refine ⟨_, _, pre4 _ ?_, hrun, hended, _, _, rfl, ?_, ⟨_, rfl⟩, hW, hsame.mono (by decide) (by decide)⟩
  · jvm_step X3.here [X3.here.top, hx, (hb hby D16_6), X3.method', Bd.returns, Value.isRef, FieldType.isReference]
    first | (intro acts; rw [hr _ acts rfl rfl rfl]) | rw [hr _ _ rfl rfl rfl]
    exact Steps.refl _
  · show Q_own_nf3 Z  h0 n0 _ T3.heap _
    rw [e3]
    exact ⟨fb3, k3, rfl, N1, fc5, hi_fb3, V3⟩
theorem ef_own_tb3 (m : MethodId) {ca : Addr} : entryFrame m #[(.ref ca), (.int 0), (.int 3)] 5 = mkF m 0 #[.val (.ref ca), .val (.int 0), .val (.int 3), .unset, .unset] [] := by first | (simp [entryFrame, mkF, argsToLocals, Value.category]; done) | rfl
def Q_own_tb3 (Z : State) (ca : Addr) (kC : ClassId) (d0 d1 d2 : Int32) (h0 : Heap) (n0 : Nat) (v : Option Value) (h : Heap) (L : List Loc) : Prop := ∃ (b : Addr) (k : ClassId), v = some (.ref b) ∧ Fr n0 L ∧ Keep h0 h [] ∧ h0.size ≤ b ∧ Arv Z h b k .byte (6 : Int32) [(.int (StrChars.lo8 d0)), (.int (StrChars.hi8 d0)), (.int (StrChars.lo8 d1)), (.int (StrChars.hi8 d1)), (.int (StrChars.lo8 d2)), (.int (StrChars.hi8 d2))] (.int 0)
set_option maxRecDepth 65536 in
set_option maxHeartbeats 40000000 in
theorem own_tb3 (l : Launch) (Z : State) (a0 : Array Value) (hw : ∀ d ∈ tables_1, d.before a0 Z = true) (ws : List Jvm.Cond) (ca : Addr) (kC : ClassId) (d0 d1 d2 : Int32) (h0 : Heap) (n0 : Nat) (Z0 : n0 ≤ h0.size) (KC : Arv Z h0 ca kC .char (3 : Int32) [(.int d0), (.int d1), (.int d2)] (.int 0)) (AD : Sta Z Z.heap "java/lang/StringUTF16" "$assertionsDisabled" "Z" (.int 1)) (HB : Sta Z Z.heap "java/lang/StringUTF16" "HI_BYTE_SHIFT" "I" (.int 0)) (LB : Sta Z Z.heap "java/lang/StringUTF16" "LO_BYTE_SHIFT" "I" (.int 8)) (XO : Old Z n0 h0) :
    MetFree l (⟨"java/lang/StringUTF16", "toBytes", "([CII)[B"⟩ : MethodName) (head1 (Jvm.Cond.code (⟨"java/lang/StringUTF16", "toBytes", "([CII)[B"⟩ : MethodName) jdk_52_method_14_code 5 (some (.array .byte)) :: ws) ({ frames := 2, cells := 1, slots := 6, locals := 24 } : Room)) (fun a U => a = #[(.ref ca), (.int 0), (.int 3)] ∧ Z.Warmed39 U.vm ∧ U.heap = h0) (fun _ _ _ _ _ => True) (fun _ U o U' => ∃ v L, o = .returned v ∧ Q_own_tb3 Z ca kC d0 d1 d2 h0 n0 v U'.heap L ∧ FrameEnd U o U' L ({ frames := 2, cells := 1, slots := 6, locals := 24 } : Room).cells ({ frames := 2, cells := 1, slots := 6, locals := 24 } : Room).slots) := by
  refine MetFree.of_bodySF (plainFor_of_name pn_java_lang_StringUTF16) hisR ?_
  intro p e s m args below meth c s₁ Bd hml0 hP hK
  obtain ⟨rfl, hZ, hh⟩ := hP
  have hx := Bd.exec
  have hby := Bd.bytes
  have hml : c.maxLocals = 5 := hml0
  have hown : s.vm.findClass "java/lang/StringUTF16" = some m.cls := findClass_of_methodNamed Bd.named
  have hnm := (name_of_methodNamed Bd.named Bd.method).1
  have X0 : Stand p l e ({ frames := 2, cells := 1, slots := 6, locals := 24 } : Room) s m #[(.ref ca), (.int 0), (.int 3)] below meth c s₁ [] 0 0 := Stand.of_body Bd
  have e0 : s₁.heap = h0 := by rw [← hh, Bd.state]; rfl
  have N0 := Fr.nil n0
  have pre0 : ∀ t, Steps p.tables e below (s₁.setTop (mkF m 0 #[.val (.ref ca), .val (.int 0), .val (.int 3), .unset, .unset] [])) t → Steps p.tables e below (s₁.setTop (entryFrame m #[(.ref ca), (.int 0), (.int 3)] 5)) t := fun t k => castTop (ef_own_tb3 m) k
  obtain ⟨_, _, ⟨T1, L1, k1, n1⟩, -, X1, ⟨Lc1, hQ1, l1, y1, z1⟩, st1⟩ := Jvm.LawKit.callS X0 hx (y := (⟨"java/lang/StringUTF16", "newBytesFor", "(I)[B"⟩ : MethodName)) hown (mvT hZ (gw hw 83 rfl)) (mvT hZ (gw hw 84 rfl)) (mvT hZ (gw hw 46 rfl)) (mvT hZ (gw hw 85 rfl)) (by decide) (backOf (W := 0) (own_nf3 l Z a0 hw [] h0 n0 Z0) hZ (gw hw 85 rfl) (gw hw 46 rfl) (by decide) (by decide)) (g := (mkF m 1 #[.val (.ref ca), .val (.int 0), .val (.int 3), .unset, .unset] [(.int 3)])) rfl (by rw [hml]; rfl) (argsL := [(.int 3)]) (rest := []) (lenOf pd__I__B rfl) rfl (by show 2 * 0 + _ ≤ _; exact Nat.le_of_eq rfl) (hb hby D17_1) (fun _ _ => ⟨rfl, e0, (by decide : 0 + 1 ≤ _), (by decide : 0 + 6 ≤ _)⟩)
  dsimp only [Pt.U, Pt.locs, Pt.cells, Pt.slots] at X1 l1 y1 z1 st1 hQ1
  subst l1 y1 z1
  obtain ⟨fb, kf, rfl, N1q, K1, gf, Vf⟩ := hQ1
  have N1 := Fr.app N0 N1q
  have pre2 : ∀ t, Steps p.tables e below (T1.setTop (mkF m 4 #[.val (.ref ca), .val (.int 0), .val (.int 3), .unset, .unset] [(.ref fb)])) t → Steps p.tables e below (s₁.setTop (entryFrame m #[(.ref ca), (.int 0), (.int 3)] 5)) t := by
    intro t kk
    refine pre0 t ?_
    refine XS.iloadN X0.here hx rfl (hb hby D17_0) rfl ?_
    exact st1 _ kk
  have lo_fb : n0 ≤ fb := Nat.le_trans Z0 gf
  have hi_fb : h0.size ≤ fb := Nat.le_trans (Keep.refl h0 []).1 gf
  have ne_ca_fb : ca ≠ fb := Nat.ne_of_lt (Nat.lt_of_lt_of_le KC.lt gf)
  have hbr3 : (0 : Int32) < (3 : Int32) := by decide
  have fc5 := (KC.keep K1 nin0)
  obtain ⟨cl4, Ar4, q4, S4, M4, H4, Gv4⟩ := id fc5
  have hin6 : ¬ ((0 : Int32) < 0 ∨ cl4.slots.size ≤ ((0 : Int32)).toNatClampNeg) := inb_of S4 ⟨by decide, by decide⟩
  have hat6 : cl4.slots[((0 : Int32)).toNatClampNeg]? = some (.int d0) := Has.at H4 (inb_of S4 ⟨by decide, by decide⟩) rfl
  have fc7 := (XO.keep K1 all0)
  have fc9 := (Nat.le_trans Z0 K1.1)
  obtain ⟨_, _, ⟨T8, L8, k8, n8⟩, -, X8, ⟨Lc8, hQ8, l8, y8, z8⟩, st8⟩ := Jvm.LawKit.callS X1 hx (y := (⟨"java/lang/StringUTF16", "putChar", "([BII)V"⟩ : MethodName)) hown (mvT hZ (gw hw 90 rfl)) (mvT hZ (gw hw 91 rfl)) (mvT hZ (gw hw 46 rfl)) (mvT hZ (gw hw 92 rfl)) (by decide) (backOf (W := 0) (own_pt l Z a0 hw [] fb kf d0 0 6 _ T1.heap n0 fc9 Vf rfl (by decide) (by decide) lo_fb AD HB LB fc7) hZ (gw hw 92 rfl) (gw hw 46 rfl) (by decide) (by decide)) (g := (mkF m 20 #[.val (.ref ca), .val (.int 0), .val (.int 3), .val (.ref fb), .val (.int 0)] [(.int d0), (.int 0), (.ref fb)])) rfl (by rw [hml]; rfl) (argsL := [(.ref fb), (.int 0), (.int d0)]) (rest := []) (lenOf pd___BII_V rfl) rfl (by show 2 * 0 + _ ≤ _; exact Nat.le_of_eq rfl) (hb hby D17_20) (fun _ _ => ⟨rfl, rfl, (by decide : 1 + 0 ≤ _), (by decide : 6 + 0 ≤ _)⟩)
  dsimp only [Pt.U, Pt.locs, Pt.cells, Pt.slots] at X8 l8 y8 z8 st8 hQ8
  subst l8 y8 z8
  obtain ⟨rfl, N8q, K8, Vp8⟩ := hQ8
  have N8 := Fr.app N1 N8q
  have pre10 : ∀ t, Steps p.tables e below (T8.setTop (mkF m 23 #[.val (.ref ca), .val (.int 0), .val (.int 3), .val (.ref fb), .val (.int 0)] [])) t → Steps p.tables e below (s₁.setTop (entryFrame m #[(.ref ca), (.int 0), (.int 3)] 5)) t := by
    intro t kk
    refine pre2 t ?_
    refine XS.astoreN X1.here hx rfl (hb hby D17_4) rfl rfl (l' := #[.val (.ref ca), .val (.int 0), .val (.int 3), .val (.ref fb), .unset]) rfl ?_
    refine XS.iconst X1.here hx rfl (hb hby D17_5) ?_
    refine XS.istore X1.here hx rfl (hb hby D17_6) rfl (l' := #[.val (.ref ca), .val (.int 0), .val (.int 3), .val (.ref fb), .val (.int 0)]) rfl ?_
    refine XS.iload X1.here hx rfl (hb hby D17_8) rfl ?_
    refine XS.iloadN X1.here hx rfl (hb hby D17_10) rfl ?_
    refine XS.icmpNo X1.here hx rfl (hb hby D17_11) rfl (tlt hbr3).2.1 ?_
    refine XS.aloadN X1.here hx rfl (hb hby D17_14) rfl rfl ?_
    refine XS.iload X1.here hx rfl (hb hby D17_15) rfl ?_
    show Steps p.tables e below (T1.setTop (mkF m 17 #[.val (.ref ca), .val (.int 0), .val (.int 3), .val (.ref fb), .val (.int 0)] [(.int 0), (.ref fb)])) _
    refine XS.aloadN X1.here hx rfl (hb hby D17_17) rfl rfl ?_
    refine XS.iloadN X1.here hx rfl (hb hby D17_18) rfl ?_
    refine X1.caload hx (j := (0 : Int32)) (v := (.int d0)) (by exact Ar4.1) (State.isArrayOf_alike hZ.alike Ar4.2.1) Ar4.2.2 hin6 hat6 (g := (mkF m 19 #[.val (.ref ca), .val (.int 0), .val (.int 3), .val (.ref fb), .val (.int 0)] [(.int 0), (.ref ca), (.int 0), (.ref fb)])) rfl rfl (hb hby D17_19) _ ?_
    exact st8 _ kk
  have hbr11 : (1 : Int32) < (3 : Int32) := by decide
  have fc13 := (fc5.keep K8 (ninS ne_ca_fb nin0))
  obtain ⟨cl12, Ar12, q12, S12, M12, H12, Gv12⟩ := id fc13
  have hin14 : ¬ ((1 : Int32) < 0 ∨ cl12.slots.size ≤ ((1 : Int32)).toNatClampNeg) := inb_of S12 ⟨by decide, by decide⟩
  have hat14 : cl12.slots[((1 : Int32)).toNatClampNeg]? = some (.int d1) := Has.at H12 (inb_of S12 ⟨by decide, by decide⟩) rfl
  have fc15 := (fc7.keep K8 (allS lo_fb all0))
  have fc17 := (Nat.le_trans fc9 K8.1)
  obtain ⟨_, _, ⟨T16, L16, k16, n16⟩, -, X16, ⟨Lc16, hQ16, l16, y16, z16⟩, st16⟩ := Jvm.LawKit.callS X8 hx (y := (⟨"java/lang/StringUTF16", "putChar", "([BII)V"⟩ : MethodName)) hown (mvT hZ (gw hw 90 rfl)) (mvT hZ (gw hw 91 rfl)) (mvT hZ (gw hw 46 rfl)) (mvT hZ (gw hw 92 rfl)) (by decide) (backOf (W := 0) (own_pt l Z a0 hw [] fb kf d1 1 6 _ T8.heap n0 fc17 Vp8 rfl (by decide) (by decide) lo_fb AD HB LB fc15) hZ (gw hw 92 rfl) (gw hw 46 rfl) (by decide) (by decide)) (g := (mkF m 20 #[.val (.ref ca), .val (.int 1), .val (.int 3), .val (.ref fb), .val (.int 1)] [(.int d1), (.int 1), (.ref fb)])) rfl (by rw [hml]; rfl) (argsL := [(.ref fb), (.int 1), (.int d1)]) (rest := []) (lenOf pd___BII_V rfl) rfl (by show 2 * 0 + _ ≤ _; exact Nat.le_of_eq rfl) (hb hby D17_20) (fun _ _ => ⟨rfl, rfl, (by decide : 1 + 0 ≤ _), (by decide : 6 + 0 ≤ _)⟩)
  dsimp only [Pt.U, Pt.locs, Pt.cells, Pt.slots] at X16 l16 y16 z16 st16 hQ16
  subst l16 y16 z16
  obtain ⟨rfl, N16q, K16, Vp16⟩ := hQ16
  have N16 := Fr.app N8 N16q
  have pre18 : ∀ t, Steps p.tables e below (T16.setTop (mkF m 23 #[.val (.ref ca), .val (.int 1), .val (.int 3), .val (.ref fb), .val (.int 1)] [])) t → Steps p.tables e below (s₁.setTop (entryFrame m #[(.ref ca), (.int 0), (.int 3)] 5)) t := by
    intro t kk
    refine pre10 t ?_
    refine XS.iinc X8.here hx rfl (hb hby D17_23) rfl (l' := #[.val (.ref ca), .val (.int 1), .val (.int 3), .val (.ref fb), .val (.int 0)]) rfl ?_
    refine XS.iinc X8.here hx rfl (hb hby D17_26) rfl (l' := #[.val (.ref ca), .val (.int 1), .val (.int 3), .val (.ref fb), .val (.int 1)]) rfl ?_
    refine XS.goto X8.here hx rfl (pc0 := 29) (pc' := 8) rfl (hb hby D17_29) (by decide) (by decide) ?_
    refine XS.iload X8.here hx rfl (hb hby D17_8) rfl ?_
    refine XS.iloadN X8.here hx rfl (hb hby D17_10) rfl ?_
    refine XS.icmpNo X8.here hx rfl (hb hby D17_11) rfl (tlt hbr11).2.1 ?_
    refine XS.aloadN X8.here hx rfl (hb hby D17_14) rfl rfl ?_
    refine XS.iload X8.here hx rfl (hb hby D17_15) rfl ?_
    show Steps p.tables e below (T8.setTop (mkF m 17 #[.val (.ref ca), .val (.int 1), .val (.int 3), .val (.ref fb), .val (.int 1)] [(.int 1), (.ref fb)])) _
    refine XS.aloadN X8.here hx rfl (hb hby D17_17) rfl rfl ?_
    refine XS.iloadN X8.here hx rfl (hb hby D17_18) rfl ?_
    refine X8.caload hx (j := (1 : Int32)) (v := (.int d1)) (by exact Ar12.1) (State.isArrayOf_alike hZ.alike Ar12.2.1) Ar12.2.2 hin14 hat14 (g := (mkF m 19 #[.val (.ref ca), .val (.int 1), .val (.int 3), .val (.ref fb), .val (.int 1)] [(.int 1), (.ref ca), (.int 1), (.ref fb)])) rfl rfl (hb hby D17_19) _ ?_
    exact st16 _ kk
  have hbr19 : (2 : Int32) < (3 : Int32) := by decide
  have fc21 := (fc13.keep K16 (ninS ne_ca_fb nin0))
  obtain ⟨cl20, Ar20, q20, S20, M20, H20, Gv20⟩ := id fc21
  have hin22 : ¬ ((2 : Int32) < 0 ∨ cl20.slots.size ≤ ((2 : Int32)).toNatClampNeg) := inb_of S20 ⟨by decide, by decide⟩
  have hat22 : cl20.slots[((2 : Int32)).toNatClampNeg]? = some (.int d2) := Has.at H20 (inb_of S20 ⟨by decide, by decide⟩) rfl
  have fc23 := (fc15.keep K16 (allS lo_fb all0))
  have fc25 := (Nat.le_trans fc17 K16.1)
  obtain ⟨_, _, ⟨T24, L24, k24, n24⟩, -, X24, ⟨Lc24, hQ24, l24, y24, z24⟩, st24⟩ := Jvm.LawKit.callS X16 hx (y := (⟨"java/lang/StringUTF16", "putChar", "([BII)V"⟩ : MethodName)) hown (mvT hZ (gw hw 90 rfl)) (mvT hZ (gw hw 91 rfl)) (mvT hZ (gw hw 46 rfl)) (mvT hZ (gw hw 92 rfl)) (by decide) (backOf (W := 0) (own_pt l Z a0 hw [] fb kf d2 2 6 _ T16.heap n0 fc25 Vp16 rfl (by decide) (by decide) lo_fb AD HB LB fc23) hZ (gw hw 92 rfl) (gw hw 46 rfl) (by decide) (by decide)) (g := (mkF m 20 #[.val (.ref ca), .val (.int 2), .val (.int 3), .val (.ref fb), .val (.int 2)] [(.int d2), (.int 2), (.ref fb)])) rfl (by rw [hml]; rfl) (argsL := [(.ref fb), (.int 2), (.int d2)]) (rest := []) (lenOf pd___BII_V rfl) rfl (by show 2 * 0 + _ ≤ _; exact Nat.le_of_eq rfl) (hb hby D17_20) (fun _ _ => ⟨rfl, rfl, (by decide : 1 + 0 ≤ _), (by decide : 6 + 0 ≤ _)⟩)
  dsimp only [Pt.U, Pt.locs, Pt.cells, Pt.slots] at X24 l24 y24 z24 st24 hQ24
  subst l24 y24 z24
  obtain ⟨rfl, N24q, K24, Vp24⟩ := hQ24
  have N24 := Fr.app N16 N24q
  have pre26 : ∀ t, Steps p.tables e below (T24.setTop (mkF m 23 #[.val (.ref ca), .val (.int 2), .val (.int 3), .val (.ref fb), .val (.int 2)] [])) t → Steps p.tables e below (s₁.setTop (entryFrame m #[(.ref ca), (.int 0), (.int 3)] 5)) t := by
    intro t kk
    refine pre18 t ?_
    refine XS.iinc X16.here hx rfl (hb hby D17_23) rfl (l' := #[.val (.ref ca), .val (.int 2), .val (.int 3), .val (.ref fb), .val (.int 1)]) rfl ?_
    refine XS.iinc X16.here hx rfl (hb hby D17_26) rfl (l' := #[.val (.ref ca), .val (.int 2), .val (.int 3), .val (.ref fb), .val (.int 2)]) rfl ?_
    refine XS.goto X16.here hx rfl (pc0 := 29) (pc' := 8) rfl (hb hby D17_29) (by decide) (by decide) ?_
    refine XS.iload X16.here hx rfl (hb hby D17_8) rfl ?_
    refine XS.iloadN X16.here hx rfl (hb hby D17_10) rfl ?_
    refine XS.icmpNo X16.here hx rfl (hb hby D17_11) rfl (tlt hbr19).2.1 ?_
    refine XS.aloadN X16.here hx rfl (hb hby D17_14) rfl rfl ?_
    refine XS.iload X16.here hx rfl (hb hby D17_15) rfl ?_
    show Steps p.tables e below (T16.setTop (mkF m 17 #[.val (.ref ca), .val (.int 2), .val (.int 3), .val (.ref fb), .val (.int 2)] [(.int 2), (.ref fb)])) _
    refine XS.aloadN X16.here hx rfl (hb hby D17_17) rfl rfl ?_
    refine XS.iloadN X16.here hx rfl (hb hby D17_18) rfl ?_
    refine X16.caload hx (j := (2 : Int32)) (v := (.int d2)) (by exact Ar20.1) (State.isArrayOf_alike hZ.alike Ar20.2.1) Ar20.2.2 hin22 hat22 (g := (mkF m 19 #[.val (.ref ca), .val (.int 2), .val (.int 3), .val (.ref fb), .val (.int 2)] [(.int 2), (.ref ca), (.int 2), (.ref fb)])) rfl rfl (hb hby D17_19) _ ?_
    exact st24 _ kk
  have hbr27 : ¬ ((3 : Int32) < (3 : Int32)) := by decide
  have fc28 := (((((Keep.refl h0 []).trans K1 all0).trans K8 (allS (Or.inr hi_fb) all0)).trans K16 (allS (Or.inr hi_fb) all0)).trans K24 (allS (Or.inr hi_fb) all0))
  obtain ⟨fs, hr, hrun, hended, hW, hsame⟩ := X24.leave (v := some (.ref fb)) (fun h => by rw [Bd.returns] at h; cases h)
  refine ⟨_, _, pre26 _ ?_, hrun, hended, _, _, rfl, ?_, ⟨_, rfl⟩, hW, hsame.mono (by decide) (by decide)⟩
  · refine XS.iinc X24.here hx rfl (hb hby D17_23) rfl (l' := #[.val (.ref ca), .val (.int 3), .val (.int 3), .val (.ref fb), .val (.int 2)]) rfl ?_
    refine XS.iinc X24.here hx rfl (hb hby D17_26) rfl (l' := #[.val (.ref ca), .val (.int 3), .val (.int 3), .val (.ref fb), .val (.int 3)]) rfl ?_
    refine XS.goto X24.here hx rfl (pc0 := 29) (pc' := 8) rfl (hb hby D17_29) (by decide) (by decide) ?_
    refine XS.iload X24.here hx rfl (hb hby D17_8) rfl ?_
    refine XS.iloadN X24.here hx rfl (hb hby D17_10) rfl ?_
    refine XS.icmpYes X24.here hx rfl (pc0 := 11) (pc' := 32) rfl (hb hby D17_11) rfl (flt hbr27).2.1 (by decide) (by decide) ?_
    refine XS.aloadN X24.here hx rfl (hb hby D17_32) rfl rfl ?_
    jvm_step X24.here [X24.here.top, hx, (hb hby D17_33), X24.method', Bd.returns, Value.isRef, FieldType.isReference]
    first | (intro acts; rw [hr _ acts rfl rfl rfl]) | rw [hr _ _ rfl rfl rfl]
    exact Steps.refl _
  · show Q_own_tb3 Z ca kC d0 d1 d2 h0 n0 _ T24.heap _
    exact ⟨fb, kf, rfl, N24, fc28, hi_fb, Vp24⟩
theorem ef_own_c53 (m : MethodId) {ca : Addr} {sb : Addr} : entryFrame m #[(.ref ca), (.int 0), (.ref sb), (.int 0), (.int 3)] 7 = mkF m 0 #[.val (.ref ca), .val (.int 0), .val (.ref sb), .val (.int 0), .val (.int 3), .unset, .unset] [] := by first | (simp [entryFrame, mkF, argsToLocals, Value.category]; done) | rfl
def Q_own_c53 (Z : State) (ca sb : Addr) (kC kS : ClassId) (d0 d1 d2 : Int32) (h0 : Heap) (n0 : Nat) (v : Option Value) (h : Heap) (L : List Loc) : Prop := ∃ r : Int32, v = some (.int r) ∧ Fr n0 L ∧ Keep h0 h [sb] ∧ ((r = (0 : Int32) ∧ (255 : Int32) < d0) ∨ (r = (1 : Int32) ∧ (255 : Int32) < d1) ∨ (r = (2 : Int32) ∧ (255 : Int32) < d2))
set_option maxRecDepth 65536 in
set_option maxHeartbeats 40000000 in
theorem own_c53 (l : Launch) (Z : State) (a0 : Array Value) (hw : ∀ d ∈ tables_1, d.before a0 Z = true) (ws : List Jvm.Cond) (ca sb : Addr) (kC kS : ClassId) (d0 d1 d2 : Int32) (h0 : Heap) (n0 : Nat) (Z0 : n0 ≤ h0.size) (KC : Arv Z h0 ca kC .char (3 : Int32) [(.int d0), (.int d1), (.int d2)] (.int 0)) (KS : Arv Z h0 sb kS .byte (3 : Int32) [(.int 0), (.int 0), (.int 0)] (.int 0)) (gs : n0 ≤ sb) (hne : ca ≠ sb) (hwd : (255 : Int32) < d0 ∨ (255 : Int32) < d1 ∨ (255 : Int32) < d2) :
    MetFree l (⟨"java/lang/StringUTF16", "compress", "([CI[BII)I"⟩ : MethodName) (head1 (Jvm.Cond.code (⟨"java/lang/StringUTF16", "compress", "([CI[BII)I"⟩ : MethodName) jdk_52_method_21_code 7 (some .int) :: ws) ({ frames := 0, cells := 0, slots := 0, locals := 0 } : Room)) (fun a U => a = #[(.ref ca), (.int 0), (.ref sb), (.int 0), (.int 3)] ∧ Z.Warmed39 U.vm ∧ U.heap = h0) (fun _ _ _ _ _ => True) (fun _ U o U' => ∃ v L, o = .returned v ∧ Q_own_c53 Z ca sb kC kS d0 d1 d2 h0 n0 v U'.heap L ∧ FrameEnd U o U' L ({ frames := 0, cells := 0, slots := 0, locals := 0 } : Room).cells ({ frames := 0, cells := 0, slots := 0, locals := 0 } : Room).slots) := by
  refine MetFree.of_bodySF (plainFor_of_name pn_java_lang_StringUTF16) hisR ?_
  intro p e s m args below meth c s₁ Bd hml0 hP hK
  obtain ⟨rfl, hZ, hh⟩ := hP
  have hx := Bd.exec
  have hby := Bd.bytes
  have hml : c.maxLocals = 7 := hml0
  have hown : s.vm.findClass "java/lang/StringUTF16" = some m.cls := findClass_of_methodNamed Bd.named
  have hnm := (name_of_methodNamed Bd.named Bd.method).1
  have X0 : Stand p l e ({ frames := 0, cells := 0, slots := 0, locals := 0 } : Room) s m #[(.ref ca), (.int 0), (.ref sb), (.int 0), (.int 3)] below meth c s₁ [] 0 0 := Stand.of_body Bd
  have e0 : s₁.heap = h0 := by rw [← hh, Bd.state]; rfl
  have N0 := Fr.nil n0
  have pre0 : ∀ t, Steps p.tables e below (s₁.setTop (mkF m 0 #[.val (.ref ca), .val (.int 0), .val (.ref sb), .val (.int 0), .val (.int 3), .unset, .unset] [])) t → Steps p.tables e below (s₁.setTop (entryFrame m #[(.ref ca), (.int 0), (.ref sb), (.int 0), (.int 3)] 7)) t := fun t k => castTop (ef_own_c53 m) k
  have hbr1 : (0 : Int32) < (3 : Int32) := by decide
  obtain ⟨cl2, Ar2, q2, S2, M2, H2, Gv2⟩ := id KC
  have hin3 : ¬ ((0 : Int32) < 0 ∨ cl2.slots.size ≤ ((0 : Int32)).toNatClampNeg) := inb_of S2 ⟨by decide, by decide⟩
  have hat3 : cl2.slots[((0 : Int32)).toNatClampNeg]? = some (.int d0) := Has.at H2 (inb_of S2 ⟨by decide, by decide⟩) rfl
  by_cases hs0 : (255 : Int32) < d0
  case pos =>
    obtain ⟨fs, hr, hrun, hended, hW, hsame⟩ := X0.leave (v := some (.int 0)) (fun h => by rw [Bd.returns] at h; cases h)
    refine ⟨_, _, pre0 _ ?_, hrun, hended, _, _, rfl, ?_, ⟨_, rfl⟩, hW, hsame.mono (by decide) (by decide)⟩
    · refine XS.iconst X0.here hx rfl (hb hby D18_0) ?_
      refine XS.istore X0.here hx rfl (hb hby D18_1) rfl (l' := #[.val (.ref ca), .val (.int 0), .val (.ref sb), .val (.int 0), .val (.int 3), .val (.int 0), .unset]) rfl ?_
      refine XS.iload X0.here hx rfl (hb hby D18_3) rfl ?_
      refine XS.iload X0.here hx rfl (hb hby D18_5) rfl ?_
      refine XS.icmpNo X0.here hx rfl (hb hby D18_7) rfl (tlt hbr1).2.1 ?_
      refine XS.aloadN X0.here hx rfl (hb hby D18_10) rfl rfl ?_
      refine XS.iloadN X0.here hx rfl (hb hby D18_11) rfl ?_
      refine X0.caload hx (j := (0 : Int32)) (v := (.int d0)) (by rw [e0]; exact Ar2.1) (State.isArrayOf_alike hZ.alike Ar2.2.1) Ar2.2.2 hin3 hat3 (g := (mkF m 12 #[.val (.ref ca), .val (.int 0), .val (.ref sb), .val (.int 0), .val (.int 3), .val (.int 0), .unset] [(.int 0), (.ref ca)])) rfl rfl (hb hby D18_12) _ ?_
      show Steps p.tables e below (s₁.setTop (mkF m 13 #[.val (.ref ca), .val (.int 0), .val (.ref sb), .val (.int 0), .val (.int 3), .val (.int 0), .unset] [(.int d0)])) _
      refine XS.istore X0.here hx rfl (hb hby D18_13) rfl (l' := #[.val (.ref ca), .val (.int 0), .val (.ref sb), .val (.int 0), .val (.int 3), .val (.int 0), .val (.int d0)]) rfl ?_
      refine XS.iload X0.here hx rfl (hb hby D18_15) rfl ?_
      refine XS.sipush X0.here hx rfl (hb hby D18_17) ?_
      refine XS.icmpNo X0.here hx rfl (hb hby D18_20) rfl (tlt hs0).2.2.2 ?_
      refine XS.iload X0.here hx rfl (hb hby D18_23) rfl ?_
      exact retI X0 hx Bd.returns (hb hby D18_25) hr
    · show Q_own_c53 Z ca sb kC kS d0 d1 d2 h0 n0 _ s₁.heap _
      rw [e0]
      exact ⟨(0 : Int32), rfl, N0, (Keep.refl h0 [sb]), (Or.inl ⟨rfl, hs0⟩)⟩
  case neg =>
    obtain ⟨cl4, Ar4, q4, S4, M4, H4, Gv4⟩ := id KS
    obtain ⟨T4, h4, X4, e4, W4, st4⟩ := stB X0 hx hZ e0 Ar4 (j := (0 : Int32)) (inb_of S4 ⟨(by decide), (by decide)⟩) (g := (mkF m 31 #[.val (.ref ca), .val (.int 0), .val (.ref sb), .val (.int 0), .val (.int 3), .val (.int 0), .val (.int d0)] [(.int (d0.toInt8.toInt32)), (.int 0), (.ref sb)])) rfl rfl (hb hby D18_31)
    have V4 : Arv Z h4 sb kS .byte (3 : Int32) [(.int (nar .byte (d0.toInt8.toInt32))), (.int 0), (.int 0)] (.int 0) := Arv.set Ar4 q4 S4 M4 H4 Gv4 (fits_nar_byte _) W4 0 rfl (Nat.le_of_ble_eq_true rfl)
    have N4 := Fr.snoc X4 N0 gs
    have pre5 : ∀ t, Steps p.tables e below (T4.setTop (mkF m 32 #[.val (.ref ca), .val (.int 0), .val (.ref sb), .val (.int 0), .val (.int 3), .val (.int 0), .val (.int d0)] [])) t → Steps p.tables e below (s₁.setTop (entryFrame m #[(.ref ca), (.int 0), (.ref sb), (.int 0), (.int 3)] 7)) t := by
      intro t kk
      refine pre0 t ?_
      refine XS.iconst X0.here hx rfl (hb hby D18_0) ?_
      refine XS.istore X0.here hx rfl (hb hby D18_1) rfl (l' := #[.val (.ref ca), .val (.int 0), .val (.ref sb), .val (.int 0), .val (.int 3), .val (.int 0), .unset]) rfl ?_
      refine XS.iload X0.here hx rfl (hb hby D18_3) rfl ?_
      refine XS.iload X0.here hx rfl (hb hby D18_5) rfl ?_
      refine XS.icmpNo X0.here hx rfl (hb hby D18_7) rfl (tlt hbr1).2.1 ?_
      refine XS.aloadN X0.here hx rfl (hb hby D18_10) rfl rfl ?_
      refine XS.iloadN X0.here hx rfl (hb hby D18_11) rfl ?_
      refine X0.caload hx (j := (0 : Int32)) (v := (.int d0)) (by rw [e0]; exact Ar2.1) (State.isArrayOf_alike hZ.alike Ar2.2.1) Ar2.2.2 hin3 hat3 (g := (mkF m 12 #[.val (.ref ca), .val (.int 0), .val (.ref sb), .val (.int 0), .val (.int 3), .val (.int 0), .unset] [(.int 0), (.ref ca)])) rfl rfl (hb hby D18_12) _ ?_
      show Steps p.tables e below (s₁.setTop (mkF m 13 #[.val (.ref ca), .val (.int 0), .val (.ref sb), .val (.int 0), .val (.int 3), .val (.int 0), .unset] [(.int d0)])) _
      refine XS.istore X0.here hx rfl (hb hby D18_13) rfl (l' := #[.val (.ref ca), .val (.int 0), .val (.ref sb), .val (.int 0), .val (.int 3), .val (.int 0), .val (.int d0)]) rfl ?_
      refine XS.iload X0.here hx rfl (hb hby D18_15) rfl ?_
      refine XS.sipush X0.here hx rfl (hb hby D18_17) ?_
      refine XS.icmpYes X0.here hx rfl (pc0 := 20) (pc' := 26) rfl (hb hby D18_20) rfl (flt hs0).2.2.2 (by decide) (by decide) ?_
      refine XS.aloadN X0.here hx rfl (hb hby D18_26) rfl rfl ?_
      refine XS.iloadN X0.here hx rfl (hb hby D18_27) rfl ?_
      refine XS.iload X0.here hx rfl (hb hby D18_28) rfl ?_
      refine XS.i2b X0.here hx rfl (hb hby D18_30) rfl ?_
      show Steps p.tables e below (s₁.setTop (mkF m 31 #[.val (.ref ca), .val (.int 0), .val (.ref sb), .val (.int 0), .val (.int 3), .val (.int 0), .val (.int d0)] [(.int (d0.toInt8.toInt32)), (.int 0), (.ref sb)])) _
      exact st4 _ kk
    have hbr6 : (1 : Int32) < (3 : Int32) := by decide
    have fc8 := (KC.other W4 hne)
    obtain ⟨cl7, Ar7, q7, S7, M7, H7, Gv7⟩ := id fc8
    have hin9 : ¬ ((1 : Int32) < 0 ∨ cl7.slots.size ≤ ((1 : Int32)).toNatClampNeg) := inb_of S7 ⟨by decide, by decide⟩
    have hat9 : cl7.slots[((1 : Int32)).toNatClampNeg]? = some (.int d1) := Has.at H7 (inb_of S7 ⟨by decide, by decide⟩) rfl
    by_cases hs1 : (255 : Int32) < d1
    case pos =>
      have fc10 := ((Keep.refl h0 [sb]).wr W4 (Or.inl (List.mem_of_getElem? (i := 0) rfl)))
      obtain ⟨fs, hr, hrun, hended, hW, hsame⟩ := X4.leave (v := some (.int 1)) (fun h => by rw [Bd.returns] at h; cases h)
      refine ⟨_, _, pre5 _ ?_, hrun, hended, _, _, rfl, ?_, ⟨_, rfl⟩, hW, hsame.mono (by decide) (by decide)⟩
      · refine XS.iinc X4.here hx rfl (hb hby D18_32) rfl (l' := #[.val (.ref ca), .val (.int 1), .val (.ref sb), .val (.int 0), .val (.int 3), .val (.int 0), .val (.int d0)]) rfl ?_
        refine XS.iinc X4.here hx rfl (hb hby D18_35) rfl (l' := #[.val (.ref ca), .val (.int 1), .val (.ref sb), .val (.int 1), .val (.int 3), .val (.int 0), .val (.int d0)]) rfl ?_
        refine XS.iinc X4.here hx rfl (hb hby D18_38) rfl (l' := #[.val (.ref ca), .val (.int 1), .val (.ref sb), .val (.int 1), .val (.int 3), .val (.int 1), .val (.int d0)]) rfl ?_
        refine XS.goto X4.here hx rfl (pc0 := 41) (pc' := 3) rfl (hb hby D18_41) (by decide) (by decide) ?_
        refine XS.iload X4.here hx rfl (hb hby D18_3) rfl ?_
        refine XS.iload X4.here hx rfl (hb hby D18_5) rfl ?_
        refine XS.icmpNo X4.here hx rfl (hb hby D18_7) rfl (tlt hbr6).2.1 ?_
        refine XS.aloadN X4.here hx rfl (hb hby D18_10) rfl rfl ?_
        show Steps p.tables e below (T4.setTop (mkF m 11 #[.val (.ref ca), .val (.int 1), .val (.ref sb), .val (.int 1), .val (.int 3), .val (.int 1), .val (.int d0)] [(.ref ca)])) _
        refine XS.iloadN X4.here hx rfl (hb hby D18_11) rfl ?_
        refine X4.caload hx (j := (1 : Int32)) (v := (.int d1)) (by rw [e4]; exact Ar7.1) (State.isArrayOf_alike hZ.alike Ar7.2.1) Ar7.2.2 hin9 hat9 (g := (mkF m 12 #[.val (.ref ca), .val (.int 1), .val (.ref sb), .val (.int 1), .val (.int 3), .val (.int 1), .val (.int d0)] [(.int 1), (.ref ca)])) rfl rfl (hb hby D18_12) _ ?_
        refine XS.istore X4.here hx rfl (hb hby D18_13) rfl (l' := #[.val (.ref ca), .val (.int 1), .val (.ref sb), .val (.int 1), .val (.int 3), .val (.int 1), .val (.int d1)]) rfl ?_
        refine XS.iload X4.here hx rfl (hb hby D18_15) rfl ?_
        refine XS.sipush X4.here hx rfl (hb hby D18_17) ?_
        refine XS.icmpNo X4.here hx rfl (hb hby D18_20) rfl (tlt hs1).2.2.2 ?_
        refine XS.iload X4.here hx rfl (hb hby D18_23) rfl ?_
        exact retI X4 hx Bd.returns (hb hby D18_25) hr
      · show Q_own_c53 Z ca sb kC kS d0 d1 d2 h0 n0 _ T4.heap _
        rw [e4]
        exact ⟨(1 : Int32), rfl, N4, fc10, (Or.inr (Or.inl ⟨rfl, hs1⟩))⟩
    case neg =>
      obtain ⟨cl11, Ar11, q11, S11, M11, H11, Gv11⟩ := id V4
      obtain ⟨T11, h11, X11, e11, W11, st11⟩ := stB X4 hx hZ e4 Ar11 (j := (1 : Int32)) (inb_of S11 ⟨(by decide), (by decide)⟩) (g := (mkF m 31 #[.val (.ref ca), .val (.int 1), .val (.ref sb), .val (.int 1), .val (.int 3), .val (.int 1), .val (.int d1)] [(.int (d1.toInt8.toInt32)), (.int 1), (.ref sb)])) rfl rfl (hb hby D18_31)
      have V11 : Arv Z h11 sb kS .byte (3 : Int32) [(.int (nar .byte (d0.toInt8.toInt32))), (.int (nar .byte (d1.toInt8.toInt32))), (.int 0)] (.int 0) := Arv.set Ar11 q11 S11 M11 H11 Gv11 (fits_nar_byte _) W11 1 rfl (Nat.le_of_ble_eq_true rfl)
      have N11 := Fr.snoc X11 N4 gs
      have pre12 : ∀ t, Steps p.tables e below (T11.setTop (mkF m 32 #[.val (.ref ca), .val (.int 1), .val (.ref sb), .val (.int 1), .val (.int 3), .val (.int 1), .val (.int d1)] [])) t → Steps p.tables e below (s₁.setTop (entryFrame m #[(.ref ca), (.int 0), (.ref sb), (.int 0), (.int 3)] 7)) t := by
        intro t kk
        refine pre5 t ?_
        refine XS.iinc X4.here hx rfl (hb hby D18_32) rfl (l' := #[.val (.ref ca), .val (.int 1), .val (.ref sb), .val (.int 0), .val (.int 3), .val (.int 0), .val (.int d0)]) rfl ?_
        refine XS.iinc X4.here hx rfl (hb hby D18_35) rfl (l' := #[.val (.ref ca), .val (.int 1), .val (.ref sb), .val (.int 1), .val (.int 3), .val (.int 0), .val (.int d0)]) rfl ?_
        refine XS.iinc X4.here hx rfl (hb hby D18_38) rfl (l' := #[.val (.ref ca), .val (.int 1), .val (.ref sb), .val (.int 1), .val (.int 3), .val (.int 1), .val (.int d0)]) rfl ?_
        refine XS.goto X4.here hx rfl (pc0 := 41) (pc' := 3) rfl (hb hby D18_41) (by decide) (by decide) ?_
        refine XS.iload X4.here hx rfl (hb hby D18_3) rfl ?_
        refine XS.iload X4.here hx rfl (hb hby D18_5) rfl ?_
        refine XS.icmpNo X4.here hx rfl (hb hby D18_7) rfl (tlt hbr6).2.1 ?_
        refine XS.aloadN X4.here hx rfl (hb hby D18_10) rfl rfl ?_
        show Steps p.tables e below (T4.setTop (mkF m 11 #[.val (.ref ca), .val (.int 1), .val (.ref sb), .val (.int 1), .val (.int 3), .val (.int 1), .val (.int d0)] [(.ref ca)])) _
        refine XS.iloadN X4.here hx rfl (hb hby D18_11) rfl ?_
        refine X4.caload hx (j := (1 : Int32)) (v := (.int d1)) (by rw [e4]; exact Ar7.1) (State.isArrayOf_alike hZ.alike Ar7.2.1) Ar7.2.2 hin9 hat9 (g := (mkF m 12 #[.val (.ref ca), .val (.int 1), .val (.ref sb), .val (.int 1), .val (.int 3), .val (.int 1), .val (.int d0)] [(.int 1), (.ref ca)])) rfl rfl (hb hby D18_12) _ ?_
        refine XS.istore X4.here hx rfl (hb hby D18_13) rfl (l' := #[.val (.ref ca), .val (.int 1), .val (.ref sb), .val (.int 1), .val (.int 3), .val (.int 1), .val (.int d1)]) rfl ?_
        refine XS.iload X4.here hx rfl (hb hby D18_15) rfl ?_
        refine XS.sipush X4.here hx rfl (hb hby D18_17) ?_
        refine XS.icmpYes X4.here hx rfl (pc0 := 20) (pc' := 26) rfl (hb hby D18_20) rfl (flt hs1).2.2.2 (by decide) (by decide) ?_
        refine XS.aloadN X4.here hx rfl (hb hby D18_26) rfl rfl ?_
        refine XS.iloadN X4.here hx rfl (hb hby D18_27) rfl ?_
        show Steps p.tables e below (T4.setTop (mkF m 28 #[.val (.ref ca), .val (.int 1), .val (.ref sb), .val (.int 1), .val (.int 3), .val (.int 1), .val (.int d1)] [(.int 1), (.ref sb)])) _
        refine XS.iload X4.here hx rfl (hb hby D18_28) rfl ?_
        refine XS.i2b X4.here hx rfl (hb hby D18_30) rfl ?_
        exact st11 _ kk
      have hbr13 : (2 : Int32) < (3 : Int32) := by decide
      have fc15 := (fc8.other W11 hne)
      obtain ⟨cl14, Ar14, q14, S14, M14, H14, Gv14⟩ := id fc15
      have hin16 : ¬ ((2 : Int32) < 0 ∨ cl14.slots.size ≤ ((2 : Int32)).toNatClampNeg) := inb_of S14 ⟨by decide, by decide⟩
      have hat16 : cl14.slots[((2 : Int32)).toNatClampNeg]? = some (.int d2) := Has.at H14 (inb_of S14 ⟨by decide, by decide⟩) rfl
      by_cases hs2 : (255 : Int32) < d2
      case pos =>
        have fc17 := (((Keep.refl h0 [sb]).wr W4 (Or.inl (List.mem_of_getElem? (i := 0) rfl))).wr W11 (Or.inl (List.mem_of_getElem? (i := 0) rfl)))
        obtain ⟨fs, hr, hrun, hended, hW, hsame⟩ := X11.leave (v := some (.int 2)) (fun h => by rw [Bd.returns] at h; cases h)
        refine ⟨_, _, pre12 _ ?_, hrun, hended, _, _, rfl, ?_, ⟨_, rfl⟩, hW, hsame.mono (by decide) (by decide)⟩
        · refine XS.iinc X11.here hx rfl (hb hby D18_32) rfl (l' := #[.val (.ref ca), .val (.int 2), .val (.ref sb), .val (.int 1), .val (.int 3), .val (.int 1), .val (.int d1)]) rfl ?_
          refine XS.iinc X11.here hx rfl (hb hby D18_35) rfl (l' := #[.val (.ref ca), .val (.int 2), .val (.ref sb), .val (.int 2), .val (.int 3), .val (.int 1), .val (.int d1)]) rfl ?_
          refine XS.iinc X11.here hx rfl (hb hby D18_38) rfl (l' := #[.val (.ref ca), .val (.int 2), .val (.ref sb), .val (.int 2), .val (.int 3), .val (.int 2), .val (.int d1)]) rfl ?_
          refine XS.goto X11.here hx rfl (pc0 := 41) (pc' := 3) rfl (hb hby D18_41) (by decide) (by decide) ?_
          refine XS.iload X11.here hx rfl (hb hby D18_3) rfl ?_
          refine XS.iload X11.here hx rfl (hb hby D18_5) rfl ?_
          refine XS.icmpNo X11.here hx rfl (hb hby D18_7) rfl (tlt hbr13).2.1 ?_
          refine XS.aloadN X11.here hx rfl (hb hby D18_10) rfl rfl ?_
          show Steps p.tables e below (T11.setTop (mkF m 11 #[.val (.ref ca), .val (.int 2), .val (.ref sb), .val (.int 2), .val (.int 3), .val (.int 2), .val (.int d1)] [(.ref ca)])) _
          refine XS.iloadN X11.here hx rfl (hb hby D18_11) rfl ?_
          refine X11.caload hx (j := (2 : Int32)) (v := (.int d2)) (by rw [e11]; exact Ar14.1) (State.isArrayOf_alike hZ.alike Ar14.2.1) Ar14.2.2 hin16 hat16 (g := (mkF m 12 #[.val (.ref ca), .val (.int 2), .val (.ref sb), .val (.int 2), .val (.int 3), .val (.int 2), .val (.int d1)] [(.int 2), (.ref ca)])) rfl rfl (hb hby D18_12) _ ?_
          refine XS.istore X11.here hx rfl (hb hby D18_13) rfl (l' := #[.val (.ref ca), .val (.int 2), .val (.ref sb), .val (.int 2), .val (.int 3), .val (.int 2), .val (.int d2)]) rfl ?_
          refine XS.iload X11.here hx rfl (hb hby D18_15) rfl ?_
          refine XS.sipush X11.here hx rfl (hb hby D18_17) ?_
          refine XS.icmpNo X11.here hx rfl (hb hby D18_20) rfl (tlt hs2).2.2.2 ?_
          refine XS.iload X11.here hx rfl (hb hby D18_23) rfl ?_
          exact retI X11 hx Bd.returns (hb hby D18_25) hr
        · show Q_own_c53 Z ca sb kC kS d0 d1 d2 h0 n0 _ T11.heap _
          rw [e11]
          exact ⟨(2 : Int32), rfl, N11, fc17, (Or.inr (Or.inr ⟨rfl, hs2⟩))⟩
      case neg =>
        rcases hwd with q | q | q
        · exact absurd q hs0
        · exact absurd q hs1
        · exact absurd q hs2
theorem ef_own_c33 (m : MethodId) {ca : Addr} : entryFrame m #[(.ref ca), (.int 0), (.int 3)] 6 = mkF m 0 #[.val (.ref ca), .val (.int 0), .val (.int 3), .unset, .unset, .unset] [] := by first | (simp [entryFrame, mkF, argsToLocals, Value.category]; done) | rfl
def Q_own_c33 (Z : State) (ca : Addr) (kC : ClassId) (d0 d1 d2 : Int32) (h0 : Heap) (n0 : Nat) (v : Option Value) (h : Heap) (L : List Loc) : Prop := ∃ (b : Addr) (k : ClassId), v = some (.ref b) ∧ Fr n0 L ∧ Keep h0 h [] ∧ h0.size ≤ b ∧ Arv Z h b k .byte (6 : Int32) [(.int (StrChars.lo8 d0)), (.int (StrChars.hi8 d0)), (.int (StrChars.lo8 d1)), (.int (StrChars.hi8 d1)), (.int (StrChars.lo8 d2)), (.int (StrChars.hi8 d2))] (.int 0)
set_option maxRecDepth 65536 in
set_option maxHeartbeats 40000000 in
theorem own_c33 (l : Launch) (Z : State) (a0 : Array Value) (hw : ∀ d ∈ tables_1, d.before a0 Z = true) (ws : List Jvm.Cond) (ca : Addr) (kC : ClassId) (d0 d1 d2 : Int32) (h0 : Heap) (n0 : Nat) (Z0 : n0 ≤ h0.size) (KC : Arv Z h0 ca kC .char (3 : Int32) [(.int d0), (.int d1), (.int d2)] (.int 0)) (hd0 : ¬ d0 < 0 ∧ ¬ (65535 : Int32) < d0) (hd1 : ¬ d1 < 0 ∧ ¬ (65535 : Int32) < d1) (hd2 : ¬ d2 < 0 ∧ ¬ (65535 : Int32) < d2) (hwd : (255 : Int32) < d0 ∨ (255 : Int32) < d1 ∨ (255 : Int32) < d2) (AD : Sta Z Z.heap "java/lang/StringUTF16" "$assertionsDisabled" "Z" (.int 1)) (HB : Sta Z Z.heap "java/lang/StringUTF16" "HI_BYTE_SHIFT" "I" (.int 0)) (LB : Sta Z Z.heap "java/lang/StringUTF16" "LO_BYTE_SHIFT" "I" (.int 8)) (XO : Old Z n0 h0) :
    MetFree l (⟨"java/lang/StringUTF16", "compress", "([CII)[B"⟩ : MethodName) (head1 (Jvm.Cond.code (⟨"java/lang/StringUTF16", "compress", "([CII)[B"⟩ : MethodName) jdk_52_method_16_code 6 (some (.array .byte)) :: ws) ({ frames := 3, cells := 2, slots := 9, locals := 40 } : Room)) (fun a U => a = #[(.ref ca), (.int 0), (.int 3)] ∧ Z.Warmed39 U.vm ∧ U.heap = h0) (fun _ _ _ _ _ => True) (fun _ U o U' => ∃ v L, o = .returned v ∧ Q_own_c33 Z ca kC d0 d1 d2 h0 n0 v U'.heap L ∧ FrameEnd U o U' L ({ frames := 3, cells := 2, slots := 9, locals := 40 } : Room).cells ({ frames := 3, cells := 2, slots := 9, locals := 40 } : Room).slots) := by
  refine MetFree.of_bodySF (plainFor_of_name pn_java_lang_StringUTF16) hisR ?_
  intro p e s m args below meth c s₁ Bd hml0 hP hK
  obtain ⟨rfl, hZ, hh⟩ := hP
  have hx := Bd.exec
  have hby := Bd.bytes
  have hml : c.maxLocals = 6 := hml0
  have hown : s.vm.findClass "java/lang/StringUTF16" = some m.cls := findClass_of_methodNamed Bd.named
  have hnm := (name_of_methodNamed Bd.named Bd.method).1
  have X0 : Stand p l e ({ frames := 3, cells := 2, slots := 9, locals := 40 } : Room) s m #[(.ref ca), (.int 0), (.int 3)] below meth c s₁ [] 0 0 := Stand.of_body Bd
  have e0 : s₁.heap = h0 := by rw [← hh, Bd.state]; rfl
  have N0 := Fr.nil n0
  have pre0 : ∀ t, Steps p.tables e below (s₁.setTop (mkF m 0 #[.val (.ref ca), .val (.int 0), .val (.int 3), .unset, .unset, .unset] [])) t → Steps p.tables e below (s₁.setTop (entryFrame m #[(.ref ca), (.int 0), (.int 3)] 6)) t := fun t k => castTop (ef_own_c33 m) k
  obtain ⟨fb1, g1⟩ : ∃ z, z = h0.size := ⟨_, rfl⟩
  have ne_ca_fb1 : ca ≠ fb1 := Nat.ne_of_lt (Nat.lt_of_lt_of_le KC.lt (Nat.le_of_eq g1.symm))
  have lo_fb1 : n0 ≤ fb1 := Nat.le_trans Z0 (Nat.le_of_eq g1.symm)
  have hi_fb1 : h0.size ≤ fb1 := Nat.le_trans (Keep.refl h0 []).1 (Nat.le_of_eq g1.symm)
  obtain ⟨T1, h1, k1, X1, e1, E1, A1, st1⟩ := newP X0 hx hZ (gw hw 17 rfl) e0 (g := (mkF m 1 #[.val (.ref ca), .val (.int 0), .val (.int 3), .unset, .unset, .unset] [(.int 3)])) rfl (hb hby D19_1) rfl (by decide) (cap := 3) (by decide) (by decide) (by decide) (by decide)
  rw [← g1] at A1 st1
  have V1 : Arv Z h1 fb1 k1 .byte (3 : Int32) [(.int 0), (.int 0), (.int 0)] (.int 0) := (Arv.new A1 (by decide)).pad (pad_rep [] (.int 0) 3)
  have pre2 : ∀ t, Steps p.tables e below (T1.setTop (mkF m 3 #[.val (.ref ca), .val (.int 0), .val (.int 3), .unset, .unset, .unset] [(.ref fb1)])) t → Steps p.tables e below (s₁.setTop (entryFrame m #[(.ref ca), (.int 0), (.int 3)] 6)) t := by
    intro t kk
    refine pre0 t ?_
    refine XS.iloadN X0.here hx rfl (hb hby D19_0) rfl ?_
    exact st1 _ kk
  have fc3 := (KC.ext E1)
  have fc5 := (Nat.le_trans Z0 E1.1)
  obtain ⟨_, _, ⟨T4, L4, k4, n4⟩, -, X4, ⟨Lc4, hQ4, l4, y4, z4⟩, st4⟩ := Jvm.LawKit.callS X1 hx (y := (⟨"java/lang/StringUTF16", "compress", "([CI[BII)I"⟩ : MethodName)) hown (mvT hZ (gw hw 48 rfl)) (mvT hZ (gw hw 49 rfl)) (mvT hZ (gw hw 46 rfl)) (mvT hZ (gw hw 50 rfl)) (by decide) (backOf (W := 0) (own_c53 l Z a0 hw [] ca fb1 kC k1 d0 d1 d2 h1 n0 fc5 fc3 V1 lo_fb1 ne_ca_fb1 hwd) hZ (gw hw 50 rfl) (gw hw 46 rfl) (by decide) (by decide)) (g := (mkF m 9 #[.val (.ref ca), .val (.int 0), .val (.int 3), .val (.ref fb1), .unset, .unset] [(.int 3), (.int 0), (.ref fb1), (.int 0), (.ref ca)])) rfl (by rw [hml]; rfl) (argsL := [(.ref ca), (.int 0), (.ref fb1), (.int 0), (.int 3)]) (rest := []) (lenOf pd___CI_BII_I rfl) rfl (by show 2 * 0 + _ ≤ _; exact Nat.le_of_eq rfl) (hb hby D19_9) (fun _ _ => ⟨rfl, e1, (by decide : 1 + 0 ≤ _), (by decide : 3 + 0 ≤ _)⟩)
  dsimp only [Pt.U, Pt.locs, Pt.cells, Pt.slots] at X4 l4 y4 z4 st4 hQ4
  subst l4 y4 z4
  obtain ⟨jj, rfl, N4q, K4, hj⟩ := hQ4
  have N4 := Fr.app N0 N4q
  have pre6 : ∀ t, Steps p.tables e below (T4.setTop (mkF m 12 #[.val (.ref ca), .val (.int 0), .val (.int 3), .val (.ref fb1), .unset, .unset] [(.int jj)])) t → Steps p.tables e below (s₁.setTop (entryFrame m #[(.ref ca), (.int 0), (.int 3)] 6)) t := by
    intro t kk
    refine pre2 t ?_
    refine XS.astoreN X1.here hx rfl (hb hby D19_3) rfl rfl (l' := #[.val (.ref ca), .val (.int 0), .val (.int 3), .val (.ref fb1), .unset, .unset]) rfl ?_
    refine XS.aloadN X1.here hx rfl (hb hby D19_4) rfl rfl ?_
    refine XS.iloadN X1.here hx rfl (hb hby D19_5) rfl ?_
    refine XS.aloadN X1.here hx rfl (hb hby D19_6) rfl rfl ?_
    refine XS.iconst X1.here hx rfl (hb hby D19_7) ?_
    refine XS.iloadN X1.here hx rfl (hb hby D19_8) rfl ?_
    exact st4 _ kk
  have hjn : ¬ jj = (3 : Int32) := by
    rcases hj with ⟨rfl, hj⟩ | ⟨rfl, hj⟩ | ⟨rfl, hj⟩ <;> decide
  have fc7 := (fc3.keep K4 (ninS ne_ca_fb1 nin0))
  have fc8 := ((XO.ext E1).keep K4 (allS lo_fb1 all0))
  have fc10 := (Nat.le_trans fc5 K4.1)
  obtain ⟨_, _, ⟨T9, L9, k9, n9⟩, -, X9, ⟨Lc9, hQ9, l9, y9, z9⟩, st9⟩ := Jvm.LawKit.callS X4 hx (y := (⟨"java/lang/StringUTF16", "toBytes", "([CII)[B"⟩ : MethodName)) hown (mvT hZ (gw hw 80 rfl)) (mvT hZ (gw hw 81 rfl)) (mvT hZ (gw hw 46 rfl)) (mvT hZ (gw hw 82 rfl)) (by decide) (backOf (W := 0) (own_tb3 l Z a0 hw [] ca kC d0 d1 d2 T4.heap n0 fc10 fc7 AD HB LB fc8) hZ (gw hw 82 rfl) (gw hw 46 rfl) (by decide) (by decide)) (g := (mkF m 23 #[.val (.ref ca), .val (.int 0), .val (.int 3), .val (.ref fb1), .val (.int jj), .unset] [(.int 3), (.int 0), (.ref ca)])) rfl (by rw [hml]; rfl) (argsL := [(.ref ca), (.int 0), (.int 3)]) (rest := []) (lenOf pd___CII__B rfl) rfl (by show 2 * 0 + _ ≤ _; exact Nat.le_of_eq rfl) (hb hby D19_23) (fun _ _ => ⟨rfl, rfl, (by decide : 1 + 1 ≤ _), (by decide : 3 + 6 ≤ _)⟩)
  dsimp only [Pt.U, Pt.locs, Pt.cells, Pt.slots] at X9 l9 y9 z9 st9 hQ9
  subst l9 y9 z9
  obtain ⟨fb, kf, rfl, N9q, K9, gf, Vf⟩ := hQ9
  have N9 := Fr.app N4 N9q
  have pre11 : ∀ t, Steps p.tables e below (T9.setTop (mkF m 26 #[.val (.ref ca), .val (.int 0), .val (.int 3), .val (.ref fb1), .val (.int jj), .unset] [(.ref fb)])) t → Steps p.tables e below (s₁.setTop (entryFrame m #[(.ref ca), (.int 0), (.int 3)] 6)) t := by
    intro t kk
    refine pre6 t ?_
    refine XS.istore X4.here hx rfl (hb hby D19_12) rfl (l' := #[.val (.ref ca), .val (.int 0), .val (.int 3), .val (.ref fb1), .val (.int jj), .unset]) rfl ?_
    refine XS.iload X4.here hx rfl (hb hby D19_14) rfl ?_
    refine XS.iloadN X4.here hx rfl (hb hby D19_16) rfl ?_
    refine XS.icmpNo X4.here hx rfl (hb hby D19_17) rfl (feq hjn).1 ?_
    refine XS.aloadN X4.here hx rfl (hb hby D19_20) rfl rfl ?_
    refine XS.iloadN X4.here hx rfl (hb hby D19_21) rfl ?_
    refine XS.iloadN X4.here hx rfl (hb hby D19_22) rfl ?_
    exact st9 _ kk
  have lo_fb : n0 ≤ fb := Nat.le_trans fc10 gf
  have hi_fb : h0.size ≤ fb := Nat.le_trans (((Keep.refl h0 []).ext E1).trans K4 (allS (Or.inr hi_fb1) all0)).1 gf
  have ne_ca_fb : ca ≠ fb := Nat.ne_of_lt (Nat.lt_of_lt_of_le fc7.lt gf)
  have pre12 : ∀ t, Steps p.tables e below (T9.setTop (mkF m 32 #[.val (.ref ca), .val (.int 0), .val (.int 3), .val (.ref fb1), .val (.int jj), .val (.ref fb)] [(.int jj), (.ref fb)])) t → Steps p.tables e below (s₁.setTop (entryFrame m #[(.ref ca), (.int 0), (.int 3)] 6)) t := by
    intro t kk
    refine pre11 t ?_
    refine XS.astore X9.here hx rfl (hb hby D19_26) rfl rfl (l' := #[.val (.ref ca), .val (.int 0), .val (.int 3), .val (.ref fb1), .val (.int jj), .val (.ref fb)]) rfl ?_
    refine XS.aload X9.here hx rfl (hb hby D19_28) rfl rfl ?_
    refine XS.iload X9.here hx rfl (hb hby D19_30) rfl ?_
    exact kk
  have fc13 := (fc8.keep K9 all0)
  have fc14 := ((((Keep.refl h0 []).ext E1).trans K4 (allS (Or.inr hi_fb1) all0)).trans K9 all0)
  have fc15 := (Nat.le_trans fc10 K9.1)
  rcases hj with ⟨rfl, hj⟩ | ⟨rfl, hj⟩ | ⟨rfl, hj⟩
  · skip
    obtain ⟨_, _, ⟨T16, L16, k16, n16⟩, -, X16, ⟨Lc16, hQ16, l16, y16, z16⟩, st16⟩ := Jvm.LawKit.callS X9 hx (y := (⟨"java/lang/StringUTF16", "getChar", "([BI)C"⟩ : MethodName)) hown (mvT hZ (gw hw 96 rfl)) (mvT hZ (gw hw 97 rfl)) (mvT hZ (gw hw 46 rfl)) (mvT hZ (gw hw 98 rfl)) (by decide) (backOf (W := 0) (own_gc l Z a0 hw [] fb kf [d0, d1, d2] 0 T9.heap n0 fc15 Vf (Nat.le_of_ble_eq_true rfl) (Nat.le_of_ble_eq_true rfl) hd0 AD HB LB fc13) hZ (gw hw 98 rfl) (gw hw 46 rfl) (by decide) (by decide)) (g := (mkF m 32 #[.val (.ref ca), .val (.int 0), .val (.int 3), .val (.ref fb1), .val (.int 0), .val (.ref fb)] [(.int 0), (.ref fb)])) rfl (by rw [hml]; rfl) (argsL := [(.ref fb), (.int 0)]) (rest := []) (lenOf pd___BI_C rfl) rfl (by show 2 * 0 + _ ≤ _; exact Nat.le_of_eq rfl) (hb hby D19_32) (fun _ _ => ⟨rfl, rfl, (by decide : 2 + 0 ≤ _), (by decide : 9 + 0 ≤ _)⟩)
    dsimp only [Pt.U, Pt.locs, Pt.cells, Pt.slots] at X16 l16 y16 z16 st16 hQ16
    subst l16 y16 z16
    obtain ⟨rfl, N16q, e16q⟩ := hQ16
    have N16 := Fr.app N9 N16q
    have pre17 : ∀ t, Steps p.tables e below (T16.setTop (mkF m 35 #[.val (.ref ca), .val (.int 0), .val (.int 3), .val (.ref fb1), .val (.int 0), .val (.ref fb)] [(.int d0)])) t → Steps p.tables e below (s₁.setTop (entryFrame m #[(.ref ca), (.int 0), (.int 3)] 6)) t := by
      intro t kk
      refine pre12 t ?_
      exact st16 _ kk
    obtain ⟨fs, hr, hrun, hended, hW, hsame⟩ := X16.leave (v := some (.ref fb)) (fun h => by rw [Bd.returns] at h; cases h)
    refine ⟨_, _, pre17 _ ?_, hrun, hended, _, _, rfl, ?_, ⟨_, rfl⟩, hW, hsame.mono (by decide) (by decide)⟩
    · refine XS.sipush X16.here hx rfl (hb hby D19_35) ?_
      refine XS.icmpYes X16.here hx rfl (pc0 := 38) (pc' := 54) rfl (hb hby D19_38) rfl (tlt hj).2.2.1 (by decide) (by decide) ?_
      refine XS.aload X16.here hx rfl (hb hby D19_54) rfl rfl ?_
      jvm_step X16.here [X16.here.top, hx, (hb hby D19_56), X16.method', Bd.returns, Value.isRef, FieldType.isReference]
      first | (intro acts; rw [hr _ acts rfl rfl rfl]) | rw [hr _ _ rfl rfl rfl]
      exact Steps.refl _
    · show Q_own_c33 Z ca kC d0 d1 d2 h0 n0 _ T16.heap _
      rw [e16q]
      exact ⟨fb, kf, rfl, N16, fc14, hi_fb, Vf⟩
  · skip
    obtain ⟨_, _, ⟨T18, L18, k18, n18⟩, -, X18, ⟨Lc18, hQ18, l18, y18, z18⟩, st18⟩ := Jvm.LawKit.callS X9 hx (y := (⟨"java/lang/StringUTF16", "getChar", "([BI)C"⟩ : MethodName)) hown (mvT hZ (gw hw 96 rfl)) (mvT hZ (gw hw 97 rfl)) (mvT hZ (gw hw 46 rfl)) (mvT hZ (gw hw 98 rfl)) (by decide) (backOf (W := 0) (own_gc l Z a0 hw [] fb kf [d0, d1, d2] 1 T9.heap n0 fc15 Vf (Nat.le_of_ble_eq_true rfl) (Nat.le_of_ble_eq_true rfl) hd1 AD HB LB fc13) hZ (gw hw 98 rfl) (gw hw 46 rfl) (by decide) (by decide)) (g := (mkF m 32 #[.val (.ref ca), .val (.int 0), .val (.int 3), .val (.ref fb1), .val (.int 1), .val (.ref fb)] [(.int 1), (.ref fb)])) rfl (by rw [hml]; rfl) (argsL := [(.ref fb), (.int 1)]) (rest := []) (lenOf pd___BI_C rfl) rfl (by show 2 * 0 + _ ≤ _; exact Nat.le_of_eq rfl) (hb hby D19_32) (fun _ _ => ⟨rfl, rfl, (by decide : 2 + 0 ≤ _), (by decide : 9 + 0 ≤ _)⟩)
    dsimp only [Pt.U, Pt.locs, Pt.cells, Pt.slots] at X18 l18 y18 z18 st18 hQ18
    subst l18 y18 z18
    obtain ⟨rfl, N18q, e18q⟩ := hQ18
    have N18 := Fr.app N9 N18q
    have pre19 : ∀ t, Steps p.tables e below (T18.setTop (mkF m 35 #[.val (.ref ca), .val (.int 0), .val (.int 3), .val (.ref fb1), .val (.int 1), .val (.ref fb)] [(.int d1)])) t → Steps p.tables e below (s₁.setTop (entryFrame m #[(.ref ca), (.int 0), (.int 3)] 6)) t := by
      intro t kk
      refine pre12 t ?_
      exact st18 _ kk
    obtain ⟨fs, hr, hrun, hended, hW, hsame⟩ := X18.leave (v := some (.ref fb)) (fun h => by rw [Bd.returns] at h; cases h)
    refine ⟨_, _, pre19 _ ?_, hrun, hended, _, _, rfl, ?_, ⟨_, rfl⟩, hW, hsame.mono (by decide) (by decide)⟩
    · refine XS.sipush X18.here hx rfl (hb hby D19_35) ?_
      refine XS.icmpYes X18.here hx rfl (pc0 := 38) (pc' := 54) rfl (hb hby D19_38) rfl (tlt hj).2.2.1 (by decide) (by decide) ?_
      refine XS.aload X18.here hx rfl (hb hby D19_54) rfl rfl ?_
      jvm_step X18.here [X18.here.top, hx, (hb hby D19_56), X18.method', Bd.returns, Value.isRef, FieldType.isReference]
      first | (intro acts; rw [hr _ acts rfl rfl rfl]) | rw [hr _ _ rfl rfl rfl]
      exact Steps.refl _
    · show Q_own_c33 Z ca kC d0 d1 d2 h0 n0 _ T18.heap _
      rw [e18q]
      exact ⟨fb, kf, rfl, N18, fc14, hi_fb, Vf⟩
  · skip
    obtain ⟨_, _, ⟨T20, L20, k20, n20⟩, -, X20, ⟨Lc20, hQ20, l20, y20, z20⟩, st20⟩ := Jvm.LawKit.callS X9 hx (y := (⟨"java/lang/StringUTF16", "getChar", "([BI)C"⟩ : MethodName)) hown (mvT hZ (gw hw 96 rfl)) (mvT hZ (gw hw 97 rfl)) (mvT hZ (gw hw 46 rfl)) (mvT hZ (gw hw 98 rfl)) (by decide) (backOf (W := 0) (own_gc l Z a0 hw [] fb kf [d0, d1, d2] 2 T9.heap n0 fc15 Vf (Nat.le_of_ble_eq_true rfl) (Nat.le_of_ble_eq_true rfl) hd2 AD HB LB fc13) hZ (gw hw 98 rfl) (gw hw 46 rfl) (by decide) (by decide)) (g := (mkF m 32 #[.val (.ref ca), .val (.int 0), .val (.int 3), .val (.ref fb1), .val (.int 2), .val (.ref fb)] [(.int 2), (.ref fb)])) rfl (by rw [hml]; rfl) (argsL := [(.ref fb), (.int 2)]) (rest := []) (lenOf pd___BI_C rfl) rfl (by show 2 * 0 + _ ≤ _; exact Nat.le_of_eq rfl) (hb hby D19_32) (fun _ _ => ⟨rfl, rfl, (by decide : 2 + 0 ≤ _), (by decide : 9 + 0 ≤ _)⟩)
    dsimp only [Pt.U, Pt.locs, Pt.cells, Pt.slots] at X20 l20 y20 z20 st20 hQ20
    subst l20 y20 z20
    obtain ⟨rfl, N20q, e20q⟩ := hQ20
    have N20 := Fr.app N9 N20q
    have pre21 : ∀ t, Steps p.tables e below (T20.setTop (mkF m 35 #[.val (.ref ca), .val (.int 0), .val (.int 3), .val (.ref fb1), .val (.int 2), .val (.ref fb)] [(.int d2)])) t → Steps p.tables e below (s₁.setTop (entryFrame m #[(.ref ca), (.int 0), (.int 3)] 6)) t := by
      intro t kk
      refine pre12 t ?_
      exact st20 _ kk
    obtain ⟨fs, hr, hrun, hended, hW, hsame⟩ := X20.leave (v := some (.ref fb)) (fun h => by rw [Bd.returns] at h; cases h)
    refine ⟨_, _, pre21 _ ?_, hrun, hended, _, _, rfl, ?_, ⟨_, rfl⟩, hW, hsame.mono (by decide) (by decide)⟩
    · refine XS.sipush X20.here hx rfl (hb hby D19_35) ?_
      refine XS.icmpYes X20.here hx rfl (pc0 := 38) (pc' := 54) rfl (hb hby D19_38) rfl (tlt hj).2.2.1 (by decide) (by decide) ?_
      refine XS.aload X20.here hx rfl (hb hby D19_54) rfl rfl ?_
      jvm_step X20.here [X20.here.top, hx, (hb hby D19_56), X20.method', Bd.returns, Value.isRef, FieldType.isReference]
      first | (intro acts; rw [hr _ acts rfl rfl rfl]) | rw [hr _ _ rfl rfl rfl]
      exact Steps.refl _
    · show Q_own_c33 Z ca kC d0 d1 d2 h0 n0 _ T20.heap _
      rw [e20q]
      exact ⟨fb, kf, rfl, N20, fc14, hi_fb, Vf⟩
theorem ef_own_cf3 (m : MethodId) {sb : Addr} : entryFrame m #[(.ref sb), (.int 3)] 2 = mkF m 0 #[.val (.ref sb), .val (.int 3)] [] := by first | (simp [entryFrame, mkF, argsToLocals, Value.category]; done) | rfl
def Q_own_cf3 (Z : State) (sb : Addr) (kS : ClassId) (us : List Value) (h0 : Heap) (n0 : Nat) (v : Option Value) (h : Heap) (L : List Loc) : Prop := v = some (.int 1) ∧ Fr n0 L ∧ h = h0
set_option maxRecDepth 65536 in
set_option maxHeartbeats 40000000 in
theorem own_cf3 (l : Launch) (Z : State) (a0 : Array Value) (hw : ∀ d ∈ tables_1, d.before a0 Z = true) (ws : List Jvm.Cond) (sb : Addr) (kS : ClassId) (us : List Value) (h0 : Heap) (n0 : Nat) (Z0 : n0 ≤ h0.size) (KS : Arv Z h0 sb kS .byte (6 : Int32) us (.int 0)) :
    MetFree l (⟨"java/lang/StringUTF16", "coderFromArrayLen", "([BI)B"⟩ : MethodName) (head1 (Jvm.Cond.code (⟨"java/lang/StringUTF16", "coderFromArrayLen", "([BI)B"⟩ : MethodName) jdk_52_method_15_code 2 (some .byte) :: ws) ({ frames := 0, cells := 0, slots := 0, locals := 0 } : Room)) (fun a U => a = #[(.ref sb), (.int 3)] ∧ Z.Warmed39 U.vm ∧ U.heap = h0) (fun _ _ _ _ _ => True) (fun _ U o U' => ∃ v L, o = .returned v ∧ Q_own_cf3 Z sb kS us h0 n0 v U'.heap L ∧ FrameEnd U o U' L ({ frames := 0, cells := 0, slots := 0, locals := 0 } : Room).cells ({ frames := 0, cells := 0, slots := 0, locals := 0 } : Room).slots) := by
  refine MetFree.of_bodySF (plainFor_of_name pn_java_lang_StringUTF16) hisR ?_
  intro p e s m args below meth c s₁ Bd hml0 hP hK
  obtain ⟨rfl, hZ, hh⟩ := hP
  have hx := Bd.exec
  have hby := Bd.bytes
  have hml : c.maxLocals = 2 := hml0
  have hown : s.vm.findClass "java/lang/StringUTF16" = some m.cls := findClass_of_methodNamed Bd.named
  have hnm := (name_of_methodNamed Bd.named Bd.method).1
  have X0 : Stand p l e ({ frames := 0, cells := 0, slots := 0, locals := 0 } : Room) s m #[(.ref sb), (.int 3)] below meth c s₁ [] 0 0 := Stand.of_body Bd
  have e0 : s₁.heap = h0 := by rw [← hh, Bd.state]; rfl
  have N0 := Fr.nil n0
  have pre0 : ∀ t, Steps p.tables e below (s₁.setTop (mkF m 0 #[.val (.ref sb), .val (.int 3)] [])) t → Steps p.tables e below (s₁.setTop (entryFrame m #[(.ref sb), (.int 3)] 2)) t := fun t k => castTop (ef_own_cf3 m) k
  obtain ⟨cl1, Ar1, q1, S1, M1, H1, Gv1⟩ := id KS
  have pre2 : ∀ t, Steps p.tables e below (s₁.setTop (mkF m 8 #[.val (.ref sb), .val (.int 3)] [(.int (((((3 : Int32) - (6 : Int32)).toUInt32 >>> ((31 : Int32) &&& 31).toUInt32).toInt32).toInt8.toInt32))])) t → Steps p.tables e below (s₁.setTop (entryFrame m #[(.ref sb), (.int 3)] 2)) t := by
    intro t kk
    refine pre0 t ?_
    refine XS.iloadN X0.here hx rfl (hb hby D20_0) rfl ?_
    refine XS.aloadN X0.here hx rfl (hb hby D20_1) rfl rfl ?_
    refine X0.arraylength hx (by rw [e0]; exact Ar1.1) (State.isArrayOf_alike hZ.alike Ar1.2.1) (g := (mkF m 2 #[.val (.ref sb), .val (.int 3)] [(.ref sb), (.int 3)])) rfl rfl (hb hby D20_2) _ ?_
    rw [len_of S1 M1]
    refine XS.isub X0.here hx rfl (hb hby D20_3) rfl ?_
    refine XS.bipush X0.here hx rfl (hb hby D20_4) ?_
    refine XS.iushr X0.here hx rfl (hb hby D20_6) rfl ?_
    refine XS.i2b X0.here hx rfl (hb hby D20_7) rfl ?_
    exact kk
  rw [(by decide : (((((3 : Int32) - (6 : Int32)).toUInt32 >>> ((31 : Int32) &&& 31).toUInt32).toInt32).toInt8.toInt32) = (1 : Int32))] at pre2
  obtain ⟨fs, hr, hrun, hended, hW, hsame⟩ := X0.leave (v := some (.int 1)) (fun h => by rw [Bd.returns] at h; cases h)
  refine ⟨_, _, pre2 _ ?_, hrun, hended, _, _, rfl, ?_, ⟨_, rfl⟩, hW, hsame.mono (by decide) (by decide)⟩
  · exact retN X0 hx (t := .byte) Bd.returns (by simp) (hb hby D20_8) hr
  · show Q_own_cf3 Z sb kS us h0 n0 _ s₁.heap _
    rw [e0]
    exact ⟨rfl, N0, rfl⟩
theorem ef_own_i43 (m : MethodId) {a1 : Addr} {ca : Addr} : entryFrame m #[(.ref a1), (.ref ca), (.int 0), (.int 3), .null] 6 = mkF m 0 #[.val (.ref a1), .val (.ref ca), .val (.int 0), .val (.int 3), .val .null, .unset] [] := by first | (simp [entryFrame, mkF, argsToLocals, Value.category]; done) | rfl
def Q_own_i43 (Z : State) (a1 ca : Addr) (kC : ClassId) (d0 d1 d2 : Int32) (G1 : Int32) (h0 : Heap) (n0 : Nat) (v : Option Value) (h : Heap) (L : List Loc) : Prop := v = none ∧ Fr n0 L ∧ Keep h0 h [a1] ∧ ∃ (b : Addr) (k : ClassId), h0.size ≤ b ∧ Fld Z h a1 "java/lang/String" "value" "[B" (.ref b) ∧ Fld Z h a1 "java/lang/String" "coder" "B" (.int 1) ∧ Arv Z h b k .byte (6 : Int32) [(.int (StrChars.lo8 d0)), (.int (StrChars.hi8 d0)), (.int (StrChars.lo8 d1)), (.int (StrChars.hi8 d1)), (.int (StrChars.lo8 d2)), (.int (StrChars.hi8 d2))] (.int 0)
set_option maxRecDepth 65536 in
set_option maxHeartbeats 40000000 in
theorem own_i43 (l : Launch) (Z : State) (a0 : Array Value) (hw : ∀ d ∈ tables_1, d.before a0 Z = true) (ws : List Jvm.Cond) (a1 ca : Addr) (kC : ClassId) (d0 d1 d2 : Int32) (G1 : Int32) (h0 : Heap) (n0 : Nat) (Z0 : n0 ≤ h0.size) (O1 : Obj Z h0 a1 "java/lang/String") (g1 : n0 ≤ a1) (KC : Arv Z h0 ca kC .char (3 : Int32) [(.int d0), (.int d1), (.int d2)] (.int 0)) (hd0 : ¬ d0 < 0 ∧ ¬ (65535 : Int32) < d0) (hd1 : ¬ d1 < 0 ∧ ¬ (65535 : Int32) < d1) (hd2 : ¬ d2 < 0 ∧ ¬ (65535 : Int32) < d2) (hwd : (255 : Int32) < d0 ∨ (255 : Int32) < d1 ∨ (255 : Int32) < d2) (AD : Sta Z Z.heap "java/lang/StringUTF16" "$assertionsDisabled" "Z" (.int 1)) (HB : Sta Z Z.heap "java/lang/StringUTF16" "HI_BYTE_SHIFT" "I" (.int 0)) (LB : Sta Z Z.heap "java/lang/StringUTF16" "LO_BYTE_SHIFT" "I" (.int 8)) (O2 : Sta Z Z.heap "java/lang/String" "COMPACT_STRINGS" "Z" (.int G1)) (P5 : ¬ G1 = (0 : Int32)) (XO : Old Z n0 h0) :
    MetFree l (⟨"java/lang/String", "<init>", "([CIILjava/lang/Void;)V"⟩ : MethodName) (head1 (Jvm.Cond.code (⟨"java/lang/String", "<init>", "([CIILjava/lang/Void;)V"⟩ : MethodName) jdk_42_method_149_code 6 none :: ws) ({ frames := 4, cells := 2, slots := 9, locals := 57 } : Room)) (fun a U => a = #[(.ref a1), (.ref ca), (.int 0), (.int 3), .null] ∧ Z.Warmed39 U.vm ∧ U.heap = h0) (fun _ _ _ _ _ => True) (fun _ U o U' => ∃ v L, o = .returned v ∧ Q_own_i43 Z a1 ca kC d0 d1 d2 G1 h0 n0 v U'.heap L ∧ FrameEnd U o U' L ({ frames := 4, cells := 2, slots := 9, locals := 57 } : Room).cells ({ frames := 4, cells := 2, slots := 9, locals := 57 } : Room).slots) := by
  refine MetFree.of_bodySF (plainFor_of_name pn_java_lang_String) hisR ?_
  intro p e s m args below meth c s₁ Bd hml0 hP hK
  obtain ⟨rfl, hZ, hh⟩ := hP
  have hx := Bd.exec
  have hby := Bd.bytes
  have hml : c.maxLocals = 6 := hml0
  have hown : s.vm.findClass "java/lang/String" = some m.cls := findClass_of_methodNamed Bd.named
  have hnm := (name_of_methodNamed Bd.named Bd.method).1
  have X0 : Stand p l e ({ frames := 4, cells := 2, slots := 9, locals := 57 } : Room) s m #[(.ref a1), (.ref ca), (.int 0), (.int 3), .null] below meth c s₁ [] 0 0 := Stand.of_body Bd
  have e0 : s₁.heap = h0 := by rw [← hh, Bd.state]; rfl
  have N0 := Fr.nil n0
  have pre0 : ∀ t, Steps p.tables e below (s₁.setTop (mkF m 0 #[.val (.ref a1), .val (.ref ca), .val (.int 0), .val (.int 3), .val .null, .unset] [])) t → Steps p.tables e below (s₁.setTop (entryFrame m #[(.ref a1), (.ref ca), (.int 0), (.int 3), .null] 6)) t := fun t k => castTop (ef_own_i43 m) k
  obtain ⟨T1, X1, e1, st1⟩ := initO X0 hx hZ hown (gw hw 13 rfl) (gw hw 14 rfl) (gw hw 15 rfl) e0 (g := (mkF m 1 #[.val (.ref a1), .val (.ref ca), .val (.int 0), .val (.int 3), .val .null, .unset] [(.ref a1)])) rfl (by rw [hml]; rfl) rfl (hb hby D21_1) (by decide) (W := 0) (by show 2 * 0 + _ ≤ _; exact Nat.le_of_eq rfl) (by decide)
  have pre2 : ∀ t, Steps p.tables e below (T1.setTop (mkF m 4 #[.val (.ref a1), .val (.ref ca), .val (.int 0), .val (.int 3), .val .null, .unset] [])) t → Steps p.tables e below (s₁.setTop (entryFrame m #[(.ref a1), (.ref ca), (.int 0), (.int 3), .null] 6)) t := by
    intro t kk
    refine pre0 t ?_
    refine XS.aloadN X0.here hx rfl (hb hby D21_0) rfl rfl ?_
    exact st1 _ kk
  have hbr3 : ¬ ((3 : Int32) = (0 : Int32)) := by decide
  obtain ⟨T4, X4, e4, st4⟩ := getS2 X1 hx hZ hown (host := "") (Or.inl (gw hw 43 rfl)) Via.refl e1 (O2.ext XO.2) (g := (mkF m 27 #[.val (.ref a1), .val (.ref ca), .val (.int 0), .val (.int 3), .val .null, .unset] [])) rfl (hb hby D21_27)
  have pre5 : ∀ t, Steps p.tables e below (T4.setTop (mkF m 30 #[.val (.ref a1), .val (.ref ca), .val (.int 0), .val (.int 3), .val .null, .unset] [(.int G1)])) t → Steps p.tables e below (s₁.setTop (entryFrame m #[(.ref a1), (.ref ca), (.int 0), (.int 3), .null] 6)) t := by
    intro t kk
    refine pre2 t ?_
    refine XS.iloadN X1.here hx rfl (hb hby D21_4) rfl ?_
    refine XS.ifYes X1.here hx rfl (pc0 := 5) (pc' := 27) rfl (hb hby D21_5) rfl ((if0 _ _).trans (feq hbr3).2) (by decide) (by decide) ?_
    exact st4 _ kk
  obtain ⟨_, _, ⟨T6, L6, k6, n6⟩, -, X6, ⟨Lc6, hQ6, l6, y6, z6⟩, st6⟩ := Jvm.LawKit.callS X4 hx (y := (⟨"java/lang/StringUTF16", "compress", "([CII)[B"⟩ : MethodName)) hown (mvT hZ (gw hw 44 rfl)) (mvT hZ (gw hw 45 rfl)) (mvT hZ (gw hw 46 rfl)) (mvT hZ (gw hw 47 rfl)) (by decide) (backOf (W := 0) (own_c33 l Z a0 hw [] ca kC d0 d1 d2 h0 n0 Z0 KC hd0 hd1 hd2 hwd AD HB LB XO) hZ (gw hw 47 rfl) (gw hw 46 rfl) (by decide) (by decide)) (g := (mkF m 36 #[.val (.ref a1), .val (.ref ca), .val (.int 0), .val (.int 3), .val .null, .unset] [(.int 3), (.int 0), (.ref ca)])) rfl (by rw [hml]; rfl) (argsL := [(.ref ca), (.int 0), (.int 3)]) (rest := []) (lenOf pd___CII__B rfl) rfl (by show 2 * 0 + _ ≤ _; exact Nat.le_of_eq rfl) (hb hby D21_36) (fun _ _ => ⟨rfl, e4, (by decide : 0 + 2 ≤ _), (by decide : 0 + 9 ≤ _)⟩)
  dsimp only [Pt.U, Pt.locs, Pt.cells, Pt.slots] at X6 l6 y6 z6 st6 hQ6
  subst l6 y6 z6
  obtain ⟨fb, kf, rfl, N6q, K6, gf, Vf⟩ := hQ6
  have N6 := Fr.app N0 N6q
  have pre7 : ∀ t, Steps p.tables e below (T6.setTop (mkF m 39 #[.val (.ref a1), .val (.ref ca), .val (.int 0), .val (.int 3), .val .null, .unset] [(.ref fb)])) t → Steps p.tables e below (s₁.setTop (entryFrame m #[(.ref a1), (.ref ca), (.int 0), (.int 3), .null] 6)) t := by
    intro t kk
    refine pre5 t ?_
    refine XS.ifNo X4.here hx rfl (hb hby D21_30) rfl ((if0 _ _).trans (feq P5).1) ?_
    refine XS.aloadN X4.here hx rfl (hb hby D21_33) rfl rfl ?_
    refine XS.iloadN X4.here hx rfl (hb hby D21_34) rfl ?_
    refine XS.iloadN X4.here hx rfl (hb hby D21_35) rfl ?_
    exact st6 _ kk
  have lo_fb : n0 ≤ fb := Nat.le_trans Z0 gf
  have hi_fb : h0.size ≤ fb := Nat.le_trans (Keep.refl h0 [a1]).1 gf
  have ne_a1_fb : a1 ≠ fb := Nat.ne_of_lt (Nat.lt_of_lt_of_le O1.lt gf)
  have ne_ca_fb : ca ≠ fb := Nat.ne_of_lt (Nat.lt_of_lt_of_le KC.lt gf)
  have fc9 := (Nat.le_trans Z0 K6.1)
  obtain ⟨_, _, ⟨T8, L8, k8, n8⟩, -, X8, ⟨Lc8, hQ8, l8, y8, z8⟩, st8⟩ := Jvm.LawKit.callS X6 hx (y := (⟨"java/lang/StringUTF16", "coderFromArrayLen", "([BI)B"⟩ : MethodName)) hown (mvT hZ (gw hw 51 rfl)) (mvT hZ (gw hw 52 rfl)) (mvT hZ (gw hw 46 rfl)) (mvT hZ (gw hw 53 rfl)) (by decide) (backOf (W := 1) (own_cf3 l Z a0 hw [] fb kf _ T6.heap n0 fc9 Vf) hZ (gw hw 53 rfl) (gw hw 46 rfl) (by decide) (by decide)) (g := (mkF m 45 #[.val (.ref a1), .val (.ref ca), .val (.int 0), .val (.int 3), .val .null, .val (.ref fb)] [(.int 3), (.ref fb), (.ref a1)])) rfl (by rw [hml]; rfl) (argsL := [(.ref fb), (.int 3)]) (rest := [(.ref a1)]) (lenOf pd___BI_B rfl) rfl (by show 2 * 0 + _ ≤ _; exact Nat.le_of_eq rfl) (hb hby D21_45) (fun _ _ => ⟨rfl, rfl, (by decide : 2 + 0 ≤ _), (by decide : 9 + 0 ≤ _)⟩)
  dsimp only [Pt.U, Pt.locs, Pt.cells, Pt.slots] at X8 l8 y8 z8 st8 hQ8
  subst l8 y8 z8
  obtain ⟨rfl, N8q, e8q⟩ := hQ8
  have N8 := Fr.app N6 N8q
  have pre10 : ∀ t, Steps p.tables e below (T8.setTop (mkF m 48 #[.val (.ref a1), .val (.ref ca), .val (.int 0), .val (.int 3), .val .null, .val (.ref fb)] [(.int 1), (.ref a1)])) t → Steps p.tables e below (s₁.setTop (entryFrame m #[(.ref a1), (.ref ca), (.int 0), (.int 3), .null] 6)) t := by
    intro t kk
    refine pre7 t ?_
    refine XS.astore X6.here hx rfl (hb hby D21_39) rfl rfl (l' := #[.val (.ref a1), .val (.ref ca), .val (.int 0), .val (.int 3), .val .null, .val (.ref fb)]) rfl ?_
    refine XS.aloadN X6.here hx rfl (hb hby D21_41) rfl rfl ?_
    refine XS.aload X6.here hx rfl (hb hby D21_42) rfl rfl ?_
    refine XS.iloadN X6.here hx rfl (hb hby D21_44) rfl ?_
    exact st8 _ kk
  have fc11 := (O1.keep K6)
  obtain ⟨u12, U12⟩ := Obj.fld fc11 (Or.inr (gw hw 19 rfl)) (gw hw 4 rfl)
  obtain ⟨T12, h12, X12, e12, W12, st12⟩ := putF X8 hx hZ hown (host := "") (Or.inl (gw hw 23 rfl)) Via.refl e8q U12 fc11.exa (Or.inr ⟨(gw hw 19 rfl), rfl, hnm⟩) (gw hw 4 rfl) (ty := .byte) (by decide) rfl rfl (g := (mkF m 48 #[.val (.ref a1), .val (.ref ca), .val (.int 0), .val (.int 3), .val .null, .val (.ref fb)] [(.int 1), (.ref a1)])) rfl rfl (hb hby D21_48)
  have N12 := Fr.snoc X12 N8 g1
  have Fw12 := U12.same W12
  have pre13 : ∀ t, Steps p.tables e below (T12.setTop (mkF m 51 #[.val (.ref a1), .val (.ref ca), .val (.int 0), .val (.int 3), .val .null, .val (.ref fb)] [])) t → Steps p.tables e below (s₁.setTop (entryFrame m #[(.ref a1), (.ref ca), (.int 0), (.int 3), .null] 6)) t := by
    intro t kk
    refine pre10 t ?_
    exact st12 _ kk
  have fc14 := (fc11.wr W12)
  obtain ⟨u15, U15⟩ := Obj.fld fc14 (Or.inr (gw hw 18 rfl)) (gw hw 4 rfl)
  obtain ⟨T15, h15, X15, e15, W15, st15⟩ := putF X12 hx hZ hown (host := "") (Or.inl (gw hw 22 rfl)) Via.refl e12 U15 fc14.exa (Or.inr ⟨(gw hw 18 rfl), rfl, hnm⟩) (gw hw 4 rfl) (ty := (.array .byte)) (by decide) rfl rfl (g := (mkF m 54 #[.val (.ref a1), .val (.ref ca), .val (.int 0), .val (.int 3), .val .null, .val (.ref fb)] [(.ref fb), (.ref a1)])) rfl rfl (hb hby D21_54)
  have N15 := Fr.snoc X15 N12 g1
  have Fw15 := U15.same W15
  have pre16 : ∀ t, Steps p.tables e below (T15.setTop (mkF m 57 #[.val (.ref a1), .val (.ref ca), .val (.int 0), .val (.int 3), .val .null, .val (.ref fb)] [])) t → Steps p.tables e below (s₁.setTop (entryFrame m #[(.ref a1), (.ref ca), (.int 0), (.int 3), .null] 6)) t := by
    intro t kk
    refine pre13 t ?_
    refine XS.aloadN X12.here hx rfl (hb hby D21_51) rfl rfl ?_
    refine XS.aload X12.here hx rfl (hb hby D21_52) rfl rfl ?_
    exact st15 _ kk
  have fc17 := ((((Keep.refl h0 [a1]).trans K6 all0).wr W12 (Or.inl (List.mem_of_getElem? (i := 0) rfl))).wr W15 (Or.inl (List.mem_of_getElem? (i := 0) rfl)))
  have fc18 := (Fw12.other W15 (Or.inr (slot_ne (Or.inr (gw hw 19 rfl)) (Or.inr (gw hw 18 rfl)) (by decide) (t := .byte) (t' := (.array .byte)) (by decide) (by decide))))
  have fc19 := ((Vf.other W12 (Ne.symm ne_a1_fb)).other W15 (Ne.symm ne_a1_fb))
  obtain ⟨fs, hr, hrun, hended, hW, hsame⟩ := X15.leave (v := none) (fun _ => rfl)
  refine ⟨_, _, pre16 _ ?_, hrun, hended, _, _, rfl, ?_, ⟨_, rfl⟩, hW, hsame.mono (by decide) (by decide)⟩
  · exact X15.returnOut hx Bd.returns (hb hby D21_57) hr
  · show Q_own_i43 Z a1 ca kC d0 d1 d2 G1 h0 n0 _ T15.heap _
    rw [e15]
    exact ⟨rfl, N15, fc17, fb, kf, hi_fb, Fw15, fc18, fc19⟩
theorem ef_own_i13 (m : MethodId) {a1 : Addr} {ca : Addr} : entryFrame m #[(.ref a1), (.ref ca)] 2 = mkF m 0 #[.val (.ref a1), .val (.ref ca)] [] := by first | (simp [entryFrame, mkF, argsToLocals, Value.category]; done) | rfl
def Q_own_i13 (Z : State) (a1 ca : Addr) (kC : ClassId) (d0 d1 d2 : Int32) (G1 : Int32) (h0 : Heap) (n0 : Nat) (v : Option Value) (h : Heap) (L : List Loc) : Prop := v = none ∧ Fr n0 L ∧ Keep h0 h [a1] ∧ ∃ (b : Addr) (k : ClassId), h0.size ≤ b ∧ Fld Z h a1 "java/lang/String" "value" "[B" (.ref b) ∧ Fld Z h a1 "java/lang/String" "coder" "B" (.int 1) ∧ Arv Z h b k .byte (6 : Int32) [(.int (StrChars.lo8 d0)), (.int (StrChars.hi8 d0)), (.int (StrChars.lo8 d1)), (.int (StrChars.hi8 d1)), (.int (StrChars.lo8 d2)), (.int (StrChars.hi8 d2))] (.int 0)
set_option maxRecDepth 65536 in
set_option maxHeartbeats 40000000 in
theorem own_i13 (l : Launch) (Z : State) (a0 : Array Value) (hw : ∀ d ∈ tables_1, d.before a0 Z = true) (ws : List Jvm.Cond) (a1 ca : Addr) (kC : ClassId) (d0 d1 d2 : Int32) (G1 : Int32) (h0 : Heap) (n0 : Nat) (Z0 : n0 ≤ h0.size) (O1 : Obj Z h0 a1 "java/lang/String") (g1 : n0 ≤ a1) (KC : Arv Z h0 ca kC .char (3 : Int32) [(.int d0), (.int d1), (.int d2)] (.int 0)) (hd0 : ¬ d0 < 0 ∧ ¬ (65535 : Int32) < d0) (hd1 : ¬ d1 < 0 ∧ ¬ (65535 : Int32) < d1) (hd2 : ¬ d2 < 0 ∧ ¬ (65535 : Int32) < d2) (hwd : (255 : Int32) < d0 ∨ (255 : Int32) < d1 ∨ (255 : Int32) < d2) (AD : Sta Z Z.heap "java/lang/StringUTF16" "$assertionsDisabled" "Z" (.int 1)) (HB : Sta Z Z.heap "java/lang/StringUTF16" "HI_BYTE_SHIFT" "I" (.int 0)) (LB : Sta Z Z.heap "java/lang/StringUTF16" "LO_BYTE_SHIFT" "I" (.int 8)) (O2 : Sta Z Z.heap "java/lang/String" "COMPACT_STRINGS" "Z" (.int G1)) (P5 : ¬ G1 = (0 : Int32)) (XO : Old Z n0 h0) :
    MetFree l (⟨"java/lang/String", "<init>", "([C)V"⟩ : MethodName) (head1 (Jvm.Cond.code (⟨"java/lang/String", "<init>", "([C)V"⟩ : MethodName) jdk_42_method_3_code 2 none :: ws) ({ frames := 5, cells := 2, slots := 9, locals := 74 } : Room)) (fun a U => a = #[(.ref a1), (.ref ca)] ∧ Z.Warmed39 U.vm ∧ U.heap = h0) (fun _ _ _ _ _ => True) (fun _ U o U' => ∃ v L, o = .returned v ∧ Q_own_i13 Z a1 ca kC d0 d1 d2 G1 h0 n0 v U'.heap L ∧ FrameEnd U o U' L ({ frames := 5, cells := 2, slots := 9, locals := 74 } : Room).cells ({ frames := 5, cells := 2, slots := 9, locals := 74 } : Room).slots) := by
  refine MetFree.of_bodySF (plainFor_of_name pn_java_lang_String) hisR ?_
  intro p e s m args below meth c s₁ Bd hml0 hP hK
  obtain ⟨rfl, hZ, hh⟩ := hP
  have hx := Bd.exec
  have hby := Bd.bytes
  have hml : c.maxLocals = 2 := hml0
  have hown : s.vm.findClass "java/lang/String" = some m.cls := findClass_of_methodNamed Bd.named
  have hnm := (name_of_methodNamed Bd.named Bd.method).1
  have X0 : Stand p l e ({ frames := 5, cells := 2, slots := 9, locals := 74 } : Room) s m #[(.ref a1), (.ref ca)] below meth c s₁ [] 0 0 := Stand.of_body Bd
  have e0 : s₁.heap = h0 := by rw [← hh, Bd.state]; rfl
  have N0 := Fr.nil n0
  have pre0 : ∀ t, Steps p.tables e below (s₁.setTop (mkF m 0 #[.val (.ref a1), .val (.ref ca)] [])) t → Steps p.tables e below (s₁.setTop (entryFrame m #[(.ref a1), (.ref ca)] 2)) t := fun t k => castTop (ef_own_i13 m) k
  obtain ⟨cl1, Ar1, q1, S1, M1, H1, Gv1⟩ := id KC
  obtain ⟨_, _, ⟨T2, L2, k2, n2⟩, -, X2, ⟨Lc2, hQ2, l2, y2, z2⟩, st2⟩ := X0.specialBack hx (y := (⟨"java/lang/String", "<init>", "([CIILjava/lang/Void;)V"⟩ : MethodName)) rfl hown (mvT hZ (gw hw 9 rfl)) (mvT hZ (gw hw 10 rfl)) (mvT hZ (gw hw 12 rfl)) (by decide) (backOf (W := 0) (own_i43 l Z a0 hw [] a1 ca kC d0 d1 d2 G1 h0 n0 Z0 O1 g1 KC hd0 hd1 hd2 hwd AD HB LB O2 P5 XO) hZ (gw hw 12 rfl) (gw hw 5 rfl) (by decide) (by decide)) (g := (mkF m 6 #[.val (.ref a1), .val (.ref ca)] [.null, (.int 3), (.int 0), (.ref ca), (.ref a1)])) rfl (by rw [hml]; rfl) (Steps.refl _) (a := a1) (argsL := [(.ref ca), (.int 0), (.int 3), .null]) (rest := []) (lenOf pd___CIILjava_lang_Void__V rfl) rfl (by show 2 * 0 + _ ≤ _; exact Nat.le_of_eq rfl) (hb hby D22_6) (fun _ _ => ⟨rfl, e0, (by decide : 0 + 2 ≤ _), (by decide : 0 + 9 ≤ _)⟩)
  dsimp only [Pt.U, Pt.locs, Pt.cells, Pt.slots] at X2 l2 y2 z2 st2 hQ2
  subst l2 y2 z2
  obtain ⟨rfl, N2q, K2, bq, kq, z1, z2, z3, z4⟩ := hQ2
  have N2 := Fr.app N0 N2q
  have pre3 : ∀ t, Steps p.tables e below (T2.setTop (mkF m 9 #[.val (.ref a1), .val (.ref ca)] [])) t → Steps p.tables e below (s₁.setTop (entryFrame m #[(.ref a1), (.ref ca)] 2)) t := by
    intro t kk
    refine pre0 t ?_
    refine XS.aloadN X0.here hx rfl (hb hby D22_0) rfl rfl ?_
    refine XS.aloadN X0.here hx rfl (hb hby D22_1) rfl rfl ?_
    refine XS.iconst X0.here hx rfl (hb hby D22_2) ?_
    refine XS.aloadN X0.here hx rfl (hb hby D22_3) rfl rfl ?_
    refine X0.arraylength hx (by rw [e0]; exact Ar1.1) (State.isArrayOf_alike hZ.alike Ar1.2.1) (g := (mkF m 4 #[.val (.ref a1), .val (.ref ca)] [(.ref ca), (.int 0), (.ref ca), (.ref a1)])) rfl rfl (hb hby D22_4) _ ?_
    rw [len_of S1 M1]
    refine XS.aconstNull X0.here hx rfl (hb hby D22_5) ?_
    exact st2.trans kk
  have fc4 := ((Keep.refl h0 [a1]).trans K2 (allS (Or.inl (List.mem_of_getElem? (i := 0) rfl)) all0))
  obtain ⟨fs, hr, hrun, hended, hW, hsame⟩ := X2.leave (v := none) (fun _ => rfl)
  refine ⟨_, _, pre3 _ ?_, hrun, hended, _, _, rfl, ?_, ⟨_, rfl⟩, hW, hsame.mono (by decide) (by decide)⟩
  · exact X2.returnOut hx Bd.returns (hb hby D22_9) hr
  · show Q_own_i13 Z a1 ca kC d0 d1 d2 G1 h0 n0 _ T2.heap _
    exact ⟨rfl, N2, fc4, bq, kq, z1, z2, z3, z4⟩
theorem ef_own_nl4 (m : MethodId)  : entryFrame m #[(.int 4)] 1 = mkF m 0 #[.val (.int 4)] [] := by first | (simp [entryFrame, mkF, argsToLocals, Value.category]; done) | rfl
def Q_own_nl4 (Z : State)  (h0 : Heap) (n0 : Nat) (v : Option Value) (h : Heap) (L : List Loc) : Prop := v = some (.int 8) ∧ Fr n0 L ∧ h = h0
set_option maxRecDepth 65536 in
set_option maxHeartbeats 40000000 in
theorem own_nl4 (l : Launch) (Z : State) (a0 : Array Value) (hw : ∀ d ∈ tables_1, d.before a0 Z = true) (ws : List Jvm.Cond)  (h0 : Heap) (n0 : Nat) (Z0 : n0 ≤ h0.size)  :
    MetFree l (⟨"java/lang/StringUTF16", "newBytesLength", "(I)I"⟩ : MethodName) (head1 (Jvm.Cond.code (⟨"java/lang/StringUTF16", "newBytesLength", "(I)I"⟩ : MethodName) jdk_52_method_3_code 1 (some .int) :: ws) ({ frames := 0, cells := 0, slots := 0, locals := 0 } : Room)) (fun a U => a = #[(.int 4)] ∧ Z.Warmed39 U.vm ∧ U.heap = h0) (fun _ _ _ _ _ => True) (fun _ U o U' => ∃ v L, o = .returned v ∧ Q_own_nl4 Z  h0 n0 v U'.heap L ∧ FrameEnd U o U' L ({ frames := 0, cells := 0, slots := 0, locals := 0 } : Room).cells ({ frames := 0, cells := 0, slots := 0, locals := 0 } : Room).slots) := by
  refine MetFree.of_bodySF (plainFor_of_name pn_java_lang_StringUTF16) hisR ?_
  intro p e s m args below meth c s₁ Bd hml0 hP hK
  obtain ⟨rfl, hZ, hh⟩ := hP
  have hx := Bd.exec
  have hby := Bd.bytes
  have hml : c.maxLocals = 1 := hml0
  have hown : s.vm.findClass "java/lang/StringUTF16" = some m.cls := findClass_of_methodNamed Bd.named
  have hnm := (name_of_methodNamed Bd.named Bd.method).1
  have X0 : Stand p l e ({ frames := 0, cells := 0, slots := 0, locals := 0 } : Room) s m #[(.int 4)] below meth c s₁ [] 0 0 := Stand.of_body Bd
  have e0 : s₁.heap = h0 := by rw [← hh, Bd.state]; rfl
  have N0 := Fr.nil n0
  have pre0 : ∀ t, Steps p.tables e below (s₁.setTop (mkF m 0 #[.val (.int 4)] [])) t → Steps p.tables e below (s₁.setTop (entryFrame m #[(.int 4)] 1)) t := fun t k => castTop (ef_own_nl4 m) k
  have hbr1 : ¬ ((4 : Int32) < (0 : Int32)) := by decide
  have hbr2 : (4 : Int32) < (1073741823 : Int32) := by decide
  have pre3 : ∀ t, Steps p.tables e below (s₁.setTop (mkF m 58 #[.val (.int 4)] [(.int ((4 : Int32) <<< ((1 : Int32) &&& 31)))])) t → Steps p.tables e below (s₁.setTop (entryFrame m #[(.int 4)] 1)) t := by
    intro t kk
    refine pre0 t ?_
    refine XS.iloadN X0.here hx rfl (hb hby D15_0) rfl ?_
    refine XS.ifYes X0.here hx rfl (pc0 := 1) (pc' := 12) rfl (hb hby D15_1) rfl ((if0 _ _).trans (flt hbr1).2.1) (by decide) (by decide) ?_
    refine XS.iloadN X0.here hx rfl (hb hby D15_12) rfl ?_
    refine X0.ldcI hx hown (mvT hZ (gw hw 89 rfl)) (g := (mkF m 13 #[.val (.int 4)] [(.int 4)])) rfl (hb hby D15_13) ?_
    refine XS.icmpYes X0.here hx rfl (pc0 := 15) (pc' := 55) rfl (hb hby D15_15) rfl (tlt hbr2).1 (by decide) (by decide) ?_
    refine XS.iloadN X0.here hx rfl (hb hby D15_55) rfl ?_
    refine XS.iconst X0.here hx rfl (hb hby D15_56) ?_
    refine XS.ishl X0.here hx rfl (hb hby D15_57) rfl ?_
    exact kk
  rw [(by decide : ((4 : Int32) <<< ((1 : Int32) &&& 31)) = (8 : Int32))] at pre3
  obtain ⟨fs, hr, hrun, hended, hW, hsame⟩ := X0.leave (v := some (.int 8)) (fun h => by rw [Bd.returns] at h; cases h)
  refine ⟨_, _, pre3 _ ?_, hrun, hended, _, _, rfl, ?_, ⟨_, rfl⟩, hW, hsame.mono (by decide) (by decide)⟩
  · exact retI X0 hx Bd.returns (hb hby D15_58) hr
  · show Q_own_nl4 Z  h0 n0 _ s₁.heap _
    rw [e0]
    exact ⟨rfl, N0, rfl⟩
theorem ef_own_nf4 (m : MethodId)  : entryFrame m #[(.int 4)] 1 = mkF m 0 #[.val (.int 4)] [] := by first | (simp [entryFrame, mkF, argsToLocals, Value.category]; done) | rfl
def Q_own_nf4 (Z : State)  (h0 : Heap) (n0 : Nat) (v : Option Value) (h : Heap) (L : List Loc) : Prop := ∃ (b : Addr) (k : ClassId), v = some (.ref b) ∧ Fr n0 L ∧ Keep h0 h [] ∧ h0.size ≤ b ∧ Arv Z h b k .byte (8 : Int32) [(.int 0), (.int 0), (.int 0), (.int 0), (.int 0), (.int 0), (.int 0), (.int 0)] (.int 0)
set_option maxRecDepth 65536 in
set_option maxHeartbeats 40000000 in
theorem own_nf4 (l : Launch) (Z : State) (a0 : Array Value) (hw : ∀ d ∈ tables_1, d.before a0 Z = true) (ws : List Jvm.Cond)  (h0 : Heap) (n0 : Nat) (Z0 : n0 ≤ h0.size)  :
    MetFree l (⟨"java/lang/StringUTF16", "newBytesFor", "(I)[B"⟩ : MethodName) (head1 (Jvm.Cond.code (⟨"java/lang/StringUTF16", "newBytesFor", "(I)[B"⟩ : MethodName) jdk_52_method_2_code 1 (some (.array .byte)) :: ws) ({ frames := 1, cells := 1, slots := 8, locals := 12 } : Room)) (fun a U => a = #[(.int 4)] ∧ Z.Warmed39 U.vm ∧ U.heap = h0) (fun _ _ _ _ _ => True) (fun _ U o U' => ∃ v L, o = .returned v ∧ Q_own_nf4 Z  h0 n0 v U'.heap L ∧ FrameEnd U o U' L ({ frames := 1, cells := 1, slots := 8, locals := 12 } : Room).cells ({ frames := 1, cells := 1, slots := 8, locals := 12 } : Room).slots) := by
  refine MetFree.of_bodySF (plainFor_of_name pn_java_lang_StringUTF16) hisR ?_
  intro p e s m args below meth c s₁ Bd hml0 hP hK
  obtain ⟨rfl, hZ, hh⟩ := hP
  have hx := Bd.exec
  have hby := Bd.bytes
  have hml : c.maxLocals = 1 := hml0
  have hown : s.vm.findClass "java/lang/StringUTF16" = some m.cls := findClass_of_methodNamed Bd.named
  have hnm := (name_of_methodNamed Bd.named Bd.method).1
  have X0 : Stand p l e ({ frames := 1, cells := 1, slots := 8, locals := 12 } : Room) s m #[(.int 4)] below meth c s₁ [] 0 0 := Stand.of_body Bd
  have e0 : s₁.heap = h0 := by rw [← hh, Bd.state]; rfl
  have N0 := Fr.nil n0
  have pre0 : ∀ t, Steps p.tables e below (s₁.setTop (mkF m 0 #[.val (.int 4)] [])) t → Steps p.tables e below (s₁.setTop (entryFrame m #[(.int 4)] 1)) t := fun t k => castTop (ef_own_nf4 m) k
  obtain ⟨_, _, ⟨T1, L1, k1, n1⟩, -, X1, ⟨Lc1, hQ1, l1, y1, z1⟩, st1⟩ := Jvm.LawKit.callS X0 hx (y := (⟨"java/lang/StringUTF16", "newBytesLength", "(I)I"⟩ : MethodName)) hown (mvT hZ (gw hw 86 rfl)) (mvT hZ (gw hw 87 rfl)) (mvT hZ (gw hw 46 rfl)) (mvT hZ (gw hw 88 rfl)) (by decide) (backOf (W := 0) (own_nl4 l Z a0 hw [] h0 n0 Z0) hZ (gw hw 88 rfl) (gw hw 46 rfl) (by decide) (by decide)) (g := (mkF m 1 #[.val (.int 4)] [(.int 4)])) rfl (by rw [hml]; rfl) (argsL := [(.int 4)]) (rest := []) (lenOf pd__I_I rfl) rfl (by show 2 * 0 + _ ≤ _; exact Nat.le_of_eq rfl) (hb hby D16_1) (fun _ _ => ⟨rfl, e0, (by decide : 0 + 0 ≤ _), (by decide : 0 + 0 ≤ _)⟩)
  dsimp only [Pt.U, Pt.locs, Pt.cells, Pt.slots] at X1 l1 y1 z1 st1 hQ1
  subst l1 y1 z1
  obtain ⟨rfl, N1q, e1q⟩ := hQ1
  have N1 := Fr.app N0 N1q
  have pre2 : ∀ t, Steps p.tables e below (T1.setTop (mkF m 4 #[.val (.int 4)] [(.int 8)])) t → Steps p.tables e below (s₁.setTop (entryFrame m #[(.int 4)] 1)) t := by
    intro t kk
    refine pre0 t ?_
    refine XS.iloadN X0.here hx rfl (hb hby D16_0) rfl ?_
    exact st1 _ kk
  obtain ⟨fb3, g3⟩ : ∃ z, z = h0.size := ⟨_, rfl⟩
  have lo_fb3 : n0 ≤ fb3 := Nat.le_trans Z0 (Nat.le_of_eq g3.symm)
  have hi_fb3 : h0.size ≤ fb3 := Nat.le_trans (Keep.refl h0 []).1 (Nat.le_of_eq g3.symm)
  obtain ⟨T3, h3, k3, X3, e3, E3, A3, st3⟩ := newP X1 hx hZ (gw hw 17 rfl) e1q (g := (mkF m 4 #[.val (.int 4)] [(.int 8)])) rfl (hb hby D16_4) rfl (by decide) (cap := 8) (by decide) (by decide) (by decide) (by decide)
  rw [← g3] at A3 st3
  have V3 : Arv Z h3 fb3 k3 .byte (8 : Int32) [(.int 0), (.int 0), (.int 0), (.int 0), (.int 0), (.int 0), (.int 0), (.int 0)] (.int 0) := (Arv.new A3 (by decide)).pad (pad_rep [] (.int 0) 8)
  have pre4 : ∀ t, Steps p.tables e below (T3.setTop (mkF m 6 #[.val (.int 4)] [(.ref fb3)])) t → Steps p.tables e below (s₁.setTop (entryFrame m #[(.int 4)] 1)) t := by
    intro t kk
    refine pre2 t ?_
    exact st3 _ kk
  have fc5 := ((Keep.refl h0 []).ext E3)
  obtain ⟨fs, hr, hrun, hended, hW, hsame⟩ := X3.leave (v := some (.ref fb3)) (fun h => by rw [Bd.returns] at h; cases h)
  refine ⟨_, _, pre4 _ ?_, hrun, hended, _, _, rfl, ?_, ⟨_, rfl⟩, hW, hsame.mono (by decide) (by decide)⟩
  · jvm_step X3.here [X3.here.top, hx, (hb hby D16_6), X3.method', Bd.returns, Value.isRef, FieldType.isReference]
    first | (intro acts; rw [hr _ acts rfl rfl rfl]) | rw [hr _ _ rfl rfl rfl]
    exact Steps.refl _
  · show Q_own_nf4 Z  h0 n0 _ T3.heap _
    rw [e3]
    exact ⟨fb3, k3, rfl, N1, fc5, hi_fb3, V3⟩
theorem ef_own_tb4 (m : MethodId) {ca : Addr} : entryFrame m #[(.ref ca), (.int 0), (.int 4)] 5 = mkF m 0 #[.val (.ref ca), .val (.int 0), .val (.int 4), .unset, .unset] [] := by first | (simp [entryFrame, mkF, argsToLocals, Value.category]; done) | rfl
def Q_own_tb4 (Z : State) (ca : Addr) (kC : ClassId) (d0 d1 d2 d3 : Int32) (h0 : Heap) (n0 : Nat) (v : Option Value) (h : Heap) (L : List Loc) : Prop := ∃ (b : Addr) (k : ClassId), v = some (.ref b) ∧ Fr n0 L ∧ Keep h0 h [] ∧ h0.size ≤ b ∧ Arv Z h b k .byte (8 : Int32) [(.int (StrChars.lo8 d0)), (.int (StrChars.hi8 d0)), (.int (StrChars.lo8 d1)), (.int (StrChars.hi8 d1)), (.int (StrChars.lo8 d2)), (.int (StrChars.hi8 d2)), (.int (StrChars.lo8 d3)), (.int (StrChars.hi8 d3))] (.int 0)
set_option maxRecDepth 65536 in
set_option maxHeartbeats 40000000 in
theorem own_tb4 (l : Launch) (Z : State) (a0 : Array Value) (hw : ∀ d ∈ tables_1, d.before a0 Z = true) (ws : List Jvm.Cond) (ca : Addr) (kC : ClassId) (d0 d1 d2 d3 : Int32) (h0 : Heap) (n0 : Nat) (Z0 : n0 ≤ h0.size) (KC : Arv Z h0 ca kC .char (4 : Int32) [(.int d0), (.int d1), (.int d2), (.int d3)] (.int 0)) (AD : Sta Z Z.heap "java/lang/StringUTF16" "$assertionsDisabled" "Z" (.int 1)) (HB : Sta Z Z.heap "java/lang/StringUTF16" "HI_BYTE_SHIFT" "I" (.int 0)) (LB : Sta Z Z.heap "java/lang/StringUTF16" "LO_BYTE_SHIFT" "I" (.int 8)) (XO : Old Z n0 h0) :
    MetFree l (⟨"java/lang/StringUTF16", "toBytes", "([CII)[B"⟩ : MethodName) (head1 (Jvm.Cond.code (⟨"java/lang/StringUTF16", "toBytes", "([CII)[B"⟩ : MethodName) jdk_52_method_14_code 5 (some (.array .byte)) :: ws) ({ frames := 2, cells := 1, slots := 8, locals := 24 } : Room)) (fun a U => a = #[(.ref ca), (.int 0), (.int 4)] ∧ Z.Warmed39 U.vm ∧ U.heap = h0) (fun _ _ _ _ _ => True) (fun _ U o U' => ∃ v L, o = .returned v ∧ Q_own_tb4 Z ca kC d0 d1 d2 d3 h0 n0 v U'.heap L ∧ FrameEnd U o U' L ({ frames := 2, cells := 1, slots := 8, locals := 24 } : Room).cells ({ frames := 2, cells := 1, slots := 8, locals := 24 } : Room).slots) := by
  refine MetFree.of_bodySF (plainFor_of_name pn_java_lang_StringUTF16) hisR ?_
  intro p e s m args below meth c s₁ Bd hml0 hP hK
  obtain ⟨rfl, hZ, hh⟩ := hP
  have hx := Bd.exec
  have hby := Bd.bytes
  have hml : c.maxLocals = 5 := hml0
  have hown : s.vm.findClass "java/lang/StringUTF16" = some m.cls := findClass_of_methodNamed Bd.named
  have hnm := (name_of_methodNamed Bd.named Bd.method).1
  have X0 : Stand p l e ({ frames := 2, cells := 1, slots := 8, locals := 24 } : Room) s m #[(.ref ca), (.int 0), (.int 4)] below meth c s₁ [] 0 0 := Stand.of_body Bd
  have e0 : s₁.heap = h0 := by rw [← hh, Bd.state]; rfl
  have N0 := Fr.nil n0
  have pre0 : ∀ t, Steps p.tables e below (s₁.setTop (mkF m 0 #[.val (.ref ca), .val (.int 0), .val (.int 4), .unset, .unset] [])) t → Steps p.tables e below (s₁.setTop (entryFrame m #[(.ref ca), (.int 0), (.int 4)] 5)) t := fun t k => castTop (ef_own_tb4 m) k
  obtain ⟨_, _, ⟨T1, L1, k1, n1⟩, -, X1, ⟨Lc1, hQ1, l1, y1, z1⟩, st1⟩ := Jvm.LawKit.callS X0 hx (y := (⟨"java/lang/StringUTF16", "newBytesFor", "(I)[B"⟩ : MethodName)) hown (mvT hZ (gw hw 83 rfl)) (mvT hZ (gw hw 84 rfl)) (mvT hZ (gw hw 46 rfl)) (mvT hZ (gw hw 85 rfl)) (by decide) (backOf (W := 0) (own_nf4 l Z a0 hw [] h0 n0 Z0) hZ (gw hw 85 rfl) (gw hw 46 rfl) (by decide) (by decide)) (g := (mkF m 1 #[.val (.ref ca), .val (.int 0), .val (.int 4), .unset, .unset] [(.int 4)])) rfl (by rw [hml]; rfl) (argsL := [(.int 4)]) (rest := []) (lenOf pd__I__B rfl) rfl (by show 2 * 0 + _ ≤ _; exact Nat.le_of_eq rfl) (hb hby D17_1) (fun _ _ => ⟨rfl, e0, (by decide : 0 + 1 ≤ _), (by decide : 0 + 8 ≤ _)⟩)
  dsimp only [Pt.U, Pt.locs, Pt.cells, Pt.slots] at X1 l1 y1 z1 st1 hQ1
  subst l1 y1 z1
  obtain ⟨fb, kf, rfl, N1q, K1, gf, Vf⟩ := hQ1
  have N1 := Fr.app N0 N1q
  have pre2 : ∀ t, Steps p.tables e below (T1.setTop (mkF m 4 #[.val (.ref ca), .val (.int 0), .val (.int 4), .unset, .unset] [(.ref fb)])) t → Steps p.tables e below (s₁.setTop (entryFrame m #[(.ref ca), (.int 0), (.int 4)] 5)) t := by
    intro t kk
    refine pre0 t ?_
    refine XS.iloadN X0.here hx rfl (hb hby D17_0) rfl ?_
    exact st1 _ kk
  have lo_fb : n0 ≤ fb := Nat.le_trans Z0 gf
  have hi_fb : h0.size ≤ fb := Nat.le_trans (Keep.refl h0 []).1 gf
  have ne_ca_fb : ca ≠ fb := Nat.ne_of_lt (Nat.lt_of_lt_of_le KC.lt gf)
  have hbr3 : (0 : Int32) < (4 : Int32) := by decide
  have fc5 := (KC.keep K1 nin0)
  obtain ⟨cl4, Ar4, q4, S4, M4, H4, Gv4⟩ := id fc5
  have hin6 : ¬ ((0 : Int32) < 0 ∨ cl4.slots.size ≤ ((0 : Int32)).toNatClampNeg) := inb_of S4 ⟨by decide, by decide⟩
  have hat6 : cl4.slots[((0 : Int32)).toNatClampNeg]? = some (.int d0) := Has.at H4 (inb_of S4 ⟨by decide, by decide⟩) rfl
  have fc7 := (XO.keep K1 all0)
  have fc9 := (Nat.le_trans Z0 K1.1)
  obtain ⟨_, _, ⟨T8, L8, k8, n8⟩, -, X8, ⟨Lc8, hQ8, l8, y8, z8⟩, st8⟩ := Jvm.LawKit.callS X1 hx (y := (⟨"java/lang/StringUTF16", "putChar", "([BII)V"⟩ : MethodName)) hown (mvT hZ (gw hw 90 rfl)) (mvT hZ (gw hw 91 rfl)) (mvT hZ (gw hw 46 rfl)) (mvT hZ (gw hw 92 rfl)) (by decide) (backOf (W := 0) (own_pt l Z a0 hw [] fb kf d0 0 8 _ T1.heap n0 fc9 Vf rfl (by decide) (by decide) lo_fb AD HB LB fc7) hZ (gw hw 92 rfl) (gw hw 46 rfl) (by decide) (by decide)) (g := (mkF m 20 #[.val (.ref ca), .val (.int 0), .val (.int 4), .val (.ref fb), .val (.int 0)] [(.int d0), (.int 0), (.ref fb)])) rfl (by rw [hml]; rfl) (argsL := [(.ref fb), (.int 0), (.int d0)]) (rest := []) (lenOf pd___BII_V rfl) rfl (by show 2 * 0 + _ ≤ _; exact Nat.le_of_eq rfl) (hb hby D17_20) (fun _ _ => ⟨rfl, rfl, (by decide : 1 + 0 ≤ _), (by decide : 8 + 0 ≤ _)⟩)
  dsimp only [Pt.U, Pt.locs, Pt.cells, Pt.slots] at X8 l8 y8 z8 st8 hQ8
  subst l8 y8 z8
  obtain ⟨rfl, N8q, K8, Vp8⟩ := hQ8
  have N8 := Fr.app N1 N8q
  have pre10 : ∀ t, Steps p.tables e below (T8.setTop (mkF m 23 #[.val (.ref ca), .val (.int 0), .val (.int 4), .val (.ref fb), .val (.int 0)] [])) t → Steps p.tables e below (s₁.setTop (entryFrame m #[(.ref ca), (.int 0), (.int 4)] 5)) t := by
    intro t kk
    refine pre2 t ?_
    refine XS.astoreN X1.here hx rfl (hb hby D17_4) rfl rfl (l' := #[.val (.ref ca), .val (.int 0), .val (.int 4), .val (.ref fb), .unset]) rfl ?_
    refine XS.iconst X1.here hx rfl (hb hby D17_5) ?_
    refine XS.istore X1.here hx rfl (hb hby D17_6) rfl (l' := #[.val (.ref ca), .val (.int 0), .val (.int 4), .val (.ref fb), .val (.int 0)]) rfl ?_
    refine XS.iload X1.here hx rfl (hb hby D17_8) rfl ?_
    refine XS.iloadN X1.here hx rfl (hb hby D17_10) rfl ?_
    refine XS.icmpNo X1.here hx rfl (hb hby D17_11) rfl (tlt hbr3).2.1 ?_
    refine XS.aloadN X1.here hx rfl (hb hby D17_14) rfl rfl ?_
    refine XS.iload X1.here hx rfl (hb hby D17_15) rfl ?_
    show Steps p.tables e below (T1.setTop (mkF m 17 #[.val (.ref ca), .val (.int 0), .val (.int 4), .val (.ref fb), .val (.int 0)] [(.int 0), (.ref fb)])) _
    refine XS.aloadN X1.here hx rfl (hb hby D17_17) rfl rfl ?_
    refine XS.iloadN X1.here hx rfl (hb hby D17_18) rfl ?_
    refine X1.caload hx (j := (0 : Int32)) (v := (.int d0)) (by exact Ar4.1) (State.isArrayOf_alike hZ.alike Ar4.2.1) Ar4.2.2 hin6 hat6 (g := (mkF m 19 #[.val (.ref ca), .val (.int 0), .val (.int 4), .val (.ref fb), .val (.int 0)] [(.int 0), (.ref ca), (.int 0), (.ref fb)])) rfl rfl (hb hby D17_19) _ ?_
    exact st8 _ kk
  have hbr11 : (1 : Int32) < (4 : Int32) := by decide
  have fc13 := (fc5.keep K8 (ninS ne_ca_fb nin0))
  obtain ⟨cl12, Ar12, q12, S12, M12, H12, Gv12⟩ := id fc13
  have hin14 : ¬ ((1 : Int32) < 0 ∨ cl12.slots.size ≤ ((1 : Int32)).toNatClampNeg) := inb_of S12 ⟨by decide, by decide⟩
  have hat14 : cl12.slots[((1 : Int32)).toNatClampNeg]? = some (.int d1) := Has.at H12 (inb_of S12 ⟨by decide, by decide⟩) rfl
  have fc15 := (fc7.keep K8 (allS lo_fb all0))
  have fc17 := (Nat.le_trans fc9 K8.1)
  obtain ⟨_, _, ⟨T16, L16, k16, n16⟩, -, X16, ⟨Lc16, hQ16, l16, y16, z16⟩, st16⟩ := Jvm.LawKit.callS X8 hx (y := (⟨"java/lang/StringUTF16", "putChar", "([BII)V"⟩ : MethodName)) hown (mvT hZ (gw hw 90 rfl)) (mvT hZ (gw hw 91 rfl)) (mvT hZ (gw hw 46 rfl)) (mvT hZ (gw hw 92 rfl)) (by decide) (backOf (W := 0) (own_pt l Z a0 hw [] fb kf d1 1 8 _ T8.heap n0 fc17 Vp8 rfl (by decide) (by decide) lo_fb AD HB LB fc15) hZ (gw hw 92 rfl) (gw hw 46 rfl) (by decide) (by decide)) (g := (mkF m 20 #[.val (.ref ca), .val (.int 1), .val (.int 4), .val (.ref fb), .val (.int 1)] [(.int d1), (.int 1), (.ref fb)])) rfl (by rw [hml]; rfl) (argsL := [(.ref fb), (.int 1), (.int d1)]) (rest := []) (lenOf pd___BII_V rfl) rfl (by show 2 * 0 + _ ≤ _; exact Nat.le_of_eq rfl) (hb hby D17_20) (fun _ _ => ⟨rfl, rfl, (by decide : 1 + 0 ≤ _), (by decide : 8 + 0 ≤ _)⟩)
  dsimp only [Pt.U, Pt.locs, Pt.cells, Pt.slots] at X16 l16 y16 z16 st16 hQ16
  subst l16 y16 z16
  obtain ⟨rfl, N16q, K16, Vp16⟩ := hQ16
  have N16 := Fr.app N8 N16q
  have pre18 : ∀ t, Steps p.tables e below (T16.setTop (mkF m 23 #[.val (.ref ca), .val (.int 1), .val (.int 4), .val (.ref fb), .val (.int 1)] [])) t → Steps p.tables e below (s₁.setTop (entryFrame m #[(.ref ca), (.int 0), (.int 4)] 5)) t := by
    intro t kk
    refine pre10 t ?_
    refine XS.iinc X8.here hx rfl (hb hby D17_23) rfl (l' := #[.val (.ref ca), .val (.int 1), .val (.int 4), .val (.ref fb), .val (.int 0)]) rfl ?_
    refine XS.iinc X8.here hx rfl (hb hby D17_26) rfl (l' := #[.val (.ref ca), .val (.int 1), .val (.int 4), .val (.ref fb), .val (.int 1)]) rfl ?_
    refine XS.goto X8.here hx rfl (pc0 := 29) (pc' := 8) rfl (hb hby D17_29) (by decide) (by decide) ?_
    refine XS.iload X8.here hx rfl (hb hby D17_8) rfl ?_
    refine XS.iloadN X8.here hx rfl (hb hby D17_10) rfl ?_
    refine XS.icmpNo X8.here hx rfl (hb hby D17_11) rfl (tlt hbr11).2.1 ?_
    refine XS.aloadN X8.here hx rfl (hb hby D17_14) rfl rfl ?_
    refine XS.iload X8.here hx rfl (hb hby D17_15) rfl ?_
    show Steps p.tables e below (T8.setTop (mkF m 17 #[.val (.ref ca), .val (.int 1), .val (.int 4), .val (.ref fb), .val (.int 1)] [(.int 1), (.ref fb)])) _
    refine XS.aloadN X8.here hx rfl (hb hby D17_17) rfl rfl ?_
    refine XS.iloadN X8.here hx rfl (hb hby D17_18) rfl ?_
    refine X8.caload hx (j := (1 : Int32)) (v := (.int d1)) (by exact Ar12.1) (State.isArrayOf_alike hZ.alike Ar12.2.1) Ar12.2.2 hin14 hat14 (g := (mkF m 19 #[.val (.ref ca), .val (.int 1), .val (.int 4), .val (.ref fb), .val (.int 1)] [(.int 1), (.ref ca), (.int 1), (.ref fb)])) rfl rfl (hb hby D17_19) _ ?_
    exact st16 _ kk
  have hbr19 : (2 : Int32) < (4 : Int32) := by decide
  have fc21 := (fc13.keep K16 (ninS ne_ca_fb nin0))
  obtain ⟨cl20, Ar20, q20, S20, M20, H20, Gv20⟩ := id fc21
  have hin22 : ¬ ((2 : Int32) < 0 ∨ cl20.slots.size ≤ ((2 : Int32)).toNatClampNeg) := inb_of S20 ⟨by decide, by decide⟩
  have hat22 : cl20.slots[((2 : Int32)).toNatClampNeg]? = some (.int d2) := Has.at H20 (inb_of S20 ⟨by decide, by decide⟩) rfl
  have fc23 := (fc15.keep K16 (allS lo_fb all0))
  have fc25 := (Nat.le_trans fc17 K16.1)
  obtain ⟨_, _, ⟨T24, L24, k24, n24⟩, -, X24, ⟨Lc24, hQ24, l24, y24, z24⟩, st24⟩ := Jvm.LawKit.callS X16 hx (y := (⟨"java/lang/StringUTF16", "putChar", "([BII)V"⟩ : MethodName)) hown (mvT hZ (gw hw 90 rfl)) (mvT hZ (gw hw 91 rfl)) (mvT hZ (gw hw 46 rfl)) (mvT hZ (gw hw 92 rfl)) (by decide) (backOf (W := 0) (own_pt l Z a0 hw [] fb kf d2 2 8 _ T16.heap n0 fc25 Vp16 rfl (by decide) (by decide) lo_fb AD HB LB fc23) hZ (gw hw 92 rfl) (gw hw 46 rfl) (by decide) (by decide)) (g := (mkF m 20 #[.val (.ref ca), .val (.int 2), .val (.int 4), .val (.ref fb), .val (.int 2)] [(.int d2), (.int 2), (.ref fb)])) rfl (by rw [hml]; rfl) (argsL := [(.ref fb), (.int 2), (.int d2)]) (rest := []) (lenOf pd___BII_V rfl) rfl (by show 2 * 0 + _ ≤ _; exact Nat.le_of_eq rfl) (hb hby D17_20) (fun _ _ => ⟨rfl, rfl, (by decide : 1 + 0 ≤ _), (by decide : 8 + 0 ≤ _)⟩)
  dsimp only [Pt.U, Pt.locs, Pt.cells, Pt.slots] at X24 l24 y24 z24 st24 hQ24
  subst l24 y24 z24
  obtain ⟨rfl, N24q, K24, Vp24⟩ := hQ24
  have N24 := Fr.app N16 N24q
  have pre26 : ∀ t, Steps p.tables e below (T24.setTop (mkF m 23 #[.val (.ref ca), .val (.int 2), .val (.int 4), .val (.ref fb), .val (.int 2)] [])) t → Steps p.tables e below (s₁.setTop (entryFrame m #[(.ref ca), (.int 0), (.int 4)] 5)) t := by
    intro t kk
    refine pre18 t ?_
    refine XS.iinc X16.here hx rfl (hb hby D17_23) rfl (l' := #[.val (.ref ca), .val (.int 2), .val (.int 4), .val (.ref fb), .val (.int 1)]) rfl ?_
    refine XS.iinc X16.here hx rfl (hb hby D17_26) rfl (l' := #[.val (.ref ca), .val (.int 2), .val (.int 4), .val (.ref fb), .val (.int 2)]) rfl ?_
    refine XS.goto X16.here hx rfl (pc0 := 29) (pc' := 8) rfl (hb hby D17_29) (by decide) (by decide) ?_
    refine XS.iload X16.here hx rfl (hb hby D17_8) rfl ?_
    refine XS.iloadN X16.here hx rfl (hb hby D17_10) rfl ?_
    refine XS.icmpNo X16.here hx rfl (hb hby D17_11) rfl (tlt hbr19).2.1 ?_
    refine XS.aloadN X16.here hx rfl (hb hby D17_14) rfl rfl ?_
    refine XS.iload X16.here hx rfl (hb hby D17_15) rfl ?_
    show Steps p.tables e below (T16.setTop (mkF m 17 #[.val (.ref ca), .val (.int 2), .val (.int 4), .val (.ref fb), .val (.int 2)] [(.int 2), (.ref fb)])) _
    refine XS.aloadN X16.here hx rfl (hb hby D17_17) rfl rfl ?_
    refine XS.iloadN X16.here hx rfl (hb hby D17_18) rfl ?_
    refine X16.caload hx (j := (2 : Int32)) (v := (.int d2)) (by exact Ar20.1) (State.isArrayOf_alike hZ.alike Ar20.2.1) Ar20.2.2 hin22 hat22 (g := (mkF m 19 #[.val (.ref ca), .val (.int 2), .val (.int 4), .val (.ref fb), .val (.int 2)] [(.int 2), (.ref ca), (.int 2), (.ref fb)])) rfl rfl (hb hby D17_19) _ ?_
    exact st24 _ kk
  have hbr27 : (3 : Int32) < (4 : Int32) := by decide
  have fc29 := (fc21.keep K24 (ninS ne_ca_fb nin0))
  obtain ⟨cl28, Ar28, q28, S28, M28, H28, Gv28⟩ := id fc29
  have hin30 : ¬ ((3 : Int32) < 0 ∨ cl28.slots.size ≤ ((3 : Int32)).toNatClampNeg) := inb_of S28 ⟨by decide, by decide⟩
  have hat30 : cl28.slots[((3 : Int32)).toNatClampNeg]? = some (.int d3) := Has.at H28 (inb_of S28 ⟨by decide, by decide⟩) rfl
  have fc31 := (fc23.keep K24 (allS lo_fb all0))
  have fc33 := (Nat.le_trans fc25 K24.1)
  obtain ⟨_, _, ⟨T32, L32, k32, n32⟩, -, X32, ⟨Lc32, hQ32, l32, y32, z32⟩, st32⟩ := Jvm.LawKit.callS X24 hx (y := (⟨"java/lang/StringUTF16", "putChar", "([BII)V"⟩ : MethodName)) hown (mvT hZ (gw hw 90 rfl)) (mvT hZ (gw hw 91 rfl)) (mvT hZ (gw hw 46 rfl)) (mvT hZ (gw hw 92 rfl)) (by decide) (backOf (W := 0) (own_pt l Z a0 hw [] fb kf d3 3 8 _ T24.heap n0 fc33 Vp24 rfl (by decide) (by decide) lo_fb AD HB LB fc31) hZ (gw hw 92 rfl) (gw hw 46 rfl) (by decide) (by decide)) (g := (mkF m 20 #[.val (.ref ca), .val (.int 3), .val (.int 4), .val (.ref fb), .val (.int 3)] [(.int d3), (.int 3), (.ref fb)])) rfl (by rw [hml]; rfl) (argsL := [(.ref fb), (.int 3), (.int d3)]) (rest := []) (lenOf pd___BII_V rfl) rfl (by show 2 * 0 + _ ≤ _; exact Nat.le_of_eq rfl) (hb hby D17_20) (fun _ _ => ⟨rfl, rfl, (by decide : 1 + 0 ≤ _), (by decide : 8 + 0 ≤ _)⟩)
  dsimp only [Pt.U, Pt.locs, Pt.cells, Pt.slots] at X32 l32 y32 z32 st32 hQ32
  subst l32 y32 z32
  obtain ⟨rfl, N32q, K32, Vp32⟩ := hQ32
  have N32 := Fr.app N24 N32q
  have pre34 : ∀ t, Steps p.tables e below (T32.setTop (mkF m 23 #[.val (.ref ca), .val (.int 3), .val (.int 4), .val (.ref fb), .val (.int 3)] [])) t → Steps p.tables e below (s₁.setTop (entryFrame m #[(.ref ca), (.int 0), (.int 4)] 5)) t := by
    intro t kk
    refine pre26 t ?_
    refine XS.iinc X24.here hx rfl (hb hby D17_23) rfl (l' := #[.val (.ref ca), .val (.int 3), .val (.int 4), .val (.ref fb), .val (.int 2)]) rfl ?_
    refine XS.iinc X24.here hx rfl (hb hby D17_26) rfl (l' := #[.val (.ref ca), .val (.int 3), .val (.int 4), .val (.ref fb), .val (.int 3)]) rfl ?_
    refine XS.goto X24.here hx rfl (pc0 := 29) (pc' := 8) rfl (hb hby D17_29) (by decide) (by decide) ?_
    refine XS.iload X24.here hx rfl (hb hby D17_8) rfl ?_
    refine XS.iloadN X24.here hx rfl (hb hby D17_10) rfl ?_
    refine XS.icmpNo X24.here hx rfl (hb hby D17_11) rfl (tlt hbr27).2.1 ?_
    refine XS.aloadN X24.here hx rfl (hb hby D17_14) rfl rfl ?_
    refine XS.iload X24.here hx rfl (hb hby D17_15) rfl ?_
    show Steps p.tables e below (T24.setTop (mkF m 17 #[.val (.ref ca), .val (.int 3), .val (.int 4), .val (.ref fb), .val (.int 3)] [(.int 3), (.ref fb)])) _
    refine XS.aloadN X24.here hx rfl (hb hby D17_17) rfl rfl ?_
    refine XS.iloadN X24.here hx rfl (hb hby D17_18) rfl ?_
    refine X24.caload hx (j := (3 : Int32)) (v := (.int d3)) (by exact Ar28.1) (State.isArrayOf_alike hZ.alike Ar28.2.1) Ar28.2.2 hin30 hat30 (g := (mkF m 19 #[.val (.ref ca), .val (.int 3), .val (.int 4), .val (.ref fb), .val (.int 3)] [(.int 3), (.ref ca), (.int 3), (.ref fb)])) rfl rfl (hb hby D17_19) _ ?_
    exact st32 _ kk
  have hbr35 : ¬ ((4 : Int32) < (4 : Int32)) := by decide
  have fc36 := ((((((Keep.refl h0 []).trans K1 all0).trans K8 (allS (Or.inr hi_fb) all0)).trans K16 (allS (Or.inr hi_fb) all0)).trans K24 (allS (Or.inr hi_fb) all0)).trans K32 (allS (Or.inr hi_fb) all0))
  obtain ⟨fs, hr, hrun, hended, hW, hsame⟩ := X32.leave (v := some (.ref fb)) (fun h => by rw [Bd.returns] at h; cases h)
  refine ⟨_, _, pre34 _ ?_, hrun, hended, _, _, rfl, ?_, ⟨_, rfl⟩, hW, hsame.mono (by decide) (by decide)⟩
  · refine XS.iinc X32.here hx rfl (hb hby D17_23) rfl (l' := #[.val (.ref ca), .val (.int 4), .val (.int 4), .val (.ref fb), .val (.int 3)]) rfl ?_
    refine XS.iinc X32.here hx rfl (hb hby D17_26) rfl (l' := #[.val (.ref ca), .val (.int 4), .val (.int 4), .val (.ref fb), .val (.int 4)]) rfl ?_
    refine XS.goto X32.here hx rfl (pc0 := 29) (pc' := 8) rfl (hb hby D17_29) (by decide) (by decide) ?_
    refine XS.iload X32.here hx rfl (hb hby D17_8) rfl ?_
    refine XS.iloadN X32.here hx rfl (hb hby D17_10) rfl ?_
    refine XS.icmpYes X32.here hx rfl (pc0 := 11) (pc' := 32) rfl (hb hby D17_11) rfl (flt hbr35).2.1 (by decide) (by decide) ?_
    refine XS.aloadN X32.here hx rfl (hb hby D17_32) rfl rfl ?_
    jvm_step X32.here [X32.here.top, hx, (hb hby D17_33), X32.method', Bd.returns, Value.isRef, FieldType.isReference]
    first | (intro acts; rw [hr _ acts rfl rfl rfl]) | rw [hr _ _ rfl rfl rfl]
    exact Steps.refl _
  · show Q_own_tb4 Z ca kC d0 d1 d2 d3 h0 n0 _ T32.heap _
    exact ⟨fb, kf, rfl, N32, fc36, hi_fb, Vp32⟩
theorem ef_own_c54 (m : MethodId) {ca : Addr} {sb : Addr} : entryFrame m #[(.ref ca), (.int 0), (.ref sb), (.int 0), (.int 4)] 7 = mkF m 0 #[.val (.ref ca), .val (.int 0), .val (.ref sb), .val (.int 0), .val (.int 4), .unset, .unset] [] := by first | (simp [entryFrame, mkF, argsToLocals, Value.category]; done) | rfl
def Q_own_c54 (Z : State) (ca sb : Addr) (kC kS : ClassId) (d0 d1 d2 d3 : Int32) (h0 : Heap) (n0 : Nat) (v : Option Value) (h : Heap) (L : List Loc) : Prop := ∃ r : Int32, v = some (.int r) ∧ Fr n0 L ∧ Keep h0 h [sb] ∧ ((r = (0 : Int32) ∧ (255 : Int32) < d0) ∨ (r = (1 : Int32) ∧ (255 : Int32) < d1) ∨ (r = (2 : Int32) ∧ (255 : Int32) < d2) ∨ (r = (3 : Int32) ∧ (255 : Int32) < d3))
set_option maxRecDepth 65536 in
set_option maxHeartbeats 40000000 in
theorem own_c54 (l : Launch) (Z : State) (a0 : Array Value) (hw : ∀ d ∈ tables_1, d.before a0 Z = true) (ws : List Jvm.Cond) (ca sb : Addr) (kC kS : ClassId) (d0 d1 d2 d3 : Int32) (h0 : Heap) (n0 : Nat) (Z0 : n0 ≤ h0.size) (KC : Arv Z h0 ca kC .char (4 : Int32) [(.int d0), (.int d1), (.int d2), (.int d3)] (.int 0)) (KS : Arv Z h0 sb kS .byte (4 : Int32) [(.int 0), (.int 0), (.int 0), (.int 0)] (.int 0)) (gs : n0 ≤ sb) (hne : ca ≠ sb) (hwd : (255 : Int32) < d0 ∨ (255 : Int32) < d1 ∨ (255 : Int32) < d2 ∨ (255 : Int32) < d3) :
    MetFree l (⟨"java/lang/StringUTF16", "compress", "([CI[BII)I"⟩ : MethodName) (head1 (Jvm.Cond.code (⟨"java/lang/StringUTF16", "compress", "([CI[BII)I"⟩ : MethodName) jdk_52_method_21_code 7 (some .int) :: ws) ({ frames := 0, cells := 0, slots := 0, locals := 0 } : Room)) (fun a U => a = #[(.ref ca), (.int 0), (.ref sb), (.int 0), (.int 4)] ∧ Z.Warmed39 U.vm ∧ U.heap = h0) (fun _ _ _ _ _ => True) (fun _ U o U' => ∃ v L, o = .returned v ∧ Q_own_c54 Z ca sb kC kS d0 d1 d2 d3 h0 n0 v U'.heap L ∧ FrameEnd U o U' L ({ frames := 0, cells := 0, slots := 0, locals := 0 } : Room).cells ({ frames := 0, cells := 0, slots := 0, locals := 0 } : Room).slots) := by
  refine MetFree.of_bodySF (plainFor_of_name pn_java_lang_StringUTF16) hisR ?_
  intro p e s m args below meth c s₁ Bd hml0 hP hK
  obtain ⟨rfl, hZ, hh⟩ := hP
  have hx := Bd.exec
  have hby := Bd.bytes
  have hml : c.maxLocals = 7 := hml0
  have hown : s.vm.findClass "java/lang/StringUTF16" = some m.cls := findClass_of_methodNamed Bd.named
  have hnm := (name_of_methodNamed Bd.named Bd.method).1
  have X0 : Stand p l e ({ frames := 0, cells := 0, slots := 0, locals := 0 } : Room) s m #[(.ref ca), (.int 0), (.ref sb), (.int 0), (.int 4)] below meth c s₁ [] 0 0 := Stand.of_body Bd
  have e0 : s₁.heap = h0 := by rw [← hh, Bd.state]; rfl
  have N0 := Fr.nil n0
  have pre0 : ∀ t, Steps p.tables e below (s₁.setTop (mkF m 0 #[.val (.ref ca), .val (.int 0), .val (.ref sb), .val (.int 0), .val (.int 4), .unset, .unset] [])) t → Steps p.tables e below (s₁.setTop (entryFrame m #[(.ref ca), (.int 0), (.ref sb), (.int 0), (.int 4)] 7)) t := fun t k => castTop (ef_own_c54 m) k
  have hbr1 : (0 : Int32) < (4 : Int32) := by decide
  obtain ⟨cl2, Ar2, q2, S2, M2, H2, Gv2⟩ := id KC
  have hin3 : ¬ ((0 : Int32) < 0 ∨ cl2.slots.size ≤ ((0 : Int32)).toNatClampNeg) := inb_of S2 ⟨by decide, by decide⟩
  have hat3 : cl2.slots[((0 : Int32)).toNatClampNeg]? = some (.int d0) := Has.at H2 (inb_of S2 ⟨by decide, by decide⟩) rfl
  by_cases hs0 : (255 : Int32) < d0
  case pos =>
    obtain ⟨fs, hr, hrun, hended, hW, hsame⟩ := X0.leave (v := some (.int 0)) (fun h => by rw [Bd.returns] at h; cases h)
    refine ⟨_, _, pre0 _ ?_, hrun, hended, _, _, rfl, ?_, ⟨_, rfl⟩, hW, hsame.mono (by decide) (by decide)⟩
    · refine XS.iconst X0.here hx rfl (hb hby D18_0) ?_
      refine XS.istore X0.here hx rfl (hb hby D18_1) rfl (l' := #[.val (.ref ca), .val (.int 0), .val (.ref sb), .val (.int 0), .val (.int 4), .val (.int 0), .unset]) rfl ?_
      refine XS.iload X0.here hx rfl (hb hby D18_3) rfl ?_
      refine XS.iload X0.here hx rfl (hb hby D18_5) rfl ?_
      refine XS.icmpNo X0.here hx rfl (hb hby D18_7) rfl (tlt hbr1).2.1 ?_
      refine XS.aloadN X0.here hx rfl (hb hby D18_10) rfl rfl ?_
      refine XS.iloadN X0.here hx rfl (hb hby D18_11) rfl ?_
      refine X0.caload hx (j := (0 : Int32)) (v := (.int d0)) (by rw [e0]; exact Ar2.1) (State.isArrayOf_alike hZ.alike Ar2.2.1) Ar2.2.2 hin3 hat3 (g := (mkF m 12 #[.val (.ref ca), .val (.int 0), .val (.ref sb), .val (.int 0), .val (.int 4), .val (.int 0), .unset] [(.int 0), (.ref ca)])) rfl rfl (hb hby D18_12) _ ?_
      show Steps p.tables e below (s₁.setTop (mkF m 13 #[.val (.ref ca), .val (.int 0), .val (.ref sb), .val (.int 0), .val (.int 4), .val (.int 0), .unset] [(.int d0)])) _
      refine XS.istore X0.here hx rfl (hb hby D18_13) rfl (l' := #[.val (.ref ca), .val (.int 0), .val (.ref sb), .val (.int 0), .val (.int 4), .val (.int 0), .val (.int d0)]) rfl ?_
      refine XS.iload X0.here hx rfl (hb hby D18_15) rfl ?_
      refine XS.sipush X0.here hx rfl (hb hby D18_17) ?_
      refine XS.icmpNo X0.here hx rfl (hb hby D18_20) rfl (tlt hs0).2.2.2 ?_
      refine XS.iload X0.here hx rfl (hb hby D18_23) rfl ?_
      exact retI X0 hx Bd.returns (hb hby D18_25) hr
    · show Q_own_c54 Z ca sb kC kS d0 d1 d2 d3 h0 n0 _ s₁.heap _
      rw [e0]
      exact ⟨(0 : Int32), rfl, N0, (Keep.refl h0 [sb]), (Or.inl ⟨rfl, hs0⟩)⟩
  case neg =>
    obtain ⟨cl4, Ar4, q4, S4, M4, H4, Gv4⟩ := id KS
    obtain ⟨T4, h4, X4, e4, W4, st4⟩ := stB X0 hx hZ e0 Ar4 (j := (0 : Int32)) (inb_of S4 ⟨(by decide), (by decide)⟩) (g := (mkF m 31 #[.val (.ref ca), .val (.int 0), .val (.ref sb), .val (.int 0), .val (.int 4), .val (.int 0), .val (.int d0)] [(.int (d0.toInt8.toInt32)), (.int 0), (.ref sb)])) rfl rfl (hb hby D18_31)
    have V4 : Arv Z h4 sb kS .byte (4 : Int32) [(.int (nar .byte (d0.toInt8.toInt32))), (.int 0), (.int 0), (.int 0)] (.int 0) := Arv.set Ar4 q4 S4 M4 H4 Gv4 (fits_nar_byte _) W4 0 rfl (Nat.le_of_ble_eq_true rfl)
    have N4 := Fr.snoc X4 N0 gs
    have pre5 : ∀ t, Steps p.tables e below (T4.setTop (mkF m 32 #[.val (.ref ca), .val (.int 0), .val (.ref sb), .val (.int 0), .val (.int 4), .val (.int 0), .val (.int d0)] [])) t → Steps p.tables e below (s₁.setTop (entryFrame m #[(.ref ca), (.int 0), (.ref sb), (.int 0), (.int 4)] 7)) t := by
      intro t kk
      refine pre0 t ?_
      refine XS.iconst X0.here hx rfl (hb hby D18_0) ?_
      refine XS.istore X0.here hx rfl (hb hby D18_1) rfl (l' := #[.val (.ref ca), .val (.int 0), .val (.ref sb), .val (.int 0), .val (.int 4), .val (.int 0), .unset]) rfl ?_
      refine XS.iload X0.here hx rfl (hb hby D18_3) rfl ?_
      refine XS.iload X0.here hx rfl (hb hby D18_5) rfl ?_
      refine XS.icmpNo X0.here hx rfl (hb hby D18_7) rfl (tlt hbr1).2.1 ?_
      refine XS.aloadN X0.here hx rfl (hb hby D18_10) rfl rfl ?_
      refine XS.iloadN X0.here hx rfl (hb hby D18_11) rfl ?_
      refine X0.caload hx (j := (0 : Int32)) (v := (.int d0)) (by rw [e0]; exact Ar2.1) (State.isArrayOf_alike hZ.alike Ar2.2.1) Ar2.2.2 hin3 hat3 (g := (mkF m 12 #[.val (.ref ca), .val (.int 0), .val (.ref sb), .val (.int 0), .val (.int 4), .val (.int 0), .unset] [(.int 0), (.ref ca)])) rfl rfl (hb hby D18_12) _ ?_
      show Steps p.tables e below (s₁.setTop (mkF m 13 #[.val (.ref ca), .val (.int 0), .val (.ref sb), .val (.int 0), .val (.int 4), .val (.int 0), .unset] [(.int d0)])) _
      refine XS.istore X0.here hx rfl (hb hby D18_13) rfl (l' := #[.val (.ref ca), .val (.int 0), .val (.ref sb), .val (.int 0), .val (.int 4), .val (.int 0), .val (.int d0)]) rfl ?_
      refine XS.iload X0.here hx rfl (hb hby D18_15) rfl ?_
      refine XS.sipush X0.here hx rfl (hb hby D18_17) ?_
      refine XS.icmpYes X0.here hx rfl (pc0 := 20) (pc' := 26) rfl (hb hby D18_20) rfl (flt hs0).2.2.2 (by decide) (by decide) ?_
      refine XS.aloadN X0.here hx rfl (hb hby D18_26) rfl rfl ?_
      refine XS.iloadN X0.here hx rfl (hb hby D18_27) rfl ?_
      refine XS.iload X0.here hx rfl (hb hby D18_28) rfl ?_
      refine XS.i2b X0.here hx rfl (hb hby D18_30) rfl ?_
      show Steps p.tables e below (s₁.setTop (mkF m 31 #[.val (.ref ca), .val (.int 0), .val (.ref sb), .val (.int 0), .val (.int 4), .val (.int 0), .val (.int d0)] [(.int (d0.toInt8.toInt32)), (.int 0), (.ref sb)])) _
      exact st4 _ kk
    have hbr6 : (1 : Int32) < (4 : Int32) := by decide
    have fc8 := (KC.other W4 hne)
    obtain ⟨cl7, Ar7, q7, S7, M7, H7, Gv7⟩ := id fc8
    have hin9 : ¬ ((1 : Int32) < 0 ∨ cl7.slots.size ≤ ((1 : Int32)).toNatClampNeg) := inb_of S7 ⟨by decide, by decide⟩
    have hat9 : cl7.slots[((1 : Int32)).toNatClampNeg]? = some (.int d1) := Has.at H7 (inb_of S7 ⟨by decide, by decide⟩) rfl
    by_cases hs1 : (255 : Int32) < d1
    case pos =>
      have fc10 := ((Keep.refl h0 [sb]).wr W4 (Or.inl (List.mem_of_getElem? (i := 0) rfl)))
      obtain ⟨fs, hr, hrun, hended, hW, hsame⟩ := X4.leave (v := some (.int 1)) (fun h => by rw [Bd.returns] at h; cases h)
      refine ⟨_, _, pre5 _ ?_, hrun, hended, _, _, rfl, ?_, ⟨_, rfl⟩, hW, hsame.mono (by decide) (by decide)⟩
      · refine XS.iinc X4.here hx rfl (hb hby D18_32) rfl (l' := #[.val (.ref ca), .val (.int 1), .val (.ref sb), .val (.int 0), .val (.int 4), .val (.int 0), .val (.int d0)]) rfl ?_
        refine XS.iinc X4.here hx rfl (hb hby D18_35) rfl (l' := #[.val (.ref ca), .val (.int 1), .val (.ref sb), .val (.int 1), .val (.int 4), .val (.int 0), .val (.int d0)]) rfl ?_
        refine XS.iinc X4.here hx rfl (hb hby D18_38) rfl (l' := #[.val (.ref ca), .val (.int 1), .val (.ref sb), .val (.int 1), .val (.int 4), .val (.int 1), .val (.int d0)]) rfl ?_
        refine XS.goto X4.here hx rfl (pc0 := 41) (pc' := 3) rfl (hb hby D18_41) (by decide) (by decide) ?_
        refine XS.iload X4.here hx rfl (hb hby D18_3) rfl ?_
        refine XS.iload X4.here hx rfl (hb hby D18_5) rfl ?_
        refine XS.icmpNo X4.here hx rfl (hb hby D18_7) rfl (tlt hbr6).2.1 ?_
        refine XS.aloadN X4.here hx rfl (hb hby D18_10) rfl rfl ?_
        show Steps p.tables e below (T4.setTop (mkF m 11 #[.val (.ref ca), .val (.int 1), .val (.ref sb), .val (.int 1), .val (.int 4), .val (.int 1), .val (.int d0)] [(.ref ca)])) _
        refine XS.iloadN X4.here hx rfl (hb hby D18_11) rfl ?_
        refine X4.caload hx (j := (1 : Int32)) (v := (.int d1)) (by rw [e4]; exact Ar7.1) (State.isArrayOf_alike hZ.alike Ar7.2.1) Ar7.2.2 hin9 hat9 (g := (mkF m 12 #[.val (.ref ca), .val (.int 1), .val (.ref sb), .val (.int 1), .val (.int 4), .val (.int 1), .val (.int d0)] [(.int 1), (.ref ca)])) rfl rfl (hb hby D18_12) _ ?_
        refine XS.istore X4.here hx rfl (hb hby D18_13) rfl (l' := #[.val (.ref ca), .val (.int 1), .val (.ref sb), .val (.int 1), .val (.int 4), .val (.int 1), .val (.int d1)]) rfl ?_
        refine XS.iload X4.here hx rfl (hb hby D18_15) rfl ?_
        refine XS.sipush X4.here hx rfl (hb hby D18_17) ?_
        refine XS.icmpNo X4.here hx rfl (hb hby D18_20) rfl (tlt hs1).2.2.2 ?_
        refine XS.iload X4.here hx rfl (hb hby D18_23) rfl ?_
        exact retI X4 hx Bd.returns (hb hby D18_25) hr
      · show Q_own_c54 Z ca sb kC kS d0 d1 d2 d3 h0 n0 _ T4.heap _
        rw [e4]
        exact ⟨(1 : Int32), rfl, N4, fc10, (Or.inr (Or.inl ⟨rfl, hs1⟩))⟩
    case neg =>
      obtain ⟨cl11, Ar11, q11, S11, M11, H11, Gv11⟩ := id V4
      obtain ⟨T11, h11, X11, e11, W11, st11⟩ := stB X4 hx hZ e4 Ar11 (j := (1 : Int32)) (inb_of S11 ⟨(by decide), (by decide)⟩) (g := (mkF m 31 #[.val (.ref ca), .val (.int 1), .val (.ref sb), .val (.int 1), .val (.int 4), .val (.int 1), .val (.int d1)] [(.int (d1.toInt8.toInt32)), (.int 1), (.ref sb)])) rfl rfl (hb hby D18_31)
      have V11 : Arv Z h11 sb kS .byte (4 : Int32) [(.int (nar .byte (d0.toInt8.toInt32))), (.int (nar .byte (d1.toInt8.toInt32))), (.int 0), (.int 0)] (.int 0) := Arv.set Ar11 q11 S11 M11 H11 Gv11 (fits_nar_byte _) W11 1 rfl (Nat.le_of_ble_eq_true rfl)
      have N11 := Fr.snoc X11 N4 gs
      have pre12 : ∀ t, Steps p.tables e below (T11.setTop (mkF m 32 #[.val (.ref ca), .val (.int 1), .val (.ref sb), .val (.int 1), .val (.int 4), .val (.int 1), .val (.int d1)] [])) t → Steps p.tables e below (s₁.setTop (entryFrame m #[(.ref ca), (.int 0), (.ref sb), (.int 0), (.int 4)] 7)) t := by
        intro t kk
        refine pre5 t ?_
        refine XS.iinc X4.here hx rfl (hb hby D18_32) rfl (l' := #[.val (.ref ca), .val (.int 1), .val (.ref sb), .val (.int 0), .val (.int 4), .val (.int 0), .val (.int d0)]) rfl ?_
        refine XS.iinc X4.here hx rfl (hb hby D18_35) rfl (l' := #[.val (.ref ca), .val (.int 1), .val (.ref sb), .val (.int 1), .val (.int 4), .val (.int 0), .val (.int d0)]) rfl ?_
        refine XS.iinc X4.here hx rfl (hb hby D18_38) rfl (l' := #[.val (.ref ca), .val (.int 1), .val (.ref sb), .val (.int 1), .val (.int 4), .val (.int 1), .val (.int d0)]) rfl ?_
        refine XS.goto X4.here hx rfl (pc0 := 41) (pc' := 3) rfl (hb hby D18_41) (by decide) (by decide) ?_
        refine XS.iload X4.here hx rfl (hb hby D18_3) rfl ?_
        refine XS.iload X4.here hx rfl (hb hby D18_5) rfl ?_
        refine XS.icmpNo X4.here hx rfl (hb hby D18_7) rfl (tlt hbr6).2.1 ?_
        refine XS.aloadN X4.here hx rfl (hb hby D18_10) rfl rfl ?_
        show Steps p.tables e below (T4.setTop (mkF m 11 #[.val (.ref ca), .val (.int 1), .val (.ref sb), .val (.int 1), .val (.int 4), .val (.int 1), .val (.int d0)] [(.ref ca)])) _
        refine XS.iloadN X4.here hx rfl (hb hby D18_11) rfl ?_
        refine X4.caload hx (j := (1 : Int32)) (v := (.int d1)) (by rw [e4]; exact Ar7.1) (State.isArrayOf_alike hZ.alike Ar7.2.1) Ar7.2.2 hin9 hat9 (g := (mkF m 12 #[.val (.ref ca), .val (.int 1), .val (.ref sb), .val (.int 1), .val (.int 4), .val (.int 1), .val (.int d0)] [(.int 1), (.ref ca)])) rfl rfl (hb hby D18_12) _ ?_
        refine XS.istore X4.here hx rfl (hb hby D18_13) rfl (l' := #[.val (.ref ca), .val (.int 1), .val (.ref sb), .val (.int 1), .val (.int 4), .val (.int 1), .val (.int d1)]) rfl ?_
        refine XS.iload X4.here hx rfl (hb hby D18_15) rfl ?_
        refine XS.sipush X4.here hx rfl (hb hby D18_17) ?_
        refine XS.icmpYes X4.here hx rfl (pc0 := 20) (pc' := 26) rfl (hb hby D18_20) rfl (flt hs1).2.2.2 (by decide) (by decide) ?_
        refine XS.aloadN X4.here hx rfl (hb hby D18_26) rfl rfl ?_
        refine XS.iloadN X4.here hx rfl (hb hby D18_27) rfl ?_
        show Steps p.tables e below (T4.setTop (mkF m 28 #[.val (.ref ca), .val (.int 1), .val (.ref sb), .val (.int 1), .val (.int 4), .val (.int 1), .val (.int d1)] [(.int 1), (.ref sb)])) _
        refine XS.iload X4.here hx rfl (hb hby D18_28) rfl ?_
        refine XS.i2b X4.here hx rfl (hb hby D18_30) rfl ?_
        exact st11 _ kk
      have hbr13 : (2 : Int32) < (4 : Int32) := by decide
      have fc15 := (fc8.other W11 hne)
      obtain ⟨cl14, Ar14, q14, S14, M14, H14, Gv14⟩ := id fc15
      have hin16 : ¬ ((2 : Int32) < 0 ∨ cl14.slots.size ≤ ((2 : Int32)).toNatClampNeg) := inb_of S14 ⟨by decide, by decide⟩
      have hat16 : cl14.slots[((2 : Int32)).toNatClampNeg]? = some (.int d2) := Has.at H14 (inb_of S14 ⟨by decide, by decide⟩) rfl
      by_cases hs2 : (255 : Int32) < d2
      case pos =>
        have fc17 := (((Keep.refl h0 [sb]).wr W4 (Or.inl (List.mem_of_getElem? (i := 0) rfl))).wr W11 (Or.inl (List.mem_of_getElem? (i := 0) rfl)))
        obtain ⟨fs, hr, hrun, hended, hW, hsame⟩ := X11.leave (v := some (.int 2)) (fun h => by rw [Bd.returns] at h; cases h)
        refine ⟨_, _, pre12 _ ?_, hrun, hended, _, _, rfl, ?_, ⟨_, rfl⟩, hW, hsame.mono (by decide) (by decide)⟩
        · refine XS.iinc X11.here hx rfl (hb hby D18_32) rfl (l' := #[.val (.ref ca), .val (.int 2), .val (.ref sb), .val (.int 1), .val (.int 4), .val (.int 1), .val (.int d1)]) rfl ?_
          refine XS.iinc X11.here hx rfl (hb hby D18_35) rfl (l' := #[.val (.ref ca), .val (.int 2), .val (.ref sb), .val (.int 2), .val (.int 4), .val (.int 1), .val (.int d1)]) rfl ?_
          refine XS.iinc X11.here hx rfl (hb hby D18_38) rfl (l' := #[.val (.ref ca), .val (.int 2), .val (.ref sb), .val (.int 2), .val (.int 4), .val (.int 2), .val (.int d1)]) rfl ?_
          refine XS.goto X11.here hx rfl (pc0 := 41) (pc' := 3) rfl (hb hby D18_41) (by decide) (by decide) ?_
          refine XS.iload X11.here hx rfl (hb hby D18_3) rfl ?_
          refine XS.iload X11.here hx rfl (hb hby D18_5) rfl ?_
          refine XS.icmpNo X11.here hx rfl (hb hby D18_7) rfl (tlt hbr13).2.1 ?_
          refine XS.aloadN X11.here hx rfl (hb hby D18_10) rfl rfl ?_
          show Steps p.tables e below (T11.setTop (mkF m 11 #[.val (.ref ca), .val (.int 2), .val (.ref sb), .val (.int 2), .val (.int 4), .val (.int 2), .val (.int d1)] [(.ref ca)])) _
          refine XS.iloadN X11.here hx rfl (hb hby D18_11) rfl ?_
          refine X11.caload hx (j := (2 : Int32)) (v := (.int d2)) (by rw [e11]; exact Ar14.1) (State.isArrayOf_alike hZ.alike Ar14.2.1) Ar14.2.2 hin16 hat16 (g := (mkF m 12 #[.val (.ref ca), .val (.int 2), .val (.ref sb), .val (.int 2), .val (.int 4), .val (.int 2), .val (.int d1)] [(.int 2), (.ref ca)])) rfl rfl (hb hby D18_12) _ ?_
          refine XS.istore X11.here hx rfl (hb hby D18_13) rfl (l' := #[.val (.ref ca), .val (.int 2), .val (.ref sb), .val (.int 2), .val (.int 4), .val (.int 2), .val (.int d2)]) rfl ?_
          refine XS.iload X11.here hx rfl (hb hby D18_15) rfl ?_
          refine XS.sipush X11.here hx rfl (hb hby D18_17) ?_
          refine XS.icmpNo X11.here hx rfl (hb hby D18_20) rfl (tlt hs2).2.2.2 ?_
          refine XS.iload X11.here hx rfl (hb hby D18_23) rfl ?_
          exact retI X11 hx Bd.returns (hb hby D18_25) hr
        · show Q_own_c54 Z ca sb kC kS d0 d1 d2 d3 h0 n0 _ T11.heap _
          rw [e11]
          exact ⟨(2 : Int32), rfl, N11, fc17, (Or.inr (Or.inr (Or.inl ⟨rfl, hs2⟩)))⟩
      case neg =>
        obtain ⟨cl18, Ar18, q18, S18, M18, H18, Gv18⟩ := id V11
        obtain ⟨T18, h18, X18, e18, W18, st18⟩ := stB X11 hx hZ e11 Ar18 (j := (2 : Int32)) (inb_of S18 ⟨(by decide), (by decide)⟩) (g := (mkF m 31 #[.val (.ref ca), .val (.int 2), .val (.ref sb), .val (.int 2), .val (.int 4), .val (.int 2), .val (.int d2)] [(.int (d2.toInt8.toInt32)), (.int 2), (.ref sb)])) rfl rfl (hb hby D18_31)
        have V18 : Arv Z h18 sb kS .byte (4 : Int32) [(.int (nar .byte (d0.toInt8.toInt32))), (.int (nar .byte (d1.toInt8.toInt32))), (.int (nar .byte (d2.toInt8.toInt32))), (.int 0)] (.int 0) := Arv.set Ar18 q18 S18 M18 H18 Gv18 (fits_nar_byte _) W18 2 rfl (Nat.le_of_ble_eq_true rfl)
        have N18 := Fr.snoc X18 N11 gs
        have pre19 : ∀ t, Steps p.tables e below (T18.setTop (mkF m 32 #[.val (.ref ca), .val (.int 2), .val (.ref sb), .val (.int 2), .val (.int 4), .val (.int 2), .val (.int d2)] [])) t → Steps p.tables e below (s₁.setTop (entryFrame m #[(.ref ca), (.int 0), (.ref sb), (.int 0), (.int 4)] 7)) t := by
          intro t kk
          refine pre12 t ?_
          refine XS.iinc X11.here hx rfl (hb hby D18_32) rfl (l' := #[.val (.ref ca), .val (.int 2), .val (.ref sb), .val (.int 1), .val (.int 4), .val (.int 1), .val (.int d1)]) rfl ?_
          refine XS.iinc X11.here hx rfl (hb hby D18_35) rfl (l' := #[.val (.ref ca), .val (.int 2), .val (.ref sb), .val (.int 2), .val (.int 4), .val (.int 1), .val (.int d1)]) rfl ?_
          refine XS.iinc X11.here hx rfl (hb hby D18_38) rfl (l' := #[.val (.ref ca), .val (.int 2), .val (.ref sb), .val (.int 2), .val (.int 4), .val (.int 2), .val (.int d1)]) rfl ?_
          refine XS.goto X11.here hx rfl (pc0 := 41) (pc' := 3) rfl (hb hby D18_41) (by decide) (by decide) ?_
          refine XS.iload X11.here hx rfl (hb hby D18_3) rfl ?_
          refine XS.iload X11.here hx rfl (hb hby D18_5) rfl ?_
          refine XS.icmpNo X11.here hx rfl (hb hby D18_7) rfl (tlt hbr13).2.1 ?_
          refine XS.aloadN X11.here hx rfl (hb hby D18_10) rfl rfl ?_
          show Steps p.tables e below (T11.setTop (mkF m 11 #[.val (.ref ca), .val (.int 2), .val (.ref sb), .val (.int 2), .val (.int 4), .val (.int 2), .val (.int d1)] [(.ref ca)])) _
          refine XS.iloadN X11.here hx rfl (hb hby D18_11) rfl ?_
          refine X11.caload hx (j := (2 : Int32)) (v := (.int d2)) (by rw [e11]; exact Ar14.1) (State.isArrayOf_alike hZ.alike Ar14.2.1) Ar14.2.2 hin16 hat16 (g := (mkF m 12 #[.val (.ref ca), .val (.int 2), .val (.ref sb), .val (.int 2), .val (.int 4), .val (.int 2), .val (.int d1)] [(.int 2), (.ref ca)])) rfl rfl (hb hby D18_12) _ ?_
          refine XS.istore X11.here hx rfl (hb hby D18_13) rfl (l' := #[.val (.ref ca), .val (.int 2), .val (.ref sb), .val (.int 2), .val (.int 4), .val (.int 2), .val (.int d2)]) rfl ?_
          refine XS.iload X11.here hx rfl (hb hby D18_15) rfl ?_
          refine XS.sipush X11.here hx rfl (hb hby D18_17) ?_
          refine XS.icmpYes X11.here hx rfl (pc0 := 20) (pc' := 26) rfl (hb hby D18_20) rfl (flt hs2).2.2.2 (by decide) (by decide) ?_
          refine XS.aloadN X11.here hx rfl (hb hby D18_26) rfl rfl ?_
          refine XS.iloadN X11.here hx rfl (hb hby D18_27) rfl ?_
          show Steps p.tables e below (T11.setTop (mkF m 28 #[.val (.ref ca), .val (.int 2), .val (.ref sb), .val (.int 2), .val (.int 4), .val (.int 2), .val (.int d2)] [(.int 2), (.ref sb)])) _
          refine XS.iload X11.here hx rfl (hb hby D18_28) rfl ?_
          refine XS.i2b X11.here hx rfl (hb hby D18_30) rfl ?_
          exact st18 _ kk
        have hbr20 : (3 : Int32) < (4 : Int32) := by decide
        have fc22 := (fc15.other W18 hne)
        obtain ⟨cl21, Ar21, q21, S21, M21, H21, Gv21⟩ := id fc22
        have hin23 : ¬ ((3 : Int32) < 0 ∨ cl21.slots.size ≤ ((3 : Int32)).toNatClampNeg) := inb_of S21 ⟨by decide, by decide⟩
        have hat23 : cl21.slots[((3 : Int32)).toNatClampNeg]? = some (.int d3) := Has.at H21 (inb_of S21 ⟨by decide, by decide⟩) rfl
        by_cases hs3 : (255 : Int32) < d3
        case pos =>
          have fc24 := ((((Keep.refl h0 [sb]).wr W4 (Or.inl (List.mem_of_getElem? (i := 0) rfl))).wr W11 (Or.inl (List.mem_of_getElem? (i := 0) rfl))).wr W18 (Or.inl (List.mem_of_getElem? (i := 0) rfl)))
          obtain ⟨fs, hr, hrun, hended, hW, hsame⟩ := X18.leave (v := some (.int 3)) (fun h => by rw [Bd.returns] at h; cases h)
          refine ⟨_, _, pre19 _ ?_, hrun, hended, _, _, rfl, ?_, ⟨_, rfl⟩, hW, hsame.mono (by decide) (by decide)⟩
          · refine XS.iinc X18.here hx rfl (hb hby D18_32) rfl (l' := #[.val (.ref ca), .val (.int 3), .val (.ref sb), .val (.int 2), .val (.int 4), .val (.int 2), .val (.int d2)]) rfl ?_
            refine XS.iinc X18.here hx rfl (hb hby D18_35) rfl (l' := #[.val (.ref ca), .val (.int 3), .val (.ref sb), .val (.int 3), .val (.int 4), .val (.int 2), .val (.int d2)]) rfl ?_
            refine XS.iinc X18.here hx rfl (hb hby D18_38) rfl (l' := #[.val (.ref ca), .val (.int 3), .val (.ref sb), .val (.int 3), .val (.int 4), .val (.int 3), .val (.int d2)]) rfl ?_
            refine XS.goto X18.here hx rfl (pc0 := 41) (pc' := 3) rfl (hb hby D18_41) (by decide) (by decide) ?_
            refine XS.iload X18.here hx rfl (hb hby D18_3) rfl ?_
            refine XS.iload X18.here hx rfl (hb hby D18_5) rfl ?_
            refine XS.icmpNo X18.here hx rfl (hb hby D18_7) rfl (tlt hbr20).2.1 ?_
            refine XS.aloadN X18.here hx rfl (hb hby D18_10) rfl rfl ?_
            show Steps p.tables e below (T18.setTop (mkF m 11 #[.val (.ref ca), .val (.int 3), .val (.ref sb), .val (.int 3), .val (.int 4), .val (.int 3), .val (.int d2)] [(.ref ca)])) _
            refine XS.iloadN X18.here hx rfl (hb hby D18_11) rfl ?_
            refine X18.caload hx (j := (3 : Int32)) (v := (.int d3)) (by rw [e18]; exact Ar21.1) (State.isArrayOf_alike hZ.alike Ar21.2.1) Ar21.2.2 hin23 hat23 (g := (mkF m 12 #[.val (.ref ca), .val (.int 3), .val (.ref sb), .val (.int 3), .val (.int 4), .val (.int 3), .val (.int d2)] [(.int 3), (.ref ca)])) rfl rfl (hb hby D18_12) _ ?_
            refine XS.istore X18.here hx rfl (hb hby D18_13) rfl (l' := #[.val (.ref ca), .val (.int 3), .val (.ref sb), .val (.int 3), .val (.int 4), .val (.int 3), .val (.int d3)]) rfl ?_
            refine XS.iload X18.here hx rfl (hb hby D18_15) rfl ?_
            refine XS.sipush X18.here hx rfl (hb hby D18_17) ?_
            refine XS.icmpNo X18.here hx rfl (hb hby D18_20) rfl (tlt hs3).2.2.2 ?_
            refine XS.iload X18.here hx rfl (hb hby D18_23) rfl ?_
            exact retI X18 hx Bd.returns (hb hby D18_25) hr
          · show Q_own_c54 Z ca sb kC kS d0 d1 d2 d3 h0 n0 _ T18.heap _
            rw [e18]
            exact ⟨(3 : Int32), rfl, N18, fc24, (Or.inr (Or.inr (Or.inr ⟨rfl, hs3⟩)))⟩
        case neg =>
          rcases hwd with q | q | q | q
          · exact absurd q hs0
          · exact absurd q hs1
          · exact absurd q hs2
          · exact absurd q hs3
theorem ef_own_c34 (m : MethodId) {ca : Addr} : entryFrame m #[(.ref ca), (.int 0), (.int 4)] 6 = mkF m 0 #[.val (.ref ca), .val (.int 0), .val (.int 4), .unset, .unset, .unset] [] := by first | (simp [entryFrame, mkF, argsToLocals, Value.category]; done) | rfl
def Q_own_c34 (Z : State) (ca : Addr) (kC : ClassId) (d0 d1 d2 d3 : Int32) (h0 : Heap) (n0 : Nat) (v : Option Value) (h : Heap) (L : List Loc) : Prop := ∃ (b : Addr) (k : ClassId), v = some (.ref b) ∧ Fr n0 L ∧ Keep h0 h [] ∧ h0.size ≤ b ∧ Arv Z h b k .byte (8 : Int32) [(.int (StrChars.lo8 d0)), (.int (StrChars.hi8 d0)), (.int (StrChars.lo8 d1)), (.int (StrChars.hi8 d1)), (.int (StrChars.lo8 d2)), (.int (StrChars.hi8 d2)), (.int (StrChars.lo8 d3)), (.int (StrChars.hi8 d3))] (.int 0)
set_option maxRecDepth 65536 in
set_option maxHeartbeats 40000000 in
theorem own_c34 (l : Launch) (Z : State) (a0 : Array Value) (hw : ∀ d ∈ tables_1, d.before a0 Z = true) (ws : List Jvm.Cond) (ca : Addr) (kC : ClassId) (d0 d1 d2 d3 : Int32) (h0 : Heap) (n0 : Nat) (Z0 : n0 ≤ h0.size) (KC : Arv Z h0 ca kC .char (4 : Int32) [(.int d0), (.int d1), (.int d2), (.int d3)] (.int 0)) (hd0 : ¬ d0 < 0 ∧ ¬ (65535 : Int32) < d0) (hd1 : ¬ d1 < 0 ∧ ¬ (65535 : Int32) < d1) (hd2 : ¬ d2 < 0 ∧ ¬ (65535 : Int32) < d2) (hd3 : ¬ d3 < 0 ∧ ¬ (65535 : Int32) < d3) (hwd : (255 : Int32) < d0 ∨ (255 : Int32) < d1 ∨ (255 : Int32) < d2 ∨ (255 : Int32) < d3) (AD : Sta Z Z.heap "java/lang/StringUTF16" "$assertionsDisabled" "Z" (.int 1)) (HB : Sta Z Z.heap "java/lang/StringUTF16" "HI_BYTE_SHIFT" "I" (.int 0)) (LB : Sta Z Z.heap "java/lang/StringUTF16" "LO_BYTE_SHIFT" "I" (.int 8)) (XO : Old Z n0 h0) :
    MetFree l (⟨"java/lang/StringUTF16", "compress", "([CII)[B"⟩ : MethodName) (head1 (Jvm.Cond.code (⟨"java/lang/StringUTF16", "compress", "([CII)[B"⟩ : MethodName) jdk_52_method_16_code 6 (some (.array .byte)) :: ws) ({ frames := 3, cells := 2, slots := 12, locals := 40 } : Room)) (fun a U => a = #[(.ref ca), (.int 0), (.int 4)] ∧ Z.Warmed39 U.vm ∧ U.heap = h0) (fun _ _ _ _ _ => True) (fun _ U o U' => ∃ v L, o = .returned v ∧ Q_own_c34 Z ca kC d0 d1 d2 d3 h0 n0 v U'.heap L ∧ FrameEnd U o U' L ({ frames := 3, cells := 2, slots := 12, locals := 40 } : Room).cells ({ frames := 3, cells := 2, slots := 12, locals := 40 } : Room).slots) := by
  refine MetFree.of_bodySF (plainFor_of_name pn_java_lang_StringUTF16) hisR ?_
  intro p e s m args below meth c s₁ Bd hml0 hP hK
  obtain ⟨rfl, hZ, hh⟩ := hP
  have hx := Bd.exec
  have hby := Bd.bytes
  have hml : c.maxLocals = 6 := hml0
  have hown : s.vm.findClass "java/lang/StringUTF16" = some m.cls := findClass_of_methodNamed Bd.named
  have hnm := (name_of_methodNamed Bd.named Bd.method).1
  have X0 : Stand p l e ({ frames := 3, cells := 2, slots := 12, locals := 40 } : Room) s m #[(.ref ca), (.int 0), (.int 4)] below meth c s₁ [] 0 0 := Stand.of_body Bd
  have e0 : s₁.heap = h0 := by rw [← hh, Bd.state]; rfl
  have N0 := Fr.nil n0
  have pre0 : ∀ t, Steps p.tables e below (s₁.setTop (mkF m 0 #[.val (.ref ca), .val (.int 0), .val (.int 4), .unset, .unset, .unset] [])) t → Steps p.tables e below (s₁.setTop (entryFrame m #[(.ref ca), (.int 0), (.int 4)] 6)) t := fun t k => castTop (ef_own_c34 m) k
  obtain ⟨fb1, g1⟩ : ∃ z, z = h0.size := ⟨_, rfl⟩
  have ne_ca_fb1 : ca ≠ fb1 := Nat.ne_of_lt (Nat.lt_of_lt_of_le KC.lt (Nat.le_of_eq g1.symm))
  have lo_fb1 : n0 ≤ fb1 := Nat.le_trans Z0 (Nat.le_of_eq g1.symm)
  have hi_fb1 : h0.size ≤ fb1 := Nat.le_trans (Keep.refl h0 []).1 (Nat.le_of_eq g1.symm)
  obtain ⟨T1, h1, k1, X1, e1, E1, A1, st1⟩ := newP X0 hx hZ (gw hw 17 rfl) e0 (g := (mkF m 1 #[.val (.ref ca), .val (.int 0), .val (.int 4), .unset, .unset, .unset] [(.int 4)])) rfl (hb hby D19_1) rfl (by decide) (cap := 4) (by decide) (by decide) (by decide) (by decide)
  rw [← g1] at A1 st1
  have V1 : Arv Z h1 fb1 k1 .byte (4 : Int32) [(.int 0), (.int 0), (.int 0), (.int 0)] (.int 0) := (Arv.new A1 (by decide)).pad (pad_rep [] (.int 0) 4)
  have pre2 : ∀ t, Steps p.tables e below (T1.setTop (mkF m 3 #[.val (.ref ca), .val (.int 0), .val (.int 4), .unset, .unset, .unset] [(.ref fb1)])) t → Steps p.tables e below (s₁.setTop (entryFrame m #[(.ref ca), (.int 0), (.int 4)] 6)) t := by
    intro t kk
    refine pre0 t ?_
    refine XS.iloadN X0.here hx rfl (hb hby D19_0) rfl ?_
    exact st1 _ kk
  have fc3 := (KC.ext E1)
  have fc5 := (Nat.le_trans Z0 E1.1)
  obtain ⟨_, _, ⟨T4, L4, k4, n4⟩, -, X4, ⟨Lc4, hQ4, l4, y4, z4⟩, st4⟩ := Jvm.LawKit.callS X1 hx (y := (⟨"java/lang/StringUTF16", "compress", "([CI[BII)I"⟩ : MethodName)) hown (mvT hZ (gw hw 48 rfl)) (mvT hZ (gw hw 49 rfl)) (mvT hZ (gw hw 46 rfl)) (mvT hZ (gw hw 50 rfl)) (by decide) (backOf (W := 0) (own_c54 l Z a0 hw [] ca fb1 kC k1 d0 d1 d2 d3 h1 n0 fc5 fc3 V1 lo_fb1 ne_ca_fb1 hwd) hZ (gw hw 50 rfl) (gw hw 46 rfl) (by decide) (by decide)) (g := (mkF m 9 #[.val (.ref ca), .val (.int 0), .val (.int 4), .val (.ref fb1), .unset, .unset] [(.int 4), (.int 0), (.ref fb1), (.int 0), (.ref ca)])) rfl (by rw [hml]; rfl) (argsL := [(.ref ca), (.int 0), (.ref fb1), (.int 0), (.int 4)]) (rest := []) (lenOf pd___CI_BII_I rfl) rfl (by show 2 * 0 + _ ≤ _; exact Nat.le_of_eq rfl) (hb hby D19_9) (fun _ _ => ⟨rfl, e1, (by decide : 1 + 0 ≤ _), (by decide : 4 + 0 ≤ _)⟩)
  dsimp only [Pt.U, Pt.locs, Pt.cells, Pt.slots] at X4 l4 y4 z4 st4 hQ4
  subst l4 y4 z4
  obtain ⟨jj, rfl, N4q, K4, hj⟩ := hQ4
  have N4 := Fr.app N0 N4q
  have pre6 : ∀ t, Steps p.tables e below (T4.setTop (mkF m 12 #[.val (.ref ca), .val (.int 0), .val (.int 4), .val (.ref fb1), .unset, .unset] [(.int jj)])) t → Steps p.tables e below (s₁.setTop (entryFrame m #[(.ref ca), (.int 0), (.int 4)] 6)) t := by
    intro t kk
    refine pre2 t ?_
    refine XS.astoreN X1.here hx rfl (hb hby D19_3) rfl rfl (l' := #[.val (.ref ca), .val (.int 0), .val (.int 4), .val (.ref fb1), .unset, .unset]) rfl ?_
    refine XS.aloadN X1.here hx rfl (hb hby D19_4) rfl rfl ?_
    refine XS.iloadN X1.here hx rfl (hb hby D19_5) rfl ?_
    refine XS.aloadN X1.here hx rfl (hb hby D19_6) rfl rfl ?_
    refine XS.iconst X1.here hx rfl (hb hby D19_7) ?_
    refine XS.iloadN X1.here hx rfl (hb hby D19_8) rfl ?_
    exact st4 _ kk
  have hjn : ¬ jj = (4 : Int32) := by
    rcases hj with ⟨rfl, hj⟩ | ⟨rfl, hj⟩ | ⟨rfl, hj⟩ | ⟨rfl, hj⟩ <;> decide
  have fc7 := (fc3.keep K4 (ninS ne_ca_fb1 nin0))
  have fc8 := ((XO.ext E1).keep K4 (allS lo_fb1 all0))
  have fc10 := (Nat.le_trans fc5 K4.1)
  obtain ⟨_, _, ⟨T9, L9, k9, n9⟩, -, X9, ⟨Lc9, hQ9, l9, y9, z9⟩, st9⟩ := Jvm.LawKit.callS X4 hx (y := (⟨"java/lang/StringUTF16", "toBytes", "([CII)[B"⟩ : MethodName)) hown (mvT hZ (gw hw 80 rfl)) (mvT hZ (gw hw 81 rfl)) (mvT hZ (gw hw 46 rfl)) (mvT hZ (gw hw 82 rfl)) (by decide) (backOf (W := 0) (own_tb4 l Z a0 hw [] ca kC d0 d1 d2 d3 T4.heap n0 fc10 fc7 AD HB LB fc8) hZ (gw hw 82 rfl) (gw hw 46 rfl) (by decide) (by decide)) (g := (mkF m 23 #[.val (.ref ca), .val (.int 0), .val (.int 4), .val (.ref fb1), .val (.int jj), .unset] [(.int 4), (.int 0), (.ref ca)])) rfl (by rw [hml]; rfl) (argsL := [(.ref ca), (.int 0), (.int 4)]) (rest := []) (lenOf pd___CII__B rfl) rfl (by show 2 * 0 + _ ≤ _; exact Nat.le_of_eq rfl) (hb hby D19_23) (fun _ _ => ⟨rfl, rfl, (by decide : 1 + 1 ≤ _), (by decide : 4 + 8 ≤ _)⟩)
  dsimp only [Pt.U, Pt.locs, Pt.cells, Pt.slots] at X9 l9 y9 z9 st9 hQ9
  subst l9 y9 z9
  obtain ⟨fb, kf, rfl, N9q, K9, gf, Vf⟩ := hQ9
  have N9 := Fr.app N4 N9q
  have pre11 : ∀ t, Steps p.tables e below (T9.setTop (mkF m 26 #[.val (.ref ca), .val (.int 0), .val (.int 4), .val (.ref fb1), .val (.int jj), .unset] [(.ref fb)])) t → Steps p.tables e below (s₁.setTop (entryFrame m #[(.ref ca), (.int 0), (.int 4)] 6)) t := by
    intro t kk
    refine pre6 t ?_
    refine XS.istore X4.here hx rfl (hb hby D19_12) rfl (l' := #[.val (.ref ca), .val (.int 0), .val (.int 4), .val (.ref fb1), .val (.int jj), .unset]) rfl ?_
    refine XS.iload X4.here hx rfl (hb hby D19_14) rfl ?_
    refine XS.iloadN X4.here hx rfl (hb hby D19_16) rfl ?_
    refine XS.icmpNo X4.here hx rfl (hb hby D19_17) rfl (feq hjn).1 ?_
    refine XS.aloadN X4.here hx rfl (hb hby D19_20) rfl rfl ?_
    refine XS.iloadN X4.here hx rfl (hb hby D19_21) rfl ?_
    refine XS.iloadN X4.here hx rfl (hb hby D19_22) rfl ?_
    exact st9 _ kk
  have lo_fb : n0 ≤ fb := Nat.le_trans fc10 gf
  have hi_fb : h0.size ≤ fb := Nat.le_trans (((Keep.refl h0 []).ext E1).trans K4 (allS (Or.inr hi_fb1) all0)).1 gf
  have ne_ca_fb : ca ≠ fb := Nat.ne_of_lt (Nat.lt_of_lt_of_le fc7.lt gf)
  have pre12 : ∀ t, Steps p.tables e below (T9.setTop (mkF m 32 #[.val (.ref ca), .val (.int 0), .val (.int 4), .val (.ref fb1), .val (.int jj), .val (.ref fb)] [(.int jj), (.ref fb)])) t → Steps p.tables e below (s₁.setTop (entryFrame m #[(.ref ca), (.int 0), (.int 4)] 6)) t := by
    intro t kk
    refine pre11 t ?_
    refine XS.astore X9.here hx rfl (hb hby D19_26) rfl rfl (l' := #[.val (.ref ca), .val (.int 0), .val (.int 4), .val (.ref fb1), .val (.int jj), .val (.ref fb)]) rfl ?_
    refine XS.aload X9.here hx rfl (hb hby D19_28) rfl rfl ?_
    refine XS.iload X9.here hx rfl (hb hby D19_30) rfl ?_
    exact kk
  have fc13 := (fc8.keep K9 all0)
  have fc14 := ((((Keep.refl h0 []).ext E1).trans K4 (allS (Or.inr hi_fb1) all0)).trans K9 all0)
  have fc15 := (Nat.le_trans fc10 K9.1)
  rcases hj with ⟨rfl, hj⟩ | ⟨rfl, hj⟩ | ⟨rfl, hj⟩ | ⟨rfl, hj⟩
  · skip
    obtain ⟨_, _, ⟨T16, L16, k16, n16⟩, -, X16, ⟨Lc16, hQ16, l16, y16, z16⟩, st16⟩ := Jvm.LawKit.callS X9 hx (y := (⟨"java/lang/StringUTF16", "getChar", "([BI)C"⟩ : MethodName)) hown (mvT hZ (gw hw 96 rfl)) (mvT hZ (gw hw 97 rfl)) (mvT hZ (gw hw 46 rfl)) (mvT hZ (gw hw 98 rfl)) (by decide) (backOf (W := 0) (own_gc l Z a0 hw [] fb kf [d0, d1, d2, d3] 0 T9.heap n0 fc15 Vf (Nat.le_of_ble_eq_true rfl) (Nat.le_of_ble_eq_true rfl) hd0 AD HB LB fc13) hZ (gw hw 98 rfl) (gw hw 46 rfl) (by decide) (by decide)) (g := (mkF m 32 #[.val (.ref ca), .val (.int 0), .val (.int 4), .val (.ref fb1), .val (.int 0), .val (.ref fb)] [(.int 0), (.ref fb)])) rfl (by rw [hml]; rfl) (argsL := [(.ref fb), (.int 0)]) (rest := []) (lenOf pd___BI_C rfl) rfl (by show 2 * 0 + _ ≤ _; exact Nat.le_of_eq rfl) (hb hby D19_32) (fun _ _ => ⟨rfl, rfl, (by decide : 2 + 0 ≤ _), (by decide : 12 + 0 ≤ _)⟩)
    dsimp only [Pt.U, Pt.locs, Pt.cells, Pt.slots] at X16 l16 y16 z16 st16 hQ16
    subst l16 y16 z16
    obtain ⟨rfl, N16q, e16q⟩ := hQ16
    have N16 := Fr.app N9 N16q
    have pre17 : ∀ t, Steps p.tables e below (T16.setTop (mkF m 35 #[.val (.ref ca), .val (.int 0), .val (.int 4), .val (.ref fb1), .val (.int 0), .val (.ref fb)] [(.int d0)])) t → Steps p.tables e below (s₁.setTop (entryFrame m #[(.ref ca), (.int 0), (.int 4)] 6)) t := by
      intro t kk
      refine pre12 t ?_
      exact st16 _ kk
    obtain ⟨fs, hr, hrun, hended, hW, hsame⟩ := X16.leave (v := some (.ref fb)) (fun h => by rw [Bd.returns] at h; cases h)
    refine ⟨_, _, pre17 _ ?_, hrun, hended, _, _, rfl, ?_, ⟨_, rfl⟩, hW, hsame.mono (by decide) (by decide)⟩
    · refine XS.sipush X16.here hx rfl (hb hby D19_35) ?_
      refine XS.icmpYes X16.here hx rfl (pc0 := 38) (pc' := 54) rfl (hb hby D19_38) rfl (tlt hj).2.2.1 (by decide) (by decide) ?_
      refine XS.aload X16.here hx rfl (hb hby D19_54) rfl rfl ?_
      jvm_step X16.here [X16.here.top, hx, (hb hby D19_56), X16.method', Bd.returns, Value.isRef, FieldType.isReference]
      first | (intro acts; rw [hr _ acts rfl rfl rfl]) | rw [hr _ _ rfl rfl rfl]
      exact Steps.refl _
    · show Q_own_c34 Z ca kC d0 d1 d2 d3 h0 n0 _ T16.heap _
      rw [e16q]
      exact ⟨fb, kf, rfl, N16, fc14, hi_fb, Vf⟩
  · skip
    obtain ⟨_, _, ⟨T18, L18, k18, n18⟩, -, X18, ⟨Lc18, hQ18, l18, y18, z18⟩, st18⟩ := Jvm.LawKit.callS X9 hx (y := (⟨"java/lang/StringUTF16", "getChar", "([BI)C"⟩ : MethodName)) hown (mvT hZ (gw hw 96 rfl)) (mvT hZ (gw hw 97 rfl)) (mvT hZ (gw hw 46 rfl)) (mvT hZ (gw hw 98 rfl)) (by decide) (backOf (W := 0) (own_gc l Z a0 hw [] fb kf [d0, d1, d2, d3] 1 T9.heap n0 fc15 Vf (Nat.le_of_ble_eq_true rfl) (Nat.le_of_ble_eq_true rfl) hd1 AD HB LB fc13) hZ (gw hw 98 rfl) (gw hw 46 rfl) (by decide) (by decide)) (g := (mkF m 32 #[.val (.ref ca), .val (.int 0), .val (.int 4), .val (.ref fb1), .val (.int 1), .val (.ref fb)] [(.int 1), (.ref fb)])) rfl (by rw [hml]; rfl) (argsL := [(.ref fb), (.int 1)]) (rest := []) (lenOf pd___BI_C rfl) rfl (by show 2 * 0 + _ ≤ _; exact Nat.le_of_eq rfl) (hb hby D19_32) (fun _ _ => ⟨rfl, rfl, (by decide : 2 + 0 ≤ _), (by decide : 12 + 0 ≤ _)⟩)
    dsimp only [Pt.U, Pt.locs, Pt.cells, Pt.slots] at X18 l18 y18 z18 st18 hQ18
    subst l18 y18 z18
    obtain ⟨rfl, N18q, e18q⟩ := hQ18
    have N18 := Fr.app N9 N18q
    have pre19 : ∀ t, Steps p.tables e below (T18.setTop (mkF m 35 #[.val (.ref ca), .val (.int 0), .val (.int 4), .val (.ref fb1), .val (.int 1), .val (.ref fb)] [(.int d1)])) t → Steps p.tables e below (s₁.setTop (entryFrame m #[(.ref ca), (.int 0), (.int 4)] 6)) t := by
      intro t kk
      refine pre12 t ?_
      exact st18 _ kk
    obtain ⟨fs, hr, hrun, hended, hW, hsame⟩ := X18.leave (v := some (.ref fb)) (fun h => by rw [Bd.returns] at h; cases h)
    refine ⟨_, _, pre19 _ ?_, hrun, hended, _, _, rfl, ?_, ⟨_, rfl⟩, hW, hsame.mono (by decide) (by decide)⟩
    · refine XS.sipush X18.here hx rfl (hb hby D19_35) ?_
      refine XS.icmpYes X18.here hx rfl (pc0 := 38) (pc' := 54) rfl (hb hby D19_38) rfl (tlt hj).2.2.1 (by decide) (by decide) ?_
      refine XS.aload X18.here hx rfl (hb hby D19_54) rfl rfl ?_
      jvm_step X18.here [X18.here.top, hx, (hb hby D19_56), X18.method', Bd.returns, Value.isRef, FieldType.isReference]
      first | (intro acts; rw [hr _ acts rfl rfl rfl]) | rw [hr _ _ rfl rfl rfl]
      exact Steps.refl _
    · show Q_own_c34 Z ca kC d0 d1 d2 d3 h0 n0 _ T18.heap _
      rw [e18q]
      exact ⟨fb, kf, rfl, N18, fc14, hi_fb, Vf⟩
  · skip
    obtain ⟨_, _, ⟨T20, L20, k20, n20⟩, -, X20, ⟨Lc20, hQ20, l20, y20, z20⟩, st20⟩ := Jvm.LawKit.callS X9 hx (y := (⟨"java/lang/StringUTF16", "getChar", "([BI)C"⟩ : MethodName)) hown (mvT hZ (gw hw 96 rfl)) (mvT hZ (gw hw 97 rfl)) (mvT hZ (gw hw 46 rfl)) (mvT hZ (gw hw 98 rfl)) (by decide) (backOf (W := 0) (own_gc l Z a0 hw [] fb kf [d0, d1, d2, d3] 2 T9.heap n0 fc15 Vf (Nat.le_of_ble_eq_true rfl) (Nat.le_of_ble_eq_true rfl) hd2 AD HB LB fc13) hZ (gw hw 98 rfl) (gw hw 46 rfl) (by decide) (by decide)) (g := (mkF m 32 #[.val (.ref ca), .val (.int 0), .val (.int 4), .val (.ref fb1), .val (.int 2), .val (.ref fb)] [(.int 2), (.ref fb)])) rfl (by rw [hml]; rfl) (argsL := [(.ref fb), (.int 2)]) (rest := []) (lenOf pd___BI_C rfl) rfl (by show 2 * 0 + _ ≤ _; exact Nat.le_of_eq rfl) (hb hby D19_32) (fun _ _ => ⟨rfl, rfl, (by decide : 2 + 0 ≤ _), (by decide : 12 + 0 ≤ _)⟩)
    dsimp only [Pt.U, Pt.locs, Pt.cells, Pt.slots] at X20 l20 y20 z20 st20 hQ20
    subst l20 y20 z20
    obtain ⟨rfl, N20q, e20q⟩ := hQ20
    have N20 := Fr.app N9 N20q
    have pre21 : ∀ t, Steps p.tables e below (T20.setTop (mkF m 35 #[.val (.ref ca), .val (.int 0), .val (.int 4), .val (.ref fb1), .val (.int 2), .val (.ref fb)] [(.int d2)])) t → Steps p.tables e below (s₁.setTop (entryFrame m #[(.ref ca), (.int 0), (.int 4)] 6)) t := by
      intro t kk
      refine pre12 t ?_
      exact st20 _ kk
    obtain ⟨fs, hr, hrun, hended, hW, hsame⟩ := X20.leave (v := some (.ref fb)) (fun h => by rw [Bd.returns] at h; cases h)
    refine ⟨_, _, pre21 _ ?_, hrun, hended, _, _, rfl, ?_, ⟨_, rfl⟩, hW, hsame.mono (by decide) (by decide)⟩
    · refine XS.sipush X20.here hx rfl (hb hby D19_35) ?_
      refine XS.icmpYes X20.here hx rfl (pc0 := 38) (pc' := 54) rfl (hb hby D19_38) rfl (tlt hj).2.2.1 (by decide) (by decide) ?_
      refine XS.aload X20.here hx rfl (hb hby D19_54) rfl rfl ?_
      jvm_step X20.here [X20.here.top, hx, (hb hby D19_56), X20.method', Bd.returns, Value.isRef, FieldType.isReference]
      first | (intro acts; rw [hr _ acts rfl rfl rfl]) | rw [hr _ _ rfl rfl rfl]
      exact Steps.refl _
    · show Q_own_c34 Z ca kC d0 d1 d2 d3 h0 n0 _ T20.heap _
      rw [e20q]
      exact ⟨fb, kf, rfl, N20, fc14, hi_fb, Vf⟩
  · skip
    obtain ⟨_, _, ⟨T22, L22, k22, n22⟩, -, X22, ⟨Lc22, hQ22, l22, y22, z22⟩, st22⟩ := Jvm.LawKit.callS X9 hx (y := (⟨"java/lang/StringUTF16", "getChar", "([BI)C"⟩ : MethodName)) hown (mvT hZ (gw hw 96 rfl)) (mvT hZ (gw hw 97 rfl)) (mvT hZ (gw hw 46 rfl)) (mvT hZ (gw hw 98 rfl)) (by decide) (backOf (W := 0) (own_gc l Z a0 hw [] fb kf [d0, d1, d2, d3] 3 T9.heap n0 fc15 Vf (Nat.le_of_ble_eq_true rfl) (Nat.le_of_ble_eq_true rfl) hd3 AD HB LB fc13) hZ (gw hw 98 rfl) (gw hw 46 rfl) (by decide) (by decide)) (g := (mkF m 32 #[.val (.ref ca), .val (.int 0), .val (.int 4), .val (.ref fb1), .val (.int 3), .val (.ref fb)] [(.int 3), (.ref fb)])) rfl (by rw [hml]; rfl) (argsL := [(.ref fb), (.int 3)]) (rest := []) (lenOf pd___BI_C rfl) rfl (by show 2 * 0 + _ ≤ _; exact Nat.le_of_eq rfl) (hb hby D19_32) (fun _ _ => ⟨rfl, rfl, (by decide : 2 + 0 ≤ _), (by decide : 12 + 0 ≤ _)⟩)
    dsimp only [Pt.U, Pt.locs, Pt.cells, Pt.slots] at X22 l22 y22 z22 st22 hQ22
    subst l22 y22 z22
    obtain ⟨rfl, N22q, e22q⟩ := hQ22
    have N22 := Fr.app N9 N22q
    have pre23 : ∀ t, Steps p.tables e below (T22.setTop (mkF m 35 #[.val (.ref ca), .val (.int 0), .val (.int 4), .val (.ref fb1), .val (.int 3), .val (.ref fb)] [(.int d3)])) t → Steps p.tables e below (s₁.setTop (entryFrame m #[(.ref ca), (.int 0), (.int 4)] 6)) t := by
      intro t kk
      refine pre12 t ?_
      exact st22 _ kk
    obtain ⟨fs, hr, hrun, hended, hW, hsame⟩ := X22.leave (v := some (.ref fb)) (fun h => by rw [Bd.returns] at h; cases h)
    refine ⟨_, _, pre23 _ ?_, hrun, hended, _, _, rfl, ?_, ⟨_, rfl⟩, hW, hsame.mono (by decide) (by decide)⟩
    · refine XS.sipush X22.here hx rfl (hb hby D19_35) ?_
      refine XS.icmpYes X22.here hx rfl (pc0 := 38) (pc' := 54) rfl (hb hby D19_38) rfl (tlt hj).2.2.1 (by decide) (by decide) ?_
      refine XS.aload X22.here hx rfl (hb hby D19_54) rfl rfl ?_
      jvm_step X22.here [X22.here.top, hx, (hb hby D19_56), X22.method', Bd.returns, Value.isRef, FieldType.isReference]
      first | (intro acts; rw [hr _ acts rfl rfl rfl]) | rw [hr _ _ rfl rfl rfl]
      exact Steps.refl _
    · show Q_own_c34 Z ca kC d0 d1 d2 d3 h0 n0 _ T22.heap _
      rw [e22q]
      exact ⟨fb, kf, rfl, N22, fc14, hi_fb, Vf⟩
theorem ef_own_cf4 (m : MethodId) {sb : Addr} : entryFrame m #[(.ref sb), (.int 4)] 2 = mkF m 0 #[.val (.ref sb), .val (.int 4)] [] := by first | (simp [entryFrame, mkF, argsToLocals, Value.category]; done) | rfl
def Q_own_cf4 (Z : State) (sb : Addr) (kS : ClassId) (us : List Value) (h0 : Heap) (n0 : Nat) (v : Option Value) (h : Heap) (L : List Loc) : Prop := v = some (.int 1) ∧ Fr n0 L ∧ h = h0
set_option maxRecDepth 65536 in
set_option maxHeartbeats 40000000 in
theorem own_cf4 (l : Launch) (Z : State) (a0 : Array Value) (hw : ∀ d ∈ tables_1, d.before a0 Z = true) (ws : List Jvm.Cond) (sb : Addr) (kS : ClassId) (us : List Value) (h0 : Heap) (n0 : Nat) (Z0 : n0 ≤ h0.size) (KS : Arv Z h0 sb kS .byte (8 : Int32) us (.int 0)) :
    MetFree l (⟨"java/lang/StringUTF16", "coderFromArrayLen", "([BI)B"⟩ : MethodName) (head1 (Jvm.Cond.code (⟨"java/lang/StringUTF16", "coderFromArrayLen", "([BI)B"⟩ : MethodName) jdk_52_method_15_code 2 (some .byte) :: ws) ({ frames := 0, cells := 0, slots := 0, locals := 0 } : Room)) (fun a U => a = #[(.ref sb), (.int 4)] ∧ Z.Warmed39 U.vm ∧ U.heap = h0) (fun _ _ _ _ _ => True) (fun _ U o U' => ∃ v L, o = .returned v ∧ Q_own_cf4 Z sb kS us h0 n0 v U'.heap L ∧ FrameEnd U o U' L ({ frames := 0, cells := 0, slots := 0, locals := 0 } : Room).cells ({ frames := 0, cells := 0, slots := 0, locals := 0 } : Room).slots) := by
  refine MetFree.of_bodySF (plainFor_of_name pn_java_lang_StringUTF16) hisR ?_
  intro p e s m args below meth c s₁ Bd hml0 hP hK
  obtain ⟨rfl, hZ, hh⟩ := hP
  have hx := Bd.exec
  have hby := Bd.bytes
  have hml : c.maxLocals = 2 := hml0
  have hown : s.vm.findClass "java/lang/StringUTF16" = some m.cls := findClass_of_methodNamed Bd.named
  have hnm := (name_of_methodNamed Bd.named Bd.method).1
  have X0 : Stand p l e ({ frames := 0, cells := 0, slots := 0, locals := 0 } : Room) s m #[(.ref sb), (.int 4)] below meth c s₁ [] 0 0 := Stand.of_body Bd
  have e0 : s₁.heap = h0 := by rw [← hh, Bd.state]; rfl
  have N0 := Fr.nil n0
  have pre0 : ∀ t, Steps p.tables e below (s₁.setTop (mkF m 0 #[.val (.ref sb), .val (.int 4)] [])) t → Steps p.tables e below (s₁.setTop (entryFrame m #[(.ref sb), (.int 4)] 2)) t := fun t k => castTop (ef_own_cf4 m) k
  obtain ⟨cl1, Ar1, q1, S1, M1, H1, Gv1⟩ := id KS
  have pre2 : ∀ t, Steps p.tables e below (s₁.setTop (mkF m 8 #[.val (.ref sb), .val (.int 4)] [(.int (((((4 : Int32) - (8 : Int32)).toUInt32 >>> ((31 : Int32) &&& 31).toUInt32).toInt32).toInt8.toInt32))])) t → Steps p.tables e below (s₁.setTop (entryFrame m #[(.ref sb), (.int 4)] 2)) t := by
    intro t kk
    refine pre0 t ?_
    refine XS.iloadN X0.here hx rfl (hb hby D20_0) rfl ?_
    refine XS.aloadN X0.here hx rfl (hb hby D20_1) rfl rfl ?_
    refine X0.arraylength hx (by rw [e0]; exact Ar1.1) (State.isArrayOf_alike hZ.alike Ar1.2.1) (g := (mkF m 2 #[.val (.ref sb), .val (.int 4)] [(.ref sb), (.int 4)])) rfl rfl (hb hby D20_2) _ ?_
    rw [len_of S1 M1]
    refine XS.isub X0.here hx rfl (hb hby D20_3) rfl ?_
    refine XS.bipush X0.here hx rfl (hb hby D20_4) ?_
    refine XS.iushr X0.here hx rfl (hb hby D20_6) rfl ?_
    refine XS.i2b X0.here hx rfl (hb hby D20_7) rfl ?_
    exact kk
  rw [(by decide : (((((4 : Int32) - (8 : Int32)).toUInt32 >>> ((31 : Int32) &&& 31).toUInt32).toInt32).toInt8.toInt32) = (1 : Int32))] at pre2
  obtain ⟨fs, hr, hrun, hended, hW, hsame⟩ := X0.leave (v := some (.int 1)) (fun h => by rw [Bd.returns] at h; cases h)
  refine ⟨_, _, pre2 _ ?_, hrun, hended, _, _, rfl, ?_, ⟨_, rfl⟩, hW, hsame.mono (by decide) (by decide)⟩
  · exact retN X0 hx (t := .byte) Bd.returns (by simp) (hb hby D20_8) hr
  · show Q_own_cf4 Z sb kS us h0 n0 _ s₁.heap _
    rw [e0]
    exact ⟨rfl, N0, rfl⟩
theorem ef_own_i44 (m : MethodId) {a1 : Addr} {ca : Addr} : entryFrame m #[(.ref a1), (.ref ca), (.int 0), (.int 4), .null] 6 = mkF m 0 #[.val (.ref a1), .val (.ref ca), .val (.int 0), .val (.int 4), .val .null, .unset] [] := by first | (simp [entryFrame, mkF, argsToLocals, Value.category]; done) | rfl
def Q_own_i44 (Z : State) (a1 ca : Addr) (kC : ClassId) (d0 d1 d2 d3 : Int32) (G1 : Int32) (h0 : Heap) (n0 : Nat) (v : Option Value) (h : Heap) (L : List Loc) : Prop := v = none ∧ Fr n0 L ∧ Keep h0 h [a1] ∧ ∃ (b : Addr) (k : ClassId), h0.size ≤ b ∧ Fld Z h a1 "java/lang/String" "value" "[B" (.ref b) ∧ Fld Z h a1 "java/lang/String" "coder" "B" (.int 1) ∧ Arv Z h b k .byte (8 : Int32) [(.int (StrChars.lo8 d0)), (.int (StrChars.hi8 d0)), (.int (StrChars.lo8 d1)), (.int (StrChars.hi8 d1)), (.int (StrChars.lo8 d2)), (.int (StrChars.hi8 d2)), (.int (StrChars.lo8 d3)), (.int (StrChars.hi8 d3))] (.int 0)
set_option maxRecDepth 65536 in
set_option maxHeartbeats 40000000 in
theorem own_i44 (l : Launch) (Z : State) (a0 : Array Value) (hw : ∀ d ∈ tables_1, d.before a0 Z = true) (ws : List Jvm.Cond) (a1 ca : Addr) (kC : ClassId) (d0 d1 d2 d3 : Int32) (G1 : Int32) (h0 : Heap) (n0 : Nat) (Z0 : n0 ≤ h0.size) (O1 : Obj Z h0 a1 "java/lang/String") (g1 : n0 ≤ a1) (KC : Arv Z h0 ca kC .char (4 : Int32) [(.int d0), (.int d1), (.int d2), (.int d3)] (.int 0)) (hd0 : ¬ d0 < 0 ∧ ¬ (65535 : Int32) < d0) (hd1 : ¬ d1 < 0 ∧ ¬ (65535 : Int32) < d1) (hd2 : ¬ d2 < 0 ∧ ¬ (65535 : Int32) < d2) (hd3 : ¬ d3 < 0 ∧ ¬ (65535 : Int32) < d3) (hwd : (255 : Int32) < d0 ∨ (255 : Int32) < d1 ∨ (255 : Int32) < d2 ∨ (255 : Int32) < d3) (AD : Sta Z Z.heap "java/lang/StringUTF16" "$assertionsDisabled" "Z" (.int 1)) (HB : Sta Z Z.heap "java/lang/StringUTF16" "HI_BYTE_SHIFT" "I" (.int 0)) (LB : Sta Z Z.heap "java/lang/StringUTF16" "LO_BYTE_SHIFT" "I" (.int 8)) (O2 : Sta Z Z.heap "java/lang/String" "COMPACT_STRINGS" "Z" (.int G1)) (P5 : ¬ G1 = (0 : Int32)) (XO : Old Z n0 h0) :
    MetFree l (⟨"java/lang/String", "<init>", "([CIILjava/lang/Void;)V"⟩ : MethodName) (head1 (Jvm.Cond.code (⟨"java/lang/String", "<init>", "([CIILjava/lang/Void;)V"⟩ : MethodName) jdk_42_method_149_code 6 none :: ws) ({ frames := 4, cells := 2, slots := 12, locals := 57 } : Room)) (fun a U => a = #[(.ref a1), (.ref ca), (.int 0), (.int 4), .null] ∧ Z.Warmed39 U.vm ∧ U.heap = h0) (fun _ _ _ _ _ => True) (fun _ U o U' => ∃ v L, o = .returned v ∧ Q_own_i44 Z a1 ca kC d0 d1 d2 d3 G1 h0 n0 v U'.heap L ∧ FrameEnd U o U' L ({ frames := 4, cells := 2, slots := 12, locals := 57 } : Room).cells ({ frames := 4, cells := 2, slots := 12, locals := 57 } : Room).slots) := by
  refine MetFree.of_bodySF (plainFor_of_name pn_java_lang_String) hisR ?_
  intro p e s m args below meth c s₁ Bd hml0 hP hK
  obtain ⟨rfl, hZ, hh⟩ := hP
  have hx := Bd.exec
  have hby := Bd.bytes
  have hml : c.maxLocals = 6 := hml0
  have hown : s.vm.findClass "java/lang/String" = some m.cls := findClass_of_methodNamed Bd.named
  have hnm := (name_of_methodNamed Bd.named Bd.method).1
  have X0 : Stand p l e ({ frames := 4, cells := 2, slots := 12, locals := 57 } : Room) s m #[(.ref a1), (.ref ca), (.int 0), (.int 4), .null] below meth c s₁ [] 0 0 := Stand.of_body Bd
  have e0 : s₁.heap = h0 := by rw [← hh, Bd.state]; rfl
  have N0 := Fr.nil n0
  have pre0 : ∀ t, Steps p.tables e below (s₁.setTop (mkF m 0 #[.val (.ref a1), .val (.ref ca), .val (.int 0), .val (.int 4), .val .null, .unset] [])) t → Steps p.tables e below (s₁.setTop (entryFrame m #[(.ref a1), (.ref ca), (.int 0), (.int 4), .null] 6)) t := fun t k => castTop (ef_own_i44 m) k
  obtain ⟨T1, X1, e1, st1⟩ := initO X0 hx hZ hown (gw hw 13 rfl) (gw hw 14 rfl) (gw hw 15 rfl) e0 (g := (mkF m 1 #[.val (.ref a1), .val (.ref ca), .val (.int 0), .val (.int 4), .val .null, .unset] [(.ref a1)])) rfl (by rw [hml]; rfl) rfl (hb hby D21_1) (by decide) (W := 0) (by show 2 * 0 + _ ≤ _; exact Nat.le_of_eq rfl) (by decide)
  have pre2 : ∀ t, Steps p.tables e below (T1.setTop (mkF m 4 #[.val (.ref a1), .val (.ref ca), .val (.int 0), .val (.int 4), .val .null, .unset] [])) t → Steps p.tables e below (s₁.setTop (entryFrame m #[(.ref a1), (.ref ca), (.int 0), (.int 4), .null] 6)) t := by
    intro t kk
    refine pre0 t ?_
    refine XS.aloadN X0.here hx rfl (hb hby D21_0) rfl rfl ?_
    exact st1 _ kk
  have hbr3 : ¬ ((4 : Int32) = (0 : Int32)) := by decide
  obtain ⟨T4, X4, e4, st4⟩ := getS2 X1 hx hZ hown (host := "") (Or.inl (gw hw 43 rfl)) Via.refl e1 (O2.ext XO.2) (g := (mkF m 27 #[.val (.ref a1), .val (.ref ca), .val (.int 0), .val (.int 4), .val .null, .unset] [])) rfl (hb hby D21_27)
  have pre5 : ∀ t, Steps p.tables e below (T4.setTop (mkF m 30 #[.val (.ref a1), .val (.ref ca), .val (.int 0), .val (.int 4), .val .null, .unset] [(.int G1)])) t → Steps p.tables e below (s₁.setTop (entryFrame m #[(.ref a1), (.ref ca), (.int 0), (.int 4), .null] 6)) t := by
    intro t kk
    refine pre2 t ?_
    refine XS.iloadN X1.here hx rfl (hb hby D21_4) rfl ?_
    refine XS.ifYes X1.here hx rfl (pc0 := 5) (pc' := 27) rfl (hb hby D21_5) rfl ((if0 _ _).trans (feq hbr3).2) (by decide) (by decide) ?_
    exact st4 _ kk
  obtain ⟨_, _, ⟨T6, L6, k6, n6⟩, -, X6, ⟨Lc6, hQ6, l6, y6, z6⟩, st6⟩ := Jvm.LawKit.callS X4 hx (y := (⟨"java/lang/StringUTF16", "compress", "([CII)[B"⟩ : MethodName)) hown (mvT hZ (gw hw 44 rfl)) (mvT hZ (gw hw 45 rfl)) (mvT hZ (gw hw 46 rfl)) (mvT hZ (gw hw 47 rfl)) (by decide) (backOf (W := 0) (own_c34 l Z a0 hw [] ca kC d0 d1 d2 d3 h0 n0 Z0 KC hd0 hd1 hd2 hd3 hwd AD HB LB XO) hZ (gw hw 47 rfl) (gw hw 46 rfl) (by decide) (by decide)) (g := (mkF m 36 #[.val (.ref a1), .val (.ref ca), .val (.int 0), .val (.int 4), .val .null, .unset] [(.int 4), (.int 0), (.ref ca)])) rfl (by rw [hml]; rfl) (argsL := [(.ref ca), (.int 0), (.int 4)]) (rest := []) (lenOf pd___CII__B rfl) rfl (by show 2 * 0 + _ ≤ _; exact Nat.le_of_eq rfl) (hb hby D21_36) (fun _ _ => ⟨rfl, e4, (by decide : 0 + 2 ≤ _), (by decide : 0 + 12 ≤ _)⟩)
  dsimp only [Pt.U, Pt.locs, Pt.cells, Pt.slots] at X6 l6 y6 z6 st6 hQ6
  subst l6 y6 z6
  obtain ⟨fb, kf, rfl, N6q, K6, gf, Vf⟩ := hQ6
  have N6 := Fr.app N0 N6q
  have pre7 : ∀ t, Steps p.tables e below (T6.setTop (mkF m 39 #[.val (.ref a1), .val (.ref ca), .val (.int 0), .val (.int 4), .val .null, .unset] [(.ref fb)])) t → Steps p.tables e below (s₁.setTop (entryFrame m #[(.ref a1), (.ref ca), (.int 0), (.int 4), .null] 6)) t := by
    intro t kk
    refine pre5 t ?_
    refine XS.ifNo X4.here hx rfl (hb hby D21_30) rfl ((if0 _ _).trans (feq P5).1) ?_
    refine XS.aloadN X4.here hx rfl (hb hby D21_33) rfl rfl ?_
    refine XS.iloadN X4.here hx rfl (hb hby D21_34) rfl ?_
    refine XS.iloadN X4.here hx rfl (hb hby D21_35) rfl ?_
    exact st6 _ kk
  have lo_fb : n0 ≤ fb := Nat.le_trans Z0 gf
  have hi_fb : h0.size ≤ fb := Nat.le_trans (Keep.refl h0 [a1]).1 gf
  have ne_a1_fb : a1 ≠ fb := Nat.ne_of_lt (Nat.lt_of_lt_of_le O1.lt gf)
  have ne_ca_fb : ca ≠ fb := Nat.ne_of_lt (Nat.lt_of_lt_of_le KC.lt gf)
  have fc9 := (Nat.le_trans Z0 K6.1)
  obtain ⟨_, _, ⟨T8, L8, k8, n8⟩, -, X8, ⟨Lc8, hQ8, l8, y8, z8⟩, st8⟩ := Jvm.LawKit.callS X6 hx (y := (⟨"java/lang/StringUTF16", "coderFromArrayLen", "([BI)B"⟩ : MethodName)) hown (mvT hZ (gw hw 51 rfl)) (mvT hZ (gw hw 52 rfl)) (mvT hZ (gw hw 46 rfl)) (mvT hZ (gw hw 53 rfl)) (by decide) (backOf (W := 1) (own_cf4 l Z a0 hw [] fb kf _ T6.heap n0 fc9 Vf) hZ (gw hw 53 rfl) (gw hw 46 rfl) (by decide) (by decide)) (g := (mkF m 45 #[.val (.ref a1), .val (.ref ca), .val (.int 0), .val (.int 4), .val .null, .val (.ref fb)] [(.int 4), (.ref fb), (.ref a1)])) rfl (by rw [hml]; rfl) (argsL := [(.ref fb), (.int 4)]) (rest := [(.ref a1)]) (lenOf pd___BI_B rfl) rfl (by show 2 * 0 + _ ≤ _; exact Nat.le_of_eq rfl) (hb hby D21_45) (fun _ _ => ⟨rfl, rfl, (by decide : 2 + 0 ≤ _), (by decide : 12 + 0 ≤ _)⟩)
  dsimp only [Pt.U, Pt.locs, Pt.cells, Pt.slots] at X8 l8 y8 z8 st8 hQ8
  subst l8 y8 z8
  obtain ⟨rfl, N8q, e8q⟩ := hQ8
  have N8 := Fr.app N6 N8q
  have pre10 : ∀ t, Steps p.tables e below (T8.setTop (mkF m 48 #[.val (.ref a1), .val (.ref ca), .val (.int 0), .val (.int 4), .val .null, .val (.ref fb)] [(.int 1), (.ref a1)])) t → Steps p.tables e below (s₁.setTop (entryFrame m #[(.ref a1), (.ref ca), (.int 0), (.int 4), .null] 6)) t := by
    intro t kk
    refine pre7 t ?_
    refine XS.astore X6.here hx rfl (hb hby D21_39) rfl rfl (l' := #[.val (.ref a1), .val (.ref ca), .val (.int 0), .val (.int 4), .val .null, .val (.ref fb)]) rfl ?_
    refine XS.aloadN X6.here hx rfl (hb hby D21_41) rfl rfl ?_
    refine XS.aload X6.here hx rfl (hb hby D21_42) rfl rfl ?_
    refine XS.iloadN X6.here hx rfl (hb hby D21_44) rfl ?_
    exact st8 _ kk
  have fc11 := (O1.keep K6)
  obtain ⟨u12, U12⟩ := Obj.fld fc11 (Or.inr (gw hw 19 rfl)) (gw hw 4 rfl)
  obtain ⟨T12, h12, X12, e12, W12, st12⟩ := putF X8 hx hZ hown (host := "") (Or.inl (gw hw 23 rfl)) Via.refl e8q U12 fc11.exa (Or.inr ⟨(gw hw 19 rfl), rfl, hnm⟩) (gw hw 4 rfl) (ty := .byte) (by decide) rfl rfl (g := (mkF m 48 #[.val (.ref a1), .val (.ref ca), .val (.int 0), .val (.int 4), .val .null, .val (.ref fb)] [(.int 1), (.ref a1)])) rfl rfl (hb hby D21_48)
  have N12 := Fr.snoc X12 N8 g1
  have Fw12 := U12.same W12
  have pre13 : ∀ t, Steps p.tables e below (T12.setTop (mkF m 51 #[.val (.ref a1), .val (.ref ca), .val (.int 0), .val (.int 4), .val .null, .val (.ref fb)] [])) t → Steps p.tables e below (s₁.setTop (entryFrame m #[(.ref a1), (.ref ca), (.int 0), (.int 4), .null] 6)) t := by
    intro t kk
    refine pre10 t ?_
    exact st12 _ kk
  have fc14 := (fc11.wr W12)
  obtain ⟨u15, U15⟩ := Obj.fld fc14 (Or.inr (gw hw 18 rfl)) (gw hw 4 rfl)
  obtain ⟨T15, h15, X15, e15, W15, st15⟩ := putF X12 hx hZ hown (host := "") (Or.inl (gw hw 22 rfl)) Via.refl e12 U15 fc14.exa (Or.inr ⟨(gw hw 18 rfl), rfl, hnm⟩) (gw hw 4 rfl) (ty := (.array .byte)) (by decide) rfl rfl (g := (mkF m 54 #[.val (.ref a1), .val (.ref ca), .val (.int 0), .val (.int 4), .val .null, .val (.ref fb)] [(.ref fb), (.ref a1)])) rfl rfl (hb hby D21_54)
  have N15 := Fr.snoc X15 N12 g1
  have Fw15 := U15.same W15
  have pre16 : ∀ t, Steps p.tables e below (T15.setTop (mkF m 57 #[.val (.ref a1), .val (.ref ca), .val (.int 0), .val (.int 4), .val .null, .val (.ref fb)] [])) t → Steps p.tables e below (s₁.setTop (entryFrame m #[(.ref a1), (.ref ca), (.int 0), (.int 4), .null] 6)) t := by
    intro t kk
    refine pre13 t ?_
    refine XS.aloadN X12.here hx rfl (hb hby D21_51) rfl rfl ?_
    refine XS.aload X12.here hx rfl (hb hby D21_52) rfl rfl ?_
    exact st15 _ kk
  have fc17 := ((((Keep.refl h0 [a1]).trans K6 all0).wr W12 (Or.inl (List.mem_of_getElem? (i := 0) rfl))).wr W15 (Or.inl (List.mem_of_getElem? (i := 0) rfl)))
  have fc18 := (Fw12.other W15 (Or.inr (slot_ne (Or.inr (gw hw 19 rfl)) (Or.inr (gw hw 18 rfl)) (by decide) (t := .byte) (t' := (.array .byte)) (by decide) (by decide))))
  have fc19 := ((Vf.other W12 (Ne.symm ne_a1_fb)).other W15 (Ne.symm ne_a1_fb))
  obtain ⟨fs, hr, hrun, hended, hW, hsame⟩ := X15.leave (v := none) (fun _ => rfl)
  refine ⟨_, _, pre16 _ ?_, hrun, hended, _, _, rfl, ?_, ⟨_, rfl⟩, hW, hsame.mono (by decide) (by decide)⟩
  · exact X15.returnOut hx Bd.returns (hb hby D21_57) hr
  · show Q_own_i44 Z a1 ca kC d0 d1 d2 d3 G1 h0 n0 _ T15.heap _
    rw [e15]
    exact ⟨rfl, N15, fc17, fb, kf, hi_fb, Fw15, fc18, fc19⟩
theorem ef_own_i14 (m : MethodId) {a1 : Addr} {ca : Addr} : entryFrame m #[(.ref a1), (.ref ca)] 2 = mkF m 0 #[.val (.ref a1), .val (.ref ca)] [] := by first | (simp [entryFrame, mkF, argsToLocals, Value.category]; done) | rfl
def Q_own_i14 (Z : State) (a1 ca : Addr) (kC : ClassId) (d0 d1 d2 d3 : Int32) (G1 : Int32) (h0 : Heap) (n0 : Nat) (v : Option Value) (h : Heap) (L : List Loc) : Prop := v = none ∧ Fr n0 L ∧ Keep h0 h [a1] ∧ ∃ (b : Addr) (k : ClassId), h0.size ≤ b ∧ Fld Z h a1 "java/lang/String" "value" "[B" (.ref b) ∧ Fld Z h a1 "java/lang/String" "coder" "B" (.int 1) ∧ Arv Z h b k .byte (8 : Int32) [(.int (StrChars.lo8 d0)), (.int (StrChars.hi8 d0)), (.int (StrChars.lo8 d1)), (.int (StrChars.hi8 d1)), (.int (StrChars.lo8 d2)), (.int (StrChars.hi8 d2)), (.int (StrChars.lo8 d3)), (.int (StrChars.hi8 d3))] (.int 0)
set_option maxRecDepth 65536 in
set_option maxHeartbeats 40000000 in
theorem own_i14 (l : Launch) (Z : State) (a0 : Array Value) (hw : ∀ d ∈ tables_1, d.before a0 Z = true) (ws : List Jvm.Cond) (a1 ca : Addr) (kC : ClassId) (d0 d1 d2 d3 : Int32) (G1 : Int32) (h0 : Heap) (n0 : Nat) (Z0 : n0 ≤ h0.size) (O1 : Obj Z h0 a1 "java/lang/String") (g1 : n0 ≤ a1) (KC : Arv Z h0 ca kC .char (4 : Int32) [(.int d0), (.int d1), (.int d2), (.int d3)] (.int 0)) (hd0 : ¬ d0 < 0 ∧ ¬ (65535 : Int32) < d0) (hd1 : ¬ d1 < 0 ∧ ¬ (65535 : Int32) < d1) (hd2 : ¬ d2 < 0 ∧ ¬ (65535 : Int32) < d2) (hd3 : ¬ d3 < 0 ∧ ¬ (65535 : Int32) < d3) (hwd : (255 : Int32) < d0 ∨ (255 : Int32) < d1 ∨ (255 : Int32) < d2 ∨ (255 : Int32) < d3) (AD : Sta Z Z.heap "java/lang/StringUTF16" "$assertionsDisabled" "Z" (.int 1)) (HB : Sta Z Z.heap "java/lang/StringUTF16" "HI_BYTE_SHIFT" "I" (.int 0)) (LB : Sta Z Z.heap "java/lang/StringUTF16" "LO_BYTE_SHIFT" "I" (.int 8)) (O2 : Sta Z Z.heap "java/lang/String" "COMPACT_STRINGS" "Z" (.int G1)) (P5 : ¬ G1 = (0 : Int32)) (XO : Old Z n0 h0) :
    MetFree l (⟨"java/lang/String", "<init>", "([C)V"⟩ : MethodName) (head1 (Jvm.Cond.code (⟨"java/lang/String", "<init>", "([C)V"⟩ : MethodName) jdk_42_method_3_code 2 none :: ws) ({ frames := 5, cells := 2, slots := 12, locals := 74 } : Room)) (fun a U => a = #[(.ref a1), (.ref ca)] ∧ Z.Warmed39 U.vm ∧ U.heap = h0) (fun _ _ _ _ _ => True) (fun _ U o U' => ∃ v L, o = .returned v ∧ Q_own_i14 Z a1 ca kC d0 d1 d2 d3 G1 h0 n0 v U'.heap L ∧ FrameEnd U o U' L ({ frames := 5, cells := 2, slots := 12, locals := 74 } : Room).cells ({ frames := 5, cells := 2, slots := 12, locals := 74 } : Room).slots) := by
  refine MetFree.of_bodySF (plainFor_of_name pn_java_lang_String) hisR ?_
  intro p e s m args below meth c s₁ Bd hml0 hP hK
  obtain ⟨rfl, hZ, hh⟩ := hP
  have hx := Bd.exec
  have hby := Bd.bytes
  have hml : c.maxLocals = 2 := hml0
  have hown : s.vm.findClass "java/lang/String" = some m.cls := findClass_of_methodNamed Bd.named
  have hnm := (name_of_methodNamed Bd.named Bd.method).1
  have X0 : Stand p l e ({ frames := 5, cells := 2, slots := 12, locals := 74 } : Room) s m #[(.ref a1), (.ref ca)] below meth c s₁ [] 0 0 := Stand.of_body Bd
  have e0 : s₁.heap = h0 := by rw [← hh, Bd.state]; rfl
  have N0 := Fr.nil n0
  have pre0 : ∀ t, Steps p.tables e below (s₁.setTop (mkF m 0 #[.val (.ref a1), .val (.ref ca)] [])) t → Steps p.tables e below (s₁.setTop (entryFrame m #[(.ref a1), (.ref ca)] 2)) t := fun t k => castTop (ef_own_i14 m) k
  obtain ⟨cl1, Ar1, q1, S1, M1, H1, Gv1⟩ := id KC
  obtain ⟨_, _, ⟨T2, L2, k2, n2⟩, -, X2, ⟨Lc2, hQ2, l2, y2, z2⟩, st2⟩ := X0.specialBack hx (y := (⟨"java/lang/String", "<init>", "([CIILjava/lang/Void;)V"⟩ : MethodName)) rfl hown (mvT hZ (gw hw 9 rfl)) (mvT hZ (gw hw 10 rfl)) (mvT hZ (gw hw 12 rfl)) (by decide) (backOf (W := 0) (own_i44 l Z a0 hw [] a1 ca kC d0 d1 d2 d3 G1 h0 n0 Z0 O1 g1 KC hd0 hd1 hd2 hd3 hwd AD HB LB O2 P5 XO) hZ (gw hw 12 rfl) (gw hw 5 rfl) (by decide) (by decide)) (g := (mkF m 6 #[.val (.ref a1), .val (.ref ca)] [.null, (.int 4), (.int 0), (.ref ca), (.ref a1)])) rfl (by rw [hml]; rfl) (Steps.refl _) (a := a1) (argsL := [(.ref ca), (.int 0), (.int 4), .null]) (rest := []) (lenOf pd___CIILjava_lang_Void__V rfl) rfl (by show 2 * 0 + _ ≤ _; exact Nat.le_of_eq rfl) (hb hby D22_6) (fun _ _ => ⟨rfl, e0, (by decide : 0 + 2 ≤ _), (by decide : 0 + 12 ≤ _)⟩)
  dsimp only [Pt.U, Pt.locs, Pt.cells, Pt.slots] at X2 l2 y2 z2 st2 hQ2
  subst l2 y2 z2
  obtain ⟨rfl, N2q, K2, bq, kq, z1, z2, z3, z4⟩ := hQ2
  have N2 := Fr.app N0 N2q
  have pre3 : ∀ t, Steps p.tables e below (T2.setTop (mkF m 9 #[.val (.ref a1), .val (.ref ca)] [])) t → Steps p.tables e below (s₁.setTop (entryFrame m #[(.ref a1), (.ref ca)] 2)) t := by
    intro t kk
    refine pre0 t ?_
    refine XS.aloadN X0.here hx rfl (hb hby D22_0) rfl rfl ?_
    refine XS.aloadN X0.here hx rfl (hb hby D22_1) rfl rfl ?_
    refine XS.iconst X0.here hx rfl (hb hby D22_2) ?_
    refine XS.aloadN X0.here hx rfl (hb hby D22_3) rfl rfl ?_
    refine X0.arraylength hx (by rw [e0]; exact Ar1.1) (State.isArrayOf_alike hZ.alike Ar1.2.1) (g := (mkF m 4 #[.val (.ref a1), .val (.ref ca)] [(.ref ca), (.int 0), (.ref ca), (.ref a1)])) rfl rfl (hb hby D22_4) _ ?_
    rw [len_of S1 M1]
    refine XS.aconstNull X0.here hx rfl (hb hby D22_5) ?_
    exact st2.trans kk
  have fc4 := ((Keep.refl h0 [a1]).trans K2 (allS (Or.inl (List.mem_of_getElem? (i := 0) rfl)) all0))
  obtain ⟨fs, hr, hrun, hended, hW, hsame⟩ := X2.leave (v := none) (fun _ => rfl)
  refine ⟨_, _, pre3 _ ?_, hrun, hended, _, _, rfl, ?_, ⟨_, rfl⟩, hW, hsame.mono (by decide) (by decide)⟩
  · exact X2.returnOut hx Bd.returns (hb hby D22_9) hr
  · show Q_own_i14 Z a1 ca kC d0 d1 d2 d3 G1 h0 n0 _ T2.heap _
    exact ⟨rfl, N2, fc4, bq, kq, z1, z2, z3, z4⟩
theorem own_c8 (x : Int32) : ¬ (x &&& (255 : Int32)).toUInt32.toUInt16.toUInt32.toInt32 < 0 ∧ ¬ (255 : Int32) < (x &&& (255 : Int32)).toUInt32.toUInt16.toUInt32.toInt32 := by
  have h1 := c_and x 255 (by decide)
  have h2 := c_i2c (x &&& 255)
  have h3 : (255 : Int32).toInt = 255 := by decide
  have h4 : (0 : Int32).toInt = 0 := by decide
  rw [Int32.lt_iff_toInt_lt, Int32.lt_iff_toInt_lt]
  omega
theorem own_n8 (x : Int32) : ¬ nar .char ((x &&& (255 : Int32)).toUInt32.toUInt16.toUInt32.toInt32) < 0 ∧ ¬ (255 : Int32) < nar .char ((x &&& (255 : Int32)).toUInt32.toUInt16.toUInt32.toInt32) := by
  have e : nar .char ((x &&& (255 : Int32)).toUInt32.toUInt16.toUInt32.toInt32) = (x &&& (255 : Int32)).toUInt32.toUInt16.toUInt32.toInt32 := by simp only [nar, UInt32.toUInt32_toInt32, UInt16.toUInt16_toUInt32]
  rw [e]; exact own_c8 x
def own_Lt (cs : List Int32) : Prop := ∀ c ∈ cs, ¬ c < 0 ∧ ¬ (255 : Int32) < c
theorem own_p0 : own_Lt [] := fun c hc => by cases hc
theorem own_pc {a : Int32} {cs : List Int32} (ha : ¬ a < 0 ∧ ¬ (255 : Int32) < a) (h : own_Lt cs) : own_Lt (a :: cs) := by
  intro c hc
  rcases List.mem_cons.mp hc with rfl | hc
  · exact ha
  · exact h c hc
theorem own_papp {a b : List Int32} (ha : own_Lt a) (hb : own_Lt b) : own_Lt (a ++ b) := by
  intro c hc
  rcases List.mem_append.mp hc with h | h
  · exact ha c h
  · exact hb c h
theorem own_up {cs : List Int32} (h : own_Lt cs) : ∀ c ∈ cs, ¬ c < 0 ∧ ¬ (65535 : Int32) < c := fun c hc => ⟨(h c hc).1, fun q => (h c hc).2 (by rw [Int32.lt_iff_toInt_lt] at q ⊢; have e1 : (65535 : Int32).toInt = 65535 := rfl; have e2 : (255 : Int32).toInt = 255 := rfl; omega)⟩
theorem own_safeNull {Z : State} {EL : List (String × Nat)} {vm : Vm} {h : Heap} {a : Addr} (hal : Z.vm.Alike vm) (E : Exa Z h a "java/lang/String") (F : Fld Z h a "java/lang/String" "value" "[B" .null) : Safe Z EL vm h a := fun B => by
  obtain ⟨p, -, u, a', -, q, -, S, rfl | rfl⟩ := B
  · obtain ⟨cell, cf, k, i, f, g1, g2, -, -, -, -, g7⟩ := F
    cases (show h[q.sa]? = some q.sC from S.ha).symm.trans g1
    obtain ⟨cS, ⟨⟨-, -, -, ⟨c1, k1, i1, f1, -⟩, -, -, -, v1, -⟩, -⟩, -⟩ := S
    obtain ⟨k3, e3, -⟩ := State.fieldFound?_setVm (s := { Z with heap := h }) hal (show ({ Z with heap := h } : State).fieldFound? _ _ _ = _ from g2)
    have e4 := (show (Wst Z vm h).fieldFound? _ _ _ = _ from e3).symm.trans f1
    simp only [Option.some.injEq, Prod.mk.injEq] at e4
    rw [← e4.2.2.2, g7] at v1
    cases v1
  · obtain ⟨cell, k, e1, e2, e3, -, -⟩ := E
    cases (show h[q.sd]? = some q.SA from S.hd).symm.trans e1
    obtain ⟨cS, -, -, f, -⟩ := S
    have f' : Z.vm.findClass "[B" = some q.SA.cls := by rw [← hal.findClass]; exact f
    obtain ⟨k1, q1, q2⟩ := Vm.findClass_spec f'
    obtain ⟨k2, q3, q4⟩ := Vm.findClass_spec e2
    cases q1.symm.trans q3
    exact absurd (q2.symm.trans q4) (by decide)
theorem D21_8 : decode jdk_42_method_149_code 8 = .ok (.aload_n 0, 1) := by decide +kernel
theorem D21_9 : decode jdk_42_method_149_code 9 = .ok (.ldc 7, 2) := by decide +kernel
theorem D21_11 : decode jdk_42_method_149_code 11 = .ok (.getfield 9, 3) := by decide +kernel
theorem D21_14 : decode jdk_42_method_149_code 14 = .ok (.putfield 9, 3) := by decide +kernel
theorem D21_17 : decode jdk_42_method_149_code 17 = .ok (.aload_n 0, 1) := by decide +kernel
theorem D21_18 : decode jdk_42_method_149_code 18 = .ok (.ldc 7, 2) := by decide +kernel
theorem D21_20 : decode jdk_42_method_149_code 20 = .ok (.getfield 15, 3) := by decide +kernel
theorem D21_23 : decode jdk_42_method_149_code 23 = .ok (.putfield 15, 3) := by decide +kernel
theorem D21_26 : decode jdk_42_method_149_code 26 = .ok (.return_, 1) := by decide +kernel
theorem ef_own_sc0v (m : MethodId) {a1 : Addr} {ca : Addr} : entryFrame m #[(.ref a1), (.ref ca), (.int 0), (.int 0), .null] 6 = mkF m 0 #[.val (.ref a1), .val (.ref ca), .val (.int 0), .val (.int 0), .val .null, .unset] [] := by first | (simp [entryFrame, mkF, argsToLocals, Value.category]; done) | rfl
def Q_own_sc0v (Z : State) (a1 ca : Addr) (h0 : Heap) (n0 : Nat) (v : Option Value) (h : Heap) (L : List Loc) : Prop := ∃ (bb : Addr) (k : ClassId), v = none ∧ Fr n0 L ∧ Keep h0 h [a1] ∧ Fld Z h a1 "java/lang/String" "value" "[B" (.ref bb) ∧ Fld Z h a1 "java/lang/String" "coder" "B" (.int 0) ∧ Arv Z h bb k .byte (0 : Int32) [] (.int 0) ∧ a1 ≠ bb
set_option maxRecDepth 65536 in
set_option maxHeartbeats 40000000 in
theorem own_sc0v (l : Launch) (Z : State) (a0 : Array Value) (hw : ∀ d ∈ tables_1, d.before a0 Z = true) (ws : List Jvm.Cond) (a1 ca : Addr) (h0 : Heap) (n0 : Nat) (Z0 : n0 ≤ h0.size) (O1 : Obj Z h0 a1 "java/lang/String") (g1 : n0 ≤ a1) (FV : Fld Z h0 a1 "java/lang/String" "value" "[B" .null) :
    MetFree l (⟨"java/lang/String", "<init>", "([CIILjava/lang/Void;)V"⟩ : MethodName) (head1 (Jvm.Cond.code (⟨"java/lang/String", "<init>", "([CIILjava/lang/Void;)V"⟩ : MethodName) jdk_42_method_149_code 6 none :: ws) ({ frames := 1, cells := 4, slots := 8, locals := 12 } : Room)) (fun a U => a = #[(.ref a1), (.ref ca), (.int 0), (.int 0), .null] ∧ Z.Warmed39 U.vm ∧ U.heap = h0 ∧ CHv Z own_EL U.vm h0) (fun _ _ _ _ _ => True) (fun _ U o U' => ∃ v L, o = .returned v ∧ Q_own_sc0v Z a1 ca h0 n0 v U'.heap L ∧ CHr Z own_EL U.vm U.heap U'.vm U'.heap ∧ ReturnedEndW U o U' L ({ frames := 1, cells := 4, slots := 8, locals := 12 } : Room).cells ({ frames := 1, cells := 4, slots := 8, locals := 12 } : Room).slots) := by
  refine MetFree.of_bodySF (plainFor_of_name pn_java_lang_String) hisR ?_
  intro p e s m args below meth c s₁ Bd hml0 hP hK
  obtain ⟨rfl, hZ, hh, hC0⟩ := hP
  have hx := Bd.exec
  have hby := Bd.bytes
  have hml : c.maxLocals = 6 := hml0
  have hown : s.vm.findClass "java/lang/String" = some m.cls := findClass_of_methodNamed Bd.named
  have hnm := (name_of_methodNamed Bd.named Bd.method).1
  have X0 : Stand p l e ({ frames := 1, cells := 4, slots := 8, locals := 12 } : Room) (s.setVm s.vm) m #[(.ref a1), (.ref ca), (.int 0), (.int 0), .null] below meth c s₁ [] 0 0 := Stand.of_body Bd
  have e0 : s₁.heap = h0 := by rw [← hh, Bd.state]; rfl
  have N0 := Fr.nil n0
  have pre0 : ∀ t, Steps p.tables e below (s₁.setTop (mkF m 0 #[.val (.ref a1), .val (.ref ca), .val (.int 0), .val (.int 0), .val .null, .unset] [])) t → Steps p.tables e below (s₁.setTop (entryFrame m #[(.ref a1), (.ref ca), (.int 0), (.int 0), .null] 6)) t := fun t k => castTop (ef_own_sc0v m) k
  have hown : (s.setVm s.vm).vm.findClass "java/lang/String" = some m.cls := hown
  have hZ : Z.Warmed39 (s.setVm s.vm).vm := hZ
  have hS0 : s.Since s.vm 0 := (State.WarmedH.refl s).since 0
  have hk0 : 0 ≤ h0.size := Nat.zero_le _
  have CR0 := CHr.refl hC0
  have wS := own_wS hw
  have hEL := own_hEL hw
  have sf_a1 : Safe Z own_EL s.vm h0 a1 := own_safeNull hZ.alike O1.exa FV
  obtain ⟨T1, X1, e1, st1⟩ := initO X0 hx hZ hown (gw hw 13 rfl) (gw hw 14 rfl) (gw hw 15 rfl) e0 (g := (mkF m 1 #[.val (.ref a1), .val (.ref ca), .val (.int 0), .val (.int 0), .val .null, .unset] [(.ref a1)])) rfl (by rw [hml]; rfl) rfl (hb hby D21_1) (by decide) (W := 0) (by show 2 * 0 + _ ≤ _; exact Nat.le_of_eq rfl) (by decide)
  have pre2 : ∀ t, Steps p.tables e below (T1.setTop (mkF m 4 #[.val (.ref a1), .val (.ref ca), .val (.int 0), .val (.int 0), .val .null, .unset] [])) t → Steps p.tables e below (s₁.setTop (entryFrame m #[(.ref a1), (.ref ca), (.int 0), (.int 0), .null] 6)) t := by
    intro t kk
    refine pre0 t ?_
    refine XS.aloadN X0.here hx rfl (hb hby D21_0) rfl rfl ?_
    exact st1 _ kk
  have pre3 : ∀ t, Steps p.tables e below (T1.setTop (mkF m 9 #[.val (.ref a1), .val (.ref ca), .val (.int 0), .val (.int 0), .val .null, .unset] [(.ref a1)])) t → Steps p.tables e below (s₁.setTop (entryFrame m #[(.ref a1), (.ref ca), (.int 0), (.int 0), .null] 6)) t := by
    intro t kk
    refine pre2 t ?_
    refine XS.iloadN X1.here hx rfl (hb hby D21_4) rfl ?_
    refine XS.ifNo X1.here hx rfl (hb hby D21_5) rfl ((if0 _ _).trans (teq (rfl : (0 : Int32) = (0 : Int32))).2) ?_
    refine XS.aloadN X1.here hx rfl (hb hby D21_8) rfl rfl ?_
    exact kk
  obtain ⟨a4, T4, h4, k4, bb4, kb4, X4, e4, E4, hS4, hk4, hZ, hown, Ex4, Fc4, Fv4, V4, lta4, ltb4, CQ4, Lt4, sl4, st4⟩ := ldcCH X1 hx hZ hown (gw hw 16 rfl) wS e1 hS0 hk0 hEL (List.mem_of_getElem? (i := 0) rfl) CR0.1 (vs := []) (z := (0 : Int32)) ⟨by decide, by decide⟩ (by decide) (rfl) (g := (mkF m 9 #[.val (.ref a1), .val (.ref ca), .val (.int 0), .val (.int 0), .val .null, .unset] [(.ref a1)])) rfl (hb hby D21_9) (n := 0) (by decide) (by decide) (by decide) (by decide)
  have sf4_a1 := CQ4.safe O1.lt sf_a1
  have CR4 := CHr.trans CR0 CQ4
  have ne_a1_a4 : a1 ≠ a4 := (sl4 _ sf4_a1).1
  have ne_a1_bb4 : a1 ≠ bb4 := (sl4 _ sf4_a1).2
  have pre5 : ∀ t, Steps p.tables e below (T4.setTop (mkF m 11 #[.val (.ref a1), .val (.ref ca), .val (.int 0), .val (.int 0), .val .null, .unset] [(.ref a4), (.ref a1)])) t → Steps p.tables e below (s₁.setTop (entryFrame m #[(.ref a1), (.ref ca), (.int 0), (.int 0), .null] 6)) t := by
    intro t kk
    refine pre3 t ?_
    exact st4 _ kk
  obtain ⟨T6, X6, e6, st6⟩ := getF X4 hx hZ hown (host := "") (Or.inl (gw hw 22 rfl)) Via.refl e4 Fv4 (g := (mkF m 11 #[.val (.ref a1), .val (.ref ca), .val (.int 0), .val (.int 0), .val .null, .unset] [(.ref a4), (.ref a1)])) rfl rfl (hb hby D21_11)
  have pre7 : ∀ t, Steps p.tables e below (T6.setTop (mkF m 14 #[.val (.ref a1), .val (.ref ca), .val (.int 0), .val (.int 0), .val .null, .unset] [(.ref bb4), (.ref a1)])) t → Steps p.tables e below (s₁.setTop (entryFrame m #[(.ref a1), (.ref ca), (.int 0), (.int 0), .null] 6)) t := by
    intro t kk
    refine pre5 t ?_
    exact st6 _ kk
  have fc8 := (O1.ext E4)
  have fc10 := (FV.ext E4)
  obtain ⟨T9, h9, X9, e9, W9, st9⟩ := putF X6 hx hZ hown (host := "") (Or.inl (gw hw 22 rfl)) Via.refl e6 fc10 fc8.exa (Or.inr ⟨(gw hw 18 rfl), rfl, hnm⟩) (gw hw 4 rfl) (ty := (.array .byte)) (by decide) rfl rfl (g := (mkF m 14 #[.val (.ref a1), .val (.ref ca), .val (.int 0), .val (.int 0), .val .null, .unset] [(.ref bb4), (.ref a1)])) rfl rfl (hb hby D21_14)
  have SA11 := sf4_a1
  have CR11 := CHr.trans CR4 (CHr.wr W9 SA11 CR4.1)
  have sf11_a1 := (Safe.wr W9 SA11 CR4.1 sf4_a1)
  have N9 := Fr.snoc X9 N0 g1
  have Fw9 := fc10.same W9
  have pre12 : ∀ t, Steps p.tables e below (T9.setTop (mkF m 17 #[.val (.ref a1), .val (.ref ca), .val (.int 0), .val (.int 0), .val .null, .unset] [])) t → Steps p.tables e below (s₁.setTop (entryFrame m #[(.ref a1), (.ref ca), (.int 0), (.int 0), .null] 6)) t := by
    intro t kk
    refine pre7 t ?_
    exact st9 _ kk
  have pre13 : ∀ t, Steps p.tables e below (T9.setTop (mkF m 18 #[.val (.ref a1), .val (.ref ca), .val (.int 0), .val (.int 0), .val .null, .unset] [(.ref a1)])) t → Steps p.tables e below (s₁.setTop (entryFrame m #[(.ref a1), (.ref ca), (.int 0), (.int 0), .null] 6)) t := by
    intro t kk
    refine pre12 t ?_
    refine XS.aloadN X9.here hx rfl (hb hby D21_17) rfl rfl ?_
    exact kk
  have fc15 := (Nat.le_trans hk4 (Keep.of_wr W9).1)
  obtain ⟨a14, T14, h14, k14, bb14, kb14, X14, e14, E14, hS14, hk14, hZ, hown, Ex14, Fc14, Fv14, V14, lta14, ltb14, CQ14, Lt14, sl14, st14⟩ := ldcCH X9 hx hZ hown (gw hw 16 rfl) wS e9 hS4 fc15 hEL (List.mem_of_getElem? (i := 0) rfl) CR11.1 (vs := []) (z := (0 : Int32)) ⟨by decide, by decide⟩ (by decide) (rfl) (g := (mkF m 18 #[.val (.ref a1), .val (.ref ca), .val (.int 0), .val (.int 0), .val .null, .unset] [(.ref a1)])) rfl (hb hby D21_18) (n := 0) (by decide) (by decide) (by decide) (by decide)
  have fc16 := (fc8.wr W9)
  have sf14_a1 := CQ14.safe fc16.lt sf11_a1
  have CR14 := CHr.trans CR11 CQ14
  have ne_a1_a14 : a1 ≠ a14 := (sl14 _ sf14_a1).1
  have ne_a1_bb14 : a1 ≠ bb14 := (sl14 _ sf14_a1).2
  have pre17 : ∀ t, Steps p.tables e below (T14.setTop (mkF m 20 #[.val (.ref a1), .val (.ref ca), .val (.int 0), .val (.int 0), .val .null, .unset] [(.ref a14), (.ref a1)])) t → Steps p.tables e below (s₁.setTop (entryFrame m #[(.ref a1), (.ref ca), (.int 0), (.int 0), .null] 6)) t := by
    intro t kk
    refine pre13 t ?_
    exact st14 _ kk
  obtain ⟨T18, X18, e18, st18⟩ := getF X14 hx hZ hown (host := "") (Or.inl (gw hw 23 rfl)) Via.refl e14 Fc14 (g := (mkF m 20 #[.val (.ref a1), .val (.ref ca), .val (.int 0), .val (.int 0), .val .null, .unset] [(.ref a14), (.ref a1)])) rfl rfl (hb hby D21_20)
  have pre19 : ∀ t, Steps p.tables e below (T18.setTop (mkF m 23 #[.val (.ref a1), .val (.ref ca), .val (.int 0), .val (.int 0), .val .null, .unset] [(.int 0), (.ref a1)])) t → Steps p.tables e below (s₁.setTop (entryFrame m #[(.ref a1), (.ref ca), (.int 0), (.int 0), .null] 6)) t := by
    intro t kk
    refine pre17 t ?_
    exact st18 _ kk
  have fc20 := (fc16.ext E14)
  obtain ⟨u21, U21⟩ := Obj.fld fc20 (Or.inr (gw hw 19 rfl)) (gw hw 4 rfl)
  obtain ⟨T21, h21, X21, e21, W21, st21⟩ := putF X18 hx hZ hown (host := "") (Or.inl (gw hw 23 rfl)) Via.refl e18 U21 fc20.exa (Or.inr ⟨(gw hw 19 rfl), rfl, hnm⟩) (gw hw 4 rfl) (ty := .byte) (by decide) rfl rfl (g := (mkF m 23 #[.val (.ref a1), .val (.ref ca), .val (.int 0), .val (.int 0), .val .null, .unset] [(.int 0), (.ref a1)])) rfl rfl (hb hby D21_23)
  have SA22 := sf14_a1
  have CR22 := CHr.trans CR14 (CHr.wr W21 SA22 CR14.1)
  have sf22_a1 := (Safe.wr W21 SA22 CR14.1 sf14_a1)
  have N21 := Fr.snoc X21 N9 g1
  have Fw21 := U21.same W21
  have pre23 : ∀ t, Steps p.tables e below (T21.setTop (mkF m 26 #[.val (.ref a1), .val (.ref ca), .val (.int 0), .val (.int 0), .val .null, .unset] [])) t → Steps p.tables e below (s₁.setTop (entryFrame m #[(.ref a1), (.ref ca), (.int 0), (.int 0), .null] 6)) t := by
    intro t kk
    refine pre19 t ?_
    exact st21 _ kk
  have fc24 := (((((Keep.refl h0 [a1]).ext E4).wr W9 (Or.inl (List.mem_of_getElem? (i := 0) rfl))).ext E14).wr W21 (Or.inl (List.mem_of_getElem? (i := 0) rfl)))
  have fc25 := ((Fw9.ext E14).other W21 (Or.inr (slot_ne (Or.inr (gw hw 18 rfl)) (Or.inr (gw hw 19 rfl)) (by decide) (t := (.array .byte)) (t' := .byte) (by decide) (by decide))))
  have fc26 := (((V4.other W9 (Ne.symm ne_a1_bb4)).ext E14).other W21 (Ne.symm ne_a1_bb4))
  have fc27 := (Nat.le_trans hk14 (Keep.of_wr W21).1)
  obtain ⟨fs, hr, hrun, hended, hRW⟩ := X21.leaveW hS14 (by rw [e21]; exact fc27) (v := none) (fun _ => rfl)
  have CRe := CHr.trans CR22 (CHv.at X21 hZ hEL CR22.1)
  refine ⟨_, _, pre23 _ ?_, hrun, hended, _, _, rfl, ?_, ?_, hRW.1, hRW.2.1, hRW.2.2.1, hRW.2.2.2.mono (by decide) (by decide)⟩
  · exact X21.returnOut hx Bd.returns (hb hby D21_26) hr
  · show Q_own_sc0v Z a1 ca h0 n0 _ T21.heap _
    rw [e21]
    exact ⟨bb4, kb4, rfl, N21, fc24, fc25, Fw21, fc26, ne_a1_bb4⟩
  · show CHr Z own_EL s.vm s.heap T21.vm T21.heap
    rw [hh]
    rw [e21]
    exact CRe
theorem ef_own_sc0 (m : MethodId) {a1 : Addr} {ca : Addr} : entryFrame m #[(.ref a1), (.ref ca)] 2 = mkF m 0 #[.val (.ref a1), .val (.ref ca)] [] := by first | (simp [entryFrame, mkF, argsToLocals, Value.category]; done) | rfl
def Q_own_sc0 (Z : State) (a1 ca : Addr) (kC : ClassId) (h0 : Heap) (n0 : Nat) (v : Option Value) (h : Heap) (L : List Loc) : Prop := ∃ (bb : Addr) (k : ClassId), v = none ∧ Fr n0 L ∧ Keep h0 h [a1] ∧ Fld Z h a1 "java/lang/String" "value" "[B" (.ref bb) ∧ Fld Z h a1 "java/lang/String" "coder" "B" (.int 0) ∧ Arv Z h bb k .byte (0 : Int32) [] (.int 0) ∧ a1 ≠ bb
set_option maxRecDepth 65536 in
set_option maxHeartbeats 40000000 in
theorem own_sc0 (l : Launch) (Z : State) (a0 : Array Value) (hw : ∀ d ∈ tables_1, d.before a0 Z = true) (ws : List Jvm.Cond) (a1 ca : Addr) (kC : ClassId) (h0 : Heap) (n0 : Nat) (Z0 : n0 ≤ h0.size) (O1 : Obj Z h0 a1 "java/lang/String") (g1 : n0 ≤ a1) (FV : Fld Z h0 a1 "java/lang/String" "value" "[B" .null) (KC : Arv Z h0 ca kC .char (0 : Int32) [] (.int 0)) :
    MetFree l (⟨"java/lang/String", "<init>", "([C)V"⟩ : MethodName) (head1 (Jvm.Cond.code (⟨"java/lang/String", "<init>", "([C)V"⟩ : MethodName) jdk_42_method_3_code 2 none :: ws) ({ frames := 2, cells := 4, slots := 8, locals := 29 } : Room)) (fun a U => a = #[(.ref a1), (.ref ca)] ∧ Z.Warmed39 U.vm ∧ U.heap = h0 ∧ CHv Z own_EL U.vm h0) (fun _ _ _ _ _ => True) (fun _ U o U' => ∃ v L, o = .returned v ∧ Q_own_sc0 Z a1 ca kC h0 n0 v U'.heap L ∧ CHr Z own_EL U.vm U.heap U'.vm U'.heap ∧ ReturnedEndW U o U' L ({ frames := 2, cells := 4, slots := 8, locals := 29 } : Room).cells ({ frames := 2, cells := 4, slots := 8, locals := 29 } : Room).slots) := by
  refine MetFree.of_bodySF (plainFor_of_name pn_java_lang_String) hisR ?_
  intro p e s m args below meth c s₁ Bd hml0 hP hK
  obtain ⟨rfl, hZ, hh, hC0⟩ := hP
  have hx := Bd.exec
  have hby := Bd.bytes
  have hml : c.maxLocals = 2 := hml0
  have hown : s.vm.findClass "java/lang/String" = some m.cls := findClass_of_methodNamed Bd.named
  have hnm := (name_of_methodNamed Bd.named Bd.method).1
  have X0 : Stand p l e ({ frames := 2, cells := 4, slots := 8, locals := 29 } : Room) (s.setVm s.vm) m #[(.ref a1), (.ref ca)] below meth c s₁ [] 0 0 := Stand.of_body Bd
  have e0 : s₁.heap = h0 := by rw [← hh, Bd.state]; rfl
  have N0 := Fr.nil n0
  have pre0 : ∀ t, Steps p.tables e below (s₁.setTop (mkF m 0 #[.val (.ref a1), .val (.ref ca)] [])) t → Steps p.tables e below (s₁.setTop (entryFrame m #[(.ref a1), (.ref ca)] 2)) t := fun t k => castTop (ef_own_sc0 m) k
  have hown : (s.setVm s.vm).vm.findClass "java/lang/String" = some m.cls := hown
  have hZ : Z.Warmed39 (s.setVm s.vm).vm := hZ
  have hS0 : s.Since s.vm 0 := (State.WarmedH.refl s).since 0
  have hk0 : 0 ≤ h0.size := Nat.zero_le _
  have CR0 := CHr.refl hC0
  have wS := own_wS hw
  have hEL := own_hEL hw
  obtain ⟨cl1, Ar1, q1, S1, M1, H1, Gv1⟩ := id KC
  have pre2 : ∀ t, Steps p.tables e below (s₁.setTop (mkF m 6 #[.val (.ref a1), .val (.ref ca)] [.null, (.int 0), (.int 0), (.ref ca), (.ref a1)])) t → Steps p.tables e below (s₁.setTop (entryFrame m #[(.ref a1), (.ref ca)] 2)) t := by
    intro t kk
    refine pre0 t ?_
    refine XS.aloadN X0.here hx rfl (hb hby D22_0) rfl rfl ?_
    refine XS.aloadN X0.here hx rfl (hb hby D22_1) rfl rfl ?_
    refine XS.iconst X0.here hx rfl (hb hby D22_2) ?_
    refine XS.aloadN X0.here hx rfl (hb hby D22_3) rfl rfl ?_
    refine X0.arraylength hx (by rw [e0]; exact Ar1.1) (State.isArrayOf_alike hZ.alike Ar1.2.1) (g := (mkF m 4 #[.val (.ref a1), .val (.ref ca)] [(.ref ca), (.int 0), (.ref ca), (.ref a1)])) rfl rfl (hb hby D22_4) _ ?_
    rw [len_of S1 M1]
    refine XS.aconstNull X0.here hx rfl (hb hby D22_5) ?_
    exact kk
  obtain ⟨_, _, ⟨T3, L3, k3, n3⟩, -, X3w, hS3w, gr3, ⟨Lc3, hQ3, l3, y3, z3, CQ3⟩, st3⟩ := X0.specialBackS hx (y := (⟨"java/lang/String", "<init>", "([CIILjava/lang/Void;)V"⟩ : MethodName)) rfl hown (mvT hZ (gw hw 9 rfl)) (mvT hZ (gw hw 10 rfl)) (mvT hZ (gw hw 12 rfl)) (by decide) (backOfSH (W := 0) (own_sc0v l Z a0 hw [] a1 ca h0 n0 Z0 O1 g1 FV) hZ (gw hw 12 rfl) (gw hw 5 rfl) (by decide) (by decide) hEL CR0.1) (g := (mkF m 6 #[.val (.ref a1), .val (.ref ca)] [.null, (.int 0), (.int 0), (.ref ca), (.ref a1)])) rfl (by rw [hml]; rfl) (Steps.refl _) (a := a1) (argsL := [(.ref ca), (.int 0), (.int 0), .null]) (rest := []) (lenOf pd___CIILjava_lang_Void__V rfl) rfl (by show 2 * 0 + _ ≤ _; exact Nat.le_of_eq rfl) (hb hby D22_6) (fun _ _ => ⟨rfl, e0, (by decide : 0 + 4 ≤ _), (by decide : 0 + 8 ≤ _)⟩)
  dsimp only [Pt.U, Pt.locs, Pt.cells, Pt.slots] at X3w hS3w gr3 l3 y3 z3 st3 hQ3 CQ3
  subst l3 y3 z3
  obtain ⟨bb3, kb3, rfl, N3q, K3, q3a, q3b, q3c, q3d⟩ := hQ3
  have N3 := Fr.app N0 N3q
  obtain ⟨X3, hS3, hZ, hown⟩ := rebS hS0 (by rw [e0]; exact hk0) X3w hS3w gr3 hZ hown
  have hk3 : T3.heap.size ≤ T3.heap.size := Nat.le_refl _
  have CR3 := CHr.trans CR0 CQ3
  have pre4 : ∀ t, Steps p.tables e below (T3.setTop (mkF m 9 #[.val (.ref a1), .val (.ref ca)] [])) t → Steps p.tables e below (s₁.setTop (entryFrame m #[(.ref a1), (.ref ca)] 2)) t := by
    intro t kk
    refine pre2 t ?_
    exact st3.trans kk
  have fc5 := ((Keep.refl h0 [a1]).trans K3 (allS (Or.inl (List.mem_of_getElem? (i := 0) rfl)) all0))
  obtain ⟨fs, hr, hrun, hended, hRW⟩ := X3.leaveW hS3 hk3 (v := none) (fun _ => rfl)
  have CRe := CHr.trans CR3 (CHv.at X3 hZ hEL CR3.1)
  refine ⟨_, _, pre4 _ ?_, hrun, hended, _, _, rfl, ?_, ?_, hRW.1, hRW.2.1, hRW.2.2.1, hRW.2.2.2.mono (by decide) (by decide)⟩
  · exact X3.returnOut hx Bd.returns (hb hby D22_9) hr
  · show Q_own_sc0 Z a1 ca kC h0 n0 _ T3.heap _
    exact ⟨bb3, kb3, rfl, N3, fc5, q3a, q3b, q3c, q3d⟩
  · show CHr Z own_EL s.vm s.heap T3.vm T3.heap
    rw [hh]
    exact CRe
theorem own_five (x : Int32) : ∀ k, k = (x &&& (2147483647 : Int32)) % (5 : Int32) → k = 0 ∨ k = 1 ∨ k = 2 ∨ k = 3 ∨ k = 4 := by
  rintro k rfl
  have h1 := c_and x 2147483647 (by decide)
  have h2 := (c_iremV (x &&& 2147483647) 5).1 h1.1 (by decide)
  have k5 : (5 : Int32).toInt = 5 := by decide
  have h3 : ((x &&& (2147483647 : Int32)) % (5 : Int32)).toInt = 0 ∨ ((x &&& (2147483647 : Int32)) % (5 : Int32)).toInt = 1 ∨ ((x &&& (2147483647 : Int32)) % (5 : Int32)).toInt = 2 ∨ ((x &&& (2147483647 : Int32)) % (5 : Int32)).toInt = 3 ∨ ((x &&& (2147483647 : Int32)) % (5 : Int32)).toInt = 4 := by omega
  rcases h3 with h | h | h | h | h
  · exact Or.inl (Int32.toInt_inj.mp (by rw [h]; decide))
  · exact Or.inr (Or.inl (Int32.toInt_inj.mp (by rw [h]; decide)))
  · exact Or.inr (Or.inr (Or.inl (Int32.toInt_inj.mp (by rw [h]; decide))))
  · exact Or.inr (Or.inr (Or.inr (Or.inl (Int32.toInt_inj.mp (by rw [h]; decide)))))
  · exact Or.inr (Or.inr (Or.inr (Or.inr (Int32.toInt_inj.mp (by rw [h]; decide)))))
theorem own_c16 (x : Int32) : ∀ k, k = (x &&& (65535 : Int32)).toUInt32.toUInt16.toUInt32.toInt32 → ¬ k < 0 ∧ ¬ (65535 : Int32) < k := by
  rintro k rfl
  have h1 := c_and x 65535 (by decide)
  have h2 := c_i2c (x &&& 65535)
  have h3 : (65535 : Int32).toInt = 65535 := by decide
  have h4 : (0 : Int32).toInt = 0 := by decide
  rw [Int32.lt_iff_toInt_lt, Int32.lt_iff_toInt_lt]
  omega
theorem own_q0 : ∀ z ∈ ([] : List Int32), ¬ z < 0 ∧ ¬ (65535 : Int32) < z := fun z hz => by cases hz
theorem own_qc {a : Int32} {cs : List Int32} (ha : ¬ a < 0 ∧ ¬ (65535 : Int32) < a) (h : ∀ z ∈ cs, ¬ z < 0 ∧ ¬ (65535 : Int32) < z) : ∀ z ∈ a :: cs, ¬ z < 0 ∧ ¬ (65535 : Int32) < z := by
  intro z hz
  rcases List.mem_cons.mp hz with rfl | hz
  · exact ha
  · exact h z hz
theorem pd___C_V : parseMethodDescriptor "([C)V" = some ⟨[(.array .char)], none⟩ := by decide +kernel
theorem pd__Ljava_lang_String__Z : parseMethodDescriptor "(Ljava/lang/String;)Z" = some ⟨[(.object "java/lang/String")], some .boolean⟩ := by decide +kernel
theorem pd__C_Z : parseMethodDescriptor "(C)Z" = some ⟨[.char], some .boolean⟩ := by decide +kernel
theorem ef_own_law (m : MethodId) {p0 : Int32} {p1 : Int32} {p2 : Int32} {p3 : Int32} {p4 : Int32} : entryFrame m #[(.int p0), (.int p1), (.int p2), (.int p3), (.int p4)] maxLocals = mkF m 0 #[.val (.int p0), .val (.int p1), .val (.int p2), .val (.int p3), .val (.int p4), .unset, .unset, .unset, .unset, .unset, .unset, .unset, .unset] [] := by first | (simp [entryFrame, mkF, argsToLocals, Value.category, maxLocals]; done) | rfl
def Q_own_law (Z : State) (p0 p1 p2 p3 p4 G1 : Int32) (G3 : Value) (h0 : Heap) (n0 : Nat) (v : Option Value) (h : Heap) (L : List Loc) : Prop := v = some (.int 1) ∧ Fr n0 L
set_option maxRecDepth 65536 in
set_option maxHeartbeats 40000000 in
theorem own_law (l : Launch) (Z : State) (a0 : Array Value) (hw : ∀ d ∈ tables_1, d.before a0 Z = true) (ws : List Jvm.Cond) (p0 p1 p2 p3 p4 G1 : Int32) (G3 : Value) (h0 : Heap) (n0 : Nat) (Z0 : n0 ≤ h0.size) (AD : Sta Z Z.heap "java/lang/StringUTF16" "$assertionsDisabled" "Z" (.int 1)) (HB : Sta Z Z.heap "java/lang/StringUTF16" "HI_BYTE_SHIFT" "I" (.int 0)) (LB : Sta Z Z.heap "java/lang/StringUTF16" "LO_BYTE_SHIFT" "I" (.int 8)) (O2 : Sta Z Z.heap "java/lang/String" "COMPACT_STRINGS" "Z" (.int G1)) (P5 : ¬ G1 = (0 : Int32)) (O4 : Sta Z Z.heap "jdk/internal/util/Preconditions" "SIOOBE_FORMATTER" "Ljava/util/function/BiFunction;" G3) (rG3 : G3.isRef = true) (XO : Old Z n0 h0) :
    MetFree l x (head1 (Jvm.Cond.code x code maxLocals ret :: ws) room_1) (fun a U => a = #[(.int p0), (.int p1), (.int p2), (.int p3), (.int p4)] ∧ Z.Warmed39 U.vm ∧ U.heap = h0 ∧ CHv Z own_EL U.vm h0) (fun _ _ _ _ _ => True) (fun _ U o U' => ∃ v L, o = .returned v ∧ Q_own_law Z p0 p1 p2 p3 p4 G1 G3 h0 n0 v U'.heap L ∧ CHr Z own_EL U.vm U.heap U'.vm U'.heap ∧ ReturnedEndW U o U' L 24 1152) := by
  refine MetFree.of_bodySF (plainFor_of_name pn_com_example_hulse_hulse_environment_internal_ListIndexMatchesPinLaw) hisR ?_
  intro p e s m args below meth c s₁ Bd hml0 hP hK
  obtain ⟨rfl, hZ, hh, hC0⟩ := hP
  have hx := Bd.exec
  have hby := Bd.bytes
  have hml : c.maxLocals = 13 := hml0
  have hown : s.vm.findClass "com/example/hulse/hulse/environment/internal/ListIndexMatchesPinLaw" = some m.cls := findClass_of_methodNamed Bd.named
  have hnm := (name_of_methodNamed Bd.named Bd.method).1
  have X0 : Stand p l e room_1 (s.setVm s.vm) m #[(.int p0), (.int p1), (.int p2), (.int p3), (.int p4)] below meth c s₁ [] 0 0 := Stand.of_body Bd
  have e0 : s₁.heap = h0 := by rw [← hh, Bd.state]; rfl
  have N0 := Fr.nil n0
  have pre0 : ∀ t, Steps p.tables e below (s₁.setTop (mkF m 0 #[.val (.int p0), .val (.int p1), .val (.int p2), .val (.int p3), .val (.int p4), .unset, .unset, .unset, .unset, .unset, .unset, .unset, .unset] [])) t → Steps p.tables e below (s₁.setTop (entryFrame m #[(.int p0), (.int p1), (.int p2), (.int p3), (.int p4)] maxLocals)) t := fun t k => castTop (ef_own_law m) k
  have hown : (s.setVm s.vm).vm.findClass "com/example/hulse/hulse/environment/internal/ListIndexMatchesPinLaw" = some m.cls := hown
  have hZ : Z.Warmed39 (s.setVm s.vm).vm := hZ
  have hS0 : s.Since s.vm 0 := (State.WarmedH.refl s).since 0
  have hk0 : 0 ≤ h0.size := Nat.zero_le _
  have CR0 := CHr.refl hC0
  have wS := own_wS hw
  have hEL := own_hEL hw
  have hws : ∀ d ∈ StrChars.Road.words, d.before a0 Z = true := fun d hd => hw d ((by decide +kernel : ∀ d ∈ StrChars.Road.words, d ∈ tables_1) d hd)
  have pre1 : ∀ t, Steps p.tables e below (s₁.setTop (mkF m 6 #[.val (.int p0), .val (.int p1), .val (.int p2), .val (.int p3), .val (.int p4), .unset, .unset, .unset, .unset, .unset, .unset, .unset, .unset] [(.int ((p0 &&& (2147483647 : Int32)) % (5 : Int32)))])) t → Steps p.tables e below (s₁.setTop (entryFrame m #[(.int p0), (.int p1), (.int p2), (.int p3), (.int p4)] maxLocals)) t := by
    intro t kk
    refine pre0 t ?_
    refine XS.iloadN X0.here hx rfl (hb hby at_0) rfl ?_
    refine X0.ldcI hx hown (mvT hZ (gw hw 0 rfl)) (g := (mkF m 1 #[.val (.int p0), .val (.int p1), .val (.int p2), .val (.int p3), .val (.int p4), .unset, .unset, .unset, .unset, .unset, .unset, .unset, .unset] [(.int p0)])) rfl (hb hby at_1) ?_
    refine XS.iand X0.here hx rfl (hb hby at_3) rfl ?_
    refine XS.iconst X0.here hx rfl (hb hby at_4) ?_
    refine iremM (g := (mkF m 5 #[.val (.int p0), .val (.int p1), .val (.int p2), .val (.int p3), .val (.int p4), .unset, .unset, .unset, .unset, .unset, .unset, .unset, .unset] [(.int 5), (.int (p0 &&& (2147483647 : Int32)))])) X0 hx rfl (hb hby at_5) rfl (by decide) ?_
    exact kk
  obtain ⟨ln5, hkk⟩ : ∃ z, z = ((p0 &&& (2147483647 : Int32)) % (5 : Int32)) := ⟨_, rfl⟩
  rw [← hkk] at pre1
  have pre2 : ∀ t, Steps p.tables e below (s₁.setTop (mkF m 39 #[.val (.int p0), .val (.int p1), .val (.int p2), .val (.int p3), .val (.int p4), .val (.int ln5), .val (.int ((p1 &&& (65535 : Int32)).toUInt32.toUInt16.toUInt32.toInt32)), .val (.int ((p2 &&& (65535 : Int32)).toUInt32.toUInt16.toUInt32.toInt32)), .val (.int ((p3 &&& (65535 : Int32)).toUInt32.toUInt16.toUInt32.toInt32)), .val (.int ((p4 &&& (65535 : Int32)).toUInt32.toUInt16.toUInt32.toInt32)), .unset, .unset, .unset] [(.int ln5)])) t → Steps p.tables e below (s₁.setTop (entryFrame m #[(.int p0), (.int p1), (.int p2), (.int p3), (.int p4)] maxLocals)) t := by
    intro t kk
    refine pre1 t ?_
    refine XS.istore X0.here hx rfl (hb hby at_6) rfl (l' := #[.val (.int p0), .val (.int p1), .val (.int p2), .val (.int p3), .val (.int p4), .val (.int ln5), .unset, .unset, .unset, .unset, .unset, .unset, .unset]) rfl ?_
    refine XS.iloadN X0.here hx rfl (hb hby at_8) rfl ?_
    refine X0.ldcI hx hown (mvT hZ (gw hw 1 rfl)) (g := (mkF m 9 #[.val (.int p0), .val (.int p1), .val (.int p2), .val (.int p3), .val (.int p4), .val (.int ln5), .unset, .unset, .unset, .unset, .unset, .unset, .unset] [(.int p1)])) rfl (hb hby at_9) ?_
    refine XS.iand X0.here hx rfl (hb hby at_11) rfl ?_
    refine XS.i2c X0.here hx rfl (hb hby at_12) rfl ?_
    refine XS.istore X0.here hx rfl (hb hby at_13) rfl (l' := #[.val (.int p0), .val (.int p1), .val (.int p2), .val (.int p3), .val (.int p4), .val (.int ln5), .val (.int ((p1 &&& (65535 : Int32)).toUInt32.toUInt16.toUInt32.toInt32)), .unset, .unset, .unset, .unset, .unset, .unset]) rfl ?_
    refine XS.iloadN X0.here hx rfl (hb hby at_15) rfl ?_
    refine X0.ldcI hx hown (mvT hZ (gw hw 1 rfl)) (g := (mkF m 16 #[.val (.int p0), .val (.int p1), .val (.int p2), .val (.int p3), .val (.int p4), .val (.int ln5), .val (.int ((p1 &&& (65535 : Int32)).toUInt32.toUInt16.toUInt32.toInt32)), .unset, .unset, .unset, .unset, .unset, .unset] [(.int p2)])) rfl (hb hby at_16) ?_
    show Steps p.tables e below (s₁.setTop (mkF m 18 #[.val (.int p0), .val (.int p1), .val (.int p2), .val (.int p3), .val (.int p4), .val (.int ln5), .val (.int ((p1 &&& (65535 : Int32)).toUInt32.toUInt16.toUInt32.toInt32)), .unset, .unset, .unset, .unset, .unset, .unset] [(.int 65535), (.int p2)])) _
    refine XS.iand X0.here hx rfl (hb hby at_18) rfl ?_
    refine XS.i2c X0.here hx rfl (hb hby at_19) rfl ?_
    refine XS.istore X0.here hx rfl (hb hby at_20) rfl (l' := #[.val (.int p0), .val (.int p1), .val (.int p2), .val (.int p3), .val (.int p4), .val (.int ln5), .val (.int ((p1 &&& (65535 : Int32)).toUInt32.toUInt16.toUInt32.toInt32)), .val (.int ((p2 &&& (65535 : Int32)).toUInt32.toUInt16.toUInt32.toInt32)), .unset, .unset, .unset, .unset, .unset]) rfl ?_
    refine XS.iloadN X0.here hx rfl (hb hby at_22) rfl ?_
    refine X0.ldcI hx hown (mvT hZ (gw hw 1 rfl)) (g := (mkF m 23 #[.val (.int p0), .val (.int p1), .val (.int p2), .val (.int p3), .val (.int p4), .val (.int ln5), .val (.int ((p1 &&& (65535 : Int32)).toUInt32.toUInt16.toUInt32.toInt32)), .val (.int ((p2 &&& (65535 : Int32)).toUInt32.toUInt16.toUInt32.toInt32)), .unset, .unset, .unset, .unset, .unset] [(.int p3)])) rfl (hb hby at_23) ?_
    refine XS.iand X0.here hx rfl (hb hby at_25) rfl ?_
    refine XS.i2c X0.here hx rfl (hb hby at_26) rfl ?_
    refine XS.istore X0.here hx rfl (hb hby at_27) rfl (l' := #[.val (.int p0), .val (.int p1), .val (.int p2), .val (.int p3), .val (.int p4), .val (.int ln5), .val (.int ((p1 &&& (65535 : Int32)).toUInt32.toUInt16.toUInt32.toInt32)), .val (.int ((p2 &&& (65535 : Int32)).toUInt32.toUInt16.toUInt32.toInt32)), .val (.int ((p3 &&& (65535 : Int32)).toUInt32.toUInt16.toUInt32.toInt32)), .unset, .unset, .unset, .unset]) rfl ?_
    show Steps p.tables e below (s₁.setTop (mkF m 29 #[.val (.int p0), .val (.int p1), .val (.int p2), .val (.int p3), .val (.int p4), .val (.int ln5), .val (.int ((p1 &&& (65535 : Int32)).toUInt32.toUInt16.toUInt32.toInt32)), .val (.int ((p2 &&& (65535 : Int32)).toUInt32.toUInt16.toUInt32.toInt32)), .val (.int ((p3 &&& (65535 : Int32)).toUInt32.toUInt16.toUInt32.toInt32)), .unset, .unset, .unset, .unset] [])) _
    refine XS.iload X0.here hx rfl (hb hby at_29) rfl ?_
    refine X0.ldcI hx hown (mvT hZ (gw hw 1 rfl)) (g := (mkF m 31 #[.val (.int p0), .val (.int p1), .val (.int p2), .val (.int p3), .val (.int p4), .val (.int ln5), .val (.int ((p1 &&& (65535 : Int32)).toUInt32.toUInt16.toUInt32.toInt32)), .val (.int ((p2 &&& (65535 : Int32)).toUInt32.toUInt16.toUInt32.toInt32)), .val (.int ((p3 &&& (65535 : Int32)).toUInt32.toUInt16.toUInt32.toInt32)), .unset, .unset, .unset, .unset] [(.int p4)])) rfl (hb hby at_31) ?_
    refine XS.iand X0.here hx rfl (hb hby at_33) rfl ?_
    refine XS.i2c X0.here hx rfl (hb hby at_34) rfl ?_
    refine XS.istore X0.here hx rfl (hb hby at_35) rfl (l' := #[.val (.int p0), .val (.int p1), .val (.int p2), .val (.int p3), .val (.int p4), .val (.int ln5), .val (.int ((p1 &&& (65535 : Int32)).toUInt32.toUInt16.toUInt32.toInt32)), .val (.int ((p2 &&& (65535 : Int32)).toUInt32.toUInt16.toUInt32.toInt32)), .val (.int ((p3 &&& (65535 : Int32)).toUInt32.toUInt16.toUInt32.toInt32)), .val (.int ((p4 &&& (65535 : Int32)).toUInt32.toUInt16.toUInt32.toInt32)), .unset, .unset, .unset]) rfl ?_
    refine XS.iload X0.here hx rfl (hb hby at_37) rfl ?_
    exact kk
  obtain ⟨d0, he0⟩ : ∃ z, z = ((p1 &&& (65535 : Int32)).toUInt32.toUInt16.toUInt32.toInt32) := ⟨_, rfl⟩
  rw [← he0] at pre2
  have hd0 := own_c16 p1 d0 he0
  obtain ⟨d1, he1⟩ : ∃ z, z = ((p2 &&& (65535 : Int32)).toUInt32.toUInt16.toUInt32.toInt32) := ⟨_, rfl⟩
  rw [← he1] at pre2
  have hd1 := own_c16 p2 d1 he1
  obtain ⟨d2, he2⟩ : ∃ z, z = ((p3 &&& (65535 : Int32)).toUInt32.toUInt16.toUInt32.toInt32) := ⟨_, rfl⟩
  rw [← he2] at pre2
  have hd2 := own_c16 p3 d2 he2
  obtain ⟨d3, he3⟩ : ∃ z, z = ((p4 &&& (65535 : Int32)).toUInt32.toUInt16.toUInt32.toInt32) := ⟨_, rfl⟩
  rw [← he3] at pre2
  have hd3 := own_c16 p4 d3 he3
  rcases own_five p0 ln5 hkk with rfl | rfl | rfl | rfl | rfl
  · skip
    obtain ⟨fb3, g3⟩ : ∃ z, z = h0.size := ⟨_, rfl⟩
    have lo_fb3 : n0 ≤ fb3 := Nat.le_trans Z0 (Nat.le_of_eq g3.symm)
    have hi_fb3 : h0.size ≤ fb3 := Nat.le_trans (Keep.refl h0 []).1 (Nat.le_of_eq g3.symm)
    obtain ⟨T3, h3, k3, X3, e3, E3, A3, st3⟩ := newP X0 hx hZ (gw hw 2 rfl) e0 (g := (mkF m 39 #[.val (.int p0), .val (.int p1), .val (.int p2), .val (.int p3), .val (.int p4), .val (.int 0), .val (.int d0), .val (.int d1), .val (.int d2), .val (.int d3), .unset, .unset, .unset] [(.int 0)])) rfl (hb hby at_39) rfl (by decide) (cap := 0) (by decide) (by decide) (by decide) (by decide)
    rw [← g3] at A3 st3
    have V3 : Arv Z h3 fb3 k3 .char (0 : Int32) [] (.int 0) := (Arv.new A3 (by decide)).pad (pad_rep [] (.int 0) 0)
    have CR4 := CHr.trans CR0 (CHr.ext E3 CR0.1)
    have pre5 : ∀ t, Steps p.tables e below (T3.setTop (mkF m 41 #[.val (.int p0), .val (.int p1), .val (.int p2), .val (.int p3), .val (.int p4), .val (.int 0), .val (.int d0), .val (.int d1), .val (.int d2), .val (.int d3), .unset, .unset, .unset] [(.ref fb3)])) t → Steps p.tables e below (s₁.setTop (entryFrame m #[(.int p0), (.int p1), (.int p2), (.int p3), (.int p4)] maxLocals)) t := by
      intro t kk
      refine pre2 t ?_
      exact st3 _ kk
    have hbr6 : ¬ ((0 : Int32) < (0 : Int32)) := by decide
    have hbr7 : ¬ ((1 : Int32) < (0 : Int32)) := by decide
    have hbr8 : ¬ ((2 : Int32) < (0 : Int32)) := by decide
    have hbr9 : ¬ ((3 : Int32) < (0 : Int32)) := by decide
    obtain ⟨fb10, g10⟩ : ∃ z, z = h3.size := ⟨_, rfl⟩
    have ne_fb3_fb10 : fb3 ≠ fb10 := Nat.ne_of_lt (Nat.lt_of_lt_of_le V3.lt (Nat.le_of_eq g10.symm))
    have fc11 := (Nat.le_trans Z0 E3.1)
    have lo_fb10 : n0 ≤ fb10 := Nat.le_trans fc11 (Nat.le_of_eq g10.symm)
    have fc12 := ((Keep.refl h0 []).ext E3)
    have hi_fb10 : h0.size ≤ fb10 := Nat.le_trans fc12.1 (Nat.le_of_eq g10.symm)
    have sf13_fb10 : Safe Z own_EL _ _ fb10 := Safe.new (h := h3) (vm := s.vm) (Nat.le_of_eq g10.symm)
    obtain ⟨T10, h10, X10, e10, E10, A10, D10, B10, st10⟩ := newO X3 hx hZ hown (gw hw 3 rfl) (gw hw 4 rfl) (gw hw 5 rfl) e3 (g := (mkF m 90 #[.val (.int p0), .val (.int p1), .val (.int p2), .val (.int p3), .val (.int p4), .val (.int 0), .val (.int d0), .val (.int d1), .val (.int d2), .val (.int d3), .val (.ref fb3), .unset, .unset] [])) rfl (hb hby at_90) (by decide) (by decide)
    rw [← g10] at A10 D10 B10 st10
    have O10 := Obj.of A10 B10
    have CR14 := CHr.trans CR4 (CHr.ext E10 CR4.1)
    have sf14_fb10 := (Safe.ext E10 CR4.1 sf13_fb10)
    have F10_value : Fld Z h10 fb10 "java/lang/String" "value" "[B" .null := D10 (Or.inr (gw hw 18 rfl)) (ty := (.array .byte)) (by decide)
    have F10_coder : Fld Z h10 fb10 "java/lang/String" "coder" "B" (.int 0) := D10 (Or.inr (gw hw 19 rfl)) (ty := .byte) (by decide)
    have pre15 : ∀ t, Steps p.tables e below (T10.setTop (mkF m 93 #[.val (.int p0), .val (.int p1), .val (.int p2), .val (.int p3), .val (.int p4), .val (.int 0), .val (.int d0), .val (.int d1), .val (.int d2), .val (.int d3), .val (.ref fb3), .unset, .unset] [(.ref fb10)])) t → Steps p.tables e below (s₁.setTop (entryFrame m #[(.int p0), (.int p1), (.int p2), (.int p3), (.int p4)] maxLocals)) t := by
      intro t kk
      refine pre5 t ?_
      refine XS.astore X3.here hx rfl (hb hby at_41) rfl rfl (l' := #[.val (.int p0), .val (.int p1), .val (.int p2), .val (.int p3), .val (.int p4), .val (.int 0), .val (.int d0), .val (.int d1), .val (.int d2), .val (.int d3), .val (.ref fb3), .unset, .unset]) rfl ?_
      refine XS.iload X3.here hx rfl (hb hby at_43) rfl ?_
      refine XS.ifYes X3.here hx rfl (pc0 := 45) (pc' := 54) rfl (hb hby at_45) rfl ((if0 _ _).trans (flt hbr6).2.2.2) (by decide) (by decide) ?_
      refine XS.iload X3.here hx rfl (hb hby at_54) rfl ?_
      refine XS.iconst X3.here hx rfl (hb hby at_56) ?_
      refine XS.icmpYes X3.here hx rfl (pc0 := 57) (pc' := 66) rfl (hb hby at_57) rfl (flt hbr7).2.2.2 (by decide) (by decide) ?_
      refine XS.iload X3.here hx rfl (hb hby at_66) rfl ?_
      refine XS.iconst X3.here hx rfl (hb hby at_68) ?_
      show Steps p.tables e below (T3.setTop (mkF m 69 #[.val (.int p0), .val (.int p1), .val (.int p2), .val (.int p3), .val (.int p4), .val (.int 0), .val (.int d0), .val (.int d1), .val (.int d2), .val (.int d3), .val (.ref fb3), .unset, .unset] [(.int 2), (.int 0)])) _
      refine XS.icmpYes X3.here hx rfl (pc0 := 69) (pc' := 78) rfl (hb hby at_69) rfl (flt hbr8).2.2.2 (by decide) (by decide) ?_
      refine XS.iload X3.here hx rfl (hb hby at_78) rfl ?_
      refine XS.iconst X3.here hx rfl (hb hby at_80) ?_
      refine XS.icmpYes X3.here hx rfl (pc0 := 81) (pc' := 90) rfl (hb hby at_81) rfl (flt hbr9).2.2.2 (by decide) (by decide) ?_
      exact st10 _ kk
    have fc16 := (V3.ext E10)
    have pre17 : ∀ t, Steps p.tables e below (T10.setTop (mkF m 96 #[.val (.int p0), .val (.int p1), .val (.int p2), .val (.int p3), .val (.int p4), .val (.int 0), .val (.int d0), .val (.int d1), .val (.int d2), .val (.int d3), .val (.ref fb3), .unset, .unset] [(.ref fb3), (.ref fb10), (.ref fb10)])) t → Steps p.tables e below (s₁.setTop (entryFrame m #[(.int p0), (.int p1), (.int p2), (.int p3), (.int p4)] maxLocals)) t := by
      intro t kk
      refine pre15 t ?_
      refine XS.dup X10.here hx rfl (hb hby at_93) rfl rfl ?_
      refine XS.aload X10.here hx rfl (hb hby at_94) rfl rfl ?_
      exact kk
    have fc19 := (Nat.le_trans fc11 E10.1)
    obtain ⟨_, _, ⟨T18, L18, k18, n18⟩, -, X18w, hS18w, gr18, ⟨Lc18, hQ18, l18, y18, z18, CQ18⟩, st18⟩ := X10.specialBackS hx (y := (⟨"java/lang/String", "<init>", "([C)V"⟩ : MethodName)) rfl hown (mvT hZ (gw hw 6 rfl)) (mvT hZ (gw hw 7 rfl)) (mvT hZ (gw hw 8 rfl)) (by decide) (backOfSH (W := 1) (own_sc0 l Z a0 hw [] fb10 fb3 k3 h10 n0 fc19 O10 lo_fb10 F10_value fc16) hZ (gw hw 8 rfl) (gw hw 5 rfl) (by decide) (by decide) hEL CR14.1) (g := (mkF m 96 #[.val (.int p0), .val (.int p1), .val (.int p2), .val (.int p3), .val (.int p4), .val (.int 0), .val (.int d0), .val (.int d1), .val (.int d2), .val (.int d3), .val (.ref fb3), .unset, .unset] [(.ref fb3), (.ref fb10), (.ref fb10)])) rfl (by rw [hml]; rfl) (Steps.refl _) (a := fb10) (argsL := [(.ref fb3)]) (rest := [(.ref fb10)]) (lenOf pd___C_V rfl) rfl (by show 2 * 0 + _ ≤ _; exact Nat.le_of_eq rfl) (hb hby at_96) (fun _ _ => ⟨rfl, e10, (by decide : 2 + 4 ≤ _), (by decide : 4 + 8 ≤ _)⟩)
    dsimp only [Pt.U, Pt.locs, Pt.cells, Pt.slots] at X18w hS18w gr18 l18 y18 z18 st18 hQ18 CQ18
    subst l18 y18 z18
    obtain ⟨bb18, kb18, rfl, N18q, K18, q18a, q18b, q18c, q18d⟩ := hQ18
    have N18 := Fr.app N0 N18q
    have fc20 := (Nat.le_trans (Nat.le_trans hk0 E3.1) E10.1)
    obtain ⟨X18, hS18, hZ, hown⟩ := rebS hS0 (by rw [e10]; exact fc20) X18w hS18w gr18 hZ hown
    have hk18 : T18.heap.size ≤ T18.heap.size := Nat.le_refl _
    have sf18_fb10 := CQ18.safe O10.lt sf14_fb10
    have CR18 := CHr.trans CR14 CQ18
    have pre21 : ∀ t, Steps p.tables e below (T18.setTop (mkF m 99 #[.val (.int p0), .val (.int p1), .val (.int p2), .val (.int p3), .val (.int p4), .val (.int 0), .val (.int d0), .val (.int d1), .val (.int d2), .val (.int d3), .val (.ref fb3), .unset, .unset] [(.ref fb10)])) t → Steps p.tables e below (s₁.setTop (entryFrame m #[(.int p0), (.int p1), (.int p2), (.int p3), (.int p4)] maxLocals)) t := by
      intro t kk
      refine pre17 t ?_
      exact st18.trans kk
    have hbr22 : (0 : Int32) = (0 : Int32) := rfl
    have fc23 := (O10.keep K18)
    have fc24 := (((XO.ext E3).ext E10).keep K18 (allS lo_fb10 all0))
    have fc26 := (Nat.le_trans fc19 K18.1)
    obtain ⟨_, _, ⟨T25, L25, k25, n25⟩, -, X25, ⟨Lc25, hQ25, l25, y25, z25⟩, st25⟩ := Jvm.LawKit.callS X18 hx (y := (⟨"com/example/hulse/hulse/environment/internal/ListIndex", "matches", "(Ljava/lang/String;)Z"⟩ : MethodName)) hown (mvT hZ (gw hw 24 rfl)) (mvT hZ (gw hw 25 rfl)) (mvT hZ (gw hw 26 rfl)) (mvT hZ (gw hw 27 rfl)) (by decide) (backOf (W := 0) (own_mt0 l Z a0 hw [] fb10 bb18 kb18 G1 T18.heap n0 fc26 fc23.exa q18a q18b q18c O2 P5 fc24) hZ (gw hw 27 rfl) (gw hw 26 rfl) (by decide) (by decide)) (g := (mkF m 188 #[.val (.int p0), .val (.int p1), .val (.int p2), .val (.int p3), .val (.int p4), .val (.int 0), .val (.int d0), .val (.int d1), .val (.int d2), .val (.int d3), .val (.ref fb3), .val (.ref fb10), .val (.int 0)] [(.ref fb10)])) rfl (by rw [hml]; rfl) (argsL := [(.ref fb10)]) (rest := []) (lenOf pd__Ljava_lang_String__Z rfl) rfl (by show 2 * 0 + _ ≤ _; exact Nat.le_of_eq rfl) (hb hby at_188) (fun _ _ => ⟨rfl, rfl, (by decide : 6 + 0 ≤ _), (by decide : 12 + 0 ≤ _)⟩)
    dsimp only [Pt.U, Pt.locs, Pt.cells, Pt.slots] at X25 l25 y25 z25 st25 hQ25
    subst l25 y25 z25
    obtain ⟨rfl, N25q, e25q⟩ := hQ25
    have N25 := Fr.app N18 N25q
    have pre27 : ∀ t, Steps p.tables e below (T25.setTop (mkF m 191 #[.val (.int p0), .val (.int p1), .val (.int p2), .val (.int p3), .val (.int p4), .val (.int 0), .val (.int d0), .val (.int d1), .val (.int d2), .val (.int d3), .val (.ref fb3), .val (.ref fb10), .val (.int 0)] [(.int 0)])) t → Steps p.tables e below (s₁.setTop (entryFrame m #[(.int p0), (.int p1), (.int p2), (.int p3), (.int p4)] maxLocals)) t := by
      intro t kk
      refine pre21 t ?_
      refine XS.astore X18.here hx rfl (hb hby at_99) rfl rfl (l' := #[.val (.int p0), .val (.int p1), .val (.int p2), .val (.int p3), .val (.int p4), .val (.int 0), .val (.int d0), .val (.int d1), .val (.int d2), .val (.int d3), .val (.ref fb3), .val (.ref fb10), .unset]) rfl ?_
      refine XS.iload X18.here hx rfl (hb hby at_101) rfl ?_
      refine XS.ifNo X18.here hx rfl (hb hby at_103) rfl ((if0 _ _).trans (teq hbr22).2) ?_
      refine XS.iconst X18.here hx rfl (hb hby at_106) ?_
      refine XS.istore X18.here hx rfl (hb hby at_107) rfl (l' := #[.val (.int p0), .val (.int p1), .val (.int p2), .val (.int p3), .val (.int p4), .val (.int 0), .val (.int d0), .val (.int d1), .val (.int d2), .val (.int d3), .val (.ref fb3), .val (.ref fb10), .val (.int 0)]) rfl ?_
      refine XS.goto X18.here hx rfl (pc0 := 109) (pc' := 186) rfl (hb hby at_109) (by decide) (by decide) ?_
      refine XS.aload X18.here hx rfl (hb hby at_186) rfl rfl ?_
      exact st25 _ kk
    have hbr28 : (0 : Int32) = (0 : Int32) := rfl
    obtain ⟨fs, hr, hrun, hended, hRW⟩ := X25.leaveW hS18 (by rw [e25q]; exact hk18) (v := some (.int 1)) (fun h => by rw [Bd.returns] at h; cases h)
    have CRe := CHr.trans CR18 (CHv.at X25 hZ hEL CR18.1)
    refine ⟨_, _, pre27 _ ?_, hrun, hended, _, _, rfl, ?_, ?_, hRW.1, hRW.2.1, hRW.2.2.1, hRW.2.2.2.mono (by decide) (by decide)⟩
    · refine XS.iload X25.here hx rfl (hb hby at_191) rfl ?_
      refine XS.icmpNo X25.here hx rfl (hb hby at_193) rfl (teq hbr28).2 ?_
      refine XS.iconst X25.here hx rfl (hb hby at_196) ?_
      refine XS.goto X25.here hx rfl (pc0 := 197) (pc' := 201) rfl (hb hby at_197) (by decide) (by decide) ?_
      exact retN X25 hx (t := .boolean) Bd.returns (by simp) (hb hby at_201) hr
    · show Q_own_law Z p0 p1 p2 p3 p4 G1 G3 h0 n0 _ T25.heap _
      rw [e25q]
      exact ⟨rfl, N25⟩
    · show CHr Z own_EL s.vm s.heap T25.vm T25.heap
      rw [hh]
      rw [e25q]
      exact CRe
  · skip
    obtain ⟨fb29, g29⟩ : ∃ z, z = h0.size := ⟨_, rfl⟩
    have lo_fb29 : n0 ≤ fb29 := Nat.le_trans Z0 (Nat.le_of_eq g29.symm)
    have hi_fb29 : h0.size ≤ fb29 := Nat.le_trans (Keep.refl h0 []).1 (Nat.le_of_eq g29.symm)
    obtain ⟨T29, h29, k29, X29, e29, E29, A29, st29⟩ := newP X0 hx hZ (gw hw 2 rfl) e0 (g := (mkF m 39 #[.val (.int p0), .val (.int p1), .val (.int p2), .val (.int p3), .val (.int p4), .val (.int 1), .val (.int d0), .val (.int d1), .val (.int d2), .val (.int d3), .unset, .unset, .unset] [(.int 1)])) rfl (hb hby at_39) rfl (by decide) (cap := 1) (by decide) (by decide) (by decide) (by decide)
    rw [← g29] at A29 st29
    have V29 : Arv Z h29 fb29 k29 .char (1 : Int32) [(.int 0)] (.int 0) := (Arv.new A29 (by decide)).pad (pad_rep [] (.int 0) 1)
    have CR30 := CHr.trans CR0 (CHr.ext E29 CR0.1)
    have pre31 : ∀ t, Steps p.tables e below (T29.setTop (mkF m 41 #[.val (.int p0), .val (.int p1), .val (.int p2), .val (.int p3), .val (.int p4), .val (.int 1), .val (.int d0), .val (.int d1), .val (.int d2), .val (.int d3), .unset, .unset, .unset] [(.ref fb29)])) t → Steps p.tables e below (s₁.setTop (entryFrame m #[(.int p0), (.int p1), (.int p2), (.int p3), (.int p4)] maxLocals)) t := by
      intro t kk
      refine pre2 t ?_
      exact st29 _ kk
    have hbr32 : (0 : Int32) < (1 : Int32) := by decide
    obtain ⟨cl33, Ar33, q33, S33, M33, H33, Gv33⟩ := id V29
    obtain ⟨T33, h33, X33, e33, W33, st33⟩ := stC X29 hx hZ e29 Ar33 (j := (0 : Int32)) (inb_of S33 ⟨(by decide), (by decide)⟩) (g := (mkF m 53 #[.val (.int p0), .val (.int p1), .val (.int p2), .val (.int p3), .val (.int p4), .val (.int 1), .val (.int d0), .val (.int d1), .val (.int d2), .val (.int d3), .val (.ref fb29), .unset, .unset] [(.int d0), (.int 0), (.ref fb29)])) rfl rfl (hb hby at_53)
    have V33 : Arv Z h33 fb29 k29 .char (1 : Int32) [(.int (nar .char d0))] (.int 0) := Arv.set Ar33 q33 S33 M33 H33 Gv33 (fits_nar_char _) W33 0 rfl (Nat.le_of_ble_eq_true rfl)
    have SA34 := (Safe.arv (EL := own_EL) hZ.alike V29 (by decide))
    have CR34 := CHr.trans CR30 (CHr.wr W33 SA34 CR30.1)
    have N33 := Fr.snoc X33 N0 lo_fb29
    have pre35 : ∀ t, Steps p.tables e below (T33.setTop (mkF m 54 #[.val (.int p0), .val (.int p1), .val (.int p2), .val (.int p3), .val (.int p4), .val (.int 1), .val (.int d0), .val (.int d1), .val (.int d2), .val (.int d3), .val (.ref fb29), .unset, .unset] [])) t → Steps p.tables e below (s₁.setTop (entryFrame m #[(.int p0), (.int p1), (.int p2), (.int p3), (.int p4)] maxLocals)) t := by
      intro t kk
      refine pre31 t ?_
      refine XS.astore X29.here hx rfl (hb hby at_41) rfl rfl (l' := #[.val (.int p0), .val (.int p1), .val (.int p2), .val (.int p3), .val (.int p4), .val (.int 1), .val (.int d0), .val (.int d1), .val (.int d2), .val (.int d3), .val (.ref fb29), .unset, .unset]) rfl ?_
      refine XS.iload X29.here hx rfl (hb hby at_43) rfl ?_
      refine XS.ifNo X29.here hx rfl (hb hby at_45) rfl ((if0 _ _).trans (tlt hbr32).2.2.2) ?_
      refine XS.aload X29.here hx rfl (hb hby at_48) rfl rfl ?_
      refine XS.iconst X29.here hx rfl (hb hby at_50) ?_
      refine XS.iload X29.here hx rfl (hb hby at_51) rfl ?_
      exact st33 _ kk
    rw [own_n16 hd0] at V33
    have hbr36 : ¬ ((1 : Int32) < (1 : Int32)) := by decide
    have hbr37 : ¬ ((2 : Int32) < (1 : Int32)) := by decide
    have hbr38 : ¬ ((3 : Int32) < (1 : Int32)) := by decide
    obtain ⟨fb39, g39⟩ : ∃ z, z = h33.size := ⟨_, rfl⟩
    have ne_fb29_fb39 : fb29 ≠ fb39 := Nat.ne_of_lt (Nat.lt_of_lt_of_le V33.lt (Nat.le_of_eq g39.symm))
    have fc40 := (Nat.le_trans (Nat.le_trans Z0 E29.1) (Keep.of_wr W33).1)
    have lo_fb39 : n0 ≤ fb39 := Nat.le_trans fc40 (Nat.le_of_eq g39.symm)
    have fc41 := (((Keep.refl h0 []).ext E29).wr W33 (Or.inr hi_fb29))
    have hi_fb39 : h0.size ≤ fb39 := Nat.le_trans fc41.1 (Nat.le_of_eq g39.symm)
    have sf42_fb39 : Safe Z own_EL _ _ fb39 := Safe.new (h := h33) (vm := s.vm) (Nat.le_of_eq g39.symm)
    obtain ⟨T39, h39, X39, e39, E39, A39, D39, B39, st39⟩ := newO X33 hx hZ hown (gw hw 3 rfl) (gw hw 4 rfl) (gw hw 5 rfl) e33 (g := (mkF m 90 #[.val (.int p0), .val (.int p1), .val (.int p2), .val (.int p3), .val (.int p4), .val (.int 1), .val (.int d0), .val (.int d1), .val (.int d2), .val (.int d3), .val (.ref fb29), .unset, .unset] [])) rfl (hb hby at_90) (by decide) (by decide)
    rw [← g39] at A39 D39 B39 st39
    have O39 := Obj.of A39 B39
    have CR43 := CHr.trans CR34 (CHr.ext E39 CR34.1)
    have sf43_fb39 := (Safe.ext E39 CR34.1 sf42_fb39)
    have F39_value : Fld Z h39 fb39 "java/lang/String" "value" "[B" .null := D39 (Or.inr (gw hw 18 rfl)) (ty := (.array .byte)) (by decide)
    have F39_coder : Fld Z h39 fb39 "java/lang/String" "coder" "B" (.int 0) := D39 (Or.inr (gw hw 19 rfl)) (ty := .byte) (by decide)
    have pre44 : ∀ t, Steps p.tables e below (T39.setTop (mkF m 93 #[.val (.int p0), .val (.int p1), .val (.int p2), .val (.int p3), .val (.int p4), .val (.int 1), .val (.int d0), .val (.int d1), .val (.int d2), .val (.int d3), .val (.ref fb29), .unset, .unset] [(.ref fb39)])) t → Steps p.tables e below (s₁.setTop (entryFrame m #[(.int p0), (.int p1), (.int p2), (.int p3), (.int p4)] maxLocals)) t := by
      intro t kk
      refine pre35 t ?_
      refine XS.iload X33.here hx rfl (hb hby at_54) rfl ?_
      refine XS.iconst X33.here hx rfl (hb hby at_56) ?_
      refine XS.icmpYes X33.here hx rfl (pc0 := 57) (pc' := 66) rfl (hb hby at_57) rfl (flt hbr36).2.2.2 (by decide) (by decide) ?_
      refine XS.iload X33.here hx rfl (hb hby at_66) rfl ?_
      refine XS.iconst X33.here hx rfl (hb hby at_68) ?_
      refine XS.icmpYes X33.here hx rfl (pc0 := 69) (pc' := 78) rfl (hb hby at_69) rfl (flt hbr37).2.2.2 (by decide) (by decide) ?_
      refine XS.iload X33.here hx rfl (hb hby at_78) rfl ?_
      refine XS.iconst X33.here hx rfl (hb hby at_80) ?_
      show Steps p.tables e below (T33.setTop (mkF m 81 #[.val (.int p0), .val (.int p1), .val (.int p2), .val (.int p3), .val (.int p4), .val (.int 1), .val (.int d0), .val (.int d1), .val (.int d2), .val (.int d3), .val (.ref fb29), .unset, .unset] [(.int 3), (.int 1)])) _
      refine XS.icmpYes X33.here hx rfl (pc0 := 81) (pc' := 90) rfl (hb hby at_81) rfl (flt hbr38).2.2.2 (by decide) (by decide) ?_
      exact st39 _ kk
    by_cases hall : ¬ (255 : Int32) < d0
    case pos =>
      have fc45 := (V33.ext E39)
      have fc46 := (((XO.ext E29).wr W33 lo_fb29).ext E39)
      have fc48 := (Nat.le_trans fc40 E39.1)
      obtain ⟨_, _, ⟨T47, L47, k47, n47⟩, -, X47, ⟨Lc47, hQ47, l47, y47, z47⟩, st47⟩ := X39.specialBack hx (y := (⟨"java/lang/String", "<init>", "([C)V"⟩ : MethodName)) rfl hown (mvT hZ (gw hw 6 rfl)) (mvT hZ (gw hw 7 rfl)) (mvT hZ (gw hw 8 rfl)) (by decide) (StrChars.Road.backV (W := 1) hZ hws (kI := 4) (gw hw 4 rfl) (cs := ([d0] : List Int32)) (bs := ([d0] : List Int32).map (fun c => c.toInt8.toInt32)) (n := 1) lo_fb39 fc48 O39.exa F39_value F39_coder fc45 (O2.ext fc46.2) P5 rfl rfl (by decide) (by decide) (own_pc ⟨hd0.1, hall⟩ own_p0) rfl (by decide) (by decide)) (g := (mkF m 96 #[.val (.int p0), .val (.int p1), .val (.int p2), .val (.int p3), .val (.int p4), .val (.int 1), .val (.int d0), .val (.int d1), .val (.int d2), .val (.int d3), .val (.ref fb29), .unset, .unset] [(.ref fb29), (.ref fb39), (.ref fb39)])) rfl (by rw [hml]; rfl) (Steps.refl _) (a := fb39) (argsL := [(.ref fb29)]) (rest := [(.ref fb39)]) (lenOf pd___C_V rfl) rfl (by show 2 * 0 + _ ≤ _; exact Nat.le_of_eq rfl) (hb hby at_96) (fun _ _ => ⟨rfl, e39, (by decide : 2 + 1 ≤ _), (by decide : 5 + 1 ≤ _)⟩)
      dsimp only [Pt.U, Pt.locs, Pt.cells, Pt.slots] at X47 l47 y47 z47 st47 hQ47
      subst l47 y47 z47
      obtain ⟨rfl, N47q, K47, Ex47, Fc47, t47, kb47, u47, lo47, ne47, Fv47, Vt47⟩ := hQ47
      have N47 := Fr.app N33 N47q
      have SA49 : ∀ y ∈ [fb39], Safe Z own_EL _ _ y := (sfS sf43_fb39 sf0)
      have CR49 := CHr.trans CR43 (CHr.keep K47 SA49 CR43.1)
      have sf49_fb39 := (Safe.keep K47 SA49 CR43.1 sf43_fb39)
      have pre50 : ∀ t, Steps p.tables e below (T47.setTop (mkF m 99 #[.val (.int p0), .val (.int p1), .val (.int p2), .val (.int p3), .val (.int p4), .val (.int 1), .val (.int d0), .val (.int d1), .val (.int d2), .val (.int d3), .val (.ref fb29), .unset, .unset] [(.ref fb39)])) t → Steps p.tables e below (s₁.setTop (entryFrame m #[(.int p0), (.int p1), (.int p2), (.int p3), (.int p4)] maxLocals)) t := by
        intro t kk
        refine pre44 t ?_
        refine XS.dup X39.here hx rfl (hb hby at_93) rfl rfl ?_
        refine XS.aload X39.here hx rfl (hb hby at_94) rfl rfl ?_
        exact st47.trans kk
      have ne_fb29_t47 : fb29 ≠ t47 := Nat.ne_of_lt (Nat.lt_of_lt_of_le fc45.lt lo47)
      have hbr51 : ¬ ((1 : Int32) = (0 : Int32)) := by decide
      have hbr52 : (1 : Int32) = (1 : Int32) := rfl
      have fc54 := (Nat.le_trans fc48 K47.1)
      obtain ⟨_, _, ⟨T53, L53, k53, n53⟩, -, X53, ⟨Lc53, hQ53, l53, y53, z53⟩, st53⟩ := Jvm.LawKit.callS X47 hx (y := (⟨"com/example/hulse/hulse/environment/internal/ListIndexMatchesPinLaw", "dig", "(C)Z"⟩ : MethodName)) hown (mvT hZ (gw hw 54 rfl)) (mvT hZ (gw hw 55 rfl)) (mvT hZ (gw hw 56 rfl)) (mvT hZ (gw hw 57 rfl)) (by decide) (backOf (W := 0) (own_dig l Z a0 hw [] d0 T47.heap n0 fc54) hZ (gw hw 57 rfl) (gw hw 56 rfl) (by decide) (by decide)) (g := (mkF m 120 #[.val (.int p0), .val (.int p1), .val (.int p2), .val (.int p3), .val (.int p4), .val (.int 1), .val (.int d0), .val (.int d1), .val (.int d2), .val (.int d3), .val (.ref fb29), .val (.ref fb39), .unset] [(.int d0)])) rfl (by rw [hml]; rfl) (argsL := [(.int d0)]) (rest := []) (lenOf pd__C_Z rfl) rfl (by show 2 * 0 + _ ≤ _; exact Nat.le_of_eq rfl) (hb hby at_120) (fun _ _ => ⟨rfl, rfl, (by decide : 3 + 0 ≤ _), (by decide : 6 + 0 ≤ _)⟩)
      dsimp only [Pt.U, Pt.locs, Pt.cells, Pt.slots] at X53 l53 y53 z53 st53 hQ53
      subst l53 y53 z53
      obtain ⟨ee, rfl, N53q, e53q, hee0⟩ := hQ53
      have N53 := Fr.app N47 N53q
      have pre55 : ∀ t, Steps p.tables e below (T53.setTop (mkF m 123 #[.val (.int p0), .val (.int p1), .val (.int p2), .val (.int p3), .val (.int p4), .val (.int 1), .val (.int d0), .val (.int d1), .val (.int d2), .val (.int d3), .val (.ref fb29), .val (.ref fb39), .unset] [(.int ee)])) t → Steps p.tables e below (s₁.setTop (entryFrame m #[(.int p0), (.int p1), (.int p2), (.int p3), (.int p4)] maxLocals)) t := by
        intro t kk
        refine pre50 t ?_
        refine XS.astore X47.here hx rfl (hb hby at_99) rfl rfl (l' := #[.val (.int p0), .val (.int p1), .val (.int p2), .val (.int p3), .val (.int p4), .val (.int 1), .val (.int d0), .val (.int d1), .val (.int d2), .val (.int d3), .val (.ref fb29), .val (.ref fb39), .unset]) rfl ?_
        refine XS.iload X47.here hx rfl (hb hby at_101) rfl ?_
        refine XS.ifYes X47.here hx rfl (pc0 := 103) (pc' := 112) rfl (hb hby at_103) rfl ((if0 _ _).trans (feq hbr51).2) (by decide) (by decide) ?_
        refine XS.iload X47.here hx rfl (hb hby at_112) rfl ?_
        refine XS.iconst X47.here hx rfl (hb hby at_114) ?_
        refine XS.icmpNo X47.here hx rfl (hb hby at_115) rfl (teq hbr52).2 ?_
        refine XS.iload X47.here hx rfl (hb hby at_118) rfl ?_
        exact st53 _ kk
      have hee : ((own_M [d0]) → ee = 1) ∧ (¬ (own_M [d0]) → ee = 0) := ⟨fun q => hee0.1 (q.2 0 (Nat.le_of_ble_eq_true rfl)), fun q => hee0.2 fun z => q ⟨Or.inl rfl, fun i hi => by
        match i, hi with
        | 0, _ => exact z⟩⟩
      have fc56 := (O39.keep K47)
      have fc57 := (fc46.keep K47 (allS lo_fb39 all0))
      obtain ⟨_, _, ⟨T58, L58, k58, n58⟩, -, X58, ⟨Lc58, hQ58, l58, y58, z58⟩, st58⟩ := Jvm.LawKit.callS X53 hx (y := (⟨"com/example/hulse/hulse/environment/internal/ListIndex", "matches", "(Ljava/lang/String;)Z"⟩ : MethodName)) hown (mvT hZ (gw hw 24 rfl)) (mvT hZ (gw hw 25 rfl)) (mvT hZ (gw hw 26 rfl)) (mvT hZ (gw hw 27 rfl)) (by decide) (backOf (W := 0) (own_mt l Z a0 hw [] fb39 t47 kb47 [d0] (0 : Int32) _ _ G1 G3 T47.heap n0 fc54 fc56.exa Fv47 Fc47 Vt47 (Or.inl ⟨rfl, rfl, rfl, fun z hz => ((own_pc ⟨hd0.1, hall⟩ own_p0) z hz).2⟩) (own_qc hd0 own_q0) (Nat.le_of_ble_eq_true rfl) AD HB LB O2 P5 O4 rG3 fc57 (Nat.le_of_ble_eq_true rfl)) hZ (gw hw 27 rfl) (gw hw 26 rfl) (by decide) (by decide)) (g := (mkF m 188 #[.val (.int p0), .val (.int p1), .val (.int p2), .val (.int p3), .val (.int p4), .val (.int 1), .val (.int d0), .val (.int d1), .val (.int d2), .val (.int d3), .val (.ref fb29), .val (.ref fb39), .val (.int ee)] [(.ref fb39)])) rfl (by rw [hml]; rfl) (argsL := [(.ref fb39)]) (rest := []) (lenOf pd__Ljava_lang_String__Z rfl) rfl (by show 2 * 0 + _ ≤ _; exact Nat.le_of_eq rfl) (hb hby at_188) (fun _ _ => ⟨rfl, e53q, (by decide : 3 + 0 ≤ _), (by decide : 6 + 0 ≤ _)⟩)
      dsimp only [Pt.U, Pt.locs, Pt.cells, Pt.slots] at X58 l58 y58 z58 st58 hQ58
      subst l58 y58 z58
      obtain ⟨rz, rfl, N58q, e58q, hrz⟩ := hQ58
      have N58 := Fr.app N53 N58q
      have pre59 : ∀ t, Steps p.tables e below (T58.setTop (mkF m 191 #[.val (.int p0), .val (.int p1), .val (.int p2), .val (.int p3), .val (.int p4), .val (.int 1), .val (.int d0), .val (.int d1), .val (.int d2), .val (.int d3), .val (.ref fb29), .val (.ref fb39), .val (.int ee)] [(.int rz)])) t → Steps p.tables e below (s₁.setTop (entryFrame m #[(.int p0), (.int p1), (.int p2), (.int p3), (.int p4)] maxLocals)) t := by
        intro t kk
        refine pre55 t ?_
        refine XS.istore X53.here hx rfl (hb hby at_123) rfl (l' := #[.val (.int p0), .val (.int p1), .val (.int p2), .val (.int p3), .val (.int p4), .val (.int 1), .val (.int d0), .val (.int d1), .val (.int d2), .val (.int d3), .val (.ref fb29), .val (.ref fb39), .val (.int ee)]) rfl ?_
        refine XS.goto X53.here hx rfl (pc0 := 125) (pc' := 186) rfl (hb hby at_125) (by decide) (by decide) ?_
        refine XS.aload X53.here hx rfl (hb hby at_186) rfl rfl ?_
        exact st58 _ kk
      have hre : rz = ee := by
        by_cases q : (own_M [d0])
        · rw [hrz.1 q, hee.1 q]
        · rw [hrz.2 q, hee.2 q]
      have fc60 := (Nat.le_trans (Nat.le_trans (Nat.le_trans (Nat.le_trans hk0 E29.1) (Keep.of_wr W33).1) E39.1) K47.1)
      obtain ⟨fs, hr, hrun, hended, hRW⟩ := X58.leaveW hS0 (by rw [e58q]; exact fc60) (v := some (.int 1)) (fun h => by rw [Bd.returns] at h; cases h)
      have CRe := CHr.trans CR49 (CHv.at X58 hZ hEL CR49.1)
      refine ⟨_, _, pre59 _ ?_, hrun, hended, _, _, rfl, ?_, ?_, hRW.1, hRW.2.1, hRW.2.2.1, hRW.2.2.2.mono (by decide) (by decide)⟩
      · refine XS.iload X58.here hx rfl (hb hby at_191) rfl ?_
        refine XS.icmpNo X58.here hx rfl (hb hby at_193) rfl (teq hre).2 ?_
        refine XS.iconst X58.here hx rfl (hb hby at_196) ?_
        refine XS.goto X58.here hx rfl (pc0 := 197) (pc' := 201) rfl (hb hby at_197) (by decide) (by decide) ?_
        exact retN X58 hx (t := .boolean) Bd.returns (by simp) (hb hby at_201) hr
      · show Q_own_law Z p0 p1 p2 p3 p4 G1 G3 h0 n0 _ T58.heap _
        rw [e58q]
        exact ⟨rfl, N58⟩
      · show CHr Z own_EL s.vm s.heap T58.vm T58.heap
        rw [hh]
        rw [e58q]
        exact CRe
    case neg =>
      have hwd : (255 : Int32) < d0 := Classical.byContradiction fun q => hall q
      have fc61 := (V33.ext E39)
      have fc62 := (((XO.ext E29).wr W33 lo_fb29).ext E39)
      have fc64 := (Nat.le_trans fc40 E39.1)
      obtain ⟨_, _, ⟨T63, L63, k63, n63⟩, -, X63, ⟨Lc63, hQ63, l63, y63, z63⟩, st63⟩ := X39.specialBack hx (y := (⟨"java/lang/String", "<init>", "([C)V"⟩ : MethodName)) rfl hown (mvT hZ (gw hw 6 rfl)) (mvT hZ (gw hw 7 rfl)) (mvT hZ (gw hw 8 rfl)) (by decide) (backOf (W := 1) (own_i11 l Z a0 hw [] fb39 fb29 k29 d0 G1 h39 n0 fc64 O39 lo_fb39 fc61 hd0 hwd AD HB LB O2 P5 fc62) hZ (gw hw 8 rfl) (gw hw 5 rfl) (by decide) (by decide)) (g := (mkF m 96 #[.val (.int p0), .val (.int p1), .val (.int p2), .val (.int p3), .val (.int p4), .val (.int 1), .val (.int d0), .val (.int d1), .val (.int d2), .val (.int d3), .val (.ref fb29), .unset, .unset] [(.ref fb29), (.ref fb39), (.ref fb39)])) rfl (by rw [hml]; rfl) (Steps.refl _) (a := fb39) (argsL := [(.ref fb29)]) (rest := [(.ref fb39)]) (lenOf pd___C_V rfl) rfl (by show 2 * 0 + _ ≤ _; exact Nat.le_of_eq rfl) (hb hby at_96) (fun _ _ => ⟨rfl, e39, (by decide : 2 + 2 ≤ _), (by decide : 5 + 3 ≤ _)⟩)
      dsimp only [Pt.U, Pt.locs, Pt.cells, Pt.slots] at X63 l63 y63 z63 st63 hQ63
      subst l63 y63 z63
      obtain ⟨rfl, N63q, K63, wb, wk, z1, z2, z3, z4⟩ := hQ63
      have N63 := Fr.app N33 N63q
      have SA65 : ∀ y ∈ [fb39], Safe Z own_EL _ _ y := (sfS sf43_fb39 sf0)
      have CR65 := CHr.trans CR43 (CHr.keep K63 SA65 CR43.1)
      have sf65_fb39 := (Safe.keep K63 SA65 CR43.1 sf43_fb39)
      have pre66 : ∀ t, Steps p.tables e below (T63.setTop (mkF m 99 #[.val (.int p0), .val (.int p1), .val (.int p2), .val (.int p3), .val (.int p4), .val (.int 1), .val (.int d0), .val (.int d1), .val (.int d2), .val (.int d3), .val (.ref fb29), .unset, .unset] [(.ref fb39)])) t → Steps p.tables e below (s₁.setTop (entryFrame m #[(.int p0), (.int p1), (.int p2), (.int p3), (.int p4)] maxLocals)) t := by
        intro t kk
        refine pre44 t ?_
        refine XS.dup X39.here hx rfl (hb hby at_93) rfl rfl ?_
        refine XS.aload X39.here hx rfl (hb hby at_94) rfl rfl ?_
        exact st63.trans kk
      have hbr67 : ¬ ((1 : Int32) = (0 : Int32)) := by decide
      have hbr68 : (1 : Int32) = (1 : Int32) := rfl
      have fc70 := (Nat.le_trans fc64 K63.1)
      obtain ⟨_, _, ⟨T69, L69, k69, n69⟩, -, X69, ⟨Lc69, hQ69, l69, y69, z69⟩, st69⟩ := Jvm.LawKit.callS X63 hx (y := (⟨"com/example/hulse/hulse/environment/internal/ListIndexMatchesPinLaw", "dig", "(C)Z"⟩ : MethodName)) hown (mvT hZ (gw hw 54 rfl)) (mvT hZ (gw hw 55 rfl)) (mvT hZ (gw hw 56 rfl)) (mvT hZ (gw hw 57 rfl)) (by decide) (backOf (W := 0) (own_dig l Z a0 hw [] d0 T63.heap n0 fc70) hZ (gw hw 57 rfl) (gw hw 56 rfl) (by decide) (by decide)) (g := (mkF m 120 #[.val (.int p0), .val (.int p1), .val (.int p2), .val (.int p3), .val (.int p4), .val (.int 1), .val (.int d0), .val (.int d1), .val (.int d2), .val (.int d3), .val (.ref fb29), .val (.ref fb39), .unset] [(.int d0)])) rfl (by rw [hml]; rfl) (argsL := [(.int d0)]) (rest := []) (lenOf pd__C_Z rfl) rfl (by show 2 * 0 + _ ≤ _; exact Nat.le_of_eq rfl) (hb hby at_120) (fun _ _ => ⟨rfl, rfl, (by decide : 4 + 0 ≤ _), (by decide : 8 + 0 ≤ _)⟩)
      dsimp only [Pt.U, Pt.locs, Pt.cells, Pt.slots] at X69 l69 y69 z69 st69 hQ69
      subst l69 y69 z69
      obtain ⟨ee, rfl, N69q, e69q, hee0⟩ := hQ69
      have N69 := Fr.app N63 N69q
      have pre71 : ∀ t, Steps p.tables e below (T69.setTop (mkF m 123 #[.val (.int p0), .val (.int p1), .val (.int p2), .val (.int p3), .val (.int p4), .val (.int 1), .val (.int d0), .val (.int d1), .val (.int d2), .val (.int d3), .val (.ref fb29), .val (.ref fb39), .unset] [(.int ee)])) t → Steps p.tables e below (s₁.setTop (entryFrame m #[(.int p0), (.int p1), (.int p2), (.int p3), (.int p4)] maxLocals)) t := by
        intro t kk
        refine pre66 t ?_
        refine XS.astore X63.here hx rfl (hb hby at_99) rfl rfl (l' := #[.val (.int p0), .val (.int p1), .val (.int p2), .val (.int p3), .val (.int p4), .val (.int 1), .val (.int d0), .val (.int d1), .val (.int d2), .val (.int d3), .val (.ref fb29), .val (.ref fb39), .unset]) rfl ?_
        refine XS.iload X63.here hx rfl (hb hby at_101) rfl ?_
        refine XS.ifYes X63.here hx rfl (pc0 := 103) (pc' := 112) rfl (hb hby at_103) rfl ((if0 _ _).trans (feq hbr67).2) (by decide) (by decide) ?_
        refine XS.iload X63.here hx rfl (hb hby at_112) rfl ?_
        refine XS.iconst X63.here hx rfl (hb hby at_114) ?_
        refine XS.icmpNo X63.here hx rfl (hb hby at_115) rfl (teq hbr68).2 ?_
        refine XS.iload X63.here hx rfl (hb hby at_118) rfl ?_
        exact st69 _ kk
      have hee : ((own_M [d0]) → ee = 1) ∧ (¬ (own_M [d0]) → ee = 0) := ⟨fun q => hee0.1 (q.2 0 (Nat.le_of_ble_eq_true rfl)), fun q => hee0.2 fun z => q ⟨Or.inl rfl, fun i hi => by
        match i, hi with
        | 0, _ => exact z⟩⟩
      have fc72 := (O39.keep K63)
      have fc73 := (fc62.keep K63 (allS lo_fb39 all0))
      obtain ⟨_, _, ⟨T74, L74, k74, n74⟩, -, X74, ⟨Lc74, hQ74, l74, y74, z74⟩, st74⟩ := Jvm.LawKit.callS X69 hx (y := (⟨"com/example/hulse/hulse/environment/internal/ListIndex", "matches", "(Ljava/lang/String;)Z"⟩ : MethodName)) hown (mvT hZ (gw hw 24 rfl)) (mvT hZ (gw hw 25 rfl)) (mvT hZ (gw hw 26 rfl)) (mvT hZ (gw hw 27 rfl)) (by decide) (backOf (W := 0) (own_mt l Z a0 hw [] fb39 wb wk [d0] (1 : Int32) _ _ G1 G3 T63.heap n0 fc70 fc72.exa z2 z3 z4 (Or.inr ⟨rfl, rfl, rfl⟩) (own_qc hd0 own_q0) (Nat.le_of_ble_eq_true rfl) AD HB LB O2 P5 O4 rG3 fc73 (Nat.le_of_ble_eq_true rfl)) hZ (gw hw 27 rfl) (gw hw 26 rfl) (by decide) (by decide)) (g := (mkF m 188 #[.val (.int p0), .val (.int p1), .val (.int p2), .val (.int p3), .val (.int p4), .val (.int 1), .val (.int d0), .val (.int d1), .val (.int d2), .val (.int d3), .val (.ref fb29), .val (.ref fb39), .val (.int ee)] [(.ref fb39)])) rfl (by rw [hml]; rfl) (argsL := [(.ref fb39)]) (rest := []) (lenOf pd__Ljava_lang_String__Z rfl) rfl (by show 2 * 0 + _ ≤ _; exact Nat.le_of_eq rfl) (hb hby at_188) (fun _ _ => ⟨rfl, e69q, (by decide : 4 + 0 ≤ _), (by decide : 8 + 0 ≤ _)⟩)
      dsimp only [Pt.U, Pt.locs, Pt.cells, Pt.slots] at X74 l74 y74 z74 st74 hQ74
      subst l74 y74 z74
      obtain ⟨rz, rfl, N74q, e74q, hrz⟩ := hQ74
      have N74 := Fr.app N69 N74q
      have pre75 : ∀ t, Steps p.tables e below (T74.setTop (mkF m 191 #[.val (.int p0), .val (.int p1), .val (.int p2), .val (.int p3), .val (.int p4), .val (.int 1), .val (.int d0), .val (.int d1), .val (.int d2), .val (.int d3), .val (.ref fb29), .val (.ref fb39), .val (.int ee)] [(.int rz)])) t → Steps p.tables e below (s₁.setTop (entryFrame m #[(.int p0), (.int p1), (.int p2), (.int p3), (.int p4)] maxLocals)) t := by
        intro t kk
        refine pre71 t ?_
        refine XS.istore X69.here hx rfl (hb hby at_123) rfl (l' := #[.val (.int p0), .val (.int p1), .val (.int p2), .val (.int p3), .val (.int p4), .val (.int 1), .val (.int d0), .val (.int d1), .val (.int d2), .val (.int d3), .val (.ref fb29), .val (.ref fb39), .val (.int ee)]) rfl ?_
        refine XS.goto X69.here hx rfl (pc0 := 125) (pc' := 186) rfl (hb hby at_125) (by decide) (by decide) ?_
        refine XS.aload X69.here hx rfl (hb hby at_186) rfl rfl ?_
        exact st74 _ kk
      have hre : rz = ee := by
        by_cases q : (own_M [d0])
        · rw [hrz.1 q, hee.1 q]
        · rw [hrz.2 q, hee.2 q]
      have fc76 := (Nat.le_trans (Nat.le_trans (Nat.le_trans (Nat.le_trans hk0 E29.1) (Keep.of_wr W33).1) E39.1) K63.1)
      obtain ⟨fs, hr, hrun, hended, hRW⟩ := X74.leaveW hS0 (by rw [e74q]; exact fc76) (v := some (.int 1)) (fun h => by rw [Bd.returns] at h; cases h)
      have CRe := CHr.trans CR65 (CHv.at X74 hZ hEL CR65.1)
      refine ⟨_, _, pre75 _ ?_, hrun, hended, _, _, rfl, ?_, ?_, hRW.1, hRW.2.1, hRW.2.2.1, hRW.2.2.2.mono (by decide) (by decide)⟩
      · refine XS.iload X74.here hx rfl (hb hby at_191) rfl ?_
        refine XS.icmpNo X74.here hx rfl (hb hby at_193) rfl (teq hre).2 ?_
        refine XS.iconst X74.here hx rfl (hb hby at_196) ?_
        refine XS.goto X74.here hx rfl (pc0 := 197) (pc' := 201) rfl (hb hby at_197) (by decide) (by decide) ?_
        exact retN X74 hx (t := .boolean) Bd.returns (by simp) (hb hby at_201) hr
      · show Q_own_law Z p0 p1 p2 p3 p4 G1 G3 h0 n0 _ T74.heap _
        rw [e74q]
        exact ⟨rfl, N74⟩
      · show CHr Z own_EL s.vm s.heap T74.vm T74.heap
        rw [hh]
        rw [e74q]
        exact CRe
  · skip
    obtain ⟨fb77, g77⟩ : ∃ z, z = h0.size := ⟨_, rfl⟩
    have lo_fb77 : n0 ≤ fb77 := Nat.le_trans Z0 (Nat.le_of_eq g77.symm)
    have hi_fb77 : h0.size ≤ fb77 := Nat.le_trans (Keep.refl h0 []).1 (Nat.le_of_eq g77.symm)
    obtain ⟨T77, h77, k77, X77, e77, E77, A77, st77⟩ := newP X0 hx hZ (gw hw 2 rfl) e0 (g := (mkF m 39 #[.val (.int p0), .val (.int p1), .val (.int p2), .val (.int p3), .val (.int p4), .val (.int 2), .val (.int d0), .val (.int d1), .val (.int d2), .val (.int d3), .unset, .unset, .unset] [(.int 2)])) rfl (hb hby at_39) rfl (by decide) (cap := 2) (by decide) (by decide) (by decide) (by decide)
    rw [← g77] at A77 st77
    have V77 : Arv Z h77 fb77 k77 .char (2 : Int32) [(.int 0), (.int 0)] (.int 0) := (Arv.new A77 (by decide)).pad (pad_rep [] (.int 0) 2)
    have CR78 := CHr.trans CR0 (CHr.ext E77 CR0.1)
    have pre79 : ∀ t, Steps p.tables e below (T77.setTop (mkF m 41 #[.val (.int p0), .val (.int p1), .val (.int p2), .val (.int p3), .val (.int p4), .val (.int 2), .val (.int d0), .val (.int d1), .val (.int d2), .val (.int d3), .unset, .unset, .unset] [(.ref fb77)])) t → Steps p.tables e below (s₁.setTop (entryFrame m #[(.int p0), (.int p1), (.int p2), (.int p3), (.int p4)] maxLocals)) t := by
      intro t kk
      refine pre2 t ?_
      exact st77 _ kk
    have hbr80 : (0 : Int32) < (2 : Int32) := by decide
    obtain ⟨cl81, Ar81, q81, S81, M81, H81, Gv81⟩ := id V77
    obtain ⟨T81, h81, X81, e81, W81, st81⟩ := stC X77 hx hZ e77 Ar81 (j := (0 : Int32)) (inb_of S81 ⟨(by decide), (by decide)⟩) (g := (mkF m 53 #[.val (.int p0), .val (.int p1), .val (.int p2), .val (.int p3), .val (.int p4), .val (.int 2), .val (.int d0), .val (.int d1), .val (.int d2), .val (.int d3), .val (.ref fb77), .unset, .unset] [(.int d0), (.int 0), (.ref fb77)])) rfl rfl (hb hby at_53)
    have V81 : Arv Z h81 fb77 k77 .char (2 : Int32) [(.int (nar .char d0)), (.int 0)] (.int 0) := Arv.set Ar81 q81 S81 M81 H81 Gv81 (fits_nar_char _) W81 0 rfl (Nat.le_of_ble_eq_true rfl)
    have SA82 := (Safe.arv (EL := own_EL) hZ.alike V77 (by decide))
    have CR82 := CHr.trans CR78 (CHr.wr W81 SA82 CR78.1)
    have N81 := Fr.snoc X81 N0 lo_fb77
    have pre83 : ∀ t, Steps p.tables e below (T81.setTop (mkF m 54 #[.val (.int p0), .val (.int p1), .val (.int p2), .val (.int p3), .val (.int p4), .val (.int 2), .val (.int d0), .val (.int d1), .val (.int d2), .val (.int d3), .val (.ref fb77), .unset, .unset] [])) t → Steps p.tables e below (s₁.setTop (entryFrame m #[(.int p0), (.int p1), (.int p2), (.int p3), (.int p4)] maxLocals)) t := by
      intro t kk
      refine pre79 t ?_
      refine XS.astore X77.here hx rfl (hb hby at_41) rfl rfl (l' := #[.val (.int p0), .val (.int p1), .val (.int p2), .val (.int p3), .val (.int p4), .val (.int 2), .val (.int d0), .val (.int d1), .val (.int d2), .val (.int d3), .val (.ref fb77), .unset, .unset]) rfl ?_
      refine XS.iload X77.here hx rfl (hb hby at_43) rfl ?_
      refine XS.ifNo X77.here hx rfl (hb hby at_45) rfl ((if0 _ _).trans (tlt hbr80).2.2.2) ?_
      refine XS.aload X77.here hx rfl (hb hby at_48) rfl rfl ?_
      refine XS.iconst X77.here hx rfl (hb hby at_50) ?_
      refine XS.iload X77.here hx rfl (hb hby at_51) rfl ?_
      exact st81 _ kk
    rw [own_n16 hd0] at V81
    have hbr84 : (1 : Int32) < (2 : Int32) := by decide
    obtain ⟨cl85, Ar85, q85, S85, M85, H85, Gv85⟩ := id V81
    obtain ⟨T85, h85, X85, e85, W85, st85⟩ := stC X81 hx hZ e81 Ar85 (j := (1 : Int32)) (inb_of S85 ⟨(by decide), (by decide)⟩) (g := (mkF m 65 #[.val (.int p0), .val (.int p1), .val (.int p2), .val (.int p3), .val (.int p4), .val (.int 2), .val (.int d0), .val (.int d1), .val (.int d2), .val (.int d3), .val (.ref fb77), .unset, .unset] [(.int d1), (.int 1), (.ref fb77)])) rfl rfl (hb hby at_65)
    have V85 : Arv Z h85 fb77 k77 .char (2 : Int32) [(.int d0), (.int (nar .char d1))] (.int 0) := Arv.set Ar85 q85 S85 M85 H85 Gv85 (fits_nar_char _) W85 1 rfl (Nat.le_of_ble_eq_true rfl)
    have SA86 := (Safe.arv (EL := own_EL) hZ.alike V81 (by decide))
    have CR86 := CHr.trans CR82 (CHr.wr W85 SA86 CR82.1)
    have N85 := Fr.snoc X85 N81 lo_fb77
    have pre87 : ∀ t, Steps p.tables e below (T85.setTop (mkF m 66 #[.val (.int p0), .val (.int p1), .val (.int p2), .val (.int p3), .val (.int p4), .val (.int 2), .val (.int d0), .val (.int d1), .val (.int d2), .val (.int d3), .val (.ref fb77), .unset, .unset] [])) t → Steps p.tables e below (s₁.setTop (entryFrame m #[(.int p0), (.int p1), (.int p2), (.int p3), (.int p4)] maxLocals)) t := by
      intro t kk
      refine pre83 t ?_
      refine XS.iload X81.here hx rfl (hb hby at_54) rfl ?_
      refine XS.iconst X81.here hx rfl (hb hby at_56) ?_
      refine XS.icmpNo X81.here hx rfl (hb hby at_57) rfl (tlt hbr84).2.2.2 ?_
      refine XS.aload X81.here hx rfl (hb hby at_60) rfl rfl ?_
      refine XS.iconst X81.here hx rfl (hb hby at_62) ?_
      refine XS.iload X81.here hx rfl (hb hby at_63) rfl ?_
      exact st85 _ kk
    rw [own_n16 hd1] at V85
    have hbr88 : ¬ ((2 : Int32) < (2 : Int32)) := by decide
    have hbr89 : ¬ ((3 : Int32) < (2 : Int32)) := by decide
    obtain ⟨fb90, g90⟩ : ∃ z, z = h85.size := ⟨_, rfl⟩
    have ne_fb77_fb90 : fb77 ≠ fb90 := Nat.ne_of_lt (Nat.lt_of_lt_of_le V85.lt (Nat.le_of_eq g90.symm))
    have fc91 := (Nat.le_trans (Nat.le_trans (Nat.le_trans Z0 E77.1) (Keep.of_wr W81).1) (Keep.of_wr W85).1)
    have lo_fb90 : n0 ≤ fb90 := Nat.le_trans fc91 (Nat.le_of_eq g90.symm)
    have fc92 := ((((Keep.refl h0 []).ext E77).wr W81 (Or.inr hi_fb77)).wr W85 (Or.inr hi_fb77))
    have hi_fb90 : h0.size ≤ fb90 := Nat.le_trans fc92.1 (Nat.le_of_eq g90.symm)
    have sf93_fb90 : Safe Z own_EL _ _ fb90 := Safe.new (h := h85) (vm := s.vm) (Nat.le_of_eq g90.symm)
    obtain ⟨T90, h90, X90, e90, E90, A90, D90, B90, st90⟩ := newO X85 hx hZ hown (gw hw 3 rfl) (gw hw 4 rfl) (gw hw 5 rfl) e85 (g := (mkF m 90 #[.val (.int p0), .val (.int p1), .val (.int p2), .val (.int p3), .val (.int p4), .val (.int 2), .val (.int d0), .val (.int d1), .val (.int d2), .val (.int d3), .val (.ref fb77), .unset, .unset] [])) rfl (hb hby at_90) (by decide) (by decide)
    rw [← g90] at A90 D90 B90 st90
    have O90 := Obj.of A90 B90
    have CR94 := CHr.trans CR86 (CHr.ext E90 CR86.1)
    have sf94_fb90 := (Safe.ext E90 CR86.1 sf93_fb90)
    have F90_value : Fld Z h90 fb90 "java/lang/String" "value" "[B" .null := D90 (Or.inr (gw hw 18 rfl)) (ty := (.array .byte)) (by decide)
    have F90_coder : Fld Z h90 fb90 "java/lang/String" "coder" "B" (.int 0) := D90 (Or.inr (gw hw 19 rfl)) (ty := .byte) (by decide)
    have pre95 : ∀ t, Steps p.tables e below (T90.setTop (mkF m 93 #[.val (.int p0), .val (.int p1), .val (.int p2), .val (.int p3), .val (.int p4), .val (.int 2), .val (.int d0), .val (.int d1), .val (.int d2), .val (.int d3), .val (.ref fb77), .unset, .unset] [(.ref fb90)])) t → Steps p.tables e below (s₁.setTop (entryFrame m #[(.int p0), (.int p1), (.int p2), (.int p3), (.int p4)] maxLocals)) t := by
      intro t kk
      refine pre87 t ?_
      refine XS.iload X85.here hx rfl (hb hby at_66) rfl ?_
      refine XS.iconst X85.here hx rfl (hb hby at_68) ?_
      refine XS.icmpYes X85.here hx rfl (pc0 := 69) (pc' := 78) rfl (hb hby at_69) rfl (flt hbr88).2.2.2 (by decide) (by decide) ?_
      refine XS.iload X85.here hx rfl (hb hby at_78) rfl ?_
      refine XS.iconst X85.here hx rfl (hb hby at_80) ?_
      refine XS.icmpYes X85.here hx rfl (pc0 := 81) (pc' := 90) rfl (hb hby at_81) rfl (flt hbr89).2.2.2 (by decide) (by decide) ?_
      exact st90 _ kk
    by_cases hall : ¬ (255 : Int32) < d0 ∧ ¬ (255 : Int32) < d1
    case pos =>
      have fc96 := (V85.ext E90)
      have fc97 := ((((XO.ext E77).wr W81 lo_fb77).wr W85 lo_fb77).ext E90)
      have fc99 := (Nat.le_trans fc91 E90.1)
      obtain ⟨_, _, ⟨T98, L98, k98, n98⟩, -, X98, ⟨Lc98, hQ98, l98, y98, z98⟩, st98⟩ := X90.specialBack hx (y := (⟨"java/lang/String", "<init>", "([C)V"⟩ : MethodName)) rfl hown (mvT hZ (gw hw 6 rfl)) (mvT hZ (gw hw 7 rfl)) (mvT hZ (gw hw 8 rfl)) (by decide) (StrChars.Road.backV (W := 1) hZ hws (kI := 4) (gw hw 4 rfl) (cs := ([d0, d1] : List Int32)) (bs := ([d0, d1] : List Int32).map (fun c => c.toInt8.toInt32)) (n := 2) lo_fb90 fc99 O90.exa F90_value F90_coder fc96 (O2.ext fc97.2) P5 rfl rfl (by decide) (by decide) (own_pc ⟨hd0.1, hall.1⟩ (own_pc ⟨hd1.1, hall.2⟩ own_p0)) rfl (by decide) (by decide)) (g := (mkF m 96 #[.val (.int p0), .val (.int p1), .val (.int p2), .val (.int p3), .val (.int p4), .val (.int 2), .val (.int d0), .val (.int d1), .val (.int d2), .val (.int d3), .val (.ref fb77), .unset, .unset] [(.ref fb77), (.ref fb90), (.ref fb90)])) rfl (by rw [hml]; rfl) (Steps.refl _) (a := fb90) (argsL := [(.ref fb77)]) (rest := [(.ref fb90)]) (lenOf pd___C_V rfl) rfl (by show 2 * 0 + _ ≤ _; exact Nat.le_of_eq rfl) (hb hby at_96) (fun _ _ => ⟨rfl, e90, (by decide : 2 + 1 ≤ _), (by decide : 6 + 2 ≤ _)⟩)
      dsimp only [Pt.U, Pt.locs, Pt.cells, Pt.slots] at X98 l98 y98 z98 st98 hQ98
      subst l98 y98 z98
      obtain ⟨rfl, N98q, K98, Ex98, Fc98, t98, kb98, u98, lo98, ne98, Fv98, Vt98⟩ := hQ98
      have N98 := Fr.app N85 N98q
      have SA100 : ∀ y ∈ [fb90], Safe Z own_EL _ _ y := (sfS sf94_fb90 sf0)
      have CR100 := CHr.trans CR94 (CHr.keep K98 SA100 CR94.1)
      have sf100_fb90 := (Safe.keep K98 SA100 CR94.1 sf94_fb90)
      have pre101 : ∀ t, Steps p.tables e below (T98.setTop (mkF m 99 #[.val (.int p0), .val (.int p1), .val (.int p2), .val (.int p3), .val (.int p4), .val (.int 2), .val (.int d0), .val (.int d1), .val (.int d2), .val (.int d3), .val (.ref fb77), .unset, .unset] [(.ref fb90)])) t → Steps p.tables e below (s₁.setTop (entryFrame m #[(.int p0), (.int p1), (.int p2), (.int p3), (.int p4)] maxLocals)) t := by
        intro t kk
        refine pre95 t ?_
        refine XS.dup X90.here hx rfl (hb hby at_93) rfl rfl ?_
        refine XS.aload X90.here hx rfl (hb hby at_94) rfl rfl ?_
        exact st98.trans kk
      have ne_fb77_t98 : fb77 ≠ t98 := Nat.ne_of_lt (Nat.lt_of_lt_of_le fc96.lt lo98)
      have pre102 : ∀ t, Steps p.tables e below (T98.setTop (mkF m 101 #[.val (.int p0), .val (.int p1), .val (.int p2), .val (.int p3), .val (.int p4), .val (.int 2), .val (.int d0), .val (.int d1), .val (.int d2), .val (.int d3), .val (.ref fb77), .val (.ref fb90), .unset] [])) t → Steps p.tables e below (s₁.setTop (entryFrame m #[(.int p0), (.int p1), (.int p2), (.int p3), (.int p4)] maxLocals)) t := by
        intro t kk
        refine pre101 t ?_
        refine XS.astore X98.here hx rfl (hb hby at_99) rfl rfl (l' := #[.val (.int p0), .val (.int p1), .val (.int p2), .val (.int p3), .val (.int p4), .val (.int 2), .val (.int d0), .val (.int d1), .val (.int d2), .val (.int d3), .val (.ref fb77), .val (.ref fb90), .unset]) rfl ?_
        exact kk
      obtain ⟨T103, Lj103, ee, X103, e103, N103, hee, pre103⟩ : ∃ (T' : State) (lc : List Loc) (ee : Int32), Stand p l e room_1 (s.setVm s.vm) m #[(.int p0), (.int p1), (.int p2), (.int p3), (.int p4)] below meth c T' lc 3 8 ∧ T'.heap = T98.heap ∧ Fr n0 lc ∧ (((own_M [d0, d1]) → ee = 1) ∧ (¬ (own_M [d0, d1]) → ee = 0)) ∧ ∀ t, Steps p.tables e below (T'.setTop (mkF m 186 #[.val (.int p0), .val (.int p1), .val (.int p2), .val (.int p3), .val (.int p4), .val (.int 2), .val (.int d0), .val (.int d1), .val (.int d2), .val (.int d3), .val (.ref fb77), .val (.ref fb90), .val (.int ee)] [])) t → Steps p.tables e below (s₁.setTop (entryFrame m #[(.int p0), (.int p1), (.int p2), (.int p3), (.int p4)] maxLocals)) t := by
        have hbr104 : ¬ ((2 : Int32) = (0 : Int32)) := by decide
        have hbr105 : ¬ ((2 : Int32) = (1 : Int32)) := by decide
        by_cases hz : d0 = (48 : Int32)
        case pos =>
          have pre106 : ∀ t, Steps p.tables e below (T98.setTop (mkF m 186 #[.val (.int p0), .val (.int p1), .val (.int p2), .val (.int p3), .val (.int p4), .val (.int 2), .val (.int d0), .val (.int d1), .val (.int d2), .val (.int d3), .val (.ref fb77), .val (.ref fb90), .val (.int 0)] [])) t → Steps p.tables e below (s₁.setTop (entryFrame m #[(.int p0), (.int p1), (.int p2), (.int p3), (.int p4)] maxLocals)) t := by
            intro t kk
            refine pre102 t ?_
            refine XS.iload X98.here hx rfl (hb hby at_101) rfl ?_
            refine XS.ifYes X98.here hx rfl (pc0 := 103) (pc' := 112) rfl (hb hby at_103) rfl ((if0 _ _).trans (feq hbr104).2) (by decide) (by decide) ?_
            refine XS.iload X98.here hx rfl (hb hby at_112) rfl ?_
            refine XS.iconst X98.here hx rfl (hb hby at_114) ?_
            refine XS.icmpYes X98.here hx rfl (pc0 := 115) (pc' := 128) rfl (hb hby at_115) rfl (feq hbr105).2 (by decide) (by decide) ?_
            refine XS.iload X98.here hx rfl (hb hby at_128) rfl ?_
            refine XS.bipush X98.here hx rfl (hb hby at_130) ?_
            refine XS.icmpYes X98.here hx rfl (pc0 := 132) (pc' := 183) rfl (hb hby at_132) rfl (teq hz).1 (by decide) (by decide) ?_
            show Steps p.tables e below (T98.setTop (mkF m 183 #[.val (.int p0), .val (.int p1), .val (.int p2), .val (.int p3), .val (.int p4), .val (.int 2), .val (.int d0), .val (.int d1), .val (.int d2), .val (.int d3), .val (.ref fb77), .val (.ref fb90), .unset] [])) _
            refine XS.iconst X98.here hx rfl (hb hby at_183) ?_
            refine XS.istore X98.here hx rfl (hb hby at_184) rfl (l' := #[.val (.int p0), .val (.int p1), .val (.int p2), .val (.int p3), .val (.int p4), .val (.int 2), .val (.int d0), .val (.int d1), .val (.int d2), .val (.int d3), .val (.ref fb77), .val (.ref fb90), .val (.int 0)]) rfl ?_
            exact kk
          exact ⟨_, _, (0 : Int32), X98, rfl, N98, ⟨fun q => q.1.elim (fun z => absurd z (by simp)) fun z => absurd hz z, fun _ => rfl⟩, pre106⟩
        case neg =>
          have fc108 := (Nat.le_trans fc99 K98.1)
          obtain ⟨_, _, ⟨T107, L107, k107, n107⟩, -, X107, ⟨Lc107, hQ107, l107, y107, z107⟩, st107⟩ := Jvm.LawKit.callS X98 hx (y := (⟨"com/example/hulse/hulse/environment/internal/ListIndexMatchesPinLaw", "dig", "(C)Z"⟩ : MethodName)) hown (mvT hZ (gw hw 54 rfl)) (mvT hZ (gw hw 55 rfl)) (mvT hZ (gw hw 56 rfl)) (mvT hZ (gw hw 57 rfl)) (by decide) (backOf (W := 0) (own_dig l Z a0 hw [] d0 T98.heap n0 fc108) hZ (gw hw 57 rfl) (gw hw 56 rfl) (by decide) (by decide)) (g := (mkF m 137 #[.val (.int p0), .val (.int p1), .val (.int p2), .val (.int p3), .val (.int p4), .val (.int 2), .val (.int d0), .val (.int d1), .val (.int d2), .val (.int d3), .val (.ref fb77), .val (.ref fb90), .unset] [(.int d0)])) rfl (by rw [hml]; rfl) (argsL := [(.int d0)]) (rest := []) (lenOf pd__C_Z rfl) rfl (by show 2 * 0 + _ ≤ _; exact Nat.le_of_eq rfl) (hb hby at_137) (fun _ _ => ⟨rfl, rfl, (by decide : 3 + 0 ≤ _), (by decide : 8 + 0 ≤ _)⟩)
          dsimp only [Pt.U, Pt.locs, Pt.cells, Pt.slots] at X107 l107 y107 z107 st107 hQ107
          subst l107 y107 z107
          obtain ⟨rr0, rfl, N107q, e107q, ra0, rb0⟩ := hQ107
          have N107 := Fr.app N98 N107q
          have pre109 : ∀ t, Steps p.tables e below (T107.setTop (mkF m 140 #[.val (.int p0), .val (.int p1), .val (.int p2), .val (.int p3), .val (.int p4), .val (.int 2), .val (.int d0), .val (.int d1), .val (.int d2), .val (.int d3), .val (.ref fb77), .val (.ref fb90), .unset] [(.int rr0)])) t → Steps p.tables e below (s₁.setTop (entryFrame m #[(.int p0), (.int p1), (.int p2), (.int p3), (.int p4)] maxLocals)) t := by
            intro t kk
            refine pre102 t ?_
            refine XS.iload X98.here hx rfl (hb hby at_101) rfl ?_
            refine XS.ifYes X98.here hx rfl (pc0 := 103) (pc' := 112) rfl (hb hby at_103) rfl ((if0 _ _).trans (feq hbr104).2) (by decide) (by decide) ?_
            refine XS.iload X98.here hx rfl (hb hby at_112) rfl ?_
            refine XS.iconst X98.here hx rfl (hb hby at_114) ?_
            refine XS.icmpYes X98.here hx rfl (pc0 := 115) (pc' := 128) rfl (hb hby at_115) rfl (feq hbr105).2 (by decide) (by decide) ?_
            refine XS.iload X98.here hx rfl (hb hby at_128) rfl ?_
            refine XS.bipush X98.here hx rfl (hb hby at_130) ?_
            refine XS.icmpNo X98.here hx rfl (hb hby at_132) rfl (feq hz).1 ?_
            show Steps p.tables e below (T98.setTop (mkF m 135 #[.val (.int p0), .val (.int p1), .val (.int p2), .val (.int p3), .val (.int p4), .val (.int 2), .val (.int d0), .val (.int d1), .val (.int d2), .val (.int d3), .val (.ref fb77), .val (.ref fb90), .unset] [])) _
            refine XS.iload X98.here hx rfl (hb hby at_135) rfl ?_
            exact st107 _ kk
          by_cases mm0 : own_dg d0
          case pos =>
            have hbr110 : ¬ (rr0 = (0 : Int32)) := by rw [ra0 mm0]; decide
            obtain ⟨_, _, ⟨T111, L111, k111, n111⟩, -, X111, ⟨Lc111, hQ111, l111, y111, z111⟩, st111⟩ := Jvm.LawKit.callS X107 hx (y := (⟨"com/example/hulse/hulse/environment/internal/ListIndexMatchesPinLaw", "dig", "(C)Z"⟩ : MethodName)) hown (mvT hZ (gw hw 54 rfl)) (mvT hZ (gw hw 55 rfl)) (mvT hZ (gw hw 56 rfl)) (mvT hZ (gw hw 57 rfl)) (by decide) (backOf (W := 0) (own_dig l Z a0 hw [] d1 T98.heap n0 fc108) hZ (gw hw 57 rfl) (gw hw 56 rfl) (by decide) (by decide)) (g := (mkF m 145 #[.val (.int p0), .val (.int p1), .val (.int p2), .val (.int p3), .val (.int p4), .val (.int 2), .val (.int d0), .val (.int d1), .val (.int d2), .val (.int d3), .val (.ref fb77), .val (.ref fb90), .unset] [(.int d1)])) rfl (by rw [hml]; rfl) (argsL := [(.int d1)]) (rest := []) (lenOf pd__C_Z rfl) rfl (by show 2 * 0 + _ ≤ _; exact Nat.le_of_eq rfl) (hb hby at_145) (fun _ _ => ⟨rfl, e107q, (by decide : 3 + 0 ≤ _), (by decide : 8 + 0 ≤ _)⟩)
            dsimp only [Pt.U, Pt.locs, Pt.cells, Pt.slots] at X111 l111 y111 z111 st111 hQ111
            subst l111 y111 z111
            obtain ⟨rr1, rfl, N111q, e111q, ra1, rb1⟩ := hQ111
            have N111 := Fr.app N107 N111q
            have pre112 : ∀ t, Steps p.tables e below (T111.setTop (mkF m 148 #[.val (.int p0), .val (.int p1), .val (.int p2), .val (.int p3), .val (.int p4), .val (.int 2), .val (.int d0), .val (.int d1), .val (.int d2), .val (.int d3), .val (.ref fb77), .val (.ref fb90), .unset] [(.int rr1)])) t → Steps p.tables e below (s₁.setTop (entryFrame m #[(.int p0), (.int p1), (.int p2), (.int p3), (.int p4)] maxLocals)) t := by
              intro t kk
              refine pre109 t ?_
              refine XS.ifNo X107.here hx rfl (hb hby at_140) rfl ((if0 _ _).trans (feq hbr110).1) ?_
              refine XS.iload X107.here hx rfl (hb hby at_143) rfl ?_
              exact st111 _ kk
            by_cases mm1 : own_dg d1
            case pos =>
              have hbr113 : ¬ (rr1 = (0 : Int32)) := by rw [ra1 mm1]; decide
              have hbr114 : (2 : Int32) < (3 : Int32) := by decide
              have hbr115 : (2 : Int32) < (4 : Int32) := by decide
              have pre116 : ∀ t, Steps p.tables e below (T111.setTop (mkF m 186 #[.val (.int p0), .val (.int p1), .val (.int p2), .val (.int p3), .val (.int p4), .val (.int 2), .val (.int d0), .val (.int d1), .val (.int d2), .val (.int d3), .val (.ref fb77), .val (.ref fb90), .val (.int 1)] [])) t → Steps p.tables e below (s₁.setTop (entryFrame m #[(.int p0), (.int p1), (.int p2), (.int p3), (.int p4)] maxLocals)) t := by
                intro t kk
                refine pre112 t ?_
                refine XS.ifNo X111.here hx rfl (hb hby at_148) rfl ((if0 _ _).trans (feq hbr113).1) ?_
                refine XS.iload X111.here hx rfl (hb hby at_151) rfl ?_
                refine XS.iconst X111.here hx rfl (hb hby at_153) ?_
                refine XS.icmpYes X111.here hx rfl (pc0 := 154) (pc' := 165) rfl (hb hby at_154) rfl (tlt hbr114).1 (by decide) (by decide) ?_
                refine XS.iload X111.here hx rfl (hb hby at_165) rfl ?_
                refine XS.iconst X111.here hx rfl (hb hby at_167) ?_
                refine XS.icmpYes X111.here hx rfl (pc0 := 168) (pc' := 179) rfl (hb hby at_168) rfl (tlt hbr115).1 (by decide) (by decide) ?_
                refine XS.iconst X111.here hx rfl (hb hby at_179) ?_
                show Steps p.tables e below (T111.setTop (mkF m 180 #[.val (.int p0), .val (.int p1), .val (.int p2), .val (.int p3), .val (.int p4), .val (.int 2), .val (.int d0), .val (.int d1), .val (.int d2), .val (.int d3), .val (.ref fb77), .val (.ref fb90), .unset] [(.int 1)])) _
                refine XS.goto X111.here hx rfl (pc0 := 180) (pc' := 184) rfl (hb hby at_180) (by decide) (by decide) ?_
                refine XS.istore X111.here hx rfl (hb hby at_184) rfl (l' := #[.val (.int p0), .val (.int p1), .val (.int p2), .val (.int p3), .val (.int p4), .val (.int 2), .val (.int d0), .val (.int d1), .val (.int d2), .val (.int d3), .val (.ref fb77), .val (.ref fb90), .val (.int 1)]) rfl ?_
                exact kk
              exact ⟨_, _, (1 : Int32), X111, e111q, N111, ⟨fun _ => rfl, fun q => absurd (⟨Or.inr hz, fun i hi => by
                match i, hi with
                | 0, _ => exact mm0
                | 1, _ => exact mm1⟩ : (own_M [d0, d1])) q⟩, pre116⟩
            case neg =>
              have hbr117 : rr1 = (0 : Int32) := rb1 mm1
              have pre118 : ∀ t, Steps p.tables e below (T111.setTop (mkF m 186 #[.val (.int p0), .val (.int p1), .val (.int p2), .val (.int p3), .val (.int p4), .val (.int 2), .val (.int d0), .val (.int d1), .val (.int d2), .val (.int d3), .val (.ref fb77), .val (.ref fb90), .val (.int 0)] [])) t → Steps p.tables e below (s₁.setTop (entryFrame m #[(.int p0), (.int p1), (.int p2), (.int p3), (.int p4)] maxLocals)) t := by
                intro t kk
                refine pre112 t ?_
                refine XS.ifYes X111.here hx rfl (pc0 := 148) (pc' := 183) rfl (hb hby at_148) rfl ((if0 _ _).trans (teq hbr117).1) (by decide) (by decide) ?_
                refine XS.iconst X111.here hx rfl (hb hby at_183) ?_
                refine XS.istore X111.here hx rfl (hb hby at_184) rfl (l' := #[.val (.int p0), .val (.int p1), .val (.int p2), .val (.int p3), .val (.int p4), .val (.int 2), .val (.int d0), .val (.int d1), .val (.int d2), .val (.int d3), .val (.ref fb77), .val (.ref fb90), .val (.int 0)]) rfl ?_
                exact kk
              exact ⟨_, _, (0 : Int32), X111, e111q, N111, ⟨fun q => absurd (q.2 1 (Nat.le_of_ble_eq_true rfl)) mm1, fun _ => rfl⟩, pre118⟩
          case neg =>
            have hbr119 : rr0 = (0 : Int32) := rb0 mm0
            have pre120 : ∀ t, Steps p.tables e below (T107.setTop (mkF m 186 #[.val (.int p0), .val (.int p1), .val (.int p2), .val (.int p3), .val (.int p4), .val (.int 2), .val (.int d0), .val (.int d1), .val (.int d2), .val (.int d3), .val (.ref fb77), .val (.ref fb90), .val (.int 0)] [])) t → Steps p.tables e below (s₁.setTop (entryFrame m #[(.int p0), (.int p1), (.int p2), (.int p3), (.int p4)] maxLocals)) t := by
              intro t kk
              refine pre109 t ?_
              refine XS.ifYes X107.here hx rfl (pc0 := 140) (pc' := 183) rfl (hb hby at_140) rfl ((if0 _ _).trans (teq hbr119).1) (by decide) (by decide) ?_
              refine XS.iconst X107.here hx rfl (hb hby at_183) ?_
              refine XS.istore X107.here hx rfl (hb hby at_184) rfl (l' := #[.val (.int p0), .val (.int p1), .val (.int p2), .val (.int p3), .val (.int p4), .val (.int 2), .val (.int d0), .val (.int d1), .val (.int d2), .val (.int d3), .val (.ref fb77), .val (.ref fb90), .val (.int 0)]) rfl ?_
              exact kk
            exact ⟨_, _, (0 : Int32), X107, e107q, N107, ⟨fun q => absurd (q.2 0 (Nat.le_of_ble_eq_true rfl)) mm0, fun _ => rfl⟩, pre120⟩
      have fc521 := (O90.keep K98)
      have fc522 := (fc97.keep K98 (allS lo_fb90 all0))
      have fc524 := (Nat.le_trans fc99 K98.1)
      obtain ⟨_, _, ⟨T523, L523, k523, n523⟩, -, X523, ⟨Lc523, hQ523, l523, y523, z523⟩, st523⟩ := Jvm.LawKit.callS X103 hx (y := (⟨"com/example/hulse/hulse/environment/internal/ListIndex", "matches", "(Ljava/lang/String;)Z"⟩ : MethodName)) hown (mvT hZ (gw hw 24 rfl)) (mvT hZ (gw hw 25 rfl)) (mvT hZ (gw hw 26 rfl)) (mvT hZ (gw hw 27 rfl)) (by decide) (backOf (W := 0) (own_mt l Z a0 hw [] fb90 t98 kb98 [d0, d1] (0 : Int32) _ _ G1 G3 T98.heap n0 fc524 fc521.exa Fv98 Fc98 Vt98 (Or.inl ⟨rfl, rfl, rfl, fun z hz => ((own_pc ⟨hd0.1, hall.1⟩ (own_pc ⟨hd1.1, hall.2⟩ own_p0)) z hz).2⟩) (own_qc hd0 (own_qc hd1 own_q0)) (Nat.le_of_ble_eq_true rfl) AD HB LB O2 P5 O4 rG3 fc522 (Nat.le_of_ble_eq_true rfl)) hZ (gw hw 27 rfl) (gw hw 26 rfl) (by decide) (by decide)) (g := (mkF m 188 #[.val (.int p0), .val (.int p1), .val (.int p2), .val (.int p3), .val (.int p4), .val (.int 2), .val (.int d0), .val (.int d1), .val (.int d2), .val (.int d3), .val (.ref fb77), .val (.ref fb90), .val (.int ee)] [(.ref fb90)])) rfl (by rw [hml]; rfl) (argsL := [(.ref fb90)]) (rest := []) (lenOf pd__Ljava_lang_String__Z rfl) rfl (by show 2 * 0 + _ ≤ _; exact Nat.le_of_eq rfl) (hb hby at_188) (fun _ _ => ⟨rfl, e103, (by decide : 3 + 0 ≤ _), (by decide : 8 + 0 ≤ _)⟩)
      dsimp only [Pt.U, Pt.locs, Pt.cells, Pt.slots] at X523 l523 y523 z523 st523 hQ523
      subst l523 y523 z523
      obtain ⟨rz, rfl, N523q, e523q, hrz⟩ := hQ523
      have N523 := Fr.app N103 N523q
      have pre525 : ∀ t, Steps p.tables e below (T523.setTop (mkF m 191 #[.val (.int p0), .val (.int p1), .val (.int p2), .val (.int p3), .val (.int p4), .val (.int 2), .val (.int d0), .val (.int d1), .val (.int d2), .val (.int d3), .val (.ref fb77), .val (.ref fb90), .val (.int ee)] [(.int rz)])) t → Steps p.tables e below (s₁.setTop (entryFrame m #[(.int p0), (.int p1), (.int p2), (.int p3), (.int p4)] maxLocals)) t := by
        intro t kk
        refine pre103 t ?_
        refine XS.aload X103.here hx rfl (hb hby at_186) rfl rfl ?_
        exact st523 _ kk
      have hre : rz = ee := by
        by_cases q : (own_M [d0, d1])
        · rw [hrz.1 q, hee.1 q]
        · rw [hrz.2 q, hee.2 q]
      have fc526 := (Nat.le_trans (Nat.le_trans (Nat.le_trans (Nat.le_trans (Nat.le_trans hk0 E77.1) (Keep.of_wr W81).1) (Keep.of_wr W85).1) E90.1) K98.1)
      obtain ⟨fs, hr, hrun, hended, hRW⟩ := X523.leaveW hS0 (by rw [e523q]; exact fc526) (v := some (.int 1)) (fun h => by rw [Bd.returns] at h; cases h)
      have CRe := CHr.trans CR100 (CHv.at X523 hZ hEL CR100.1)
      refine ⟨_, _, pre525 _ ?_, hrun, hended, _, _, rfl, ?_, ?_, hRW.1, hRW.2.1, hRW.2.2.1, hRW.2.2.2.mono (by decide) (by decide)⟩
      · refine XS.iload X523.here hx rfl (hb hby at_191) rfl ?_
        refine XS.icmpNo X523.here hx rfl (hb hby at_193) rfl (teq hre).2 ?_
        refine XS.iconst X523.here hx rfl (hb hby at_196) ?_
        refine XS.goto X523.here hx rfl (pc0 := 197) (pc' := 201) rfl (hb hby at_197) (by decide) (by decide) ?_
        exact retN X523 hx (t := .boolean) Bd.returns (by simp) (hb hby at_201) hr
      · show Q_own_law Z p0 p1 p2 p3 p4 G1 G3 h0 n0 _ T523.heap _
        rw [e523q]
        exact ⟨rfl, N523⟩
      · show CHr Z own_EL s.vm s.heap T523.vm T523.heap
        rw [hh]
        rw [e523q]
        exact CRe
    case neg =>
      have hwd : (255 : Int32) < d0 ∨ (255 : Int32) < d1 := Classical.byContradiction fun q => hall ⟨fun z => q (Or.inl z), fun z => q (Or.inr z)⟩
      have fc527 := (V85.ext E90)
      have fc528 := ((((XO.ext E77).wr W81 lo_fb77).wr W85 lo_fb77).ext E90)
      have fc530 := (Nat.le_trans fc91 E90.1)
      obtain ⟨_, _, ⟨T529, L529, k529, n529⟩, -, X529, ⟨Lc529, hQ529, l529, y529, z529⟩, st529⟩ := X90.specialBack hx (y := (⟨"java/lang/String", "<init>", "([C)V"⟩ : MethodName)) rfl hown (mvT hZ (gw hw 6 rfl)) (mvT hZ (gw hw 7 rfl)) (mvT hZ (gw hw 8 rfl)) (by decide) (backOf (W := 1) (own_i12 l Z a0 hw [] fb90 fb77 k77 d0 d1 G1 h90 n0 fc530 O90 lo_fb90 fc527 hd0 hd1 hwd AD HB LB O2 P5 fc528) hZ (gw hw 8 rfl) (gw hw 5 rfl) (by decide) (by decide)) (g := (mkF m 96 #[.val (.int p0), .val (.int p1), .val (.int p2), .val (.int p3), .val (.int p4), .val (.int 2), .val (.int d0), .val (.int d1), .val (.int d2), .val (.int d3), .val (.ref fb77), .unset, .unset] [(.ref fb77), (.ref fb90), (.ref fb90)])) rfl (by rw [hml]; rfl) (Steps.refl _) (a := fb90) (argsL := [(.ref fb77)]) (rest := [(.ref fb90)]) (lenOf pd___C_V rfl) rfl (by show 2 * 0 + _ ≤ _; exact Nat.le_of_eq rfl) (hb hby at_96) (fun _ _ => ⟨rfl, e90, (by decide : 2 + 2 ≤ _), (by decide : 6 + 6 ≤ _)⟩)
      dsimp only [Pt.U, Pt.locs, Pt.cells, Pt.slots] at X529 l529 y529 z529 st529 hQ529
      subst l529 y529 z529
      obtain ⟨rfl, N529q, K529, wb, wk, z1, z2, z3, z4⟩ := hQ529
      have N529 := Fr.app N85 N529q
      have SA531 : ∀ y ∈ [fb90], Safe Z own_EL _ _ y := (sfS sf94_fb90 sf0)
      have CR531 := CHr.trans CR94 (CHr.keep K529 SA531 CR94.1)
      have sf531_fb90 := (Safe.keep K529 SA531 CR94.1 sf94_fb90)
      have pre532 : ∀ t, Steps p.tables e below (T529.setTop (mkF m 99 #[.val (.int p0), .val (.int p1), .val (.int p2), .val (.int p3), .val (.int p4), .val (.int 2), .val (.int d0), .val (.int d1), .val (.int d2), .val (.int d3), .val (.ref fb77), .unset, .unset] [(.ref fb90)])) t → Steps p.tables e below (s₁.setTop (entryFrame m #[(.int p0), (.int p1), (.int p2), (.int p3), (.int p4)] maxLocals)) t := by
        intro t kk
        refine pre95 t ?_
        refine XS.dup X90.here hx rfl (hb hby at_93) rfl rfl ?_
        refine XS.aload X90.here hx rfl (hb hby at_94) rfl rfl ?_
        exact st529.trans kk
      have pre533 : ∀ t, Steps p.tables e below (T529.setTop (mkF m 101 #[.val (.int p0), .val (.int p1), .val (.int p2), .val (.int p3), .val (.int p4), .val (.int 2), .val (.int d0), .val (.int d1), .val (.int d2), .val (.int d3), .val (.ref fb77), .val (.ref fb90), .unset] [])) t → Steps p.tables e below (s₁.setTop (entryFrame m #[(.int p0), (.int p1), (.int p2), (.int p3), (.int p4)] maxLocals)) t := by
        intro t kk
        refine pre532 t ?_
        refine XS.astore X529.here hx rfl (hb hby at_99) rfl rfl (l' := #[.val (.int p0), .val (.int p1), .val (.int p2), .val (.int p3), .val (.int p4), .val (.int 2), .val (.int d0), .val (.int d1), .val (.int d2), .val (.int d3), .val (.ref fb77), .val (.ref fb90), .unset]) rfl ?_
        exact kk
      obtain ⟨T534, Lj534, ee, X534, e534, N534, hee, pre534⟩ : ∃ (T' : State) (lc : List Loc) (ee : Int32), Stand p l e room_1 (s.setVm s.vm) m #[(.int p0), (.int p1), (.int p2), (.int p3), (.int p4)] below meth c T' lc 4 12 ∧ T'.heap = T529.heap ∧ Fr n0 lc ∧ (((own_M [d0, d1]) → ee = 1) ∧ (¬ (own_M [d0, d1]) → ee = 0)) ∧ ∀ t, Steps p.tables e below (T'.setTop (mkF m 186 #[.val (.int p0), .val (.int p1), .val (.int p2), .val (.int p3), .val (.int p4), .val (.int 2), .val (.int d0), .val (.int d1), .val (.int d2), .val (.int d3), .val (.ref fb77), .val (.ref fb90), .val (.int ee)] [])) t → Steps p.tables e below (s₁.setTop (entryFrame m #[(.int p0), (.int p1), (.int p2), (.int p3), (.int p4)] maxLocals)) t := by
        have hbr535 : ¬ ((2 : Int32) = (0 : Int32)) := by decide
        have hbr536 : ¬ ((2 : Int32) = (1 : Int32)) := by decide
        by_cases hz : d0 = (48 : Int32)
        case pos =>
          have pre537 : ∀ t, Steps p.tables e below (T529.setTop (mkF m 186 #[.val (.int p0), .val (.int p1), .val (.int p2), .val (.int p3), .val (.int p4), .val (.int 2), .val (.int d0), .val (.int d1), .val (.int d2), .val (.int d3), .val (.ref fb77), .val (.ref fb90), .val (.int 0)] [])) t → Steps p.tables e below (s₁.setTop (entryFrame m #[(.int p0), (.int p1), (.int p2), (.int p3), (.int p4)] maxLocals)) t := by
            intro t kk
            refine pre533 t ?_
            refine XS.iload X529.here hx rfl (hb hby at_101) rfl ?_
            refine XS.ifYes X529.here hx rfl (pc0 := 103) (pc' := 112) rfl (hb hby at_103) rfl ((if0 _ _).trans (feq hbr535).2) (by decide) (by decide) ?_
            refine XS.iload X529.here hx rfl (hb hby at_112) rfl ?_
            refine XS.iconst X529.here hx rfl (hb hby at_114) ?_
            refine XS.icmpYes X529.here hx rfl (pc0 := 115) (pc' := 128) rfl (hb hby at_115) rfl (feq hbr536).2 (by decide) (by decide) ?_
            refine XS.iload X529.here hx rfl (hb hby at_128) rfl ?_
            refine XS.bipush X529.here hx rfl (hb hby at_130) ?_
            refine XS.icmpYes X529.here hx rfl (pc0 := 132) (pc' := 183) rfl (hb hby at_132) rfl (teq hz).1 (by decide) (by decide) ?_
            show Steps p.tables e below (T529.setTop (mkF m 183 #[.val (.int p0), .val (.int p1), .val (.int p2), .val (.int p3), .val (.int p4), .val (.int 2), .val (.int d0), .val (.int d1), .val (.int d2), .val (.int d3), .val (.ref fb77), .val (.ref fb90), .unset] [])) _
            refine XS.iconst X529.here hx rfl (hb hby at_183) ?_
            refine XS.istore X529.here hx rfl (hb hby at_184) rfl (l' := #[.val (.int p0), .val (.int p1), .val (.int p2), .val (.int p3), .val (.int p4), .val (.int 2), .val (.int d0), .val (.int d1), .val (.int d2), .val (.int d3), .val (.ref fb77), .val (.ref fb90), .val (.int 0)]) rfl ?_
            exact kk
          exact ⟨_, _, (0 : Int32), X529, rfl, N529, ⟨fun q => q.1.elim (fun z => absurd z (by simp)) fun z => absurd hz z, fun _ => rfl⟩, pre537⟩
        case neg =>
          have fc539 := (Nat.le_trans fc530 K529.1)
          obtain ⟨_, _, ⟨T538, L538, k538, n538⟩, -, X538, ⟨Lc538, hQ538, l538, y538, z538⟩, st538⟩ := Jvm.LawKit.callS X529 hx (y := (⟨"com/example/hulse/hulse/environment/internal/ListIndexMatchesPinLaw", "dig", "(C)Z"⟩ : MethodName)) hown (mvT hZ (gw hw 54 rfl)) (mvT hZ (gw hw 55 rfl)) (mvT hZ (gw hw 56 rfl)) (mvT hZ (gw hw 57 rfl)) (by decide) (backOf (W := 0) (own_dig l Z a0 hw [] d0 T529.heap n0 fc539) hZ (gw hw 57 rfl) (gw hw 56 rfl) (by decide) (by decide)) (g := (mkF m 137 #[.val (.int p0), .val (.int p1), .val (.int p2), .val (.int p3), .val (.int p4), .val (.int 2), .val (.int d0), .val (.int d1), .val (.int d2), .val (.int d3), .val (.ref fb77), .val (.ref fb90), .unset] [(.int d0)])) rfl (by rw [hml]; rfl) (argsL := [(.int d0)]) (rest := []) (lenOf pd__C_Z rfl) rfl (by show 2 * 0 + _ ≤ _; exact Nat.le_of_eq rfl) (hb hby at_137) (fun _ _ => ⟨rfl, rfl, (by decide : 4 + 0 ≤ _), (by decide : 12 + 0 ≤ _)⟩)
          dsimp only [Pt.U, Pt.locs, Pt.cells, Pt.slots] at X538 l538 y538 z538 st538 hQ538
          subst l538 y538 z538
          obtain ⟨rr0, rfl, N538q, e538q, ra0, rb0⟩ := hQ538
          have N538 := Fr.app N529 N538q
          have pre540 : ∀ t, Steps p.tables e below (T538.setTop (mkF m 140 #[.val (.int p0), .val (.int p1), .val (.int p2), .val (.int p3), .val (.int p4), .val (.int 2), .val (.int d0), .val (.int d1), .val (.int d2), .val (.int d3), .val (.ref fb77), .val (.ref fb90), .unset] [(.int rr0)])) t → Steps p.tables e below (s₁.setTop (entryFrame m #[(.int p0), (.int p1), (.int p2), (.int p3), (.int p4)] maxLocals)) t := by
            intro t kk
            refine pre533 t ?_
            refine XS.iload X529.here hx rfl (hb hby at_101) rfl ?_
            refine XS.ifYes X529.here hx rfl (pc0 := 103) (pc' := 112) rfl (hb hby at_103) rfl ((if0 _ _).trans (feq hbr535).2) (by decide) (by decide) ?_
            refine XS.iload X529.here hx rfl (hb hby at_112) rfl ?_
            refine XS.iconst X529.here hx rfl (hb hby at_114) ?_
            refine XS.icmpYes X529.here hx rfl (pc0 := 115) (pc' := 128) rfl (hb hby at_115) rfl (feq hbr536).2 (by decide) (by decide) ?_
            refine XS.iload X529.here hx rfl (hb hby at_128) rfl ?_
            refine XS.bipush X529.here hx rfl (hb hby at_130) ?_
            refine XS.icmpNo X529.here hx rfl (hb hby at_132) rfl (feq hz).1 ?_
            show Steps p.tables e below (T529.setTop (mkF m 135 #[.val (.int p0), .val (.int p1), .val (.int p2), .val (.int p3), .val (.int p4), .val (.int 2), .val (.int d0), .val (.int d1), .val (.int d2), .val (.int d3), .val (.ref fb77), .val (.ref fb90), .unset] [])) _
            refine XS.iload X529.here hx rfl (hb hby at_135) rfl ?_
            exact st538 _ kk
          by_cases mm0 : own_dg d0
          case pos =>
            have hbr541 : ¬ (rr0 = (0 : Int32)) := by rw [ra0 mm0]; decide
            obtain ⟨_, _, ⟨T542, L542, k542, n542⟩, -, X542, ⟨Lc542, hQ542, l542, y542, z542⟩, st542⟩ := Jvm.LawKit.callS X538 hx (y := (⟨"com/example/hulse/hulse/environment/internal/ListIndexMatchesPinLaw", "dig", "(C)Z"⟩ : MethodName)) hown (mvT hZ (gw hw 54 rfl)) (mvT hZ (gw hw 55 rfl)) (mvT hZ (gw hw 56 rfl)) (mvT hZ (gw hw 57 rfl)) (by decide) (backOf (W := 0) (own_dig l Z a0 hw [] d1 T529.heap n0 fc539) hZ (gw hw 57 rfl) (gw hw 56 rfl) (by decide) (by decide)) (g := (mkF m 145 #[.val (.int p0), .val (.int p1), .val (.int p2), .val (.int p3), .val (.int p4), .val (.int 2), .val (.int d0), .val (.int d1), .val (.int d2), .val (.int d3), .val (.ref fb77), .val (.ref fb90), .unset] [(.int d1)])) rfl (by rw [hml]; rfl) (argsL := [(.int d1)]) (rest := []) (lenOf pd__C_Z rfl) rfl (by show 2 * 0 + _ ≤ _; exact Nat.le_of_eq rfl) (hb hby at_145) (fun _ _ => ⟨rfl, e538q, (by decide : 4 + 0 ≤ _), (by decide : 12 + 0 ≤ _)⟩)
            dsimp only [Pt.U, Pt.locs, Pt.cells, Pt.slots] at X542 l542 y542 z542 st542 hQ542
            subst l542 y542 z542
            obtain ⟨rr1, rfl, N542q, e542q, ra1, rb1⟩ := hQ542
            have N542 := Fr.app N538 N542q
            have pre543 : ∀ t, Steps p.tables e below (T542.setTop (mkF m 148 #[.val (.int p0), .val (.int p1), .val (.int p2), .val (.int p3), .val (.int p4), .val (.int 2), .val (.int d0), .val (.int d1), .val (.int d2), .val (.int d3), .val (.ref fb77), .val (.ref fb90), .unset] [(.int rr1)])) t → Steps p.tables e below (s₁.setTop (entryFrame m #[(.int p0), (.int p1), (.int p2), (.int p3), (.int p4)] maxLocals)) t := by
              intro t kk
              refine pre540 t ?_
              refine XS.ifNo X538.here hx rfl (hb hby at_140) rfl ((if0 _ _).trans (feq hbr541).1) ?_
              refine XS.iload X538.here hx rfl (hb hby at_143) rfl ?_
              exact st542 _ kk
            by_cases mm1 : own_dg d1
            case pos =>
              have hbr544 : ¬ (rr1 = (0 : Int32)) := by rw [ra1 mm1]; decide
              have hbr545 : (2 : Int32) < (3 : Int32) := by decide
              have hbr546 : (2 : Int32) < (4 : Int32) := by decide
              have pre547 : ∀ t, Steps p.tables e below (T542.setTop (mkF m 186 #[.val (.int p0), .val (.int p1), .val (.int p2), .val (.int p3), .val (.int p4), .val (.int 2), .val (.int d0), .val (.int d1), .val (.int d2), .val (.int d3), .val (.ref fb77), .val (.ref fb90), .val (.int 1)] [])) t → Steps p.tables e below (s₁.setTop (entryFrame m #[(.int p0), (.int p1), (.int p2), (.int p3), (.int p4)] maxLocals)) t := by
                intro t kk
                refine pre543 t ?_
                refine XS.ifNo X542.here hx rfl (hb hby at_148) rfl ((if0 _ _).trans (feq hbr544).1) ?_
                refine XS.iload X542.here hx rfl (hb hby at_151) rfl ?_
                refine XS.iconst X542.here hx rfl (hb hby at_153) ?_
                refine XS.icmpYes X542.here hx rfl (pc0 := 154) (pc' := 165) rfl (hb hby at_154) rfl (tlt hbr545).1 (by decide) (by decide) ?_
                refine XS.iload X542.here hx rfl (hb hby at_165) rfl ?_
                refine XS.iconst X542.here hx rfl (hb hby at_167) ?_
                refine XS.icmpYes X542.here hx rfl (pc0 := 168) (pc' := 179) rfl (hb hby at_168) rfl (tlt hbr546).1 (by decide) (by decide) ?_
                refine XS.iconst X542.here hx rfl (hb hby at_179) ?_
                show Steps p.tables e below (T542.setTop (mkF m 180 #[.val (.int p0), .val (.int p1), .val (.int p2), .val (.int p3), .val (.int p4), .val (.int 2), .val (.int d0), .val (.int d1), .val (.int d2), .val (.int d3), .val (.ref fb77), .val (.ref fb90), .unset] [(.int 1)])) _
                refine XS.goto X542.here hx rfl (pc0 := 180) (pc' := 184) rfl (hb hby at_180) (by decide) (by decide) ?_
                refine XS.istore X542.here hx rfl (hb hby at_184) rfl (l' := #[.val (.int p0), .val (.int p1), .val (.int p2), .val (.int p3), .val (.int p4), .val (.int 2), .val (.int d0), .val (.int d1), .val (.int d2), .val (.int d3), .val (.ref fb77), .val (.ref fb90), .val (.int 1)]) rfl ?_
                exact kk
              exact ⟨_, _, (1 : Int32), X542, e542q, N542, ⟨fun _ => rfl, fun q => absurd (⟨Or.inr hz, fun i hi => by
                match i, hi with
                | 0, _ => exact mm0
                | 1, _ => exact mm1⟩ : (own_M [d0, d1])) q⟩, pre547⟩
            case neg =>
              have hbr548 : rr1 = (0 : Int32) := rb1 mm1
              have pre549 : ∀ t, Steps p.tables e below (T542.setTop (mkF m 186 #[.val (.int p0), .val (.int p1), .val (.int p2), .val (.int p3), .val (.int p4), .val (.int 2), .val (.int d0), .val (.int d1), .val (.int d2), .val (.int d3), .val (.ref fb77), .val (.ref fb90), .val (.int 0)] [])) t → Steps p.tables e below (s₁.setTop (entryFrame m #[(.int p0), (.int p1), (.int p2), (.int p3), (.int p4)] maxLocals)) t := by
                intro t kk
                refine pre543 t ?_
                refine XS.ifYes X542.here hx rfl (pc0 := 148) (pc' := 183) rfl (hb hby at_148) rfl ((if0 _ _).trans (teq hbr548).1) (by decide) (by decide) ?_
                refine XS.iconst X542.here hx rfl (hb hby at_183) ?_
                refine XS.istore X542.here hx rfl (hb hby at_184) rfl (l' := #[.val (.int p0), .val (.int p1), .val (.int p2), .val (.int p3), .val (.int p4), .val (.int 2), .val (.int d0), .val (.int d1), .val (.int d2), .val (.int d3), .val (.ref fb77), .val (.ref fb90), .val (.int 0)]) rfl ?_
                exact kk
              exact ⟨_, _, (0 : Int32), X542, e542q, N542, ⟨fun q => absurd (q.2 1 (Nat.le_of_ble_eq_true rfl)) mm1, fun _ => rfl⟩, pre549⟩
          case neg =>
            have hbr550 : rr0 = (0 : Int32) := rb0 mm0
            have pre551 : ∀ t, Steps p.tables e below (T538.setTop (mkF m 186 #[.val (.int p0), .val (.int p1), .val (.int p2), .val (.int p3), .val (.int p4), .val (.int 2), .val (.int d0), .val (.int d1), .val (.int d2), .val (.int d3), .val (.ref fb77), .val (.ref fb90), .val (.int 0)] [])) t → Steps p.tables e below (s₁.setTop (entryFrame m #[(.int p0), (.int p1), (.int p2), (.int p3), (.int p4)] maxLocals)) t := by
              intro t kk
              refine pre540 t ?_
              refine XS.ifYes X538.here hx rfl (pc0 := 140) (pc' := 183) rfl (hb hby at_140) rfl ((if0 _ _).trans (teq hbr550).1) (by decide) (by decide) ?_
              refine XS.iconst X538.here hx rfl (hb hby at_183) ?_
              refine XS.istore X538.here hx rfl (hb hby at_184) rfl (l' := #[.val (.int p0), .val (.int p1), .val (.int p2), .val (.int p3), .val (.int p4), .val (.int 2), .val (.int d0), .val (.int d1), .val (.int d2), .val (.int d3), .val (.ref fb77), .val (.ref fb90), .val (.int 0)]) rfl ?_
              exact kk
            exact ⟨_, _, (0 : Int32), X538, e538q, N538, ⟨fun q => absurd (q.2 0 (Nat.le_of_ble_eq_true rfl)) mm0, fun _ => rfl⟩, pre551⟩
      have fc952 := (O90.keep K529)
      have fc953 := (fc528.keep K529 (allS lo_fb90 all0))
      have fc955 := (Nat.le_trans fc530 K529.1)
      obtain ⟨_, _, ⟨T954, L954, k954, n954⟩, -, X954, ⟨Lc954, hQ954, l954, y954, z954⟩, st954⟩ := Jvm.LawKit.callS X534 hx (y := (⟨"com/example/hulse/hulse/environment/internal/ListIndex", "matches", "(Ljava/lang/String;)Z"⟩ : MethodName)) hown (mvT hZ (gw hw 24 rfl)) (mvT hZ (gw hw 25 rfl)) (mvT hZ (gw hw 26 rfl)) (mvT hZ (gw hw 27 rfl)) (by decide) (backOf (W := 0) (own_mt l Z a0 hw [] fb90 wb wk [d0, d1] (1 : Int32) _ _ G1 G3 T529.heap n0 fc955 fc952.exa z2 z3 z4 (Or.inr ⟨rfl, rfl, rfl⟩) (own_qc hd0 (own_qc hd1 own_q0)) (Nat.le_of_ble_eq_true rfl) AD HB LB O2 P5 O4 rG3 fc953 (Nat.le_of_ble_eq_true rfl)) hZ (gw hw 27 rfl) (gw hw 26 rfl) (by decide) (by decide)) (g := (mkF m 188 #[.val (.int p0), .val (.int p1), .val (.int p2), .val (.int p3), .val (.int p4), .val (.int 2), .val (.int d0), .val (.int d1), .val (.int d2), .val (.int d3), .val (.ref fb77), .val (.ref fb90), .val (.int ee)] [(.ref fb90)])) rfl (by rw [hml]; rfl) (argsL := [(.ref fb90)]) (rest := []) (lenOf pd__Ljava_lang_String__Z rfl) rfl (by show 2 * 0 + _ ≤ _; exact Nat.le_of_eq rfl) (hb hby at_188) (fun _ _ => ⟨rfl, e534, (by decide : 4 + 0 ≤ _), (by decide : 12 + 0 ≤ _)⟩)
      dsimp only [Pt.U, Pt.locs, Pt.cells, Pt.slots] at X954 l954 y954 z954 st954 hQ954
      subst l954 y954 z954
      obtain ⟨rz, rfl, N954q, e954q, hrz⟩ := hQ954
      have N954 := Fr.app N534 N954q
      have pre956 : ∀ t, Steps p.tables e below (T954.setTop (mkF m 191 #[.val (.int p0), .val (.int p1), .val (.int p2), .val (.int p3), .val (.int p4), .val (.int 2), .val (.int d0), .val (.int d1), .val (.int d2), .val (.int d3), .val (.ref fb77), .val (.ref fb90), .val (.int ee)] [(.int rz)])) t → Steps p.tables e below (s₁.setTop (entryFrame m #[(.int p0), (.int p1), (.int p2), (.int p3), (.int p4)] maxLocals)) t := by
        intro t kk
        refine pre534 t ?_
        refine XS.aload X534.here hx rfl (hb hby at_186) rfl rfl ?_
        exact st954 _ kk
      have hre : rz = ee := by
        by_cases q : (own_M [d0, d1])
        · rw [hrz.1 q, hee.1 q]
        · rw [hrz.2 q, hee.2 q]
      have fc957 := (Nat.le_trans (Nat.le_trans (Nat.le_trans (Nat.le_trans (Nat.le_trans hk0 E77.1) (Keep.of_wr W81).1) (Keep.of_wr W85).1) E90.1) K529.1)
      obtain ⟨fs, hr, hrun, hended, hRW⟩ := X954.leaveW hS0 (by rw [e954q]; exact fc957) (v := some (.int 1)) (fun h => by rw [Bd.returns] at h; cases h)
      have CRe := CHr.trans CR531 (CHv.at X954 hZ hEL CR531.1)
      refine ⟨_, _, pre956 _ ?_, hrun, hended, _, _, rfl, ?_, ?_, hRW.1, hRW.2.1, hRW.2.2.1, hRW.2.2.2.mono (by decide) (by decide)⟩
      · refine XS.iload X954.here hx rfl (hb hby at_191) rfl ?_
        refine XS.icmpNo X954.here hx rfl (hb hby at_193) rfl (teq hre).2 ?_
        refine XS.iconst X954.here hx rfl (hb hby at_196) ?_
        refine XS.goto X954.here hx rfl (pc0 := 197) (pc' := 201) rfl (hb hby at_197) (by decide) (by decide) ?_
        exact retN X954 hx (t := .boolean) Bd.returns (by simp) (hb hby at_201) hr
      · show Q_own_law Z p0 p1 p2 p3 p4 G1 G3 h0 n0 _ T954.heap _
        rw [e954q]
        exact ⟨rfl, N954⟩
      · show CHr Z own_EL s.vm s.heap T954.vm T954.heap
        rw [hh]
        rw [e954q]
        exact CRe
  · skip
    obtain ⟨fb958, g958⟩ : ∃ z, z = h0.size := ⟨_, rfl⟩
    have lo_fb958 : n0 ≤ fb958 := Nat.le_trans Z0 (Nat.le_of_eq g958.symm)
    have hi_fb958 : h0.size ≤ fb958 := Nat.le_trans (Keep.refl h0 []).1 (Nat.le_of_eq g958.symm)
    obtain ⟨T958, h958, k958, X958, e958, E958, A958, st958⟩ := newP X0 hx hZ (gw hw 2 rfl) e0 (g := (mkF m 39 #[.val (.int p0), .val (.int p1), .val (.int p2), .val (.int p3), .val (.int p4), .val (.int 3), .val (.int d0), .val (.int d1), .val (.int d2), .val (.int d3), .unset, .unset, .unset] [(.int 3)])) rfl (hb hby at_39) rfl (by decide) (cap := 3) (by decide) (by decide) (by decide) (by decide)
    rw [← g958] at A958 st958
    have V958 : Arv Z h958 fb958 k958 .char (3 : Int32) [(.int 0), (.int 0), (.int 0)] (.int 0) := (Arv.new A958 (by decide)).pad (pad_rep [] (.int 0) 3)
    have CR959 := CHr.trans CR0 (CHr.ext E958 CR0.1)
    have pre960 : ∀ t, Steps p.tables e below (T958.setTop (mkF m 41 #[.val (.int p0), .val (.int p1), .val (.int p2), .val (.int p3), .val (.int p4), .val (.int 3), .val (.int d0), .val (.int d1), .val (.int d2), .val (.int d3), .unset, .unset, .unset] [(.ref fb958)])) t → Steps p.tables e below (s₁.setTop (entryFrame m #[(.int p0), (.int p1), (.int p2), (.int p3), (.int p4)] maxLocals)) t := by
      intro t kk
      refine pre2 t ?_
      exact st958 _ kk
    have hbr961 : (0 : Int32) < (3 : Int32) := by decide
    obtain ⟨cl962, Ar962, q962, S962, M962, H962, Gv962⟩ := id V958
    obtain ⟨T962, h962, X962, e962, W962, st962⟩ := stC X958 hx hZ e958 Ar962 (j := (0 : Int32)) (inb_of S962 ⟨(by decide), (by decide)⟩) (g := (mkF m 53 #[.val (.int p0), .val (.int p1), .val (.int p2), .val (.int p3), .val (.int p4), .val (.int 3), .val (.int d0), .val (.int d1), .val (.int d2), .val (.int d3), .val (.ref fb958), .unset, .unset] [(.int d0), (.int 0), (.ref fb958)])) rfl rfl (hb hby at_53)
    have V962 : Arv Z h962 fb958 k958 .char (3 : Int32) [(.int (nar .char d0)), (.int 0), (.int 0)] (.int 0) := Arv.set Ar962 q962 S962 M962 H962 Gv962 (fits_nar_char _) W962 0 rfl (Nat.le_of_ble_eq_true rfl)
    have SA963 := (Safe.arv (EL := own_EL) hZ.alike V958 (by decide))
    have CR963 := CHr.trans CR959 (CHr.wr W962 SA963 CR959.1)
    have N962 := Fr.snoc X962 N0 lo_fb958
    have pre964 : ∀ t, Steps p.tables e below (T962.setTop (mkF m 54 #[.val (.int p0), .val (.int p1), .val (.int p2), .val (.int p3), .val (.int p4), .val (.int 3), .val (.int d0), .val (.int d1), .val (.int d2), .val (.int d3), .val (.ref fb958), .unset, .unset] [])) t → Steps p.tables e below (s₁.setTop (entryFrame m #[(.int p0), (.int p1), (.int p2), (.int p3), (.int p4)] maxLocals)) t := by
      intro t kk
      refine pre960 t ?_
      refine XS.astore X958.here hx rfl (hb hby at_41) rfl rfl (l' := #[.val (.int p0), .val (.int p1), .val (.int p2), .val (.int p3), .val (.int p4), .val (.int 3), .val (.int d0), .val (.int d1), .val (.int d2), .val (.int d3), .val (.ref fb958), .unset, .unset]) rfl ?_
      refine XS.iload X958.here hx rfl (hb hby at_43) rfl ?_
      refine XS.ifNo X958.here hx rfl (hb hby at_45) rfl ((if0 _ _).trans (tlt hbr961).2.2.2) ?_
      refine XS.aload X958.here hx rfl (hb hby at_48) rfl rfl ?_
      refine XS.iconst X958.here hx rfl (hb hby at_50) ?_
      refine XS.iload X958.here hx rfl (hb hby at_51) rfl ?_
      exact st962 _ kk
    rw [own_n16 hd0] at V962
    have hbr965 : (1 : Int32) < (3 : Int32) := by decide
    obtain ⟨cl966, Ar966, q966, S966, M966, H966, Gv966⟩ := id V962
    obtain ⟨T966, h966, X966, e966, W966, st966⟩ := stC X962 hx hZ e962 Ar966 (j := (1 : Int32)) (inb_of S966 ⟨(by decide), (by decide)⟩) (g := (mkF m 65 #[.val (.int p0), .val (.int p1), .val (.int p2), .val (.int p3), .val (.int p4), .val (.int 3), .val (.int d0), .val (.int d1), .val (.int d2), .val (.int d3), .val (.ref fb958), .unset, .unset] [(.int d1), (.int 1), (.ref fb958)])) rfl rfl (hb hby at_65)
    have V966 : Arv Z h966 fb958 k958 .char (3 : Int32) [(.int d0), (.int (nar .char d1)), (.int 0)] (.int 0) := Arv.set Ar966 q966 S966 M966 H966 Gv966 (fits_nar_char _) W966 1 rfl (Nat.le_of_ble_eq_true rfl)
    have SA967 := (Safe.arv (EL := own_EL) hZ.alike V962 (by decide))
    have CR967 := CHr.trans CR963 (CHr.wr W966 SA967 CR963.1)
    have N966 := Fr.snoc X966 N962 lo_fb958
    have pre968 : ∀ t, Steps p.tables e below (T966.setTop (mkF m 66 #[.val (.int p0), .val (.int p1), .val (.int p2), .val (.int p3), .val (.int p4), .val (.int 3), .val (.int d0), .val (.int d1), .val (.int d2), .val (.int d3), .val (.ref fb958), .unset, .unset] [])) t → Steps p.tables e below (s₁.setTop (entryFrame m #[(.int p0), (.int p1), (.int p2), (.int p3), (.int p4)] maxLocals)) t := by
      intro t kk
      refine pre964 t ?_
      refine XS.iload X962.here hx rfl (hb hby at_54) rfl ?_
      refine XS.iconst X962.here hx rfl (hb hby at_56) ?_
      refine XS.icmpNo X962.here hx rfl (hb hby at_57) rfl (tlt hbr965).2.2.2 ?_
      refine XS.aload X962.here hx rfl (hb hby at_60) rfl rfl ?_
      refine XS.iconst X962.here hx rfl (hb hby at_62) ?_
      refine XS.iload X962.here hx rfl (hb hby at_63) rfl ?_
      exact st966 _ kk
    rw [own_n16 hd1] at V966
    have hbr969 : (2 : Int32) < (3 : Int32) := by decide
    obtain ⟨cl970, Ar970, q970, S970, M970, H970, Gv970⟩ := id V966
    obtain ⟨T970, h970, X970, e970, W970, st970⟩ := stC X966 hx hZ e966 Ar970 (j := (2 : Int32)) (inb_of S970 ⟨(by decide), (by decide)⟩) (g := (mkF m 77 #[.val (.int p0), .val (.int p1), .val (.int p2), .val (.int p3), .val (.int p4), .val (.int 3), .val (.int d0), .val (.int d1), .val (.int d2), .val (.int d3), .val (.ref fb958), .unset, .unset] [(.int d2), (.int 2), (.ref fb958)])) rfl rfl (hb hby at_77)
    have V970 : Arv Z h970 fb958 k958 .char (3 : Int32) [(.int d0), (.int d1), (.int (nar .char d2))] (.int 0) := Arv.set Ar970 q970 S970 M970 H970 Gv970 (fits_nar_char _) W970 2 rfl (Nat.le_of_ble_eq_true rfl)
    have SA971 := (Safe.arv (EL := own_EL) hZ.alike V966 (by decide))
    have CR971 := CHr.trans CR967 (CHr.wr W970 SA971 CR967.1)
    have N970 := Fr.snoc X970 N966 lo_fb958
    have pre972 : ∀ t, Steps p.tables e below (T970.setTop (mkF m 78 #[.val (.int p0), .val (.int p1), .val (.int p2), .val (.int p3), .val (.int p4), .val (.int 3), .val (.int d0), .val (.int d1), .val (.int d2), .val (.int d3), .val (.ref fb958), .unset, .unset] [])) t → Steps p.tables e below (s₁.setTop (entryFrame m #[(.int p0), (.int p1), (.int p2), (.int p3), (.int p4)] maxLocals)) t := by
      intro t kk
      refine pre968 t ?_
      refine XS.iload X966.here hx rfl (hb hby at_66) rfl ?_
      refine XS.iconst X966.here hx rfl (hb hby at_68) ?_
      refine XS.icmpNo X966.here hx rfl (hb hby at_69) rfl (tlt hbr969).2.2.2 ?_
      refine XS.aload X966.here hx rfl (hb hby at_72) rfl rfl ?_
      refine XS.iconst X966.here hx rfl (hb hby at_74) ?_
      refine XS.iload X966.here hx rfl (hb hby at_75) rfl ?_
      exact st970 _ kk
    rw [own_n16 hd2] at V970
    have hbr973 : ¬ ((3 : Int32) < (3 : Int32)) := by decide
    obtain ⟨fb974, g974⟩ : ∃ z, z = h970.size := ⟨_, rfl⟩
    have ne_fb958_fb974 : fb958 ≠ fb974 := Nat.ne_of_lt (Nat.lt_of_lt_of_le V970.lt (Nat.le_of_eq g974.symm))
    have fc975 := (Nat.le_trans (Nat.le_trans (Nat.le_trans (Nat.le_trans Z0 E958.1) (Keep.of_wr W962).1) (Keep.of_wr W966).1) (Keep.of_wr W970).1)
    have lo_fb974 : n0 ≤ fb974 := Nat.le_trans fc975 (Nat.le_of_eq g974.symm)
    have fc976 := (((((Keep.refl h0 []).ext E958).wr W962 (Or.inr hi_fb958)).wr W966 (Or.inr hi_fb958)).wr W970 (Or.inr hi_fb958))
    have hi_fb974 : h0.size ≤ fb974 := Nat.le_trans fc976.1 (Nat.le_of_eq g974.symm)
    have sf977_fb974 : Safe Z own_EL _ _ fb974 := Safe.new (h := h970) (vm := s.vm) (Nat.le_of_eq g974.symm)
    obtain ⟨T974, h974, X974, e974, E974, A974, D974, B974, st974⟩ := newO X970 hx hZ hown (gw hw 3 rfl) (gw hw 4 rfl) (gw hw 5 rfl) e970 (g := (mkF m 90 #[.val (.int p0), .val (.int p1), .val (.int p2), .val (.int p3), .val (.int p4), .val (.int 3), .val (.int d0), .val (.int d1), .val (.int d2), .val (.int d3), .val (.ref fb958), .unset, .unset] [])) rfl (hb hby at_90) (by decide) (by decide)
    rw [← g974] at A974 D974 B974 st974
    have O974 := Obj.of A974 B974
    have CR978 := CHr.trans CR971 (CHr.ext E974 CR971.1)
    have sf978_fb974 := (Safe.ext E974 CR971.1 sf977_fb974)
    have F974_value : Fld Z h974 fb974 "java/lang/String" "value" "[B" .null := D974 (Or.inr (gw hw 18 rfl)) (ty := (.array .byte)) (by decide)
    have F974_coder : Fld Z h974 fb974 "java/lang/String" "coder" "B" (.int 0) := D974 (Or.inr (gw hw 19 rfl)) (ty := .byte) (by decide)
    have pre979 : ∀ t, Steps p.tables e below (T974.setTop (mkF m 93 #[.val (.int p0), .val (.int p1), .val (.int p2), .val (.int p3), .val (.int p4), .val (.int 3), .val (.int d0), .val (.int d1), .val (.int d2), .val (.int d3), .val (.ref fb958), .unset, .unset] [(.ref fb974)])) t → Steps p.tables e below (s₁.setTop (entryFrame m #[(.int p0), (.int p1), (.int p2), (.int p3), (.int p4)] maxLocals)) t := by
      intro t kk
      refine pre972 t ?_
      refine XS.iload X970.here hx rfl (hb hby at_78) rfl ?_
      refine XS.iconst X970.here hx rfl (hb hby at_80) ?_
      refine XS.icmpYes X970.here hx rfl (pc0 := 81) (pc' := 90) rfl (hb hby at_81) rfl (flt hbr973).2.2.2 (by decide) (by decide) ?_
      exact st974 _ kk
    by_cases hall : ¬ (255 : Int32) < d0 ∧ ¬ (255 : Int32) < d1 ∧ ¬ (255 : Int32) < d2
    case pos =>
      have fc980 := (V970.ext E974)
      have fc981 := (((((XO.ext E958).wr W962 lo_fb958).wr W966 lo_fb958).wr W970 lo_fb958).ext E974)
      have fc983 := (Nat.le_trans fc975 E974.1)
      obtain ⟨_, _, ⟨T982, L982, k982, n982⟩, -, X982, ⟨Lc982, hQ982, l982, y982, z982⟩, st982⟩ := X974.specialBack hx (y := (⟨"java/lang/String", "<init>", "([C)V"⟩ : MethodName)) rfl hown (mvT hZ (gw hw 6 rfl)) (mvT hZ (gw hw 7 rfl)) (mvT hZ (gw hw 8 rfl)) (by decide) (StrChars.Road.backV (W := 1) hZ hws (kI := 4) (gw hw 4 rfl) (cs := ([d0, d1, d2] : List Int32)) (bs := ([d0, d1, d2] : List Int32).map (fun c => c.toInt8.toInt32)) (n := 3) lo_fb974 fc983 O974.exa F974_value F974_coder fc980 (O2.ext fc981.2) P5 rfl rfl (by decide) (by decide) (own_pc ⟨hd0.1, hall.1⟩ (own_pc ⟨hd1.1, hall.2.1⟩ (own_pc ⟨hd2.1, hall.2.2⟩ own_p0))) rfl (by decide) (by decide)) (g := (mkF m 96 #[.val (.int p0), .val (.int p1), .val (.int p2), .val (.int p3), .val (.int p4), .val (.int 3), .val (.int d0), .val (.int d1), .val (.int d2), .val (.int d3), .val (.ref fb958), .unset, .unset] [(.ref fb958), (.ref fb974), (.ref fb974)])) rfl (by rw [hml]; rfl) (Steps.refl _) (a := fb974) (argsL := [(.ref fb958)]) (rest := [(.ref fb974)]) (lenOf pd___C_V rfl) rfl (by show 2 * 0 + _ ≤ _; exact Nat.le_of_eq rfl) (hb hby at_96) (fun _ _ => ⟨rfl, e974, (by decide : 2 + 1 ≤ _), (by decide : 7 + 3 ≤ _)⟩)
      dsimp only [Pt.U, Pt.locs, Pt.cells, Pt.slots] at X982 l982 y982 z982 st982 hQ982
      subst l982 y982 z982
      obtain ⟨rfl, N982q, K982, Ex982, Fc982, t982, kb982, u982, lo982, ne982, Fv982, Vt982⟩ := hQ982
      have N982 := Fr.app N970 N982q
      have SA984 : ∀ y ∈ [fb974], Safe Z own_EL _ _ y := (sfS sf978_fb974 sf0)
      have CR984 := CHr.trans CR978 (CHr.keep K982 SA984 CR978.1)
      have sf984_fb974 := (Safe.keep K982 SA984 CR978.1 sf978_fb974)
      have pre985 : ∀ t, Steps p.tables e below (T982.setTop (mkF m 99 #[.val (.int p0), .val (.int p1), .val (.int p2), .val (.int p3), .val (.int p4), .val (.int 3), .val (.int d0), .val (.int d1), .val (.int d2), .val (.int d3), .val (.ref fb958), .unset, .unset] [(.ref fb974)])) t → Steps p.tables e below (s₁.setTop (entryFrame m #[(.int p0), (.int p1), (.int p2), (.int p3), (.int p4)] maxLocals)) t := by
        intro t kk
        refine pre979 t ?_
        refine XS.dup X974.here hx rfl (hb hby at_93) rfl rfl ?_
        refine XS.aload X974.here hx rfl (hb hby at_94) rfl rfl ?_
        exact st982.trans kk
      have ne_fb958_t982 : fb958 ≠ t982 := Nat.ne_of_lt (Nat.lt_of_lt_of_le fc980.lt lo982)
      have pre986 : ∀ t, Steps p.tables e below (T982.setTop (mkF m 101 #[.val (.int p0), .val (.int p1), .val (.int p2), .val (.int p3), .val (.int p4), .val (.int 3), .val (.int d0), .val (.int d1), .val (.int d2), .val (.int d3), .val (.ref fb958), .val (.ref fb974), .unset] [])) t → Steps p.tables e below (s₁.setTop (entryFrame m #[(.int p0), (.int p1), (.int p2), (.int p3), (.int p4)] maxLocals)) t := by
        intro t kk
        refine pre985 t ?_
        refine XS.astore X982.here hx rfl (hb hby at_99) rfl rfl (l' := #[.val (.int p0), .val (.int p1), .val (.int p2), .val (.int p3), .val (.int p4), .val (.int 3), .val (.int d0), .val (.int d1), .val (.int d2), .val (.int d3), .val (.ref fb958), .val (.ref fb974), .unset]) rfl ?_
        exact kk
      obtain ⟨T987, Lj987, ee, X987, e987, N987, hee, pre987⟩ : ∃ (T' : State) (lc : List Loc) (ee : Int32), Stand p l e room_1 (s.setVm s.vm) m #[(.int p0), (.int p1), (.int p2), (.int p3), (.int p4)] below meth c T' lc 3 10 ∧ T'.heap = T982.heap ∧ Fr n0 lc ∧ (((own_M [d0, d1, d2]) → ee = 1) ∧ (¬ (own_M [d0, d1, d2]) → ee = 0)) ∧ ∀ t, Steps p.tables e below (T'.setTop (mkF m 186 #[.val (.int p0), .val (.int p1), .val (.int p2), .val (.int p3), .val (.int p4), .val (.int 3), .val (.int d0), .val (.int d1), .val (.int d2), .val (.int d3), .val (.ref fb958), .val (.ref fb974), .val (.int ee)] [])) t → Steps p.tables e below (s₁.setTop (entryFrame m #[(.int p0), (.int p1), (.int p2), (.int p3), (.int p4)] maxLocals)) t := by
        have hbr988 : ¬ ((3 : Int32) = (0 : Int32)) := by decide
        have hbr989 : ¬ ((3 : Int32) = (1 : Int32)) := by decide
        by_cases hz : d0 = (48 : Int32)
        case pos =>
          have pre990 : ∀ t, Steps p.tables e below (T982.setTop (mkF m 186 #[.val (.int p0), .val (.int p1), .val (.int p2), .val (.int p3), .val (.int p4), .val (.int 3), .val (.int d0), .val (.int d1), .val (.int d2), .val (.int d3), .val (.ref fb958), .val (.ref fb974), .val (.int 0)] [])) t → Steps p.tables e below (s₁.setTop (entryFrame m #[(.int p0), (.int p1), (.int p2), (.int p3), (.int p4)] maxLocals)) t := by
            intro t kk
            refine pre986 t ?_
            refine XS.iload X982.here hx rfl (hb hby at_101) rfl ?_
            refine XS.ifYes X982.here hx rfl (pc0 := 103) (pc' := 112) rfl (hb hby at_103) rfl ((if0 _ _).trans (feq hbr988).2) (by decide) (by decide) ?_
            refine XS.iload X982.here hx rfl (hb hby at_112) rfl ?_
            refine XS.iconst X982.here hx rfl (hb hby at_114) ?_
            refine XS.icmpYes X982.here hx rfl (pc0 := 115) (pc' := 128) rfl (hb hby at_115) rfl (feq hbr989).2 (by decide) (by decide) ?_
            refine XS.iload X982.here hx rfl (hb hby at_128) rfl ?_
            refine XS.bipush X982.here hx rfl (hb hby at_130) ?_
            refine XS.icmpYes X982.here hx rfl (pc0 := 132) (pc' := 183) rfl (hb hby at_132) rfl (teq hz).1 (by decide) (by decide) ?_
            show Steps p.tables e below (T982.setTop (mkF m 183 #[.val (.int p0), .val (.int p1), .val (.int p2), .val (.int p3), .val (.int p4), .val (.int 3), .val (.int d0), .val (.int d1), .val (.int d2), .val (.int d3), .val (.ref fb958), .val (.ref fb974), .unset] [])) _
            refine XS.iconst X982.here hx rfl (hb hby at_183) ?_
            refine XS.istore X982.here hx rfl (hb hby at_184) rfl (l' := #[.val (.int p0), .val (.int p1), .val (.int p2), .val (.int p3), .val (.int p4), .val (.int 3), .val (.int d0), .val (.int d1), .val (.int d2), .val (.int d3), .val (.ref fb958), .val (.ref fb974), .val (.int 0)]) rfl ?_
            exact kk
          exact ⟨_, _, (0 : Int32), X982, rfl, N982, ⟨fun q => q.1.elim (fun z => absurd z (by simp)) fun z => absurd hz z, fun _ => rfl⟩, pre990⟩
        case neg =>
          have fc992 := (Nat.le_trans fc983 K982.1)
          obtain ⟨_, _, ⟨T991, L991, k991, n991⟩, -, X991, ⟨Lc991, hQ991, l991, y991, z991⟩, st991⟩ := Jvm.LawKit.callS X982 hx (y := (⟨"com/example/hulse/hulse/environment/internal/ListIndexMatchesPinLaw", "dig", "(C)Z"⟩ : MethodName)) hown (mvT hZ (gw hw 54 rfl)) (mvT hZ (gw hw 55 rfl)) (mvT hZ (gw hw 56 rfl)) (mvT hZ (gw hw 57 rfl)) (by decide) (backOf (W := 0) (own_dig l Z a0 hw [] d0 T982.heap n0 fc992) hZ (gw hw 57 rfl) (gw hw 56 rfl) (by decide) (by decide)) (g := (mkF m 137 #[.val (.int p0), .val (.int p1), .val (.int p2), .val (.int p3), .val (.int p4), .val (.int 3), .val (.int d0), .val (.int d1), .val (.int d2), .val (.int d3), .val (.ref fb958), .val (.ref fb974), .unset] [(.int d0)])) rfl (by rw [hml]; rfl) (argsL := [(.int d0)]) (rest := []) (lenOf pd__C_Z rfl) rfl (by show 2 * 0 + _ ≤ _; exact Nat.le_of_eq rfl) (hb hby at_137) (fun _ _ => ⟨rfl, rfl, (by decide : 3 + 0 ≤ _), (by decide : 10 + 0 ≤ _)⟩)
          dsimp only [Pt.U, Pt.locs, Pt.cells, Pt.slots] at X991 l991 y991 z991 st991 hQ991
          subst l991 y991 z991
          obtain ⟨rr0, rfl, N991q, e991q, ra0, rb0⟩ := hQ991
          have N991 := Fr.app N982 N991q
          have pre993 : ∀ t, Steps p.tables e below (T991.setTop (mkF m 140 #[.val (.int p0), .val (.int p1), .val (.int p2), .val (.int p3), .val (.int p4), .val (.int 3), .val (.int d0), .val (.int d1), .val (.int d2), .val (.int d3), .val (.ref fb958), .val (.ref fb974), .unset] [(.int rr0)])) t → Steps p.tables e below (s₁.setTop (entryFrame m #[(.int p0), (.int p1), (.int p2), (.int p3), (.int p4)] maxLocals)) t := by
            intro t kk
            refine pre986 t ?_
            refine XS.iload X982.here hx rfl (hb hby at_101) rfl ?_
            refine XS.ifYes X982.here hx rfl (pc0 := 103) (pc' := 112) rfl (hb hby at_103) rfl ((if0 _ _).trans (feq hbr988).2) (by decide) (by decide) ?_
            refine XS.iload X982.here hx rfl (hb hby at_112) rfl ?_
            refine XS.iconst X982.here hx rfl (hb hby at_114) ?_
            refine XS.icmpYes X982.here hx rfl (pc0 := 115) (pc' := 128) rfl (hb hby at_115) rfl (feq hbr989).2 (by decide) (by decide) ?_
            refine XS.iload X982.here hx rfl (hb hby at_128) rfl ?_
            refine XS.bipush X982.here hx rfl (hb hby at_130) ?_
            refine XS.icmpNo X982.here hx rfl (hb hby at_132) rfl (feq hz).1 ?_
            show Steps p.tables e below (T982.setTop (mkF m 135 #[.val (.int p0), .val (.int p1), .val (.int p2), .val (.int p3), .val (.int p4), .val (.int 3), .val (.int d0), .val (.int d1), .val (.int d2), .val (.int d3), .val (.ref fb958), .val (.ref fb974), .unset] [])) _
            refine XS.iload X982.here hx rfl (hb hby at_135) rfl ?_
            exact st991 _ kk
          by_cases mm0 : own_dg d0
          case pos =>
            have hbr994 : ¬ (rr0 = (0 : Int32)) := by rw [ra0 mm0]; decide
            obtain ⟨_, _, ⟨T995, L995, k995, n995⟩, -, X995, ⟨Lc995, hQ995, l995, y995, z995⟩, st995⟩ := Jvm.LawKit.callS X991 hx (y := (⟨"com/example/hulse/hulse/environment/internal/ListIndexMatchesPinLaw", "dig", "(C)Z"⟩ : MethodName)) hown (mvT hZ (gw hw 54 rfl)) (mvT hZ (gw hw 55 rfl)) (mvT hZ (gw hw 56 rfl)) (mvT hZ (gw hw 57 rfl)) (by decide) (backOf (W := 0) (own_dig l Z a0 hw [] d1 T982.heap n0 fc992) hZ (gw hw 57 rfl) (gw hw 56 rfl) (by decide) (by decide)) (g := (mkF m 145 #[.val (.int p0), .val (.int p1), .val (.int p2), .val (.int p3), .val (.int p4), .val (.int 3), .val (.int d0), .val (.int d1), .val (.int d2), .val (.int d3), .val (.ref fb958), .val (.ref fb974), .unset] [(.int d1)])) rfl (by rw [hml]; rfl) (argsL := [(.int d1)]) (rest := []) (lenOf pd__C_Z rfl) rfl (by show 2 * 0 + _ ≤ _; exact Nat.le_of_eq rfl) (hb hby at_145) (fun _ _ => ⟨rfl, e991q, (by decide : 3 + 0 ≤ _), (by decide : 10 + 0 ≤ _)⟩)
            dsimp only [Pt.U, Pt.locs, Pt.cells, Pt.slots] at X995 l995 y995 z995 st995 hQ995
            subst l995 y995 z995
            obtain ⟨rr1, rfl, N995q, e995q, ra1, rb1⟩ := hQ995
            have N995 := Fr.app N991 N995q
            have pre996 : ∀ t, Steps p.tables e below (T995.setTop (mkF m 148 #[.val (.int p0), .val (.int p1), .val (.int p2), .val (.int p3), .val (.int p4), .val (.int 3), .val (.int d0), .val (.int d1), .val (.int d2), .val (.int d3), .val (.ref fb958), .val (.ref fb974), .unset] [(.int rr1)])) t → Steps p.tables e below (s₁.setTop (entryFrame m #[(.int p0), (.int p1), (.int p2), (.int p3), (.int p4)] maxLocals)) t := by
              intro t kk
              refine pre993 t ?_
              refine XS.ifNo X991.here hx rfl (hb hby at_140) rfl ((if0 _ _).trans (feq hbr994).1) ?_
              refine XS.iload X991.here hx rfl (hb hby at_143) rfl ?_
              exact st995 _ kk
            by_cases mm1 : own_dg d1
            case pos =>
              have hbr997 : ¬ (rr1 = (0 : Int32)) := by rw [ra1 mm1]; decide
              have hbr998 : ¬ ((3 : Int32) < (3 : Int32)) := by decide
              obtain ⟨_, _, ⟨T999, L999, k999, n999⟩, -, X999, ⟨Lc999, hQ999, l999, y999, z999⟩, st999⟩ := Jvm.LawKit.callS X995 hx (y := (⟨"com/example/hulse/hulse/environment/internal/ListIndexMatchesPinLaw", "dig", "(C)Z"⟩ : MethodName)) hown (mvT hZ (gw hw 54 rfl)) (mvT hZ (gw hw 55 rfl)) (mvT hZ (gw hw 56 rfl)) (mvT hZ (gw hw 57 rfl)) (by decide) (backOf (W := 0) (own_dig l Z a0 hw [] d2 T982.heap n0 fc992) hZ (gw hw 57 rfl) (gw hw 56 rfl) (by decide) (by decide)) (g := (mkF m 159 #[.val (.int p0), .val (.int p1), .val (.int p2), .val (.int p3), .val (.int p4), .val (.int 3), .val (.int d0), .val (.int d1), .val (.int d2), .val (.int d3), .val (.ref fb958), .val (.ref fb974), .unset] [(.int d2)])) rfl (by rw [hml]; rfl) (argsL := [(.int d2)]) (rest := []) (lenOf pd__C_Z rfl) rfl (by show 2 * 0 + _ ≤ _; exact Nat.le_of_eq rfl) (hb hby at_159) (fun _ _ => ⟨rfl, e995q, (by decide : 3 + 0 ≤ _), (by decide : 10 + 0 ≤ _)⟩)
              dsimp only [Pt.U, Pt.locs, Pt.cells, Pt.slots] at X999 l999 y999 z999 st999 hQ999
              subst l999 y999 z999
              obtain ⟨rr2, rfl, N999q, e999q, ra2, rb2⟩ := hQ999
              have N999 := Fr.app N995 N999q
              have pre1000 : ∀ t, Steps p.tables e below (T999.setTop (mkF m 162 #[.val (.int p0), .val (.int p1), .val (.int p2), .val (.int p3), .val (.int p4), .val (.int 3), .val (.int d0), .val (.int d1), .val (.int d2), .val (.int d3), .val (.ref fb958), .val (.ref fb974), .unset] [(.int rr2)])) t → Steps p.tables e below (s₁.setTop (entryFrame m #[(.int p0), (.int p1), (.int p2), (.int p3), (.int p4)] maxLocals)) t := by
                intro t kk
                refine pre996 t ?_
                refine XS.ifNo X995.here hx rfl (hb hby at_148) rfl ((if0 _ _).trans (feq hbr997).1) ?_
                refine XS.iload X995.here hx rfl (hb hby at_151) rfl ?_
                refine XS.iconst X995.here hx rfl (hb hby at_153) ?_
                refine XS.icmpNo X995.here hx rfl (hb hby at_154) rfl (flt hbr998).1 ?_
                refine XS.iload X995.here hx rfl (hb hby at_157) rfl ?_
                exact st999 _ kk
              by_cases mm2 : own_dg d2
              case pos =>
                have hbr1001 : ¬ (rr2 = (0 : Int32)) := by rw [ra2 mm2]; decide
                have hbr1002 : (3 : Int32) < (4 : Int32) := by decide
                have pre1003 : ∀ t, Steps p.tables e below (T999.setTop (mkF m 186 #[.val (.int p0), .val (.int p1), .val (.int p2), .val (.int p3), .val (.int p4), .val (.int 3), .val (.int d0), .val (.int d1), .val (.int d2), .val (.int d3), .val (.ref fb958), .val (.ref fb974), .val (.int 1)] [])) t → Steps p.tables e below (s₁.setTop (entryFrame m #[(.int p0), (.int p1), (.int p2), (.int p3), (.int p4)] maxLocals)) t := by
                  intro t kk
                  refine pre1000 t ?_
                  refine XS.ifNo X999.here hx rfl (hb hby at_162) rfl ((if0 _ _).trans (feq hbr1001).1) ?_
                  refine XS.iload X999.here hx rfl (hb hby at_165) rfl ?_
                  refine XS.iconst X999.here hx rfl (hb hby at_167) ?_
                  refine XS.icmpYes X999.here hx rfl (pc0 := 168) (pc' := 179) rfl (hb hby at_168) rfl (tlt hbr1002).1 (by decide) (by decide) ?_
                  refine XS.iconst X999.here hx rfl (hb hby at_179) ?_
                  refine XS.goto X999.here hx rfl (pc0 := 180) (pc' := 184) rfl (hb hby at_180) (by decide) (by decide) ?_
                  refine XS.istore X999.here hx rfl (hb hby at_184) rfl (l' := #[.val (.int p0), .val (.int p1), .val (.int p2), .val (.int p3), .val (.int p4), .val (.int 3), .val (.int d0), .val (.int d1), .val (.int d2), .val (.int d3), .val (.ref fb958), .val (.ref fb974), .val (.int 1)]) rfl ?_
                  exact kk
                exact ⟨_, _, (1 : Int32), X999, e999q, N999, ⟨fun _ => rfl, fun q => absurd (⟨Or.inr hz, fun i hi => by
                  match i, hi with
                  | 0, _ => exact mm0
                  | 1, _ => exact mm1
                  | 2, _ => exact mm2⟩ : (own_M [d0, d1, d2])) q⟩, pre1003⟩
              case neg =>
                have hbr1004 : rr2 = (0 : Int32) := rb2 mm2
                have pre1005 : ∀ t, Steps p.tables e below (T999.setTop (mkF m 186 #[.val (.int p0), .val (.int p1), .val (.int p2), .val (.int p3), .val (.int p4), .val (.int 3), .val (.int d0), .val (.int d1), .val (.int d2), .val (.int d3), .val (.ref fb958), .val (.ref fb974), .val (.int 0)] [])) t → Steps p.tables e below (s₁.setTop (entryFrame m #[(.int p0), (.int p1), (.int p2), (.int p3), (.int p4)] maxLocals)) t := by
                  intro t kk
                  refine pre1000 t ?_
                  refine XS.ifYes X999.here hx rfl (pc0 := 162) (pc' := 183) rfl (hb hby at_162) rfl ((if0 _ _).trans (teq hbr1004).1) (by decide) (by decide) ?_
                  refine XS.iconst X999.here hx rfl (hb hby at_183) ?_
                  refine XS.istore X999.here hx rfl (hb hby at_184) rfl (l' := #[.val (.int p0), .val (.int p1), .val (.int p2), .val (.int p3), .val (.int p4), .val (.int 3), .val (.int d0), .val (.int d1), .val (.int d2), .val (.int d3), .val (.ref fb958), .val (.ref fb974), .val (.int 0)]) rfl ?_
                  exact kk
                exact ⟨_, _, (0 : Int32), X999, e999q, N999, ⟨fun q => absurd (q.2 2 (Nat.le_of_ble_eq_true rfl)) mm2, fun _ => rfl⟩, pre1005⟩
            case neg =>
              have hbr1006 : rr1 = (0 : Int32) := rb1 mm1
              have pre1007 : ∀ t, Steps p.tables e below (T995.setTop (mkF m 186 #[.val (.int p0), .val (.int p1), .val (.int p2), .val (.int p3), .val (.int p4), .val (.int 3), .val (.int d0), .val (.int d1), .val (.int d2), .val (.int d3), .val (.ref fb958), .val (.ref fb974), .val (.int 0)] [])) t → Steps p.tables e below (s₁.setTop (entryFrame m #[(.int p0), (.int p1), (.int p2), (.int p3), (.int p4)] maxLocals)) t := by
                intro t kk
                refine pre996 t ?_
                refine XS.ifYes X995.here hx rfl (pc0 := 148) (pc' := 183) rfl (hb hby at_148) rfl ((if0 _ _).trans (teq hbr1006).1) (by decide) (by decide) ?_
                refine XS.iconst X995.here hx rfl (hb hby at_183) ?_
                refine XS.istore X995.here hx rfl (hb hby at_184) rfl (l' := #[.val (.int p0), .val (.int p1), .val (.int p2), .val (.int p3), .val (.int p4), .val (.int 3), .val (.int d0), .val (.int d1), .val (.int d2), .val (.int d3), .val (.ref fb958), .val (.ref fb974), .val (.int 0)]) rfl ?_
                exact kk
              exact ⟨_, _, (0 : Int32), X995, e995q, N995, ⟨fun q => absurd (q.2 1 (Nat.le_of_ble_eq_true rfl)) mm1, fun _ => rfl⟩, pre1007⟩
          case neg =>
            have hbr1008 : rr0 = (0 : Int32) := rb0 mm0
            have pre1009 : ∀ t, Steps p.tables e below (T991.setTop (mkF m 186 #[.val (.int p0), .val (.int p1), .val (.int p2), .val (.int p3), .val (.int p4), .val (.int 3), .val (.int d0), .val (.int d1), .val (.int d2), .val (.int d3), .val (.ref fb958), .val (.ref fb974), .val (.int 0)] [])) t → Steps p.tables e below (s₁.setTop (entryFrame m #[(.int p0), (.int p1), (.int p2), (.int p3), (.int p4)] maxLocals)) t := by
              intro t kk
              refine pre993 t ?_
              refine XS.ifYes X991.here hx rfl (pc0 := 140) (pc' := 183) rfl (hb hby at_140) rfl ((if0 _ _).trans (teq hbr1008).1) (by decide) (by decide) ?_
              refine XS.iconst X991.here hx rfl (hb hby at_183) ?_
              refine XS.istore X991.here hx rfl (hb hby at_184) rfl (l' := #[.val (.int p0), .val (.int p1), .val (.int p2), .val (.int p3), .val (.int p4), .val (.int 3), .val (.int d0), .val (.int d1), .val (.int d2), .val (.int d3), .val (.ref fb958), .val (.ref fb974), .val (.int 0)]) rfl ?_
              exact kk
            exact ⟨_, _, (0 : Int32), X991, e991q, N991, ⟨fun q => absurd (q.2 0 (Nat.le_of_ble_eq_true rfl)) mm0, fun _ => rfl⟩, pre1009⟩
      have fc1410 := (O974.keep K982)
      have fc1411 := (fc981.keep K982 (allS lo_fb974 all0))
      have fc1413 := (Nat.le_trans fc983 K982.1)
      obtain ⟨_, _, ⟨T1412, L1412, k1412, n1412⟩, -, X1412, ⟨Lc1412, hQ1412, l1412, y1412, z1412⟩, st1412⟩ := Jvm.LawKit.callS X987 hx (y := (⟨"com/example/hulse/hulse/environment/internal/ListIndex", "matches", "(Ljava/lang/String;)Z"⟩ : MethodName)) hown (mvT hZ (gw hw 24 rfl)) (mvT hZ (gw hw 25 rfl)) (mvT hZ (gw hw 26 rfl)) (mvT hZ (gw hw 27 rfl)) (by decide) (backOf (W := 0) (own_mt l Z a0 hw [] fb974 t982 kb982 [d0, d1, d2] (0 : Int32) _ _ G1 G3 T982.heap n0 fc1413 fc1410.exa Fv982 Fc982 Vt982 (Or.inl ⟨rfl, rfl, rfl, fun z hz => ((own_pc ⟨hd0.1, hall.1⟩ (own_pc ⟨hd1.1, hall.2.1⟩ (own_pc ⟨hd2.1, hall.2.2⟩ own_p0))) z hz).2⟩) (own_qc hd0 (own_qc hd1 (own_qc hd2 own_q0))) (Nat.le_of_ble_eq_true rfl) AD HB LB O2 P5 O4 rG3 fc1411 (Nat.le_of_ble_eq_true rfl)) hZ (gw hw 27 rfl) (gw hw 26 rfl) (by decide) (by decide)) (g := (mkF m 188 #[.val (.int p0), .val (.int p1), .val (.int p2), .val (.int p3), .val (.int p4), .val (.int 3), .val (.int d0), .val (.int d1), .val (.int d2), .val (.int d3), .val (.ref fb958), .val (.ref fb974), .val (.int ee)] [(.ref fb974)])) rfl (by rw [hml]; rfl) (argsL := [(.ref fb974)]) (rest := []) (lenOf pd__Ljava_lang_String__Z rfl) rfl (by show 2 * 0 + _ ≤ _; exact Nat.le_of_eq rfl) (hb hby at_188) (fun _ _ => ⟨rfl, e987, (by decide : 3 + 0 ≤ _), (by decide : 10 + 0 ≤ _)⟩)
      dsimp only [Pt.U, Pt.locs, Pt.cells, Pt.slots] at X1412 l1412 y1412 z1412 st1412 hQ1412
      subst l1412 y1412 z1412
      obtain ⟨rz, rfl, N1412q, e1412q, hrz⟩ := hQ1412
      have N1412 := Fr.app N987 N1412q
      have pre1414 : ∀ t, Steps p.tables e below (T1412.setTop (mkF m 191 #[.val (.int p0), .val (.int p1), .val (.int p2), .val (.int p3), .val (.int p4), .val (.int 3), .val (.int d0), .val (.int d1), .val (.int d2), .val (.int d3), .val (.ref fb958), .val (.ref fb974), .val (.int ee)] [(.int rz)])) t → Steps p.tables e below (s₁.setTop (entryFrame m #[(.int p0), (.int p1), (.int p2), (.int p3), (.int p4)] maxLocals)) t := by
        intro t kk
        refine pre987 t ?_
        refine XS.aload X987.here hx rfl (hb hby at_186) rfl rfl ?_
        exact st1412 _ kk
      have hre : rz = ee := by
        by_cases q : (own_M [d0, d1, d2])
        · rw [hrz.1 q, hee.1 q]
        · rw [hrz.2 q, hee.2 q]
      have fc1415 := (Nat.le_trans (Nat.le_trans (Nat.le_trans (Nat.le_trans (Nat.le_trans (Nat.le_trans hk0 E958.1) (Keep.of_wr W962).1) (Keep.of_wr W966).1) (Keep.of_wr W970).1) E974.1) K982.1)
      obtain ⟨fs, hr, hrun, hended, hRW⟩ := X1412.leaveW hS0 (by rw [e1412q]; exact fc1415) (v := some (.int 1)) (fun h => by rw [Bd.returns] at h; cases h)
      have CRe := CHr.trans CR984 (CHv.at X1412 hZ hEL CR984.1)
      refine ⟨_, _, pre1414 _ ?_, hrun, hended, _, _, rfl, ?_, ?_, hRW.1, hRW.2.1, hRW.2.2.1, hRW.2.2.2.mono (by decide) (by decide)⟩
      · refine XS.iload X1412.here hx rfl (hb hby at_191) rfl ?_
        refine XS.icmpNo X1412.here hx rfl (hb hby at_193) rfl (teq hre).2 ?_
        refine XS.iconst X1412.here hx rfl (hb hby at_196) ?_
        refine XS.goto X1412.here hx rfl (pc0 := 197) (pc' := 201) rfl (hb hby at_197) (by decide) (by decide) ?_
        exact retN X1412 hx (t := .boolean) Bd.returns (by simp) (hb hby at_201) hr
      · show Q_own_law Z p0 p1 p2 p3 p4 G1 G3 h0 n0 _ T1412.heap _
        rw [e1412q]
        exact ⟨rfl, N1412⟩
      · show CHr Z own_EL s.vm s.heap T1412.vm T1412.heap
        rw [hh]
        rw [e1412q]
        exact CRe
    case neg =>
      have hwd : (255 : Int32) < d0 ∨ (255 : Int32) < d1 ∨ (255 : Int32) < d2 := Classical.byContradiction fun q => hall ⟨fun z => q (Or.inl z), fun z => q (Or.inr (Or.inl z)), fun z => q (Or.inr (Or.inr z))⟩
      have fc1416 := (V970.ext E974)
      have fc1417 := (((((XO.ext E958).wr W962 lo_fb958).wr W966 lo_fb958).wr W970 lo_fb958).ext E974)
      have fc1419 := (Nat.le_trans fc975 E974.1)
      obtain ⟨_, _, ⟨T1418, L1418, k1418, n1418⟩, -, X1418, ⟨Lc1418, hQ1418, l1418, y1418, z1418⟩, st1418⟩ := X974.specialBack hx (y := (⟨"java/lang/String", "<init>", "([C)V"⟩ : MethodName)) rfl hown (mvT hZ (gw hw 6 rfl)) (mvT hZ (gw hw 7 rfl)) (mvT hZ (gw hw 8 rfl)) (by decide) (backOf (W := 1) (own_i13 l Z a0 hw [] fb974 fb958 k958 d0 d1 d2 G1 h974 n0 fc1419 O974 lo_fb974 fc1416 hd0 hd1 hd2 hwd AD HB LB O2 P5 fc1417) hZ (gw hw 8 rfl) (gw hw 5 rfl) (by decide) (by decide)) (g := (mkF m 96 #[.val (.int p0), .val (.int p1), .val (.int p2), .val (.int p3), .val (.int p4), .val (.int 3), .val (.int d0), .val (.int d1), .val (.int d2), .val (.int d3), .val (.ref fb958), .unset, .unset] [(.ref fb958), (.ref fb974), (.ref fb974)])) rfl (by rw [hml]; rfl) (Steps.refl _) (a := fb974) (argsL := [(.ref fb958)]) (rest := [(.ref fb974)]) (lenOf pd___C_V rfl) rfl (by show 2 * 0 + _ ≤ _; exact Nat.le_of_eq rfl) (hb hby at_96) (fun _ _ => ⟨rfl, e974, (by decide : 2 + 2 ≤ _), (by decide : 7 + 9 ≤ _)⟩)
      dsimp only [Pt.U, Pt.locs, Pt.cells, Pt.slots] at X1418 l1418 y1418 z1418 st1418 hQ1418
      subst l1418 y1418 z1418
      obtain ⟨rfl, N1418q, K1418, wb, wk, z1, z2, z3, z4⟩ := hQ1418
      have N1418 := Fr.app N970 N1418q
      have SA1420 : ∀ y ∈ [fb974], Safe Z own_EL _ _ y := (sfS sf978_fb974 sf0)
      have CR1420 := CHr.trans CR978 (CHr.keep K1418 SA1420 CR978.1)
      have sf1420_fb974 := (Safe.keep K1418 SA1420 CR978.1 sf978_fb974)
      have pre1421 : ∀ t, Steps p.tables e below (T1418.setTop (mkF m 99 #[.val (.int p0), .val (.int p1), .val (.int p2), .val (.int p3), .val (.int p4), .val (.int 3), .val (.int d0), .val (.int d1), .val (.int d2), .val (.int d3), .val (.ref fb958), .unset, .unset] [(.ref fb974)])) t → Steps p.tables e below (s₁.setTop (entryFrame m #[(.int p0), (.int p1), (.int p2), (.int p3), (.int p4)] maxLocals)) t := by
        intro t kk
        refine pre979 t ?_
        refine XS.dup X974.here hx rfl (hb hby at_93) rfl rfl ?_
        refine XS.aload X974.here hx rfl (hb hby at_94) rfl rfl ?_
        exact st1418.trans kk
      have pre1422 : ∀ t, Steps p.tables e below (T1418.setTop (mkF m 101 #[.val (.int p0), .val (.int p1), .val (.int p2), .val (.int p3), .val (.int p4), .val (.int 3), .val (.int d0), .val (.int d1), .val (.int d2), .val (.int d3), .val (.ref fb958), .val (.ref fb974), .unset] [])) t → Steps p.tables e below (s₁.setTop (entryFrame m #[(.int p0), (.int p1), (.int p2), (.int p3), (.int p4)] maxLocals)) t := by
        intro t kk
        refine pre1421 t ?_
        refine XS.astore X1418.here hx rfl (hb hby at_99) rfl rfl (l' := #[.val (.int p0), .val (.int p1), .val (.int p2), .val (.int p3), .val (.int p4), .val (.int 3), .val (.int d0), .val (.int d1), .val (.int d2), .val (.int d3), .val (.ref fb958), .val (.ref fb974), .unset]) rfl ?_
        exact kk
      obtain ⟨T1423, Lj1423, ee, X1423, e1423, N1423, hee, pre1423⟩ : ∃ (T' : State) (lc : List Loc) (ee : Int32), Stand p l e room_1 (s.setVm s.vm) m #[(.int p0), (.int p1), (.int p2), (.int p3), (.int p4)] below meth c T' lc 4 16 ∧ T'.heap = T1418.heap ∧ Fr n0 lc ∧ (((own_M [d0, d1, d2]) → ee = 1) ∧ (¬ (own_M [d0, d1, d2]) → ee = 0)) ∧ ∀ t, Steps p.tables e below (T'.setTop (mkF m 186 #[.val (.int p0), .val (.int p1), .val (.int p2), .val (.int p3), .val (.int p4), .val (.int 3), .val (.int d0), .val (.int d1), .val (.int d2), .val (.int d3), .val (.ref fb958), .val (.ref fb974), .val (.int ee)] [])) t → Steps p.tables e below (s₁.setTop (entryFrame m #[(.int p0), (.int p1), (.int p2), (.int p3), (.int p4)] maxLocals)) t := by
        have hbr1424 : ¬ ((3 : Int32) = (0 : Int32)) := by decide
        have hbr1425 : ¬ ((3 : Int32) = (1 : Int32)) := by decide
        by_cases hz : d0 = (48 : Int32)
        case pos =>
          have pre1426 : ∀ t, Steps p.tables e below (T1418.setTop (mkF m 186 #[.val (.int p0), .val (.int p1), .val (.int p2), .val (.int p3), .val (.int p4), .val (.int 3), .val (.int d0), .val (.int d1), .val (.int d2), .val (.int d3), .val (.ref fb958), .val (.ref fb974), .val (.int 0)] [])) t → Steps p.tables e below (s₁.setTop (entryFrame m #[(.int p0), (.int p1), (.int p2), (.int p3), (.int p4)] maxLocals)) t := by
            intro t kk
            refine pre1422 t ?_
            refine XS.iload X1418.here hx rfl (hb hby at_101) rfl ?_
            refine XS.ifYes X1418.here hx rfl (pc0 := 103) (pc' := 112) rfl (hb hby at_103) rfl ((if0 _ _).trans (feq hbr1424).2) (by decide) (by decide) ?_
            refine XS.iload X1418.here hx rfl (hb hby at_112) rfl ?_
            refine XS.iconst X1418.here hx rfl (hb hby at_114) ?_
            refine XS.icmpYes X1418.here hx rfl (pc0 := 115) (pc' := 128) rfl (hb hby at_115) rfl (feq hbr1425).2 (by decide) (by decide) ?_
            refine XS.iload X1418.here hx rfl (hb hby at_128) rfl ?_
            refine XS.bipush X1418.here hx rfl (hb hby at_130) ?_
            refine XS.icmpYes X1418.here hx rfl (pc0 := 132) (pc' := 183) rfl (hb hby at_132) rfl (teq hz).1 (by decide) (by decide) ?_
            show Steps p.tables e below (T1418.setTop (mkF m 183 #[.val (.int p0), .val (.int p1), .val (.int p2), .val (.int p3), .val (.int p4), .val (.int 3), .val (.int d0), .val (.int d1), .val (.int d2), .val (.int d3), .val (.ref fb958), .val (.ref fb974), .unset] [])) _
            refine XS.iconst X1418.here hx rfl (hb hby at_183) ?_
            refine XS.istore X1418.here hx rfl (hb hby at_184) rfl (l' := #[.val (.int p0), .val (.int p1), .val (.int p2), .val (.int p3), .val (.int p4), .val (.int 3), .val (.int d0), .val (.int d1), .val (.int d2), .val (.int d3), .val (.ref fb958), .val (.ref fb974), .val (.int 0)]) rfl ?_
            exact kk
          exact ⟨_, _, (0 : Int32), X1418, rfl, N1418, ⟨fun q => q.1.elim (fun z => absurd z (by simp)) fun z => absurd hz z, fun _ => rfl⟩, pre1426⟩
        case neg =>
          have fc1428 := (Nat.le_trans fc1419 K1418.1)
          obtain ⟨_, _, ⟨T1427, L1427, k1427, n1427⟩, -, X1427, ⟨Lc1427, hQ1427, l1427, y1427, z1427⟩, st1427⟩ := Jvm.LawKit.callS X1418 hx (y := (⟨"com/example/hulse/hulse/environment/internal/ListIndexMatchesPinLaw", "dig", "(C)Z"⟩ : MethodName)) hown (mvT hZ (gw hw 54 rfl)) (mvT hZ (gw hw 55 rfl)) (mvT hZ (gw hw 56 rfl)) (mvT hZ (gw hw 57 rfl)) (by decide) (backOf (W := 0) (own_dig l Z a0 hw [] d0 T1418.heap n0 fc1428) hZ (gw hw 57 rfl) (gw hw 56 rfl) (by decide) (by decide)) (g := (mkF m 137 #[.val (.int p0), .val (.int p1), .val (.int p2), .val (.int p3), .val (.int p4), .val (.int 3), .val (.int d0), .val (.int d1), .val (.int d2), .val (.int d3), .val (.ref fb958), .val (.ref fb974), .unset] [(.int d0)])) rfl (by rw [hml]; rfl) (argsL := [(.int d0)]) (rest := []) (lenOf pd__C_Z rfl) rfl (by show 2 * 0 + _ ≤ _; exact Nat.le_of_eq rfl) (hb hby at_137) (fun _ _ => ⟨rfl, rfl, (by decide : 4 + 0 ≤ _), (by decide : 16 + 0 ≤ _)⟩)
          dsimp only [Pt.U, Pt.locs, Pt.cells, Pt.slots] at X1427 l1427 y1427 z1427 st1427 hQ1427
          subst l1427 y1427 z1427
          obtain ⟨rr0, rfl, N1427q, e1427q, ra0, rb0⟩ := hQ1427
          have N1427 := Fr.app N1418 N1427q
          have pre1429 : ∀ t, Steps p.tables e below (T1427.setTop (mkF m 140 #[.val (.int p0), .val (.int p1), .val (.int p2), .val (.int p3), .val (.int p4), .val (.int 3), .val (.int d0), .val (.int d1), .val (.int d2), .val (.int d3), .val (.ref fb958), .val (.ref fb974), .unset] [(.int rr0)])) t → Steps p.tables e below (s₁.setTop (entryFrame m #[(.int p0), (.int p1), (.int p2), (.int p3), (.int p4)] maxLocals)) t := by
            intro t kk
            refine pre1422 t ?_
            refine XS.iload X1418.here hx rfl (hb hby at_101) rfl ?_
            refine XS.ifYes X1418.here hx rfl (pc0 := 103) (pc' := 112) rfl (hb hby at_103) rfl ((if0 _ _).trans (feq hbr1424).2) (by decide) (by decide) ?_
            refine XS.iload X1418.here hx rfl (hb hby at_112) rfl ?_
            refine XS.iconst X1418.here hx rfl (hb hby at_114) ?_
            refine XS.icmpYes X1418.here hx rfl (pc0 := 115) (pc' := 128) rfl (hb hby at_115) rfl (feq hbr1425).2 (by decide) (by decide) ?_
            refine XS.iload X1418.here hx rfl (hb hby at_128) rfl ?_
            refine XS.bipush X1418.here hx rfl (hb hby at_130) ?_
            refine XS.icmpNo X1418.here hx rfl (hb hby at_132) rfl (feq hz).1 ?_
            show Steps p.tables e below (T1418.setTop (mkF m 135 #[.val (.int p0), .val (.int p1), .val (.int p2), .val (.int p3), .val (.int p4), .val (.int 3), .val (.int d0), .val (.int d1), .val (.int d2), .val (.int d3), .val (.ref fb958), .val (.ref fb974), .unset] [])) _
            refine XS.iload X1418.here hx rfl (hb hby at_135) rfl ?_
            exact st1427 _ kk
          by_cases mm0 : own_dg d0
          case pos =>
            have hbr1430 : ¬ (rr0 = (0 : Int32)) := by rw [ra0 mm0]; decide
            obtain ⟨_, _, ⟨T1431, L1431, k1431, n1431⟩, -, X1431, ⟨Lc1431, hQ1431, l1431, y1431, z1431⟩, st1431⟩ := Jvm.LawKit.callS X1427 hx (y := (⟨"com/example/hulse/hulse/environment/internal/ListIndexMatchesPinLaw", "dig", "(C)Z"⟩ : MethodName)) hown (mvT hZ (gw hw 54 rfl)) (mvT hZ (gw hw 55 rfl)) (mvT hZ (gw hw 56 rfl)) (mvT hZ (gw hw 57 rfl)) (by decide) (backOf (W := 0) (own_dig l Z a0 hw [] d1 T1418.heap n0 fc1428) hZ (gw hw 57 rfl) (gw hw 56 rfl) (by decide) (by decide)) (g := (mkF m 145 #[.val (.int p0), .val (.int p1), .val (.int p2), .val (.int p3), .val (.int p4), .val (.int 3), .val (.int d0), .val (.int d1), .val (.int d2), .val (.int d3), .val (.ref fb958), .val (.ref fb974), .unset] [(.int d1)])) rfl (by rw [hml]; rfl) (argsL := [(.int d1)]) (rest := []) (lenOf pd__C_Z rfl) rfl (by show 2 * 0 + _ ≤ _; exact Nat.le_of_eq rfl) (hb hby at_145) (fun _ _ => ⟨rfl, e1427q, (by decide : 4 + 0 ≤ _), (by decide : 16 + 0 ≤ _)⟩)
            dsimp only [Pt.U, Pt.locs, Pt.cells, Pt.slots] at X1431 l1431 y1431 z1431 st1431 hQ1431
            subst l1431 y1431 z1431
            obtain ⟨rr1, rfl, N1431q, e1431q, ra1, rb1⟩ := hQ1431
            have N1431 := Fr.app N1427 N1431q
            have pre1432 : ∀ t, Steps p.tables e below (T1431.setTop (mkF m 148 #[.val (.int p0), .val (.int p1), .val (.int p2), .val (.int p3), .val (.int p4), .val (.int 3), .val (.int d0), .val (.int d1), .val (.int d2), .val (.int d3), .val (.ref fb958), .val (.ref fb974), .unset] [(.int rr1)])) t → Steps p.tables e below (s₁.setTop (entryFrame m #[(.int p0), (.int p1), (.int p2), (.int p3), (.int p4)] maxLocals)) t := by
              intro t kk
              refine pre1429 t ?_
              refine XS.ifNo X1427.here hx rfl (hb hby at_140) rfl ((if0 _ _).trans (feq hbr1430).1) ?_
              refine XS.iload X1427.here hx rfl (hb hby at_143) rfl ?_
              exact st1431 _ kk
            by_cases mm1 : own_dg d1
            case pos =>
              have hbr1433 : ¬ (rr1 = (0 : Int32)) := by rw [ra1 mm1]; decide
              have hbr1434 : ¬ ((3 : Int32) < (3 : Int32)) := by decide
              obtain ⟨_, _, ⟨T1435, L1435, k1435, n1435⟩, -, X1435, ⟨Lc1435, hQ1435, l1435, y1435, z1435⟩, st1435⟩ := Jvm.LawKit.callS X1431 hx (y := (⟨"com/example/hulse/hulse/environment/internal/ListIndexMatchesPinLaw", "dig", "(C)Z"⟩ : MethodName)) hown (mvT hZ (gw hw 54 rfl)) (mvT hZ (gw hw 55 rfl)) (mvT hZ (gw hw 56 rfl)) (mvT hZ (gw hw 57 rfl)) (by decide) (backOf (W := 0) (own_dig l Z a0 hw [] d2 T1418.heap n0 fc1428) hZ (gw hw 57 rfl) (gw hw 56 rfl) (by decide) (by decide)) (g := (mkF m 159 #[.val (.int p0), .val (.int p1), .val (.int p2), .val (.int p3), .val (.int p4), .val (.int 3), .val (.int d0), .val (.int d1), .val (.int d2), .val (.int d3), .val (.ref fb958), .val (.ref fb974), .unset] [(.int d2)])) rfl (by rw [hml]; rfl) (argsL := [(.int d2)]) (rest := []) (lenOf pd__C_Z rfl) rfl (by show 2 * 0 + _ ≤ _; exact Nat.le_of_eq rfl) (hb hby at_159) (fun _ _ => ⟨rfl, e1431q, (by decide : 4 + 0 ≤ _), (by decide : 16 + 0 ≤ _)⟩)
              dsimp only [Pt.U, Pt.locs, Pt.cells, Pt.slots] at X1435 l1435 y1435 z1435 st1435 hQ1435
              subst l1435 y1435 z1435
              obtain ⟨rr2, rfl, N1435q, e1435q, ra2, rb2⟩ := hQ1435
              have N1435 := Fr.app N1431 N1435q
              have pre1436 : ∀ t, Steps p.tables e below (T1435.setTop (mkF m 162 #[.val (.int p0), .val (.int p1), .val (.int p2), .val (.int p3), .val (.int p4), .val (.int 3), .val (.int d0), .val (.int d1), .val (.int d2), .val (.int d3), .val (.ref fb958), .val (.ref fb974), .unset] [(.int rr2)])) t → Steps p.tables e below (s₁.setTop (entryFrame m #[(.int p0), (.int p1), (.int p2), (.int p3), (.int p4)] maxLocals)) t := by
                intro t kk
                refine pre1432 t ?_
                refine XS.ifNo X1431.here hx rfl (hb hby at_148) rfl ((if0 _ _).trans (feq hbr1433).1) ?_
                refine XS.iload X1431.here hx rfl (hb hby at_151) rfl ?_
                refine XS.iconst X1431.here hx rfl (hb hby at_153) ?_
                refine XS.icmpNo X1431.here hx rfl (hb hby at_154) rfl (flt hbr1434).1 ?_
                refine XS.iload X1431.here hx rfl (hb hby at_157) rfl ?_
                exact st1435 _ kk
              by_cases mm2 : own_dg d2
              case pos =>
                have hbr1437 : ¬ (rr2 = (0 : Int32)) := by rw [ra2 mm2]; decide
                have hbr1438 : (3 : Int32) < (4 : Int32) := by decide
                have pre1439 : ∀ t, Steps p.tables e below (T1435.setTop (mkF m 186 #[.val (.int p0), .val (.int p1), .val (.int p2), .val (.int p3), .val (.int p4), .val (.int 3), .val (.int d0), .val (.int d1), .val (.int d2), .val (.int d3), .val (.ref fb958), .val (.ref fb974), .val (.int 1)] [])) t → Steps p.tables e below (s₁.setTop (entryFrame m #[(.int p0), (.int p1), (.int p2), (.int p3), (.int p4)] maxLocals)) t := by
                  intro t kk
                  refine pre1436 t ?_
                  refine XS.ifNo X1435.here hx rfl (hb hby at_162) rfl ((if0 _ _).trans (feq hbr1437).1) ?_
                  refine XS.iload X1435.here hx rfl (hb hby at_165) rfl ?_
                  refine XS.iconst X1435.here hx rfl (hb hby at_167) ?_
                  refine XS.icmpYes X1435.here hx rfl (pc0 := 168) (pc' := 179) rfl (hb hby at_168) rfl (tlt hbr1438).1 (by decide) (by decide) ?_
                  refine XS.iconst X1435.here hx rfl (hb hby at_179) ?_
                  refine XS.goto X1435.here hx rfl (pc0 := 180) (pc' := 184) rfl (hb hby at_180) (by decide) (by decide) ?_
                  refine XS.istore X1435.here hx rfl (hb hby at_184) rfl (l' := #[.val (.int p0), .val (.int p1), .val (.int p2), .val (.int p3), .val (.int p4), .val (.int 3), .val (.int d0), .val (.int d1), .val (.int d2), .val (.int d3), .val (.ref fb958), .val (.ref fb974), .val (.int 1)]) rfl ?_
                  exact kk
                exact ⟨_, _, (1 : Int32), X1435, e1435q, N1435, ⟨fun _ => rfl, fun q => absurd (⟨Or.inr hz, fun i hi => by
                  match i, hi with
                  | 0, _ => exact mm0
                  | 1, _ => exact mm1
                  | 2, _ => exact mm2⟩ : (own_M [d0, d1, d2])) q⟩, pre1439⟩
              case neg =>
                have hbr1440 : rr2 = (0 : Int32) := rb2 mm2
                have pre1441 : ∀ t, Steps p.tables e below (T1435.setTop (mkF m 186 #[.val (.int p0), .val (.int p1), .val (.int p2), .val (.int p3), .val (.int p4), .val (.int 3), .val (.int d0), .val (.int d1), .val (.int d2), .val (.int d3), .val (.ref fb958), .val (.ref fb974), .val (.int 0)] [])) t → Steps p.tables e below (s₁.setTop (entryFrame m #[(.int p0), (.int p1), (.int p2), (.int p3), (.int p4)] maxLocals)) t := by
                  intro t kk
                  refine pre1436 t ?_
                  refine XS.ifYes X1435.here hx rfl (pc0 := 162) (pc' := 183) rfl (hb hby at_162) rfl ((if0 _ _).trans (teq hbr1440).1) (by decide) (by decide) ?_
                  refine XS.iconst X1435.here hx rfl (hb hby at_183) ?_
                  refine XS.istore X1435.here hx rfl (hb hby at_184) rfl (l' := #[.val (.int p0), .val (.int p1), .val (.int p2), .val (.int p3), .val (.int p4), .val (.int 3), .val (.int d0), .val (.int d1), .val (.int d2), .val (.int d3), .val (.ref fb958), .val (.ref fb974), .val (.int 0)]) rfl ?_
                  exact kk
                exact ⟨_, _, (0 : Int32), X1435, e1435q, N1435, ⟨fun q => absurd (q.2 2 (Nat.le_of_ble_eq_true rfl)) mm2, fun _ => rfl⟩, pre1441⟩
            case neg =>
              have hbr1442 : rr1 = (0 : Int32) := rb1 mm1
              have pre1443 : ∀ t, Steps p.tables e below (T1431.setTop (mkF m 186 #[.val (.int p0), .val (.int p1), .val (.int p2), .val (.int p3), .val (.int p4), .val (.int 3), .val (.int d0), .val (.int d1), .val (.int d2), .val (.int d3), .val (.ref fb958), .val (.ref fb974), .val (.int 0)] [])) t → Steps p.tables e below (s₁.setTop (entryFrame m #[(.int p0), (.int p1), (.int p2), (.int p3), (.int p4)] maxLocals)) t := by
                intro t kk
                refine pre1432 t ?_
                refine XS.ifYes X1431.here hx rfl (pc0 := 148) (pc' := 183) rfl (hb hby at_148) rfl ((if0 _ _).trans (teq hbr1442).1) (by decide) (by decide) ?_
                refine XS.iconst X1431.here hx rfl (hb hby at_183) ?_
                refine XS.istore X1431.here hx rfl (hb hby at_184) rfl (l' := #[.val (.int p0), .val (.int p1), .val (.int p2), .val (.int p3), .val (.int p4), .val (.int 3), .val (.int d0), .val (.int d1), .val (.int d2), .val (.int d3), .val (.ref fb958), .val (.ref fb974), .val (.int 0)]) rfl ?_
                exact kk
              exact ⟨_, _, (0 : Int32), X1431, e1431q, N1431, ⟨fun q => absurd (q.2 1 (Nat.le_of_ble_eq_true rfl)) mm1, fun _ => rfl⟩, pre1443⟩
          case neg =>
            have hbr1444 : rr0 = (0 : Int32) := rb0 mm0
            have pre1445 : ∀ t, Steps p.tables e below (T1427.setTop (mkF m 186 #[.val (.int p0), .val (.int p1), .val (.int p2), .val (.int p3), .val (.int p4), .val (.int 3), .val (.int d0), .val (.int d1), .val (.int d2), .val (.int d3), .val (.ref fb958), .val (.ref fb974), .val (.int 0)] [])) t → Steps p.tables e below (s₁.setTop (entryFrame m #[(.int p0), (.int p1), (.int p2), (.int p3), (.int p4)] maxLocals)) t := by
              intro t kk
              refine pre1429 t ?_
              refine XS.ifYes X1427.here hx rfl (pc0 := 140) (pc' := 183) rfl (hb hby at_140) rfl ((if0 _ _).trans (teq hbr1444).1) (by decide) (by decide) ?_
              refine XS.iconst X1427.here hx rfl (hb hby at_183) ?_
              refine XS.istore X1427.here hx rfl (hb hby at_184) rfl (l' := #[.val (.int p0), .val (.int p1), .val (.int p2), .val (.int p3), .val (.int p4), .val (.int 3), .val (.int d0), .val (.int d1), .val (.int d2), .val (.int d3), .val (.ref fb958), .val (.ref fb974), .val (.int 0)]) rfl ?_
              exact kk
            exact ⟨_, _, (0 : Int32), X1427, e1427q, N1427, ⟨fun q => absurd (q.2 0 (Nat.le_of_ble_eq_true rfl)) mm0, fun _ => rfl⟩, pre1445⟩
      have fc1846 := (O974.keep K1418)
      have fc1847 := (fc1417.keep K1418 (allS lo_fb974 all0))
      have fc1849 := (Nat.le_trans fc1419 K1418.1)
      obtain ⟨_, _, ⟨T1848, L1848, k1848, n1848⟩, -, X1848, ⟨Lc1848, hQ1848, l1848, y1848, z1848⟩, st1848⟩ := Jvm.LawKit.callS X1423 hx (y := (⟨"com/example/hulse/hulse/environment/internal/ListIndex", "matches", "(Ljava/lang/String;)Z"⟩ : MethodName)) hown (mvT hZ (gw hw 24 rfl)) (mvT hZ (gw hw 25 rfl)) (mvT hZ (gw hw 26 rfl)) (mvT hZ (gw hw 27 rfl)) (by decide) (backOf (W := 0) (own_mt l Z a0 hw [] fb974 wb wk [d0, d1, d2] (1 : Int32) _ _ G1 G3 T1418.heap n0 fc1849 fc1846.exa z2 z3 z4 (Or.inr ⟨rfl, rfl, rfl⟩) (own_qc hd0 (own_qc hd1 (own_qc hd2 own_q0))) (Nat.le_of_ble_eq_true rfl) AD HB LB O2 P5 O4 rG3 fc1847 (Nat.le_of_ble_eq_true rfl)) hZ (gw hw 27 rfl) (gw hw 26 rfl) (by decide) (by decide)) (g := (mkF m 188 #[.val (.int p0), .val (.int p1), .val (.int p2), .val (.int p3), .val (.int p4), .val (.int 3), .val (.int d0), .val (.int d1), .val (.int d2), .val (.int d3), .val (.ref fb958), .val (.ref fb974), .val (.int ee)] [(.ref fb974)])) rfl (by rw [hml]; rfl) (argsL := [(.ref fb974)]) (rest := []) (lenOf pd__Ljava_lang_String__Z rfl) rfl (by show 2 * 0 + _ ≤ _; exact Nat.le_of_eq rfl) (hb hby at_188) (fun _ _ => ⟨rfl, e1423, (by decide : 4 + 0 ≤ _), (by decide : 16 + 0 ≤ _)⟩)
      dsimp only [Pt.U, Pt.locs, Pt.cells, Pt.slots] at X1848 l1848 y1848 z1848 st1848 hQ1848
      subst l1848 y1848 z1848
      obtain ⟨rz, rfl, N1848q, e1848q, hrz⟩ := hQ1848
      have N1848 := Fr.app N1423 N1848q
      have pre1850 : ∀ t, Steps p.tables e below (T1848.setTop (mkF m 191 #[.val (.int p0), .val (.int p1), .val (.int p2), .val (.int p3), .val (.int p4), .val (.int 3), .val (.int d0), .val (.int d1), .val (.int d2), .val (.int d3), .val (.ref fb958), .val (.ref fb974), .val (.int ee)] [(.int rz)])) t → Steps p.tables e below (s₁.setTop (entryFrame m #[(.int p0), (.int p1), (.int p2), (.int p3), (.int p4)] maxLocals)) t := by
        intro t kk
        refine pre1423 t ?_
        refine XS.aload X1423.here hx rfl (hb hby at_186) rfl rfl ?_
        exact st1848 _ kk
      have hre : rz = ee := by
        by_cases q : (own_M [d0, d1, d2])
        · rw [hrz.1 q, hee.1 q]
        · rw [hrz.2 q, hee.2 q]
      have fc1851 := (Nat.le_trans (Nat.le_trans (Nat.le_trans (Nat.le_trans (Nat.le_trans (Nat.le_trans hk0 E958.1) (Keep.of_wr W962).1) (Keep.of_wr W966).1) (Keep.of_wr W970).1) E974.1) K1418.1)
      obtain ⟨fs, hr, hrun, hended, hRW⟩ := X1848.leaveW hS0 (by rw [e1848q]; exact fc1851) (v := some (.int 1)) (fun h => by rw [Bd.returns] at h; cases h)
      have CRe := CHr.trans CR1420 (CHv.at X1848 hZ hEL CR1420.1)
      refine ⟨_, _, pre1850 _ ?_, hrun, hended, _, _, rfl, ?_, ?_, hRW.1, hRW.2.1, hRW.2.2.1, hRW.2.2.2.mono (by decide) (by decide)⟩
      · refine XS.iload X1848.here hx rfl (hb hby at_191) rfl ?_
        refine XS.icmpNo X1848.here hx rfl (hb hby at_193) rfl (teq hre).2 ?_
        refine XS.iconst X1848.here hx rfl (hb hby at_196) ?_
        refine XS.goto X1848.here hx rfl (pc0 := 197) (pc' := 201) rfl (hb hby at_197) (by decide) (by decide) ?_
        exact retN X1848 hx (t := .boolean) Bd.returns (by simp) (hb hby at_201) hr
      · show Q_own_law Z p0 p1 p2 p3 p4 G1 G3 h0 n0 _ T1848.heap _
        rw [e1848q]
        exact ⟨rfl, N1848⟩
      · show CHr Z own_EL s.vm s.heap T1848.vm T1848.heap
        rw [hh]
        rw [e1848q]
        exact CRe
  · skip
    obtain ⟨fb1852, g1852⟩ : ∃ z, z = h0.size := ⟨_, rfl⟩
    have lo_fb1852 : n0 ≤ fb1852 := Nat.le_trans Z0 (Nat.le_of_eq g1852.symm)
    have hi_fb1852 : h0.size ≤ fb1852 := Nat.le_trans (Keep.refl h0 []).1 (Nat.le_of_eq g1852.symm)
    obtain ⟨T1852, h1852, k1852, X1852, e1852, E1852, A1852, st1852⟩ := newP X0 hx hZ (gw hw 2 rfl) e0 (g := (mkF m 39 #[.val (.int p0), .val (.int p1), .val (.int p2), .val (.int p3), .val (.int p4), .val (.int 4), .val (.int d0), .val (.int d1), .val (.int d2), .val (.int d3), .unset, .unset, .unset] [(.int 4)])) rfl (hb hby at_39) rfl (by decide) (cap := 4) (by decide) (by decide) (by decide) (by decide)
    rw [← g1852] at A1852 st1852
    have V1852 : Arv Z h1852 fb1852 k1852 .char (4 : Int32) [(.int 0), (.int 0), (.int 0), (.int 0)] (.int 0) := (Arv.new A1852 (by decide)).pad (pad_rep [] (.int 0) 4)
    have CR1853 := CHr.trans CR0 (CHr.ext E1852 CR0.1)
    have pre1854 : ∀ t, Steps p.tables e below (T1852.setTop (mkF m 41 #[.val (.int p0), .val (.int p1), .val (.int p2), .val (.int p3), .val (.int p4), .val (.int 4), .val (.int d0), .val (.int d1), .val (.int d2), .val (.int d3), .unset, .unset, .unset] [(.ref fb1852)])) t → Steps p.tables e below (s₁.setTop (entryFrame m #[(.int p0), (.int p1), (.int p2), (.int p3), (.int p4)] maxLocals)) t := by
      intro t kk
      refine pre2 t ?_
      exact st1852 _ kk
    have hbr1855 : (0 : Int32) < (4 : Int32) := by decide
    obtain ⟨cl1856, Ar1856, q1856, S1856, M1856, H1856, Gv1856⟩ := id V1852
    obtain ⟨T1856, h1856, X1856, e1856, W1856, st1856⟩ := stC X1852 hx hZ e1852 Ar1856 (j := (0 : Int32)) (inb_of S1856 ⟨(by decide), (by decide)⟩) (g := (mkF m 53 #[.val (.int p0), .val (.int p1), .val (.int p2), .val (.int p3), .val (.int p4), .val (.int 4), .val (.int d0), .val (.int d1), .val (.int d2), .val (.int d3), .val (.ref fb1852), .unset, .unset] [(.int d0), (.int 0), (.ref fb1852)])) rfl rfl (hb hby at_53)
    have V1856 : Arv Z h1856 fb1852 k1852 .char (4 : Int32) [(.int (nar .char d0)), (.int 0), (.int 0), (.int 0)] (.int 0) := Arv.set Ar1856 q1856 S1856 M1856 H1856 Gv1856 (fits_nar_char _) W1856 0 rfl (Nat.le_of_ble_eq_true rfl)
    have SA1857 := (Safe.arv (EL := own_EL) hZ.alike V1852 (by decide))
    have CR1857 := CHr.trans CR1853 (CHr.wr W1856 SA1857 CR1853.1)
    have N1856 := Fr.snoc X1856 N0 lo_fb1852
    have pre1858 : ∀ t, Steps p.tables e below (T1856.setTop (mkF m 54 #[.val (.int p0), .val (.int p1), .val (.int p2), .val (.int p3), .val (.int p4), .val (.int 4), .val (.int d0), .val (.int d1), .val (.int d2), .val (.int d3), .val (.ref fb1852), .unset, .unset] [])) t → Steps p.tables e below (s₁.setTop (entryFrame m #[(.int p0), (.int p1), (.int p2), (.int p3), (.int p4)] maxLocals)) t := by
      intro t kk
      refine pre1854 t ?_
      refine XS.astore X1852.here hx rfl (hb hby at_41) rfl rfl (l' := #[.val (.int p0), .val (.int p1), .val (.int p2), .val (.int p3), .val (.int p4), .val (.int 4), .val (.int d0), .val (.int d1), .val (.int d2), .val (.int d3), .val (.ref fb1852), .unset, .unset]) rfl ?_
      refine XS.iload X1852.here hx rfl (hb hby at_43) rfl ?_
      refine XS.ifNo X1852.here hx rfl (hb hby at_45) rfl ((if0 _ _).trans (tlt hbr1855).2.2.2) ?_
      refine XS.aload X1852.here hx rfl (hb hby at_48) rfl rfl ?_
      refine XS.iconst X1852.here hx rfl (hb hby at_50) ?_
      refine XS.iload X1852.here hx rfl (hb hby at_51) rfl ?_
      exact st1856 _ kk
    rw [own_n16 hd0] at V1856
    have hbr1859 : (1 : Int32) < (4 : Int32) := by decide
    obtain ⟨cl1860, Ar1860, q1860, S1860, M1860, H1860, Gv1860⟩ := id V1856
    obtain ⟨T1860, h1860, X1860, e1860, W1860, st1860⟩ := stC X1856 hx hZ e1856 Ar1860 (j := (1 : Int32)) (inb_of S1860 ⟨(by decide), (by decide)⟩) (g := (mkF m 65 #[.val (.int p0), .val (.int p1), .val (.int p2), .val (.int p3), .val (.int p4), .val (.int 4), .val (.int d0), .val (.int d1), .val (.int d2), .val (.int d3), .val (.ref fb1852), .unset, .unset] [(.int d1), (.int 1), (.ref fb1852)])) rfl rfl (hb hby at_65)
    have V1860 : Arv Z h1860 fb1852 k1852 .char (4 : Int32) [(.int d0), (.int (nar .char d1)), (.int 0), (.int 0)] (.int 0) := Arv.set Ar1860 q1860 S1860 M1860 H1860 Gv1860 (fits_nar_char _) W1860 1 rfl (Nat.le_of_ble_eq_true rfl)
    have SA1861 := (Safe.arv (EL := own_EL) hZ.alike V1856 (by decide))
    have CR1861 := CHr.trans CR1857 (CHr.wr W1860 SA1861 CR1857.1)
    have N1860 := Fr.snoc X1860 N1856 lo_fb1852
    have pre1862 : ∀ t, Steps p.tables e below (T1860.setTop (mkF m 66 #[.val (.int p0), .val (.int p1), .val (.int p2), .val (.int p3), .val (.int p4), .val (.int 4), .val (.int d0), .val (.int d1), .val (.int d2), .val (.int d3), .val (.ref fb1852), .unset, .unset] [])) t → Steps p.tables e below (s₁.setTop (entryFrame m #[(.int p0), (.int p1), (.int p2), (.int p3), (.int p4)] maxLocals)) t := by
      intro t kk
      refine pre1858 t ?_
      refine XS.iload X1856.here hx rfl (hb hby at_54) rfl ?_
      refine XS.iconst X1856.here hx rfl (hb hby at_56) ?_
      refine XS.icmpNo X1856.here hx rfl (hb hby at_57) rfl (tlt hbr1859).2.2.2 ?_
      refine XS.aload X1856.here hx rfl (hb hby at_60) rfl rfl ?_
      refine XS.iconst X1856.here hx rfl (hb hby at_62) ?_
      refine XS.iload X1856.here hx rfl (hb hby at_63) rfl ?_
      exact st1860 _ kk
    rw [own_n16 hd1] at V1860
    have hbr1863 : (2 : Int32) < (4 : Int32) := by decide
    obtain ⟨cl1864, Ar1864, q1864, S1864, M1864, H1864, Gv1864⟩ := id V1860
    obtain ⟨T1864, h1864, X1864, e1864, W1864, st1864⟩ := stC X1860 hx hZ e1860 Ar1864 (j := (2 : Int32)) (inb_of S1864 ⟨(by decide), (by decide)⟩) (g := (mkF m 77 #[.val (.int p0), .val (.int p1), .val (.int p2), .val (.int p3), .val (.int p4), .val (.int 4), .val (.int d0), .val (.int d1), .val (.int d2), .val (.int d3), .val (.ref fb1852), .unset, .unset] [(.int d2), (.int 2), (.ref fb1852)])) rfl rfl (hb hby at_77)
    have V1864 : Arv Z h1864 fb1852 k1852 .char (4 : Int32) [(.int d0), (.int d1), (.int (nar .char d2)), (.int 0)] (.int 0) := Arv.set Ar1864 q1864 S1864 M1864 H1864 Gv1864 (fits_nar_char _) W1864 2 rfl (Nat.le_of_ble_eq_true rfl)
    have SA1865 := (Safe.arv (EL := own_EL) hZ.alike V1860 (by decide))
    have CR1865 := CHr.trans CR1861 (CHr.wr W1864 SA1865 CR1861.1)
    have N1864 := Fr.snoc X1864 N1860 lo_fb1852
    have pre1866 : ∀ t, Steps p.tables e below (T1864.setTop (mkF m 78 #[.val (.int p0), .val (.int p1), .val (.int p2), .val (.int p3), .val (.int p4), .val (.int 4), .val (.int d0), .val (.int d1), .val (.int d2), .val (.int d3), .val (.ref fb1852), .unset, .unset] [])) t → Steps p.tables e below (s₁.setTop (entryFrame m #[(.int p0), (.int p1), (.int p2), (.int p3), (.int p4)] maxLocals)) t := by
      intro t kk
      refine pre1862 t ?_
      refine XS.iload X1860.here hx rfl (hb hby at_66) rfl ?_
      refine XS.iconst X1860.here hx rfl (hb hby at_68) ?_
      refine XS.icmpNo X1860.here hx rfl (hb hby at_69) rfl (tlt hbr1863).2.2.2 ?_
      refine XS.aload X1860.here hx rfl (hb hby at_72) rfl rfl ?_
      refine XS.iconst X1860.here hx rfl (hb hby at_74) ?_
      refine XS.iload X1860.here hx rfl (hb hby at_75) rfl ?_
      exact st1864 _ kk
    rw [own_n16 hd2] at V1864
    have hbr1867 : (3 : Int32) < (4 : Int32) := by decide
    obtain ⟨cl1868, Ar1868, q1868, S1868, M1868, H1868, Gv1868⟩ := id V1864
    obtain ⟨T1868, h1868, X1868, e1868, W1868, st1868⟩ := stC X1864 hx hZ e1864 Ar1868 (j := (3 : Int32)) (inb_of S1868 ⟨(by decide), (by decide)⟩) (g := (mkF m 89 #[.val (.int p0), .val (.int p1), .val (.int p2), .val (.int p3), .val (.int p4), .val (.int 4), .val (.int d0), .val (.int d1), .val (.int d2), .val (.int d3), .val (.ref fb1852), .unset, .unset] [(.int d3), (.int 3), (.ref fb1852)])) rfl rfl (hb hby at_89)
    have V1868 : Arv Z h1868 fb1852 k1852 .char (4 : Int32) [(.int d0), (.int d1), (.int d2), (.int (nar .char d3))] (.int 0) := Arv.set Ar1868 q1868 S1868 M1868 H1868 Gv1868 (fits_nar_char _) W1868 3 rfl (Nat.le_of_ble_eq_true rfl)
    have SA1869 := (Safe.arv (EL := own_EL) hZ.alike V1864 (by decide))
    have CR1869 := CHr.trans CR1865 (CHr.wr W1868 SA1869 CR1865.1)
    have N1868 := Fr.snoc X1868 N1864 lo_fb1852
    have pre1870 : ∀ t, Steps p.tables e below (T1868.setTop (mkF m 90 #[.val (.int p0), .val (.int p1), .val (.int p2), .val (.int p3), .val (.int p4), .val (.int 4), .val (.int d0), .val (.int d1), .val (.int d2), .val (.int d3), .val (.ref fb1852), .unset, .unset] [])) t → Steps p.tables e below (s₁.setTop (entryFrame m #[(.int p0), (.int p1), (.int p2), (.int p3), (.int p4)] maxLocals)) t := by
      intro t kk
      refine pre1866 t ?_
      refine XS.iload X1864.here hx rfl (hb hby at_78) rfl ?_
      refine XS.iconst X1864.here hx rfl (hb hby at_80) ?_
      refine XS.icmpNo X1864.here hx rfl (hb hby at_81) rfl (tlt hbr1867).2.2.2 ?_
      refine XS.aload X1864.here hx rfl (hb hby at_84) rfl rfl ?_
      refine XS.iconst X1864.here hx rfl (hb hby at_86) ?_
      refine XS.iload X1864.here hx rfl (hb hby at_87) rfl ?_
      exact st1868 _ kk
    rw [own_n16 hd3] at V1868
    obtain ⟨fb1871, g1871⟩ : ∃ z, z = h1868.size := ⟨_, rfl⟩
    have ne_fb1852_fb1871 : fb1852 ≠ fb1871 := Nat.ne_of_lt (Nat.lt_of_lt_of_le V1868.lt (Nat.le_of_eq g1871.symm))
    have fc1872 := (Nat.le_trans (Nat.le_trans (Nat.le_trans (Nat.le_trans (Nat.le_trans Z0 E1852.1) (Keep.of_wr W1856).1) (Keep.of_wr W1860).1) (Keep.of_wr W1864).1) (Keep.of_wr W1868).1)
    have lo_fb1871 : n0 ≤ fb1871 := Nat.le_trans fc1872 (Nat.le_of_eq g1871.symm)
    have fc1873 := ((((((Keep.refl h0 []).ext E1852).wr W1856 (Or.inr hi_fb1852)).wr W1860 (Or.inr hi_fb1852)).wr W1864 (Or.inr hi_fb1852)).wr W1868 (Or.inr hi_fb1852))
    have hi_fb1871 : h0.size ≤ fb1871 := Nat.le_trans fc1873.1 (Nat.le_of_eq g1871.symm)
    have sf1874_fb1871 : Safe Z own_EL _ _ fb1871 := Safe.new (h := h1868) (vm := s.vm) (Nat.le_of_eq g1871.symm)
    obtain ⟨T1871, h1871, X1871, e1871, E1871, A1871, D1871, B1871, st1871⟩ := newO X1868 hx hZ hown (gw hw 3 rfl) (gw hw 4 rfl) (gw hw 5 rfl) e1868 (g := (mkF m 90 #[.val (.int p0), .val (.int p1), .val (.int p2), .val (.int p3), .val (.int p4), .val (.int 4), .val (.int d0), .val (.int d1), .val (.int d2), .val (.int d3), .val (.ref fb1852), .unset, .unset] [])) rfl (hb hby at_90) (by decide) (by decide)
    rw [← g1871] at A1871 D1871 B1871 st1871
    have O1871 := Obj.of A1871 B1871
    have CR1875 := CHr.trans CR1869 (CHr.ext E1871 CR1869.1)
    have sf1875_fb1871 := (Safe.ext E1871 CR1869.1 sf1874_fb1871)
    have F1871_value : Fld Z h1871 fb1871 "java/lang/String" "value" "[B" .null := D1871 (Or.inr (gw hw 18 rfl)) (ty := (.array .byte)) (by decide)
    have F1871_coder : Fld Z h1871 fb1871 "java/lang/String" "coder" "B" (.int 0) := D1871 (Or.inr (gw hw 19 rfl)) (ty := .byte) (by decide)
    have pre1876 : ∀ t, Steps p.tables e below (T1871.setTop (mkF m 93 #[.val (.int p0), .val (.int p1), .val (.int p2), .val (.int p3), .val (.int p4), .val (.int 4), .val (.int d0), .val (.int d1), .val (.int d2), .val (.int d3), .val (.ref fb1852), .unset, .unset] [(.ref fb1871)])) t → Steps p.tables e below (s₁.setTop (entryFrame m #[(.int p0), (.int p1), (.int p2), (.int p3), (.int p4)] maxLocals)) t := by
      intro t kk
      refine pre1870 t ?_
      exact st1871 _ kk
    by_cases hall : ¬ (255 : Int32) < d0 ∧ ¬ (255 : Int32) < d1 ∧ ¬ (255 : Int32) < d2 ∧ ¬ (255 : Int32) < d3
    case pos =>
      have fc1877 := (V1868.ext E1871)
      have fc1878 := ((((((XO.ext E1852).wr W1856 lo_fb1852).wr W1860 lo_fb1852).wr W1864 lo_fb1852).wr W1868 lo_fb1852).ext E1871)
      have fc1880 := (Nat.le_trans fc1872 E1871.1)
      obtain ⟨_, _, ⟨T1879, L1879, k1879, n1879⟩, -, X1879, ⟨Lc1879, hQ1879, l1879, y1879, z1879⟩, st1879⟩ := X1871.specialBack hx (y := (⟨"java/lang/String", "<init>", "([C)V"⟩ : MethodName)) rfl hown (mvT hZ (gw hw 6 rfl)) (mvT hZ (gw hw 7 rfl)) (mvT hZ (gw hw 8 rfl)) (by decide) (StrChars.Road.backV (W := 1) hZ hws (kI := 4) (gw hw 4 rfl) (cs := ([d0, d1, d2, d3] : List Int32)) (bs := ([d0, d1, d2, d3] : List Int32).map (fun c => c.toInt8.toInt32)) (n := 4) lo_fb1871 fc1880 O1871.exa F1871_value F1871_coder fc1877 (O2.ext fc1878.2) P5 rfl rfl (by decide) (by decide) (own_pc ⟨hd0.1, hall.1⟩ (own_pc ⟨hd1.1, hall.2.1⟩ (own_pc ⟨hd2.1, hall.2.2.1⟩ (own_pc ⟨hd3.1, hall.2.2.2⟩ own_p0)))) rfl (by decide) (by decide)) (g := (mkF m 96 #[.val (.int p0), .val (.int p1), .val (.int p2), .val (.int p3), .val (.int p4), .val (.int 4), .val (.int d0), .val (.int d1), .val (.int d2), .val (.int d3), .val (.ref fb1852), .unset, .unset] [(.ref fb1852), (.ref fb1871), (.ref fb1871)])) rfl (by rw [hml]; rfl) (Steps.refl _) (a := fb1871) (argsL := [(.ref fb1852)]) (rest := [(.ref fb1871)]) (lenOf pd___C_V rfl) rfl (by show 2 * 0 + _ ≤ _; exact Nat.le_of_eq rfl) (hb hby at_96) (fun _ _ => ⟨rfl, e1871, (by decide : 2 + 1 ≤ _), (by decide : 8 + 4 ≤ _)⟩)
      dsimp only [Pt.U, Pt.locs, Pt.cells, Pt.slots] at X1879 l1879 y1879 z1879 st1879 hQ1879
      subst l1879 y1879 z1879
      obtain ⟨rfl, N1879q, K1879, Ex1879, Fc1879, t1879, kb1879, u1879, lo1879, ne1879, Fv1879, Vt1879⟩ := hQ1879
      have N1879 := Fr.app N1868 N1879q
      have SA1881 : ∀ y ∈ [fb1871], Safe Z own_EL _ _ y := (sfS sf1875_fb1871 sf0)
      have CR1881 := CHr.trans CR1875 (CHr.keep K1879 SA1881 CR1875.1)
      have sf1881_fb1871 := (Safe.keep K1879 SA1881 CR1875.1 sf1875_fb1871)
      have pre1882 : ∀ t, Steps p.tables e below (T1879.setTop (mkF m 99 #[.val (.int p0), .val (.int p1), .val (.int p2), .val (.int p3), .val (.int p4), .val (.int 4), .val (.int d0), .val (.int d1), .val (.int d2), .val (.int d3), .val (.ref fb1852), .unset, .unset] [(.ref fb1871)])) t → Steps p.tables e below (s₁.setTop (entryFrame m #[(.int p0), (.int p1), (.int p2), (.int p3), (.int p4)] maxLocals)) t := by
        intro t kk
        refine pre1876 t ?_
        refine XS.dup X1871.here hx rfl (hb hby at_93) rfl rfl ?_
        refine XS.aload X1871.here hx rfl (hb hby at_94) rfl rfl ?_
        exact st1879.trans kk
      have ne_fb1852_t1879 : fb1852 ≠ t1879 := Nat.ne_of_lt (Nat.lt_of_lt_of_le fc1877.lt lo1879)
      have pre1883 : ∀ t, Steps p.tables e below (T1879.setTop (mkF m 101 #[.val (.int p0), .val (.int p1), .val (.int p2), .val (.int p3), .val (.int p4), .val (.int 4), .val (.int d0), .val (.int d1), .val (.int d2), .val (.int d3), .val (.ref fb1852), .val (.ref fb1871), .unset] [])) t → Steps p.tables e below (s₁.setTop (entryFrame m #[(.int p0), (.int p1), (.int p2), (.int p3), (.int p4)] maxLocals)) t := by
        intro t kk
        refine pre1882 t ?_
        refine XS.astore X1879.here hx rfl (hb hby at_99) rfl rfl (l' := #[.val (.int p0), .val (.int p1), .val (.int p2), .val (.int p3), .val (.int p4), .val (.int 4), .val (.int d0), .val (.int d1), .val (.int d2), .val (.int d3), .val (.ref fb1852), .val (.ref fb1871), .unset]) rfl ?_
        exact kk
      obtain ⟨T1884, Lj1884, ee, X1884, e1884, N1884, hee, pre1884⟩ : ∃ (T' : State) (lc : List Loc) (ee : Int32), Stand p l e room_1 (s.setVm s.vm) m #[(.int p0), (.int p1), (.int p2), (.int p3), (.int p4)] below meth c T' lc 3 12 ∧ T'.heap = T1879.heap ∧ Fr n0 lc ∧ (((own_M [d0, d1, d2, d3]) → ee = 1) ∧ (¬ (own_M [d0, d1, d2, d3]) → ee = 0)) ∧ ∀ t, Steps p.tables e below (T'.setTop (mkF m 186 #[.val (.int p0), .val (.int p1), .val (.int p2), .val (.int p3), .val (.int p4), .val (.int 4), .val (.int d0), .val (.int d1), .val (.int d2), .val (.int d3), .val (.ref fb1852), .val (.ref fb1871), .val (.int ee)] [])) t → Steps p.tables e below (s₁.setTop (entryFrame m #[(.int p0), (.int p1), (.int p2), (.int p3), (.int p4)] maxLocals)) t := by
        have hbr1885 : ¬ ((4 : Int32) = (0 : Int32)) := by decide
        have hbr1886 : ¬ ((4 : Int32) = (1 : Int32)) := by decide
        by_cases hz : d0 = (48 : Int32)
        case pos =>
          have pre1887 : ∀ t, Steps p.tables e below (T1879.setTop (mkF m 186 #[.val (.int p0), .val (.int p1), .val (.int p2), .val (.int p3), .val (.int p4), .val (.int 4), .val (.int d0), .val (.int d1), .val (.int d2), .val (.int d3), .val (.ref fb1852), .val (.ref fb1871), .val (.int 0)] [])) t → Steps p.tables e below (s₁.setTop (entryFrame m #[(.int p0), (.int p1), (.int p2), (.int p3), (.int p4)] maxLocals)) t := by
            intro t kk
            refine pre1883 t ?_
            refine XS.iload X1879.here hx rfl (hb hby at_101) rfl ?_
            refine XS.ifYes X1879.here hx rfl (pc0 := 103) (pc' := 112) rfl (hb hby at_103) rfl ((if0 _ _).trans (feq hbr1885).2) (by decide) (by decide) ?_
            refine XS.iload X1879.here hx rfl (hb hby at_112) rfl ?_
            refine XS.iconst X1879.here hx rfl (hb hby at_114) ?_
            refine XS.icmpYes X1879.here hx rfl (pc0 := 115) (pc' := 128) rfl (hb hby at_115) rfl (feq hbr1886).2 (by decide) (by decide) ?_
            refine XS.iload X1879.here hx rfl (hb hby at_128) rfl ?_
            refine XS.bipush X1879.here hx rfl (hb hby at_130) ?_
            refine XS.icmpYes X1879.here hx rfl (pc0 := 132) (pc' := 183) rfl (hb hby at_132) rfl (teq hz).1 (by decide) (by decide) ?_
            show Steps p.tables e below (T1879.setTop (mkF m 183 #[.val (.int p0), .val (.int p1), .val (.int p2), .val (.int p3), .val (.int p4), .val (.int 4), .val (.int d0), .val (.int d1), .val (.int d2), .val (.int d3), .val (.ref fb1852), .val (.ref fb1871), .unset] [])) _
            refine XS.iconst X1879.here hx rfl (hb hby at_183) ?_
            refine XS.istore X1879.here hx rfl (hb hby at_184) rfl (l' := #[.val (.int p0), .val (.int p1), .val (.int p2), .val (.int p3), .val (.int p4), .val (.int 4), .val (.int d0), .val (.int d1), .val (.int d2), .val (.int d3), .val (.ref fb1852), .val (.ref fb1871), .val (.int 0)]) rfl ?_
            exact kk
          exact ⟨_, _, (0 : Int32), X1879, rfl, N1879, ⟨fun q => q.1.elim (fun z => absurd z (by simp)) fun z => absurd hz z, fun _ => rfl⟩, pre1887⟩
        case neg =>
          have fc1889 := (Nat.le_trans fc1880 K1879.1)
          obtain ⟨_, _, ⟨T1888, L1888, k1888, n1888⟩, -, X1888, ⟨Lc1888, hQ1888, l1888, y1888, z1888⟩, st1888⟩ := Jvm.LawKit.callS X1879 hx (y := (⟨"com/example/hulse/hulse/environment/internal/ListIndexMatchesPinLaw", "dig", "(C)Z"⟩ : MethodName)) hown (mvT hZ (gw hw 54 rfl)) (mvT hZ (gw hw 55 rfl)) (mvT hZ (gw hw 56 rfl)) (mvT hZ (gw hw 57 rfl)) (by decide) (backOf (W := 0) (own_dig l Z a0 hw [] d0 T1879.heap n0 fc1889) hZ (gw hw 57 rfl) (gw hw 56 rfl) (by decide) (by decide)) (g := (mkF m 137 #[.val (.int p0), .val (.int p1), .val (.int p2), .val (.int p3), .val (.int p4), .val (.int 4), .val (.int d0), .val (.int d1), .val (.int d2), .val (.int d3), .val (.ref fb1852), .val (.ref fb1871), .unset] [(.int d0)])) rfl (by rw [hml]; rfl) (argsL := [(.int d0)]) (rest := []) (lenOf pd__C_Z rfl) rfl (by show 2 * 0 + _ ≤ _; exact Nat.le_of_eq rfl) (hb hby at_137) (fun _ _ => ⟨rfl, rfl, (by decide : 3 + 0 ≤ _), (by decide : 12 + 0 ≤ _)⟩)
          dsimp only [Pt.U, Pt.locs, Pt.cells, Pt.slots] at X1888 l1888 y1888 z1888 st1888 hQ1888
          subst l1888 y1888 z1888
          obtain ⟨rr0, rfl, N1888q, e1888q, ra0, rb0⟩ := hQ1888
          have N1888 := Fr.app N1879 N1888q
          have pre1890 : ∀ t, Steps p.tables e below (T1888.setTop (mkF m 140 #[.val (.int p0), .val (.int p1), .val (.int p2), .val (.int p3), .val (.int p4), .val (.int 4), .val (.int d0), .val (.int d1), .val (.int d2), .val (.int d3), .val (.ref fb1852), .val (.ref fb1871), .unset] [(.int rr0)])) t → Steps p.tables e below (s₁.setTop (entryFrame m #[(.int p0), (.int p1), (.int p2), (.int p3), (.int p4)] maxLocals)) t := by
            intro t kk
            refine pre1883 t ?_
            refine XS.iload X1879.here hx rfl (hb hby at_101) rfl ?_
            refine XS.ifYes X1879.here hx rfl (pc0 := 103) (pc' := 112) rfl (hb hby at_103) rfl ((if0 _ _).trans (feq hbr1885).2) (by decide) (by decide) ?_
            refine XS.iload X1879.here hx rfl (hb hby at_112) rfl ?_
            refine XS.iconst X1879.here hx rfl (hb hby at_114) ?_
            refine XS.icmpYes X1879.here hx rfl (pc0 := 115) (pc' := 128) rfl (hb hby at_115) rfl (feq hbr1886).2 (by decide) (by decide) ?_
            refine XS.iload X1879.here hx rfl (hb hby at_128) rfl ?_
            refine XS.bipush X1879.here hx rfl (hb hby at_130) ?_
            refine XS.icmpNo X1879.here hx rfl (hb hby at_132) rfl (feq hz).1 ?_
            show Steps p.tables e below (T1879.setTop (mkF m 135 #[.val (.int p0), .val (.int p1), .val (.int p2), .val (.int p3), .val (.int p4), .val (.int 4), .val (.int d0), .val (.int d1), .val (.int d2), .val (.int d3), .val (.ref fb1852), .val (.ref fb1871), .unset] [])) _
            refine XS.iload X1879.here hx rfl (hb hby at_135) rfl ?_
            exact st1888 _ kk
          by_cases mm0 : own_dg d0
          case pos =>
            have hbr1891 : ¬ (rr0 = (0 : Int32)) := by rw [ra0 mm0]; decide
            obtain ⟨_, _, ⟨T1892, L1892, k1892, n1892⟩, -, X1892, ⟨Lc1892, hQ1892, l1892, y1892, z1892⟩, st1892⟩ := Jvm.LawKit.callS X1888 hx (y := (⟨"com/example/hulse/hulse/environment/internal/ListIndexMatchesPinLaw", "dig", "(C)Z"⟩ : MethodName)) hown (mvT hZ (gw hw 54 rfl)) (mvT hZ (gw hw 55 rfl)) (mvT hZ (gw hw 56 rfl)) (mvT hZ (gw hw 57 rfl)) (by decide) (backOf (W := 0) (own_dig l Z a0 hw [] d1 T1879.heap n0 fc1889) hZ (gw hw 57 rfl) (gw hw 56 rfl) (by decide) (by decide)) (g := (mkF m 145 #[.val (.int p0), .val (.int p1), .val (.int p2), .val (.int p3), .val (.int p4), .val (.int 4), .val (.int d0), .val (.int d1), .val (.int d2), .val (.int d3), .val (.ref fb1852), .val (.ref fb1871), .unset] [(.int d1)])) rfl (by rw [hml]; rfl) (argsL := [(.int d1)]) (rest := []) (lenOf pd__C_Z rfl) rfl (by show 2 * 0 + _ ≤ _; exact Nat.le_of_eq rfl) (hb hby at_145) (fun _ _ => ⟨rfl, e1888q, (by decide : 3 + 0 ≤ _), (by decide : 12 + 0 ≤ _)⟩)
            dsimp only [Pt.U, Pt.locs, Pt.cells, Pt.slots] at X1892 l1892 y1892 z1892 st1892 hQ1892
            subst l1892 y1892 z1892
            obtain ⟨rr1, rfl, N1892q, e1892q, ra1, rb1⟩ := hQ1892
            have N1892 := Fr.app N1888 N1892q
            have pre1893 : ∀ t, Steps p.tables e below (T1892.setTop (mkF m 148 #[.val (.int p0), .val (.int p1), .val (.int p2), .val (.int p3), .val (.int p4), .val (.int 4), .val (.int d0), .val (.int d1), .val (.int d2), .val (.int d3), .val (.ref fb1852), .val (.ref fb1871), .unset] [(.int rr1)])) t → Steps p.tables e below (s₁.setTop (entryFrame m #[(.int p0), (.int p1), (.int p2), (.int p3), (.int p4)] maxLocals)) t := by
              intro t kk
              refine pre1890 t ?_
              refine XS.ifNo X1888.here hx rfl (hb hby at_140) rfl ((if0 _ _).trans (feq hbr1891).1) ?_
              refine XS.iload X1888.here hx rfl (hb hby at_143) rfl ?_
              exact st1892 _ kk
            by_cases mm1 : own_dg d1
            case pos =>
              have hbr1894 : ¬ (rr1 = (0 : Int32)) := by rw [ra1 mm1]; decide
              have hbr1895 : ¬ ((4 : Int32) < (3 : Int32)) := by decide
              obtain ⟨_, _, ⟨T1896, L1896, k1896, n1896⟩, -, X1896, ⟨Lc1896, hQ1896, l1896, y1896, z1896⟩, st1896⟩ := Jvm.LawKit.callS X1892 hx (y := (⟨"com/example/hulse/hulse/environment/internal/ListIndexMatchesPinLaw", "dig", "(C)Z"⟩ : MethodName)) hown (mvT hZ (gw hw 54 rfl)) (mvT hZ (gw hw 55 rfl)) (mvT hZ (gw hw 56 rfl)) (mvT hZ (gw hw 57 rfl)) (by decide) (backOf (W := 0) (own_dig l Z a0 hw [] d2 T1879.heap n0 fc1889) hZ (gw hw 57 rfl) (gw hw 56 rfl) (by decide) (by decide)) (g := (mkF m 159 #[.val (.int p0), .val (.int p1), .val (.int p2), .val (.int p3), .val (.int p4), .val (.int 4), .val (.int d0), .val (.int d1), .val (.int d2), .val (.int d3), .val (.ref fb1852), .val (.ref fb1871), .unset] [(.int d2)])) rfl (by rw [hml]; rfl) (argsL := [(.int d2)]) (rest := []) (lenOf pd__C_Z rfl) rfl (by show 2 * 0 + _ ≤ _; exact Nat.le_of_eq rfl) (hb hby at_159) (fun _ _ => ⟨rfl, e1892q, (by decide : 3 + 0 ≤ _), (by decide : 12 + 0 ≤ _)⟩)
              dsimp only [Pt.U, Pt.locs, Pt.cells, Pt.slots] at X1896 l1896 y1896 z1896 st1896 hQ1896
              subst l1896 y1896 z1896
              obtain ⟨rr2, rfl, N1896q, e1896q, ra2, rb2⟩ := hQ1896
              have N1896 := Fr.app N1892 N1896q
              have pre1897 : ∀ t, Steps p.tables e below (T1896.setTop (mkF m 162 #[.val (.int p0), .val (.int p1), .val (.int p2), .val (.int p3), .val (.int p4), .val (.int 4), .val (.int d0), .val (.int d1), .val (.int d2), .val (.int d3), .val (.ref fb1852), .val (.ref fb1871), .unset] [(.int rr2)])) t → Steps p.tables e below (s₁.setTop (entryFrame m #[(.int p0), (.int p1), (.int p2), (.int p3), (.int p4)] maxLocals)) t := by
                intro t kk
                refine pre1893 t ?_
                refine XS.ifNo X1892.here hx rfl (hb hby at_148) rfl ((if0 _ _).trans (feq hbr1894).1) ?_
                refine XS.iload X1892.here hx rfl (hb hby at_151) rfl ?_
                refine XS.iconst X1892.here hx rfl (hb hby at_153) ?_
                refine XS.icmpNo X1892.here hx rfl (hb hby at_154) rfl (flt hbr1895).1 ?_
                refine XS.iload X1892.here hx rfl (hb hby at_157) rfl ?_
                exact st1896 _ kk
              by_cases mm2 : own_dg d2
              case pos =>
                have hbr1898 : ¬ (rr2 = (0 : Int32)) := by rw [ra2 mm2]; decide
                have hbr1899 : ¬ ((4 : Int32) < (4 : Int32)) := by decide
                obtain ⟨_, _, ⟨T1900, L1900, k1900, n1900⟩, -, X1900, ⟨Lc1900, hQ1900, l1900, y1900, z1900⟩, st1900⟩ := Jvm.LawKit.callS X1896 hx (y := (⟨"com/example/hulse/hulse/environment/internal/ListIndexMatchesPinLaw", "dig", "(C)Z"⟩ : MethodName)) hown (mvT hZ (gw hw 54 rfl)) (mvT hZ (gw hw 55 rfl)) (mvT hZ (gw hw 56 rfl)) (mvT hZ (gw hw 57 rfl)) (by decide) (backOf (W := 0) (own_dig l Z a0 hw [] d3 T1879.heap n0 fc1889) hZ (gw hw 57 rfl) (gw hw 56 rfl) (by decide) (by decide)) (g := (mkF m 173 #[.val (.int p0), .val (.int p1), .val (.int p2), .val (.int p3), .val (.int p4), .val (.int 4), .val (.int d0), .val (.int d1), .val (.int d2), .val (.int d3), .val (.ref fb1852), .val (.ref fb1871), .unset] [(.int d3)])) rfl (by rw [hml]; rfl) (argsL := [(.int d3)]) (rest := []) (lenOf pd__C_Z rfl) rfl (by show 2 * 0 + _ ≤ _; exact Nat.le_of_eq rfl) (hb hby at_173) (fun _ _ => ⟨rfl, e1896q, (by decide : 3 + 0 ≤ _), (by decide : 12 + 0 ≤ _)⟩)
                dsimp only [Pt.U, Pt.locs, Pt.cells, Pt.slots] at X1900 l1900 y1900 z1900 st1900 hQ1900
                subst l1900 y1900 z1900
                obtain ⟨rr3, rfl, N1900q, e1900q, ra3, rb3⟩ := hQ1900
                have N1900 := Fr.app N1896 N1900q
                have pre1901 : ∀ t, Steps p.tables e below (T1900.setTop (mkF m 176 #[.val (.int p0), .val (.int p1), .val (.int p2), .val (.int p3), .val (.int p4), .val (.int 4), .val (.int d0), .val (.int d1), .val (.int d2), .val (.int d3), .val (.ref fb1852), .val (.ref fb1871), .unset] [(.int rr3)])) t → Steps p.tables e below (s₁.setTop (entryFrame m #[(.int p0), (.int p1), (.int p2), (.int p3), (.int p4)] maxLocals)) t := by
                  intro t kk
                  refine pre1897 t ?_
                  refine XS.ifNo X1896.here hx rfl (hb hby at_162) rfl ((if0 _ _).trans (feq hbr1898).1) ?_
                  refine XS.iload X1896.here hx rfl (hb hby at_165) rfl ?_
                  refine XS.iconst X1896.here hx rfl (hb hby at_167) ?_
                  refine XS.icmpNo X1896.here hx rfl (hb hby at_168) rfl (flt hbr1899).1 ?_
                  refine XS.iload X1896.here hx rfl (hb hby at_171) rfl ?_
                  exact st1900 _ kk
                by_cases mm3 : own_dg d3
                case pos =>
                  have hbr1902 : ¬ (rr3 = (0 : Int32)) := by rw [ra3 mm3]; decide
                  have pre1903 : ∀ t, Steps p.tables e below (T1900.setTop (mkF m 186 #[.val (.int p0), .val (.int p1), .val (.int p2), .val (.int p3), .val (.int p4), .val (.int 4), .val (.int d0), .val (.int d1), .val (.int d2), .val (.int d3), .val (.ref fb1852), .val (.ref fb1871), .val (.int 1)] [])) t → Steps p.tables e below (s₁.setTop (entryFrame m #[(.int p0), (.int p1), (.int p2), (.int p3), (.int p4)] maxLocals)) t := by
                    intro t kk
                    refine pre1901 t ?_
                    refine XS.ifNo X1900.here hx rfl (hb hby at_176) rfl ((if0 _ _).trans (feq hbr1902).1) ?_
                    refine XS.iconst X1900.here hx rfl (hb hby at_179) ?_
                    refine XS.goto X1900.here hx rfl (pc0 := 180) (pc' := 184) rfl (hb hby at_180) (by decide) (by decide) ?_
                    refine XS.istore X1900.here hx rfl (hb hby at_184) rfl (l' := #[.val (.int p0), .val (.int p1), .val (.int p2), .val (.int p3), .val (.int p4), .val (.int 4), .val (.int d0), .val (.int d1), .val (.int d2), .val (.int d3), .val (.ref fb1852), .val (.ref fb1871), .val (.int 1)]) rfl ?_
                    exact kk
                  exact ⟨_, _, (1 : Int32), X1900, e1900q, N1900, ⟨fun _ => rfl, fun q => absurd (⟨Or.inr hz, fun i hi => by
                    match i, hi with
                    | 0, _ => exact mm0
                    | 1, _ => exact mm1
                    | 2, _ => exact mm2
                    | 3, _ => exact mm3⟩ : (own_M [d0, d1, d2, d3])) q⟩, pre1903⟩
                case neg =>
                  have hbr1904 : rr3 = (0 : Int32) := rb3 mm3
                  have pre1905 : ∀ t, Steps p.tables e below (T1900.setTop (mkF m 186 #[.val (.int p0), .val (.int p1), .val (.int p2), .val (.int p3), .val (.int p4), .val (.int 4), .val (.int d0), .val (.int d1), .val (.int d2), .val (.int d3), .val (.ref fb1852), .val (.ref fb1871), .val (.int 0)] [])) t → Steps p.tables e below (s₁.setTop (entryFrame m #[(.int p0), (.int p1), (.int p2), (.int p3), (.int p4)] maxLocals)) t := by
                    intro t kk
                    refine pre1901 t ?_
                    refine XS.ifYes X1900.here hx rfl (pc0 := 176) (pc' := 183) rfl (hb hby at_176) rfl ((if0 _ _).trans (teq hbr1904).1) (by decide) (by decide) ?_
                    refine XS.iconst X1900.here hx rfl (hb hby at_183) ?_
                    refine XS.istore X1900.here hx rfl (hb hby at_184) rfl (l' := #[.val (.int p0), .val (.int p1), .val (.int p2), .val (.int p3), .val (.int p4), .val (.int 4), .val (.int d0), .val (.int d1), .val (.int d2), .val (.int d3), .val (.ref fb1852), .val (.ref fb1871), .val (.int 0)]) rfl ?_
                    exact kk
                  exact ⟨_, _, (0 : Int32), X1900, e1900q, N1900, ⟨fun q => absurd (q.2 3 (Nat.le_of_ble_eq_true rfl)) mm3, fun _ => rfl⟩, pre1905⟩
              case neg =>
                have hbr1906 : rr2 = (0 : Int32) := rb2 mm2
                have pre1907 : ∀ t, Steps p.tables e below (T1896.setTop (mkF m 186 #[.val (.int p0), .val (.int p1), .val (.int p2), .val (.int p3), .val (.int p4), .val (.int 4), .val (.int d0), .val (.int d1), .val (.int d2), .val (.int d3), .val (.ref fb1852), .val (.ref fb1871), .val (.int 0)] [])) t → Steps p.tables e below (s₁.setTop (entryFrame m #[(.int p0), (.int p1), (.int p2), (.int p3), (.int p4)] maxLocals)) t := by
                  intro t kk
                  refine pre1897 t ?_
                  refine XS.ifYes X1896.here hx rfl (pc0 := 162) (pc' := 183) rfl (hb hby at_162) rfl ((if0 _ _).trans (teq hbr1906).1) (by decide) (by decide) ?_
                  refine XS.iconst X1896.here hx rfl (hb hby at_183) ?_
                  refine XS.istore X1896.here hx rfl (hb hby at_184) rfl (l' := #[.val (.int p0), .val (.int p1), .val (.int p2), .val (.int p3), .val (.int p4), .val (.int 4), .val (.int d0), .val (.int d1), .val (.int d2), .val (.int d3), .val (.ref fb1852), .val (.ref fb1871), .val (.int 0)]) rfl ?_
                  exact kk
                exact ⟨_, _, (0 : Int32), X1896, e1896q, N1896, ⟨fun q => absurd (q.2 2 (Nat.le_of_ble_eq_true rfl)) mm2, fun _ => rfl⟩, pre1907⟩
            case neg =>
              have hbr1908 : rr1 = (0 : Int32) := rb1 mm1
              have pre1909 : ∀ t, Steps p.tables e below (T1892.setTop (mkF m 186 #[.val (.int p0), .val (.int p1), .val (.int p2), .val (.int p3), .val (.int p4), .val (.int 4), .val (.int d0), .val (.int d1), .val (.int d2), .val (.int d3), .val (.ref fb1852), .val (.ref fb1871), .val (.int 0)] [])) t → Steps p.tables e below (s₁.setTop (entryFrame m #[(.int p0), (.int p1), (.int p2), (.int p3), (.int p4)] maxLocals)) t := by
                intro t kk
                refine pre1893 t ?_
                refine XS.ifYes X1892.here hx rfl (pc0 := 148) (pc' := 183) rfl (hb hby at_148) rfl ((if0 _ _).trans (teq hbr1908).1) (by decide) (by decide) ?_
                refine XS.iconst X1892.here hx rfl (hb hby at_183) ?_
                refine XS.istore X1892.here hx rfl (hb hby at_184) rfl (l' := #[.val (.int p0), .val (.int p1), .val (.int p2), .val (.int p3), .val (.int p4), .val (.int 4), .val (.int d0), .val (.int d1), .val (.int d2), .val (.int d3), .val (.ref fb1852), .val (.ref fb1871), .val (.int 0)]) rfl ?_
                exact kk
              exact ⟨_, _, (0 : Int32), X1892, e1892q, N1892, ⟨fun q => absurd (q.2 1 (Nat.le_of_ble_eq_true rfl)) mm1, fun _ => rfl⟩, pre1909⟩
          case neg =>
            have hbr1910 : rr0 = (0 : Int32) := rb0 mm0
            have pre1911 : ∀ t, Steps p.tables e below (T1888.setTop (mkF m 186 #[.val (.int p0), .val (.int p1), .val (.int p2), .val (.int p3), .val (.int p4), .val (.int 4), .val (.int d0), .val (.int d1), .val (.int d2), .val (.int d3), .val (.ref fb1852), .val (.ref fb1871), .val (.int 0)] [])) t → Steps p.tables e below (s₁.setTop (entryFrame m #[(.int p0), (.int p1), (.int p2), (.int p3), (.int p4)] maxLocals)) t := by
              intro t kk
              refine pre1890 t ?_
              refine XS.ifYes X1888.here hx rfl (pc0 := 140) (pc' := 183) rfl (hb hby at_140) rfl ((if0 _ _).trans (teq hbr1910).1) (by decide) (by decide) ?_
              refine XS.iconst X1888.here hx rfl (hb hby at_183) ?_
              refine XS.istore X1888.here hx rfl (hb hby at_184) rfl (l' := #[.val (.int p0), .val (.int p1), .val (.int p2), .val (.int p3), .val (.int p4), .val (.int 4), .val (.int d0), .val (.int d1), .val (.int d2), .val (.int d3), .val (.ref fb1852), .val (.ref fb1871), .val (.int 0)]) rfl ?_
              exact kk
            exact ⟨_, _, (0 : Int32), X1888, e1888q, N1888, ⟨fun q => absurd (q.2 0 (Nat.le_of_ble_eq_true rfl)) mm0, fun _ => rfl⟩, pre1911⟩
      have fc2312 := (O1871.keep K1879)
      have fc2313 := (fc1878.keep K1879 (allS lo_fb1871 all0))
      have fc2315 := (Nat.le_trans fc1880 K1879.1)
      obtain ⟨_, _, ⟨T2314, L2314, k2314, n2314⟩, -, X2314, ⟨Lc2314, hQ2314, l2314, y2314, z2314⟩, st2314⟩ := Jvm.LawKit.callS X1884 hx (y := (⟨"com/example/hulse/hulse/environment/internal/ListIndex", "matches", "(Ljava/lang/String;)Z"⟩ : MethodName)) hown (mvT hZ (gw hw 24 rfl)) (mvT hZ (gw hw 25 rfl)) (mvT hZ (gw hw 26 rfl)) (mvT hZ (gw hw 27 rfl)) (by decide) (backOf (W := 0) (own_mt l Z a0 hw [] fb1871 t1879 kb1879 [d0, d1, d2, d3] (0 : Int32) _ _ G1 G3 T1879.heap n0 fc2315 fc2312.exa Fv1879 Fc1879 Vt1879 (Or.inl ⟨rfl, rfl, rfl, fun z hz => ((own_pc ⟨hd0.1, hall.1⟩ (own_pc ⟨hd1.1, hall.2.1⟩ (own_pc ⟨hd2.1, hall.2.2.1⟩ (own_pc ⟨hd3.1, hall.2.2.2⟩ own_p0)))) z hz).2⟩) (own_qc hd0 (own_qc hd1 (own_qc hd2 (own_qc hd3 own_q0)))) (Nat.le_of_ble_eq_true rfl) AD HB LB O2 P5 O4 rG3 fc2313 (Nat.le_of_ble_eq_true rfl)) hZ (gw hw 27 rfl) (gw hw 26 rfl) (by decide) (by decide)) (g := (mkF m 188 #[.val (.int p0), .val (.int p1), .val (.int p2), .val (.int p3), .val (.int p4), .val (.int 4), .val (.int d0), .val (.int d1), .val (.int d2), .val (.int d3), .val (.ref fb1852), .val (.ref fb1871), .val (.int ee)] [(.ref fb1871)])) rfl (by rw [hml]; rfl) (argsL := [(.ref fb1871)]) (rest := []) (lenOf pd__Ljava_lang_String__Z rfl) rfl (by show 2 * 0 + _ ≤ _; exact Nat.le_of_eq rfl) (hb hby at_188) (fun _ _ => ⟨rfl, e1884, (by decide : 3 + 0 ≤ _), (by decide : 12 + 0 ≤ _)⟩)
      dsimp only [Pt.U, Pt.locs, Pt.cells, Pt.slots] at X2314 l2314 y2314 z2314 st2314 hQ2314
      subst l2314 y2314 z2314
      obtain ⟨rz, rfl, N2314q, e2314q, hrz⟩ := hQ2314
      have N2314 := Fr.app N1884 N2314q
      have pre2316 : ∀ t, Steps p.tables e below (T2314.setTop (mkF m 191 #[.val (.int p0), .val (.int p1), .val (.int p2), .val (.int p3), .val (.int p4), .val (.int 4), .val (.int d0), .val (.int d1), .val (.int d2), .val (.int d3), .val (.ref fb1852), .val (.ref fb1871), .val (.int ee)] [(.int rz)])) t → Steps p.tables e below (s₁.setTop (entryFrame m #[(.int p0), (.int p1), (.int p2), (.int p3), (.int p4)] maxLocals)) t := by
        intro t kk
        refine pre1884 t ?_
        refine XS.aload X1884.here hx rfl (hb hby at_186) rfl rfl ?_
        exact st2314 _ kk
      have hre : rz = ee := by
        by_cases q : (own_M [d0, d1, d2, d3])
        · rw [hrz.1 q, hee.1 q]
        · rw [hrz.2 q, hee.2 q]
      have fc2317 := (Nat.le_trans (Nat.le_trans (Nat.le_trans (Nat.le_trans (Nat.le_trans (Nat.le_trans (Nat.le_trans hk0 E1852.1) (Keep.of_wr W1856).1) (Keep.of_wr W1860).1) (Keep.of_wr W1864).1) (Keep.of_wr W1868).1) E1871.1) K1879.1)
      obtain ⟨fs, hr, hrun, hended, hRW⟩ := X2314.leaveW hS0 (by rw [e2314q]; exact fc2317) (v := some (.int 1)) (fun h => by rw [Bd.returns] at h; cases h)
      have CRe := CHr.trans CR1881 (CHv.at X2314 hZ hEL CR1881.1)
      refine ⟨_, _, pre2316 _ ?_, hrun, hended, _, _, rfl, ?_, ?_, hRW.1, hRW.2.1, hRW.2.2.1, hRW.2.2.2.mono (by decide) (by decide)⟩
      · refine XS.iload X2314.here hx rfl (hb hby at_191) rfl ?_
        refine XS.icmpNo X2314.here hx rfl (hb hby at_193) rfl (teq hre).2 ?_
        refine XS.iconst X2314.here hx rfl (hb hby at_196) ?_
        refine XS.goto X2314.here hx rfl (pc0 := 197) (pc' := 201) rfl (hb hby at_197) (by decide) (by decide) ?_
        exact retN X2314 hx (t := .boolean) Bd.returns (by simp) (hb hby at_201) hr
      · show Q_own_law Z p0 p1 p2 p3 p4 G1 G3 h0 n0 _ T2314.heap _
        rw [e2314q]
        exact ⟨rfl, N2314⟩
      · show CHr Z own_EL s.vm s.heap T2314.vm T2314.heap
        rw [hh]
        rw [e2314q]
        exact CRe
    case neg =>
      have hwd : (255 : Int32) < d0 ∨ (255 : Int32) < d1 ∨ (255 : Int32) < d2 ∨ (255 : Int32) < d3 := Classical.byContradiction fun q => hall ⟨fun z => q (Or.inl z), fun z => q (Or.inr (Or.inl z)), fun z => q (Or.inr (Or.inr (Or.inl z))), fun z => q (Or.inr (Or.inr (Or.inr z)))⟩
      have fc2318 := (V1868.ext E1871)
      have fc2319 := ((((((XO.ext E1852).wr W1856 lo_fb1852).wr W1860 lo_fb1852).wr W1864 lo_fb1852).wr W1868 lo_fb1852).ext E1871)
      have fc2321 := (Nat.le_trans fc1872 E1871.1)
      obtain ⟨_, _, ⟨T2320, L2320, k2320, n2320⟩, -, X2320, ⟨Lc2320, hQ2320, l2320, y2320, z2320⟩, st2320⟩ := X1871.specialBack hx (y := (⟨"java/lang/String", "<init>", "([C)V"⟩ : MethodName)) rfl hown (mvT hZ (gw hw 6 rfl)) (mvT hZ (gw hw 7 rfl)) (mvT hZ (gw hw 8 rfl)) (by decide) (backOf (W := 1) (own_i14 l Z a0 hw [] fb1871 fb1852 k1852 d0 d1 d2 d3 G1 h1871 n0 fc2321 O1871 lo_fb1871 fc2318 hd0 hd1 hd2 hd3 hwd AD HB LB O2 P5 fc2319) hZ (gw hw 8 rfl) (gw hw 5 rfl) (by decide) (by decide)) (g := (mkF m 96 #[.val (.int p0), .val (.int p1), .val (.int p2), .val (.int p3), .val (.int p4), .val (.int 4), .val (.int d0), .val (.int d1), .val (.int d2), .val (.int d3), .val (.ref fb1852), .unset, .unset] [(.ref fb1852), (.ref fb1871), (.ref fb1871)])) rfl (by rw [hml]; rfl) (Steps.refl _) (a := fb1871) (argsL := [(.ref fb1852)]) (rest := [(.ref fb1871)]) (lenOf pd___C_V rfl) rfl (by show 2 * 0 + _ ≤ _; exact Nat.le_of_eq rfl) (hb hby at_96) (fun _ _ => ⟨rfl, e1871, (by decide : 2 + 2 ≤ _), (by decide : 8 + 12 ≤ _)⟩)
      dsimp only [Pt.U, Pt.locs, Pt.cells, Pt.slots] at X2320 l2320 y2320 z2320 st2320 hQ2320
      subst l2320 y2320 z2320
      obtain ⟨rfl, N2320q, K2320, wb, wk, z1, z2, z3, z4⟩ := hQ2320
      have N2320 := Fr.app N1868 N2320q
      have SA2322 : ∀ y ∈ [fb1871], Safe Z own_EL _ _ y := (sfS sf1875_fb1871 sf0)
      have CR2322 := CHr.trans CR1875 (CHr.keep K2320 SA2322 CR1875.1)
      have sf2322_fb1871 := (Safe.keep K2320 SA2322 CR1875.1 sf1875_fb1871)
      have pre2323 : ∀ t, Steps p.tables e below (T2320.setTop (mkF m 99 #[.val (.int p0), .val (.int p1), .val (.int p2), .val (.int p3), .val (.int p4), .val (.int 4), .val (.int d0), .val (.int d1), .val (.int d2), .val (.int d3), .val (.ref fb1852), .unset, .unset] [(.ref fb1871)])) t → Steps p.tables e below (s₁.setTop (entryFrame m #[(.int p0), (.int p1), (.int p2), (.int p3), (.int p4)] maxLocals)) t := by
        intro t kk
        refine pre1876 t ?_
        refine XS.dup X1871.here hx rfl (hb hby at_93) rfl rfl ?_
        refine XS.aload X1871.here hx rfl (hb hby at_94) rfl rfl ?_
        exact st2320.trans kk
      have pre2324 : ∀ t, Steps p.tables e below (T2320.setTop (mkF m 101 #[.val (.int p0), .val (.int p1), .val (.int p2), .val (.int p3), .val (.int p4), .val (.int 4), .val (.int d0), .val (.int d1), .val (.int d2), .val (.int d3), .val (.ref fb1852), .val (.ref fb1871), .unset] [])) t → Steps p.tables e below (s₁.setTop (entryFrame m #[(.int p0), (.int p1), (.int p2), (.int p3), (.int p4)] maxLocals)) t := by
        intro t kk
        refine pre2323 t ?_
        refine XS.astore X2320.here hx rfl (hb hby at_99) rfl rfl (l' := #[.val (.int p0), .val (.int p1), .val (.int p2), .val (.int p3), .val (.int p4), .val (.int 4), .val (.int d0), .val (.int d1), .val (.int d2), .val (.int d3), .val (.ref fb1852), .val (.ref fb1871), .unset]) rfl ?_
        exact kk
      obtain ⟨T2325, Lj2325, ee, X2325, e2325, N2325, hee, pre2325⟩ : ∃ (T' : State) (lc : List Loc) (ee : Int32), Stand p l e room_1 (s.setVm s.vm) m #[(.int p0), (.int p1), (.int p2), (.int p3), (.int p4)] below meth c T' lc 4 20 ∧ T'.heap = T2320.heap ∧ Fr n0 lc ∧ (((own_M [d0, d1, d2, d3]) → ee = 1) ∧ (¬ (own_M [d0, d1, d2, d3]) → ee = 0)) ∧ ∀ t, Steps p.tables e below (T'.setTop (mkF m 186 #[.val (.int p0), .val (.int p1), .val (.int p2), .val (.int p3), .val (.int p4), .val (.int 4), .val (.int d0), .val (.int d1), .val (.int d2), .val (.int d3), .val (.ref fb1852), .val (.ref fb1871), .val (.int ee)] [])) t → Steps p.tables e below (s₁.setTop (entryFrame m #[(.int p0), (.int p1), (.int p2), (.int p3), (.int p4)] maxLocals)) t := by
        have hbr2326 : ¬ ((4 : Int32) = (0 : Int32)) := by decide
        have hbr2327 : ¬ ((4 : Int32) = (1 : Int32)) := by decide
        by_cases hz : d0 = (48 : Int32)
        case pos =>
          have pre2328 : ∀ t, Steps p.tables e below (T2320.setTop (mkF m 186 #[.val (.int p0), .val (.int p1), .val (.int p2), .val (.int p3), .val (.int p4), .val (.int 4), .val (.int d0), .val (.int d1), .val (.int d2), .val (.int d3), .val (.ref fb1852), .val (.ref fb1871), .val (.int 0)] [])) t → Steps p.tables e below (s₁.setTop (entryFrame m #[(.int p0), (.int p1), (.int p2), (.int p3), (.int p4)] maxLocals)) t := by
            intro t kk
            refine pre2324 t ?_
            refine XS.iload X2320.here hx rfl (hb hby at_101) rfl ?_
            refine XS.ifYes X2320.here hx rfl (pc0 := 103) (pc' := 112) rfl (hb hby at_103) rfl ((if0 _ _).trans (feq hbr2326).2) (by decide) (by decide) ?_
            refine XS.iload X2320.here hx rfl (hb hby at_112) rfl ?_
            refine XS.iconst X2320.here hx rfl (hb hby at_114) ?_
            refine XS.icmpYes X2320.here hx rfl (pc0 := 115) (pc' := 128) rfl (hb hby at_115) rfl (feq hbr2327).2 (by decide) (by decide) ?_
            refine XS.iload X2320.here hx rfl (hb hby at_128) rfl ?_
            refine XS.bipush X2320.here hx rfl (hb hby at_130) ?_
            refine XS.icmpYes X2320.here hx rfl (pc0 := 132) (pc' := 183) rfl (hb hby at_132) rfl (teq hz).1 (by decide) (by decide) ?_
            show Steps p.tables e below (T2320.setTop (mkF m 183 #[.val (.int p0), .val (.int p1), .val (.int p2), .val (.int p3), .val (.int p4), .val (.int 4), .val (.int d0), .val (.int d1), .val (.int d2), .val (.int d3), .val (.ref fb1852), .val (.ref fb1871), .unset] [])) _
            refine XS.iconst X2320.here hx rfl (hb hby at_183) ?_
            refine XS.istore X2320.here hx rfl (hb hby at_184) rfl (l' := #[.val (.int p0), .val (.int p1), .val (.int p2), .val (.int p3), .val (.int p4), .val (.int 4), .val (.int d0), .val (.int d1), .val (.int d2), .val (.int d3), .val (.ref fb1852), .val (.ref fb1871), .val (.int 0)]) rfl ?_
            exact kk
          exact ⟨_, _, (0 : Int32), X2320, rfl, N2320, ⟨fun q => q.1.elim (fun z => absurd z (by simp)) fun z => absurd hz z, fun _ => rfl⟩, pre2328⟩
        case neg =>
          have fc2330 := (Nat.le_trans fc2321 K2320.1)
          obtain ⟨_, _, ⟨T2329, L2329, k2329, n2329⟩, -, X2329, ⟨Lc2329, hQ2329, l2329, y2329, z2329⟩, st2329⟩ := Jvm.LawKit.callS X2320 hx (y := (⟨"com/example/hulse/hulse/environment/internal/ListIndexMatchesPinLaw", "dig", "(C)Z"⟩ : MethodName)) hown (mvT hZ (gw hw 54 rfl)) (mvT hZ (gw hw 55 rfl)) (mvT hZ (gw hw 56 rfl)) (mvT hZ (gw hw 57 rfl)) (by decide) (backOf (W := 0) (own_dig l Z a0 hw [] d0 T2320.heap n0 fc2330) hZ (gw hw 57 rfl) (gw hw 56 rfl) (by decide) (by decide)) (g := (mkF m 137 #[.val (.int p0), .val (.int p1), .val (.int p2), .val (.int p3), .val (.int p4), .val (.int 4), .val (.int d0), .val (.int d1), .val (.int d2), .val (.int d3), .val (.ref fb1852), .val (.ref fb1871), .unset] [(.int d0)])) rfl (by rw [hml]; rfl) (argsL := [(.int d0)]) (rest := []) (lenOf pd__C_Z rfl) rfl (by show 2 * 0 + _ ≤ _; exact Nat.le_of_eq rfl) (hb hby at_137) (fun _ _ => ⟨rfl, rfl, (by decide : 4 + 0 ≤ _), (by decide : 20 + 0 ≤ _)⟩)
          dsimp only [Pt.U, Pt.locs, Pt.cells, Pt.slots] at X2329 l2329 y2329 z2329 st2329 hQ2329
          subst l2329 y2329 z2329
          obtain ⟨rr0, rfl, N2329q, e2329q, ra0, rb0⟩ := hQ2329
          have N2329 := Fr.app N2320 N2329q
          have pre2331 : ∀ t, Steps p.tables e below (T2329.setTop (mkF m 140 #[.val (.int p0), .val (.int p1), .val (.int p2), .val (.int p3), .val (.int p4), .val (.int 4), .val (.int d0), .val (.int d1), .val (.int d2), .val (.int d3), .val (.ref fb1852), .val (.ref fb1871), .unset] [(.int rr0)])) t → Steps p.tables e below (s₁.setTop (entryFrame m #[(.int p0), (.int p1), (.int p2), (.int p3), (.int p4)] maxLocals)) t := by
            intro t kk
            refine pre2324 t ?_
            refine XS.iload X2320.here hx rfl (hb hby at_101) rfl ?_
            refine XS.ifYes X2320.here hx rfl (pc0 := 103) (pc' := 112) rfl (hb hby at_103) rfl ((if0 _ _).trans (feq hbr2326).2) (by decide) (by decide) ?_
            refine XS.iload X2320.here hx rfl (hb hby at_112) rfl ?_
            refine XS.iconst X2320.here hx rfl (hb hby at_114) ?_
            refine XS.icmpYes X2320.here hx rfl (pc0 := 115) (pc' := 128) rfl (hb hby at_115) rfl (feq hbr2327).2 (by decide) (by decide) ?_
            refine XS.iload X2320.here hx rfl (hb hby at_128) rfl ?_
            refine XS.bipush X2320.here hx rfl (hb hby at_130) ?_
            refine XS.icmpNo X2320.here hx rfl (hb hby at_132) rfl (feq hz).1 ?_
            show Steps p.tables e below (T2320.setTop (mkF m 135 #[.val (.int p0), .val (.int p1), .val (.int p2), .val (.int p3), .val (.int p4), .val (.int 4), .val (.int d0), .val (.int d1), .val (.int d2), .val (.int d3), .val (.ref fb1852), .val (.ref fb1871), .unset] [])) _
            refine XS.iload X2320.here hx rfl (hb hby at_135) rfl ?_
            exact st2329 _ kk
          by_cases mm0 : own_dg d0
          case pos =>
            have hbr2332 : ¬ (rr0 = (0 : Int32)) := by rw [ra0 mm0]; decide
            obtain ⟨_, _, ⟨T2333, L2333, k2333, n2333⟩, -, X2333, ⟨Lc2333, hQ2333, l2333, y2333, z2333⟩, st2333⟩ := Jvm.LawKit.callS X2329 hx (y := (⟨"com/example/hulse/hulse/environment/internal/ListIndexMatchesPinLaw", "dig", "(C)Z"⟩ : MethodName)) hown (mvT hZ (gw hw 54 rfl)) (mvT hZ (gw hw 55 rfl)) (mvT hZ (gw hw 56 rfl)) (mvT hZ (gw hw 57 rfl)) (by decide) (backOf (W := 0) (own_dig l Z a0 hw [] d1 T2320.heap n0 fc2330) hZ (gw hw 57 rfl) (gw hw 56 rfl) (by decide) (by decide)) (g := (mkF m 145 #[.val (.int p0), .val (.int p1), .val (.int p2), .val (.int p3), .val (.int p4), .val (.int 4), .val (.int d0), .val (.int d1), .val (.int d2), .val (.int d3), .val (.ref fb1852), .val (.ref fb1871), .unset] [(.int d1)])) rfl (by rw [hml]; rfl) (argsL := [(.int d1)]) (rest := []) (lenOf pd__C_Z rfl) rfl (by show 2 * 0 + _ ≤ _; exact Nat.le_of_eq rfl) (hb hby at_145) (fun _ _ => ⟨rfl, e2329q, (by decide : 4 + 0 ≤ _), (by decide : 20 + 0 ≤ _)⟩)
            dsimp only [Pt.U, Pt.locs, Pt.cells, Pt.slots] at X2333 l2333 y2333 z2333 st2333 hQ2333
            subst l2333 y2333 z2333
            obtain ⟨rr1, rfl, N2333q, e2333q, ra1, rb1⟩ := hQ2333
            have N2333 := Fr.app N2329 N2333q
            have pre2334 : ∀ t, Steps p.tables e below (T2333.setTop (mkF m 148 #[.val (.int p0), .val (.int p1), .val (.int p2), .val (.int p3), .val (.int p4), .val (.int 4), .val (.int d0), .val (.int d1), .val (.int d2), .val (.int d3), .val (.ref fb1852), .val (.ref fb1871), .unset] [(.int rr1)])) t → Steps p.tables e below (s₁.setTop (entryFrame m #[(.int p0), (.int p1), (.int p2), (.int p3), (.int p4)] maxLocals)) t := by
              intro t kk
              refine pre2331 t ?_
              refine XS.ifNo X2329.here hx rfl (hb hby at_140) rfl ((if0 _ _).trans (feq hbr2332).1) ?_
              refine XS.iload X2329.here hx rfl (hb hby at_143) rfl ?_
              exact st2333 _ kk
            by_cases mm1 : own_dg d1
            case pos =>
              have hbr2335 : ¬ (rr1 = (0 : Int32)) := by rw [ra1 mm1]; decide
              have hbr2336 : ¬ ((4 : Int32) < (3 : Int32)) := by decide
              obtain ⟨_, _, ⟨T2337, L2337, k2337, n2337⟩, -, X2337, ⟨Lc2337, hQ2337, l2337, y2337, z2337⟩, st2337⟩ := Jvm.LawKit.callS X2333 hx (y := (⟨"com/example/hulse/hulse/environment/internal/ListIndexMatchesPinLaw", "dig", "(C)Z"⟩ : MethodName)) hown (mvT hZ (gw hw 54 rfl)) (mvT hZ (gw hw 55 rfl)) (mvT hZ (gw hw 56 rfl)) (mvT hZ (gw hw 57 rfl)) (by decide) (backOf (W := 0) (own_dig l Z a0 hw [] d2 T2320.heap n0 fc2330) hZ (gw hw 57 rfl) (gw hw 56 rfl) (by decide) (by decide)) (g := (mkF m 159 #[.val (.int p0), .val (.int p1), .val (.int p2), .val (.int p3), .val (.int p4), .val (.int 4), .val (.int d0), .val (.int d1), .val (.int d2), .val (.int d3), .val (.ref fb1852), .val (.ref fb1871), .unset] [(.int d2)])) rfl (by rw [hml]; rfl) (argsL := [(.int d2)]) (rest := []) (lenOf pd__C_Z rfl) rfl (by show 2 * 0 + _ ≤ _; exact Nat.le_of_eq rfl) (hb hby at_159) (fun _ _ => ⟨rfl, e2333q, (by decide : 4 + 0 ≤ _), (by decide : 20 + 0 ≤ _)⟩)
              dsimp only [Pt.U, Pt.locs, Pt.cells, Pt.slots] at X2337 l2337 y2337 z2337 st2337 hQ2337
              subst l2337 y2337 z2337
              obtain ⟨rr2, rfl, N2337q, e2337q, ra2, rb2⟩ := hQ2337
              have N2337 := Fr.app N2333 N2337q
              have pre2338 : ∀ t, Steps p.tables e below (T2337.setTop (mkF m 162 #[.val (.int p0), .val (.int p1), .val (.int p2), .val (.int p3), .val (.int p4), .val (.int 4), .val (.int d0), .val (.int d1), .val (.int d2), .val (.int d3), .val (.ref fb1852), .val (.ref fb1871), .unset] [(.int rr2)])) t → Steps p.tables e below (s₁.setTop (entryFrame m #[(.int p0), (.int p1), (.int p2), (.int p3), (.int p4)] maxLocals)) t := by
                intro t kk
                refine pre2334 t ?_
                refine XS.ifNo X2333.here hx rfl (hb hby at_148) rfl ((if0 _ _).trans (feq hbr2335).1) ?_
                refine XS.iload X2333.here hx rfl (hb hby at_151) rfl ?_
                refine XS.iconst X2333.here hx rfl (hb hby at_153) ?_
                refine XS.icmpNo X2333.here hx rfl (hb hby at_154) rfl (flt hbr2336).1 ?_
                refine XS.iload X2333.here hx rfl (hb hby at_157) rfl ?_
                exact st2337 _ kk
              by_cases mm2 : own_dg d2
              case pos =>
                have hbr2339 : ¬ (rr2 = (0 : Int32)) := by rw [ra2 mm2]; decide
                have hbr2340 : ¬ ((4 : Int32) < (4 : Int32)) := by decide
                obtain ⟨_, _, ⟨T2341, L2341, k2341, n2341⟩, -, X2341, ⟨Lc2341, hQ2341, l2341, y2341, z2341⟩, st2341⟩ := Jvm.LawKit.callS X2337 hx (y := (⟨"com/example/hulse/hulse/environment/internal/ListIndexMatchesPinLaw", "dig", "(C)Z"⟩ : MethodName)) hown (mvT hZ (gw hw 54 rfl)) (mvT hZ (gw hw 55 rfl)) (mvT hZ (gw hw 56 rfl)) (mvT hZ (gw hw 57 rfl)) (by decide) (backOf (W := 0) (own_dig l Z a0 hw [] d3 T2320.heap n0 fc2330) hZ (gw hw 57 rfl) (gw hw 56 rfl) (by decide) (by decide)) (g := (mkF m 173 #[.val (.int p0), .val (.int p1), .val (.int p2), .val (.int p3), .val (.int p4), .val (.int 4), .val (.int d0), .val (.int d1), .val (.int d2), .val (.int d3), .val (.ref fb1852), .val (.ref fb1871), .unset] [(.int d3)])) rfl (by rw [hml]; rfl) (argsL := [(.int d3)]) (rest := []) (lenOf pd__C_Z rfl) rfl (by show 2 * 0 + _ ≤ _; exact Nat.le_of_eq rfl) (hb hby at_173) (fun _ _ => ⟨rfl, e2337q, (by decide : 4 + 0 ≤ _), (by decide : 20 + 0 ≤ _)⟩)
                dsimp only [Pt.U, Pt.locs, Pt.cells, Pt.slots] at X2341 l2341 y2341 z2341 st2341 hQ2341
                subst l2341 y2341 z2341
                obtain ⟨rr3, rfl, N2341q, e2341q, ra3, rb3⟩ := hQ2341
                have N2341 := Fr.app N2337 N2341q
                have pre2342 : ∀ t, Steps p.tables e below (T2341.setTop (mkF m 176 #[.val (.int p0), .val (.int p1), .val (.int p2), .val (.int p3), .val (.int p4), .val (.int 4), .val (.int d0), .val (.int d1), .val (.int d2), .val (.int d3), .val (.ref fb1852), .val (.ref fb1871), .unset] [(.int rr3)])) t → Steps p.tables e below (s₁.setTop (entryFrame m #[(.int p0), (.int p1), (.int p2), (.int p3), (.int p4)] maxLocals)) t := by
                  intro t kk
                  refine pre2338 t ?_
                  refine XS.ifNo X2337.here hx rfl (hb hby at_162) rfl ((if0 _ _).trans (feq hbr2339).1) ?_
                  refine XS.iload X2337.here hx rfl (hb hby at_165) rfl ?_
                  refine XS.iconst X2337.here hx rfl (hb hby at_167) ?_
                  refine XS.icmpNo X2337.here hx rfl (hb hby at_168) rfl (flt hbr2340).1 ?_
                  refine XS.iload X2337.here hx rfl (hb hby at_171) rfl ?_
                  exact st2341 _ kk
                by_cases mm3 : own_dg d3
                case pos =>
                  have hbr2343 : ¬ (rr3 = (0 : Int32)) := by rw [ra3 mm3]; decide
                  have pre2344 : ∀ t, Steps p.tables e below (T2341.setTop (mkF m 186 #[.val (.int p0), .val (.int p1), .val (.int p2), .val (.int p3), .val (.int p4), .val (.int 4), .val (.int d0), .val (.int d1), .val (.int d2), .val (.int d3), .val (.ref fb1852), .val (.ref fb1871), .val (.int 1)] [])) t → Steps p.tables e below (s₁.setTop (entryFrame m #[(.int p0), (.int p1), (.int p2), (.int p3), (.int p4)] maxLocals)) t := by
                    intro t kk
                    refine pre2342 t ?_
                    refine XS.ifNo X2341.here hx rfl (hb hby at_176) rfl ((if0 _ _).trans (feq hbr2343).1) ?_
                    refine XS.iconst X2341.here hx rfl (hb hby at_179) ?_
                    refine XS.goto X2341.here hx rfl (pc0 := 180) (pc' := 184) rfl (hb hby at_180) (by decide) (by decide) ?_
                    refine XS.istore X2341.here hx rfl (hb hby at_184) rfl (l' := #[.val (.int p0), .val (.int p1), .val (.int p2), .val (.int p3), .val (.int p4), .val (.int 4), .val (.int d0), .val (.int d1), .val (.int d2), .val (.int d3), .val (.ref fb1852), .val (.ref fb1871), .val (.int 1)]) rfl ?_
                    exact kk
                  exact ⟨_, _, (1 : Int32), X2341, e2341q, N2341, ⟨fun _ => rfl, fun q => absurd (⟨Or.inr hz, fun i hi => by
                    match i, hi with
                    | 0, _ => exact mm0
                    | 1, _ => exact mm1
                    | 2, _ => exact mm2
                    | 3, _ => exact mm3⟩ : (own_M [d0, d1, d2, d3])) q⟩, pre2344⟩
                case neg =>
                  have hbr2345 : rr3 = (0 : Int32) := rb3 mm3
                  have pre2346 : ∀ t, Steps p.tables e below (T2341.setTop (mkF m 186 #[.val (.int p0), .val (.int p1), .val (.int p2), .val (.int p3), .val (.int p4), .val (.int 4), .val (.int d0), .val (.int d1), .val (.int d2), .val (.int d3), .val (.ref fb1852), .val (.ref fb1871), .val (.int 0)] [])) t → Steps p.tables e below (s₁.setTop (entryFrame m #[(.int p0), (.int p1), (.int p2), (.int p3), (.int p4)] maxLocals)) t := by
                    intro t kk
                    refine pre2342 t ?_
                    refine XS.ifYes X2341.here hx rfl (pc0 := 176) (pc' := 183) rfl (hb hby at_176) rfl ((if0 _ _).trans (teq hbr2345).1) (by decide) (by decide) ?_
                    refine XS.iconst X2341.here hx rfl (hb hby at_183) ?_
                    refine XS.istore X2341.here hx rfl (hb hby at_184) rfl (l' := #[.val (.int p0), .val (.int p1), .val (.int p2), .val (.int p3), .val (.int p4), .val (.int 4), .val (.int d0), .val (.int d1), .val (.int d2), .val (.int d3), .val (.ref fb1852), .val (.ref fb1871), .val (.int 0)]) rfl ?_
                    exact kk
                  exact ⟨_, _, (0 : Int32), X2341, e2341q, N2341, ⟨fun q => absurd (q.2 3 (Nat.le_of_ble_eq_true rfl)) mm3, fun _ => rfl⟩, pre2346⟩
              case neg =>
                have hbr2347 : rr2 = (0 : Int32) := rb2 mm2
                have pre2348 : ∀ t, Steps p.tables e below (T2337.setTop (mkF m 186 #[.val (.int p0), .val (.int p1), .val (.int p2), .val (.int p3), .val (.int p4), .val (.int 4), .val (.int d0), .val (.int d1), .val (.int d2), .val (.int d3), .val (.ref fb1852), .val (.ref fb1871), .val (.int 0)] [])) t → Steps p.tables e below (s₁.setTop (entryFrame m #[(.int p0), (.int p1), (.int p2), (.int p3), (.int p4)] maxLocals)) t := by
                  intro t kk
                  refine pre2338 t ?_
                  refine XS.ifYes X2337.here hx rfl (pc0 := 162) (pc' := 183) rfl (hb hby at_162) rfl ((if0 _ _).trans (teq hbr2347).1) (by decide) (by decide) ?_
                  refine XS.iconst X2337.here hx rfl (hb hby at_183) ?_
                  refine XS.istore X2337.here hx rfl (hb hby at_184) rfl (l' := #[.val (.int p0), .val (.int p1), .val (.int p2), .val (.int p3), .val (.int p4), .val (.int 4), .val (.int d0), .val (.int d1), .val (.int d2), .val (.int d3), .val (.ref fb1852), .val (.ref fb1871), .val (.int 0)]) rfl ?_
                  exact kk
                exact ⟨_, _, (0 : Int32), X2337, e2337q, N2337, ⟨fun q => absurd (q.2 2 (Nat.le_of_ble_eq_true rfl)) mm2, fun _ => rfl⟩, pre2348⟩
            case neg =>
              have hbr2349 : rr1 = (0 : Int32) := rb1 mm1
              have pre2350 : ∀ t, Steps p.tables e below (T2333.setTop (mkF m 186 #[.val (.int p0), .val (.int p1), .val (.int p2), .val (.int p3), .val (.int p4), .val (.int 4), .val (.int d0), .val (.int d1), .val (.int d2), .val (.int d3), .val (.ref fb1852), .val (.ref fb1871), .val (.int 0)] [])) t → Steps p.tables e below (s₁.setTop (entryFrame m #[(.int p0), (.int p1), (.int p2), (.int p3), (.int p4)] maxLocals)) t := by
                intro t kk
                refine pre2334 t ?_
                refine XS.ifYes X2333.here hx rfl (pc0 := 148) (pc' := 183) rfl (hb hby at_148) rfl ((if0 _ _).trans (teq hbr2349).1) (by decide) (by decide) ?_
                refine XS.iconst X2333.here hx rfl (hb hby at_183) ?_
                refine XS.istore X2333.here hx rfl (hb hby at_184) rfl (l' := #[.val (.int p0), .val (.int p1), .val (.int p2), .val (.int p3), .val (.int p4), .val (.int 4), .val (.int d0), .val (.int d1), .val (.int d2), .val (.int d3), .val (.ref fb1852), .val (.ref fb1871), .val (.int 0)]) rfl ?_
                exact kk
              exact ⟨_, _, (0 : Int32), X2333, e2333q, N2333, ⟨fun q => absurd (q.2 1 (Nat.le_of_ble_eq_true rfl)) mm1, fun _ => rfl⟩, pre2350⟩
          case neg =>
            have hbr2351 : rr0 = (0 : Int32) := rb0 mm0
            have pre2352 : ∀ t, Steps p.tables e below (T2329.setTop (mkF m 186 #[.val (.int p0), .val (.int p1), .val (.int p2), .val (.int p3), .val (.int p4), .val (.int 4), .val (.int d0), .val (.int d1), .val (.int d2), .val (.int d3), .val (.ref fb1852), .val (.ref fb1871), .val (.int 0)] [])) t → Steps p.tables e below (s₁.setTop (entryFrame m #[(.int p0), (.int p1), (.int p2), (.int p3), (.int p4)] maxLocals)) t := by
              intro t kk
              refine pre2331 t ?_
              refine XS.ifYes X2329.here hx rfl (pc0 := 140) (pc' := 183) rfl (hb hby at_140) rfl ((if0 _ _).trans (teq hbr2351).1) (by decide) (by decide) ?_
              refine XS.iconst X2329.here hx rfl (hb hby at_183) ?_
              refine XS.istore X2329.here hx rfl (hb hby at_184) rfl (l' := #[.val (.int p0), .val (.int p1), .val (.int p2), .val (.int p3), .val (.int p4), .val (.int 4), .val (.int d0), .val (.int d1), .val (.int d2), .val (.int d3), .val (.ref fb1852), .val (.ref fb1871), .val (.int 0)]) rfl ?_
              exact kk
            exact ⟨_, _, (0 : Int32), X2329, e2329q, N2329, ⟨fun q => absurd (q.2 0 (Nat.le_of_ble_eq_true rfl)) mm0, fun _ => rfl⟩, pre2352⟩
      have fc2753 := (O1871.keep K2320)
      have fc2754 := (fc2319.keep K2320 (allS lo_fb1871 all0))
      have fc2756 := (Nat.le_trans fc2321 K2320.1)
      obtain ⟨_, _, ⟨T2755, L2755, k2755, n2755⟩, -, X2755, ⟨Lc2755, hQ2755, l2755, y2755, z2755⟩, st2755⟩ := Jvm.LawKit.callS X2325 hx (y := (⟨"com/example/hulse/hulse/environment/internal/ListIndex", "matches", "(Ljava/lang/String;)Z"⟩ : MethodName)) hown (mvT hZ (gw hw 24 rfl)) (mvT hZ (gw hw 25 rfl)) (mvT hZ (gw hw 26 rfl)) (mvT hZ (gw hw 27 rfl)) (by decide) (backOf (W := 0) (own_mt l Z a0 hw [] fb1871 wb wk [d0, d1, d2, d3] (1 : Int32) _ _ G1 G3 T2320.heap n0 fc2756 fc2753.exa z2 z3 z4 (Or.inr ⟨rfl, rfl, rfl⟩) (own_qc hd0 (own_qc hd1 (own_qc hd2 (own_qc hd3 own_q0)))) (Nat.le_of_ble_eq_true rfl) AD HB LB O2 P5 O4 rG3 fc2754 (Nat.le_of_ble_eq_true rfl)) hZ (gw hw 27 rfl) (gw hw 26 rfl) (by decide) (by decide)) (g := (mkF m 188 #[.val (.int p0), .val (.int p1), .val (.int p2), .val (.int p3), .val (.int p4), .val (.int 4), .val (.int d0), .val (.int d1), .val (.int d2), .val (.int d3), .val (.ref fb1852), .val (.ref fb1871), .val (.int ee)] [(.ref fb1871)])) rfl (by rw [hml]; rfl) (argsL := [(.ref fb1871)]) (rest := []) (lenOf pd__Ljava_lang_String__Z rfl) rfl (by show 2 * 0 + _ ≤ _; exact Nat.le_of_eq rfl) (hb hby at_188) (fun _ _ => ⟨rfl, e2325, (by decide : 4 + 0 ≤ _), (by decide : 20 + 0 ≤ _)⟩)
      dsimp only [Pt.U, Pt.locs, Pt.cells, Pt.slots] at X2755 l2755 y2755 z2755 st2755 hQ2755
      subst l2755 y2755 z2755
      obtain ⟨rz, rfl, N2755q, e2755q, hrz⟩ := hQ2755
      have N2755 := Fr.app N2325 N2755q
      have pre2757 : ∀ t, Steps p.tables e below (T2755.setTop (mkF m 191 #[.val (.int p0), .val (.int p1), .val (.int p2), .val (.int p3), .val (.int p4), .val (.int 4), .val (.int d0), .val (.int d1), .val (.int d2), .val (.int d3), .val (.ref fb1852), .val (.ref fb1871), .val (.int ee)] [(.int rz)])) t → Steps p.tables e below (s₁.setTop (entryFrame m #[(.int p0), (.int p1), (.int p2), (.int p3), (.int p4)] maxLocals)) t := by
        intro t kk
        refine pre2325 t ?_
        refine XS.aload X2325.here hx rfl (hb hby at_186) rfl rfl ?_
        exact st2755 _ kk
      have hre : rz = ee := by
        by_cases q : (own_M [d0, d1, d2, d3])
        · rw [hrz.1 q, hee.1 q]
        · rw [hrz.2 q, hee.2 q]
      have fc2758 := (Nat.le_trans (Nat.le_trans (Nat.le_trans (Nat.le_trans (Nat.le_trans (Nat.le_trans (Nat.le_trans hk0 E1852.1) (Keep.of_wr W1856).1) (Keep.of_wr W1860).1) (Keep.of_wr W1864).1) (Keep.of_wr W1868).1) E1871.1) K2320.1)
      obtain ⟨fs, hr, hrun, hended, hRW⟩ := X2755.leaveW hS0 (by rw [e2755q]; exact fc2758) (v := some (.int 1)) (fun h => by rw [Bd.returns] at h; cases h)
      have CRe := CHr.trans CR2322 (CHv.at X2755 hZ hEL CR2322.1)
      refine ⟨_, _, pre2757 _ ?_, hrun, hended, _, _, rfl, ?_, ?_, hRW.1, hRW.2.1, hRW.2.2.1, hRW.2.2.2.mono (by decide) (by decide)⟩
      · refine XS.iload X2755.here hx rfl (hb hby at_191) rfl ?_
        refine XS.icmpNo X2755.here hx rfl (hb hby at_193) rfl (teq hre).2 ?_
        refine XS.iconst X2755.here hx rfl (hb hby at_196) ?_
        refine XS.goto X2755.here hx rfl (pc0 := 197) (pc' := 201) rfl (hb hby at_197) (by decide) (by decide) ?_
        exact retN X2755 hx (t := .boolean) Bd.returns (by simp) (hb hby at_201) hr
      · show Q_own_law Z p0 p1 p2 p3 p4 G1 G3 h0 n0 _ T2755.heap _
        rw [e2755q]
        exact ⟨rfl, N2755⟩
      · show CHr Z own_EL s.vm s.heap T2755.vm T2755.heap
        rw [hh]
        rw [e2755q]
        exact CRe
set_option maxRecDepth 65536 in
set_option maxHeartbeats 40000000 in
theorem comes_1 {Post : Tables → Env → Array Value → State → Outcome → State → Prop} (hpost : ∀ tb e args s v u, (limb_1_1.after args s (.returned v) u = true ∧ limb_1_2.after args s (.returned v) u = true ∧ True) → ReturnedEndW s (.returned v) u (Jvm.fieldLocs frame_1_writes args s ++ Jvm.arrayLocs frame_1_arrays args s ++ Jvm.staticLocs frame_1_statics s) 24 1152 → Post tb e args s (.returned v) u) :
    ArmFor flags0 classFile x code maxLocals ret World_1 tables_1 room_1 Calls_1 rest_1 Pre_1 Post := by
  intro l hfl _ _ p e ha hc hk s m args below hf hA hF happ hP
  obtain ⟨hcalls, hrest, hpre⟩ := hP
  obtain ⟨-, -, -, hnamed, -, -, -, hat⟩ := (Spec.applies_iff hf).mp happ
  obtain ⟨hg, hn⟩ := and_e (Cond.before_iff.mp (show (Jvm.Cond.and given_1 narrow_1).before args s = true from hpre))
  obtain ⟨h1, u0⟩ := and_e hg
  obtain ⟨v0, u1⟩ := and_e u0
  obtain ⟨v1, u2⟩ := and_e u1
  obtain ⟨v2, u3⟩ := and_e u2
  obtain ⟨v3, u4⟩ := and_e u3
  obtain ⟨w0, w1, w2, w3, w4, rfl⟩ : ∃ w0 w1 w2 w3 w4 : Value, args = #[w0, w1, w2, w3, w4] := by
    have hs : args.size = 5 := by simpa [Cond.value, given_1] using h1
    obtain ⟨L⟩ := args
    match L, hs with
    | [w0, w1, w2, w3, w4], _ => exact ⟨w0, w1, w2, w3, w4, rfl⟩
  have hw := fun d (hd : d ∈ tables_1) => atoms_spec (ws := Jvm.Cond.code x code maxLocals ret :: tables_1) hat d (List.mem_cons_of_mem _ hd)
  obtain ⟨hsets, hown0⟩ := atoms_of _ (rest_1_c_eq ▸ (show rest_1_c.before _ s = true from hrest))
  have hfit : Fit s := fun {y c} hc i hi => by
    obtain ⟨ha, rfl⟩ := Array.getElem?_eq_some_iff.mp hc
    have q := List.all_eq_true.mp ((Array.all_eq_true_iff_forall_mem.mp hF) _ (Array.getElem_mem ha)) i (List.mem_range.mpr hi)
    simpa [Array.getElem?_eq_getElem hi] using q
  obtain ⟨i0, ei0⟩ := is_v v0
  obtain rfl : w0 = (.int i0) := Option.some.inj ei0
  obtain ⟨i1, ei1⟩ := is_v v1
  obtain rfl : w1 = (.int i1) := Option.some.inj ei1
  obtain ⟨i2, ei2⟩ := is_v v2
  obtain rfl : w2 = (.int i2) := Option.some.inj ei2
  obtain ⟨i3, ei3⟩ := is_v v3
  obtain rfl : w3 = (.int i3) := Option.some.inj ei3
  obtain ⟨i4, ei4⟩ := is_v u4
  obtain rfl : w4 = (.int i4) := Option.some.inj ei4
  have n5 := not_v (Cond.before_iff.mp (hsets _ (List.mem_of_getElem? (i := 2) rfl)))
  obtain ⟨iG, eG⟩ := is_v (Cond.before_iff.mp (hsets _ (List.mem_of_getElem? (i := 1) rfl)))
  have SG : Sta s s.heap "java/lang/String" "COMPACT_STRINGS" "Z" (.int iG) := Sta.start eG (Or.inl (hsets _ (List.mem_of_getElem? (i := 0) rfl)))
  have cG : ¬ (iG = (0 : Int32)) := gotF (Cond.eq_ints eG (Term.int_eval (0))) n5
  obtain ⟨vF, eF, rF⟩ := isR_v (Cond.before_iff.mp (hsets _ (List.mem_of_getElem? (i := 8) rfl)))
  have SF : Sta s s.heap "jdk/internal/util/Preconditions" "SIOOBE_FORMATTER" "Ljava/util/function/BiFunction;" vF := Sta.start eF (Or.inl (hsets _ (List.mem_of_getElem? (i := 7) rfl)))
  have S1 : Sta s s.heap "java/lang/StringUTF16" "$assertionsDisabled" "Z" (.int 1) := Sta.start (eqv_i (Term.int_eval (1)) (Cond.before_iff.mp (hsets _ (List.mem_of_getElem? (i := 12) rfl)))) (Or.inl (hsets _ (List.mem_of_getElem? (i := 11) rfl)))
  have S2 : Sta s s.heap "java/lang/StringUTF16" "HI_BYTE_SHIFT" "I" (.int 0) := Sta.start (eqv_i (Term.int_eval (0)) (Cond.before_iff.mp (hsets _ (List.mem_of_getElem? (i := 15) rfl)))) (Or.inl (hsets _ (List.mem_of_getElem? (i := 14) rfl)))
  have S3 : Sta s s.heap "java/lang/StringUTF16" "LO_BYTE_SHIFT" "I" (.int 8) := Sta.start (eqv_i (Term.int_eval (8)) (Cond.before_iff.mp (hsets _ (List.mem_of_getElem? (i := 18) rfl)))) (Or.inl (hsets _ (List.mem_of_getElem? (i := 17) rfl)))
  have hC : CHv s own_EL s.vm s.heap := CHv.start (own_hEL hw) (fun p hp => hcalls.1 p hp) (hsets _ (List.mem_of_getElem? (i := 2) rfl)) (own_wS hw _ (by simp [Bundle.stringAtoms])) (own_wS hw _ (by simp [Bundle.stringAtoms, Bundle.sN]))
  obtain ⟨n, o, h1, h2, h3, _, L, rfl, ⟨rfl, N⟩, -, hq⟩ := own_law l s _ hw tables_1 i0 i1 i2 i3 i4 iG vF s.heap s.heap.size (Nat.le_refl _) S1 S2 S3 SG cG SF rF (Old.start s) p e ha hc hk s m _ below hf ((Spec.applies_iff_loose hf).mp happ).1 ⟨rfl, State.Warmed39.refl s, rfl, hC⟩ trivial
  refine ⟨n, _, h1, h2, h3, hpost _ _ _ _ _ _ ⟨Cond.after_iff.mpr rfl, Cond.after_iff.mpr (eq_i res_at (Term.int_eval (1)) rfl), trivial⟩ ⟨hq.1, hq.2.1, hq.2.2.1, (hq.2.2.2.sift fun y hy => Or.inr (N y hy)).mono (by decide) (by decide)⟩⟩
theorem main_1_1 : Claimed_1_1 := comes_1 fun _ _ _ _ _ _ h hF => ⟨h.1, hF⟩
theorem main_1_2 : Claimed_1_2 := comes_1 fun _ _ _ _ _ _ h hF => ⟨h.2.1, hF⟩
end Jvm.Pilot.@@N@@
namespace Jvm.Pilot.@@N@@
open Jvm Jvm.ClassFile Sem Op Lib Jvm.Free Jvm.Stand Jvm.Pilot.@@N@@.Jvm.D
/-! MADE BY PROGRAM (witnessworld.py) out of the Statement's table words and the real class files: 20 classes; the members and pool entries that the words name. The judged class is class 1, her method 1. -/
namespace start1
open Jvm.ClassFile
def u (s : String) : CpInfo := .utf8 (stringToUtf16 s)
/-- a pool by its gaps: so many unusable entries, then the entry; so many at the end -/
def gap : Nat → List CpInfo → List CpInfo
  | 0, r => r
  | n + 1, r => .unusable :: gap n r
def poolList (es : List (Nat × CpInfo)) (last : Nat) : List CpInfo := es.foldr (fun e r => gap e.1 (e.2 :: r)) (gap last [])
def pool (es : List (Nat × CpInfo)) (last : Nat) : Array CpInfo := ⟨poolList es last⟩
def fileOf (pool : Array CpInfo) (this : Nat) (attrs : Array Attribute := #[]) (ms : Array MethodInfo := #[]) (fl : Nat := 33) (sup : Nat := 0) (ifs : Array Nat := #[]) (fds : Array FieldInfo := #[]) : ClassFile where
  minorVersion := 0
  majorVersion := 65
  constantPool := pool
  accessFlags := fl
  thisClass := this
  superClass := sup
  interfaces := ifs
  fields := fds
  methods := ms
  attributes := attrs
def plain (name : String) (sup : Option ClassId) : Class where
  name := name
  kind := .ordinary
  loader := none
  accessFlags := 33
  super := sup
  interfaces := #[]
  cf := none
  fields := #[]
  methods := #[]
  instanceTypes := #[]
  staticTypes := #[]
  resolved := #[]
  callSites := []
  init := .initialized
  statics := none
  mirror := none

def pool0 : Array CpInfo := pool [(5, u "<init>"), (0, u "()V"), (1, .class_ 10), (1, u "java/lang/Object")] 113

def k0c0 : Code := { maxStack := 0, maxLocals := 1, code := object_method_1_code, exceptionTable := #[], attributes := #[] }
def k0m0 : Method := { name := "<init>", desc := "()V", sig := { parameters := [], returnType := none }, accessFlags := 1, code := some k0c0 }
/-- java/lang/Object -/
def k0 : Class := { plain "java/lang/Object" none with
  accessFlags := 33
  interfaces := #[]
  cf := some (fileOf pool0 8 #[] #[{ accessFlags := 1, nameIndex := 5, descriptorIndex := 6, attributes := #[] }] 33 0 #[] #[])
  fields := #[]
  methods := #[k0m0]
  instanceTypes := #[]
  staticTypes := #[]
  resolved := Array.replicate 124 none
  statics := none }

def pool1 : Array CpInfo := pool [(2, .class_ 4), (1, u "java/lang/Object"), (0, u "<init>"), (0, u "()V"), (0, .integer 2147483647), (0, .integer 65535), (0, .class_ 10), (0, u "java/lang/String"), (0, .methodref 9 12), (0, .nameAndType 5 13), (0, u "([C)V"), (0, .methodref 15 16), (0, .class_ 17), (0, .nameAndType 18 19), (0, u "com/example/hulse/hulse/environment/internal/ListIndexMatchesPinLaw"), (0, u "dig"), (0, u "(C)Z"), (0, .methodref 21 22), (0, .class_ 23), (0, .nameAndType 24 25), (0, u "com/example/hulse/hulse/environment/internal/ListIndex"), (0, u "matches"), (0, u "(Ljava/lang/String;)Z"), (2, u "law"), (0, u "(IIIII)Z")] 5

def k1m0 : Method := { name := "<init>", desc := "()V", sig := { parameters := [], returnType := none }, accessFlags := 2, code := none }
def k1c1 : Code := { maxStack := 3, maxLocals := 13, code := code, exceptionTable := #[], attributes := #[] }
def k1m1 : Method := { name := "law", desc := "(IIIII)Z", sig := { parameters := [.int, .int, .int, .int, .int], returnType := some .boolean }, accessFlags := 9, code := some k1c1 }
def k1c2 : Code := { maxStack := 2, maxLocals := 1, code := method_3_code, exceptionTable := #[], attributes := #[] }
def k1m2 : Method := { name := "dig", desc := "(C)Z", sig := { parameters := [.char], returnType := some .boolean }, accessFlags := 10, code := some k1c2 }
/-- com/example/hulse/hulse/environment/internal/ListIndexMatchesPinLaw -/
def k1 : Class := { plain "com/example/hulse/hulse/environment/internal/ListIndexMatchesPinLaw" (some 0) with
  accessFlags := 49
  interfaces := #[]
  cf := some (fileOf pool1 15 #[] #[{ accessFlags := 2, nameIndex := 5, descriptorIndex := 6, attributes := #[] }, { accessFlags := 9, nameIndex := 28, descriptorIndex := 29, attributes := #[] }, { accessFlags := 10, nameIndex := 18, descriptorIndex := 19, attributes := #[] }] 49 2 #[] #[])
  fields := #[]
  methods := #[k1m0, k1m1, k1m2]
  instanceTypes := #[]
  staticTypes := #[]
  resolved := Array.replicate 35 none
  statics := none }

def pool2 : Array CpInfo := pool [(1, .class_ 2), (0, u "java/io/Serializable"), (0, .class_ 4), (0, u "java/lang/Object")] 2

/-- java/io/Serializable -/
def k2 : Class := { plain "java/io/Serializable" (some 0) with
  accessFlags := 1537
  interfaces := #[]
  cf := some (fileOf pool2 1 #[] #[] 1537 3 #[] #[])
  fields := #[]
  methods := #[]
  instanceTypes := #[]
  staticTypes := #[]
  resolved := Array.replicate 7 none
  statics := none }

def pool3 : Array CpInfo := pool [(1, .class_ 2), (0, u "java/lang/Comparable"), (0, .class_ 4), (0, u "java/lang/Object")] 7

/-- java/lang/Comparable -/
def k3 : Class := { plain "java/lang/Comparable" (some 0) with
  accessFlags := 1537
  interfaces := #[]
  cf := some (fileOf pool3 1 #[] #[] 1537 3 #[] #[])
  fields := #[]
  methods := #[]
  instanceTypes := #[]
  staticTypes := #[]
  resolved := Array.replicate 12 none
  statics := none }

def pool4 : Array CpInfo := pool [(2, .class_ 4), (1, u "java/lang/CharSequence"), (42, .class_ 48), (0, u "java/lang/CharSequence$1CodePointIterator"), (10, .class_ 60), (0, u "java/lang/CharSequence$1CharIterator"), (5, .class_ 67), (0, u "java/lang/Object")] 63

/-- java/lang/CharSequence -/
def k4 : Class := { plain "java/lang/CharSequence" (some 0) with
  accessFlags := 1537
  interfaces := #[]
  cf := some (fileOf pool4 2 #[.nestMembers #[47, 59]] #[] 1537 66 #[] #[])
  fields := #[]
  methods := #[]
  instanceTypes := #[]
  staticTypes := #[]
  resolved := Array.replicate 131 none
  statics := none }

def pool5 : Array CpInfo := pool [(1, .class_ 2), (0, u "java/lang/constant/Constable"), (0, .class_ 4), (0, u "java/lang/Object")] 6

/-- java/lang/constant/Constable -/
def k5 : Class := { plain "java/lang/constant/Constable" (some 0) with
  accessFlags := 1537
  interfaces := #[]
  cf := some (fileOf pool5 1 #[] #[] 1537 3 #[] #[])
  fields := #[]
  methods := #[]
  instanceTypes := #[]
  staticTypes := #[]
  resolved := Array.replicate 11 none
  statics := none }

def pool6 : Array CpInfo := pool [(1, .class_ 2), (0, u "java/lang/constant/ConstantDesc"), (0, .class_ 4), (0, u "java/lang/Object")] 32

/-- java/lang/constant/ConstantDesc -/
def k6 : Class := { plain "java/lang/constant/ConstantDesc" (some 0) with
  accessFlags := 1537
  interfaces := #[]
  cf := some (fileOf pool6 1 #[] #[] 1537 3 #[] #[])
  fields := #[]
  methods := #[]
  instanceTypes := #[]
  staticTypes := #[]
  resolved := Array.replicate 37 none
  statics := none }

def pool7 : Array CpInfo := pool [(1, .methodref 2 3), (0, .class_ 4), (0, .nameAndType 5 6), (0, u "java/lang/Object"), (0, u "<init>"), (0, u "()V"), (0, .string 8), (0, u ""), (0, .fieldref 10 11), (0, .class_ 12), (0, .nameAndType 13 14), (0, u "java/lang/String"), (0, u "value"), (0, u "[B"), (0, .fieldref 10 16), (0, .nameAndType 17 18), (0, u "coder"), (0, u "B"), (2, u "hash"), (0, u "I"), (2, u "hashIsZero"), (0, u "Z"), (0, .methodref 10 28), (0, .nameAndType 5 29), (0, u "([CIILjava/lang/Void;)V"), (8, .fieldref 10 39), (0, .nameAndType 40 26), (0, u "COMPACT_STRINGS"), (1, .class_ 44), (1, u "java/lang/StringUTF16"), (0, u "compress"), (1, .methodref 42 48), (0, .nameAndType 49 50), (0, u "coderFromArrayLen"), (0, u "([BI)B"), (56, .class_ 109), (1, u "java/lang/StringLatin1"), (32, u "()Z"), (34, .methodref 42 178), (0, .nameAndType 45 179), (0, u "([CII)[B"), (154, u "()I"), (0, .methodref 10 336), (0, .nameAndType 17 337), (0, u "()B"), (25, u "([BI)C"), (27, u "(II)V"), (35, u "(I)C"), (64, .methodref 10 493), (0, .nameAndType 494 142), (0, u "isLatin1"), (0, .methodref 107 496), (0, .nameAndType 497 363), (0, u "charAt"), (0, .methodref 42 496), (2, u "checkIndex"), (5, u "length"), (67, .class_ 576), (0, u "java/lang/CharSequence"), (22, u "CASE_INSENSITIVE_ORDER"), (0, u "Ljava/util/Comparator;"), (91, u "isEmpty"), (317, u "([C)V"), (42, .fieldref 1054 1055), (0, .class_ 1056), (0, .nameAndType 1057 1058), (0, u "jdk/internal/util/Preconditions"), (0, u "SIOOBE_FORMATTER"), (0, u "Ljava/util/function/BiFunction;"), (0, .methodref 1054 1060), (0, .nameAndType 501 1061), (0, u "(IILjava/util/function/BiFunction;)I"), (39, u "serialPersistentFields"), (0, u "[Ljava/io/ObjectStreamField;"), (0, .class_ 1104), (0, u "java/lang/String$CaseInsensitiveComparator"), (1, .class_ 1107), (0, u "java/io/Serializable"), (0, .class_ 1109), (0, u "java/lang/Comparable"), (0, .class_ 1111), (0, u "java/lang/constant/Constable"), (0, .class_ 1113), (0, u "java/lang/constant/ConstantDesc"), (2, u "serialVersionUID"), (0, u "J"), (3, u "REPL"), (0, u "C"), (2, u "LATIN1"), (1, u "UTF16")] 323

def k7m0 : Method := { name := "<init>", desc := "()V", sig := { parameters := [], returnType := none }, accessFlags := 1, code := none }
def k7c1 : Code := { maxStack := 5, maxLocals := 2, code := jdk_42_method_3_code, exceptionTable := #[], attributes := #[] }
def k7m1 : Method := { name := "<init>", desc := "([C)V", sig := { parameters := [(.array .char)], returnType := none }, accessFlags := 1, code := some k7c1 }
def k7c2 : Code := { maxStack := 2, maxLocals := 1, code := jdk_42_method_54_code, exceptionTable := #[], attributes := #[] }
def k7m2 : Method := { name := "length", desc := "()I", sig := { parameters := [], returnType := some .int }, accessFlags := 1, code := some k7c2 }
def k7c3 : Code := { maxStack := 1, maxLocals := 1, code := jdk_42_method_55_code, exceptionTable := #[], attributes := #[] }
def k7m3 : Method := { name := "isEmpty", desc := "()Z", sig := { parameters := [], returnType := some .boolean }, accessFlags := 1, code := some k7c3 }
def k7c4 : Code := { maxStack := 2, maxLocals := 2, code := jdk_42_method_56_code, exceptionTable := #[], attributes := #[] }
def k7m4 : Method := { name := "charAt", desc := "(I)C", sig := { parameters := [.int], returnType := some .char }, accessFlags := 1, code := some k7c4 }
def k7c5 : Code := { maxStack := 4, maxLocals := 6, code := jdk_42_method_149_code, exceptionTable := #[], attributes := #[] }
def k7m5 : Method := { name := "<init>", desc := "([CIILjava/lang/Void;)V", sig := { parameters := [(.array .char), .int, .int, (.object "java/lang/Void")], returnType := none }, accessFlags := 2, code := some k7c5 }
def k7c6 : Code := { maxStack := 1, maxLocals := 1, code := jdk_42_method_152_code, exceptionTable := #[], attributes := #[] }
def k7m6 : Method := { name := "coder", desc := "()B", sig := { parameters := [], returnType := some .byte }, accessFlags := 0, code := some k7c6 }
def k7c7 : Code := { maxStack := 1, maxLocals := 1, code := jdk_42_method_154_code, exceptionTable := #[], attributes := #[] }
def k7m7 : Method := { name := "isLatin1", desc := "()Z", sig := { parameters := [], returnType := some .boolean }, accessFlags := 0, code := some k7c7 }
def k7c8 : Code := { maxStack := 3, maxLocals := 2, code := jdk_42_method_155_code, exceptionTable := #[], attributes := #[] }
def k7m8 : Method := { name := "checkIndex", desc := "(II)V", sig := { parameters := [.int, .int], returnType := none }, accessFlags := 8, code := some k7c8 }
/-- java/lang/String -/
def k7 : Class := { plain "java/lang/String" (some 0) with
  accessFlags := 49
  interfaces := #[2, 3, 4, 5, 6]
  cf := some (fileOf pool7 10 #[.nestMembers #[1103]] #[{ accessFlags := 1, nameIndex := 5, descriptorIndex := 6, attributes := #[] }, { accessFlags := 1, nameIndex := 5, descriptorIndex := 1010, attributes := #[] }, { accessFlags := 1, nameIndex := 507, descriptorIndex := 334, attributes := #[] }, { accessFlags := 1, nameIndex := 692, descriptorIndex := 142, attributes := #[] }, { accessFlags := 1, nameIndex := 497, descriptorIndex := 427, attributes := #[] }, { accessFlags := 2, nameIndex := 5, descriptorIndex := 29, attributes := #[] }, { accessFlags := 0, nameIndex := 17, descriptorIndex := 337, attributes := #[] }, { accessFlags := 0, nameIndex := 494, descriptorIndex := 142, attributes := #[] }, { accessFlags := 8, nameIndex := 501, descriptorIndex := 391, attributes := #[] }] 49 2 #[1106, 1108, 575, 1110, 1112] #[{ accessFlags := 18, nameIndex := 13, descriptorIndex := 14, attributes := #[] }, { accessFlags := 18, nameIndex := 17, descriptorIndex := 18, attributes := #[] }, { accessFlags := 2, nameIndex := 21, descriptorIndex := 22, attributes := #[] }, { accessFlags := 2, nameIndex := 25, descriptorIndex := 26, attributes := #[] }, { accessFlags := 26, nameIndex := 1116, descriptorIndex := 1117, attributes := #[] }, { accessFlags := 24, nameIndex := 40, descriptorIndex := 26, attributes := #[] }, { accessFlags := 26, nameIndex := 1101, descriptorIndex := 1102, attributes := #[] }, { accessFlags := 26, nameIndex := 1121, descriptorIndex := 1122, attributes := #[] }, { accessFlags := 25, nameIndex := 599, descriptorIndex := 600, attributes := #[] }, { accessFlags := 24, nameIndex := 1125, descriptorIndex := 18, attributes := #[] }, { accessFlags := 24, nameIndex := 1127, descriptorIndex := 18, attributes := #[] }])
  fields := #[{ name := "value", type := (.array .byte), accessFlags := 18, slot := 0, constantValue := 0 }, { name := "coder", type := .byte, accessFlags := 18, slot := 1, constantValue := 0 }, { name := "hash", type := .int, accessFlags := 2, slot := 2, constantValue := 0 }, { name := "hashIsZero", type := .boolean, accessFlags := 2, slot := 3, constantValue := 0 }, { name := "serialVersionUID", type := .long, accessFlags := 26, slot := 0, constantValue := 0 }, { name := "COMPACT_STRINGS", type := .boolean, accessFlags := 24, slot := 1, constantValue := 0 }, { name := "serialPersistentFields", type := (.array (.object "java/io/ObjectStreamField")), accessFlags := 26, slot := 2, constantValue := 0 }, { name := "REPL", type := .char, accessFlags := 26, slot := 3, constantValue := 0 }, { name := "CASE_INSENSITIVE_ORDER", type := (.object "java/util/Comparator"), accessFlags := 25, slot := 4, constantValue := 0 }, { name := "LATIN1", type := .byte, accessFlags := 24, slot := 5, constantValue := 0 }, { name := "UTF16", type := .byte, accessFlags := 24, slot := 6, constantValue := 0 }]
  methods := #[k7m0, k7m1, k7m2, k7m3, k7m4, k7m5, k7m6, k7m7, k7m8]
  instanceTypes := #[(.array .byte), .byte, .int, .boolean]
  staticTypes := #[.long, .boolean, (.array (.object "java/io/ObjectStreamField")), .char, (.object "java/util/Comparator"), .byte, .byte]
  resolved := Array.replicate 1451 none
  statics := some 0 }

def pool8 : Array CpInfo := pool [(2, .class_ 4), (1, u "java/lang/Object"), (0, u "<init>"), (0, u "()V"), (0, .methodref 8 9), (0, .class_ 10), (0, .nameAndType 11 12), (0, u "java/lang/String"), (0, u "isEmpty"), (0, u "()Z"), (0, .methodref 8 14), (0, .nameAndType 15 16), (0, u "length"), (0, u "()I"), (0, .methodref 8 18), (0, .nameAndType 19 20), (0, u "charAt"), (0, u "(I)C"), (0, .class_ 22), (0, u "com/example/hulse/hulse/environment/internal/ListIndex"), (2, u "matches"), (0, u "(Ljava/lang/String;)Z")] 3

def k8m0 : Method := { name := "<init>", desc := "()V", sig := { parameters := [], returnType := none }, accessFlags := 2, code := none }
def k8c1 : Code := { maxStack := 2, maxLocals := 3, code := prog_80_method_2_code, exceptionTable := #[], attributes := #[] }
def k8m1 : Method := { name := "matches", desc := "(Ljava/lang/String;)Z", sig := { parameters := [(.object "java/lang/String")], returnType := some .boolean }, accessFlags := 9, code := some k8c1 }
/-- com/example/hulse/hulse/environment/internal/ListIndex -/
def k8 : Class := { plain "com/example/hulse/hulse/environment/internal/ListIndex" (some 0) with
  accessFlags := 49
  interfaces := #[]
  cf := some (fileOf pool8 21 #[] #[{ accessFlags := 2, nameIndex := 5, descriptorIndex := 6, attributes := #[] }, { accessFlags := 9, nameIndex := 25, descriptorIndex := 26, attributes := #[] }] 49 2 #[] #[])
  fields := #[]
  methods := #[k8m0, k8m1]
  instanceTypes := #[]
  staticTypes := #[]
  resolved := Array.replicate 30 none
  statics := none }

def pool9 : Array CpInfo := pool [(3, .class_ 4), (0, u "java/lang/String"), (1, .class_ 8), (1, u "java/lang/Object"), (0, u "<init>"), (0, u "()V"), (0, .methodref 12 13), (0, .class_ 14), (0, .nameAndType 15 16), (0, u "java/lang/StringUTF16"), (0, u "newBytesLength"), (0, u "(I)I"), (3, .integer 1073741823), (23, .fieldref 12 45), (0, .nameAndType 46 47), (0, u "$assertionsDisabled"), (0, u "Z"), (0, .methodref 12 49), (0, .nameAndType 50 51), (0, u "length"), (0, u "([B)I"), (7, .fieldref 12 60), (0, .nameAndType 61 62), (0, u "HI_BYTE_SHIFT"), (0, u "I"), (0, .fieldref 12 64), (0, .nameAndType 65 62), (0, u "LO_BYTE_SHIFT"), (1, .methodref 12 68), (0, .nameAndType 69 70), (0, u "checkIndex"), (0, u "(I[B)V"), (0, .methodref 12 72), (0, .nameAndType 73 74), (0, u "getChar"), (0, u "([BI)C"), (32, .methodref 12 108), (0, .nameAndType 109 110), (0, u "newBytesFor"), (0, u "(I)[B"), (0, .methodref 12 112), (0, .nameAndType 113 114), (0, u "putChar"), (0, u "([BII)V"), (0, .methodref 12 116), (0, .nameAndType 117 118), (0, u "compress"), (0, u "([CI[BII)I"), (0, .methodref 12 120), (0, .nameAndType 121 122), (0, u "toBytes"), (0, u "([CII)[B"), (138, u "coderFromArrayLen"), (0, u "([BI)B"), (106, .class_ 371), (1, u "java/lang/StringUTF16$LinesSpliterator"), (20, u "charAt"), (21, .methodref 3 415), (0, .nameAndType 69 416), (0, u "(II)V"), (13, u "MAX_LENGTH"), (196, .class_ 628), (0, u "java/lang/StringUTF16$CodePointsSpliterator"), (0, .class_ 630), (0, u "java/lang/StringUTF16$CharsSpliterator")] 4

def k9m0 : Method := { name := "<init>", desc := "()V", sig := { parameters := [], returnType := none }, accessFlags := 0, code := none }
def k9c1 : Code := { maxStack := 1, maxLocals := 1, code := jdk_52_method_2_code, exceptionTable := #[], attributes := #[] }
def k9m1 : Method := { name := "newBytesFor", desc := "(I)[B", sig := { parameters := [.int], returnType := some (.array .byte) }, accessFlags := 9, code := some k9c1 }
def k9c2 : Code := { maxStack := 4, maxLocals := 1, code := jdk_52_method_3_code, exceptionTable := #[], attributes := #[] }
def k9m2 : Method := { name := "newBytesLength", desc := "(I)I", sig := { parameters := [.int], returnType := some .int }, accessFlags := 9, code := some k9c2 }
def k9c3 : Code := { maxStack := 4, maxLocals := 3, code := jdk_52_method_4_code, exceptionTable := #[], attributes := #[] }
def k9m3 : Method := { name := "putChar", desc := "([BII)V", sig := { parameters := [(.array .byte), .int, .int], returnType := none }, accessFlags := 8, code := some k9c3 }
def k9c4 : Code := { maxStack := 3, maxLocals := 2, code := jdk_52_method_5_code, exceptionTable := #[], attributes := #[] }
def k9m4 : Method := { name := "getChar", desc := "([BI)C", sig := { parameters := [(.array .byte), .int], returnType := some .char }, accessFlags := 8, code := some k9c4 }
def k9c5 : Code := { maxStack := 2, maxLocals := 1, code := jdk_52_method_6_code, exceptionTable := #[], attributes := #[] }
def k9m5 : Method := { name := "length", desc := "([B)I", sig := { parameters := [(.array .byte)], returnType := some .int }, accessFlags := 9, code := some k9c5 }
def k9c6 : Code := { maxStack := 4, maxLocals := 5, code := jdk_52_method_14_code, exceptionTable := #[], attributes := #[] }
def k9m6 : Method := { name := "toBytes", desc := "([CII)[B", sig := { parameters := [(.array .char), .int, .int], returnType := some (.array .byte) }, accessFlags := 9, code := some k9c6 }
def k9c7 : Code := { maxStack := 2, maxLocals := 2, code := jdk_52_method_15_code, exceptionTable := #[], attributes := #[] }
def k9m7 : Method := { name := "coderFromArrayLen", desc := "([BI)B", sig := { parameters := [(.array .byte), .int], returnType := some .byte }, accessFlags := 8, code := some k9c7 }
def k9c8 : Code := { maxStack := 5, maxLocals := 6, code := jdk_52_method_16_code, exceptionTable := #[], attributes := #[] }
def k9m8 : Method := { name := "compress", desc := "([CII)[B", sig := { parameters := [(.array .char), .int, .int], returnType := some (.array .byte) }, accessFlags := 9, code := some k9c8 }
def k9c9 : Code := { maxStack := 3, maxLocals := 7, code := jdk_52_method_21_code, exceptionTable := #[], attributes := #[] }
def k9m9 : Method := { name := "compress", desc := "([CI[BII)I", sig := { parameters := [(.array .char), .int, (.array .byte), .int, .int], returnType := some .int }, accessFlags := 9, code := some k9c9 }
def k9c10 : Code := { maxStack := 2, maxLocals := 2, code := jdk_52_method_83_code, exceptionTable := #[], attributes := #[] }
def k9m10 : Method := { name := "charAt", desc := "([BI)C", sig := { parameters := [(.array .byte), .int], returnType := some .char }, accessFlags := 9, code := some k9c10 }
def k9c11 : Code := { maxStack := 2, maxLocals := 2, code := jdk_52_method_91_code, exceptionTable := #[], attributes := #[] }
def k9m11 : Method := { name := "checkIndex", desc := "(I[B)V", sig := { parameters := [.int, (.array .byte)], returnType := none }, accessFlags := 9, code := some k9c11 }
/-- java/lang/StringUTF16 -/
def k9 : Class := { plain "java/lang/StringUTF16" (some 0) with
  accessFlags := 48
  interfaces := #[]
  cf := some (fileOf pool9 12 #[.nestMembers #[627, 629, 369]] #[{ accessFlags := 0, nameIndex := 9, descriptorIndex := 10, attributes := #[] }, { accessFlags := 9, nameIndex := 109, descriptorIndex := 110, attributes := #[] }, { accessFlags := 9, nameIndex := 15, descriptorIndex := 16, attributes := #[] }, { accessFlags := 8, nameIndex := 113, descriptorIndex := 114, attributes := #[] }, { accessFlags := 8, nameIndex := 73, descriptorIndex := 74, attributes := #[] }, { accessFlags := 9, nameIndex := 50, descriptorIndex := 51, attributes := #[] }, { accessFlags := 9, nameIndex := 121, descriptorIndex := 122, attributes := #[] }, { accessFlags := 8, nameIndex := 261, descriptorIndex := 262, attributes := #[] }, { accessFlags := 9, nameIndex := 117, descriptorIndex := 122, attributes := #[] }, { accessFlags := 9, nameIndex := 117, descriptorIndex := 118, attributes := #[] }, { accessFlags := 9, nameIndex := 392, descriptorIndex := 74, attributes := #[] }, { accessFlags := 9, nameIndex := 69, descriptorIndex := 70, attributes := #[] }] 48 6 #[] #[{ accessFlags := 26, nameIndex := 61, descriptorIndex := 62, attributes := #[] }, { accessFlags := 26, nameIndex := 65, descriptorIndex := 62, attributes := #[] }, { accessFlags := 24, nameIndex := 430, descriptorIndex := 62, attributes := #[] }, { accessFlags := 4120, nameIndex := 46, descriptorIndex := 47, attributes := #[] }])
  fields := #[{ name := "HI_BYTE_SHIFT", type := .int, accessFlags := 26, slot := 0, constantValue := 0 }, { name := "LO_BYTE_SHIFT", type := .int, accessFlags := 26, slot := 1, constantValue := 0 }, { name := "MAX_LENGTH", type := .int, accessFlags := 24, slot := 2, constantValue := 0 }, { name := "$assertionsDisabled", type := .boolean, accessFlags := 4120, slot := 3, constantValue := 0 }]
  methods := #[k9m0, k9m1, k9m2, k9m3, k9m4, k9m5, k9m6, k9m7, k9m8, k9m9, k9m10, k9m11]
  instanceTypes := #[]
  staticTypes := #[.int, .int, .int, .boolean]
  resolved := Array.replicate 635 none
  statics := some 1 }

def pool10 : Array CpInfo := pool [(1, .class_ 2), (0, u "java/lang/String"), (1, .class_ 6), (1, u "java/lang/Object"), (0, u "<init>"), (0, u "()V"), (0, .methodref 1 10), (0, .nameAndType 11 12), (0, u "checkIndex"), (0, u "(II)V"), (1, .class_ 16), (1, u "java/lang/StringLatin1"), (36, u "([BI)C"), (67, u "$assertionsDisabled"), (0, u "Z"), (98, .class_ 223), (1, u "java/lang/StringLatin1$LinesSpliterator"), (28, u "charAt"), (137, .class_ 391), (0, u "java/lang/StringLatin1$CharsSpliterator")] 3

def k10m0 : Method := { name := "<init>", desc := "()V", sig := { parameters := [], returnType := none }, accessFlags := 0, code := none }
def k10c1 : Code := { maxStack := 2, maxLocals := 2, code := jdk_43_method_2_code, exceptionTable := #[], attributes := #[] }
def k10m1 : Method := { name := "charAt", desc := "([BI)C", sig := { parameters := [(.array .byte), .int], returnType := some .char }, accessFlags := 9, code := some k10c1 }
/-- java/lang/StringLatin1 -/
def k10 : Class := { plain "java/lang/StringLatin1" (some 0) with
  accessFlags := 48
  interfaces := #[]
  cf := some (fileOf pool10 14 #[.nestMembers #[390, 221]] #[{ accessFlags := 0, nameIndex := 7, descriptorIndex := 8, attributes := #[] }, { accessFlags := 9, nameIndex := 252, descriptorIndex := 53, attributes := #[] }] 48 4 #[] #[{ accessFlags := 4120, nameIndex := 121, descriptorIndex := 122, attributes := #[] }])
  fields := #[{ name := "$assertionsDisabled", type := .boolean, accessFlags := 4120, slot := 0, constantValue := 0 }]
  methods := #[k10m0, k10m1]
  instanceTypes := #[]
  staticTypes := #[.boolean]
  resolved := Array.replicate 395 none
  statics := none }

def pool11 : Array CpInfo := pool [(2, .class_ 4), (1, u "java/lang/Object"), (0, u "<init>"), (0, u "()V"), (17, .class_ 26), (1, u "jdk/internal/util/Preconditions"), (6, u "checkIndex"), (21, .class_ 56), (0, u "jdk/internal/util/Preconditions$4"), (57, .class_ 115), (0, u "jdk/internal/util/Preconditions$1"), (7, u "SIOOBE_FORMATTER"), (0, u "Ljava/util/function/BiFunction;"), (0, .class_ 126), (0, u "jdk/internal/util/Preconditions$2"), (3, u "AIOOBE_FORMATTER"), (0, .class_ 132), (0, u "jdk/internal/util/Preconditions$3"), (3, u "IOOBE_FORMATTER"), (41, u "(IILjava/util/function/BiFunction;)I")] 15

def k11m0 : Method := { name := "<init>", desc := "()V", sig := { parameters := [], returnType := none }, accessFlags := 1, code := none }
def k11c1 : Code := { maxStack := 3, maxLocals := 3, code := jdk_41_method_11_code, exceptionTable := #[], attributes := #[] }
def k11m1 : Method := { name := "checkIndex", desc := "(IILjava/util/function/BiFunction;)I", sig := { parameters := [.int, .int, (.object "java/util/function/BiFunction")], returnType := some .int }, accessFlags := 9, code := some k11c1 }
/-- jdk/internal/util/Preconditions -/
def k11 : Class := { plain "jdk/internal/util/Preconditions" (some 0) with
  accessFlags := 33
  interfaces := #[]
  cf := some (fileOf pool11 24 #[.nestMembers #[55, 131, 125, 114]] #[{ accessFlags := 1, nameIndex := 5, descriptorIndex := 6, attributes := #[] }, { accessFlags := 9, nameIndex := 33, descriptorIndex := 178, attributes := #[] }] 33 2 #[] #[{ accessFlags := 25, nameIndex := 123, descriptorIndex := 124, attributes := #[] }, { accessFlags := 25, nameIndex := 130, descriptorIndex := 124, attributes := #[] }, { accessFlags := 25, nameIndex := 136, descriptorIndex := 124, attributes := #[] }])
  fields := #[{ name := "SIOOBE_FORMATTER", type := (.object "java/util/function/BiFunction"), accessFlags := 25, slot := 0, constantValue := 0 }, { name := "AIOOBE_FORMATTER", type := (.object "java/util/function/BiFunction"), accessFlags := 25, slot := 1, constantValue := 0 }, { name := "IOOBE_FORMATTER", type := (.object "java/util/function/BiFunction"), accessFlags := 25, slot := 2, constantValue := 0 }]
  methods := #[k11m0, k11m1]
  instanceTypes := #[]
  staticTypes := #[(.object "java/util/function/BiFunction"), (.object "java/util/function/BiFunction"), (.object "java/util/function/BiFunction")]
  resolved := Array.replicate 194 none
  statics := some 2 }

def pool12 : Array CpInfo := pool [(9, u "<init>"), (6, .class_ 18), (1, u "java/lang/Object"), (0, u "()V"), (1, .class_ 23), (1, u "jdk/internal/util/ArraysSupport"), (0, u "LOG2_ARRAY_LONG_INDEX_SCALE"), (0, u "I"), (2, u "U"), (0, u "Ljdk/internal/misc/Unsafe;"), (8, u "BIG_ENDIAN"), (0, u "Z"), (8, u "LOG2_BYTE_BIT_SIZE"), (4, u "LOG2_ARRAY_INT_INDEX_SCALE"), (54, u "JLA"), (0, u "Ljdk/internal/access/JavaLangAccess;"), (11, u "LOG2_ARRAY_BOOLEAN_INDEX_SCALE"), (9, u "LOG2_ARRAY_BYTE_INDEX_SCALE"), (5, u "LOG2_ARRAY_CHAR_INDEX_SCALE"), (5, u "LOG2_ARRAY_SHORT_INDEX_SCALE"), (18, u "LOG2_ARRAY_FLOAT_INDEX_SCALE"), (24, u "LOG2_ARRAY_DOUBLE_INDEX_SCALE"), (89, u "T_BOOLEAN"), (2, u "T_CHAR"), (1, u "T_FLOAT"), (1, u "T_DOUBLE"), (1, u "T_BYTE"), (1, u "T_SHORT"), (1, u "T_INT"), (1, u "T_LONG"), (1, u "SOFT_MAX_ARRAY_LENGTH")] 83

def k12m0 : Method := { name := "<init>", desc := "()V", sig := { parameters := [], returnType := none }, accessFlags := 2, code := none }
/-- jdk/internal/util/ArraysSupport -/
def k12 : Class := { plain "jdk/internal/util/ArraysSupport" (some 0) with
  accessFlags := 33
  interfaces := #[]
  cf := some (fileOf pool12 21 #[] #[{ accessFlags := 2, nameIndex := 9, descriptorIndex := 19, attributes := #[] }] 33 16 #[] #[{ accessFlags := 24, nameIndex := 28, descriptorIndex := 29, attributes := #[] }, { accessFlags := 26, nameIndex := 38, descriptorIndex := 39, attributes := #[] }, { accessFlags := 25, nameIndex := 121, descriptorIndex := 25, attributes := #[] }, { accessFlags := 25, nameIndex := 131, descriptorIndex := 25, attributes := #[] }, { accessFlags := 25, nameIndex := 137, descriptorIndex := 25, attributes := #[] }, { accessFlags := 25, nameIndex := 143, descriptorIndex := 25, attributes := #[] }, { accessFlags := 25, nameIndex := 53, descriptorIndex := 25, attributes := #[] }, { accessFlags := 25, nameIndex := 24, descriptorIndex := 25, attributes := #[] }, { accessFlags := 25, nameIndex := 162, descriptorIndex := 25, attributes := #[] }, { accessFlags := 25, nameIndex := 187, descriptorIndex := 25, attributes := #[] }, { accessFlags := 26, nameIndex := 48, descriptorIndex := 25, attributes := #[] }, { accessFlags := 25, nameIndex := 277, descriptorIndex := 25, attributes := #[] }, { accessFlags := 25, nameIndex := 280, descriptorIndex := 25, attributes := #[] }, { accessFlags := 25, nameIndex := 282, descriptorIndex := 25, attributes := #[] }, { accessFlags := 25, nameIndex := 284, descriptorIndex := 25, attributes := #[] }, { accessFlags := 25, nameIndex := 286, descriptorIndex := 25, attributes := #[] }, { accessFlags := 25, nameIndex := 288, descriptorIndex := 25, attributes := #[] }, { accessFlags := 25, nameIndex := 290, descriptorIndex := 25, attributes := #[] }, { accessFlags := 25, nameIndex := 292, descriptorIndex := 25, attributes := #[] }, { accessFlags := 26, nameIndex := 108, descriptorIndex := 109, attributes := #[] }, { accessFlags := 25, nameIndex := 294, descriptorIndex := 25, attributes := #[] }])
  fields := #[{ name := "U", type := (.object "jdk/internal/misc/Unsafe"), accessFlags := 24, slot := 0, constantValue := 0 }, { name := "BIG_ENDIAN", type := .boolean, accessFlags := 26, slot := 1, constantValue := 0 }, { name := "LOG2_ARRAY_BOOLEAN_INDEX_SCALE", type := .int, accessFlags := 25, slot := 2, constantValue := 0 }, { name := "LOG2_ARRAY_BYTE_INDEX_SCALE", type := .int, accessFlags := 25, slot := 3, constantValue := 0 }, { name := "LOG2_ARRAY_CHAR_INDEX_SCALE", type := .int, accessFlags := 25, slot := 4, constantValue := 0 }, { name := "LOG2_ARRAY_SHORT_INDEX_SCALE", type := .int, accessFlags := 25, slot := 5, constantValue := 0 }, { name := "LOG2_ARRAY_INT_INDEX_SCALE", type := .int, accessFlags := 25, slot := 6, constantValue := 0 }, { name := "LOG2_ARRAY_LONG_INDEX_SCALE", type := .int, accessFlags := 25, slot := 7, constantValue := 0 }, { name := "LOG2_ARRAY_FLOAT_INDEX_SCALE", type := .int, accessFlags := 25, slot := 8, constantValue := 0 }, { name := "LOG2_ARRAY_DOUBLE_INDEX_SCALE", type := .int, accessFlags := 25, slot := 9, constantValue := 0 }, { name := "LOG2_BYTE_BIT_SIZE", type := .int, accessFlags := 26, slot := 10, constantValue := 0 }, { name := "T_BOOLEAN", type := .int, accessFlags := 25, slot := 11, constantValue := 0 }, { name := "T_CHAR", type := .int, accessFlags := 25, slot := 12, constantValue := 0 }, { name := "T_FLOAT", type := .int, accessFlags := 25, slot := 13, constantValue := 0 }, { name := "T_DOUBLE", type := .int, accessFlags := 25, slot := 14, constantValue := 0 }, { name := "T_BYTE", type := .int, accessFlags := 25, slot := 15, constantValue := 0 }, { name := "T_SHORT", type := .int, accessFlags := 25, slot := 16, constantValue := 0 }, { name := "T_INT", type := .int, accessFlags := 25, slot := 17, constantValue := 0 }, { name := "T_LONG", type := .int, accessFlags := 25, slot := 18, constantValue := 0 }, { name := "JLA", type := (.object "jdk/internal/access/JavaLangAccess"), accessFlags := 26, slot := 19, constantValue := 0 }, { name := "SOFT_MAX_ARRAY_LENGTH", type := .int, accessFlags := 25, slot := 20, constantValue := 0 }]
  methods := #[k12m0]
  instanceTypes := #[]
  staticTypes := #[(.object "jdk/internal/misc/Unsafe"), .boolean, .int, .int, .int, .int, .int, .int, .int, .int, .int, .int, .int, .int, .int, .int, .int, .int, .int, (.object "jdk/internal/access/JavaLangAccess"), .int]
  resolved := Array.replicate 378 none
  statics := none }

def pool13 : Array CpInfo := pool [(1, u "java/lang/Cloneable"), (0, .class_ 1), (0, u "java/lang/Object"), (0, .class_ 3)] 3

/-- java/lang/Cloneable -/
def k13 : Class := { plain "java/lang/Cloneable" (some 0) with
  accessFlags := 1537
  interfaces := #[]
  cf := some (fileOf pool13 2 #[] #[] 1537 4 #[] #[])
  fields := #[]
  methods := #[]
  instanceTypes := #[]
  staticTypes := #[]
  resolved := Array.replicate 8 none
  statics := none }

/-- the primitive byte -/
def k14 : Class := { plain "byte" none with kind := .primitive 'B', accessFlags := 0x411 }
/-- [B -/
def k15 : Class := { plain "[B" (some 0) with kind := .array 14 .byte, interfaces := #[13, 2], accessFlags := 1041 }

/-- the primitive char -/
def k16 : Class := { plain "char" none with kind := .primitive 'C', accessFlags := 0x411 }
/-- [C -/
def k17 : Class := { plain "[C" (some 0) with kind := .array 16 .char, interfaces := #[13, 2], accessFlags := 1041 }

/-- the primitive int -/
def k18 : Class := { plain "int" none with kind := .primitive 'I', accessFlags := 0x411 }
/-- [I -/
def k19 : Class := { plain "[I" (some 0) with kind := .array 18 .int, interfaces := #[13, 2], accessFlags := 1041 }

def heap : Heap := #[{ cls := 7, slots := #[.long 0, .int 1, .null, .int 0, .null, .int 0, .int 0], vm := .statics 7 },
  { cls := 9, slots := #[.int 0, .int 8, .int 0, .int 1], vm := .statics 9 },
  { cls := 11, slots := #[.null, .null, .null], vm := .statics 11 }]
def classes : Array Class := #[k0, k1, k2, k3, k4, k5, k6, k7, k8, k9, k10, k11, k12, k13, k14, k15, k16, k17, k18, k19]
def interned : List (Array UInt16 × Addr) := []
def slotsUsed : Nat := 14
def theMethod : MethodId := ⟨1, 1⟩
def args0 : Array Value := #[.int 3, .int 49, .int 50, .int 51, .int 52]
def aboutOver (below : List Frame) : State where
  vm := { classes := classes, interned := interned.toArray }
  heap := heap
  slotsUsed := slotsUsed
  threads := #[{ frames := .invoking theMethod args0 :: below }]
def below0 : List Frame := [.native { method := ⟨0, 0⟩, args := #[] }]
def about1 : State := aboutOver below0
def p0 : Program := .bare "" "" ""
def e0 : Env := launch0.env 0 0 0
theorem w_frames : about1.frames = Frame.invoking theMethod args0 :: below0 := rfl
set_option maxRecDepth 65536 in
theorem w_args : argsFit about1.vm theMethod args0 = true := by decide +kernel
set_option maxRecDepth 65536 in
theorem w_heap : heapFits about1 = true := by decide +kernel
set_option maxRecDepth 65536 in
theorem w_runnable : about1.curStatus? = some .runnable := by decide +kernel
set_option maxRecDepth 65536 in
theorem w_alone : about1.alone = true := by decide +kernel
set_option maxRecDepth 65536 in
theorem w_named : about1.methodNamed? x = some theMethod := by decide +kernel
set_option maxRecDepth 65536 in
theorem w_hears : about1.hears theMethod below0 = true := by decide +kernel
set_option maxRecDepth 65536 in
theorem w_ripe : about1.ripe theMethod args0 below0 = true := by decide +kernel
theorem w_running : about1.status = .running := rfl
set_option maxRecDepth 65536 in
theorem w_room : about1.hasRoom e0.platform room_1 = true :=
  launch0.hasRoom_least _ room_1 (by decide +kernel) (by decide +kernel) (by decide +kernel) (by decide +kernel) (by decide +kernel) (by decide +kernel)
theorem allAtoms_all (ts : List Jvm.Cond) (a : Array Jvm.Value) (st : Jvm.State) : (allAtoms ts).before a st = ts.all (fun c => c.before a st) := by
  induction ts with
  | nil => rfl
  | cons c t ih =>
    show (Jvm.Cond.and c (allAtoms t)).before a st = _
    rw [Jvm.Cond.before_and, ih, List.all_cons]
def words1 : List Jvm.Cond := Jvm.Cond.code x code maxLocals ret :: tables_1
/-- a 'code' word, met by the world's own term for the bytes: nothing is compared byte by byte -/
theorem code_word {y : MethodName} {bytes : ByteArray} {mx : Nat} {rt : Option FieldType} {a : Array Value} {s : State} {m : MethodId} {meth : Method} {c : Code} (h1 : s.methodNamed? y = some m) (h2 : s.vm.method? m = some meth) (h3 : meth.code = some c) (h4 : c.code = bytes)
    (h5 : (c.maxLocals == mx && c.exceptionTable.isEmpty && decide (c.maxStack ≤ mostOperands) && decide (meth.sig.returnType = rt) && !meth.locks && decide (parseMethodDescriptor y.desc = some meth.sig)) = true) : (Jvm.Cond.code y bytes mx rt).before a s = true := by
  simp only [Bool.and_eq_true, beq_iff_eq, Bool.not_eq_true', decide_eq_true_eq] at h5
  obtain ⟨⟨⟨⟨⟨g1, g2⟩, g3⟩, g4⟩, g5⟩, g6⟩ := h5
  simp [Cond.before, Cond.holds, Cond.value, h1, h2, h3, h4, g1, g2, g3, g4, g5, g6]
def isCode : Jvm.Cond → Bool
  | .code _ _ _ _ => true
  | _ => false
theorem all_split {L : List Jvm.Cond} {P : Jvm.Cond → Bool} (h1 : L.all (fun c => isCode c || P c) = true) (h2 : ∀ c ∈ L.filter isCode, P c = true) : L.all P = true := by
  refine List.all_eq_true.mpr fun c hc => ?_
  have h := List.all_eq_true.mp h1 c hc
  rcases Bool.eq_false_or_eq_true (isCode c) with hi | hi
  · exact h2 c (List.mem_filter.mpr ⟨hc, hi⟩)
  · simpa [hi] using h
set_option maxRecDepth 65536 in
theorem w_c0 : (Jvm.Cond.code x code maxLocals ret).before args0 about1 = true := code_word (m := ⟨1, 1⟩) (meth := k1m1) (c := k1c1) (by decide +kernel) rfl rfl rfl (by decide +kernel)
set_option maxRecDepth 65536 in
theorem w_c1 : (Jvm.Cond.code ({ cls := "java/lang/String", name := "<init>", desc := "([C)V" } : Jvm.MethodName) jdk_42_method_3_code (2 : Nat) (Option.none : Option Jvm.ClassFile.FieldType)).before args0 about1 = true := code_word (m := ⟨7, 1⟩) (meth := k7m1) (c := k7c1) (by decide +kernel) rfl rfl rfl (by decide +kernel)
set_option maxRecDepth 65536 in
theorem w_c2 : (Jvm.Cond.code ({ cls := "java/lang/String", name := "<init>", desc := "([CIILjava/lang/Void;)V" } : Jvm.MethodName) jdk_42_method_149_code (6 : Nat) (Option.none : Option Jvm.ClassFile.FieldType)).before args0 about1 = true := code_word (m := ⟨7, 5⟩) (meth := k7m5) (c := k7c5) (by decide +kernel) rfl rfl rfl (by decide +kernel)
set_option maxRecDepth 65536 in
theorem w_c3 : (Jvm.Cond.code ({ cls := "java/lang/Object", name := "<init>", desc := "()V" } : Jvm.MethodName) object_method_1_code (1 : Nat) (Option.none : Option Jvm.ClassFile.FieldType)).before args0 about1 = true := code_word (m := ⟨0, 0⟩) (meth := k0m0) (c := k0c0) (by decide +kernel) rfl rfl rfl (by decide +kernel)
set_option maxRecDepth 65536 in
theorem w_c4 : (Jvm.Cond.code ({ cls := "com/example/hulse/hulse/environment/internal/ListIndex", name := "matches", desc := "(Ljava/lang/String;)Z" } : Jvm.MethodName) prog_80_method_2_code (3 : Nat) (Option.some Jvm.ClassFile.FieldType.boolean)).before args0 about1 = true := code_word (m := ⟨8, 1⟩) (meth := k8m1) (c := k8c1) (by decide +kernel) rfl rfl rfl (by decide +kernel)
set_option maxRecDepth 65536 in
theorem w_c5 : (Jvm.Cond.code ({ cls := "java/lang/String", name := "isEmpty", desc := "()Z" } : Jvm.MethodName) jdk_42_method_55_code (1 : Nat) (Option.some Jvm.ClassFile.FieldType.boolean)).before args0 about1 = true := code_word (m := ⟨7, 3⟩) (meth := k7m3) (c := k7c3) (by decide +kernel) rfl rfl rfl (by decide +kernel)
set_option maxRecDepth 65536 in
theorem w_c6 : (Jvm.Cond.code ({ cls := "java/lang/String", name := "length", desc := "()I" } : Jvm.MethodName) jdk_42_method_54_code (1 : Nat) (Option.some Jvm.ClassFile.FieldType.int)).before args0 about1 = true := code_word (m := ⟨7, 2⟩) (meth := k7m2) (c := k7c2) (by decide +kernel) rfl rfl rfl (by decide +kernel)
set_option maxRecDepth 65536 in
theorem w_c7 : (Jvm.Cond.code ({ cls := "java/lang/String", name := "coder", desc := "()B" } : Jvm.MethodName) jdk_42_method_152_code (1 : Nat) (Option.some Jvm.ClassFile.FieldType.byte)).before args0 about1 = true := code_word (m := ⟨7, 6⟩) (meth := k7m6) (c := k7c6) (by decide +kernel) rfl rfl rfl (by decide +kernel)
set_option maxRecDepth 65536 in
theorem w_c8 : (Jvm.Cond.code ({ cls := "java/lang/StringUTF16", name := "compress", desc := "([CII)[B" } : Jvm.MethodName) jdk_52_method_16_code (6 : Nat) (Option.some (Jvm.ClassFile.FieldType.array Jvm.ClassFile.FieldType.byte))).before args0 about1 = true := code_word (m := ⟨9, 8⟩) (meth := k9m8) (c := k9c8) (by decide +kernel) rfl rfl rfl (by decide +kernel)
set_option maxRecDepth 65536 in
theorem w_c9 : (Jvm.Cond.code ({ cls := "java/lang/StringUTF16", name := "compress", desc := "([CI[BII)I" } : Jvm.MethodName) jdk_52_method_21_code (7 : Nat) (Option.some Jvm.ClassFile.FieldType.int)).before args0 about1 = true := code_word (m := ⟨9, 9⟩) (meth := k9m9) (c := k9c9) (by decide +kernel) rfl rfl rfl (by decide +kernel)
set_option maxRecDepth 65536 in
theorem w_c10 : (Jvm.Cond.code ({ cls := "java/lang/StringUTF16", name := "coderFromArrayLen", desc := "([BI)B" } : Jvm.MethodName) jdk_52_method_15_code (2 : Nat) (Option.some Jvm.ClassFile.FieldType.byte)).before args0 about1 = true := code_word (m := ⟨9, 7⟩) (meth := k9m7) (c := k9c7) (by decide +kernel) rfl rfl rfl (by decide +kernel)
set_option maxRecDepth 65536 in
theorem w_c11 : (Jvm.Cond.code ({ cls := "com/example/hulse/hulse/environment/internal/ListIndexMatchesPinLaw", name := "dig", desc := "(C)Z" } : Jvm.MethodName) method_3_code (1 : Nat) (Option.some Jvm.ClassFile.FieldType.boolean)).before args0 about1 = true := code_word (m := ⟨1, 2⟩) (meth := k1m2) (c := k1c2) (by decide +kernel) rfl rfl rfl (by decide +kernel)
set_option maxRecDepth 65536 in
theorem w_c12 : (Jvm.Cond.code ({ cls := "java/lang/String", name := "charAt", desc := "(I)C" } : Jvm.MethodName) jdk_42_method_56_code (2 : Nat) (Option.some Jvm.ClassFile.FieldType.char)).before args0 about1 = true := code_word (m := ⟨7, 4⟩) (meth := k7m4) (c := k7c4) (by decide +kernel) rfl rfl rfl (by decide +kernel)
set_option maxRecDepth 65536 in
theorem w_c13 : (Jvm.Cond.code ({ cls := "java/lang/String", name := "isLatin1", desc := "()Z" } : Jvm.MethodName) jdk_42_method_154_code (1 : Nat) (Option.some Jvm.ClassFile.FieldType.boolean)).before args0 about1 = true := code_word (m := ⟨7, 7⟩) (meth := k7m7) (c := k7c7) (by decide +kernel) rfl rfl rfl (by decide +kernel)
set_option maxRecDepth 65536 in
theorem w_c14 : (Jvm.Cond.code ({ cls := "java/lang/StringLatin1", name := "charAt", desc := "([BI)C" } : Jvm.MethodName) jdk_43_method_2_code (2 : Nat) (Option.some Jvm.ClassFile.FieldType.char)).before args0 about1 = true := code_word (m := ⟨10, 1⟩) (meth := k10m1) (c := k10c1) (by decide +kernel) rfl rfl rfl (by decide +kernel)
set_option maxRecDepth 65536 in
theorem w_c15 : (Jvm.Cond.code ({ cls := "java/lang/String", name := "checkIndex", desc := "(II)V" } : Jvm.MethodName) jdk_42_method_155_code (2 : Nat) (Option.none : Option Jvm.ClassFile.FieldType)).before args0 about1 = true := code_word (m := ⟨7, 8⟩) (meth := k7m8) (c := k7c8) (by decide +kernel) rfl rfl rfl (by decide +kernel)
set_option maxRecDepth 65536 in
theorem w_c16 : (Jvm.Cond.code ({ cls := "jdk/internal/util/Preconditions", name := "checkIndex", desc := "(IILjava/util/function/BiFunction;)I" } : Jvm.MethodName) jdk_41_method_11_code (3 : Nat) (Option.some Jvm.ClassFile.FieldType.int)).before args0 about1 = true := code_word (m := ⟨11, 1⟩) (meth := k11m1) (c := k11c1) (by decide +kernel) rfl rfl rfl (by decide +kernel)
set_option maxRecDepth 65536 in
theorem w_c17 : (Jvm.Cond.code ({ cls := "java/lang/StringUTF16", name := "toBytes", desc := "([CII)[B" } : Jvm.MethodName) jdk_52_method_14_code (5 : Nat) (Option.some (Jvm.ClassFile.FieldType.array Jvm.ClassFile.FieldType.byte))).before args0 about1 = true := code_word (m := ⟨9, 6⟩) (meth := k9m6) (c := k9c6) (by decide +kernel) rfl rfl rfl (by decide +kernel)
set_option maxRecDepth 65536 in
theorem w_c18 : (Jvm.Cond.code ({ cls := "java/lang/StringUTF16", name := "newBytesFor", desc := "(I)[B" } : Jvm.MethodName) jdk_52_method_2_code (1 : Nat) (Option.some (Jvm.ClassFile.FieldType.array Jvm.ClassFile.FieldType.byte))).before args0 about1 = true := code_word (m := ⟨9, 1⟩) (meth := k9m1) (c := k9c1) (by decide +kernel) rfl rfl rfl (by decide +kernel)
set_option maxRecDepth 65536 in
theorem w_c19 : (Jvm.Cond.code ({ cls := "java/lang/StringUTF16", name := "newBytesLength", desc := "(I)I" } : Jvm.MethodName) jdk_52_method_3_code (1 : Nat) (Option.some Jvm.ClassFile.FieldType.int)).before args0 about1 = true := code_word (m := ⟨9, 2⟩) (meth := k9m2) (c := k9c2) (by decide +kernel) rfl rfl rfl (by decide +kernel)
set_option maxRecDepth 65536 in
theorem w_c20 : (Jvm.Cond.code ({ cls := "java/lang/StringUTF16", name := "putChar", desc := "([BII)V" } : Jvm.MethodName) jdk_52_method_4_code (3 : Nat) (Option.none : Option Jvm.ClassFile.FieldType)).before args0 about1 = true := code_word (m := ⟨9, 3⟩) (meth := k9m3) (c := k9c3) (by decide +kernel) rfl rfl rfl (by decide +kernel)
set_option maxRecDepth 65536 in
theorem w_c21 : (Jvm.Cond.code ({ cls := "java/lang/StringUTF16", name := "getChar", desc := "([BI)C" } : Jvm.MethodName) jdk_52_method_5_code (2 : Nat) (Option.some Jvm.ClassFile.FieldType.char)).before args0 about1 = true := code_word (m := ⟨9, 4⟩) (meth := k9m4) (c := k9c4) (by decide +kernel) rfl rfl rfl (by decide +kernel)
set_option maxRecDepth 65536 in
theorem w_c22 : (Jvm.Cond.code ({ cls := "java/lang/StringUTF16", name := "charAt", desc := "([BI)C" } : Jvm.MethodName) jdk_52_method_83_code (2 : Nat) (Option.some Jvm.ClassFile.FieldType.char)).before args0 about1 = true := code_word (m := ⟨9, 10⟩) (meth := k9m10) (c := k9c10) (by decide +kernel) rfl rfl rfl (by decide +kernel)
set_option maxRecDepth 65536 in
theorem w_c23 : (Jvm.Cond.code ({ cls := "java/lang/StringUTF16", name := "checkIndex", desc := "(I[B)V" } : Jvm.MethodName) jdk_52_method_91_code (2 : Nat) (Option.none : Option Jvm.ClassFile.FieldType)).before args0 about1 = true := code_word (m := ⟨9, 11⟩) (meth := k9m11) (c := k9c11) (by decide +kernel) rfl rfl rfl (by decide +kernel)
set_option maxRecDepth 65536 in
theorem w_c24 : (Jvm.Cond.code ({ cls := "java/lang/StringUTF16", name := "length", desc := "([B)I" } : Jvm.MethodName) jdk_52_method_6_code (1 : Nat) (Option.some Jvm.ClassFile.FieldType.int)).before args0 about1 = true := code_word (m := ⟨9, 5⟩) (meth := k9m5) (c := k9c5) (by decide +kernel) rfl rfl rfl (by decide +kernel)
def codes1 : List Jvm.Cond := [Jvm.Cond.code x code maxLocals ret, Jvm.Cond.code ({ cls := "java/lang/String", name := "<init>", desc := "([C)V" } : Jvm.MethodName) jdk_42_method_3_code (2 : Nat) (Option.none : Option Jvm.ClassFile.FieldType), Jvm.Cond.code ({ cls := "java/lang/String", name := "<init>", desc := "([CIILjava/lang/Void;)V" } : Jvm.MethodName) jdk_42_method_149_code (6 : Nat) (Option.none : Option Jvm.ClassFile.FieldType), Jvm.Cond.code ({ cls := "java/lang/Object", name := "<init>", desc := "()V" } : Jvm.MethodName) object_method_1_code (1 : Nat) (Option.none : Option Jvm.ClassFile.FieldType), Jvm.Cond.code ({ cls := "com/example/hulse/hulse/environment/internal/ListIndex", name := "matches", desc := "(Ljava/lang/String;)Z" } : Jvm.MethodName) prog_80_method_2_code (3 : Nat) (Option.some Jvm.ClassFile.FieldType.boolean), Jvm.Cond.code ({ cls := "java/lang/String", name := "isEmpty", desc := "()Z" } : Jvm.MethodName) jdk_42_method_55_code (1 : Nat) (Option.some Jvm.ClassFile.FieldType.boolean), Jvm.Cond.code ({ cls := "java/lang/String", name := "length", desc := "()I" } : Jvm.MethodName) jdk_42_method_54_code (1 : Nat) (Option.some Jvm.ClassFile.FieldType.int), Jvm.Cond.code ({ cls := "java/lang/String", name := "coder", desc := "()B" } : Jvm.MethodName) jdk_42_method_152_code (1 : Nat) (Option.some Jvm.ClassFile.FieldType.byte), Jvm.Cond.code ({ cls := "java/lang/StringUTF16", name := "compress", desc := "([CII)[B" } : Jvm.MethodName) jdk_52_method_16_code (6 : Nat) (Option.some (Jvm.ClassFile.FieldType.array Jvm.ClassFile.FieldType.byte)), Jvm.Cond.code ({ cls := "java/lang/StringUTF16", name := "compress", desc := "([CI[BII)I" } : Jvm.MethodName) jdk_52_method_21_code (7 : Nat) (Option.some Jvm.ClassFile.FieldType.int), Jvm.Cond.code ({ cls := "java/lang/StringUTF16", name := "coderFromArrayLen", desc := "([BI)B" } : Jvm.MethodName) jdk_52_method_15_code (2 : Nat) (Option.some Jvm.ClassFile.FieldType.byte), Jvm.Cond.code ({ cls := "com/example/hulse/hulse/environment/internal/ListIndexMatchesPinLaw", name := "dig", desc := "(C)Z" } : Jvm.MethodName) method_3_code (1 : Nat) (Option.some Jvm.ClassFile.FieldType.boolean), Jvm.Cond.code ({ cls := "java/lang/String", name := "charAt", desc := "(I)C" } : Jvm.MethodName) jdk_42_method_56_code (2 : Nat) (Option.some Jvm.ClassFile.FieldType.char), Jvm.Cond.code ({ cls := "java/lang/String", name := "isLatin1", desc := "()Z" } : Jvm.MethodName) jdk_42_method_154_code (1 : Nat) (Option.some Jvm.ClassFile.FieldType.boolean), Jvm.Cond.code ({ cls := "java/lang/StringLatin1", name := "charAt", desc := "([BI)C" } : Jvm.MethodName) jdk_43_method_2_code (2 : Nat) (Option.some Jvm.ClassFile.FieldType.char), Jvm.Cond.code ({ cls := "java/lang/String", name := "checkIndex", desc := "(II)V" } : Jvm.MethodName) jdk_42_method_155_code (2 : Nat) (Option.none : Option Jvm.ClassFile.FieldType), Jvm.Cond.code ({ cls := "jdk/internal/util/Preconditions", name := "checkIndex", desc := "(IILjava/util/function/BiFunction;)I" } : Jvm.MethodName) jdk_41_method_11_code (3 : Nat) (Option.some Jvm.ClassFile.FieldType.int), Jvm.Cond.code ({ cls := "java/lang/StringUTF16", name := "toBytes", desc := "([CII)[B" } : Jvm.MethodName) jdk_52_method_14_code (5 : Nat) (Option.some (Jvm.ClassFile.FieldType.array Jvm.ClassFile.FieldType.byte)), Jvm.Cond.code ({ cls := "java/lang/StringUTF16", name := "newBytesFor", desc := "(I)[B" } : Jvm.MethodName) jdk_52_method_2_code (1 : Nat) (Option.some (Jvm.ClassFile.FieldType.array Jvm.ClassFile.FieldType.byte)), Jvm.Cond.code ({ cls := "java/lang/StringUTF16", name := "newBytesLength", desc := "(I)I" } : Jvm.MethodName) jdk_52_method_3_code (1 : Nat) (Option.some Jvm.ClassFile.FieldType.int), Jvm.Cond.code ({ cls := "java/lang/StringUTF16", name := "putChar", desc := "([BII)V" } : Jvm.MethodName) jdk_52_method_4_code (3 : Nat) (Option.none : Option Jvm.ClassFile.FieldType), Jvm.Cond.code ({ cls := "java/lang/StringUTF16", name := "getChar", desc := "([BI)C" } : Jvm.MethodName) jdk_52_method_5_code (2 : Nat) (Option.some Jvm.ClassFile.FieldType.char), Jvm.Cond.code ({ cls := "java/lang/StringUTF16", name := "charAt", desc := "([BI)C" } : Jvm.MethodName) jdk_52_method_83_code (2 : Nat) (Option.some Jvm.ClassFile.FieldType.char), Jvm.Cond.code ({ cls := "java/lang/StringUTF16", name := "checkIndex", desc := "(I[B)V" } : Jvm.MethodName) jdk_52_method_91_code (2 : Nat) (Option.none : Option Jvm.ClassFile.FieldType), Jvm.Cond.code ({ cls := "java/lang/StringUTF16", name := "length", desc := "([B)I" } : Jvm.MethodName) jdk_52_method_6_code (1 : Nat) (Option.some Jvm.ClassFile.FieldType.int)]
set_option maxRecDepth 65536 in
theorem codes_eq : words1.filter isCode = codes1 := rfl
theorem w_codes : ∀ c ∈ words1.filter isCode, c.before args0 about1 = true := by
  rw [codes_eq]
  intro c hc
  simp only [codes1, List.mem_cons, List.not_mem_nil, or_false] at hc
  rcases hc with rfl | rfl | rfl | rfl | rfl | rfl | rfl | rfl | rfl | rfl | rfl | rfl | rfl | rfl | rfl | rfl | rfl | rfl | rfl | rfl | rfl | rfl | rfl | rfl | rfl
  · exact w_c0
  · exact w_c1
  · exact w_c2
  · exact w_c3
  · exact w_c4
  · exact w_c5
  · exact w_c6
  · exact w_c7
  · exact w_c8
  · exact w_c9
  · exact w_c10
  · exact w_c11
  · exact w_c12
  · exact w_c13
  · exact w_c14
  · exact w_c15
  · exact w_c16
  · exact w_c17
  · exact w_c18
  · exact w_c19
  · exact w_c20
  · exact w_c21
  · exact w_c22
  · exact w_c23
  · exact w_c24
set_option maxRecDepth 65536 in
theorem w_t1 : (words1.take 24).all (fun c => isCode c || c.before args0 about1) = true := by decide +kernel
set_option maxRecDepth 65536 in
theorem w_t2 : ((words1.drop 24).take 24).all (fun c => isCode c || c.before args0 about1) = true := by decide +kernel
set_option maxRecDepth 65536 in
theorem w_t3 : (((words1.drop 24).drop 24).take 24).all (fun c => isCode c || c.before args0 about1) = true := by decide +kernel
set_option maxRecDepth 65536 in
theorem w_t4 : ((((words1.drop 24).drop 24).drop 24).take 24).all (fun c => isCode c || c.before args0 about1) = true := by decide +kernel
set_option maxRecDepth 65536 in
theorem w_t5 : ((((words1.drop 24).drop 24).drop 24).drop 24).all (fun c => isCode c || c.before args0 about1) = true := by decide +kernel
theorem w_tables : (allAtoms (Jvm.Cond.code x code maxLocals ret :: tables_1)).before args0 about1 = true := by
  rw [allAtoms_all]
  show words1.all (fun c => c.before args0 about1) = true
  refine all_split ?_ w_codes
  rw [← List.take_append_drop 24 words1, List.all_append, w_t1, ← List.take_append_drop 24 (words1.drop 24), List.all_append, w_t2, ← List.take_append_drop 24 ((words1.drop 24).drop 24), List.all_append, w_t3, ← List.take_append_drop 24 (((words1.drop 24).drop 24).drop 24), List.all_append, w_t4, w_t5]
  rfl
set_option maxRecDepth 65536 in
theorem w_rest : rest_1_c.before args0 about1 = true := by decide +kernel
set_option maxRecDepth 65536 in
theorem w_case : (Jvm.Cond.and given_1 narrow_1).before args0 about1 = true := by decide +kernel
set_option maxRecDepth 65536 in
theorem w_consts : constsHeld consts_1 about1 := Jvm.Lit.constsHeldB_iff.mp (by decide +kernel)
theorem w_applies : (headSpec (Jvm.Cond.code x code maxLocals ret :: tables_1) room_1).applies x e0.platform about1 = true :=
  (Spec.applies_iff w_frames).mpr ⟨w_running, w_runnable, w_alone, w_named, w_hears, w_ripe, w_room, w_tables⟩
theorem atStart : AtStart classFile x code maxLocals ret World_1 tables_1 room_1 Calls_1 rest_1 Pre_1 launch0 p0 e0 about1 theMethod args0 below0 :=
  ⟨lists_1, trivial, launch0.admits_env _ _ _, launch0.least_env, fairChoices_fair.cas, fairChoices_fair.clock, w_frames, w_args, w_heap, w_applies, ⟨w_consts, trivial⟩, w_rest, w_case⟩
end start1
theorem witness_1 : WitnessClaimed_1 := ⟨start1.p0, start1.e0, start1.about1, start1.theMethod, start1.args0, start1.below0, start1.atStart⟩
end Jvm.Pilot.@@N@@
